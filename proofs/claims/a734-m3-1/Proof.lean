import JvmDerived
import JvmDerived.Pilot.@@N@@Statement
import JvmDerived.Pilot.@@N@@Code
set_option linter.unusedVariables false
set_option linter.unusedSimpArgs false
namespace Jvm.Own7
open Sem ClassFile Op Lib Jvm.Stand Jvm.Free Jvm.LawKit Jvm.RoadKit
/-! What is known of the heap: a list of entries, each an address and what its cell satisfies; the addresses differ and are all new since the law began. -/
abbrev Ent : Type := Addr × (Cell → Prop)
abbrev FV : Type := String × String × String × Value
def key (Z : State) (f : FV) : Nat := RoadKit.slotOf Z f.1 f.2.1 f.2.2.1
def FldC (Z : State) (c : Cell) (f : FV) : Prop := ∃ (cf : ClassId) (k : Class) (i : Nat) (fd : Field), Z.fieldFound? f.1 f.2.1 f.2.2.1 = some (cf, k, i, fd) ∧ fd.isStatic = false ∧ c.vm ≠ .unknown ∧ c.vm.isStatics = false ∧ Z.vm.assignable c.cls cf = true ∧ c.slots[fd.slot]? = some f.2.2.2
def ExaC (Z : State) (C : String) (c : Cell) : Prop := ∃ k : Class, Z.vm.findClass C = some c.cls ∧ Z.vm.classes[c.cls]? = some k ∧ c.vm.isStatics = false ∧ (k.kind = .ordinary → c.slots.size = k.instanceTypes.size)
def oObj (Z : State) (a : Addr) (C : String) (fs : List FV) : Ent := (a, fun c => ExaC Z C c ∧ (fs.map (key Z)).Nodup ∧ ∀ f ∈ fs, FldC Z c f)
def oArr (Z : State) (a : Addr) (k : ClassId) (ty : FieldType) (vs : List Value) : Ent := (a, fun c => Z.isArrayOf c ty ∧ c.vm ≠ .unknown ∧ c.cls = k ∧ c.slots = vs.toArray ∧ vs.length < 2147483648)
def OKnow (Z : State) (h : Heap) (K : List Ent) : Prop := Ext Z.heap h ∧ (∀ e ∈ K, Z.heap.size ≤ e.1 ∧ ∃ c, h[e.1]? = some c ∧ e.2 c) ∧ (K.map Prod.fst).Nodup
section Kn
variable {Z : State} {h h' : Heap} {K K' F F' rest : List Ent} {a : Addr} {P P' : Cell → Prop} {sl i j : Nat} {v w : Value} {C O n d : String} {fs : List FV} {ty : FieldType} {vs : List Value} {k : ClassId}
theorem OKnow.start (Z : State) : OKnow Z Z.heap [] := ⟨⟨Nat.le_refl _, fun _ _ q => q⟩, fun _ q => absurd q (List.not_mem_nil), List.nodup_nil⟩
theorem OKnow.at (N : OKnow Z h K) (hi : K[i]? = some (a, P)) : Z.heap.size ≤ a ∧ ∃ c, h[a]? = some c ∧ P c := N.2.1 _ (List.mem_of_getElem? hi)
theorem nodup_ne {α : Type} {l : List α} (N : l.Nodup) {i j : Nat} {x y : α} (hi : l[i]? = some x) (hj : l[j]? = some y) (ne : i ≠ j) : x ≠ y := fun e => by
  subst e
  obtain ⟨hi1, hi2⟩ := List.getElem?_eq_some_iff.mp hi
  obtain ⟨hj1, hj2⟩ := List.getElem?_eq_some_iff.mp hj
  have q := List.pairwise_iff_getElem.mp N
  rcases Nat.lt_or_gt_of_ne ne with r | r
  · exact q i j hi1 hj1 r (hi2.trans hj2.symm)
  · exact q j i hj1 hi1 r (hj2.trans hi2.symm)
theorem map_set_same {α β : Type} {f : α → β} {l : List α} {i : Nat} {x y : α} (hi : l[i]? = some x) (e : f y = f x) : (l.set i y).map f = l.map f := by
  apply List.ext_getElem?
  intro j
  simp only [List.getElem?_map, List.getElem?_set]
  by_cases q : i = j
  · subst q
    obtain ⟨h1, h2⟩ := List.getElem?_eq_some_iff.mp hi
    simp [h1, h2, e]
  · simp [q]
theorem OKnow.upd (N : OKnow Z h K) (hi : K[i]? = some (a, P)) (W : Wr h h' a sl v) (hP : ∀ c : Cell, P c → sl < c.slots.size → P' (c.setSlot sl v)) : OKnow Z h' (K.set i (a, P')) := by
  obtain ⟨n1, n2, n3⟩ := N
  have hga : Z.heap.size ≤ a := (n2 _ (List.mem_of_getElem? hi)).1
  refine ⟨⟨by rw [W.size]; exact n1.1, fun x c hx => ?_⟩, fun e he => ?_, ?_⟩
  · have hlt : x < Z.heap.size := (Array.getElem?_eq_some_iff.mp hx).1
    obtain ⟨c', q1, -, -, -, q5, -⟩ := wr_at W (n1.2 _ _ hx)
    rw [q1, q5 (Nat.ne_of_lt (Nat.lt_of_lt_of_le hlt hga))]
  · obtain ⟨j, hj⟩ := List.mem_iff_getElem?.mp he
    rw [List.getElem?_set] at hj
    by_cases q : i = j
    · subst q
      have hl := (List.getElem?_eq_some_iff.mp hi).1
      simp [hl] at hj
      subst hj
      obtain ⟨c, c1, c2⟩ := (n2 _ (List.mem_of_getElem? hi)).2
      obtain ⟨c', q1, -, -, -, -, -, q7⟩ := wr_at W c1
      obtain ⟨c0, w1, w2, w3, w4⟩ := W
      have c1' : h[a]? = some c := c1
      cases c1'.symm.trans w1
      exact ⟨hga, c', q1, by rw [(q7 rfl).1]; exact hP c c2 w3⟩
    · simp [q] at hj
      obtain ⟨g1, c, c1, c2⟩ := n2 _ (List.mem_of_getElem? hj)
      have ne : a ≠ e.1 := nodup_ne n3 (i := i) (j := j) (by simp [hi]) (by simp [hj]) q
      obtain ⟨c', q1, -, -, -, q5, -⟩ := wr_at W c1
      exact ⟨g1, c, by rw [q1, q5 (Ne.symm ne)], c2⟩
  · rw [map_set_same (f := Prod.fst) (y := (a, P')) hi rfl]; exact n3
theorem fldC_slot {c : Cell} {f : FV} (F : FldC Z c f) : c.slots[key Z f]? = some f.2.2.2 := by
  obtain ⟨cf, k, i, fd, h1, -, -, -, -, h6⟩ := F
  have : key Z f = fd.slot := by simp [key, RoadKit.slotOf, h1]
  rw [this]; exact h6
theorem fldC_set {c : Cell} {f : FV} (F : FldC Z c f) {sl : Nat} {v : Value} (ne : key Z f ≠ sl) : FldC Z (c.setSlot sl v) f := by
  obtain ⟨cf, k, i, fd, h1, h2, h3, h4, h5, h6⟩ := F
  have q : key Z f = fd.slot := by simp [key, RoadKit.slotOf, h1]
  refine ⟨cf, k, i, fd, h1, h2, h3, h4, h5, ?_⟩
  show (c.slots.setIfInBounds sl v)[fd.slot]? = _
  rw [Array.getElem?_setIfInBounds_ne (by rw [← q]; exact Ne.symm ne)]; exact h6
theorem fldC_here {c : Cell} {O n d : String} {w v : Value} (F : FldC Z c (O, n, d, w)) : FldC Z (c.setSlot (RoadKit.slotOf Z O n d) v) (O, n, d, v) := by
  have g := fldC_slot F
  obtain ⟨cf, k, i, fd, h1, h2, h3, h4, h5, h6⟩ := F
  have q : RoadKit.slotOf Z O n d = fd.slot := by simp [RoadKit.slotOf, h1]
  refine ⟨cf, k, i, fd, h1, h2, h3, h4, h5, ?_⟩
  show (c.slots.setIfInBounds (RoadKit.slotOf Z O n d) v)[fd.slot]? = _
  rw [q, Array.getElem?_setIfInBounds_self_of_lt (Array.getElem?_eq_some_iff.mp h6).1]
theorem exaC_set {c : Cell} (E : ExaC Z C c) {sl : Nat} {v : Value} : ExaC Z C (c.setSlot sl v) := by
  obtain ⟨k, h1, h2, h3, h4⟩ := E
  exact ⟨k, h1, h2, h3, fun q => by rw [sz_set]; exact h4 q⟩
theorem OKnow.put (N : OKnow Z h K) (hi : K[i]? = some (oObj Z a C fs)) (hj : fs[j]? = some (O, n, d, w)) (W : Wr h h' a (RoadKit.slotOf Z O n d) v) : OKnow Z h' (K.set i (oObj Z a C (fs.set j (O, n, d, v)))) := by
  refine N.upd (P' := (oObj Z a C (fs.set j (O, n, d, v))).2) hi W fun c ⟨E, D, A⟩ hlt => ⟨exaC_set E, by rw [map_set_same (f := key Z) (y := (O, n, d, v)) hj rfl]; exact D, fun f hf => ?_⟩
  obtain ⟨x, hx⟩ := List.mem_iff_getElem?.mp hf
  rw [List.getElem?_set] at hx
  by_cases q : j = x
  · subst q
    simp [(List.getElem?_eq_some_iff.mp hj).1] at hx
    subst hx
    exact fldC_here (A _ (List.mem_of_getElem? hj))
  · simp [q] at hx
    have ne : key Z (O, n, d, w) ≠ key Z f := nodup_ne D (i := j) (j := x) (by simp [hj]) (by simp [hx]) q
    exact fldC_set (A _ (List.mem_of_getElem? hx)) (Ne.symm ne)
theorem OKnow.fld (N : OKnow Z h K) (hi : K[i]? = some (oObj Z a C fs)) (hj : fs[j]? = some (O, n, d, v)) : Fld Z h a O n d v := by
  obtain ⟨-, c, c1, -, -, A⟩ := N.at hi
  obtain ⟨cf, k, i, fd, h1, h2, h3, h4, h5, h6⟩ := A _ (List.mem_of_getElem? hj)
  exact ⟨c, cf, k, i, fd, c1, h1, h2, h3, h4, h5, h6⟩
theorem OKnow.exa (N : OKnow Z h K) (hi : K[i]? = some (oObj Z a C fs)) : Exa Z h a C := by
  obtain ⟨-, c, c1, ⟨k, h1, h2, h3, h4⟩, -⟩ := N.at hi
  exact ⟨c, k, c1, h1, h2, h3, h4⟩
theorem OKnow.arr (N : OKnow Z h K) (hi : K[i]? = some (oArr Z a k ty vs)) : ∃ c, Arr Z h a c ty ∧ c.cls = k ∧ c.slots = vs.toArray ∧ vs.length < 2147483648 := by
  obtain ⟨-, c, c1, h1, h2, h3, h4, h5⟩ := N.at hi
  exact ⟨c, ⟨c1, h1, h2⟩, h3, h4, h5⟩
theorem OKnow.putA (N : OKnow Z h K) (hi : K[i]? = some (oArr Z a k ty vs)) (W : Wr h h' a j v) : OKnow Z h' (K.set i (oArr Z a k ty (vs.set j v))) := by
  refine N.upd (P' := (oArr Z a k ty (vs.set j v)).2) hi W fun c ⟨h1, h2, h3, h4, h5⟩ hlt => ⟨?_, h2, h3, ?_, by rw [List.length_set]; exact h5⟩
  · exact h1
  · show c.slots.setIfInBounds j v = _
    rw [h4]; simp
theorem OKnow.cons (N : OKnow Z h K) (E : Ext h h') {c : Cell} (hc : h'[h.size]? = some c) (hP : P c) : OKnow Z h' ((h.size, P) :: K) := by
  obtain ⟨n1, n2, n3⟩ := N
  refine ⟨⟨Nat.le_trans n1.1 E.1, fun x c q => E.2 _ _ (n1.2 _ _ q)⟩, fun e he => ?_, ?_⟩
  · rcases List.mem_cons.mp he with rfl | he
    · exact ⟨n1.1, c, hc, hP⟩
    · obtain ⟨g, c, c1, c2⟩ := n2 e he
      exact ⟨g, c, E.2 _ _ c1, c2⟩
  · rw [List.map_cons, List.nodup_cons]
    refine ⟨fun q => ?_, n3⟩
    obtain ⟨e, he, q⟩ := List.mem_map.mp q
    obtain ⟨-, c, c1, -⟩ := n2 e he
    have := (Array.getElem?_eq_some_iff.mp c1).1
    have q' : e.1 = h.size := q
    exact absurd q' (Nat.ne_of_lt this)
theorem OKnow.sel (N : OKnow Z h (F ++ rest)) (is : List Nat) (hn : is.Nodup) (hF : is.map (fun i => F[i]?) = F'.map some) : OKnow Z h (F' ++ rest) := by
  obtain ⟨n1, n2, n3⟩ := N
  have mem : ∀ e ∈ F', ∃ i ∈ is, F[i]? = some e := fun e he => by
    have : some e ∈ F'.map some := List.mem_map.mpr ⟨e, he, rfl⟩
    rw [← hF] at this
    obtain ⟨i, h1, h2⟩ := List.mem_map.mp this
    exact ⟨i, h1, h2⟩
  rw [List.map_append, List.nodup_append] at n3
  refine ⟨n1, fun e he => ?_, ?_⟩
  · rcases List.mem_append.mp he with he | he
    · obtain ⟨i, -, h2⟩ := mem e he
      exact n2 e (List.mem_append_left _ (List.mem_of_getElem? h2))
    · exact n2 e (List.mem_append_right _ he)
  · rw [List.map_append, List.nodup_append]
    refine ⟨?_, n3.2.1, fun x hx y hy => ?_⟩
    · have hl : is.length = F'.length := by have := congrArg List.length hF; simpa using this
      refine List.pairwise_iff_getElem.mpr fun x y hx hy hxy => ?_
      have hx' : x < F'.length := by simpa using hx
      have hy' : y < F'.length := by simpa using hy
      have gx : F[is[x]'(by omega)]? = some F'[x] := by
        have := congrArg (fun l => l[x]?) hF
        simpa [hx', show x < is.length by omega] using this
      have gy : F[is[y]'(by omega)]? = some F'[y] := by
        have := congrArg (fun l => l[y]?) hF
        simpa [hy', show y < is.length by omega] using this
      have ne : is[x]'(by omega) ≠ is[y]'(by omega) := List.pairwise_iff_getElem.mp hn x y (by omega) (by omega) hxy
      have := nodup_ne n3.1 (i := is[x]'(by omega)) (j := is[y]'(by omega)) (x := F'[x].1) (y := F'[y].1) (by simp [gx]) (by simp [gy]) ne
      simpa using this
    · obtain ⟨e, he, rfl⟩ := List.mem_map.mp hx
      obtain ⟨i, -, h2⟩ := mem e he
      exact n3.2.2 _ (List.mem_map.mpr ⟨e, List.mem_of_getElem? h2, rfl⟩) y hy
theorem OKnow.drop (N : OKnow Z h K) (hi : K[i]? = some (a, P)) (Kp : Keep h h' [a]) : OKnow Z h' (K.eraseIdx i) := by
  obtain ⟨n1, n2, n3⟩ := N
  have ga := (n2 _ (List.mem_of_getElem? hi)).1
  refine ⟨⟨Nat.le_trans n1.1 Kp.1, fun x c q => Kp.2.1 _ _ (n1.2 _ _ q) fun w => ?_⟩, fun e he => ?_, ?_⟩
  · have := List.mem_singleton.mp w
    have hx := (Array.getElem?_eq_some_iff.mp q).1
    rw [this] at hx
    exact absurd hx (Nat.not_lt.mpr ga)
  · obtain ⟨j, hj, hje⟩ := List.mem_eraseIdx_iff_getElem?.mp he
    obtain ⟨g1, c, c1, c2⟩ := n2 _ (List.mem_of_getElem? hje)
    have ne : e.1 ≠ a := nodup_ne n3 (i := j) (j := i) (by simp [hje]) (by simp [hi]) hj
    exact ⟨g1, c, Kp.2.1 _ _ c1 (fun w => ne (List.mem_singleton.mp w)), c2⟩
  · exact List.Pairwise.sublist ((List.eraseIdx_sublist K i).map Prod.fst) n3
theorem OKnow.arv (N : OKnow Z h K) (hi : K[i]? = some (oArr Z a k ty vs)) {n : Int32} {dv : Value} (hn : n.toNatClampNeg = vs.length) (h0 : ¬ n < 0) (hf : ∀ v ∈ vs, fits ty v = true) : Arv Z h a k ty n vs dv := by
  obtain ⟨c, A, h1, h2, -⟩ := N.arr hi
  have hs : c.slots.size = vs.length := by rw [h2]; simp
  refine ⟨c, A, h1, by rw [hs, hn], h0, fun j hj => ?_, fun j hj => ?_⟩
  · rw [hs] at hj; rw [h2]; simp [hj]
  · rw [hs] at hj; simp only [List.getD_eq_getElem?_getD, List.getElem?_eq_getElem hj, Option.getD_some]; exact hf _ (List.getElem_mem hj)
/-- the fields of a new object: laid in the class, at their first values, their names different -/
def LaidL (Z : State) (a0 : Array Value) (C : String) : List FV → Prop
  | [] => True
  | f :: r => (Laid Z a0 C f.1 f.2.1 f.2.2.1 ∧ ∃ ty, parseFieldDescriptor f.2.2.1 = some ty ∧ f.2.2.2 = defaultValue ty) ∧ LaidL Z a0 C r
theorem LaidL.mem {a0 : Array Value} : ∀ (fs : List FV), LaidL Z a0 C fs → ∀ f ∈ fs, Laid Z a0 C f.1 f.2.1 f.2.2.1 ∧ ∃ ty, parseFieldDescriptor f.2.2.1 = some ty ∧ f.2.2.2 = defaultValue ty
  | [], _, _, q => nomatch q
  | _ :: r, L, f, q => (List.mem_cons.mp q).elim (fun e => e ▸ L.1) (LaidL.mem r L.2 f)
theorem LaidL.keys {a0 : Array Value} (L : LaidL Z a0 C fs) (hn : (fs.map fun f => f.2.1).Nodup) : (fs.map (key Z)).Nodup := by
  have M := LaidL.mem fs L
  refine List.pairwise_iff_getElem.mpr fun x y hx hy hxy => ?_
  have hx' : x < fs.length := by simpa using hx
  have hy' : y < fs.length := by simpa using hy
  have q := List.pairwise_iff_getElem.mp hn x y (by simpa using hx') (by simpa using hy') hxy
  simp only [List.getElem_map] at q ⊢
  obtain ⟨L1, t1, p1, -⟩ := M fs[x] (List.getElem_mem hx')
  obtain ⟨L2, t2, p2, -⟩ := M fs[y] (List.getElem_mem hy')
  exact RoadKit.slot_ne L1 L2 q p1 p2
end Kn
/-! Where a run stands, and where it must come. -/
def ONow (p : Program) (l : Launch) (e : Env) (R : Room) (s : State) (m : MethodId) (args : Array Value) (below : List Frame) (meth : Method) (c : Code) (Z : State) (own : String) (cd : ByteArray) (ml : Nat) (ret : Option FieldType) (nm : String) (T : State) (cells slots : Nat) (K : List Ent) : Prop :=
  ∃ locs, Stand p l e R s m args below meth c T locs cells slots ∧ Fr Z.heap.size locs ∧ OKnow Z T.heap K ∧ p.tables.exec = Jvm.exec ∧ Z.Warmed39 s.vm ∧ c.code = cd ∧ c.maxLocals = ml ∧ s.vm.findClass own = some m.cls ∧ meth.sig.returnType = ret ∧ meth.name = nm ∧ meth.locks = false
def OGo (p : Program) (e : Env) (below : List Frame) (Φ : Outcome → State → Prop) (T : State) (g : JFrame) : Prop := ∃ U o, Steps p.tables e below (T.setTop g) U ∧ U.status = .running ∧ Ended U below o ∧ Φ o U
def OPost (Z s : State) (Q : Option Value → List Ent → Prop) (rm : Room) (o : Outcome) (U : State) : Prop := ∃ v L, o = .returned v ∧ (Fr Z.heap.size L ∧ ∃ K', OKnow Z U.heap K' ∧ Q v K') ∧ FrameEnd s o U L rm.cells rm.slots
def OMeets (l : Launch) (y : MethodName) (bytes : ByteArray) (maxL : Nat) (ret : Option FieldType) (rm : Room) (Z : State) (as : List Value) (K : List Ent) (Q : Option Value → List Ent → Prop) : Prop :=
  ∀ (ws : List Cond) (h : Heap), OKnow Z h K → MetFree l y (head1 (Cond.code y bytes maxL ret :: ws) rm) (fun a U => a = as.toArray ∧ Z.Warmed39 U.vm ∧ U.heap = h) (fun _ _ _ _ _ => True) (fun _ U o U' => ∃ v L, o = .returned v ∧ (Fr Z.heap.size L ∧ ∃ K', OKnow Z U'.heap K' ∧ Q v K') ∧ FrameEnd U o U' L rm.cells rm.slots)
section St
variable {p : Program} {l : Launch} {e : Env} {R : Room} {s : State} {m : MethodId} {args : Array Value} {below : List Frame} {meth : Method} {c : Code} {Z : State} {own : String} {cd : ByteArray} {ml : Nat} {ret : Option FieldType} {nm : String} {T : State} {cells slots : Nat} {K : List Ent} {Φ : Outcome → State → Prop} {pc : Nat} {Ls : Array Slot} {st : List Value} {a0 : Array Value}
theorem OMeets.of_body {y : MethodName} {bytes : ByteArray} {maxL : Nat} {rm : Room} {as : List Value} {Q : Option Value → List Ent → Prop} (hpl : plainFor y = true) (Ls : Array Slot) (hL : ∀ m : MethodId, entryFrame m as.toArray maxL = mkF m 0 Ls [])
    (body : ∀ p e s m below meth c T, ONow p l e rm s m as.toArray below meth c Z y.cls bytes maxL ret y.name T 0 0 K → OGo p e below (OPost Z s Q rm) T (mkF m 0 Ls [])) : OMeets l y bytes maxL ret rm Z as K Q := fun ws h hK => by
  refine MetFree.of_bodySF hpl hisR ?_
  intro p e s m args below meth c s₁ Bd hml0 hP _
  obtain ⟨rfl, hZ, hh⟩ := hP
  have X0 : Stand p l e rm s m as.toArray below meth c s₁ [] 0 0 := Stand.of_body Bd
  have e0 : s₁.heap = h := by rw [← hh, Bd.state]; rfl
  rw [hL m]
  exact body p e s m below meth c s₁ ⟨[], X0, Fr.nil _, by rw [e0]; exact hK, Bd.exec, hZ, Bd.bytes, hml0, findClass_of_methodNamed Bd.named, Bd.returns, (name_of_methodNamed Bd.named Bd.method).1, Bd.notSynchronized⟩
theorem OMeets.weak {y : MethodName} {bytes : ByteArray} {maxL : Nat} {rm : Room} {as : List Value} {Q Q' : Option Value → List Ent → Prop} (M : OMeets l y bytes maxL ret rm Z as K Q) (hq : ∀ v K', Q v K' → Q' v K') : OMeets l y bytes maxL ret rm Z as K Q' := fun ws h hK => by
  intro p e ha hc hk s m args below hf happ hP hK2
  obtain ⟨n, o, h1, h2, h3, v, L, h4, ⟨h5, K', h6, h7⟩, h8⟩ := M ws h hK p e ha hc hk s m args below hf happ hP hK2
  exact ⟨n, o, h1, h2, h3, v, L, h4, ⟨h5, K', h6, hq v K' h7⟩, h8⟩
theorem OGo.weak {Φ' : Outcome → State → Prop} {g : JFrame} (G : OGo p e below Φ T g) (hq : ∀ o U, Φ o U → Φ' o U) : OGo p e below Φ' T g := by
  obtain ⟨U, o, h1, h2, h3, h4⟩ := G
  exact ⟨U, o, h1, h2, h3, hq o U h4⟩
theorem ONow.sel {F F' rest : List Ent} (N : ONow p l e R s m args below meth c Z own cd ml ret nm T cells slots (F ++ rest)) (is : List Nat) (hn : is.Nodup) (hF : is.map (fun i => F[i]?) = F'.map some) : ONow p l e R s m args below meth c Z own cd ml ret nm T cells slots (F' ++ rest) := by
  obtain ⟨locs, X, n1, n2, n3⟩ := N
  exact ⟨locs, X, n1, n2.sel is hn hF, n3⟩
theorem ONow.cast {K' : List Ent} (N : ONow p l e R s m args below meth c Z own cd ml ret nm T cells slots K) (q : K = K') : ONow p l e R s m args below meth c Z own cd ml ret nm T cells slots K' := q ▸ N
theorem ONow.more {c' s' : Nat} (N : ONow p l e R s m args below meth c Z own cd ml ret nm T cells slots K) (h1 : cells ≤ c') (h2 : slots ≤ s') : ONow p l e R s m args below meth c Z own cd ml ret nm T c' s' K := by
  obtain ⟨locs, X, n⟩ := N
  exact ⟨locs, X.more h1 h2, n⟩
theorem k_iload (N : ONow p l e R s m args below meth c Z own cd ml ret nm T cells slots K) {k : Nat} {v : Int32} (hd : decode cd pc = .ok (.iload k, 2)) (hl : Ls[k]? = some (.val (.int v))) (hr : OGo p e below Φ T (mkF m (pc + 2) Ls (.int v :: st))) : OGo p e below Φ T (mkF m pc Ls st) := by
  obtain ⟨_, X, -, -, hx, -, hc, -⟩ := N
  obtain ⟨U, o, h1, h2⟩ := hr
  exact ⟨U, o, XS.iload X.here hx rfl (hb hc hd) hl h1, h2⟩
theorem k_iload_n (N : ONow p l e R s m args below meth c Z own cd ml ret nm T cells slots K) {k : Fin 4} {v : Int32} (hd : decode cd pc = .ok (.iload_n k, 1)) (hl : Ls[k.val]? = some (.val (.int v))) (hr : OGo p e below Φ T (mkF m (pc + 1) Ls (.int v :: st))) : OGo p e below Φ T (mkF m pc Ls st) := by
  obtain ⟨_, X, -, -, hx, -, hc, -⟩ := N
  obtain ⟨U, o, h1, h2⟩ := hr
  exact ⟨U, o, XS.iloadN X.here hx rfl (hb hc hd) hl h1, h2⟩
theorem k_istore (N : ONow p l e R s m args below meth c Z own cd ml ret nm T cells slots K) {k : Nat} {v : Int32} {Ls' : Array Slot} (hd : decode cd pc = .ok (.istore k, 2)) (hl : storeLocals Ls k (.int v) = some Ls') (hr : OGo p e below Φ T (mkF m (pc + 2) Ls' st)) : OGo p e below Φ T (mkF m pc Ls (.int v :: st)) := by
  obtain ⟨_, X, -, -, hx, -, hc, -⟩ := N
  obtain ⟨U, o, h1, h2⟩ := hr
  exact ⟨U, o, XS.istore X.here hx rfl (hb hc hd) rfl hl h1, h2⟩
theorem k_istore_n (N : ONow p l e R s m args below meth c Z own cd ml ret nm T cells slots K) {k : Fin 4} {v : Int32} {Ls' : Array Slot} (hd : decode cd pc = .ok (.istore_n k, 1)) (hl : storeLocals Ls k.val (.int v) = some Ls') (hr : OGo p e below Φ T (mkF m (pc + 1) Ls' st)) : OGo p e below Φ T (mkF m pc Ls (.int v :: st)) := by
  obtain ⟨_, X, -, -, hx, -, hc, -⟩ := N
  obtain ⟨U, o, h1, h2⟩ := hr
  exact ⟨U, o, XS.istoreN X.here hx rfl (hb hc hd) rfl hl h1, h2⟩
theorem k_lload (N : ONow p l e R s m args below meth c Z own cd ml ret nm T cells slots K) {k : Nat} {v : Int64} (hd : decode cd pc = .ok (.lload k, 2)) (hl : Ls[k]? = some (.val (.long v))) (hr : OGo p e below Φ T (mkF m (pc + 2) Ls (.long v :: st))) : OGo p e below Φ T (mkF m pc Ls st) := by
  obtain ⟨_, X, -, -, hx, -, hc, -⟩ := N
  obtain ⟨U, o, h1, h2⟩ := hr
  exact ⟨U, o, XT.lload X.here hx rfl (hb hc hd) hl h1, h2⟩
theorem k_lload_n (N : ONow p l e R s m args below meth c Z own cd ml ret nm T cells slots K) {k : Fin 4} {v : Int64} (hd : decode cd pc = .ok (.lload_n k, 1)) (hl : Ls[k.val]? = some (.val (.long v))) (hr : OGo p e below Φ T (mkF m (pc + 1) Ls (.long v :: st))) : OGo p e below Φ T (mkF m pc Ls st) := by
  obtain ⟨_, X, -, -, hx, -, hc, -⟩ := N
  obtain ⟨U, o, h1, h2⟩ := hr
  exact ⟨U, o, XT.lloadN X.here hx rfl (hb hc hd) hl h1, h2⟩
theorem k_lstore (N : ONow p l e R s m args below meth c Z own cd ml ret nm T cells slots K) {k : Nat} {v : Int64} {Ls' : Array Slot} (hd : decode cd pc = .ok (.lstore k, 2)) (hl : storeLocals Ls k (.long v) = some Ls') (hr : OGo p e below Φ T (mkF m (pc + 2) Ls' st)) : OGo p e below Φ T (mkF m pc Ls (.long v :: st)) := by
  obtain ⟨_, X, -, -, hx, -, hc, -⟩ := N
  obtain ⟨U, o, h1, h2⟩ := hr
  exact ⟨U, o, XT.lstore X.here hx rfl (hb hc hd) rfl hl h1, h2⟩
theorem k_lstore_n (N : ONow p l e R s m args below meth c Z own cd ml ret nm T cells slots K) {k : Fin 4} {v : Int64} {Ls' : Array Slot} (hd : decode cd pc = .ok (.lstore_n k, 1)) (hl : storeLocals Ls k.val (.long v) = some Ls') (hr : OGo p e below Φ T (mkF m (pc + 1) Ls' st)) : OGo p e below Φ T (mkF m pc Ls (.long v :: st)) := by
  obtain ⟨_, X, -, -, hx, -, hc, -⟩ := N
  obtain ⟨U, o, h1, h2⟩ := hr
  exact ⟨U, o, XT.lstoreN X.here hx rfl (hb hc hd) rfl hl h1, h2⟩
theorem k_dload (N : ONow p l e R s m args below meth c Z own cd ml ret nm T cells slots K) {k : Nat} {v : UInt64} (hd : decode cd pc = .ok (.dload k, 2)) (hl : Ls[k]? = some (.val (.double v))) (hr : OGo p e below Φ T (mkF m (pc + 2) Ls (.double v :: st))) : OGo p e below Φ T (mkF m pc Ls st) := by
  obtain ⟨_, X, -, -, hx, -, hc, -⟩ := N
  obtain ⟨U, o, h1, h2⟩ := hr
  exact ⟨U, o, XS.dload X.here hx rfl (hb hc hd) hl h1, h2⟩
theorem k_dload_n (N : ONow p l e R s m args below meth c Z own cd ml ret nm T cells slots K) {k : Fin 4} {v : UInt64} (hd : decode cd pc = .ok (.dload_n k, 1)) (hl : Ls[k.val]? = some (.val (.double v))) (hr : OGo p e below Φ T (mkF m (pc + 1) Ls (.double v :: st))) : OGo p e below Φ T (mkF m pc Ls st) := by
  obtain ⟨_, X, -, -, hx, -, hc, -⟩ := N
  obtain ⟨U, o, h1, h2⟩ := hr
  exact ⟨U, o, XS.dloadN X.here hx rfl (hb hc hd) hl h1, h2⟩
theorem k_dstore (N : ONow p l e R s m args below meth c Z own cd ml ret nm T cells slots K) {k : Nat} {v : UInt64} {Ls' : Array Slot} (hd : decode cd pc = .ok (.dstore k, 2)) (hl : storeLocals Ls k (.double v) = some Ls') (hr : OGo p e below Φ T (mkF m (pc + 2) Ls' st)) : OGo p e below Φ T (mkF m pc Ls (.double v :: st)) := by
  obtain ⟨_, X, -, -, hx, -, hc, -⟩ := N
  obtain ⟨U, o, h1, h2⟩ := hr
  exact ⟨U, o, XS.dstore X.here hx rfl (hb hc hd) rfl hl h1, h2⟩
theorem k_dstore_n (N : ONow p l e R s m args below meth c Z own cd ml ret nm T cells slots K) {k : Fin 4} {v : UInt64} {Ls' : Array Slot} (hd : decode cd pc = .ok (.dstore_n k, 1)) (hl : storeLocals Ls k.val (.double v) = some Ls') (hr : OGo p e below Φ T (mkF m (pc + 1) Ls' st)) : OGo p e below Φ T (mkF m pc Ls (.double v :: st)) := by
  obtain ⟨_, X, -, -, hx, -, hc, -⟩ := N
  obtain ⟨U, o, h1, h2⟩ := hr
  exact ⟨U, o, XS.dstoreN X.here hx rfl (hb hc hd) rfl hl h1, h2⟩
theorem k_aload (N : ONow p l e R s m args below meth c Z own cd ml ret nm T cells slots K) {k : Nat} {v : Value} (hd : decode cd pc = .ok (.aload k, 2)) (hl : Ls[k]? = some (.val v)) (hv : v.isRef = true) (hr : OGo p e below Φ T (mkF m (pc + 2) Ls (v :: st))) : OGo p e below Φ T (mkF m pc Ls st) := by
  obtain ⟨_, X, -, -, hx, -, hc, -⟩ := N
  obtain ⟨U, o, h1, h2⟩ := hr
  exact ⟨U, o, XS.aload X.here hx rfl (hb hc hd) hl hv h1, h2⟩
theorem k_aload_n (N : ONow p l e R s m args below meth c Z own cd ml ret nm T cells slots K) {k : Fin 4} {v : Value} (hd : decode cd pc = .ok (.aload_n k, 1)) (hl : Ls[k.val]? = some (.val v)) (hv : v.isRef = true) (hr : OGo p e below Φ T (mkF m (pc + 1) Ls (v :: st))) : OGo p e below Φ T (mkF m pc Ls st) := by
  obtain ⟨_, X, -, -, hx, -, hc, -⟩ := N
  obtain ⟨U, o, h1, h2⟩ := hr
  exact ⟨U, o, XS.aloadN X.here hx rfl (hb hc hd) hl hv h1, h2⟩
theorem k_astore (N : ONow p l e R s m args below meth c Z own cd ml ret nm T cells slots K) {k : Nat} {v : Value} {Ls' : Array Slot} (hd : decode cd pc = .ok (.astore k, 2)) (hv : v.isRef = true) (hl : storeLocals Ls k v = some Ls') (hr : OGo p e below Φ T (mkF m (pc + 2) Ls' st)) : OGo p e below Φ T (mkF m pc Ls (v :: st)) := by
  obtain ⟨_, X, -, -, hx, -, hc, -⟩ := N
  obtain ⟨U, o, h1, h2⟩ := hr
  exact ⟨U, o, XS.astore X.here hx rfl (hb hc hd) rfl hv hl h1, h2⟩
theorem k_astore_n (N : ONow p l e R s m args below meth c Z own cd ml ret nm T cells slots K) {k : Fin 4} {v : Value} {Ls' : Array Slot} (hd : decode cd pc = .ok (.astore_n k, 1)) (hv : v.isRef = true) (hl : storeLocals Ls k.val v = some Ls') (hr : OGo p e below Φ T (mkF m (pc + 1) Ls' st)) : OGo p e below Φ T (mkF m pc Ls (v :: st)) := by
  obtain ⟨_, X, -, -, hx, -, hc, -⟩ := N
  obtain ⟨U, o, h1, h2⟩ := hr
  exact ⟨U, o, XS.astoreN X.here hx rfl (hb hc hd) rfl hv hl h1, h2⟩
theorem k_iconst (N : ONow p l e R s m args below meth c Z own cd ml ret nm T cells slots K) {i : Int} {v : Int32} (hd : decode cd pc = .ok (.iconst i, 1)) (hv : Int32.ofInt i = v) (hr : OGo p e below Φ T (mkF m (pc + 1) Ls (.int v :: st))) : OGo p e below Φ T (mkF m pc Ls st) := by
  subst hv
  obtain ⟨_, X, -, -, hx, -, hc, -⟩ := N
  obtain ⟨U, o, h1, h2⟩ := hr
  exact ⟨U, o, XS.iconst X.here hx rfl (hb hc hd) h1, h2⟩
theorem k_bipush (N : ONow p l e R s m args below meth c Z own cd ml ret nm T cells slots K) {i : Int} {v : Int32} (hd : decode cd pc = .ok (.bipush i, 2)) (hv : (Int8.ofInt i).toInt32 = v) (hr : OGo p e below Φ T (mkF m (pc + 2) Ls (.int v :: st))) : OGo p e below Φ T (mkF m pc Ls st) := by
  subst hv
  obtain ⟨_, X, -, -, hx, -, hc, -⟩ := N
  obtain ⟨U, o, h1, h2⟩ := hr
  exact ⟨U, o, XS.bipush X.here hx rfl (hb hc hd) h1, h2⟩
theorem k_sipush (N : ONow p l e R s m args below meth c Z own cd ml ret nm T cells slots K) {i : Int} {v : Int32} (hd : decode cd pc = .ok (.sipush i, 3)) (hv : (Int16.ofInt i).toInt32 = v) (hr : OGo p e below Φ T (mkF m (pc + 3) Ls (.int v :: st))) : OGo p e below Φ T (mkF m pc Ls st) := by
  subst hv
  obtain ⟨_, X, -, -, hx, -, hc, -⟩ := N
  obtain ⟨U, o, h1, h2⟩ := hr
  exact ⟨U, o, XS.sipush X.here hx rfl (hb hc hd) h1, h2⟩
theorem k_lconst (N : ONow p l e R s m args below meth c Z own cd ml ret nm T cells slots K) {k : Fin 2} {v : Int64} (hd : decode cd pc = .ok (.lconst k, 1)) (hv : Int64.ofNat k = v) (hr : OGo p e below Φ T (mkF m (pc + 1) Ls (.long v :: st))) : OGo p e below Φ T (mkF m pc Ls st) := by
  subst hv
  obtain ⟨_, X, -, -, hx, -, hc, -⟩ := N
  obtain ⟨U, o, h1, h2⟩ := hr
  exact ⟨U, o, XT.lconst X.here hx rfl (hb hc hd) h1, h2⟩
theorem k_dconst0 (N : ONow p l e R s m args below meth c Z own cd ml ret nm T cells slots K) {v : UInt64} (hd : decode cd pc = .ok (.dconst 0, 1)) (hv : FP.dconst0 = v) (hr : OGo p e below Φ T (mkF m (pc + 1) Ls (.double v :: st))) : OGo p e below Φ T (mkF m pc Ls st) := by
  obtain ⟨_, X, -, -, hx, -, hc, -⟩ := N
  obtain ⟨U, o, h1, h2⟩ := hr
  exact ⟨U, o, XS.dconst0 X.here hx rfl (hb hc hd) hv h1, h2⟩
theorem k_dconst1 (N : ONow p l e R s m args below meth c Z own cd ml ret nm T cells slots K) {v : UInt64} (hd : decode cd pc = .ok (.dconst 1, 1)) (hv : FP.dconst1 = v) (hr : OGo p e below Φ T (mkF m (pc + 1) Ls (.double v :: st))) : OGo p e below Φ T (mkF m pc Ls st) := by
  obtain ⟨_, X, -, -, hx, -, hc, -⟩ := N
  obtain ⟨U, o, h1, h2⟩ := hr
  exact ⟨U, o, XS.dconst1 X.here hx rfl (hb hc hd) hv h1, h2⟩
theorem k_null (N : ONow p l e R s m args below meth c Z own cd ml ret nm T cells slots K) (hd : decode cd pc = .ok (.aconst_null, 1)) (hr : OGo p e below Φ T (mkF m (pc + 1) Ls (.null :: st))) : OGo p e below Φ T (mkF m pc Ls st) := by
  obtain ⟨_, X, -, -, hx, -, hc, -⟩ := N
  obtain ⟨U, o, h1, h2⟩ := hr
  exact ⟨U, o, XS.aconstNull X.here hx rfl (hb hc hd) h1, h2⟩
theorem k_iadd (N : ONow p l e R s m args below meth c Z own cd ml ret nm T cells slots K) {x y : Int32} (hd : decode cd pc = .ok (.iadd, 1)) (hr : OGo p e below Φ T (mkF m (pc + 1) Ls (.int (x + y) :: st))) : OGo p e below Φ T (mkF m pc Ls (.int y :: .int x :: st)) := by
  obtain ⟨_, X, -, -, hx, -, hc, -⟩ := N
  obtain ⟨U, o, h1, h2⟩ := hr
  exact ⟨U, o, XS.iadd X.here hx rfl (hb hc hd) rfl h1, h2⟩
theorem k_isub (N : ONow p l e R s m args below meth c Z own cd ml ret nm T cells slots K) {x y : Int32} (hd : decode cd pc = .ok (.isub, 1)) (hr : OGo p e below Φ T (mkF m (pc + 1) Ls (.int (x - y) :: st))) : OGo p e below Φ T (mkF m pc Ls (.int y :: .int x :: st)) := by
  obtain ⟨_, X, -, -, hx, -, hc, -⟩ := N
  obtain ⟨U, o, h1, h2⟩ := hr
  exact ⟨U, o, XS.isub X.here hx rfl (hb hc hd) rfl h1, h2⟩
theorem k_imul (N : ONow p l e R s m args below meth c Z own cd ml ret nm T cells slots K) {x y : Int32} (hd : decode cd pc = .ok (.imul, 1)) (hr : OGo p e below Φ T (mkF m (pc + 1) Ls (.int (x * y) :: st))) : OGo p e below Φ T (mkF m pc Ls (.int y :: .int x :: st)) := by
  obtain ⟨_, X, -, -, hx, -, hc, -⟩ := N
  obtain ⟨U, o, h1, h2⟩ := hr
  exact ⟨U, o, XS.imul X.here hx rfl (hb hc hd) rfl h1, h2⟩
theorem k_iand (N : ONow p l e R s m args below meth c Z own cd ml ret nm T cells slots K) {x y : Int32} (hd : decode cd pc = .ok (.iand, 1)) (hr : OGo p e below Φ T (mkF m (pc + 1) Ls (.int (x &&& y) :: st))) : OGo p e below Φ T (mkF m pc Ls (.int y :: .int x :: st)) := by
  obtain ⟨_, X, -, -, hx, -, hc, -⟩ := N
  obtain ⟨U, o, h1, h2⟩ := hr
  exact ⟨U, o, XS.iand X.here hx rfl (hb hc hd) rfl h1, h2⟩
theorem k_ixor (N : ONow p l e R s m args below meth c Z own cd ml ret nm T cells slots K) {x y : Int32} (hd : decode cd pc = .ok (.ixor, 1)) (hr : OGo p e below Φ T (mkF m (pc + 1) Ls (.int (x ^^^ y) :: st))) : OGo p e below Φ T (mkF m pc Ls (.int y :: .int x :: st)) := by
  obtain ⟨_, X, -, -, hx, -, hc, -⟩ := N
  obtain ⟨U, o, h1, h2⟩ := hr
  exact ⟨U, o, XT.ixor X.here hx rfl (hb hc hd) rfl h1, h2⟩
theorem k_ior (N : ONow p l e R s m args below meth c Z own cd ml ret nm T cells slots K) {x y : Int32} (hd : decode cd pc = .ok (.ior, 1)) (hr : OGo p e below Φ T (mkF m (pc + 1) Ls (.int (x ||| y) :: st))) : OGo p e below Φ T (mkF m pc Ls (.int y :: .int x :: st)) := by
  obtain ⟨_, X, -, -, hx, -, hc, -⟩ := N
  obtain ⟨U, o, h1, h2⟩ := hr
  exact ⟨U, o, XT.ior X.here hx rfl (hb hc hd) rfl h1, h2⟩
theorem k_ishl (N : ONow p l e R s m args below meth c Z own cd ml ret nm T cells slots K) {x y : Int32} (hd : decode cd pc = .ok (.ishl, 1)) (hr : OGo p e below Φ T (mkF m (pc + 1) Ls (.int (x <<< (y &&& 31)) :: st))) : OGo p e below Φ T (mkF m pc Ls (.int y :: .int x :: st)) := by
  obtain ⟨_, X, -, -, hx, -, hc, -⟩ := N
  obtain ⟨U, o, h1, h2⟩ := hr
  exact ⟨U, o, XT.ishl X.here hx rfl (hb hc hd) rfl h1, h2⟩
theorem k_ishr (N : ONow p l e R s m args below meth c Z own cd ml ret nm T cells slots K) {x y : Int32} (hd : decode cd pc = .ok (.ishr, 1)) (hr : OGo p e below Φ T (mkF m (pc + 1) Ls (.int (x >>> (y &&& 31)) :: st))) : OGo p e below Φ T (mkF m pc Ls (.int y :: .int x :: st)) := by
  obtain ⟨_, X, -, -, hx, -, hc, -⟩ := N
  obtain ⟨U, o, h1, h2⟩ := hr
  exact ⟨U, o, XT.ishr X.here hx rfl (hb hc hd) rfl h1, h2⟩
theorem k_iushr (N : ONow p l e R s m args below meth c Z own cd ml ret nm T cells slots K) {x y : Int32} (hd : decode cd pc = .ok (.iushr, 1)) (hr : OGo p e below Φ T (mkF m (pc + 1) Ls (.int (XT.ushr x y) :: st))) : OGo p e below Φ T (mkF m pc Ls (.int y :: .int x :: st)) := by
  obtain ⟨_, X, -, -, hx, -, hc, -⟩ := N
  obtain ⟨U, o, h1, h2⟩ := hr
  exact ⟨U, o, XT.iushr X.here hx rfl (hb hc hd) rfl h1, h2⟩
theorem k_idiv (N : ONow p l e R s m args below meth c Z own cd ml ret nm T cells slots K) {x y : Int32} (hd : decode cd pc = .ok (.idiv, 1)) (hy : y ≠ 0) (hr : OGo p e below Φ T (mkF m (pc + 1) Ls (.int (x / y) :: st))) : OGo p e below Φ T (mkF m pc Ls (.int y :: .int x :: st)) := by
  obtain ⟨_, X, -, -, hx, -, hc, -⟩ := N
  obtain ⟨U, o, h1, h2⟩ := hr
  exact ⟨U, o, XS.idiv X.here hx rfl (hb hc hd) rfl hy h1, h2⟩
theorem k_irem (N : ONow p l e R s m args below meth c Z own cd ml ret nm T cells slots K) {x y : Int32} (hd : decode cd pc = .ok (.irem, 1)) (hy : y ≠ 0) (hr : OGo p e below Φ T (mkF m (pc + 1) Ls (.int (x % y) :: st))) : OGo p e below Φ T (mkF m pc Ls (.int y :: .int x :: st)) := by
  obtain ⟨_, X, -, -, hx, -, hc, -⟩ := N
  obtain ⟨U, o, h1, h2⟩ := hr
  exact ⟨U, o, iremM X hx rfl (hb hc hd) rfl hy h1, h2⟩
theorem k_ineg (N : ONow p l e R s m args below meth c Z own cd ml ret nm T cells slots K) {x : Int32} (hd : decode cd pc = .ok (.ineg, 1)) (hr : OGo p e below Φ T (mkF m (pc + 1) Ls (.int (-x) :: st))) : OGo p e below Φ T (mkF m pc Ls (.int x :: st)) := by
  obtain ⟨_, X, -, -, hx, -, hc, -⟩ := N
  obtain ⟨U, o, h1, h2⟩ := hr
  exact ⟨U, o, XS.ineg X.here hx rfl (hb hc hd) rfl h1, h2⟩
theorem k_ladd (N : ONow p l e R s m args below meth c Z own cd ml ret nm T cells slots K) {x y : Int64} (hd : decode cd pc = .ok (.ladd, 1)) (hr : OGo p e below Φ T (mkF m (pc + 1) Ls (.long (x + y) :: st))) : OGo p e below Φ T (mkF m pc Ls (.long y :: .long x :: st)) := by
  obtain ⟨_, X, -, -, hx, -, hc, -⟩ := N
  obtain ⟨U, o, h1, h2⟩ := hr
  exact ⟨U, o, XT.ladd X.here hx rfl (hb hc hd) rfl h1, h2⟩
theorem k_lsub (N : ONow p l e R s m args below meth c Z own cd ml ret nm T cells slots K) {x y : Int64} (hd : decode cd pc = .ok (.lsub, 1)) (hr : OGo p e below Φ T (mkF m (pc + 1) Ls (.long (x - y) :: st))) : OGo p e below Φ T (mkF m pc Ls (.long y :: .long x :: st)) := by
  obtain ⟨_, X, -, -, hx, -, hc, -⟩ := N
  obtain ⟨U, o, h1, h2⟩ := hr
  exact ⟨U, o, XT.lsub X.here hx rfl (hb hc hd) rfl h1, h2⟩
theorem k_lmul (N : ONow p l e R s m args below meth c Z own cd ml ret nm T cells slots K) {x y : Int64} (hd : decode cd pc = .ok (.lmul, 1)) (hr : OGo p e below Φ T (mkF m (pc + 1) Ls (.long (x * y) :: st))) : OGo p e below Φ T (mkF m pc Ls (.long y :: .long x :: st)) := by
  obtain ⟨_, X, -, -, hx, -, hc, -⟩ := N
  obtain ⟨U, o, h1, h2⟩ := hr
  exact ⟨U, o, XT.lmul X.here hx rfl (hb hc hd) rfl h1, h2⟩
theorem k_land (N : ONow p l e R s m args below meth c Z own cd ml ret nm T cells slots K) {x y : Int64} (hd : decode cd pc = .ok (.land, 1)) (hr : OGo p e below Φ T (mkF m (pc + 1) Ls (.long (x &&& y) :: st))) : OGo p e below Φ T (mkF m pc Ls (.long y :: .long x :: st)) := by
  obtain ⟨_, X, -, -, hx, -, hc, -⟩ := N
  obtain ⟨U, o, h1, h2⟩ := hr
  exact ⟨U, o, XT.land X.here hx rfl (hb hc hd) rfl h1, h2⟩
theorem k_lor (N : ONow p l e R s m args below meth c Z own cd ml ret nm T cells slots K) {x y : Int64} (hd : decode cd pc = .ok (.lor, 1)) (hr : OGo p e below Φ T (mkF m (pc + 1) Ls (.long (x ||| y) :: st))) : OGo p e below Φ T (mkF m pc Ls (.long y :: .long x :: st)) := by
  obtain ⟨_, X, -, -, hx, -, hc, -⟩ := N
  obtain ⟨U, o, h1, h2⟩ := hr
  exact ⟨U, o, XT.lor X.here hx rfl (hb hc hd) rfl h1, h2⟩
theorem k_lxor (N : ONow p l e R s m args below meth c Z own cd ml ret nm T cells slots K) {x y : Int64} (hd : decode cd pc = .ok (.lxor, 1)) (hr : OGo p e below Φ T (mkF m (pc + 1) Ls (.long (x ^^^ y) :: st))) : OGo p e below Φ T (mkF m pc Ls (.long y :: .long x :: st)) := by
  obtain ⟨_, X, -, -, hx, -, hc, -⟩ := N
  obtain ⟨U, o, h1, h2⟩ := hr
  exact ⟨U, o, XT.lxor X.here hx rfl (hb hc hd) rfl h1, h2⟩
theorem k_lshl (N : ONow p l e R s m args below meth c Z own cd ml ret nm T cells slots K) {x : Int64} {y : Int32} (hd : decode cd pc = .ok (.lshl, 1)) (hr : OGo p e below Φ T (mkF m (pc + 1) Ls (.long (x <<< (y.toInt64 &&& 63)) :: st))) : OGo p e below Φ T (mkF m pc Ls (.int y :: .long x :: st)) := by
  obtain ⟨_, X, -, -, hx, -, hc, -⟩ := N
  obtain ⟨U, o, h1, h2⟩ := hr
  exact ⟨U, o, XT.lshl X.here hx rfl (hb hc hd) rfl h1, h2⟩
theorem k_lshr (N : ONow p l e R s m args below meth c Z own cd ml ret nm T cells slots K) {x : Int64} {y : Int32} (hd : decode cd pc = .ok (.lshr, 1)) (hr : OGo p e below Φ T (mkF m (pc + 1) Ls (.long (x >>> (y.toInt64 &&& 63)) :: st))) : OGo p e below Φ T (mkF m pc Ls (.int y :: .long x :: st)) := by
  obtain ⟨_, X, -, -, hx, -, hc, -⟩ := N
  obtain ⟨U, o, h1, h2⟩ := hr
  exact ⟨U, o, XT.lshr X.here hx rfl (hb hc hd) rfl h1, h2⟩
theorem k_lushr (N : ONow p l e R s m args below meth c Z own cd ml ret nm T cells slots K) {x : Int64} {y : Int32} (hd : decode cd pc = .ok (.lushr, 1)) (hr : OGo p e below Φ T (mkF m (pc + 1) Ls (.long (XT.ushrL x y) :: st))) : OGo p e below Φ T (mkF m pc Ls (.int y :: .long x :: st)) := by
  obtain ⟨_, X, -, -, hx, -, hc, -⟩ := N
  obtain ⟨U, o, h1, h2⟩ := hr
  exact ⟨U, o, XT.lushr X.here hx rfl (hb hc hd) rfl h1, h2⟩
theorem k_lcmp (N : ONow p l e R s m args below meth c Z own cd ml ret nm T cells slots K) {x y : Int64} (hd : decode cd pc = .ok (.lcmp, 1)) (hr : OGo p e below Φ T (mkF m (pc + 1) Ls (.int (XT.cmpL x y) :: st))) : OGo p e below Φ T (mkF m pc Ls (.long y :: .long x :: st)) := by
  obtain ⟨_, X, -, -, hx, -, hc, -⟩ := N
  obtain ⟨U, o, h1, h2⟩ := hr
  exact ⟨U, o, XT.lcmp X.here hx rfl (hb hc hd) rfl h1, h2⟩
theorem k_i2l (N : ONow p l e R s m args below meth c Z own cd ml ret nm T cells slots K) {x : Int32} (hd : decode cd pc = .ok (.i2l, 1)) (hr : OGo p e below Φ T (mkF m (pc + 1) Ls (.long x.toInt64 :: st))) : OGo p e below Φ T (mkF m pc Ls (.int x :: st)) := by
  obtain ⟨_, X, -, -, hx, -, hc, -⟩ := N
  obtain ⟨U, o, h1, h2⟩ := hr
  exact ⟨U, o, XT.i2l X.here hx rfl (hb hc hd) rfl h1, h2⟩
theorem k_l2i (N : ONow p l e R s m args below meth c Z own cd ml ret nm T cells slots K) {x : Int64} (hd : decode cd pc = .ok (.l2i, 1)) (hr : OGo p e below Φ T (mkF m (pc + 1) Ls (.int x.toInt32 :: st))) : OGo p e below Φ T (mkF m pc Ls (.long x :: st)) := by
  obtain ⟨_, X, -, -, hx, -, hc, -⟩ := N
  obtain ⟨U, o, h1, h2⟩ := hr
  exact ⟨U, o, XT.l2i X.here hx rfl (hb hc hd) rfl h1, h2⟩
theorem k_i2b (N : ONow p l e R s m args below meth c Z own cd ml ret nm T cells slots K) {x : Int32} (hd : decode cd pc = .ok (.i2b, 1)) (hr : OGo p e below Φ T (mkF m (pc + 1) Ls (.int x.toInt8.toInt32 :: st))) : OGo p e below Φ T (mkF m pc Ls (.int x :: st)) := by
  obtain ⟨_, X, -, -, hx, -, hc, -⟩ := N
  obtain ⟨U, o, h1, h2⟩ := hr
  exact ⟨U, o, XT.i2b X.here hx rfl (hb hc hd) rfl h1, h2⟩
theorem k_i2c (N : ONow p l e R s m args below meth c Z own cd ml ret nm T cells slots K) {x : Int32} (hd : decode cd pc = .ok (.i2c, 1)) (hr : OGo p e below Φ T (mkF m (pc + 1) Ls (.int x.toUInt32.toUInt16.toUInt32.toInt32 :: st))) : OGo p e below Φ T (mkF m pc Ls (.int x :: st)) := by
  obtain ⟨_, X, -, -, hx, -, hc, -⟩ := N
  obtain ⟨U, o, h1, h2⟩ := hr
  exact ⟨U, o, XT.i2c X.here hx rfl (hb hc hd) rfl h1, h2⟩
theorem k_i2s (N : ONow p l e R s m args below meth c Z own cd ml ret nm T cells slots K) {x : Int32} (hd : decode cd pc = .ok (.i2s, 1)) (hr : OGo p e below Φ T (mkF m (pc + 1) Ls (.int x.toInt16.toInt32 :: st))) : OGo p e below Φ T (mkF m pc Ls (.int x :: st)) := by
  obtain ⟨_, X, -, -, hx, -, hc, -⟩ := N
  obtain ⟨U, o, h1, h2⟩ := hr
  exact ⟨U, o, XT.i2s X.here hx rfl (hb hc hd) rfl h1, h2⟩
theorem k_i2d (N : ONow p l e R s m args below meth c Z own cd ml ret nm T cells slots K) {x : Int32} (hd : decode cd pc = .ok (.i2d, 1)) (hr : OGo p e below Φ T (mkF m (pc + 1) Ls (.double (FP.i2d x) :: st))) : OGo p e below Φ T (mkF m pc Ls (.int x :: st)) := by
  obtain ⟨_, X, -, -, hx, -, hc, -⟩ := N
  obtain ⟨U, o, h1, h2⟩ := hr
  exact ⟨U, o, XS.i2dS X.here hx rfl (hb hc hd) rfl rfl h1, h2⟩
theorem k_l2d (N : ONow p l e R s m args below meth c Z own cd ml ret nm T cells slots K) {x : Int64} (hd : decode cd pc = .ok (.l2d, 1)) (hr : OGo p e below Φ T (mkF m (pc + 1) Ls (.double (FP.l2d x) :: st))) : OGo p e below Φ T (mkF m pc Ls (.long x :: st)) := by
  obtain ⟨_, X, -, -, hx, -, hc, -⟩ := N
  obtain ⟨U, o, h1, h2⟩ := hr
  exact ⟨U, o, XS.l2dS X.here hx rfl (hb hc hd) rfl rfl h1, h2⟩
theorem k_d2i (N : ONow p l e R s m args below meth c Z own cd ml ret nm T cells slots K) {x : UInt64} (hd : decode cd pc = .ok (.d2i, 1)) (hr : OGo p e below Φ T (mkF m (pc + 1) Ls (.int (FP.d2i x) :: st))) : OGo p e below Φ T (mkF m pc Ls (.double x :: st)) := by
  obtain ⟨_, X, -, -, hx, -, hc, -⟩ := N
  obtain ⟨U, o, h1, h2⟩ := hr
  exact ⟨U, o, XS.d2iS X.here hx rfl (hb hc hd) rfl rfl h1, h2⟩
theorem k_d2l (N : ONow p l e R s m args below meth c Z own cd ml ret nm T cells slots K) {x : UInt64} (hd : decode cd pc = .ok (.d2l, 1)) (hr : OGo p e below Φ T (mkF m (pc + 1) Ls (.long (FP.d2l x) :: st))) : OGo p e below Φ T (mkF m pc Ls (.double x :: st)) := by
  obtain ⟨_, X, -, -, hx, -, hc, -⟩ := N
  obtain ⟨U, o, h1, h2⟩ := hr
  exact ⟨U, o, XS.d2lS X.here hx rfl (hb hc hd) rfl rfl h1, h2⟩
theorem k_dneg (N : ONow p l e R s m args below meth c Z own cd ml ret nm T cells slots K) {x : UInt64} (hd : decode cd pc = .ok (.dneg, 1)) (hr : OGo p e below Φ T (mkF m (pc + 1) Ls (.double (FP.dneg x) :: st))) : OGo p e below Φ T (mkF m pc Ls (.double x :: st)) := by
  obtain ⟨_, X, -, -, hx, -, hc, -⟩ := N
  obtain ⟨U, o, h1, h2⟩ := hr
  exact ⟨U, o, XS.dnegS X.here hx rfl (hb hc hd) rfl rfl h1, h2⟩
theorem k_dadd (N : ONow p l e R s m args below meth c Z own cd ml ret nm T cells slots K) {x y v : UInt64} (hd : decode cd pc = .ok (.dadd, 1)) (hn : Jvm.Free.Fl.NoNaN64 (FP.dadd x y)) (hv : FP.dadd x y = v) (hr : OGo p e below Φ T (mkF m (pc + 1) Ls (.double v :: st))) : OGo p e below Φ T (mkF m pc Ls (.double y :: .double x :: st)) := by
  obtain ⟨_, X, -, -, hx, -, hc, -⟩ := N
  obtain ⟨U, o, h1, h2⟩ := hr
  exact ⟨U, o, XS.daddS X.here hx rfl (hb hc hd) rfl hn hv h1, h2⟩
theorem k_dsub (N : ONow p l e R s m args below meth c Z own cd ml ret nm T cells slots K) {x y v : UInt64} (hd : decode cd pc = .ok (.dsub, 1)) (hn : Jvm.Free.Fl.NoNaN64 (FP.dsub x y)) (hv : FP.dsub x y = v) (hr : OGo p e below Φ T (mkF m (pc + 1) Ls (.double v :: st))) : OGo p e below Φ T (mkF m pc Ls (.double y :: .double x :: st)) := by
  obtain ⟨_, X, -, -, hx, -, hc, -⟩ := N
  obtain ⟨U, o, h1, h2⟩ := hr
  exact ⟨U, o, XS.dsubS X.here hx rfl (hb hc hd) rfl hn hv h1, h2⟩
theorem k_dmul (N : ONow p l e R s m args below meth c Z own cd ml ret nm T cells slots K) {x y v : UInt64} (hd : decode cd pc = .ok (.dmul, 1)) (hn : Jvm.Free.Fl.NoNaN64 (FP.dmul x y)) (hv : FP.dmul x y = v) (hr : OGo p e below Φ T (mkF m (pc + 1) Ls (.double v :: st))) : OGo p e below Φ T (mkF m pc Ls (.double y :: .double x :: st)) := by
  obtain ⟨_, X, -, -, hx, -, hc, -⟩ := N
  obtain ⟨U, o, h1, h2⟩ := hr
  exact ⟨U, o, XS.dmulS X.here hx rfl (hb hc hd) rfl hn hv h1, h2⟩
theorem k_ddiv (N : ONow p l e R s m args below meth c Z own cd ml ret nm T cells slots K) {x y v : UInt64} (hd : decode cd pc = .ok (.ddiv, 1)) (hn : Jvm.Free.Fl.NoNaN64 (FP.ddiv x y)) (hv : FP.ddiv x y = v) (hr : OGo p e below Φ T (mkF m (pc + 1) Ls (.double v :: st))) : OGo p e below Φ T (mkF m pc Ls (.double y :: .double x :: st)) := by
  obtain ⟨_, X, -, -, hx, -, hc, -⟩ := N
  obtain ⟨U, o, h1, h2⟩ := hr
  exact ⟨U, o, XS.ddivS X.here hx rfl (hb hc hd) rfl hn hv h1, h2⟩
theorem k_dcmp (N : ONow p l e R s m args below meth c Z own cd ml ret nm T cells slots K) {k : CmpOp} {x y : UInt64} {v : Int32} (hd : decode cd pc = .ok (.dcmp k, 1)) (hv : cmpValue (FP.dcmp x y) k = v) (hr : OGo p e below Φ T (mkF m (pc + 1) Ls (.int v :: st))) : OGo p e below Φ T (mkF m pc Ls (.double y :: .double x :: st)) := by
  obtain ⟨_, X, -, -, hx, -, hc, -⟩ := N
  obtain ⟨U, o, h1, h2⟩ := hr
  exact ⟨U, o, XS.dcmpS X.here hx rfl (hb hc hd) rfl hv h1, h2⟩
theorem k_pop (N : ONow p l e R s m args below meth c Z own cd ml ret nm T cells slots K) {x : Value} (hd : decode cd pc = .ok (.pop, 1)) (hk1 : x.category = 1) (hr : OGo p e below Φ T (mkF m (pc + 1) Ls st)) : OGo p e below Φ T (mkF m pc Ls (x :: st)) := by
  obtain ⟨_, X, -, -, hx, -, hc, -⟩ := N
  obtain ⟨U, o, h1, h2⟩ := hr
  exact ⟨U, o, XT.pop X.here hx rfl (hb hc hd) rfl hk1 h1, h2⟩
theorem k_dup (N : ONow p l e R s m args below meth c Z own cd ml ret nm T cells slots K) {x : Value} (hd : decode cd pc = .ok (.dup, 1)) (hk1 : x.category = 1) (hr : OGo p e below Φ T (mkF m (pc + 1) Ls (x :: x :: st))) : OGo p e below Φ T (mkF m pc Ls (x :: st)) := by
  obtain ⟨_, X, -, -, hx, -, hc, -⟩ := N
  obtain ⟨U, o, h1, h2⟩ := hr
  exact ⟨U, o, XS.dup X.here hx rfl (hb hc hd) rfl hk1 h1, h2⟩
theorem k_dup_x1 (N : ONow p l e R s m args below meth c Z own cd ml ret nm T cells slots K) {x y : Value} (hd : decode cd pc = .ok (.dup_x1, 1)) (hk1 : x.category = 1) (hk2 : y.category = 1) (hr : OGo p e below Φ T (mkF m (pc + 1) Ls (x :: y :: x :: st))) : OGo p e below Φ T (mkF m pc Ls (x :: y :: st)) := by
  obtain ⟨_, X, -, -, hx, -, hc, -⟩ := N
  obtain ⟨U, o, h1, h2⟩ := hr
  exact ⟨U, o, XT.dupX1 X.here hx rfl (hb hc hd) rfl hk1 hk2 h1, h2⟩
theorem k_dup2 (N : ONow p l e R s m args below meth c Z own cd ml ret nm T cells slots K) {x y : Value} (hd : decode cd pc = .ok (.dup2, 1)) (hk1 : x.category = 1) (hk2 : y.category = 1) (hr : OGo p e below Φ T (mkF m (pc + 1) Ls (x :: y :: x :: y :: st))) : OGo p e below Φ T (mkF m pc Ls (x :: y :: st)) := by
  obtain ⟨_, X, -, -, hx, -, hc, -⟩ := N
  obtain ⟨U, o, h1, h2⟩ := hr
  exact ⟨U, o, XT.dup2 X.here hx rfl (hb hc hd) rfl hk1 hk2 h1, h2⟩
theorem k_iinc (N : ONow p l e R s m args below meth c Z own cd ml ret nm T cells slots K) {k : Nat} {i : Int} {x v : Int32} {Ls' : Array Slot} (hd : decode cd pc = .ok (.iinc k i, 3)) (hl : Ls[k]? = some (.val (.int x))) (hv : x + Int32.ofInt i = v) (hl' : storeLocals Ls k (.int v) = some Ls') (hr : OGo p e below Φ T (mkF m (pc + 3) Ls' st)) : OGo p e below Φ T (mkF m pc Ls st) := by
  subst hv
  obtain ⟨_, X, -, -, hx, -, hc, -⟩ := N
  obtain ⟨U, o, h1, h2⟩ := hr
  exact ⟨U, o, XS.iinc X.here hx rfl (hb hc hd) hl hl' h1, h2⟩
theorem k_goto (N : ONow p l e R s m args below meth c Z own cd ml ret nm T cells slots K) {i : Int} {pc' : Nat} (hd : decode cd pc = .ok (.goto i, 3)) (hp : 0 ≤ (pc : Int) + i ∧ ((pc : Int) + i).toNat = pc') (hr : OGo p e below Φ T (mkF m pc' Ls st)) : OGo p e below Φ T (mkF m pc Ls st) := by
  obtain ⟨_, X, -, -, hx, -, hc, -⟩ := N
  obtain ⟨U, o, h1, h2⟩ := hr
  exact ⟨U, o, XS.goto X.here hx rfl rfl (hb hc hd) hp.1 hp.2 h1, h2⟩
theorem k_if_eq (N : ONow p l e R s m args below meth c Z own cd ml ret nm T cells slots K) {x : Int32} {i : Int} {pc' : Nat} (hd : decode cd pc = .ok (.ifCond .eq i, 3)) (hp : 0 ≤ (pc : Int) + i ∧ ((pc : Int) + i).toNat = pc') (h1 : x = 0 → OGo p e below Φ T (mkF m pc' Ls st)) (h2 : ¬ x = 0 → OGo p e below Φ T (mkF m (pc + 3) Ls st)) : OGo p e below Φ T (mkF m pc Ls (.int x :: st)) := by
  obtain ⟨_, X, -, -, hx, -, hc, -⟩ := N
  by_cases q : x = 0
  · obtain ⟨U, o, g1, g2⟩ := h1 q
    exact ⟨U, o, XS.ifYes X.here hx rfl rfl (hb hc hd) rfl (XT.i0_eq_t q) hp.1 hp.2 g1, g2⟩
  · obtain ⟨U, o, g1, g2⟩ := h2 q
    exact ⟨U, o, XS.ifNo X.here hx rfl (hb hc hd) rfl (XT.i0_eq_f q) g1, g2⟩
theorem k_if_ne (N : ONow p l e R s m args below meth c Z own cd ml ret nm T cells slots K) {x : Int32} {i : Int} {pc' : Nat} (hd : decode cd pc = .ok (.ifCond .ne i, 3)) (hp : 0 ≤ (pc : Int) + i ∧ ((pc : Int) + i).toNat = pc') (h1 : ¬ x = 0 → OGo p e below Φ T (mkF m pc' Ls st)) (h2 : x = 0 → OGo p e below Φ T (mkF m (pc + 3) Ls st)) : OGo p e below Φ T (mkF m pc Ls (.int x :: st)) := by
  obtain ⟨_, X, -, -, hx, -, hc, -⟩ := N
  by_cases q : ¬ x = 0
  · obtain ⟨U, o, g1, g2⟩ := h1 q
    exact ⟨U, o, XS.ifYes X.here hx rfl rfl (hb hc hd) rfl (XT.i0_ne_t q) hp.1 hp.2 g1, g2⟩
  · obtain ⟨U, o, g1, g2⟩ := h2 (Decidable.not_not.mp q)
    exact ⟨U, o, XS.ifNo X.here hx rfl (hb hc hd) rfl (XT.i0_ne_f (Decidable.not_not.mp q)) g1, g2⟩
theorem k_if_lt (N : ONow p l e R s m args below meth c Z own cd ml ret nm T cells slots K) {x : Int32} {i : Int} {pc' : Nat} (hd : decode cd pc = .ok (.ifCond .lt i, 3)) (hp : 0 ≤ (pc : Int) + i ∧ ((pc : Int) + i).toNat = pc') (h1 : x < 0 → OGo p e below Φ T (mkF m pc' Ls st)) (h2 : ¬ x < 0 → OGo p e below Φ T (mkF m (pc + 3) Ls st)) : OGo p e below Φ T (mkF m pc Ls (.int x :: st)) := by
  obtain ⟨_, X, -, -, hx, -, hc, -⟩ := N
  by_cases q : x < 0
  · obtain ⟨U, o, g1, g2⟩ := h1 q
    exact ⟨U, o, XS.ifYes X.here hx rfl rfl (hb hc hd) rfl (XT.i0_lt_t q) hp.1 hp.2 g1, g2⟩
  · obtain ⟨U, o, g1, g2⟩ := h2 q
    exact ⟨U, o, XS.ifNo X.here hx rfl (hb hc hd) rfl (XT.i0_lt_f q) g1, g2⟩
theorem k_if_ge (N : ONow p l e R s m args below meth c Z own cd ml ret nm T cells slots K) {x : Int32} {i : Int} {pc' : Nat} (hd : decode cd pc = .ok (.ifCond .ge i, 3)) (hp : 0 ≤ (pc : Int) + i ∧ ((pc : Int) + i).toNat = pc') (h1 : ¬ x < 0 → OGo p e below Φ T (mkF m pc' Ls st)) (h2 : x < 0 → OGo p e below Φ T (mkF m (pc + 3) Ls st)) : OGo p e below Φ T (mkF m pc Ls (.int x :: st)) := by
  obtain ⟨_, X, -, -, hx, -, hc, -⟩ := N
  by_cases q : ¬ x < 0
  · obtain ⟨U, o, g1, g2⟩ := h1 q
    exact ⟨U, o, XS.ifYes X.here hx rfl rfl (hb hc hd) rfl (XT.i0_ge_t q) hp.1 hp.2 g1, g2⟩
  · obtain ⟨U, o, g1, g2⟩ := h2 (Decidable.not_not.mp q)
    exact ⟨U, o, XS.ifNo X.here hx rfl (hb hc hd) rfl (XT.i0_ge_f (Decidable.not_not.mp q)) g1, g2⟩
theorem k_if_gt (N : ONow p l e R s m args below meth c Z own cd ml ret nm T cells slots K) {x : Int32} {i : Int} {pc' : Nat} (hd : decode cd pc = .ok (.ifCond .gt i, 3)) (hp : 0 ≤ (pc : Int) + i ∧ ((pc : Int) + i).toNat = pc') (h1 : 0 < x → OGo p e below Φ T (mkF m pc' Ls st)) (h2 : ¬ 0 < x → OGo p e below Φ T (mkF m (pc + 3) Ls st)) : OGo p e below Φ T (mkF m pc Ls (.int x :: st)) := by
  obtain ⟨_, X, -, -, hx, -, hc, -⟩ := N
  by_cases q : 0 < x
  · obtain ⟨U, o, g1, g2⟩ := h1 q
    exact ⟨U, o, XS.ifYes X.here hx rfl rfl (hb hc hd) rfl (XT.i0_gt_t q) hp.1 hp.2 g1, g2⟩
  · obtain ⟨U, o, g1, g2⟩ := h2 q
    exact ⟨U, o, XS.ifNo X.here hx rfl (hb hc hd) rfl (XT.i0_gt_f q) g1, g2⟩
theorem k_if_le (N : ONow p l e R s m args below meth c Z own cd ml ret nm T cells slots K) {x : Int32} {i : Int} {pc' : Nat} (hd : decode cd pc = .ok (.ifCond .le i, 3)) (hp : 0 ≤ (pc : Int) + i ∧ ((pc : Int) + i).toNat = pc') (h1 : ¬ 0 < x → OGo p e below Φ T (mkF m pc' Ls st)) (h2 : 0 < x → OGo p e below Φ T (mkF m (pc + 3) Ls st)) : OGo p e below Φ T (mkF m pc Ls (.int x :: st)) := by
  obtain ⟨_, X, -, -, hx, -, hc, -⟩ := N
  by_cases q : ¬ 0 < x
  · obtain ⟨U, o, g1, g2⟩ := h1 q
    exact ⟨U, o, XS.ifYes X.here hx rfl rfl (hb hc hd) rfl (XT.i0_le_t q) hp.1 hp.2 g1, g2⟩
  · obtain ⟨U, o, g1, g2⟩ := h2 (Decidable.not_not.mp q)
    exact ⟨U, o, XS.ifNo X.here hx rfl (hb hc hd) rfl (XT.i0_le_f (Decidable.not_not.mp q)) g1, g2⟩
theorem k_icmp_eq (N : ONow p l e R s m args below meth c Z own cd ml ret nm T cells slots K) {x y : Int32} {i : Int} {pc' : Nat} (hd : decode cd pc = .ok (.if_icmp .eq i, 3)) (hp : 0 ≤ (pc : Int) + i ∧ ((pc : Int) + i).toNat = pc') (h1 : x = y → OGo p e below Φ T (mkF m pc' Ls st)) (h2 : ¬ x = y → OGo p e below Φ T (mkF m (pc + 3) Ls st)) : OGo p e below Φ T (mkF m pc Ls (.int y :: .int x :: st)) := by
  obtain ⟨_, X, -, -, hx, -, hc, -⟩ := N
  by_cases q : x = y
  · obtain ⟨U, o, g1, g2⟩ := h1 q
    exact ⟨U, o, XS.icmpYes X.here hx rfl rfl (hb hc hd) rfl (XT.ii_eq_t q) hp.1 hp.2 g1, g2⟩
  · obtain ⟨U, o, g1, g2⟩ := h2 q
    exact ⟨U, o, XS.icmpNo X.here hx rfl (hb hc hd) rfl (XT.ii_eq_f q) g1, g2⟩
theorem k_icmp_ne (N : ONow p l e R s m args below meth c Z own cd ml ret nm T cells slots K) {x y : Int32} {i : Int} {pc' : Nat} (hd : decode cd pc = .ok (.if_icmp .ne i, 3)) (hp : 0 ≤ (pc : Int) + i ∧ ((pc : Int) + i).toNat = pc') (h1 : ¬ x = y → OGo p e below Φ T (mkF m pc' Ls st)) (h2 : x = y → OGo p e below Φ T (mkF m (pc + 3) Ls st)) : OGo p e below Φ T (mkF m pc Ls (.int y :: .int x :: st)) := by
  obtain ⟨_, X, -, -, hx, -, hc, -⟩ := N
  by_cases q : ¬ x = y
  · obtain ⟨U, o, g1, g2⟩ := h1 q
    exact ⟨U, o, XS.icmpYes X.here hx rfl rfl (hb hc hd) rfl (XT.ii_ne_t q) hp.1 hp.2 g1, g2⟩
  · obtain ⟨U, o, g1, g2⟩ := h2 (Decidable.not_not.mp q)
    exact ⟨U, o, XS.icmpNo X.here hx rfl (hb hc hd) rfl (XT.ii_ne_f (Decidable.not_not.mp q)) g1, g2⟩
theorem k_icmp_lt (N : ONow p l e R s m args below meth c Z own cd ml ret nm T cells slots K) {x y : Int32} {i : Int} {pc' : Nat} (hd : decode cd pc = .ok (.if_icmp .lt i, 3)) (hp : 0 ≤ (pc : Int) + i ∧ ((pc : Int) + i).toNat = pc') (h1 : x < y → OGo p e below Φ T (mkF m pc' Ls st)) (h2 : ¬ x < y → OGo p e below Φ T (mkF m (pc + 3) Ls st)) : OGo p e below Φ T (mkF m pc Ls (.int y :: .int x :: st)) := by
  obtain ⟨_, X, -, -, hx, -, hc, -⟩ := N
  by_cases q : x < y
  · obtain ⟨U, o, g1, g2⟩ := h1 q
    exact ⟨U, o, XS.icmpYes X.here hx rfl rfl (hb hc hd) rfl (XT.ii_lt_t q) hp.1 hp.2 g1, g2⟩
  · obtain ⟨U, o, g1, g2⟩ := h2 q
    exact ⟨U, o, XS.icmpNo X.here hx rfl (hb hc hd) rfl (XT.ii_lt_f q) g1, g2⟩
theorem k_icmp_ge (N : ONow p l e R s m args below meth c Z own cd ml ret nm T cells slots K) {x y : Int32} {i : Int} {pc' : Nat} (hd : decode cd pc = .ok (.if_icmp .ge i, 3)) (hp : 0 ≤ (pc : Int) + i ∧ ((pc : Int) + i).toNat = pc') (h1 : ¬ x < y → OGo p e below Φ T (mkF m pc' Ls st)) (h2 : x < y → OGo p e below Φ T (mkF m (pc + 3) Ls st)) : OGo p e below Φ T (mkF m pc Ls (.int y :: .int x :: st)) := by
  obtain ⟨_, X, -, -, hx, -, hc, -⟩ := N
  by_cases q : ¬ x < y
  · obtain ⟨U, o, g1, g2⟩ := h1 q
    exact ⟨U, o, XS.icmpYes X.here hx rfl rfl (hb hc hd) rfl (XT.ii_ge_t q) hp.1 hp.2 g1, g2⟩
  · obtain ⟨U, o, g1, g2⟩ := h2 (Decidable.not_not.mp q)
    exact ⟨U, o, XS.icmpNo X.here hx rfl (hb hc hd) rfl (XT.ii_ge_f (Decidable.not_not.mp q)) g1, g2⟩
theorem k_icmp_gt (N : ONow p l e R s m args below meth c Z own cd ml ret nm T cells slots K) {x y : Int32} {i : Int} {pc' : Nat} (hd : decode cd pc = .ok (.if_icmp .gt i, 3)) (hp : 0 ≤ (pc : Int) + i ∧ ((pc : Int) + i).toNat = pc') (h1 : y < x → OGo p e below Φ T (mkF m pc' Ls st)) (h2 : ¬ y < x → OGo p e below Φ T (mkF m (pc + 3) Ls st)) : OGo p e below Φ T (mkF m pc Ls (.int y :: .int x :: st)) := by
  obtain ⟨_, X, -, -, hx, -, hc, -⟩ := N
  by_cases q : y < x
  · obtain ⟨U, o, g1, g2⟩ := h1 q
    exact ⟨U, o, XS.icmpYes X.here hx rfl rfl (hb hc hd) rfl (XT.ii_gt_t q) hp.1 hp.2 g1, g2⟩
  · obtain ⟨U, o, g1, g2⟩ := h2 q
    exact ⟨U, o, XS.icmpNo X.here hx rfl (hb hc hd) rfl (XT.ii_gt_f q) g1, g2⟩
theorem k_icmp_le (N : ONow p l e R s m args below meth c Z own cd ml ret nm T cells slots K) {x y : Int32} {i : Int} {pc' : Nat} (hd : decode cd pc = .ok (.if_icmp .le i, 3)) (hp : 0 ≤ (pc : Int) + i ∧ ((pc : Int) + i).toNat = pc') (h1 : ¬ y < x → OGo p e below Φ T (mkF m pc' Ls st)) (h2 : y < x → OGo p e below Φ T (mkF m (pc + 3) Ls st)) : OGo p e below Φ T (mkF m pc Ls (.int y :: .int x :: st)) := by
  obtain ⟨_, X, -, -, hx, -, hc, -⟩ := N
  by_cases q : ¬ y < x
  · obtain ⟨U, o, g1, g2⟩ := h1 q
    exact ⟨U, o, XS.icmpYes X.here hx rfl rfl (hb hc hd) rfl (XT.ii_le_t q) hp.1 hp.2 g1, g2⟩
  · obtain ⟨U, o, g1, g2⟩ := h2 (Decidable.not_not.mp q)
    exact ⟨U, o, XS.icmpNo X.here hx rfl (hb hc hd) rfl (XT.ii_le_f (Decidable.not_not.mp q)) g1, g2⟩
theorem k_ifnull_yes (N : ONow p l e R s m args below meth c Z own cd ml ret nm T cells slots K) {i : Int} {pc' : Nat} (hd : decode cd pc = .ok (.ifnull i, 3)) (hp : 0 ≤ (pc : Int) + i ∧ ((pc : Int) + i).toNat = pc') (hr : OGo p e below Φ T (mkF m pc' Ls st)) : OGo p e below Φ T (mkF m pc Ls (.null :: st)) := by
  obtain ⟨_, X, -, -, hx, -, hc, -⟩ := N
  obtain ⟨U, o, h1, h2⟩ := hr
  exact ⟨U, o, XS.ifnullYes X.here hx rfl rfl (hb hc hd) rfl hp.1 hp.2 h1, h2⟩
theorem k_ifnull_no (N : ONow p l e R s m args below meth c Z own cd ml ret nm T cells slots K) {b : Addr} {i : Int} (hd : decode cd pc = .ok (.ifnull i, 3)) (hr : OGo p e below Φ T (mkF m (pc + 3) Ls st)) : OGo p e below Φ T (mkF m pc Ls (.ref b :: st)) := by
  obtain ⟨_, X, -, -, hx, -, hc, -⟩ := N
  obtain ⟨U, o, h1, h2⟩ := hr
  exact ⟨U, o, XS.ifnullNo X.here hx rfl (hb hc hd) rfl h1, h2⟩
theorem k_ifnonnull_yes (N : ONow p l e R s m args below meth c Z own cd ml ret nm T cells slots K) {b : Addr} {i : Int} {pc' : Nat} (hd : decode cd pc = .ok (.ifnonnull i, 3)) (hp : 0 ≤ (pc : Int) + i ∧ ((pc : Int) + i).toNat = pc') (hr : OGo p e below Φ T (mkF m pc' Ls st)) : OGo p e below Φ T (mkF m pc Ls (.ref b :: st)) := by
  obtain ⟨_, X, -, -, hx, -, hc, -⟩ := N
  obtain ⟨U, o, h1, h2⟩ := hr
  exact ⟨U, o, XT.ifnonnullYes X.here hx rfl rfl (hb hc hd) rfl hp.1 hp.2 h1, h2⟩
theorem k_ifnonnull_no (N : ONow p l e R s m args below meth c Z own cd ml ret nm T cells slots K) {i : Int} (hd : decode cd pc = .ok (.ifnonnull i, 3)) (hr : OGo p e below Φ T (mkF m (pc + 3) Ls st)) : OGo p e below Φ T (mkF m pc Ls (.null :: st)) := by
  obtain ⟨_, X, -, -, hx, -, hc, -⟩ := N
  obtain ⟨U, o, h1, h2⟩ := hr
  exact ⟨U, o, XT.ifnonnullNo X.here hx rfl (hb hc hd) rfl h1, h2⟩
theorem k_acmp (N : ONow p l e R s m args below meth c Z own cd ml ret nm T cells slots K) {k : ACond} {x y : Value} {same : Bool} {i : Int} {pc' : Nat} (hd : decode cd pc = .ok (.if_acmp k i, 3)) (h1 : x.isRef = true) (h2 : y.isRef = true) (hq : decide (x = y) = same) (hp : 0 ≤ (pc : Int) + i ∧ pc' = if acV k same = true then ((pc : Int) + i).toNat else pc + 3) (hr : OGo p e below Φ T (mkF m pc' Ls st)) : OGo p e below Φ T (mkF m pc Ls (y :: x :: st)) := by
  obtain ⟨_, X, -, -, hx, -, hc, -⟩ := N
  obtain ⟨U, o, g1, g2⟩ := hr
  exact ⟨U, o, Jvm.RoadKit.acmp X hx rfl h1 h2 rfl (hb hc hd) rfl hq hp.1 hp.2 g1, g2⟩
theorem k_ldcI (N : ONow p l e R s m args below meth c Z own cd ml ret nm T cells slots K) {i : Nat} {v : Int32} (hd : decode cd pc = .ok (.ldc i, 2)) (w : (Cond.constant own i v).before a0 Z = true) (hr : OGo p e below Φ T (mkF m (pc + 2) Ls (.int v :: st))) : OGo p e below Φ T (mkF m pc Ls st) := by
  obtain ⟨_, X, -, -, hx, hZ, hc, -, ho, -⟩ := N
  obtain ⟨U, o, h1, h2⟩ := hr
  exact ⟨U, o, X.ldcInt hx ho (mv hZ w) (g := mkF m pc Ls st) rfl (hb hc hd) _ h1, h2⟩
theorem k_ldcJ (N : ONow p l e R s m args below meth c Z own cd ml ret nm T cells slots K) {i : Nat} {v : Int64} (hd : decode cd pc = .ok (.ldc2_w i, 3)) (w : (Cond.constantLong own i v).before a0 Z = true) (hr : OGo p e below Φ T (mkF m (pc + 3) Ls (.long v :: st))) : OGo p e below Φ T (mkF m pc Ls st) := by
  obtain ⟨_, X, -, -, hx, hZ, hc, -, ho, -⟩ := N
  obtain ⟨U, o, h1, h2⟩ := hr
  exact ⟨U, o, X.ldc2Long hx ho (mv hZ w) (g := mkF m pc Ls st) rfl (hb hc hd) _ h1, h2⟩
theorem k_ldcD (N : ONow p l e R s m args below meth c Z own cd ml ret nm T cells slots K) {i : Nat} {v : UInt64} (hd : decode cd pc = .ok (.ldc2_w i, 3)) (w : (Cond.constantDouble own i v).before a0 Z = true) (hr : OGo p e below Φ T (mkF m (pc + 3) Ls (.double v :: st))) : OGo p e below Φ T (mkF m pc Ls st) := by
  obtain ⟨_, X, -, -, hx, hZ, hc, -, ho, -⟩ := N
  obtain ⟨U, o, h1, h2⟩ := hr
  exact ⟨U, o, X.ldc2DoubleC hx ho (mv hZ w) (g := mkF m pc Ls st) rfl (hb hc hd) _ h1, h2⟩
theorem k_get (N : ONow p l e R s m args below meth c Z own cd ml ret nm T cells slots K) {R0 O n d host C : String} {idx : Nat} {a : Addr} {v : Value} {fs : List FV} (i j : Nat) (hd : decode cd pc = .ok (.getfield idx, 3)) (w : (Cond.fieldLink own idx R0 n d).before a0 Z = true ∨ (Cond.fieldLinkNest own idx R0 n d host).before a0 Z = true) (via : Via Z R0 O n d) (hi : K[i]? = some (oObj Z a C fs)) (hj : fs[j]? = some (O, n, d, v)) (hr : ∀ T', ONow p l e R s m args below meth c Z own cd ml ret nm T' cells slots K → OGo p e below Φ T' (mkF m (pc + 3) Ls (v :: st))) : OGo p e below Φ T (mkF m pc Ls (.ref a :: st)) := by
  obtain ⟨locs, X, n1, n2, hx, hZ, hc, hm, ho, r⟩ := N
  obtain ⟨T', X', e', stp⟩ := getF (host := host) X hx hZ ho w via rfl (n2.fld hi hj) (g := mkF m pc Ls (.ref a :: st)) rfl rfl (hb hc hd)
  obtain ⟨U, o, h1, h2⟩ := hr T' ⟨locs, X', n1, by rw [e']; exact n2, hx, hZ, hc, hm, ho, r⟩
  exact ⟨U, o, stp _ h1, h2⟩
theorem k_put (N : ONow p l e R s m args below meth c Z own cd ml ret nm T cells slots K) {R0 O n d host C : String} {idx kk : Nat} {a : Addr} {v old : Value} {fs : List FV} {ty : FieldType} {K' : List Ent} (i j : Nat) (hd : decode cd pc = .ok (.putfield idx, 3)) (w : (Cond.fieldLink own idx R0 n d).before a0 Z = true ∨ (Cond.fieldLinkNest own idx R0 n d host).before a0 Z = true) (via : Via Z R0 O n d) (hi : K[i]? = some (oObj Z a C fs)) (hj : fs[j]? = some (O, n, d, old))
    (L : (Cond.lays C O n d).before a0 Z = true ∨ ((Cond.laysFinal C O n d).before a0 Z = true ∧ own = O ∧ nm = "<init>")) (wi : (Cond.instantiable C kk).before a0 Z = true) (hty : parseFieldDescriptor d = some ty) (hn : narrow ty v = v) (hf : fits ty v = true) (hK : K.set i (oObj Z a C (fs.set j (O, n, d, v))) = K') (hr : ∀ T', ONow p l e R s m args below meth c Z own cd ml ret nm T' cells slots K' → OGo p e below Φ T' (mkF m (pc + 3) Ls st)) : OGo p e below Φ T (mkF m pc Ls (v :: .ref a :: st)) := by
  subst hK
  obtain ⟨locs, X, n1, n2, hx, hZ, hc, hm, ho, h5, hnm, h7⟩ := N
  obtain ⟨T', h', X', e', W, stp⟩ := putF (host := host) X hx hZ ho w via rfl (n2.fld hi hj) (n2.exa hi) (L.imp id fun q => ⟨q.1, q.2.1, hnm.trans q.2.2⟩) wi hty hn hf (g := mkF m pc Ls (v :: .ref a :: st)) rfl rfl (hb hc hd)
  subst e'
  obtain ⟨U, o, h1, h2⟩ := hr T' ⟨_, X', Fr.snoc X' n1 (n2.at hi).1, n2.put hi hj W, hx, hZ, hc, hm, ho, h5, hnm, h7⟩
  exact ⟨U, o, stp _ h1, h2⟩
theorem k_getS (N : ONow p l e R s m args below meth c Z own cd ml ret nm T cells slots K) {R0 O n d : String} {idx : Nat} {v : Value} (hd : decode cd pc = .ok (.getstatic idx, 3)) (w : (Cond.fieldLink own idx R0 n d).before a0 Z = true) (via : Via Z R0 O n d) (F : Sta Z Z.heap O n d v) (hr : ∀ T', ONow p l e R s m args below meth c Z own cd ml ret nm T' cells slots K → OGo p e below Φ T' (mkF m (pc + 3) Ls (v :: st))) : OGo p e below Φ T (mkF m pc Ls st) := by
  obtain ⟨locs, X, n1, n2, hx, hZ, hc, hm, ho, r⟩ := N
  obtain ⟨T', X', e', stp⟩ := getS (host := "") X hx hZ ho w via rfl (F.ext n2.1) (g := mkF m pc Ls st) rfl (hb hc hd)
  obtain ⟨U, o, h1, h2⟩ := hr T' ⟨locs, X', n1, by rw [e']; exact n2, hx, hZ, hc, hm, ho, r⟩
  exact ⟨U, o, stp _ h1, h2⟩
theorem k_getOld (N : ONow p l e R s m args below meth c Z own cd ml ret nm T cells slots K) {R0 O n d host : String} {idx : Nat} {a : Addr} {v : Value} (hd : decode cd pc = .ok (.getfield idx, 3)) (w : (Cond.fieldLink own idx R0 n d).before a0 Z = true ∨ (Cond.fieldLinkNest own idx R0 n d host).before a0 Z = true) (via : Via Z R0 O n d) (F : Fld Z Z.heap a O n d v) (hr : ∀ T', ONow p l e R s m args below meth c Z own cd ml ret nm T' cells slots K → OGo p e below Φ T' (mkF m (pc + 3) Ls (v :: st))) : OGo p e below Φ T (mkF m pc Ls (.ref a :: st)) := by
  obtain ⟨locs, X, n1, n2, hx, hZ, hc, hm, ho, r⟩ := N
  obtain ⟨T', X', e', stp⟩ := getF (host := host) X hx hZ ho w via rfl (F.ext n2.1) (g := mkF m pc Ls (.ref a :: st)) rfl rfl (hb hc hd)
  obtain ⟨U, o, h1, h2⟩ := hr T' ⟨locs, X', n1, by rw [e']; exact n2, hx, hZ, hc, hm, ho, r⟩
  exact ⟨U, o, stp _ h1, h2⟩
theorem k_new (N : ONow p l e R s m args below meth c Z own cd ml ret nm T cells slots K) {C : String} {idx n : Nat} {fs : List FV} (hd : decode cd pc = .ok (.new idx, 3)) (w : (Cond.classLink own idx C).before a0 Z = true) (wi : (Cond.instantiable C n).before a0 Z = true) (wz : (Cond.initialized C).before a0 Z = true) (L : LaidL Z a0 C fs) (hnd : (fs.map fun f => f.2.1).Nodup) (h1 : cells + 1 ≤ R.cells) (h2 : slots + n ≤ R.slots) (hr : ∀ T' a, ONow p l e R s m args below meth c Z own cd ml ret nm T' (cells + 1) (slots + n) (oObj Z a C fs :: K) → OGo p e below Φ T' (mkF m (pc + 3) Ls (.ref a :: st))) : OGo p e below Φ T (mkF m pc Ls st) := by
  obtain ⟨locs, X, n1, n2, hx, hZ, hc, hm, ho, r⟩ := N
  obtain ⟨T', h', X', e', E, A, D, -, stp⟩ := newO X hx hZ ho w wi wz rfl (g := mkF m pc Ls st) rfl (hb hc hd) h1 h2
  subst e'
  obtain ⟨cell, k, a1, a2, a3, a4, a5⟩ := A
  have M := LaidL.mem fs L
  have hP : (oObj Z T.heap.size C fs).2 cell := ⟨⟨k, a2, a3, a4, a5⟩, L.keys hnd, fun f hf => by
    obtain ⟨Lf, ty, p1, p2⟩ := M f hf
    obtain ⟨c2, cf, k2, i2, f2, g1, g2⟩ := D Lf p1
    cases a1.symm.trans g1
    rw [← p2] at g2
    exact ⟨cf, k2, i2, f2, g2⟩⟩
  obtain ⟨U, o, h1, h2⟩ := hr T' T.heap.size ⟨locs, X', n1, n2.cons E a1 hP, hx, hZ, hc, hm, ho, r⟩
  exact ⟨U, o, stp _ h1, h2⟩
theorem k_newarray (N : ONow p l e R s m args below meth c Z own cd ml ret nm T cells slots K) {aty : ArrayType} {n : Int32} {ty : FieldType} {vs : List Value} (cap : Nat) (hd : decode cd pc = .ok (.newarray aty, 2)) (ht : newarray.typeOf aty = ty) (w : (Cond.arrayClass ty).before a0 Z = true) (hn : ¬ n < 0) (hcap : n.toNatClampNeg ≤ cap) (hb0 : cap * 8 ≤ 536870912) (hv : List.replicate n.toNatClampNeg (defaultValue ty) = vs) (h1 : cells + 1 ≤ R.cells) (h2 : slots + cap ≤ R.slots) (hr : ∀ T' a k, ONow p l e R s m args below meth c Z own cd ml ret nm T' (cells + 1) (slots + cap) (oArr Z a k ty vs :: K) → OGo p e below Φ T' (mkF m (pc + 2) Ls (.ref a :: st))) : OGo p e below Φ T (mkF m pc Ls (.int n :: st)) := by
  subst ht hv
  obtain ⟨locs, X, n1, n2, hx, hZ, hc, hm, ho, r⟩ := N
  obtain ⟨T', h', cA, X', e', E, A, stp⟩ := newP X hx hZ w rfl (g := mkF m pc Ls (.int n :: st)) rfl (hb hc hd) rfl hn hcap hb0 h1 h2
  subst e'
  have hP : (oArr Z T.heap.size cA (newarray.typeOf aty) (List.replicate n.toNatClampNeg (defaultValue (newarray.typeOf aty)))).2 (newA cA (newarray.typeOf aty) n) := ⟨A.2.1, A.2.2, rfl, by simp [newA], by simp; omega⟩
  obtain ⟨U, o, h1, h2⟩ := hr T' T.heap.size cA ⟨locs, X', n1, n2.cons E A.1 hP, hx, hZ, hc, hm, ho, r⟩
  exact ⟨U, o, stp _ h1, h2⟩
theorem inb {j : Int32} {n : Nat} (h1 : ¬ j < 0) (h2 : j.toNatClampNeg < n) : ¬ (j < 0 ∨ n ≤ j.toNatClampNeg) := fun q => q.elim h1 fun r => absurd h2 (Nat.not_lt.mpr r)
theorem lt_of_some {α : Type} {l : List α} {i : Nat} {x : α} (h : l[i]? = some x) : i < l.length := (List.getElem?_eq_some_iff.mp h).1
theorem k_arraylength (N : ONow p l e R s m args below meth c Z own cd ml ret nm T cells slots K) {a : Addr} {k : ClassId} {ty : FieldType} {vs : List Value} {z : Int32} (i : Nat) (hd : decode cd pc = .ok (.arraylength, 1)) (hi : K[i]? = some (oArr Z a k ty vs)) (hz : vs.length.toInt32 = z) (hr : OGo p e below Φ T (mkF m (pc + 1) Ls (.int z :: st))) : OGo p e below Φ T (mkF m pc Ls (.ref a :: st)) := by
  subst hz
  obtain ⟨locs, X, n1, n2, hx, hZ, hc, hm, ho, r⟩ := N
  obtain ⟨cl, A, -, A2, A3⟩ := n2.arr hi
  obtain ⟨U, o, h1, h2⟩ := hr
  exact ⟨U, o, X.arraylength hx A.1 (State.isArrayOf_alike hZ.alike A.2.1) (g := mkF m pc Ls (.ref a :: st)) rfl rfl (hb hc hd) _ (by rw [A2]; simpa using h1), h2⟩
theorem k_iaload (N : ONow p l e R s m args below meth c Z own cd ml ret nm T cells slots K) {a : Addr} {k : ClassId} {vs : List Value} {j : Int32} {v : Value} (i jn : Nat) (hd : decode cd pc = .ok (.iaload, 1)) (hi : K[i]? = some (oArr Z a k .int vs)) (h0 : ¬ j < 0) (hjn : j.toNatClampNeg = jn) (hv : vs[jn]? = some v) (hr : OGo p e below Φ T (mkF m (pc + 1) Ls (v :: st))) : OGo p e below Φ T (mkF m pc Ls (.int j :: .ref a :: st)) := by
  subst hjn
  obtain ⟨locs, X, n1, n2, hx, hZ, hc, hm, ho, r⟩ := N
  obtain ⟨cl, A, -, A2, A3⟩ := n2.arr hi
  obtain ⟨U, o, h1, h2⟩ := hr
  exact ⟨U, o, X.iaload hx A.1 (State.isArrayOf_alike hZ.alike A.2.1) A.2.2 (inb h0 (by rw [A2]; simpa using lt_of_some hv)) (by rw [A2]; simpa using hv) (g := mkF m pc Ls (.int j :: .ref a :: st)) rfl rfl (hb hc hd) _ h1, h2⟩
theorem k_laload (N : ONow p l e R s m args below meth c Z own cd ml ret nm T cells slots K) {a : Addr} {k : ClassId} {vs : List Value} {j : Int32} {v : Value} (i jn : Nat) (hd : decode cd pc = .ok (.laload, 1)) (hi : K[i]? = some (oArr Z a k .long vs)) (h0 : ¬ j < 0) (hjn : j.toNatClampNeg = jn) (hv : vs[jn]? = some v) (hr : OGo p e below Φ T (mkF m (pc + 1) Ls (v :: st))) : OGo p e below Φ T (mkF m pc Ls (.int j :: .ref a :: st)) := by
  subst hjn
  obtain ⟨locs, X, n1, n2, hx, hZ, hc, hm, ho, r⟩ := N
  obtain ⟨cl, A, -, A2, A3⟩ := n2.arr hi
  obtain ⟨U, o, h1, h2⟩ := hr
  exact ⟨U, o, X.laload hx A.1 (State.isArrayOf_alike hZ.alike A.2.1) A.2.2 (inb h0 (by rw [A2]; simpa using lt_of_some hv)) (by rw [A2]; simpa using hv) (g := mkF m pc Ls (.int j :: .ref a :: st)) rfl rfl (hb hc hd) _ h1, h2⟩
theorem k_daload (N : ONow p l e R s m args below meth c Z own cd ml ret nm T cells slots K) {a : Addr} {k : ClassId} {vs : List Value} {j : Int32} {v : Value} (i jn : Nat) (hd : decode cd pc = .ok (.daload, 1)) (hi : K[i]? = some (oArr Z a k .double vs)) (h0 : ¬ j < 0) (hjn : j.toNatClampNeg = jn) (hv : vs[jn]? = some v) (hr : OGo p e below Φ T (mkF m (pc + 1) Ls (v :: st))) : OGo p e below Φ T (mkF m pc Ls (.int j :: .ref a :: st)) := by
  subst hjn
  obtain ⟨locs, X, n1, n2, hx, hZ, hc, hm, ho, r⟩ := N
  obtain ⟨cl, A, -, A2, A3⟩ := n2.arr hi
  obtain ⟨U, o, h1, h2⟩ := hr
  exact ⟨U, o, X.daload hx A.1 (State.isArrayOf_alike hZ.alike A.2.1) A.2.2 (inb h0 (by rw [A2]; simpa using lt_of_some hv)) (by rw [A2]; simpa using hv) (g := mkF m pc Ls (.int j :: .ref a :: st)) rfl rfl (hb hc hd) _ h1, h2⟩
theorem k_caload (N : ONow p l e R s m args below meth c Z own cd ml ret nm T cells slots K) {a : Addr} {k : ClassId} {vs : List Value} {j : Int32} {v : Value} (i jn : Nat) (hd : decode cd pc = .ok (.caload, 1)) (hi : K[i]? = some (oArr Z a k .char vs)) (h0 : ¬ j < 0) (hjn : j.toNatClampNeg = jn) (hv : vs[jn]? = some v) (hr : OGo p e below Φ T (mkF m (pc + 1) Ls (v :: st))) : OGo p e below Φ T (mkF m pc Ls (.int j :: .ref a :: st)) := by
  subst hjn
  obtain ⟨locs, X, n1, n2, hx, hZ, hc, hm, ho, r⟩ := N
  obtain ⟨cl, A, -, A2, A3⟩ := n2.arr hi
  obtain ⟨U, o, h1, h2⟩ := hr
  exact ⟨U, o, X.caload hx A.1 (State.isArrayOf_alike hZ.alike A.2.1) A.2.2 (inb h0 (by rw [A2]; simpa using lt_of_some hv)) (by rw [A2]; simpa using hv) (g := mkF m pc Ls (.int j :: .ref a :: st)) rfl rfl (hb hc hd) _ h1, h2⟩
theorem k_baloadB (N : ONow p l e R s m args below meth c Z own cd ml ret nm T cells slots K) {a : Addr} {k : ClassId} {vs : List Value} {j : Int32} {v : Value} (i jn : Nat) (hd : decode cd pc = .ok (.baload, 1)) (hi : K[i]? = some (oArr Z a k .byte vs)) (h0 : ¬ j < 0) (hjn : j.toNatClampNeg = jn) (hv : vs[jn]? = some v) (hr : OGo p e below Φ T (mkF m (pc + 1) Ls (v :: st))) : OGo p e below Φ T (mkF m pc Ls (.int j :: .ref a :: st)) := by
  subst hjn
  obtain ⟨locs, X, n1, n2, hx, hZ, hc, hm, ho, r⟩ := N
  obtain ⟨cl, A, -, A2, A3⟩ := n2.arr hi
  obtain ⟨U, o, h1, h2⟩ := hr
  exact ⟨U, o, X.baloadBytes hx A.1 (State.isArrayOf_alike hZ.alike A.2.1) A.2.2 (inb h0 (by rw [A2]; simpa using lt_of_some hv)) (by rw [A2]; simpa using hv) (g := mkF m pc Ls (.int j :: .ref a :: st)) rfl rfl (hb hc hd) _ h1, h2⟩
theorem k_baloadZ (N : ONow p l e R s m args below meth c Z own cd ml ret nm T cells slots K) {a : Addr} {k : ClassId} {vs : List Value} {j : Int32} {v : Value} (i jn : Nat) (hd : decode cd pc = .ok (.baload, 1)) (hi : K[i]? = some (oArr Z a k .boolean vs)) (h0 : ¬ j < 0) (hjn : j.toNatClampNeg = jn) (hv : vs[jn]? = some v) (hr : OGo p e below Φ T (mkF m (pc + 1) Ls (v :: st))) : OGo p e below Φ T (mkF m pc Ls (.int j :: .ref a :: st)) := by
  subst hjn
  obtain ⟨locs, X, n1, n2, hx, hZ, hc, hm, ho, r⟩ := N
  obtain ⟨cl, A, -, A2, A3⟩ := n2.arr hi
  obtain ⟨U, o, h1, h2⟩ := hr
  exact ⟨U, o, X.baloadBooleans hx A.1 (State.isArrayOf_alike hZ.alike A.2.1) A.2.2 (inb h0 (by rw [A2]; simpa using lt_of_some hv)) (by rw [A2]; simpa using hv) (g := mkF m pc Ls (.int j :: .ref a :: st)) rfl rfl (hb hc hd) _ h1, h2⟩
theorem k_aaload (N : ONow p l e R s m args below meth c Z own cd ml ret nm T cells slots K) {a : Addr} {k : ClassId} {ty : FieldType} {vs : List Value} {j : Int32} {v : Value} (i jn : Nat) (hd : decode cd pc = .ok (.aaload, 1)) (hi : K[i]? = some (oArr Z a k ty vs)) (hrt : ty.isReference = true) (h0 : ¬ j < 0) (hjn : j.toNatClampNeg = jn) (hv : vs[jn]? = some v) (hr : OGo p e below Φ T (mkF m (pc + 1) Ls (v :: st))) : OGo p e below Φ T (mkF m pc Ls (.int j :: .ref a :: st)) := by
  subst hjn
  obtain ⟨locs, X, n1, n2, hx, hZ, hc, hm, ho, r⟩ := N
  obtain ⟨cl, A, -, A2, A3⟩ := n2.arr hi
  obtain ⟨U, o, h1, h2⟩ := hr
  exact ⟨U, o, X.aaload hx A.1 (State.isArrayOf_alike hZ.alike A.2.1) hrt A.2.2 (inb h0 (by rw [A2]; simpa using lt_of_some hv)) (by rw [A2]; simpa using hv) (g := mkF m pc Ls (.int j :: .ref a :: st)) rfl rfl (hb hc hd) _ h1, h2⟩
theorem k_iastore (N : ONow p l e R s m args below meth c Z own cd ml ret nm T cells slots K) {a : Addr} {k : ClassId} {vs : List Value} {j : Int32} {x : Int32} {v : Value} {K' : List Ent} (i jn : Nat) (hd : decode cd pc = .ok (.iastore, 1)) (hi : K[i]? = some (oArr Z a k .int vs)) (h0 : ¬ j < 0) (hjn : j.toNatClampNeg = jn) (hlt : jn < vs.length) (hv : Value.int x = v) (hK : K.set i (oArr Z a k .int (vs.set jn v)) = K') (hr : ∀ T', ONow p l e R s m args below meth c Z own cd ml ret nm T' cells slots K' → OGo p e below Φ T' (mkF m (pc + 1) Ls st)) : OGo p e below Φ T (mkF m pc Ls (.int x :: .int j :: .ref a :: st)) := by
  subst hjn hv hK
  obtain ⟨locs, X, n1, n2, hx, hZ, hc, hm, ho, r⟩ := N
  obtain ⟨cl, A, -, A2, A3⟩ := n2.arr hi
  obtain ⟨T', h', X', e', W, stp⟩ := stI X hx hZ rfl A (inb h0 (by rw [A2]; simpa using hlt)) (g := mkF m pc Ls (.int x :: .int j :: .ref a :: st)) rfl rfl (hb hc hd)
  subst e'
  obtain ⟨U, o, h1, h2⟩ := hr T' ⟨_, X', Fr.snoc X' n1 (n2.at hi).1, n2.putA hi W, hx, hZ, hc, hm, ho, r⟩
  exact ⟨U, o, stp _ h1, h2⟩
theorem k_lastore (N : ONow p l e R s m args below meth c Z own cd ml ret nm T cells slots K) {a : Addr} {k : ClassId} {vs : List Value} {j : Int32} {x : Int64} {v : Value} {K' : List Ent} (i jn : Nat) (hd : decode cd pc = .ok (.lastore, 1)) (hi : K[i]? = some (oArr Z a k .long vs)) (h0 : ¬ j < 0) (hjn : j.toNatClampNeg = jn) (hlt : jn < vs.length) (hv : Value.long x = v) (hK : K.set i (oArr Z a k .long (vs.set jn v)) = K') (hr : ∀ T', ONow p l e R s m args below meth c Z own cd ml ret nm T' cells slots K' → OGo p e below Φ T' (mkF m (pc + 1) Ls st)) : OGo p e below Φ T (mkF m pc Ls (.long x :: .int j :: .ref a :: st)) := by
  subst hjn hv hK
  obtain ⟨locs, X, n1, n2, hx, hZ, hc, hm, ho, r⟩ := N
  obtain ⟨cl, A, -, A2, A3⟩ := n2.arr hi
  obtain ⟨T', h', X', e', W, stp⟩ := stJ X hx hZ rfl A (inb h0 (by rw [A2]; simpa using hlt)) (g := mkF m pc Ls (.long x :: .int j :: .ref a :: st)) rfl rfl (hb hc hd)
  subst e'
  obtain ⟨U, o, h1, h2⟩ := hr T' ⟨_, X', Fr.snoc X' n1 (n2.at hi).1, n2.putA hi W, hx, hZ, hc, hm, ho, r⟩
  exact ⟨U, o, stp _ h1, h2⟩
theorem k_dastore (N : ONow p l e R s m args below meth c Z own cd ml ret nm T cells slots K) {a : Addr} {k : ClassId} {vs : List Value} {j : Int32} {x : UInt64} {v : Value} {K' : List Ent} (i jn : Nat) (hd : decode cd pc = .ok (.dastore, 1)) (hi : K[i]? = some (oArr Z a k .double vs)) (h0 : ¬ j < 0) (hjn : j.toNatClampNeg = jn) (hlt : jn < vs.length) (hv : Value.double x = v) (hK : K.set i (oArr Z a k .double (vs.set jn v)) = K') (hr : ∀ T', ONow p l e R s m args below meth c Z own cd ml ret nm T' cells slots K' → OGo p e below Φ T' (mkF m (pc + 1) Ls st)) : OGo p e below Φ T (mkF m pc Ls (.double x :: .int j :: .ref a :: st)) := by
  subst hjn hv hK
  obtain ⟨locs, X, n1, n2, hx, hZ, hc, hm, ho, r⟩ := N
  obtain ⟨cl, A, -, A2, A3⟩ := n2.arr hi
  obtain ⟨T', h', X', e', W, stp⟩ := stD X hx hZ rfl A (inb h0 (by rw [A2]; simpa using hlt)) (g := mkF m pc Ls (.double x :: .int j :: .ref a :: st)) rfl rfl (hb hc hd)
  subst e'
  obtain ⟨U, o, h1, h2⟩ := hr T' ⟨_, X', Fr.snoc X' n1 (n2.at hi).1, n2.putA hi W, hx, hZ, hc, hm, ho, r⟩
  exact ⟨U, o, stp _ h1, h2⟩
theorem k_castore (N : ONow p l e R s m args below meth c Z own cd ml ret nm T cells slots K) {a : Addr} {k : ClassId} {vs : List Value} {j : Int32} {x : Int32} {v : Value} {K' : List Ent} (i jn : Nat) (hd : decode cd pc = .ok (.castore, 1)) (hi : K[i]? = some (oArr Z a k .char vs)) (h0 : ¬ j < 0) (hjn : j.toNatClampNeg = jn) (hlt : jn < vs.length) (hv : Value.int (nar .char x) = v) (hK : K.set i (oArr Z a k .char (vs.set jn v)) = K') (hr : ∀ T', ONow p l e R s m args below meth c Z own cd ml ret nm T' cells slots K' → OGo p e below Φ T' (mkF m (pc + 1) Ls st)) : OGo p e below Φ T (mkF m pc Ls (.int x :: .int j :: .ref a :: st)) := by
  subst hjn hv hK
  obtain ⟨locs, X, n1, n2, hx, hZ, hc, hm, ho, r⟩ := N
  obtain ⟨cl, A, -, A2, A3⟩ := n2.arr hi
  obtain ⟨T', h', X', e', W, stp⟩ := stC X hx hZ rfl A (inb h0 (by rw [A2]; simpa using hlt)) (g := mkF m pc Ls (.int x :: .int j :: .ref a :: st)) rfl rfl (hb hc hd)
  subst e'
  obtain ⟨U, o, h1, h2⟩ := hr T' ⟨_, X', Fr.snoc X' n1 (n2.at hi).1, n2.putA hi W, hx, hZ, hc, hm, ho, r⟩
  exact ⟨U, o, stp _ h1, h2⟩
theorem k_bastoreB (N : ONow p l e R s m args below meth c Z own cd ml ret nm T cells slots K) {a : Addr} {k : ClassId} {vs : List Value} {j : Int32} {x : Int32} {v : Value} {K' : List Ent} (i jn : Nat) (hd : decode cd pc = .ok (.bastore, 1)) (hi : K[i]? = some (oArr Z a k .byte vs)) (h0 : ¬ j < 0) (hjn : j.toNatClampNeg = jn) (hlt : jn < vs.length) (hv : Value.int (nar .byte x) = v) (hK : K.set i (oArr Z a k .byte (vs.set jn v)) = K') (hr : ∀ T', ONow p l e R s m args below meth c Z own cd ml ret nm T' cells slots K' → OGo p e below Φ T' (mkF m (pc + 1) Ls st)) : OGo p e below Φ T (mkF m pc Ls (.int x :: .int j :: .ref a :: st)) := by
  subst hjn hv hK
  obtain ⟨locs, X, n1, n2, hx, hZ, hc, hm, ho, r⟩ := N
  obtain ⟨cl, A, -, A2, A3⟩ := n2.arr hi
  obtain ⟨T', h', X', e', W, stp⟩ := stB X hx hZ rfl A (inb h0 (by rw [A2]; simpa using hlt)) (g := mkF m pc Ls (.int x :: .int j :: .ref a :: st)) rfl rfl (hb hc hd)
  subst e'
  obtain ⟨U, o, h1, h2⟩ := hr T' ⟨_, X', Fr.snoc X' n1 (n2.at hi).1, n2.putA hi W, hx, hZ, hc, hm, ho, r⟩
  exact ⟨U, o, stp _ h1, h2⟩
theorem k_bastoreZ (N : ONow p l e R s m args below meth c Z own cd ml ret nm T cells slots K) {a : Addr} {k : ClassId} {vs : List Value} {j : Int32} {x : Int32} {v : Value} {K' : List Ent} (i jn : Nat) (hd : decode cd pc = .ok (.bastore, 1)) (hi : K[i]? = some (oArr Z a k .boolean vs)) (h0 : ¬ j < 0) (hjn : j.toNatClampNeg = jn) (hlt : jn < vs.length) (hv : Value.int (nar .boolean x) = v) (hK : K.set i (oArr Z a k .boolean (vs.set jn v)) = K') (hr : ∀ T', ONow p l e R s m args below meth c Z own cd ml ret nm T' cells slots K' → OGo p e below Φ T' (mkF m (pc + 1) Ls st)) : OGo p e below Φ T (mkF m pc Ls (.int x :: .int j :: .ref a :: st)) := by
  subst hjn hv hK
  obtain ⟨locs, X, n1, n2, hx, hZ, hc, hm, ho, r⟩ := N
  obtain ⟨cl, A, -, A2, A3⟩ := n2.arr hi
  obtain ⟨T', h', X', e', W, stp⟩ := stZ X hx hZ rfl A (inb h0 (by rw [A2]; simpa using hlt)) (g := mkF m pc Ls (.int x :: .int j :: .ref a :: st)) rfl rfl (hb hc hd)
  subst e'
  obtain ⟨U, o, h1, h2⟩ := hr T' ⟨_, X', Fr.snoc X' n1 (n2.at hi).1, n2.putA hi W, hx, hZ, hc, hm, ho, r⟩
  exact ⟨U, o, stp _ h1, h2⟩
theorem initO_k (N : ONow p l e R s m args below meth c Z own cd ml ret nm T cells slots K) {idx : Nat} {a : Addr} (W : Nat) (hd : decode cd pc = .ok (.invokespecial idx, 3)) (w1 : (Cond.methodLink own idx Lib.objectInit).before a0 Z = true) (w2 : (Cond.instanceMethod Lib.objectInit).before a0 Z = true) (w3 : (Cond.code Lib.objectInit ⟨#[0xb1]⟩ 1 none).before a0 Z = true) (hls : Ls.size = ml) (hW : (st.map fun v => v.category).sum = W) (hf : 1 ≤ R.frames) (hlo : W + 12 ≤ R.locals) (hr : ∀ T', ONow p l e R s m args below meth c Z own cd ml ret nm T' cells slots K → OGo p e below Φ T' (mkF m (pc + 3) Ls st)) : OGo p e below Φ T (mkF m pc Ls (.ref a :: st)) := by
  obtain ⟨locs, X, n1, n2, hx, hZ, hc, hm, ho, r⟩ := N
  obtain ⟨T', X', e', stp⟩ := initO X hx hZ ho w1 w2 w3 rfl (g := mkF m pc Ls (.ref a :: st)) rfl (by rw [hm]; exact hls) rfl (hb hc hd) hf (W := W) (by show 2 * 0 + _ ≤ _; rw [Nat.zero_add]; exact Nat.le_of_eq hW) hlo
  obtain ⟨U, o, h1, h2⟩ := hr T' ⟨locs, X', n1, by rw [e']; exact n2, hx, hZ, hc, hm, ho, r⟩
  exact ⟨U, o, stp _ h1, h2⟩
theorem k_static (N : ONow p l e R s m args below meth c Z own cd ml ret nm T cells slots K) {y : MethodName} {bytes : ByteArray} {maxL : Nat} {rt : Option FieldType} {rm : Room} {Q : Option Value → List Ent → Prop} {idx : Nat} {rest : List Value} {ps : List FieldType} {rp : Option FieldType} {cells' slots' : Nat} (as : List Value) (hd : decode cd pc = .ok (.invokestatic idx, 3)) (w1 : (Cond.methodLink own idx y).before a0 Z = true) (w2 : (Cond.static y).before a0 Z = true) (w3 : (Cond.initialized y.cls).before a0 Z = true) (w4 : (Cond.code y bytes maxL rt).before a0 Z = true) (hy : y.cls ≠ "java/lang/invoke/MethodHandle" ∧ y.cls ≠ "java/lang/invoke/VarHandle") (hpd : parseMethodDescriptor y.desc = some ⟨ps, rp⟩) (hlen : as.length = ps.length) (hM : OMeets l y bytes maxL rt rm Z as K Q) (hst : st = as.reverse ++ rest) (hls : Ls.size = ml) (W : Nat) (hW : (rest.map fun v => v.category).sum = W) (hf : rm.frames + 1 ≤ R.frames) (hlo : W + (maxL + 11) + rm.locals ≤ R.locals) (hce : cells + rm.cells = cells') (hse : slots + rm.slots = slots') (hc1 : cells' ≤ R.cells) (hs1 : slots' ≤ R.slots) (hr : ∀ T' v K', ONow p l e R s m args below meth c Z own cd ml ret nm T' cells' slots' K' → Q v K' → OGo p e below Φ T' (mkF m (pc + 3) Ls (v.toList ++ rest))) : OGo p e below Φ T (mkF m pc Ls st) := by
  subst hce hse hst
  obtain ⟨locs, X, n1, n2, hx, hZ, hc, hm, ho, r⟩ := N
  have := Jvm.LawKit.callS X hx (y := y) ho (mvT hZ w1) (mvT hZ w2) (mvT hZ w3) (mvT hZ w4) hy (backOf (W := W) (Q := fun v h L => Fr Z.heap.size L ∧ ∃ K', OKnow Z h K' ∧ Q v K') (hM [] T.heap n2) hZ w4 w3 hf hlo) (g := mkF m pc Ls (as.reverse ++ rest)) rfl (by rw [hm]; exact hls) (argsL := as) (rest := rest) (lenOf hpd hlen) rfl (by show 2 * 0 + _ ≤ _; rw [Nat.zero_add]; exact Nat.le_of_eq hW) (hb hc hd) (fun _ _ => ⟨rfl, rfl, hc1, hs1⟩)
  obtain ⟨v, vm₁, ⟨T', L', k', n'⟩, -, X', ⟨Lc, ⟨q1, K', q2, q3⟩, e1, e2, e3⟩, stp⟩ := this
  dsimp only [Pt.U, Pt.locs, Pt.cells, Pt.slots] at X' e1 e2 e3 stp q2
  subst e1 e2 e3
  obtain ⟨U, o, h1, h2⟩ := hr T' v K' ⟨_, X', Fr.app n1 q1, q2, hx, hZ, hc, hm, ho, r⟩ q3
  exact ⟨U, o, stp _ h1, h2⟩
theorem k_special (N : ONow p l e R s m args below meth c Z own cd ml ret nm T cells slots K) {y : MethodName} {bytes : ByteArray} {maxL : Nat} {rm : Room} {Q : Option Value → List Ent → Prop} {idx : Nat} {rest : List Value} {ps : List FieldType} {rp : Option FieldType} {cells' slots' : Nat} (as : List Value) {a : Addr} (hd : decode cd pc = .ok (.invokespecial idx, 3)) (hy1 : y.name = "<init>") (w1 : (Cond.methodLink own idx y).before a0 Z = true) (w2 : (Cond.instanceMethod y).before a0 Z = true) (w3 : (Cond.initialized y.cls).before a0 Z = true) (w4 : (Cond.code y bytes maxL none).before a0 Z = true) (hy : y.cls ≠ "java/lang/invoke/MethodHandle" ∧ y.cls ≠ "java/lang/invoke/VarHandle") (hpd : parseMethodDescriptor y.desc = some ⟨ps, rp⟩) (hlen : as.length = ps.length) (hM : OMeets l y bytes maxL none rm Z (.ref a :: as) K Q) (hst : st = as.reverse ++ .ref a :: rest) (hls : Ls.size = ml) (W : Nat) (hW : (rest.map fun v => v.category).sum = W) (hf : rm.frames + 1 ≤ R.frames) (hlo : W + (maxL + 11) + rm.locals ≤ R.locals) (hce : cells + rm.cells = cells') (hse : slots + rm.slots = slots') (hc1 : cells' ≤ R.cells) (hs1 : slots' ≤ R.slots) (hr : ∀ T' v K', ONow p l e R s m args below meth c Z own cd ml ret nm T' cells' slots' K' → Q v K' → OGo p e below Φ T' (mkF m (pc + 3) Ls (v.toList ++ rest))) : OGo p e below Φ T (mkF m pc Ls st) := by
  subst hce hse hst
  obtain ⟨locs, X, n1, n2, hx, hZ, hc, hm, ho, r⟩ := N
  have := X.specialBack hx (y := y) hy1 ho (mvT hZ w1) (mvT hZ w2) (mvT hZ w4) hy (backOf (W := W) (Q := fun v h L => Fr Z.heap.size L ∧ ∃ K', OKnow Z h K' ∧ Q v K') (hM [] T.heap n2) hZ w4 w3 hf hlo) (g := mkF m pc Ls (as.reverse ++ .ref a :: rest)) rfl (by rw [hm]; exact hls) (Steps.refl _) (a := a) (argsL := as) (rest := rest) (lenOf hpd hlen) rfl (by show 2 * 0 + _ ≤ _; rw [Nat.zero_add]; exact Nat.le_of_eq hW) (hb hc hd) (fun _ _ => ⟨rfl, rfl, hc1, hs1⟩)
  obtain ⟨v, vm₁, ⟨T', L', k', n'⟩, -, X', ⟨Lc, ⟨q1, K', q2, q3⟩, e1, e2, e3⟩, stp⟩ := this
  dsimp only [Pt.U, Pt.locs, Pt.cells, Pt.slots] at X' e1 e2 e3 stp q2
  subst e1 e2 e3
  obtain ⟨U, o, h1, h2⟩ := hr T' v K' ⟨_, X', Fr.app n1 q1, q2, hx, hZ, hc, hm, ho, r⟩ q3
  exact ⟨U, o, stp.trans h1, h2⟩
theorem k_virtual (N : ONow p l e R s m args below meth c Z own cd ml ret nm T cells slots K) {y : MethodName} {bytes : ByteArray} {maxL : Nat} {rt : Option FieldType} {rm : Room} {Q : Option Value → List Ent → Prop} {idx : Nat} {rest : List Value} {ps : List FieldType} {rp : Option FieldType} {cells' slots' : Nat} {C : String} {z : MethodName} (as : List Value) {a : Addr} (hd : decode cd pc = .ok (.invokevirtual idx, 3)) (hE : ∀ h, OKnow Z h K → Exa Z h a C) (w1 : (Cond.methodLink own idx z).before a0 Z = true) (w2 : (Cond.declares z).before a0 Z = true) (nf : ∀ s' : State, Z.Warmed39 s'.vm → NotFace s' z) (w5 : (Cond.selects C z y).before a0 Z = true) (w6 : (Cond.instanceMethod y).before a0 Z = true) (w3 : (Cond.initialized y.cls).before a0 Z = true) (w4 : (Cond.code y bytes maxL rt).before a0 Z = true) (hy : z.cls ≠ "java/lang/invoke/MethodHandle" ∧ z.cls ≠ "java/lang/invoke/VarHandle") (hpd : parseMethodDescriptor z.desc = some ⟨ps, rp⟩) (hlen : as.length = ps.length) (hM : OMeets l y bytes maxL rt rm Z (.ref a :: as) K Q) (hst : st = as.reverse ++ .ref a :: rest) (hls : Ls.size = ml) (W : Nat) (hW : (rest.map fun v => v.category).sum = W) (hf : rm.frames + 1 ≤ R.frames) (hlo : W + (maxL + 11) + rm.locals ≤ R.locals) (hce : cells + rm.cells = cells') (hse : slots + rm.slots = slots') (hc1 : cells' ≤ R.cells) (hs1 : slots' ≤ R.slots) (hr : ∀ T' v K', ONow p l e R s m args below meth c Z own cd ml ret nm T' cells' slots' K' → Q v K' → OGo p e below Φ T' (mkF m (pc + 3) Ls (v.toList ++ rest))) : OGo p e below Φ T (mkF m pc Ls st) := by
  subst hce hse hst
  obtain ⟨locs, X, n1, n2, hx, hZ, hc, hm, ho, r⟩ := N
  obtain ⟨cq, kq, qa, qb, qc⟩ := isOf hZ rfl (hE _ n2)
  have := X.virtualBack hx (y := z) (z := y) ho (mvT hZ w1) (mvT hZ w2) (nf s hZ) (mvT hZ w5) (mvT hZ w6) hy (backOf (W := W) (Q := fun v h L => Fr Z.heap.size L ∧ ∃ K', OKnow Z h K' ∧ Q v K') (hM [] T.heap n2) hZ w4 w3 hf hlo) qa qc (g := mkF m pc Ls (as.reverse ++ .ref a :: rest)) rfl (by rw [hm]; exact hls) (Steps.refl _) (argsL := as) (rest := rest) (lenOf hpd hlen) rfl (by show 2 * 0 + _ ≤ _; rw [Nat.zero_add]; exact Nat.le_of_eq hW) (hb hc hd) (fun _ _ => ⟨rfl, rfl, hc1, hs1⟩)
  obtain ⟨v, vm₁, ⟨T', L', k', n'⟩, -, X', ⟨Lc, ⟨q1, K', q2, q3⟩, e1, e2, e3⟩, stp⟩ := this
  dsimp only [Pt.U, Pt.locs, Pt.cells, Pt.slots] at X' e1 e2 e3 stp q2
  subst e1 e2 e3
  obtain ⟨U, o, h1, h2⟩ := hr T' v K' ⟨_, X', Fr.app n1 q1, q2, hx, hZ, hc, hm, ho, r⟩ q3
  exact ⟨U, o, stp.trans h1, h2⟩
theorem nf_self {C : String} {y : MethodName} (w : (Cond.selects C y y).before a0 Z = true) : ∀ s' : State, Z.Warmed39 s'.vm → NotFace s' y := fun s' hZ => notFace_of_selects (args := #[]) (mvT hZ w)
theorem k_private (N : ONow p l e R s m args below meth c Z own cd ml ret nm T cells slots K) {y : MethodName} {bytes : ByteArray} {maxL : Nat} {rt : Option FieldType} {rm : Room} {Q : Option Value → List Ent → Prop} {idx : Nat} {rest : List Value} {ps : List FieldType} {rp : Option FieldType} {cells' slots' : Nat} {fs : List FV} {kk : Nat} (as : List Value) {a : Addr} (i : Nat) (hd : decode cd pc = .ok (.invokevirtual idx, 3)) (hi : K[i]? = some (oObj Z a y.cls fs)) (wi : (Cond.instantiable y.cls kk).before a0 Z = true) (w1 : (Cond.methodLink own idx y).before a0 Z = true) (w2 : (Cond.instanceMethod y).before a0 Z = true) (w5 : (Cond.privateMethod y).before a0 Z = true) (w3 : (Cond.initialized y.cls).before a0 Z = true) (w4 : (Cond.code y bytes maxL rt).before a0 Z = true) (hy : y.cls ≠ "java/lang/invoke/MethodHandle" ∧ y.cls ≠ "java/lang/invoke/VarHandle") (hpd : parseMethodDescriptor y.desc = some ⟨ps, rp⟩) (hlen : as.length = ps.length) (hM : OMeets l y bytes maxL rt rm Z (.ref a :: as) K Q) (hst : st = as.reverse ++ .ref a :: rest) (hls : Ls.size = ml) (W : Nat) (hW : (rest.map fun v => v.category).sum = W) (hf : rm.frames + 1 ≤ R.frames) (hlo : W + (maxL + 11) + rm.locals ≤ R.locals) (hce : cells + rm.cells = cells') (hse : slots + rm.slots = slots') (hc1 : cells' ≤ R.cells) (hs1 : slots' ≤ R.slots) (hr : ∀ T' v K', ONow p l e R s m args below meth c Z own cd ml ret nm T' cells' slots' K' → Q v K' → OGo p e below Φ T' (mkF m (pc + 3) Ls (v.toList ++ rest))) : OGo p e below Φ T (mkF m pc Ls st) := by
  subst hce hse hst
  obtain ⟨locs, X, n1, n2, hx, hZ, hc, hm, ho, r⟩ := N
  obtain ⟨cq, q1, q2⟩ := (n2.exa hi).cell
  have hpv := Cond.privateMethod_at (mvP (args := #[]) hZ w5)
  obtain ⟨ci, ki, i1, i2, -, i4, -⟩ := Cond.instantiable_spec (mv (args := args) hZ wi)
  have hsel : (Cond.selects y.cls y y).before args s = true := selects_self_of_private i1 i2 (by simp only [Bool.or_eq_false_iff] at i4; exact i4.1) hpv (mvT hZ w2) hy
  have := X.privateBack hx (y := y) ho (mvT hZ w1) (mvT hZ w2) hsel hpv (mvT hZ w4) hy (backOf (W := W) (Q := fun v h L => Fr Z.heap.size L ∧ ∃ K', OKnow Z h K' ∧ Q v K') (hM [] T.heap n2) hZ w4 w3 hf hlo) (g := mkF m pc Ls (as.reverse ++ .ref a :: rest)) rfl (by rw [hm]; exact hls) (Steps.refl _) (a := a) q1 q2 (argsL := as) (rest := rest) (lenOf hpd hlen) rfl (by show 2 * 0 + _ ≤ _; rw [Nat.zero_add]; exact Nat.le_of_eq hW) (hb hc hd) (fun _ _ => ⟨rfl, rfl, hc1, hs1⟩)
  obtain ⟨v, vm₁, ⟨T', L', k', n'⟩, -, X', ⟨Lc, ⟨q1, K', q2, q3⟩, e1, e2, e3⟩, stp⟩ := this
  dsimp only [Pt.U, Pt.locs, Pt.cells, Pt.slots] at X' e1 e2 e3 stp q2
  subst e1 e2 e3
  obtain ⟨U, o, h1, h2⟩ := hr T' v K' ⟨_, X', Fr.app n1 q1, q2, hx, hZ, hc, hm, ho, r⟩ q3
  exact ⟨U, o, stp.trans h1, h2⟩
theorem k_doubleBits (N : ONow p l e R s m args below meth c Z own cd ml ret nm T cells slots K) {idx : Nat} {b : UInt64} (W : Nat) (hd : decode cd pc = .ok (.invokestatic idx, 3)) (w1 : (Cond.methodLink own idx Jvm.Free.NT.doubleBitsN).before a0 Z = true) (w2 : (Cond.static Jvm.Free.NT.doubleBitsN).before a0 Z = true) (w3 : (Cond.initialized "java/lang/Double").before a0 Z = true) (w4 : (Cond.native Jvm.Free.NT.doubleBitsN).before a0 Z = true) (hls : Ls.size = ml) (hW : (st.map fun v => v.category).sum = W) (hf : 1 ≤ R.frames) (hlo : W + 15 ≤ R.locals) (hr : ∀ T', ONow p l e R s m args below meth c Z own cd ml ret nm T' cells slots K → OGo p e below Φ T' (mkF m (pc + 3) Ls (.long b.toInt64 :: st))) : OGo p e below Φ T (mkF m pc Ls (.double b :: st)) := by
  obtain ⟨locs, X, n1, n2, hx, hZ, hc, hm, ho, r⟩ := N
  obtain ⟨mk, methM, hnamed, hmethM, -, -, -, hsig⟩ := Cond.native_spec (mvT (args := args) hZ w4)
  obtain ⟨v, vm₁, B, hW₁, X', ⟨hB, hv⟩, stp⟩ := Stand.staticBack X hx (y := Jvm.Free.NT.doubleBitsN) ho (mvT hZ w1) (mvT hZ w2) (mvT hZ w3) hnamed hmethM hsig (by decide) (Jvm.Free.NT.DoubleBits.pays (mvT hZ w4) (mvT hZ w2) hf hlo) (g := mkF m pc Ls (.double b :: st)) rfl (by rw [hm]; exact hls) (Steps.refl _) (argsL := [.double b]) (rest := st) (lenOf (ps := [.double]) (r := some .long) (by decide +kernel) rfl) rfl (by show 2 * 0 + _ ≤ _; rw [Nat.zero_add]; exact Nat.le_of_eq hW) (hb hc hd) (fun _ _ => ⟨b, rfl⟩)
  have hv1 : v = some (.long b.toInt64) := hv b rfl
  subst hB hv1
  obtain ⟨U, o, h1, h2⟩ := hr _ ⟨locs, X', n1, n2, hx, hZ, hc, hm, ho, r⟩
  exact ⟨U, o, stp.trans h1, h2⟩
theorem exa_of_arr {h : Heap} {i : Nat} {a : Addr} {k : ClassId} {ty : FieldType} {vs : List Value} {ad : String} (n2 : OKnow Z h K) (hi : K[i]? = some (oArr Z a k ty vs)) (hk : Z.vm.findClass ad = some k) : Exa Z h a ad := by
  obtain ⟨c, A, h1, -, -⟩ := n2.arr hi
  obtain ⟨q0, kc, q1, comp, q2⟩ := A.2.1
  exact ⟨c, kc, A.1, by rw [h1]; exact hk, q1, A.plain, fun w => by rw [q2] at w; cases w⟩
theorem k_newarrayC (N : ONow p l e R s m args below meth c Z own cd ml ret nm T cells slots K) {aty : ArrayType} {n : Int32} {ty : FieldType} {vs : List Value} {ad : String} (cap : Nat) (hd : decode cd pc = .ok (.newarray aty, 2)) (ht : newarray.typeOf aty = ty) (had : "[" ++ ty.toString = ad) (w : (Cond.arrayClass ty).before a0 Z = true) (hn : ¬ n < 0) (hcap : n.toNatClampNeg ≤ cap) (hb0 : cap * 8 ≤ 536870912) (hv : List.replicate n.toNatClampNeg (defaultValue ty) = vs) (h1 : cells + 1 ≤ R.cells) (h2 : slots + cap ≤ R.slots) (hr : ∀ T' a k, Z.vm.findClass ad = some k → ONow p l e R s m args below meth c Z own cd ml ret nm T' (cells + 1) (slots + cap) (oArr Z a k ty vs :: K) → OGo p e below Φ T' (mkF m (pc + 2) Ls (.ref a :: st))) : OGo p e below Φ T (mkF m pc Ls (.int n :: st)) := by
  subst ht hv had
  obtain ⟨locs, X, n1, n2, hx, hZ, hc, hm, ho, r⟩ := N
  have hcb : componentBytes (newarray.typeOf aty) ≤ 8 := by cases aty <;> decide
  obtain ⟨cA, kA, comp, g1, g2, g3, X', stp⟩ := X.newarrayPrim hx (mvA hZ w) (g := mkF m pc Ls (.int n :: st)) rfl (hb hc hd) rfl hn (Nat.le_trans (Nat.mul_le_mul hcap hcb) hb0) h1 (by omega)
  rw [hZ.alike.findClass] at g1
  obtain ⟨kZ, z1, -⟩ := Vm.findClass_spec g1
  obtain ⟨k', z2, z3⟩ := hZ.alike.2.2 _ _ z1
  cases g2.symm.trans z2
  have kk : kZ.kind = .array comp (newarray.typeOf aty) := by rw [← g3, z3]
  have hN : (T.heap.push (newA cA (newarray.typeOf aty) n))[T.heap.size]? = some (newA cA (newarray.typeOf aty) n) := by simp
  have E : Ext T.heap (T.heap.push (newA cA (newarray.typeOf aty) n)) := ⟨by simp, fun a c h => by rw [Array.getElem?_push_lt (Array.getElem?_eq_some_iff.mp h).1]; exact (Array.getElem?_eq_getElem _).symm.trans h⟩
  have hP : (oArr Z T.heap.size cA (newarray.typeOf aty) (List.replicate n.toNatClampNeg (defaultValue (newarray.typeOf aty)))).2 (newA cA (newarray.typeOf aty) n) := ⟨⟨by simp [newA], kZ, z1, comp, kk⟩, by simp [newA], rfl, by simp [newA], by simp; omega⟩
  obtain ⟨U, o, h1, h2⟩ := hr _ T.heap.size cA g1 ⟨locs, X'.more (Nat.le_refl _) (by omega), n1, n2.cons E hN hP, hx, hZ, hc, hm, ho, r⟩
  exact ⟨U, o, stp _ h1, h2⟩
theorem k_clone (N : ONow p l e R s m args below meth c Z own cd ml ret nm T cells slots K) {idx : Nat} {a : Addr} {k : ClassId} {ty : FieldType} {vs : List Value} {ad : String} (i W cap : Nat) (hd : decode cd pc = .ok (.invokevirtual idx, 3)) (hi : K[i]? = some (oArr Z a k ty vs)) (hk : Z.vm.findClass ad = some k) (hf : ∀ v ∈ vs, fits ty v = true)
    (w1 : (Cond.methodLink own idx ⟨ad, "clone", "()Ljava/lang/Object;"⟩).before a0 Z = true) (w2 : (Cond.sameMethod ad "java/lang/Object" "clone" "()Ljava/lang/Object;").before a0 Z = true) (w3 : (Cond.native ⟨"java/lang/Object", "clone", "()Ljava/lang/Object;"⟩).before a0 Z = true) (w4 : (Cond.instanceMethod ⟨"java/lang/Object", "clone", "()Ljava/lang/Object;"⟩).before a0 Z = true) (w5 : (Cond.selects ad ⟨ad, "clone", "()Ljava/lang/Object;"⟩ ⟨"java/lang/Object", "clone", "()Ljava/lang/Object;"⟩).before a0 Z = true) (w6 : (Cond.castable ad "java/lang/Cloneable").before a0 Z = true)
    (hls : Ls.size = ml) (hW : (st.map fun v => v.category).sum = W) (hfr : 1 ≤ R.frames) (hlo : W + 14 ≤ R.locals) (hcap : vs.length ≤ cap) (h1 : cells + 1 ≤ R.cells) (h2 : slots + cap ≤ R.slots) (hr : ∀ T' b, ONow p l e R s m args below meth c Z own cd ml ret nm T' (cells + 1) (slots + cap) (oArr Z b k ty vs :: K) → OGo p e below Φ T' (mkF m (pc + 3) Ls (.ref b :: st))) : OGo p e below Φ T (mkF m pc Ls (.ref a :: st)) := by
  obtain ⟨locs, X, n1, n2, hx, hZ, hc, hm, ho, r⟩ := N
  obtain ⟨cl, A, A1, A2, A3⟩ := n2.arr hi
  have F : FitC Z cl := fun j v hv => by
    obtain ⟨q0, kc, q1, comp, q2⟩ := A.2.1
    have e : Z.slotType? cl.cls .none j = some ty := by simp [State.slotType?, q1, q2]
    have hm : v ∈ vs := by rw [A2] at hv; exact List.mem_of_getElem? (by simpa using hv)
    simp [State.fitsSlot, e, hf v hm]
  obtain ⟨T', h', X', e', E, B, -, stp⟩ := cloneA X hx hZ ho w1 w2 w3 w4 w5 w6 rfl A (exa_of_arr n2 hi hk) F (g := mkF m pc Ls (.ref a :: st)) rfl (by rw [hm]; exact hls) rfl (hb hc hd) hfr (W := W) (cap := cap) (by show 2 * 0 + _ ≤ _; rw [Nat.zero_add]; exact Nat.le_of_eq hW) hlo (by rw [A2]; simpa using hcap) h1 h2
  subst e'
  have hP : (oArr Z T.heap.size k ty vs).2 (cloneOf cl) := ⟨B.2.1, B.2.2, A1, A2, A3⟩
  obtain ⟨U, o, h1, h2⟩ := hr T' T.heap.size ⟨locs, X', n1, n2.cons E B.1 hP, hx, hZ, hc, hm, ho, r⟩
  exact ⟨U, o, stp _ h1, h2⟩
theorem k_checkcast (N : ONow p l e R s m args below meth c Z own cd ml ret nm T cells slots K) {idx : Nat} {a : Addr} {C : String} (hd : decode cd pc = .ok (.checkcast idx, 3)) (w : (Cond.classLink own idx C).before a0 Z = true) (hI : ∀ h, OKnow Z h K → Ins Z h a C true) (hr : ∀ T', ONow p l e R s m args below meth c Z own cd ml ret nm T' cells slots K → OGo p e below Φ T' (mkF m (pc + 3) Ls (.ref a :: st))) : OGo p e below Φ T (mkF m pc Ls (.ref a :: st)) := by
  obtain ⟨locs, X, n1, n2, hx, hZ, hc, hm, ho, r⟩ := N
  obtain ⟨T', X', e', stp⟩ := castY X hx hZ ho w rfl (hI _ n2) (g := mkF m pc Ls (.ref a :: st)) rfl rfl (hb hc hd)
  obtain ⟨U, o, h1, h2⟩ := hr T' ⟨locs, X', n1, by rw [e']; exact n2, hx, hZ, hc, hm, ho, r⟩
  exact ⟨U, o, stp _ h1, h2⟩
theorem k_absD (N : ONow p l e R s m args below meth c Z own cd ml ret nm T cells slots K) {idx : Nat} {x : UInt64} {bytes : ByteArray} (W : Nat) (hd : decode cd pc = .ok (.invokestatic idx, 3)) (hby : bytes = Jvm.Free.Fl.Abs.absDCode) (w1 : (Cond.methodLink own idx Jvm.Free.Fl.Abs.absDN).before a0 Z = true) (w2 : (Cond.static Jvm.Free.Fl.Abs.absDN).before a0 Z = true) (w3 : (Cond.initialized "java/lang/Math").before a0 Z = true) (w4 : (Cond.code Jvm.Free.Fl.Abs.absDN bytes 2 (some .double)).before a0 Z = true) (hn : Jvm.Free.Fl.NoNaN64 x) (hls : Ls.size = ml) (hW : (st.map fun v => v.category).sum = W) (hf : 1 ≤ R.frames) (hlo : W + 13 ≤ R.locals) (hc1 : cells ≤ R.cells) (hs1 : slots ≤ R.slots) (hr : ∀ T', ONow p l e R s m args below meth c Z own cd ml ret nm T' cells slots K → OGo p e below Φ T' (mkF m (pc + 3) Ls (.double (x &&& 0x7fffffffffffffff) :: st))) : OGo p e below Φ T (mkF m pc Ls (.double x :: st)) := by
  subst hby
  obtain ⟨locs, X, n1, n2, hx, hZ, hc, hm, ho, r⟩ := N
  obtain ⟨T', X', e', stp⟩ := natS X hx hZ ho w1 w2 w3 w4 (by decide) rfl (W := W) (F := fun a' => a' = #[.double x] ∧ Jvm.Free.Fl.NoNaN64 x) (val' := .double (x &&& 0x7fffffffffffffff)) (fun c4 => Jvm.Free.Fl.Abs.absD_pays x c4 hf hlo) (g := mkF m pc Ls (.double x :: st)) rfl (by rw [hm]; exact hls) (argsL := [.double x]) (rest := st) (lenOf (ps := [.double]) (r := some .double) (by decide +kernel) rfl) rfl (by show 2 * 0 + _ ≤ _; rw [Nat.zero_add]; exact Nat.le_of_eq hW) (hb hc hd) hc1 hs1 ⟨rfl, hn⟩ rfl
  obtain ⟨U, o, h1, h2⟩ := hr T' ⟨locs, X', n1, by rw [e']; exact n2, hx, hZ, hc, hm, ho, r⟩
  exact ⟨U, o, stp _ h1, h2⟩
theorem k_alenOld (N : ONow p l e R s m args below meth c Z own cd ml ret nm T cells slots K) {a : Addr} {cl : Cell} {ty : FieldType} {z : Int32} (hd : decode cd pc = .ok (.arraylength, 1)) (A : Arr Z Z.heap a cl ty) (hz : cl.slots.size.toInt32 = z) (hr : OGo p e below Φ T (mkF m (pc + 1) Ls (.int z :: st))) : OGo p e below Φ T (mkF m pc Ls (.ref a :: st)) := by
  subst hz
  obtain ⟨locs, X, n1, n2, hx, hZ, hc, hm, ho, r⟩ := N
  obtain ⟨U, o, h1, h2⟩ := hr
  exact ⟨U, o, X.arraylength hx (A.ext n2.1).1 (State.isArrayOf_alike hZ.alike A.2.1) (g := mkF m pc Ls (.ref a :: st)) rfl rfl (hb hc hd) _ h1, h2⟩
theorem k_aaloadOld (N : ONow p l e R s m args below meth c Z own cd ml ret nm T cells slots K) {a : Addr} {cl : Cell} {ty : FieldType} {j : Int32} {v : Value} (hd : decode cd pc = .ok (.aaload, 1)) (A : Arr Z Z.heap a cl ty) (hrt : ty.isReference = true) (hj : ¬ (j < 0 ∨ cl.slots.size ≤ j.toNatClampNeg)) (hv : cl.slots[j.toNatClampNeg]? = some v) (hr : OGo p e below Φ T (mkF m (pc + 1) Ls (v :: st))) : OGo p e below Φ T (mkF m pc Ls (.int j :: .ref a :: st)) := by
  obtain ⟨locs, X, n1, n2, hx, hZ, hc, hm, ho, r⟩ := N
  obtain ⟨U, o, h1, h2⟩ := hr
  exact ⟨U, o, X.aaload hx (A.ext n2.1).1 (State.isArrayOf_alike hZ.alike A.2.1) hrt A.2.2 hj hv (g := mkF m pc Ls (.int j :: .ref a :: st)) rfl rfl (hb hc hd) _ h1, h2⟩
theorem k_ldcWI (N : ONow p l e R s m args below meth c Z own cd ml ret nm T cells slots K) {i : Nat} {v : Int32} (hd : decode cd pc = .ok (.ldc_w i, 3)) (w : (Cond.constant own i v).before a0 Z = true) (hr : OGo p e below Φ T (mkF m (pc + 3) Ls (.int v :: st))) : OGo p e below Φ T (mkF m pc Ls st) := by
  obtain ⟨_, X, -, -, hx, hZ, hc, -, ho, -⟩ := N
  obtain ⟨U, o, h1, h2⟩ := hr
  exact ⟨U, o, X.ldcWInt hx ho (mv hZ w) (g := mkF m pc Ls st) rfl (hb hc hd) _ h1, h2⟩
theorem k_ireturn (N : ONow p l e R s m args below meth c Z own cd ml ret nm T cells slots K) {z : Int32} {Q : Option Value → List Ent → Prop} {rm : Room} (hd : decode cd pc = .ok (.ireturn, 1)) (hret : ret = some .int) (h1 : cells ≤ rm.cells) (h2 : slots ≤ rm.slots) (hq : Q (some (.int z)) K) : OGo p e below (OPost Z s Q rm) T (mkF m pc Ls (.int z :: st)) := by
  obtain ⟨locs, X, n1, n2, hx, hZ, hc, hm, ho, h5, hnm, h7⟩ := N
  rw [hret] at h5
  obtain ⟨fs, hr, hrun, hended, hW, hsame⟩ := X.leave (v := (some (.int z))) (fun h => by rw [h5] at h; cases h) h7
  exact ⟨_, _, retOut X hx h5 rfl (Or.inl ⟨rfl, Or.inl rfl, z, rfl⟩) (hb hc hd) hr, hrun, hended, _, _, rfl, ⟨n1, K, n2, hq⟩, ⟨_, rfl⟩, hW, hsame.mono h1 h2⟩
theorem k_zreturn (N : ONow p l e R s m args below meth c Z own cd ml ret nm T cells slots K) {z : Int32} {Q : Option Value → List Ent → Prop} {rm : Room} (hd : decode cd pc = .ok (.ireturn, 1)) (hret : ret = some .boolean) (h1 : cells ≤ rm.cells) (h2 : slots ≤ rm.slots) (hq : Q (some (.int (nar .boolean z))) K) : OGo p e below (OPost Z s Q rm) T (mkF m pc Ls (.int z :: st)) := by
  obtain ⟨locs, X, n1, n2, hx, hZ, hc, hm, ho, h5, hnm, h7⟩ := N
  rw [hret] at h5
  obtain ⟨fs, hr, hrun, hended, hW, hsame⟩ := X.leave (v := (some (.int (nar .boolean z)))) (fun h => by rw [h5] at h; cases h) h7
  exact ⟨_, _, retN X hx (t := .boolean) h5 (by simp) (hb hc hd) hr, hrun, hended, _, _, rfl, ⟨n1, K, n2, hq⟩, ⟨_, rfl⟩, hW, hsame.mono h1 h2⟩
theorem k_lreturn (N : ONow p l e R s m args below meth c Z own cd ml ret nm T cells slots K) {z : Int64} {Q : Option Value → List Ent → Prop} {rm : Room} (hd : decode cd pc = .ok (.lreturn, 1)) (hret : ret = some .long) (h1 : cells ≤ rm.cells) (h2 : slots ≤ rm.slots) (hq : Q (some (.long z)) K) : OGo p e below (OPost Z s Q rm) T (mkF m pc Ls (.long z :: st)) := by
  obtain ⟨locs, X, n1, n2, hx, hZ, hc, hm, ho, h5, hnm, h7⟩ := N
  rw [hret] at h5
  obtain ⟨fs, hr, hrun, hended, hW, hsame⟩ := X.leave (v := (some (.long z))) (fun h => by rw [h5] at h; cases h) h7
  exact ⟨_, _, retOut X hx h5 rfl (Or.inr (Or.inl ⟨rfl, rfl, z, rfl⟩)) (hb hc hd) hr, hrun, hended, _, _, rfl, ⟨n1, K, n2, hq⟩, ⟨_, rfl⟩, hW, hsame.mono h1 h2⟩
theorem k_dreturn (N : ONow p l e R s m args below meth c Z own cd ml ret nm T cells slots K) {z : UInt64} {Q : Option Value → List Ent → Prop} {rm : Room} (hd : decode cd pc = .ok (.dreturn, 1)) (hret : ret = some .double) (h1 : cells ≤ rm.cells) (h2 : slots ≤ rm.slots) (hq : Q (some (.double z)) K) : OGo p e below (OPost Z s Q rm) T (mkF m pc Ls (.double z :: st)) := by
  obtain ⟨locs, X, n1, n2, hx, hZ, hc, hm, ho, h5, hnm, h7⟩ := N
  rw [hret] at h5
  obtain ⟨fs, hr, hrun, hended, hW, hsame⟩ := X.leave (v := (some (.double z))) (fun h => by rw [h5] at h; cases h) h7
  exact ⟨_, _, retOut X hx h5 rfl (Or.inr (Or.inr (Or.inl ⟨rfl, rfl, z, rfl⟩))) (hb hc hd) hr, hrun, hended, _, _, rfl, ⟨n1, K, n2, hq⟩, ⟨_, rfl⟩, hW, hsame.mono h1 h2⟩
theorem nar_ref {t : FieldType} {w : Value} (h : w.isRef = true) : narrow t w = w := by cases t <;> cases w <;> first | rfl | cases h
theorem k_areturn (N : ONow p l e R s m args below meth c Z own cd ml ret nm T cells slots K) {w : Value} {t : FieldType} (ht : t.isReference = true) (hw : w.isRef = true) {Q : Option Value → List Ent → Prop} {rm : Room} (hd : decode cd pc = .ok (.areturn, 1)) (hret : ret = some t) (h1 : cells ≤ rm.cells) (h2 : slots ≤ rm.slots) (hq : Q (some w) K) : OGo p e below (OPost Z s Q rm) T (mkF m pc Ls (w :: st)) := by
  obtain ⟨locs, X, n1, n2, hx, hZ, hc, hm, ho, h5, hnm, h7⟩ := N
  rw [hret] at h5
  obtain ⟨fs, hr, hrun, hended, hW, hsame⟩ := X.leave (v := (some w)) (fun h => by rw [h5] at h; cases h) h7
  exact ⟨_, _, retOut X hx h5 (nar_ref hw) (Or.inr (Or.inr (Or.inr (Or.inr ⟨rfl, ht, hw⟩)))) (hb hc hd) hr, hrun, hended, _, _, rfl, ⟨n1, K, n2, hq⟩, ⟨_, rfl⟩, hW, hsame.mono h1 h2⟩
theorem k_return (N : ONow p l e R s m args below meth c Z own cd ml ret nm T cells slots K) {Q : Option Value → List Ent → Prop} {rm : Room} (hd : decode cd pc = .ok (.return_, 1)) (hret : ret = none) (h1 : cells ≤ rm.cells) (h2 : slots ≤ rm.slots) (hq : Q none K) : OGo p e below (OPost Z s Q rm) T (mkF m pc Ls []) := by
  obtain ⟨locs, X, n1, n2, hx, hZ, hc, hm, ho, h5, hnm, h7⟩ := N
  rw [hret] at h5
  obtain ⟨fs, hr, hrun, hended, hW, hsame⟩ := X.leave (v := none) (fun h => by rfl) h7
  exact ⟨_, _, X.returnOut hx h5 (hb hc hd) hr, hrun, hended, _, _, rfl, ⟨n1, K, n2, hq⟩, ⟨_, rfl⟩, hW, hsame.mono h1 h2⟩
end St
end Jvm.Own7
namespace Jvm.Pilot.@@N@@
open Jvm Jvm.ClassFile Sem Op Lib Jvm.Free Jvm.Stand Jvm.LawKit Jvm.RoadKit Bundle Jvm.Own7 Jvm.FP Jvm.Free.Fl Jvm.Pilot.@@N@@.Jvm.D
theorem d14_0 : decode jdk_117_method_6_code 0 = .ok (.dload_n 0, 1) := by decide +kernel
theorem d14_1 : decode jdk_117_method_6_code 1 = .ok (.dload_n 0, 1) := by decide +kernel
theorem d14_2 : decode jdk_117_method_6_code 2 = .ok (.dcmp .l, 1) := by decide +kernel
theorem d14_3 : decode jdk_117_method_6_code 3 = .ok (.ifCond .eq 7, 3) := by decide +kernel
theorem d14_10 : decode jdk_117_method_6_code 10 = .ok (.iconst 0, 1) := by decide +kernel
theorem d14_11 : decode jdk_117_method_6_code 11 = .ok (.ireturn, 1) := by decide +kernel
theorem pn_java_lang_Double : plainName "java/lang/Double" = true := by first | (simp [plainName, overriddenIn]; done) | decide +kernel
theorem d13_0 : decode jdk_117_method_23_code 0 = .ok (.dload_n 0, 1) := by decide +kernel
theorem d13_1 : decode jdk_117_method_23_code 1 = .ok (.invokestatic 122, 3) := by decide +kernel
theorem pd__D_Z : parseMethodDescriptor "(D)Z" = some ⟨[.double], some .boolean⟩ := by decide +kernel
theorem d13_4 : decode jdk_117_method_23_code 4 = .ok (.ifCond .ne 8, 3) := by decide +kernel
theorem d13_7 : decode jdk_117_method_23_code 7 = .ok (.dload_n 0, 1) := by decide +kernel
theorem d13_8 : decode jdk_117_method_23_code 8 = .ok (.invokestatic 134, 3) := by decide +kernel
theorem d13_11 : decode jdk_117_method_23_code 11 = .ok (.lreturn, 1) := by decide +kernel
theorem d12_0 : decode jdk_117_method_27_code 0 = .ok (.dload_n 0, 1) := by decide +kernel
theorem d12_1 : decode jdk_117_method_27_code 1 = .ok (.dload_n 2, 1) := by decide +kernel
theorem d12_2 : decode jdk_117_method_27_code 2 = .ok (.dcmp .g, 1) := by decide +kernel
theorem d12_3 : decode jdk_117_method_27_code 3 = .ok (.ifCond .ge 5, 3) := by decide +kernel
theorem d12_8 : decode jdk_117_method_27_code 8 = .ok (.dload_n 0, 1) := by decide +kernel
theorem d12_9 : decode jdk_117_method_27_code 9 = .ok (.dload_n 2, 1) := by decide +kernel
theorem d12_10 : decode jdk_117_method_27_code 10 = .ok (.dcmp .l, 1) := by decide +kernel
theorem d12_11 : decode jdk_117_method_27_code 11 = .ok (.ifCond .le 5, 3) := by decide +kernel
theorem d12_16 : decode jdk_117_method_27_code 16 = .ok (.dload_n 0, 1) := by decide +kernel
theorem d12_17 : decode jdk_117_method_27_code 17 = .ok (.invokestatic 46, 3) := by decide +kernel
theorem pd__D_J : parseMethodDescriptor "(D)J" = some ⟨[.double], some .long⟩ := by decide +kernel
theorem d12_20 : decode jdk_117_method_27_code 20 = .ok (.lstore 4, 2) := by decide +kernel
theorem d12_22 : decode jdk_117_method_27_code 22 = .ok (.dload_n 2, 1) := by decide +kernel
theorem d12_23 : decode jdk_117_method_27_code 23 = .ok (.invokestatic 46, 3) := by decide +kernel
theorem d12_26 : decode jdk_117_method_27_code 26 = .ok (.lstore 6, 2) := by decide +kernel
theorem d12_28 : decode jdk_117_method_27_code 28 = .ok (.lload 4, 2) := by decide +kernel
theorem d12_30 : decode jdk_117_method_27_code 30 = .ok (.lload 6, 2) := by decide +kernel
theorem d12_32 : decode jdk_117_method_27_code 32 = .ok (.lcmp, 1) := by decide +kernel
theorem d12_33 : decode jdk_117_method_27_code 33 = .ok (.ifCond .ne 7, 3) := by decide +kernel
theorem d12_40 : decode jdk_117_method_27_code 40 = .ok (.lload 4, 2) := by decide +kernel
theorem d12_42 : decode jdk_117_method_27_code 42 = .ok (.lload 6, 2) := by decide +kernel
theorem d12_44 : decode jdk_117_method_27_code 44 = .ok (.lcmp, 1) := by decide +kernel
theorem d12_45 : decode jdk_117_method_27_code 45 = .ok (.ifCond .ge 7, 3) := by decide +kernel
theorem d12_52 : decode jdk_117_method_27_code 52 = .ok (.iconst 1, 1) := by decide +kernel
theorem d12_53 : decode jdk_117_method_27_code 53 = .ok (.ireturn, 1) := by decide +kernel
theorem d12_48 : decode jdk_117_method_27_code 48 = .ok (.iconst (-1), 1) := by decide +kernel
theorem d12_49 : decode jdk_117_method_27_code 49 = .ok (.goto 4, 3) := by decide +kernel
theorem d12_36 : decode jdk_117_method_27_code 36 = .ok (.iconst 0, 1) := by decide +kernel
theorem d12_37 : decode jdk_117_method_27_code 37 = .ok (.goto 16, 3) := by decide +kernel
theorem d12_14 : decode jdk_117_method_27_code 14 = .ok (.iconst 1, 1) := by decide +kernel
theorem d12_15 : decode jdk_117_method_27_code 15 = .ok (.ireturn, 1) := by decide +kernel
theorem d12_6 : decode jdk_117_method_27_code 6 = .ok (.iconst (-1), 1) := by decide +kernel
theorem d12_7 : decode jdk_117_method_27_code 7 = .ok (.ireturn, 1) := by decide +kernel
theorem d11_0 : decode prog_52_method_2_code 0 = .ok (.dload 5, 2) := by decide +kernel
theorem d11_2 : decode prog_52_method_2_code 2 = .ok (.dload_n 0, 1) := by decide +kernel
theorem d11_3 : decode prog_52_method_2_code 3 = .ok (.invokestatic 29, 3) := by decide +kernel
theorem pd__DD_I : parseMethodDescriptor "(DD)I" = some ⟨[.double, .double], some .int⟩ := by decide +kernel
theorem d11_6 : decode prog_52_method_2_code 6 = .ok (.istore 10, 2) := by decide +kernel
theorem d11_8 : decode prog_52_method_2_code 8 = .ok (.dload_n 2, 1) := by decide +kernel
theorem d11_9 : decode prog_52_method_2_code 9 = .ok (.dload 7, 2) := by decide +kernel
theorem d11_11 : decode prog_52_method_2_code 11 = .ok (.invokestatic 29, 3) := by decide +kernel
theorem d11_14 : decode prog_52_method_2_code 14 = .ok (.istore 11, 2) := by decide +kernel
theorem d11_16 : decode prog_52_method_2_code 16 = .ok (.iload 10, 2) := by decide +kernel
theorem d11_18 : decode prog_52_method_2_code 18 = .ok (.ifCond .eq 18, 3) := by decide +kernel
theorem d11_36 : decode prog_52_method_2_code 36 = .ok (.iload 11, 2) := by decide +kernel
theorem d11_38 : decode prog_52_method_2_code 38 = .ok (.ifCond .eq 18, 3) := by decide +kernel
theorem d11_56 : decode prog_52_method_2_code 56 = .ok (.iload 4, 2) := by decide +kernel
theorem d11_58 : decode prog_52_method_2_code 58 = .ok (.iload 9, 2) := by decide +kernel
theorem d11_60 : decode prog_52_method_2_code 60 = .ok (.if_icmp .ge 7, 3) := by decide +kernel
theorem d11_67 : decode prog_52_method_2_code 67 = .ok (.iconst 0, 1) := by decide +kernel
theorem d11_68 : decode prog_52_method_2_code 68 = .ok (.istore 12, 2) := by decide +kernel
theorem d11_70 : decode prog_52_method_2_code 70 = .ok (.iload 12, 2) := by decide +kernel
theorem d11_72 : decode prog_52_method_2_code 72 = .ok (.ireturn, 1) := by decide +kernel
theorem d11_63 : decode prog_52_method_2_code 63 = .ok (.iconst 1, 1) := by decide +kernel
theorem d11_64 : decode prog_52_method_2_code 64 = .ok (.goto 4, 3) := by decide +kernel
theorem d11_41 : decode prog_52_method_2_code 41 = .ok (.iload 11, 2) := by decide +kernel
theorem d11_43 : decode prog_52_method_2_code 43 = .ok (.ifCond .ge 7, 3) := by decide +kernel
theorem d11_50 : decode prog_52_method_2_code 50 = .ok (.iconst 0, 1) := by decide +kernel
theorem d11_51 : decode prog_52_method_2_code 51 = .ok (.istore 12, 2) := by decide +kernel
theorem d11_53 : decode prog_52_method_2_code 53 = .ok (.goto 17, 3) := by decide +kernel
theorem d11_46 : decode prog_52_method_2_code 46 = .ok (.iconst 1, 1) := by decide +kernel
theorem d11_47 : decode prog_52_method_2_code 47 = .ok (.goto 4, 3) := by decide +kernel
theorem d11_21 : decode prog_52_method_2_code 21 = .ok (.iload 10, 2) := by decide +kernel
theorem d11_23 : decode prog_52_method_2_code 23 = .ok (.ifCond .ge 7, 3) := by decide +kernel
theorem d11_30 : decode prog_52_method_2_code 30 = .ok (.iconst 0, 1) := by decide +kernel
theorem d11_31 : decode prog_52_method_2_code 31 = .ok (.istore 12, 2) := by decide +kernel
theorem d11_33 : decode prog_52_method_2_code 33 = .ok (.goto 37, 3) := by decide +kernel
theorem d11_26 : decode prog_52_method_2_code 26 = .ok (.iconst 1, 1) := by decide +kernel
theorem d11_27 : decode prog_52_method_2_code 27 = .ok (.goto 4, 3) := by decide +kernel
theorem pn_com_example_freshline_freshline_schedule_CandidateQueue : plainName "com/example/freshline/freshline/schedule/CandidateQueue" = true := by first | (simp [plainName, overriddenIn]; done) | decide +kernel
theorem d5_0 : decode jdk_65_method_103_code 0 = .ok (.iconst 0, 1) := by decide +kernel
theorem d5_1 : decode jdk_65_method_103_code 1 = .ok (.istore_n 2, 1) := by decide +kernel
theorem d5_2 : decode jdk_65_method_103_code 2 = .ok (.aload_n 0, 1) := by decide +kernel
theorem d5_3 : decode jdk_65_method_103_code 3 = .ok (.arraylength, 1) := by decide +kernel
theorem d5_4 : decode jdk_65_method_103_code 4 = .ok (.istore_n 3, 1) := by decide +kernel
theorem d5_5 : decode jdk_65_method_103_code 5 = .ok (.iload_n 2, 1) := by decide +kernel
theorem d5_6 : decode jdk_65_method_103_code 6 = .ok (.iload_n 3, 1) := by decide +kernel
theorem d5_7 : decode jdk_65_method_103_code 7 = .ok (.if_icmp .ge 13, 3) := by decide +kernel
theorem d5_10 : decode jdk_65_method_103_code 10 = .ok (.aload_n 0, 1) := by decide +kernel
theorem d5_11 : decode jdk_65_method_103_code 11 = .ok (.iload_n 2, 1) := by decide +kernel
theorem d5_12 : decode jdk_65_method_103_code 12 = .ok (.iload_n 1, 1) := by decide +kernel
theorem d5_13 : decode jdk_65_method_103_code 13 = .ok (.iastore, 1) := by decide +kernel
theorem d5_14 : decode jdk_65_method_103_code 14 = .ok (.iinc 2 1, 3) := by decide +kernel
theorem d5_17 : decode jdk_65_method_103_code 17 = .ok (.goto (-12), 3) := by decide +kernel
theorem d5_20 : decode jdk_65_method_103_code 20 = .ok (.return_, 1) := by decide +kernel
theorem pn_java_util_Arrays : plainName "java/util/Arrays" = true := by first | (simp [plainName, overriddenIn]; done) | decide +kernel
theorem d3_0 : decode prog_52_method_1_code 0 = .ok (.aload_n 0, 1) := by decide +kernel
theorem d3_1 : decode prog_52_method_1_code 1 = .ok (.invokespecial 1, 3) := by decide +kernel
theorem d3_4 : decode prog_52_method_1_code 4 = .ok (.aload_n 0, 1) := by decide +kernel
theorem d3_5 : decode prog_52_method_1_code 5 = .ok (.iload_n 1, 1) := by decide +kernel
theorem d3_6 : decode prog_52_method_1_code 6 = .ok (.newarray .int, 2) := by decide +kernel
theorem d3_8 : decode prog_52_method_1_code 8 = .ok (.putfield 7, 3) := by decide +kernel
theorem d3_11 : decode prog_52_method_1_code 11 = .ok (.aload_n 0, 1) := by decide +kernel
theorem d3_12 : decode prog_52_method_1_code 12 = .ok (.iload_n 1, 1) := by decide +kernel
theorem d3_13 : decode prog_52_method_1_code 13 = .ok (.newarray .int, 2) := by decide +kernel
theorem d3_15 : decode prog_52_method_1_code 15 = .ok (.putfield 13, 3) := by decide +kernel
theorem d3_18 : decode prog_52_method_1_code 18 = .ok (.aload_n 0, 1) := by decide +kernel
theorem d3_19 : decode prog_52_method_1_code 19 = .ok (.iload_n 1, 1) := by decide +kernel
theorem d3_20 : decode prog_52_method_1_code 20 = .ok (.newarray .double, 2) := by decide +kernel
theorem d3_22 : decode prog_52_method_1_code 22 = .ok (.putfield 16, 3) := by decide +kernel
theorem d3_25 : decode prog_52_method_1_code 25 = .ok (.aload_n 0, 1) := by decide +kernel
theorem d3_26 : decode prog_52_method_1_code 26 = .ok (.iload_n 1, 1) := by decide +kernel
theorem d3_27 : decode prog_52_method_1_code 27 = .ok (.newarray .double, 2) := by decide +kernel
theorem d3_29 : decode prog_52_method_1_code 29 = .ok (.putfield 20, 3) := by decide +kernel
theorem d3_32 : decode prog_52_method_1_code 32 = .ok (.aload_n 0, 1) := by decide +kernel
theorem d3_33 : decode prog_52_method_1_code 33 = .ok (.getfield 13, 3) := by decide +kernel
theorem d3_36 : decode prog_52_method_1_code 36 = .ok (.iconst (-1), 1) := by decide +kernel
theorem d3_37 : decode prog_52_method_1_code 37 = .ok (.invokestatic 23, 3) := by decide +kernel
theorem pd___II_V : parseMethodDescriptor "([II)V" = some ⟨[(.array .int), .int], none⟩ := by decide +kernel
theorem d3_40 : decode prog_52_method_1_code 40 = .ok (.return_, 1) := by decide +kernel
theorem d17_0 : decode prog_52_method_5_code 0 = .ok (.aload_n 0, 1) := by decide +kernel
theorem d17_1 : decode prog_52_method_5_code 1 = .ok (.getfield 35, 3) := by decide +kernel
theorem d17_4 : decode prog_52_method_5_code 4 = .ok (.ifCond .ne 7, 3) := by decide +kernel
theorem d17_11 : decode prog_52_method_5_code 11 = .ok (.aload_n 0, 1) := by decide +kernel
theorem d17_12 : decode prog_52_method_5_code 12 = .ok (.getfield 7, 3) := by decide +kernel
theorem d17_15 : decode prog_52_method_5_code 15 = .ok (.iconst 0, 1) := by decide +kernel
theorem d17_16 : decode prog_52_method_5_code 16 = .ok (.iaload, 1) := by decide +kernel
theorem d17_17 : decode prog_52_method_5_code 17 = .ok (.ireturn, 1) := by decide +kernel
theorem d17_7 : decode prog_52_method_5_code 7 = .ok (.iconst (-1), 1) := by decide +kernel
theorem d17_8 : decode prog_52_method_5_code 8 = .ok (.goto 9, 3) := by decide +kernel
theorem d8_0 : decode prog_52_method_11_code 0 = .ok (.aload_n 0, 1) := by decide +kernel
theorem d8_1 : decode prog_52_method_11_code 1 = .ok (.getfield 7, 3) := by decide +kernel
theorem d8_4 : decode prog_52_method_11_code 4 = .ok (.iload_n 2, 1) := by decide +kernel
theorem d8_5 : decode prog_52_method_11_code 5 = .ok (.iload_n 1, 1) := by decide +kernel
theorem d8_6 : decode prog_52_method_11_code 6 = .ok (.iastore, 1) := by decide +kernel
theorem d8_7 : decode prog_52_method_11_code 7 = .ok (.aload_n 0, 1) := by decide +kernel
theorem d8_8 : decode prog_52_method_11_code 8 = .ok (.getfield 13, 3) := by decide +kernel
theorem d8_11 : decode prog_52_method_11_code 11 = .ok (.iload_n 1, 1) := by decide +kernel
theorem d8_12 : decode prog_52_method_11_code 12 = .ok (.iload_n 2, 1) := by decide +kernel
theorem d8_13 : decode prog_52_method_11_code 13 = .ok (.iastore, 1) := by decide +kernel
theorem d8_14 : decode prog_52_method_11_code 14 = .ok (.return_, 1) := by decide +kernel
theorem d10_0 : decode prog_52_method_10_code 0 = .ok (.aload_n 0, 1) := by decide +kernel
theorem d10_1 : decode prog_52_method_10_code 1 = .ok (.getfield 16, 3) := by decide +kernel
theorem d10_4 : decode prog_52_method_10_code 4 = .ok (.iload_n 1, 1) := by decide +kernel
theorem d10_5 : decode prog_52_method_10_code 5 = .ok (.daload, 1) := by decide +kernel
theorem d10_6 : decode prog_52_method_10_code 6 = .ok (.aload_n 0, 1) := by decide +kernel
theorem d10_7 : decode prog_52_method_10_code 7 = .ok (.getfield 20, 3) := by decide +kernel
theorem d10_10 : decode prog_52_method_10_code 10 = .ok (.iload_n 1, 1) := by decide +kernel
theorem d10_11 : decode prog_52_method_10_code 11 = .ok (.daload, 1) := by decide +kernel
theorem d10_12 : decode prog_52_method_10_code 12 = .ok (.iload_n 1, 1) := by decide +kernel
theorem d10_13 : decode prog_52_method_10_code 13 = .ok (.aload_n 0, 1) := by decide +kernel
theorem d10_14 : decode prog_52_method_10_code 14 = .ok (.getfield 16, 3) := by decide +kernel
theorem d10_17 : decode prog_52_method_10_code 17 = .ok (.iload_n 2, 1) := by decide +kernel
theorem d10_18 : decode prog_52_method_10_code 18 = .ok (.daload, 1) := by decide +kernel
theorem d10_19 : decode prog_52_method_10_code 19 = .ok (.aload_n 0, 1) := by decide +kernel
theorem d10_20 : decode prog_52_method_10_code 20 = .ok (.getfield 20, 3) := by decide +kernel
theorem d10_23 : decode prog_52_method_10_code 23 = .ok (.iload_n 2, 1) := by decide +kernel
theorem d10_24 : decode prog_52_method_10_code 24 = .ok (.daload, 1) := by decide +kernel
theorem d10_25 : decode prog_52_method_10_code 25 = .ok (.iload_n 2, 1) := by decide +kernel
theorem d10_26 : decode prog_52_method_10_code 26 = .ok (.invokestatic 55, 3) := by decide +kernel
theorem pd__DDIDDI_Z : parseMethodDescriptor "(DDIDDI)Z" = some ⟨[.double, .double, .int, .double, .double, .int], some .boolean⟩ := by decide +kernel
theorem d10_29 : decode prog_52_method_10_code 29 = .ok (.ireturn, 1) := by decide +kernel
theorem d7_0 : decode prog_52_method_8_code 0 = .ok (.aload_n 0, 1) := by decide +kernel
theorem d7_1 : decode prog_52_method_8_code 1 = .ok (.getfield 7, 3) := by decide +kernel
theorem d7_4 : decode prog_52_method_8_code 4 = .ok (.iload_n 1, 1) := by decide +kernel
theorem d7_5 : decode prog_52_method_8_code 5 = .ok (.iaload, 1) := by decide +kernel
theorem d7_6 : decode prog_52_method_8_code 6 = .ok (.istore_n 2, 1) := by decide +kernel
theorem d7_7 : decode prog_52_method_8_code 7 = .ok (.iload_n 1, 1) := by decide +kernel
theorem d7_8 : decode prog_52_method_8_code 8 = .ok (.istore_n 3, 1) := by decide +kernel
theorem d7_9 : decode prog_52_method_8_code 9 = .ok (.iload_n 3, 1) := by decide +kernel
theorem d7_10 : decode prog_52_method_8_code 10 = .ok (.ifCond .le 46, 3) := by decide +kernel
theorem d7_56 : decode prog_52_method_8_code 56 = .ok (.aload_n 0, 1) := by decide +kernel
theorem d7_57 : decode prog_52_method_8_code 57 = .ok (.iload_n 2, 1) := by decide +kernel
theorem d7_58 : decode prog_52_method_8_code 58 = .ok (.iload_n 3, 1) := by decide +kernel
theorem d7_59 : decode prog_52_method_8_code 59 = .ok (.invokevirtual 51, 3) := by decide +kernel
theorem pd__II_V : parseMethodDescriptor "(II)V" = some ⟨[.int, .int], none⟩ := by decide +kernel
theorem d7_62 : decode prog_52_method_8_code 62 = .ok (.iload_n 3, 1) := by decide +kernel
theorem d7_63 : decode prog_52_method_8_code 63 = .ok (.ireturn, 1) := by decide +kernel
theorem d7_13 : decode prog_52_method_8_code 13 = .ok (.iload_n 3, 1) := by decide +kernel
theorem d7_14 : decode prog_52_method_8_code 14 = .ok (.iconst 1, 1) := by decide +kernel
theorem d7_15 : decode prog_52_method_8_code 15 = .ok (.isub, 1) := by decide +kernel
theorem d7_16 : decode prog_52_method_8_code 16 = .ok (.iconst 2, 1) := by decide +kernel
theorem d7_17 : decode prog_52_method_8_code 17 = .ok (.idiv, 1) := by decide +kernel
theorem d7_18 : decode prog_52_method_8_code 18 = .ok (.istore 4, 2) := by decide +kernel
theorem d7_20 : decode prog_52_method_8_code 20 = .ok (.aload_n 0, 1) := by decide +kernel
theorem d7_21 : decode prog_52_method_8_code 21 = .ok (.iload_n 2, 1) := by decide +kernel
theorem d7_22 : decode prog_52_method_8_code 22 = .ok (.aload_n 0, 1) := by decide +kernel
theorem d7_23 : decode prog_52_method_8_code 23 = .ok (.getfield 7, 3) := by decide +kernel
theorem d7_26 : decode prog_52_method_8_code 26 = .ok (.iload 4, 2) := by decide +kernel
theorem d7_28 : decode prog_52_method_8_code 28 = .ok (.iaload, 1) := by decide +kernel
theorem d7_29 : decode prog_52_method_8_code 29 = .ok (.invokevirtual 47, 3) := by decide +kernel
theorem pd__II_Z : parseMethodDescriptor "(II)Z" = some ⟨[.int, .int], some .boolean⟩ := by decide +kernel
theorem d7_32 : decode prog_52_method_8_code 32 = .ok (.ifCond .ne 6, 3) := by decide +kernel
theorem d7_38 : decode prog_52_method_8_code 38 = .ok (.aload_n 0, 1) := by decide +kernel
theorem d7_39 : decode prog_52_method_8_code 39 = .ok (.aload_n 0, 1) := by decide +kernel
theorem d7_40 : decode prog_52_method_8_code 40 = .ok (.getfield 7, 3) := by decide +kernel
theorem d7_43 : decode prog_52_method_8_code 43 = .ok (.iload 4, 2) := by decide +kernel
theorem d7_45 : decode prog_52_method_8_code 45 = .ok (.iaload, 1) := by decide +kernel
theorem d7_46 : decode prog_52_method_8_code 46 = .ok (.iload_n 3, 1) := by decide +kernel
theorem d7_47 : decode prog_52_method_8_code 47 = .ok (.invokevirtual 51, 3) := by decide +kernel
theorem d7_50 : decode prog_52_method_8_code 50 = .ok (.iload 4, 2) := by decide +kernel
theorem d7_52 : decode prog_52_method_8_code 52 = .ok (.istore_n 3, 1) := by decide +kernel
theorem d7_53 : decode prog_52_method_8_code 53 = .ok (.goto (-44), 3) := by decide +kernel
theorem d7_35 : decode prog_52_method_8_code 35 = .ok (.goto 21, 3) := by decide +kernel
theorem d9_0 : decode prog_52_method_9_code 0 = .ok (.aload_n 0, 1) := by decide +kernel
theorem d9_1 : decode prog_52_method_9_code 1 = .ok (.getfield 7, 3) := by decide +kernel
theorem d9_4 : decode prog_52_method_9_code 4 = .ok (.iload_n 1, 1) := by decide +kernel
theorem d9_5 : decode prog_52_method_9_code 5 = .ok (.iaload, 1) := by decide +kernel
theorem d9_6 : decode prog_52_method_9_code 6 = .ok (.istore_n 2, 1) := by decide +kernel
theorem d9_7 : decode prog_52_method_9_code 7 = .ok (.iload_n 1, 1) := by decide +kernel
theorem d9_8 : decode prog_52_method_9_code 8 = .ok (.istore_n 3, 1) := by decide +kernel
theorem d9_9 : decode prog_52_method_9_code 9 = .ok (.iconst 2, 1) := by decide +kernel
theorem d9_10 : decode prog_52_method_9_code 10 = .ok (.iload_n 3, 1) := by decide +kernel
theorem d9_11 : decode prog_52_method_9_code 11 = .ok (.imul, 1) := by decide +kernel
theorem d9_12 : decode prog_52_method_9_code 12 = .ok (.iconst 1, 1) := by decide +kernel
theorem d9_13 : decode prog_52_method_9_code 13 = .ok (.iadd, 1) := by decide +kernel
theorem d9_14 : decode prog_52_method_9_code 14 = .ok (.aload_n 0, 1) := by decide +kernel
theorem d9_15 : decode prog_52_method_9_code 15 = .ok (.getfield 35, 3) := by decide +kernel
theorem d9_18 : decode prog_52_method_9_code 18 = .ok (.if_icmp .ge 83, 3) := by decide +kernel
theorem d9_101 : decode prog_52_method_9_code 101 = .ok (.aload_n 0, 1) := by decide +kernel
theorem d9_102 : decode prog_52_method_9_code 102 = .ok (.iload_n 2, 1) := by decide +kernel
theorem d9_103 : decode prog_52_method_9_code 103 = .ok (.iload_n 3, 1) := by decide +kernel
theorem d9_104 : decode prog_52_method_9_code 104 = .ok (.invokevirtual 51, 3) := by decide +kernel
theorem d9_107 : decode prog_52_method_9_code 107 = .ok (.return_, 1) := by decide +kernel
theorem d9_21 : decode prog_52_method_9_code 21 = .ok (.iconst 2, 1) := by decide +kernel
theorem d9_22 : decode prog_52_method_9_code 22 = .ok (.iload_n 3, 1) := by decide +kernel
theorem d9_23 : decode prog_52_method_9_code 23 = .ok (.imul, 1) := by decide +kernel
theorem d9_24 : decode prog_52_method_9_code 24 = .ok (.iconst 1, 1) := by decide +kernel
theorem d9_25 : decode prog_52_method_9_code 25 = .ok (.iadd, 1) := by decide +kernel
theorem d9_26 : decode prog_52_method_9_code 26 = .ok (.istore 4, 2) := by decide +kernel
theorem d9_28 : decode prog_52_method_9_code 28 = .ok (.iload 4, 2) := by decide +kernel
theorem d9_30 : decode prog_52_method_9_code 30 = .ok (.iconst 1, 1) := by decide +kernel
theorem d9_31 : decode prog_52_method_9_code 31 = .ok (.iadd, 1) := by decide +kernel
theorem d9_32 : decode prog_52_method_9_code 32 = .ok (.aload_n 0, 1) := by decide +kernel
theorem d9_33 : decode prog_52_method_9_code 33 = .ok (.getfield 35, 3) := by decide +kernel
theorem d9_36 : decode prog_52_method_9_code 36 = .ok (.if_icmp .ge 29, 3) := by decide +kernel
theorem d9_65 : decode prog_52_method_9_code 65 = .ok (.aload_n 0, 1) := by decide +kernel
theorem d9_66 : decode prog_52_method_9_code 66 = .ok (.aload_n 0, 1) := by decide +kernel
theorem d9_67 : decode prog_52_method_9_code 67 = .ok (.getfield 7, 3) := by decide +kernel
theorem d9_70 : decode prog_52_method_9_code 70 = .ok (.iload 4, 2) := by decide +kernel
theorem d9_72 : decode prog_52_method_9_code 72 = .ok (.iaload, 1) := by decide +kernel
theorem d9_73 : decode prog_52_method_9_code 73 = .ok (.iload_n 2, 1) := by decide +kernel
theorem d9_74 : decode prog_52_method_9_code 74 = .ok (.invokevirtual 47, 3) := by decide +kernel
theorem d9_77 : decode prog_52_method_9_code 77 = .ok (.ifCond .ne 6, 3) := by decide +kernel
theorem d9_83 : decode prog_52_method_9_code 83 = .ok (.aload_n 0, 1) := by decide +kernel
theorem d9_84 : decode prog_52_method_9_code 84 = .ok (.aload_n 0, 1) := by decide +kernel
theorem d9_85 : decode prog_52_method_9_code 85 = .ok (.getfield 7, 3) := by decide +kernel
theorem d9_88 : decode prog_52_method_9_code 88 = .ok (.iload 4, 2) := by decide +kernel
theorem d9_90 : decode prog_52_method_9_code 90 = .ok (.iaload, 1) := by decide +kernel
theorem d9_91 : decode prog_52_method_9_code 91 = .ok (.iload_n 3, 1) := by decide +kernel
theorem d9_92 : decode prog_52_method_9_code 92 = .ok (.invokevirtual 51, 3) := by decide +kernel
theorem d9_95 : decode prog_52_method_9_code 95 = .ok (.iload 4, 2) := by decide +kernel
theorem d9_97 : decode prog_52_method_9_code 97 = .ok (.istore_n 3, 1) := by decide +kernel
theorem d9_98 : decode prog_52_method_9_code 98 = .ok (.goto (-89), 3) := by decide +kernel
theorem d9_80 : decode prog_52_method_9_code 80 = .ok (.goto 21, 3) := by decide +kernel
theorem d9_39 : decode prog_52_method_9_code 39 = .ok (.aload_n 0, 1) := by decide +kernel
theorem d9_40 : decode prog_52_method_9_code 40 = .ok (.aload_n 0, 1) := by decide +kernel
theorem d9_41 : decode prog_52_method_9_code 41 = .ok (.getfield 7, 3) := by decide +kernel
theorem d9_44 : decode prog_52_method_9_code 44 = .ok (.iload 4, 2) := by decide +kernel
theorem d9_46 : decode prog_52_method_9_code 46 = .ok (.iconst 1, 1) := by decide +kernel
theorem d9_47 : decode prog_52_method_9_code 47 = .ok (.iadd, 1) := by decide +kernel
theorem d9_48 : decode prog_52_method_9_code 48 = .ok (.iaload, 1) := by decide +kernel
theorem d9_49 : decode prog_52_method_9_code 49 = .ok (.aload_n 0, 1) := by decide +kernel
theorem d9_50 : decode prog_52_method_9_code 50 = .ok (.getfield 7, 3) := by decide +kernel
theorem d9_53 : decode prog_52_method_9_code 53 = .ok (.iload 4, 2) := by decide +kernel
theorem d9_55 : decode prog_52_method_9_code 55 = .ok (.iaload, 1) := by decide +kernel
theorem d9_56 : decode prog_52_method_9_code 56 = .ok (.invokevirtual 47, 3) := by decide +kernel
theorem d9_59 : decode prog_52_method_9_code 59 = .ok (.ifCond .eq 6, 3) := by decide +kernel
theorem d9_62 : decode prog_52_method_9_code 62 = .ok (.iinc 4 1, 3) := by decide +kernel
theorem d6_0 : decode prog_52_method_3_code 0 = .ok (.aload_n 0, 1) := by decide +kernel
theorem d6_1 : decode prog_52_method_3_code 1 = .ok (.getfield 16, 3) := by decide +kernel
theorem d6_4 : decode prog_52_method_3_code 4 = .ok (.iload_n 1, 1) := by decide +kernel
theorem d6_5 : decode prog_52_method_3_code 5 = .ok (.dload_n 2, 1) := by decide +kernel
theorem d6_6 : decode prog_52_method_3_code 6 = .ok (.dastore, 1) := by decide +kernel
theorem d6_7 : decode prog_52_method_3_code 7 = .ok (.aload_n 0, 1) := by decide +kernel
theorem d6_8 : decode prog_52_method_3_code 8 = .ok (.getfield 20, 3) := by decide +kernel
theorem d6_11 : decode prog_52_method_3_code 11 = .ok (.iload_n 1, 1) := by decide +kernel
theorem d6_12 : decode prog_52_method_3_code 12 = .ok (.dload 4, 2) := by decide +kernel
theorem d6_14 : decode prog_52_method_3_code 14 = .ok (.dastore, 1) := by decide +kernel
theorem d6_15 : decode prog_52_method_3_code 15 = .ok (.aload_n 0, 1) := by decide +kernel
theorem d6_16 : decode prog_52_method_3_code 16 = .ok (.getfield 13, 3) := by decide +kernel
theorem d6_19 : decode prog_52_method_3_code 19 = .ok (.iload_n 1, 1) := by decide +kernel
theorem d6_20 : decode prog_52_method_3_code 20 = .ok (.iaload, 1) := by decide +kernel
theorem d6_21 : decode prog_52_method_3_code 21 = .ok (.istore 6, 2) := by decide +kernel
theorem d6_23 : decode prog_52_method_3_code 23 = .ok (.iload 6, 2) := by decide +kernel
theorem d6_25 : decode prog_52_method_3_code 25 = .ok (.iconst (-1), 1) := by decide +kernel
theorem d6_26 : decode prog_52_method_3_code 26 = .ok (.if_icmp .ne 35, 3) := by decide +kernel
theorem d6_61 : decode prog_52_method_3_code 61 = .ok (.aload_n 0, 1) := by decide +kernel
theorem d6_62 : decode prog_52_method_3_code 62 = .ok (.aload_n 0, 1) := by decide +kernel
theorem d6_63 : decode prog_52_method_3_code 63 = .ok (.iload 6, 2) := by decide +kernel
theorem d6_65 : decode prog_52_method_3_code 65 = .ok (.invokevirtual 39, 3) := by decide +kernel
theorem pd__I_I : parseMethodDescriptor "(I)I" = some ⟨[.int], some .int⟩ := by decide +kernel
theorem d6_68 : decode prog_52_method_3_code 68 = .ok (.invokevirtual 43, 3) := by decide +kernel
theorem pd__I_V : parseMethodDescriptor "(I)V" = some ⟨[.int], none⟩ := by decide +kernel
theorem d6_71 : decode prog_52_method_3_code 71 = .ok (.return_, 1) := by decide +kernel
theorem d6_29 : decode prog_52_method_3_code 29 = .ok (.aload_n 0, 1) := by decide +kernel
theorem d6_30 : decode prog_52_method_3_code 30 = .ok (.getfield 35, 3) := by decide +kernel
theorem d6_33 : decode prog_52_method_3_code 33 = .ok (.istore 6, 2) := by decide +kernel
theorem d6_35 : decode prog_52_method_3_code 35 = .ok (.aload_n 0, 1) := by decide +kernel
theorem d6_36 : decode prog_52_method_3_code 36 = .ok (.dup, 1) := by decide +kernel
theorem d6_37 : decode prog_52_method_3_code 37 = .ok (.getfield 35, 3) := by decide +kernel
theorem d6_40 : decode prog_52_method_3_code 40 = .ok (.iconst 1, 1) := by decide +kernel
theorem d6_41 : decode prog_52_method_3_code 41 = .ok (.iadd, 1) := by decide +kernel
theorem d6_42 : decode prog_52_method_3_code 42 = .ok (.putfield 35, 3) := by decide +kernel
theorem d6_45 : decode prog_52_method_3_code 45 = .ok (.aload_n 0, 1) := by decide +kernel
theorem d6_46 : decode prog_52_method_3_code 46 = .ok (.getfield 7, 3) := by decide +kernel
theorem d6_49 : decode prog_52_method_3_code 49 = .ok (.iload 6, 2) := by decide +kernel
theorem d6_51 : decode prog_52_method_3_code 51 = .ok (.iload_n 1, 1) := by decide +kernel
theorem d6_52 : decode prog_52_method_3_code 52 = .ok (.iastore, 1) := by decide +kernel
theorem d6_53 : decode prog_52_method_3_code 53 = .ok (.aload_n 0, 1) := by decide +kernel
theorem d6_54 : decode prog_52_method_3_code 54 = .ok (.getfield 13, 3) := by decide +kernel
theorem d6_57 : decode prog_52_method_3_code 57 = .ok (.iload_n 1, 1) := by decide +kernel
theorem d6_58 : decode prog_52_method_3_code 58 = .ok (.iload 6, 2) := by decide +kernel
theorem d6_60 : decode prog_52_method_3_code 60 = .ok (.iastore, 1) := by decide +kernel
theorem d18_0 : decode prog_52_method_4_code 0 = .ok (.aload_n 0, 1) := by decide +kernel
theorem d18_1 : decode prog_52_method_4_code 1 = .ok (.getfield 13, 3) := by decide +kernel
theorem d18_4 : decode prog_52_method_4_code 4 = .ok (.iload_n 1, 1) := by decide +kernel
theorem d18_5 : decode prog_52_method_4_code 5 = .ok (.iaload, 1) := by decide +kernel
theorem d18_6 : decode prog_52_method_4_code 6 = .ok (.istore_n 2, 1) := by decide +kernel
theorem d18_7 : decode prog_52_method_4_code 7 = .ok (.iload_n 2, 1) := by decide +kernel
theorem d18_8 : decode prog_52_method_4_code 8 = .ok (.iconst (-1), 1) := by decide +kernel
theorem d18_9 : decode prog_52_method_4_code 9 = .ok (.if_icmp .ne 4, 3) := by decide +kernel
theorem d18_13 : decode prog_52_method_4_code 13 = .ok (.aload_n 0, 1) := by decide +kernel
theorem d18_14 : decode prog_52_method_4_code 14 = .ok (.getfield 13, 3) := by decide +kernel
theorem d18_17 : decode prog_52_method_4_code 17 = .ok (.iload_n 1, 1) := by decide +kernel
theorem d18_18 : decode prog_52_method_4_code 18 = .ok (.iconst (-1), 1) := by decide +kernel
theorem d18_19 : decode prog_52_method_4_code 19 = .ok (.iastore, 1) := by decide +kernel
theorem d18_20 : decode prog_52_method_4_code 20 = .ok (.aload_n 0, 1) := by decide +kernel
theorem d18_21 : decode prog_52_method_4_code 21 = .ok (.dup, 1) := by decide +kernel
theorem d18_22 : decode prog_52_method_4_code 22 = .ok (.getfield 35, 3) := by decide +kernel
theorem d18_25 : decode prog_52_method_4_code 25 = .ok (.iconst 1, 1) := by decide +kernel
theorem d18_26 : decode prog_52_method_4_code 26 = .ok (.isub, 1) := by decide +kernel
theorem d18_27 : decode prog_52_method_4_code 27 = .ok (.putfield 35, 3) := by decide +kernel
theorem d18_30 : decode prog_52_method_4_code 30 = .ok (.iload_n 2, 1) := by decide +kernel
theorem d18_31 : decode prog_52_method_4_code 31 = .ok (.aload_n 0, 1) := by decide +kernel
theorem d18_32 : decode prog_52_method_4_code 32 = .ok (.getfield 35, 3) := by decide +kernel
theorem d18_35 : decode prog_52_method_4_code 35 = .ok (.if_icmp .ge 36, 3) := by decide +kernel
theorem d18_71 : decode prog_52_method_4_code 71 = .ok (.return_, 1) := by decide +kernel
theorem d18_38 : decode prog_52_method_4_code 38 = .ok (.aload_n 0, 1) := by decide +kernel
theorem d18_39 : decode prog_52_method_4_code 39 = .ok (.getfield 7, 3) := by decide +kernel
theorem d18_42 : decode prog_52_method_4_code 42 = .ok (.aload_n 0, 1) := by decide +kernel
theorem d18_43 : decode prog_52_method_4_code 43 = .ok (.getfield 35, 3) := by decide +kernel
theorem d18_46 : decode prog_52_method_4_code 46 = .ok (.iaload, 1) := by decide +kernel
theorem d18_47 : decode prog_52_method_4_code 47 = .ok (.istore_n 3, 1) := by decide +kernel
theorem d18_48 : decode prog_52_method_4_code 48 = .ok (.aload_n 0, 1) := by decide +kernel
theorem d18_49 : decode prog_52_method_4_code 49 = .ok (.getfield 7, 3) := by decide +kernel
theorem d18_52 : decode prog_52_method_4_code 52 = .ok (.iload_n 2, 1) := by decide +kernel
theorem d18_53 : decode prog_52_method_4_code 53 = .ok (.iload_n 3, 1) := by decide +kernel
theorem d18_54 : decode prog_52_method_4_code 54 = .ok (.iastore, 1) := by decide +kernel
theorem d18_55 : decode prog_52_method_4_code 55 = .ok (.aload_n 0, 1) := by decide +kernel
theorem d18_56 : decode prog_52_method_4_code 56 = .ok (.getfield 13, 3) := by decide +kernel
theorem d18_59 : decode prog_52_method_4_code 59 = .ok (.iload_n 3, 1) := by decide +kernel
theorem d18_60 : decode prog_52_method_4_code 60 = .ok (.iload_n 2, 1) := by decide +kernel
theorem d18_61 : decode prog_52_method_4_code 61 = .ok (.iastore, 1) := by decide +kernel
theorem d18_62 : decode prog_52_method_4_code 62 = .ok (.aload_n 0, 1) := by decide +kernel
theorem d18_63 : decode prog_52_method_4_code 63 = .ok (.aload_n 0, 1) := by decide +kernel
theorem d18_64 : decode prog_52_method_4_code 64 = .ok (.iload_n 2, 1) := by decide +kernel
theorem d18_65 : decode prog_52_method_4_code 65 = .ok (.invokevirtual 39, 3) := by decide +kernel
theorem d18_68 : decode prog_52_method_4_code 68 = .ok (.invokevirtual 43, 3) := by decide +kernel
theorem d18_12 : decode prog_52_method_4_code 12 = .ok (.return_, 1) := by decide +kernel
theorem d1_0 : decode method_2_code 0 = .ok (.iload_n 0, 1) := by decide +kernel
theorem d1_1 : decode method_2_code 1 = .ok (.iconst 5, 1) := by decide +kernel
theorem d1_2 : decode method_2_code 2 = .ok (.irem, 1) := by decide +kernel
theorem d1_3 : decode method_2_code 3 = .ok (.ireturn, 1) := by decide +kernel
theorem pn_com_example_freshline_freshline_schedule_CandidateQueuePutPinLaw : plainName "com/example/freshline/freshline/schedule/CandidateQueuePutPinLaw" = true := by first | (simp [plainName, overriddenIn]; done) | decide +kernel
theorem d2_0 : decode method_3_code 0 = .ok (.iload_n 0, 1) := by decide +kernel
theorem d2_1 : decode method_3_code 1 = .ok (.iconst 3, 1) := by decide +kernel
theorem d2_2 : decode method_3_code 2 = .ok (.ishr, 1) := by decide +kernel
theorem d2_3 : decode method_3_code 3 = .ok (.iconst 5, 1) := by decide +kernel
theorem d2_4 : decode method_3_code 4 = .ok (.irem, 1) := by decide +kernel
theorem d2_5 : decode method_3_code 5 = .ok (.ireturn, 1) := by decide +kernel
theorem d16_0 : decode method_4_code 0 = .ok (.aload_n 0, 1) := by decide +kernel
theorem d16_1 : decode method_4_code 1 = .ok (.iload_n 2, 1) := by decide +kernel
theorem d16_2 : decode method_4_code 2 = .ok (.iaload, 1) := by decide +kernel
theorem d16_3 : decode method_4_code 3 = .ok (.aload_n 0, 1) := by decide +kernel
theorem d16_4 : decode method_4_code 4 = .ok (.iload_n 3, 1) := by decide +kernel
theorem d16_5 : decode method_4_code 5 = .ok (.iaload, 1) := by decide +kernel
theorem d16_6 : decode method_4_code 6 = .ok (.if_icmp .eq 18, 3) := by decide +kernel
theorem d16_24 : decode method_4_code 24 = .ok (.aload_n 1, 1) := by decide +kernel
theorem d16_25 : decode method_4_code 25 = .ok (.iload_n 2, 1) := by decide +kernel
theorem d16_26 : decode method_4_code 26 = .ok (.iaload, 1) := by decide +kernel
theorem d16_27 : decode method_4_code 27 = .ok (.aload_n 1, 1) := by decide +kernel
theorem d16_28 : decode method_4_code 28 = .ok (.iload_n 3, 1) := by decide +kernel
theorem d16_29 : decode method_4_code 29 = .ok (.iaload, 1) := by decide +kernel
theorem d16_30 : decode method_4_code 30 = .ok (.if_icmp .eq 18, 3) := by decide +kernel
theorem d16_48 : decode method_4_code 48 = .ok (.iload_n 2, 1) := by decide +kernel
theorem d16_49 : decode method_4_code 49 = .ok (.iload_n 3, 1) := by decide +kernel
theorem d16_50 : decode method_4_code 50 = .ok (.if_icmp .ge 7, 3) := by decide +kernel
theorem d16_57 : decode method_4_code 57 = .ok (.iconst 0, 1) := by decide +kernel
theorem d16_58 : decode method_4_code 58 = .ok (.ireturn, 1) := by decide +kernel
theorem d16_53 : decode method_4_code 53 = .ok (.iconst 1, 1) := by decide +kernel
theorem d16_54 : decode method_4_code 54 = .ok (.goto 4, 3) := by decide +kernel
theorem d16_33 : decode method_4_code 33 = .ok (.aload_n 1, 1) := by decide +kernel
theorem d16_34 : decode method_4_code 34 = .ok (.iload_n 2, 1) := by decide +kernel
theorem d16_35 : decode method_4_code 35 = .ok (.iaload, 1) := by decide +kernel
theorem d16_36 : decode method_4_code 36 = .ok (.aload_n 1, 1) := by decide +kernel
theorem d16_37 : decode method_4_code 37 = .ok (.iload_n 3, 1) := by decide +kernel
theorem d16_38 : decode method_4_code 38 = .ok (.iaload, 1) := by decide +kernel
theorem d16_39 : decode method_4_code 39 = .ok (.if_icmp .ge 7, 3) := by decide +kernel
theorem d16_46 : decode method_4_code 46 = .ok (.iconst 0, 1) := by decide +kernel
theorem d16_47 : decode method_4_code 47 = .ok (.ireturn, 1) := by decide +kernel
theorem d16_42 : decode method_4_code 42 = .ok (.iconst 1, 1) := by decide +kernel
theorem d16_43 : decode method_4_code 43 = .ok (.goto 4, 3) := by decide +kernel
theorem d16_9 : decode method_4_code 9 = .ok (.aload_n 0, 1) := by decide +kernel
theorem d16_10 : decode method_4_code 10 = .ok (.iload_n 2, 1) := by decide +kernel
theorem d16_11 : decode method_4_code 11 = .ok (.iaload, 1) := by decide +kernel
theorem d16_12 : decode method_4_code 12 = .ok (.aload_n 0, 1) := by decide +kernel
theorem d16_13 : decode method_4_code 13 = .ok (.iload_n 3, 1) := by decide +kernel
theorem d16_14 : decode method_4_code 14 = .ok (.iaload, 1) := by decide +kernel
theorem d16_15 : decode method_4_code 15 = .ok (.if_icmp .le 7, 3) := by decide +kernel
theorem d16_22 : decode method_4_code 22 = .ok (.iconst 0, 1) := by decide +kernel
theorem d16_23 : decode method_4_code 23 = .ok (.ireturn, 1) := by decide +kernel
theorem d16_18 : decode method_4_code 18 = .ok (.iconst 1, 1) := by decide +kernel
theorem d16_19 : decode method_4_code 19 = .ok (.goto 4, 3) := by decide +kernel
theorem d15_0 : decode method_5_code 0 = .ok (.aload_n 0, 1) := by decide +kernel
theorem d15_1 : decode method_5_code 1 = .ok (.aload_n 1, 1) := by decide +kernel
theorem d15_2 : decode method_5_code 2 = .ok (.iload_n 2, 1) := by decide +kernel
theorem d15_3 : decode method_5_code 3 = .ok (.iload_n 3, 1) := by decide +kernel
theorem d15_4 : decode method_5_code 4 = .ok (.invokestatic 7, 3) := by decide +kernel
theorem pd___I_III_Z : parseMethodDescriptor "([I[III)Z" = some ⟨[(.array .int), (.array .int), .int, .int], some .boolean⟩ := by decide +kernel
theorem d15_7 : decode method_5_code 7 = .ok (.ifCond .eq 7, 3) := by decide +kernel
theorem d15_14 : decode method_5_code 14 = .ok (.iload_n 3, 1) := by decide +kernel
theorem d15_15 : decode method_5_code 15 = .ok (.ireturn, 1) := by decide +kernel
theorem d15_10 : decode method_5_code 10 = .ok (.iload_n 2, 1) := by decide +kernel
theorem d15_11 : decode method_5_code 11 = .ok (.goto 4, 3) := by decide +kernel
theorem d19_0 : decode method_6_code 0 = .ok (.iload_n 2, 1) := by decide +kernel
theorem d19_1 : decode method_6_code 1 = .ok (.iload 4, 2) := by decide +kernel
theorem d19_3 : decode method_6_code 3 = .ok (.if_icmp .ne 5, 3) := by decide +kernel
theorem d19_8 : decode method_6_code 8 = .ok (.iload_n 3, 1) := by decide +kernel
theorem d19_9 : decode method_6_code 9 = .ok (.iload 4, 2) := by decide +kernel
theorem d19_11 : decode method_6_code 11 = .ok (.if_icmp .ne 5, 3) := by decide +kernel
theorem d19_16 : decode method_6_code 16 = .ok (.aload_n 0, 1) := by decide +kernel
theorem d19_17 : decode method_6_code 17 = .ok (.aload_n 1, 1) := by decide +kernel
theorem d19_18 : decode method_6_code 18 = .ok (.iload_n 2, 1) := by decide +kernel
theorem d19_19 : decode method_6_code 19 = .ok (.iload_n 3, 1) := by decide +kernel
theorem d19_20 : decode method_6_code 20 = .ok (.invokestatic 13, 3) := by decide +kernel
theorem pd___I_III_I : parseMethodDescriptor "([I[III)I" = some ⟨[(.array .int), (.array .int), .int, .int], some .int⟩ := by decide +kernel
theorem d19_23 : decode method_6_code 23 = .ok (.ireturn, 1) := by decide +kernel
theorem d19_14 : decode method_6_code 14 = .ok (.iload_n 2, 1) := by decide +kernel
theorem d19_15 : decode method_6_code 15 = .ok (.ireturn, 1) := by decide +kernel
theorem d19_6 : decode method_6_code 6 = .ok (.iload_n 3, 1) := by decide +kernel
theorem d19_7 : decode method_6_code 7 = .ok (.ireturn, 1) := by decide +kernel
theorem pd__IDD_V : parseMethodDescriptor "(IDD)V" = some ⟨[.int, .double, .double], none⟩ := by decide +kernel
theorem pd___I : parseMethodDescriptor "()I" = some ⟨[], some .int⟩ := by decide +kernel
theorem pd___I_IIII_I : parseMethodDescriptor "([I[IIII)I" = some ⟨[(.array .int), (.array .int), .int, .int, .int], some .int⟩ := by decide +kernel
theorem b53_32 (x : Int32) : B53 x.toInt64 := by
  have h1 := Int32.toInt_lt x; have h2 := Int32.le_toInt x
  have e : x.toInt64.toInt = x.toInt := Int32.toInt_toInt64 x
  unfold B53
  rw [e]; omega
theorem cmp_i2d (x y : Int32) (o : CmpOp) : cmpValue (FP.dcmp (FP.i2d x) (FP.i2d y)) o = if y < x then 1 else if x = y then 0 else -1 := by
  rw [i2d_w, i2d_w, dcmpV_w (b53_32 x) (b53_32 y)]
  simp only [lcmpW, gt_iff_lt, Int64.lt_iff_toInt_lt, Int32.toInt_toInt64, Int32.lt_iff_toInt_lt, ← Int64.toInt_inj, ← Int32.toInt_inj]
/-- what Double.compare answers, of two that are no NaN -/
def dcp (a b : UInt64) : Int32 := if cmpValue (FP.dcmp a b) .g < 0 then -1 else if 0 < cmpValue (FP.dcmp a b) .l then 1 else if a.toInt64 = b.toInt64 then 0 else if a.toInt64 < b.toInt64 then -1 else 1
theorem dcp_i2d (x y : Int32) : dcp (FP.i2d x) (FP.i2d y) = if x < y then -1 else if y < x then 1 else 0 := by
  have h1 := @Int32.lt_iff_toInt_lt x y; have h2 := @Int32.lt_iff_toInt_lt y x; have h3 := @Int32.toInt_inj x y
  simp only [dcp, cmp_i2d]
  by_cases a : y < x
  · have b : ¬ x < y := fun q => by have := h1.mp q; have := h2.mp a; omega
    simp [a, b]
  · by_cases b : x = y
    · subst b; simp [a]
    · have c : x < y := by
        have : x.toInt ≠ y.toInt := fun q => b (h3.mp q)
        have : ¬ y.toInt < x.toInt := fun q => a (h2.mpr q)
        exact h1.mpr (by omega)
      simp [a, b, c]
def nd (n : Nat) : Int32 := Int32.ofNat n
def upd {α : Type} (f : Nat → α) (i : Nat) (v : α) : Nat → α := fun j => if j = i then v else f j
def arr4 {α : Type} (f : Nat → α) : List α := [f 0, f 1, f 2, f 3]
theorem upd_here {α : Type} (f : Nat → α) (i : Nat) (v : α) : upd f i v i = v := by simp [upd]
theorem upd_ne {α : Type} (f : Nat → α) {i j : Nat} (v : α) (h : j ≠ i) : upd f i v j = f j := by simp [upd, h]
theorem lt4 {j : Nat} (h : j < 4) : j = 0 ∨ j = 1 ∨ j = 2 ∨ j = 3 := by omega
theorem arr4_get {α : Type} {f : Nat → α} {j : Nat} (h : j < 4) : (arr4 f)[j]? = some (f j) := by
  rcases lt4 h with rfl | rfl | rfl | rfl <;> rfl
theorem arr4_set {α β : Type} (F : β → α) (f : Nat → β) {j : Nat} (h : j < 4) (v : β) : (arr4 fun i => F (f i)).set j (F v) = arr4 fun i => F (upd f j v i) := by
  rcases lt4 h with rfl | rfl | rfl | rfl <;> rfl
theorem nd_int {j : Nat} (h : j < 5) : (nd j).toInt = j := by
  have : j = 0 ∨ j = 1 ∨ j = 2 ∨ j = 3 ∨ j = 4 := by omega
  rcases this with rfl | rfl | rfl | rfl | rfl <;> rfl
theorem nd_inj {i j : Nat} (hi : i < 5) (hj : j < 5) (e : nd i = nd j) : i = j := by
  have := congrArg Int32.toInt e
  rw [nd_int hi, nd_int hj] at this; omega
theorem nd_ne {j : Nat} (h : j < 5) : nd j ≠ -1 := fun e => by
  have := congrArg Int32.toInt e
  rw [nd_int h, show (-1 : Int32).toInt = -1 from rfl] at this; omega
theorem nd_nn {j : Nat} (h : j < 5) : ¬ nd j < 0 := by
  rw [Int32.lt_iff_toInt_lt, nd_int h, show (0 : Int32).toInt = 0 from rfl]; omega
theorem nd_nat {j : Nat} (h : j < 5) : (nd j).toNatClampNeg = j := by
  have : j = 0 ∨ j = 1 ∨ j = 2 ∨ j = 3 ∨ j = 4 := by omega
  rcases this with rfl | rfl | rfl | rfl | rfl <;> rfl
theorem nd_lt {i j : Nat} (hi : i < 5) (hj : j < 5) : nd i < nd j ↔ i < j := by
  rw [Int32.lt_iff_toInt_lt, nd_int hi, nd_int hj]; omega
theorem nd_succ {j : Nat} (h : j < 4) : nd j + 1 = nd (j + 1) := by
  rcases lt4 h with rfl | rfl | rfl | rfl <;> rfl
theorem nd_pred {j : Nat} (h : j < 4) : nd (j + 1) - 1 = nd j := by
  rcases lt4 h with rfl | rfl | rfl | rfl <;> rfl
/-- a candidate's place in the order, as one number -/
def ky (a b : Nat → Int32) (x : Nat) : Int := (b x).toInt * 4 + x - (a x).toInt * 34359738368
theorem ky_lt {a b : Nat → Int32} {x y : Nat} (hx : x < 4) (hy : y < 4) : ky a b x < ky a b y ↔ (a y < a x ∨ (a x = a y ∧ (b x < b y ∨ (b x = b y ∧ x < y)))) := by
  simp only [Int32.lt_iff_toInt_lt, ← Int32.toInt_inj, ky]
  have := Int32.toInt_lt (a x); have := Int32.le_toInt (a x); have := Int32.toInt_lt (a y); have := Int32.le_toInt (a y)
  have := Int32.toInt_lt (b x); have := Int32.le_toInt (b x); have := Int32.toInt_lt (b y); have := Int32.le_toInt (b y)
  omega
theorem ky_inj {a b : Nat → Int32} {x y : Nat} (hx : x < 4) (hy : y < 4) (h : ky a b x = ky a b y) : x = y := by
  unfold ky at h; omega
theorem ky_congr {a b a' b' : Nat → Int32} {x : Nat} (h : a' x = a x) (h' : b' x = b x) : ky a' b' x = ky a b x := by unfold ky; rw [h, h']
abbrev Ok (n : Nat) (h : Nat → Nat) (p : Nat → Int32) : Prop := n ≤ 4 ∧ (∀ i, i < n → h i < 4 ∧ p (h i) = nd i) ∧ (∀ y, y < 4 → p y = -1 ∨ ∃ i, i < n ∧ h i = y)
abbrev Okh (n : Nat) (h : Nat → Nat) (p : Nat → Int32) (c x : Nat) : Prop := n ≤ 4 ∧ c < n ∧ x < 4 ∧ (∀ i, i < n → i ≠ c → h i < 4 ∧ h i ≠ x ∧ p (h i) = nd i) ∧ (∀ y, y < 4 → y ≠ x → p y = -1 ∨ ∃ i, i < n ∧ i ≠ c ∧ h i = y)
section Pr
variable {n : Nat} {h : Nat → Nat} {p : Nat → Int32} {c x : Nat}
theorem Ok.le (O : Ok n h p) : n ≤ 4 := O.1
theorem Ok.atp (O : Ok n h p) : ∀ i, i < n → h i < 4 ∧ p (h i) = nd i := O.2.1
theorem Ok.of (O : Ok n h p) : ∀ y, y < 4 → p y = -1 ∨ ∃ i, i < n ∧ h i = y := O.2.2
theorem Okh.le (O : Okh n h p c x) : n ≤ 4 := O.1
theorem Okh.lc (O : Okh n h p c x) : c < n := O.2.1
theorem Okh.lx (O : Okh n h p c x) : x < 4 := O.2.2.1
theorem Okh.atp (O : Okh n h p c x) : ∀ i, i < n → i ≠ c → h i < 4 ∧ h i ≠ x ∧ p (h i) = nd i := O.2.2.2.1
theorem Okh.of (O : Okh n h p c x) : ∀ y, y < 4 → y ≠ x → p y = -1 ∨ ∃ i, i < n ∧ i ≠ c ∧ h i = y := O.2.2.2.2
end Pr
def Same (p p' : Nat → Int32) (x : Nat) : Prop := ∀ y, y < 4 → y ≠ x → (p' y = -1 ↔ p y = -1)
theorem Same.refl (p : Nat → Int32) (x : Nat) : Same p p x := fun _ _ _ => Iff.rfl
theorem Same.trans {p q r : Nat → Int32} {x : Nat} (A : Same p q x) (B : Same q r x) : Same p r x := fun y h k => (B y h k).trans (A y h k)
theorem Ok.inj {n : Nat} {h : Nat → Nat} {p : Nat → Int32} (O : Ok n h p) {i j : Nat} (hi : i < n) (hj : j < n) (e : h i = h j) : i = j := by
  have q1 := (O.atp i hi).2; have q2 := (O.atp j hj).2; have := O.le
  rw [e, q2] at q1; exact (nd_inj (by omega) (by omega) q1).symm
theorem Ok.hole {n : Nat} {h : Nat → Nat} {p : Nat → Int32} (O : Ok n h p) {c : Nat} (hc : c < n) : Okh n h p c (h c) :=
  ⟨O.le, hc, (O.atp c hc).1, fun i hi ne => ⟨(O.atp i hi).1, fun e => ne (O.inj hi hc e), (O.atp i hi).2⟩, fun y hy ne => (O.of y hy).imp id fun ⟨i, h1, h2⟩ => ⟨i, h1, fun e => ne (by rw [← h2, e]), h2⟩⟩
theorem Okh.step {n : Nat} {h : Nat → Nat} {p : Nat → Int32} {c x : Nat} (O : Okh n h p c x) {d : Nat} (hd : d < n) (dc : d ≠ c) : Okh n (upd h c (h d)) (upd p (h d) (nd c)) d x := by
  obtain ⟨d1, d2, d3⟩ := O.atp d hd dc
  have le := O.le
  refine ⟨le, hd, O.lx, fun i hi ne => ?_, fun y hy ne => ?_⟩
  · by_cases e : i = c
    · subst e; rw [upd_here, upd_here]; exact ⟨d1, d2, rfl⟩
    · obtain ⟨i1, i2, i3⟩ := O.atp i hi e
      have : h i ≠ h d := fun q => by rw [q, d3] at i3; exact ne (nd_inj (by omega) (by omega) i3).symm
      rw [upd_ne _ _ e, upd_ne _ _ this]; exact ⟨i1, i2, i3⟩
  · by_cases e : y = h d
    · exact Or.inr ⟨c, O.lc, Ne.symm dc, by rw [upd_here, e]⟩
    · rw [upd_ne _ _ e]
      refine (O.of y hy ne).imp id fun ⟨i, h1, h2, h3⟩ => ⟨i, h1, fun q => e (by rw [← h3, q]), by rw [upd_ne _ _ h2, h3]⟩
theorem Okh.step_same {n : Nat} {h : Nat → Nat} {p : Nat → Int32} {c x : Nat} (O : Okh n h p c x) {d : Nat} (hd : d < n) (dc : d ≠ c) : Same p (upd p (h d) (nd c)) x := fun y hy ne => by
  obtain ⟨d1, d2, d3⟩ := O.atp d hd dc
  have le := O.le; have lc := O.lc
  by_cases e : y = h d
  · subst e; rw [upd_here, d3]; exact ⟨fun q => absurd q (nd_ne (by omega)), fun q => absurd q (nd_ne (by omega))⟩
  · rw [upd_ne _ _ e]
theorem Okh.fill {n : Nat} {h : Nat → Nat} {p : Nat → Int32} {c x : Nat} (O : Okh n h p c x) : Ok n (upd h c x) (upd p x (nd c)) := by
  refine ⟨O.le, fun i hi => ?_, fun y hy => ?_⟩
  · by_cases e : i = c
    · subst e; rw [upd_here, upd_here]; exact ⟨O.lx, rfl⟩
    · obtain ⟨i1, i2, i3⟩ := O.atp i hi e
      rw [upd_ne _ _ e, upd_ne _ _ i2]; exact ⟨i1, i3⟩
  · by_cases e : y = x
    · exact Or.inr ⟨c, O.lc, by rw [upd_here, e]⟩
    · rw [upd_ne _ _ e]
      exact (O.of y hy e).imp id fun ⟨i, h1, h2, h3⟩ => ⟨i, h1, by rw [upd_ne _ _ h2, h3]⟩
theorem fill_same {p : Nat → Int32} {x : Nat} (v : Int32) : Same p (upd p x v) x := fun y hy ne => by rw [upd_ne _ _ ne]
/-- the order of the heap: whole; but for what touches place c; but for what goes down from c -/
def Hw (n : Nat) (g0 g1 g2 g3 : Int) : Prop := (1 < n → g0 ≤ g1) ∧ (2 < n → g0 ≤ g2) ∧ (3 < n → g1 ≤ g3)
def Hx (n c : Nat) (g0 g1 g2 g3 : Int) : Prop := (1 < n → c ≠ 0 → c ≠ 1 → g0 ≤ g1) ∧ (2 < n → c ≠ 0 → c ≠ 2 → g0 ≤ g2) ∧ (3 < n → c ≠ 1 → c ≠ 3 → g1 ≤ g3) ∧ (3 < n → c = 1 → g0 ≤ g3)
def Hd (n c : Nat) (g0 g1 g2 g3 : Int) : Prop := (1 < n → c ≠ 0 → g0 ≤ g1) ∧ (2 < n → c ≠ 0 → g0 ≤ g2) ∧ (3 < n → c ≠ 1 → g1 ≤ g3) ∧ (3 < n → c = 1 → g0 ≤ g3)
abbrev HW (n : Nat) (k : Nat → Int) (h : Nat → Nat) : Prop := Hw n (k (h 0)) (k (h 1)) (k (h 2)) (k (h 3))
abbrev HX (n c : Nat) (k : Nat → Int) (h : Nat → Nat) : Prop := Hx n c (k (h 0)) (k (h 1)) (k (h 2)) (k (h 3))
abbrev HD (n c : Nat) (k : Nat → Int) (h : Nat → Nat) : Prop := Hd n c (k (h 0)) (k (h 1)) (k (h 2)) (k (h 3))
theorem HX.rank {n c : Nat} {k k' : Nat → Int} {h : Nat → Nat} (W : HW n k h) (e : ∀ i, i < n → i ≠ c → k' (h i) = k (h i)) (hc : c < n) (le : n ≤ 4) : HX n c k' h := by
  have e0 := e 0; have e1 := e 1; have e2 := e 2; have e3 := e 3
  unfold HW Hw at W; unfold HX Hx
  rcases lt4 (show c < 4 by omega) with rfl | rfl | rfl | rfl <;> omega
theorem HX.new {n : Nat} {k k' : Nat → Int} {h : Nat → Nat} {x : Nat} (W : HW n k h) (e : ∀ i, i < n → k' (h i) = k (h i)) (le : n < 4) : HX (n + 1) n k' (upd h n x) := by
  have e0 := e 0; have e1 := e 1; have e2 := e 2; have e3 := e 3
  unfold HW Hw at W
  rcases lt4 le with rfl | rfl | rfl | rfl <;> simp [HX, Hx, upd] <;> omega
theorem HX.gap {n c : Nat} {k : Nat → Int} {h : Nat → Nat} (W : HW (n + 1) k h) (hc : c < n) (le : n < 4) : HX n c k (upd h c (h n)) := by
  unfold HW Hw at W
  rcases lt4 le with rfl | rfl | rfl | rfl <;> rcases lt4 (show c < 4 by omega) with rfl | rfl | rfl | rfl <;> simp [HX, Hx, upd] <;> omega
theorem HW.cut {n : Nat} {k : Nat → Int} {h : Nat → Nat} (W : HW (n + 1) k h) : HW n k h := by unfold HW Hw at *; omega
theorem Ok.full {h : Nat → Nat} {p : Nat → Int32} (O : Ok 4 h p) {x : Nat} (hx : x < 4) (e : p x = -1) : False := by
  have a0 := O.atp 0 (by omega); have a1 := O.atp 1 (by omega); have a2 := O.atp 2 (by omega); have a3 := O.atp 3 (by omega)
  have n0 : h 0 ≠ x := fun q => by rw [q, e] at a0; exact nd_ne (j := 0) (by omega) a0.2.symm
  have n1 : h 1 ≠ x := fun q => by rw [q, e] at a1; exact nd_ne (j := 1) (by omega) a1.2.symm
  have n2 : h 2 ≠ x := fun q => by rw [q, e] at a2; exact nd_ne (j := 2) (by omega) a2.2.symm
  have n3 : h 3 ≠ x := fun q => by rw [q, e] at a3; exact nd_ne (j := 3) (by omega) a3.2.symm
  have d01 : h 0 ≠ h 1 := fun q => absurd (O.inj (by omega) (by omega) q) (by omega)
  have d02 : h 0 ≠ h 2 := fun q => absurd (O.inj (by omega) (by omega) q) (by omega)
  have d03 : h 0 ≠ h 3 := fun q => absurd (O.inj (by omega) (by omega) q) (by omega)
  have d12 : h 1 ≠ h 2 := fun q => absurd (O.inj (by omega) (by omega) q) (by omega)
  have d13 : h 1 ≠ h 3 := fun q => absurd (O.inj (by omega) (by omega) q) (by omega)
  have d23 : h 2 ≠ h 3 := fun q => absurd (O.inj (by omega) (by omega) q) (by omega)
  have b0 := a0.1; have b1 := a1.1; have b2 := a2.1; have b3 := a3.1
  clear a0 a1 a2 a3 e O
  generalize h 0 = u0 at *; generalize h 1 = u1 at *; generalize h 2 = u2 at *; generalize h 3 = u3 at *
  rcases lt4 hx with rfl | rfl | rfl | rfl <;> rcases lt4 b0 with rfl | rfl | rfl | rfl <;> rcases lt4 b1 with rfl | rfl | rfl | rfl <;> first | (exact absurd rfl ‹_›) | omega
theorem Ok.lt {n : Nat} {h : Nat → Nat} {p : Nat → Int32} (O : Ok n h p) {x : Nat} (hx : x < 4) (e : p x = -1) : n < 4 := by
  rcases Nat.lt_or_ge n 4 with q | q
  · exact q
  · have : n = 4 := Nat.le_antisymm O.le q
    subst this; exact (O.full hx e).elim
theorem Ok.no {n : Nat} {h : Nat → Nat} {p : Nat → Int32} (O : Ok n h p) {x : Nat} (e : p x = -1) {i : Nat} (hi : i < n) : h i ≠ x := fun q => by
  have := (O.atp i hi).2; have := O.le
  rw [q, e] at *; exact nd_ne (j := i) (by omega) (by simp_all)
theorem Ok.new {n : Nat} {h : Nat → Nat} {p : Nat → Int32} (O : Ok n h p) {x : Nat} (hx : x < 4) (e : p x = -1) : Ok (n + 1) (upd h n x) (upd p x (nd n)) := by
  have lt := O.lt hx e
  refine ⟨by omega, fun i hi => ?_, fun y hy => ?_⟩
  · by_cases q : i = n
    · subst q; rw [upd_here, upd_here]; exact ⟨hx, rfl⟩
    · have hi' : i < n := by omega
      rw [upd_ne _ _ q, upd_ne _ _ (O.no e hi')]; exact O.atp i hi'
  · by_cases q : y = x
    · exact Or.inr ⟨n, by omega, by rw [upd_here, q]⟩
    · rw [upd_ne _ _ q]
      exact (O.of y hy).imp id fun ⟨i, h1, h2⟩ => ⟨i, by omega, by rw [upd_ne _ _ (by omega), h2]⟩
theorem Ok.cutLast {n : Nat} {h : Nat → Nat} {p : Nat → Int32} (O : Ok (n + 1) h p) : Ok n h (upd p (h n) (-1)) := by
  have le := O.le
  refine ⟨by omega, fun i hi => ?_, fun y hy => ?_⟩
  · have : h i ≠ h n := fun q => absurd (O.inj (by omega) (by omega) q) (by omega)
    rw [upd_ne _ _ this]; exact O.atp i (by omega)
  · by_cases q : y = h n
    · exact Or.inl (by rw [q, upd_here])
    · rw [upd_ne _ _ q]
      exact (O.of y hy).imp id fun ⟨i, h1, h2⟩ => ⟨i, by
        have : i ≠ n := fun e => q (by rw [← h2, e])
        omega, h2⟩
theorem Ok.gap {n c : Nat} {h : Nat → Nat} {p : Nat → Int32} (O : Ok (n + 1) h p) (hc : c < n) : Ok n (upd h c (h n)) (upd (upd p (h c) (-1)) (h n) (nd c)) := by
  have le := O.le
  have nc : h n ≠ h c := fun q => absurd (O.inj (by omega) (by omega) q) (by omega)
  refine ⟨by omega, fun i hi => ?_, fun y hy => ?_⟩
  · by_cases q : i = c
    · subst q; rw [upd_here, upd_here]; exact ⟨(O.atp n (by omega)).1, rfl⟩
    · have a1 : h i ≠ h n := fun q => absurd (O.inj (by omega) (by omega) q) (by omega)
      have a2 : h i ≠ h c := fun e => q (O.inj (by omega) (by omega) e)
      rw [upd_ne _ _ q, upd_ne _ _ a1, upd_ne _ _ a2]; exact O.atp i (by omega)
  · by_cases q : y = h n
    · exact Or.inr ⟨c, hc, by rw [upd_here, q]⟩
    · rw [upd_ne _ _ q]
      by_cases r : y = h c
      · exact Or.inl (by rw [r, upd_here])
      · rw [upd_ne _ _ r]
        exact (O.of y hy).imp id fun ⟨i, h1, h2⟩ => ⟨i, by
          have : i ≠ n := fun e => q (by rw [← h2, e])
          omega, by rw [upd_ne _ _ (fun e => r (by rw [← h2, e])), h2]⟩
theorem Ok.some {n : Nat} {h : Nat → Nat} {p : Nat → Int32} (O : Ok n h p) {x : Nat} (hx : x < 4) (e : p x ≠ -1) : ∃ i, i < n ∧ h i = x ∧ p x = nd i := by
  rcases O.of x hx with q | ⟨i, h1, h2⟩
  · exact absurd q e
  · exact ⟨i, h1, h2, by rw [← h2]; exact (O.atp i h1).2⟩
theorem Ok.least {n : Nat} {h : Nat → Nat} {p : Nat → Int32} {k : Nat → Int} (O : Ok n h p) (W : HW n k h) {y : Nat} (hy : y < 4) (e : p y ≠ -1) : n ≠ 0 ∧ k (h 0) ≤ k y := by
  obtain ⟨i, h1, h2, -⟩ := O.some hy e
  subst h2
  have := O.le
  unfold HW Hw at W
  rcases lt4 (show i < 4 by omega) with rfl | rfl | rfl | rfl <;> omega
theorem Ok.top {n : Nat} {h : Nat → Nat} {p : Nat → Int32} (O : Ok n h p) (hn : n ≠ 0) : h 0 < 4 ∧ p (h 0) ≠ -1 := by
  have q := O.atp 0 (by omega)
  exact ⟨q.1, by rw [q.2]; exact nd_ne (by omega)⟩
def bst (k : Nat → Int) (i j : Nat) : Nat := if k i < k j then i else j
def pk (k : Nat → Int) (i j w : Nat) : Nat := if i = w then j else if j = w then i else bst k i j
theorem bst_lt {k : Nat → Int} {i j : Nat} (hi : i < 4) (hj : j < 4) : bst k i j < 4 := by unfold bst; split <;> assumption
theorem bst_le (k : Nat → Int) (i j : Nat) : k (bst k i j) ≤ k i ∧ k (bst k i j) ≤ k j ∧ (bst k i j = i ∨ bst k i j = j) := by unfold bst; split <;> omega
theorem best4 (k : Nat → Int) {y : Nat} (hy : y < 4) : k (bst k (bst k 0 1) (bst k 2 3)) ≤ k y := by
  have a := bst_le k 0 1; have b := bst_le k 2 3; have c := bst_le k (bst k 0 1) (bst k 2 3)
  rcases lt4 hy with rfl | rfl | rfl | rfl <;> omega
theorem pk_le (k : Nat → Int) {i j w : Nat} (ij : i ≠ j) : pk k i j w ≠ w ∧ (pk k i j w = i ∨ pk k i j w = j) ∧ (i ≠ w → k (pk k i j w) ≤ k i) ∧ (j ≠ w → k (pk k i j w) ≤ k j) := by
  unfold pk
  have c := bst_le k i j
  split
  · subst_vars; exact ⟨Ne.symm ij, Or.inr rfl, fun q => absurd rfl q, fun _ => Int.le_refl _⟩
  · split
    · subst_vars; exact ⟨ij, Or.inl rfl, fun _ => Int.le_refl _, fun q => absurd rfl q⟩
    · refine ⟨fun q => ?_, c.2.2, fun _ => c.1, fun _ => c.2.1⟩
      rcases c.2.2 with e | e <;> rw [e] at q <;> contradiction
theorem pk_lt (k : Nat → Int) {i j w : Nat} (hi : i < 4) (hj : j < 4) : pk k i j w < 4 := by
  unfold pk
  split
  · exact hj
  · split
    · exact hi
    · exact bst_lt hi hj
theorem second4 (k : Nat → Int) {w : Nat} : bst k (pk k 0 1 w) (pk k 2 3 w) ≠ w ∧ ∀ y, y < 4 → y ≠ w → k (bst k (pk k 0 1 w) (pk k 2 3 w)) ≤ k y := by
  have a := pk_le k (w := w) (show 0 ≠ 1 by decide); have b := pk_le k (w := w) (show 2 ≠ 3 by decide); have c := bst_le k (pk k 0 1 w) (pk k 2 3 w)
  refine ⟨by omega, fun y hy ne => ?_⟩
  rcases lt4 hy with rfl | rfl | rfl | rfl <;> omega
def All (p p' : Nat → Int32) : Prop := ∀ y, y < 4 → (p' y = -1 ↔ p y = -1)
theorem All.trans {p q r : Nat → Int32} (A : All p q) (B : All q r) : All p r := fun y h => (B y h).trans (A y h)
theorem Okh.all {n : Nat} {h h2 : Nat → Nat} {p p2 : Nat → Int32} {c d : Nat} (O : Ok n h p) (hc : c < n) (O2 : Okh n h2 p2 d (h c)) (S : Same p p2 (h c)) : All p (upd p2 (h c) (nd d)) := fun y hy => by
  have le := O.le; have ld := O2.lc
  by_cases e : y = h c
  · subst e; rw [upd_here, (O.atp c hc).2]; exact ⟨fun q => absurd q (nd_ne (by omega)), fun q => absurd q (nd_ne (by omega))⟩
  · rw [upd_ne _ _ e]; exact S y hy e
def fst (n : Nat) (h : Nat → Nat) : Int32 := if n = 0 then -1 else nd (h 0)
theorem fst_yes {n : Nat} {h : Nat → Nat} (hn : n < 5) (c : nd n = 0) : fst n h = -1 := if_pos (nd_inj hn (by decide) c)
theorem fst_no {n : Nat} {h : Nat → Nat} (c : ¬ nd n = 0) : fst n h = nd (h 0) := if_neg fun q => c (by rw [q]; rfl)
theorem of_if {P : Prop} [Decidable P] (c : ¬ (if P then (1 : Int32) else 0) = 0) : P := Decidable.byContradiction fun q => c (if_neg q)
theorem of_ifn {P : Prop} [Decidable P] (c : (if P then (1 : Int32) else 0) = 0) : ¬ P := fun q => by rw [if_pos q] at c; exact absurd c (by decide)
theorem fst_is {n : Nat} {h : Nat → Nat} {p aq bq a b : Nat → Int32} (O : Ok n h p) (W : HW n (ky aq bq) h) (A : ∀ y, y < 4 → p y ≠ -1 → aq y = a y ∧ bq y = b y) {M : Nat} (hM : M < 4) (qM : p M ≠ -1) (L : ∀ y, y < 4 → p y ≠ -1 → ky a b M ≤ ky a b y) : fst n h = nd M := by
  obtain ⟨n0, l0⟩ := O.least W hM qM
  obtain ⟨t1, t2⟩ := O.top n0
  have e1 := L _ t1 t2
  rw [ky_congr (A _ hM qM).1 (A _ hM qM).2, ky_congr (A _ t1 t2).1 (A _ t1 t2).2] at l0
  have : h 0 = M := ky_inj (a := a) (b := b) t1 hM (by omega)
  rw [fst, if_neg n0, this]
theorem fst_none {n : Nat} {h : Nat → Nat} {p : Nat → Int32} (O : Ok n h p) (L : ∀ y, y < 4 → p y = -1) : fst n h = -1 := by
  by_cases e : n = 0
  · exact if_pos e
  · obtain ⟨t1, t2⟩ := O.top e
    exact absurd (L _ t1) t2
theorem ky_upd {a b : Nat → Int32} {x y : Nat} {u v : Int32} (h : y ≠ x) : ky (upd a x u) (upd b x v) y = ky a b y := ky_congr (upd_ne _ _ h) (upd_ne _ _ h)
theorem put_new {n : Nat} {h : Nat → Nat} {p a b : Nat → Int32} {x : Nat} {u v : Int32} (O : Ok n h p) (W : HW n (ky a b) h) (hx : x < 4) (e : p x = -1) : HX (n + 1) n (ky (upd a x u) (upd b x v)) (upd h n x) :=
  HX.new W (fun i hi => ky_upd (O.no e hi)) (O.lt hx e)
theorem put_old {n : Nat} {h : Nat → Nat} {p a b : Nat → Int32} {x i : Nat} {u v : Int32} (O : Ok n h p) (W : HW n (ky a b) h) (hi : i < n) (e : h i = x) : HX n i (ky (upd a x u) (upd b x v)) h :=
  HX.rank W (fun j hj ne => ky_upd fun q => ne (O.inj hj hi (q.trans e.symm))) hi O.le

abbrev oCq (Z : State) (a : Addr) (f0 f1 f2 f3 f4 : Value) : Ent := oObj Z a "com/example/freshline/freshline/schedule/CandidateQueue" [("com/example/freshline/freshline/schedule/CandidateQueue", "heap", "[I", f0), ("com/example/freshline/freshline/schedule/CandidateQueue", "places", "[I", f1), ("com/example/freshline/freshline/schedule/CandidateQueue", "ranks", "[D", f2), ("com/example/freshline/freshline/schedule/CandidateQueue", "staleSince", "[D", f3), ("com/example/freshline/freshline/schedule/CandidateQueue", "size", "I", f4)]
def prec (r s : UInt64) (n : Int32) (r2 s2 : UInt64) (n2 : Int32) : Int32 := if dcp r2 r = 0 then (if dcp s s2 = 0 then (if n < n2 then 1 else 0) else if dcp s s2 < 0 then 1 else 0) else if dcp r2 r < 0 then 1 else 0
theorem law_prec (p0 p1 : Int32) (p2 : Int32) (p3 p4 p5 : Int32) : nar .boolean (prec (FP.i2d p0) (FP.i2d p1) p2 (FP.i2d p3) (FP.i2d p4) p5) = (if p3 < p0 then 1 else if p0 < p3 then 0 else if p1 < p4 then 1 else if p4 < p1 then 0 else if p2 < p5 then 1 else 0) := by
  have h1 := @Int32.lt_iff_toInt_lt p3 p0; have h2 := @Int32.lt_iff_toInt_lt p0 p3; have h3 := @Int32.lt_iff_toInt_lt p1 p4; have h4 := @Int32.lt_iff_toInt_lt p4 p1
  simp only [prec, dcp_i2d]
  by_cases a1 : p3 < p0
  · simp [a1]; decide
  · by_cases a2 : p0 < p3
    · simp [a1, a2]; decide
    · by_cases a3 : p1 < p4
      · simp [a1, a2, a3]; decide
      · by_cases a4 : p4 < p1
        · simp [a1, a2, a3, a4]; decide
        · by_cases a5 : p2 < p5
          · simp [a1, a2, a3, a4, a5]; decide
          · simp [a1, a2, a3, a4, a5]; decide
abbrev hA (h : Nat → Nat) : List Value := arr4 fun i => Value.int (nd (h i))
abbrev iA (f : Nat → Int32) : List Value := arr4 fun i => Value.int (f i)
abbrev rA (f : Nat → Int32) : List Value := arr4 fun i => Value.double (FP.i2d (f i))
def b2 (b : Bool) : Int32 := if b then 1 else 0
abbrev zA (f : Nat → Bool) : List Value := arr4 fun i => Value.int (b2 (f i))
theorem set_hA {h : Nat → Nat} {j x : Nat} (hj : j < 4) : (hA h).set j (Value.int (nd x)) = hA (upd h j x) := arr4_set (fun n => Value.int (nd n)) h hj x
theorem set_iA {f : Nat → Int32} {j : Nat} {x : Int32} (hj : j < 4) : (iA f).set j (Value.int x) = iA (upd f j x) := arr4_set (fun n => Value.int n) f hj x
theorem set_rA {f : Nat → Int32} {j : Nat} {x : Int32} (hj : j < 4) : (rA f).set j (Value.double (FP.i2d x)) = rA (upd f j x) := arr4_set (fun n => Value.double (FP.i2d n)) f hj x
theorem set_zA {f : Nat → Bool} {j : Nat} {x : Bool} (hj : j < 4) : (zA f).set j (Value.int (b2 x)) = zA (upd f j x) := arr4_set (fun n => Value.int (b2 n)) f hj x
abbrev z0 : Nat → Int32 := fun _ => 0
abbrev m1 : Nat → Int32 := fun _ => -1
theorem i2d0 : (0 : UInt64) = FP.i2d 0 := by decide +kernel
theorem ra0 : ([Value.double 0, Value.double 0, Value.double 0, Value.double 0] : List Value) = rA z0 := by rw [i2d0]; rfl
theorem Ok.start : Ok 0 (fun _ => 0) m1 := ⟨by decide, fun i h => absurd h (by omega), fun y _ => Or.inl rfl⟩
theorem HW.start {k : Nat → Int} {h : Nat → Nat} : HW 0 k h := ⟨fun q => absurd q (by decide), fun q => absurd q (by decide), fun q => absurd q (by decide)⟩
theorem prec_ky {a b : Nat → Int32} {x y : Nat} (hx : x < 4) (hy : y < 4) : nar .boolean (prec (FP.i2d (a x)) (FP.i2d (b x)) (nd x) (FP.i2d (a y)) (FP.i2d (b y)) (nd y)) = if ky a b x < ky a b y then 1 else 0 := by
  rw [law_prec]
  have e := ky_lt (a := a) (b := b) hx hy
  have h1 := @Int32.lt_iff_toInt_lt (a y) (a x); have h2 := @Int32.lt_iff_toInt_lt (a x) (a y); have h3 := @Int32.lt_iff_toInt_lt (b x) (b y); have h4 := @Int32.lt_iff_toInt_lt (b y) (b x)
  have h5 := nd_lt (i := x) (j := y) (by omega) (by omega)
  by_cases a1 : a y < a x
  · rw [if_pos a1, if_pos (e.mpr (Or.inl a1))]
  · rw [if_neg a1]
    by_cases a2 : a x < a y
    · rw [if_pos a2, if_neg fun q => ?_]
      rcases e.mp q with q | ⟨q, -⟩
      · exact a1 q
      · rw [q] at a2; exact absurd a2 Int32.lt_irrefl
    · have ea : a x = a y := Int32.toInt_inj.mp (by rw [h1] at a1; rw [h2] at a2; omega)
      rw [if_neg a2]
      by_cases a3 : b x < b y
      · rw [if_pos a3, if_pos (e.mpr (Or.inr ⟨ea, Or.inl a3⟩))]
      · rw [if_neg a3]
        by_cases a4 : b y < b x
        · rw [if_pos a4, if_neg fun q => ?_]
          rcases e.mp q with q | ⟨-, q | ⟨q, -⟩⟩
          · exact a1 q
          · exact a3 q
          · rw [q] at a4; exact absurd a4 Int32.lt_irrefl
        · have eb : b x = b y := Int32.toInt_inj.mp (by rw [h3] at a3; rw [h4] at a4; omega)
          rw [if_neg a4]
          by_cases a5 : x < y
          · rw [if_pos (h5.mpr a5), if_pos (e.mpr (Or.inr ⟨ea, Or.inr ⟨eb, a5⟩⟩))]
          · rw [if_neg fun q => a5 (h5.mp q), if_neg fun q => ?_]
            rcases e.mp q with q | ⟨-, q | ⟨-, q⟩⟩
            · exact a1 q
            · exact a3 q
            · exact a5 q
set_option maxRecDepth 65536 in
theorem ef_c_isNaN (m : MethodId) (z0 : UInt64) : entryFrame m ([.double z0] : List Value).toArray 2 = mkF m 0 #[.val (.double z0), .second] [] := by first | (simp [entryFrame, mkF, argsToLocals, Value.category]; done) | rfl
def rm_c_isNaN : Room := { frames := 0, cells := 0, slots := 0, locals := 0 }
set_option maxRecDepth 65536 in
set_option maxHeartbeats 40000000 in
theorem c_isNaN (l : Launch) (Z : State) (a0 : Array Value) (hw : ∀ d ∈ tables_1, d.before a0 Z = true) (b : UInt64) (hb : NoNaN64 b) (rest : List Ent) :
    OMeets l (⟨"java/lang/Double", "isNaN", "(D)Z"⟩ : MethodName) jdk_117_method_6_code 2 (some .boolean) rm_c_isNaN Z [.double b] rest (fun v K => v = some (.int 0) ∧ rest = K) := by
  refine OMeets.of_body (plainFor_of_name pn_java_lang_Double) #[.val (.double b), .second] (fun m => ef_c_isNaN m b) fun pP eE sS mM bB hH cC T N => ?_
  refine k_dload_n (pc := 0) N d14_0 rfl ?_
  refine k_dload_n (pc := 1) N d14_1 rfl ?_
  refine k_dcmp (pc := 2) N d14_2 (v := (0 : Int32)) (dcmpV_self hb _) ?_
  refine k_if_eq (pc := 3) N d14_3 (pc' := 10) (by decide) (fun _ => ?_) (fun qQ => absurd qQ (fun z => z rfl))
  refine k_iconst (pc := 10) N d14_10 (v := (0 : Int32)) (by decide) ?_
  exact k_zreturn (pc := 11) N d14_11 rfl (by decide) (by decide) ⟨rfl, rfl⟩
set_option maxRecDepth 65536 in
theorem ef_c_bits (m : MethodId) (z0 : UInt64) : entryFrame m ([.double z0] : List Value).toArray 2 = mkF m 0 #[.val (.double z0), .second] [] := by first | (simp [entryFrame, mkF, argsToLocals, Value.category]; done) | rfl
def rm_c_bits : Room := { frames := 1, cells := 0, slots := 0, locals := 15 }
set_option maxRecDepth 65536 in
set_option maxHeartbeats 40000000 in
theorem c_bits (l : Launch) (Z : State) (a0 : Array Value) (hw : ∀ d ∈ tables_1, d.before a0 Z = true) (b : UInt64) (hb : NoNaN64 b) (rest : List Ent) :
    OMeets l (⟨"java/lang/Double", "doubleToLongBits", "(D)J"⟩ : MethodName) jdk_117_method_23_code 2 (some .long) rm_c_bits Z [.double b] rest (fun v K => v = some (.long b.toInt64) ∧ rest = K) := by
  refine OMeets.of_body (plainFor_of_name pn_java_lang_Double) #[.val (.double b), .second] (fun m => ef_c_bits m b) fun pP eE sS mM bB hH cC T N => ?_
  refine k_dload_n (pc := 0) N d13_0 rfl ?_
  refine k_static (pc := 1) N (y := (⟨"java/lang/Double", "isNaN", "(D)Z"⟩ : MethodName)) (rest := []) [.double b] d13_1 (hw _ (List.mem_of_getElem? (i := 63) rfl)) (hw _ (List.mem_of_getElem? (i := 64) rfl)) (hw _ (List.mem_of_getElem? (i := 58) rfl)) (hw _ (List.mem_of_getElem? (i := 65) rfl)) (by decide) pd__D_Z rfl (c_isNaN l Z a0 hw b hb rest) rfl rfl 0 rfl (by decide) (by decide) (cells' := 0) rfl (slots' := 0) rfl (by decide) (by decide) fun T vV K' N qQ => ?_
  obtain ⟨rfl, rfl⟩ := qQ
  refine k_if_ne (pc := 4) N d13_4 (pc' := 12) (by decide) (fun qQ => absurd qQ (fun z => z rfl)) (fun _ => ?_)
  refine k_dload_n (pc := 7) N d13_7 rfl ?_
  refine k_doubleBits (pc := 8) N 0 d13_8 (hw _ (List.mem_of_getElem? (i := 66) rfl)) (hw _ (List.mem_of_getElem? (i := 67) rfl)) (hw _ (List.mem_of_getElem? (i := 58) rfl)) (hw _ (List.mem_of_getElem? (i := 68) rfl)) rfl rfl (by decide) (by decide) fun T N => ?_
  exact k_lreturn (pc := 11) N d13_11 rfl (by decide) (by decide) ⟨rfl, rfl⟩
theorem cmpL_zero {x y : Int64} : XT.cmpL x y = 0 ↔ x = y := by
  unfold XT.cmpL
  by_cases a : y < x
  · have : x ≠ y := fun q => by subst q; exact absurd a Int64.lt_irrefl
    simp [a, this]
  · by_cases b : x = y <;> simp [a, b]
theorem cmpL_neg {x y : Int64} : XT.cmpL x y < 0 ↔ x < y := by
  unfold XT.cmpL
  simp only [Int64.lt_iff_toInt_lt, ← Int64.toInt_inj]
  by_cases a : y.toInt < x.toInt
  · have : ¬ x.toInt < y.toInt := by omega
    simp [a, this]
  · by_cases b : x.toInt = y.toInt
    · simp [b]
    · have : x.toInt < y.toInt := by omega
      simp [a, b, this]
set_option maxRecDepth 65536 in
theorem ef_c_compare (m : MethodId) (z0 : UInt64) (z1 : UInt64) : entryFrame m ([.double z0, .double z1] : List Value).toArray 8 = mkF m 0 #[.val (.double z0), .second, .val (.double z1), .second, .unset, .unset, .unset, .unset] [] := by first | (simp [entryFrame, mkF, argsToLocals, Value.category]; done) | rfl
def rm_c_compare : Room := { frames := 2, cells := 0, slots := 0, locals := 28 }
set_option maxRecDepth 65536 in
set_option maxHeartbeats 40000000 in
theorem c_compare (l : Launch) (Z : State) (a0 : Array Value) (hw : ∀ d ∈ tables_1, d.before a0 Z = true) (a b : UInt64) (ha : NoNaN64 a) (hb : NoNaN64 b) (rest : List Ent) :
    OMeets l (⟨"java/lang/Double", "compare", "(DD)I"⟩ : MethodName) jdk_117_method_27_code 8 (some .int) rm_c_compare Z [.double a, .double b] rest (fun v K => v = some (.int (dcp a b)) ∧ rest = K) := by
  refine OMeets.of_body (plainFor_of_name pn_java_lang_Double) #[.val (.double a), .second, .val (.double b), .second, .unset, .unset, .unset, .unset] (fun m => ef_c_compare m a b) fun pP eE sS mM bB hH cC T N => ?_
  refine k_dload_n (pc := 0) N d12_0 rfl ?_
  refine k_dload_n (pc := 1) N d12_1 rfl ?_
  refine k_dcmp (pc := 2) N d12_2 (v := (cmpValue (FP.dcmp a b) .g)) rfl ?_
  refine k_if_ge (pc := 3) N d12_3 (pc' := 8) (by decide) (fun c3 => ?_) (fun c3 => ?_)
  · refine k_dload_n (pc := 8) N d12_8 rfl ?_
    refine k_dload_n (pc := 9) N d12_9 rfl ?_
    refine k_dcmp (pc := 10) N d12_10 (v := (cmpValue (FP.dcmp a b) .l)) rfl ?_
    refine k_if_le (pc := 11) N d12_11 (pc' := 16) (by decide) (fun c11 => ?_) (fun c11 => ?_)
    · refine k_dload_n (pc := 16) N d12_16 rfl ?_
      refine k_static (pc := 17) N (y := (⟨"java/lang/Double", "doubleToLongBits", "(D)J"⟩ : MethodName)) (rest := []) [.double a] d12_17 (hw _ (List.mem_of_getElem? (i := 60) rfl)) (hw _ (List.mem_of_getElem? (i := 61) rfl)) (hw _ (List.mem_of_getElem? (i := 58) rfl)) (hw _ (List.mem_of_getElem? (i := 62) rfl)) (by decide) pd__D_J rfl (c_bits l Z a0 hw a ha rest) rfl rfl 0 rfl (by decide) (by decide) (cells' := 0) rfl (slots' := 0) rfl (by decide) (by decide) fun T vV K' N qQ => ?_
      obtain ⟨rfl, rfl⟩ := qQ
      refine k_lstore (pc := 20) N d12_20 (Ls' := #[.val (.double a), .second, .val (.double b), .second, .val (.long a.toInt64), .second, .unset, .unset]) rfl ?_
      refine k_dload_n (pc := 22) N d12_22 rfl ?_
      refine k_static (pc := 23) N (y := (⟨"java/lang/Double", "doubleToLongBits", "(D)J"⟩ : MethodName)) (rest := []) [.double b] d12_23 (hw _ (List.mem_of_getElem? (i := 60) rfl)) (hw _ (List.mem_of_getElem? (i := 61) rfl)) (hw _ (List.mem_of_getElem? (i := 58) rfl)) (hw _ (List.mem_of_getElem? (i := 62) rfl)) (by decide) pd__D_J rfl (c_bits l Z a0 hw b hb rest) rfl rfl 0 rfl (by decide) (by decide) (cells' := 0) rfl (slots' := 0) rfl (by decide) (by decide) fun T vV K' N qQ => ?_
      obtain ⟨rfl, rfl⟩ := qQ
      refine k_lstore (pc := 26) N d12_26 (Ls' := #[.val (.double a), .second, .val (.double b), .second, .val (.long a.toInt64), .second, .val (.long b.toInt64), .second]) rfl ?_
      refine k_lload (pc := 28) N d12_28 rfl ?_
      refine k_lload (pc := 30) N d12_30 rfl ?_
      refine k_lcmp (pc := 32) N d12_32 ?_
      refine k_if_ne (pc := 33) N d12_33 (pc' := 40) (by decide) (fun c33 => ?_) (fun c33 => ?_)
      · refine k_lload (pc := 40) N d12_40 rfl ?_
        refine k_lload (pc := 42) N d12_42 rfl ?_
        refine k_lcmp (pc := 44) N d12_44 ?_
        refine k_if_ge (pc := 45) N d12_45 (pc' := 52) (by decide) (fun c45 => ?_) (fun c45 => ?_)
        · refine k_iconst (pc := 52) N d12_52 (v := (1 : Int32)) (by decide) ?_
          refine k_ireturn (pc := 53) N d12_53 rfl (by decide) (by decide) ?_
          have c33' : ¬ a.toInt64 = b.toInt64 := fun z => c33 (cmpL_zero.mpr z)
          have c45' : ¬ a.toInt64 < b.toInt64 := fun z => c45 (cmpL_neg.mpr z)
          exact ⟨by simp [dcp, c3, c11, c33', c45'], rfl⟩
        · refine k_iconst (pc := 48) N d12_48 (v := (-1 : Int32)) (by decide) ?_
          refine k_goto (pc := 49) N d12_49 (pc' := 53) (by decide) ?_
          refine k_ireturn (pc := 53) N d12_53 rfl (by decide) (by decide) ?_
          have c33' : ¬ a.toInt64 = b.toInt64 := fun z => c33 (cmpL_zero.mpr z)
          have c45' : a.toInt64 < b.toInt64 := cmpL_neg.mp c45
          exact ⟨by simp [dcp, c3, c11, c33', c45'], rfl⟩
      · refine k_iconst (pc := 36) N d12_36 (v := (0 : Int32)) (by decide) ?_
        refine k_goto (pc := 37) N d12_37 (pc' := 53) (by decide) ?_
        refine k_ireturn (pc := 53) N d12_53 rfl (by decide) (by decide) ?_
        have c33' : a.toInt64 = b.toInt64 := cmpL_zero.mp c33
        exact ⟨by simp [dcp, c3, c11, c33'], rfl⟩
    · refine k_iconst (pc := 14) N d12_14 (v := (1 : Int32)) (by decide) ?_
      exact k_ireturn (pc := 15) N d12_15 rfl (by decide) (by decide) ⟨by simp [dcp, c3, c11], rfl⟩
  · refine k_iconst (pc := 6) N d12_6 (v := (-1 : Int32)) (by decide) ?_
    exact k_ireturn (pc := 7) N d12_7 rfl (by decide) (by decide) ⟨by simp [dcp, c3], rfl⟩
set_option maxRecDepth 65536 in
theorem ef_c_precedes (m : MethodId) (z0 : UInt64) (z1 : UInt64) (z2 : Int32) (z3 : UInt64) (z4 : UInt64) (z5 : Int32) : entryFrame m ([.double z0, .double z1, .int z2, .double z3, .double z4, .int z5] : List Value).toArray 13 = mkF m 0 #[.val (.double z0), .second, .val (.double z1), .second, .val (.int z2), .val (.double z3), .second, .val (.double z4), .second, .val (.int z5), .unset, .unset, .unset] [] := by first | (simp [entryFrame, mkF, argsToLocals, Value.category]; done) | rfl
def rm_c_precedes : Room := { frames := 3, cells := 0, slots := 0, locals := 47 }
set_option maxRecDepth 65536 in
set_option maxHeartbeats 40000000 in
theorem c_precedes (l : Launch) (Z : State) (a0 : Array Value) (hw : ∀ d ∈ tables_1, d.before a0 Z = true) (r t : UInt64) (n : Int32) (r2 t2 : UInt64) (n2 : Int32) (hr : NoNaN64 r) (ht : NoNaN64 t) (hr2 : NoNaN64 r2) (ht2 : NoNaN64 t2) (rest : List Ent) :
    OMeets l (⟨"com/example/freshline/freshline/schedule/CandidateQueue", "precedes", "(DDIDDI)Z"⟩ : MethodName) prog_52_method_2_code 13 (some .boolean) rm_c_precedes Z [.double r, .double t, .int n, .double r2, .double t2, .int n2] rest (fun v K => v = some (.int (nar .boolean (prec r t n r2 t2 n2))) ∧ rest = K) := by
  refine OMeets.of_body (plainFor_of_name pn_com_example_freshline_freshline_schedule_CandidateQueue) #[.val (.double r), .second, .val (.double t), .second, .val (.int n), .val (.double r2), .second, .val (.double t2), .second, .val (.int n2), .unset, .unset, .unset] (fun m => ef_c_precedes m r t n r2 t2 n2) fun pP eE sS mM bB hH cC T N => ?_
  refine k_dload (pc := 0) N d11_0 rfl ?_
  refine k_dload_n (pc := 2) N d11_2 rfl ?_
  refine k_static (pc := 3) N (y := (⟨"java/lang/Double", "compare", "(DD)I"⟩ : MethodName)) (rest := []) [.double r2, .double r] d11_3 (hw _ (List.mem_of_getElem? (i := 56) rfl)) (hw _ (List.mem_of_getElem? (i := 57) rfl)) (hw _ (List.mem_of_getElem? (i := 58) rfl)) (hw _ (List.mem_of_getElem? (i := 59) rfl)) (by decide) pd__DD_I rfl (c_compare l Z a0 hw r2 r hr2 hr rest) rfl rfl 0 rfl (by decide) (by decide) (cells' := 0) rfl (slots' := 0) rfl (by decide) (by decide) fun T vV K' N qQ => ?_
  obtain ⟨rfl, rfl⟩ := qQ
  refine k_istore (pc := 6) N d11_6 (Ls' := #[.val (.double r), .second, .val (.double t), .second, .val (.int n), .val (.double r2), .second, .val (.double t2), .second, .val (.int n2), .val (.int (dcp r2 r)), .unset, .unset]) rfl ?_
  refine k_dload_n (pc := 8) N d11_8 rfl ?_
  refine k_dload (pc := 9) N d11_9 rfl ?_
  refine k_static (pc := 11) N (y := (⟨"java/lang/Double", "compare", "(DD)I"⟩ : MethodName)) (rest := []) [.double t, .double t2] d11_11 (hw _ (List.mem_of_getElem? (i := 56) rfl)) (hw _ (List.mem_of_getElem? (i := 57) rfl)) (hw _ (List.mem_of_getElem? (i := 58) rfl)) (hw _ (List.mem_of_getElem? (i := 59) rfl)) (by decide) pd__DD_I rfl (c_compare l Z a0 hw t t2 ht ht2 rest) rfl rfl 0 rfl (by decide) (by decide) (cells' := 0) rfl (slots' := 0) rfl (by decide) (by decide) fun T vV K' N qQ => ?_
  obtain ⟨rfl, rfl⟩ := qQ
  refine k_istore (pc := 14) N d11_14 (Ls' := #[.val (.double r), .second, .val (.double t), .second, .val (.int n), .val (.double r2), .second, .val (.double t2), .second, .val (.int n2), .val (.int (dcp r2 r)), .val (.int (dcp t t2)), .unset]) rfl ?_
  refine k_iload (pc := 16) N d11_16 rfl ?_
  refine k_if_eq (pc := 18) N d11_18 (pc' := 36) (by decide) (fun c18 => ?_) (fun c18 => ?_)
  · refine k_iload (pc := 36) N d11_36 rfl ?_
    refine k_if_eq (pc := 38) N d11_38 (pc' := 56) (by decide) (fun c38 => ?_) (fun c38 => ?_)
    · refine k_iload (pc := 56) N d11_56 rfl ?_
      refine k_iload (pc := 58) N d11_58 rfl ?_
      refine k_icmp_ge (pc := 60) N d11_60 (pc' := 67) (by decide) (fun c60 => ?_) (fun c60 => ?_)
      · refine k_iconst (pc := 67) N d11_67 (v := (0 : Int32)) (by decide) ?_
        refine k_istore (pc := 68) N d11_68 (Ls' := #[.val (.double r), .second, .val (.double t), .second, .val (.int n), .val (.double r2), .second, .val (.double t2), .second, .val (.int n2), .val (.int (dcp r2 r)), .val (.int (dcp t t2)), .val (.int (0 : Int32))]) rfl ?_
        refine k_iload (pc := 70) N d11_70 rfl ?_
        exact k_zreturn (pc := 72) N d11_72 rfl (by decide) (by decide) ⟨by simp [prec, c18, c38, c60], rfl⟩
      · refine k_iconst (pc := 63) N d11_63 (v := (1 : Int32)) (by decide) ?_
        refine k_goto (pc := 64) N d11_64 (pc' := 68) (by decide) ?_
        refine k_istore (pc := 68) N d11_68 (Ls' := #[.val (.double r), .second, .val (.double t), .second, .val (.int n), .val (.double r2), .second, .val (.double t2), .second, .val (.int n2), .val (.int (dcp r2 r)), .val (.int (dcp t t2)), .val (.int (1 : Int32))]) rfl ?_
        refine k_iload (pc := 70) N d11_70 rfl ?_
        exact k_zreturn (pc := 72) N d11_72 rfl (by decide) (by decide) ⟨by simp [prec, c18, c38, c60], rfl⟩
    · refine k_iload (pc := 41) N d11_41 rfl ?_
      refine k_if_ge (pc := 43) N d11_43 (pc' := 50) (by decide) (fun c43 => ?_) (fun c43 => ?_)
      · refine k_iconst (pc := 50) N d11_50 (v := (0 : Int32)) (by decide) ?_
        refine k_istore (pc := 51) N d11_51 (Ls' := #[.val (.double r), .second, .val (.double t), .second, .val (.int n), .val (.double r2), .second, .val (.double t2), .second, .val (.int n2), .val (.int (dcp r2 r)), .val (.int (dcp t t2)), .val (.int (0 : Int32))]) rfl ?_
        refine k_goto (pc := 53) N d11_53 (pc' := 70) (by decide) ?_
        refine k_iload (pc := 70) N d11_70 rfl ?_
        exact k_zreturn (pc := 72) N d11_72 rfl (by decide) (by decide) ⟨by simp [prec, c18, c38, c43], rfl⟩
      · refine k_iconst (pc := 46) N d11_46 (v := (1 : Int32)) (by decide) ?_
        refine k_goto (pc := 47) N d11_47 (pc' := 51) (by decide) ?_
        refine k_istore (pc := 51) N d11_51 (Ls' := #[.val (.double r), .second, .val (.double t), .second, .val (.int n), .val (.double r2), .second, .val (.double t2), .second, .val (.int n2), .val (.int (dcp r2 r)), .val (.int (dcp t t2)), .val (.int (1 : Int32))]) rfl ?_
        refine k_goto (pc := 53) N d11_53 (pc' := 70) (by decide) ?_
        refine k_iload (pc := 70) N d11_70 rfl ?_
        exact k_zreturn (pc := 72) N d11_72 rfl (by decide) (by decide) ⟨by simp [prec, c18, c38, c43], rfl⟩
  · refine k_iload (pc := 21) N d11_21 rfl ?_
    refine k_if_ge (pc := 23) N d11_23 (pc' := 30) (by decide) (fun c23 => ?_) (fun c23 => ?_)
    · refine k_iconst (pc := 30) N d11_30 (v := (0 : Int32)) (by decide) ?_
      refine k_istore (pc := 31) N d11_31 (Ls' := #[.val (.double r), .second, .val (.double t), .second, .val (.int n), .val (.double r2), .second, .val (.double t2), .second, .val (.int n2), .val (.int (dcp r2 r)), .val (.int (dcp t t2)), .val (.int (0 : Int32))]) rfl ?_
      refine k_goto (pc := 33) N d11_33 (pc' := 70) (by decide) ?_
      refine k_iload (pc := 70) N d11_70 rfl ?_
      exact k_zreturn (pc := 72) N d11_72 rfl (by decide) (by decide) ⟨by simp [prec, c18, c23], rfl⟩
    · refine k_iconst (pc := 26) N d11_26 (v := (1 : Int32)) (by decide) ?_
      refine k_goto (pc := 27) N d11_27 (pc' := 31) (by decide) ?_
      refine k_istore (pc := 31) N d11_31 (Ls' := #[.val (.double r), .second, .val (.double t), .second, .val (.int n), .val (.double r2), .second, .val (.double t2), .second, .val (.int n2), .val (.int (dcp r2 r)), .val (.int (dcp t t2)), .val (.int (1 : Int32))]) rfl ?_
      refine k_goto (pc := 33) N d11_33 (pc' := 70) (by decide) ?_
      refine k_iload (pc := 70) N d11_70 rfl ?_
      exact k_zreturn (pc := 72) N d11_72 rfl (by decide) (by decide) ⟨by simp [prec, c18, c23], rfl⟩
set_option maxRecDepth 65536 in
theorem ef_c_fill (m : MethodId) (z0 : Addr) (z1 : Int32) : entryFrame m ([.ref z0, .int z1] : List Value).toArray 4 = mkF m 0 #[.val (.ref z0), .val (.int z1), .unset, .unset] [] := by first | (simp [entryFrame, mkF, argsToLocals, Value.category]; done) | rfl
def rm_c_fill : Room := { frames := 0, cells := 0, slots := 0, locals := 0 }
set_option maxRecDepth 65536 in
set_option maxHeartbeats 40000000 in
theorem c_fill (l : Launch) (Z : State) (a0 : Array Value) (hw : ∀ d ∈ tables_1, d.before a0 Z = true) (t : Addr) (k : ClassId) (rest : List Ent) :
    OMeets l (⟨"java/util/Arrays", "fill", "([II)V"⟩ : MethodName) jdk_65_method_103_code 4 none rm_c_fill Z [.ref t, .int (-1 : Int32)] ((oArr Z t k .int [.int (0 : Int32), .int (0 : Int32), .int (0 : Int32), .int (0 : Int32)]) :: rest) (fun v K => v = none ∧ K = (oArr Z t k .int (iA m1)) :: rest) := by
  refine OMeets.of_body (plainFor_of_name pn_java_util_Arrays) #[.val (.ref t), .val (.int (-1 : Int32)), .unset, .unset] (fun m => ef_c_fill m t (-1 : Int32)) fun pP eE sS mM bB hH cC T N => ?_
  refine k_iconst (pc := 0) N d5_0 (v := (0 : Int32)) (by decide) ?_
  refine k_istore_n (pc := 1) N d5_1 (Ls' := #[.val (.ref t), .val (.int (-1 : Int32)), .val (.int (0 : Int32)), .unset]) rfl ?_
  refine k_aload_n (pc := 2) N d5_2 rfl rfl ?_
  refine k_arraylength (pc := 3) N 0 d5_3 rfl (z := (4 : Int32)) rfl ?_
  refine k_istore_n (pc := 4) N d5_4 (Ls' := #[.val (.ref t), .val (.int (-1 : Int32)), .val (.int (0 : Int32)), .val (.int (4 : Int32))]) rfl ?_
  refine k_iload_n (pc := 5) N d5_5 rfl ?_
  refine k_iload_n (pc := 6) N d5_6 rfl ?_
  refine k_icmp_ge (pc := 7) N d5_7 (pc' := 20) (by decide) (fun qQ => absurd qQ (by decide)) (fun _ => ?_)
  refine k_aload_n (pc := 10) N d5_10 rfl rfl ?_
  refine k_iload_n (pc := 11) N d5_11 rfl ?_
  refine k_iload_n (pc := 12) N d5_12 rfl ?_
  refine k_iastore (pc := 13) N 0 0 d5_13 rfl (by decide) (by decide) (Nat.le_of_ble_eq_true rfl) (v := .int (-1 : Int32)) rfl (K' := ((oArr Z t k .int [.int (-1 : Int32), .int (0 : Int32), .int (0 : Int32), .int (0 : Int32)]) :: rest)) rfl fun T N => ?_
  refine k_iinc (pc := 14) N d5_14 rfl (v := (1 : Int32)) (by decide) (Ls' := #[.val (.ref t), .val (.int (-1 : Int32)), .val (.int (1 : Int32)), .val (.int (4 : Int32))]) rfl ?_
  refine k_goto (pc := 17) N d5_17 (pc' := 5) (by decide) ?_
  refine k_iload_n (pc := 5) N d5_5 rfl ?_
  refine k_iload_n (pc := 6) N d5_6 rfl ?_
  refine k_icmp_ge (pc := 7) N d5_7 (pc' := 20) (by decide) (fun qQ => absurd qQ (by decide)) (fun _ => ?_)
  refine k_aload_n (pc := 10) N d5_10 rfl rfl ?_
  refine k_iload_n (pc := 11) N d5_11 rfl ?_
  refine k_iload_n (pc := 12) N d5_12 rfl ?_
  refine k_iastore (pc := 13) N 0 1 d5_13 rfl (by decide) (by decide) (Nat.le_of_ble_eq_true rfl) (v := .int (-1 : Int32)) rfl (K' := ((oArr Z t k .int [.int (-1 : Int32), .int (-1 : Int32), .int (0 : Int32), .int (0 : Int32)]) :: rest)) rfl fun T N => ?_
  refine k_iinc (pc := 14) N d5_14 rfl (v := (2 : Int32)) (by decide) (Ls' := #[.val (.ref t), .val (.int (-1 : Int32)), .val (.int (2 : Int32)), .val (.int (4 : Int32))]) rfl ?_
  refine k_goto (pc := 17) N d5_17 (pc' := 5) (by decide) ?_
  refine k_iload_n (pc := 5) N d5_5 rfl ?_
  refine k_iload_n (pc := 6) N d5_6 rfl ?_
  refine k_icmp_ge (pc := 7) N d5_7 (pc' := 20) (by decide) (fun qQ => absurd qQ (by decide)) (fun _ => ?_)
  refine k_aload_n (pc := 10) N d5_10 rfl rfl ?_
  refine k_iload_n (pc := 11) N d5_11 rfl ?_
  refine k_iload_n (pc := 12) N d5_12 rfl ?_
  refine k_iastore (pc := 13) N 0 2 d5_13 rfl (by decide) (by decide) (Nat.le_of_ble_eq_true rfl) (v := .int (-1 : Int32)) rfl (K' := ((oArr Z t k .int [.int (-1 : Int32), .int (-1 : Int32), .int (-1 : Int32), .int (0 : Int32)]) :: rest)) rfl fun T N => ?_
  refine k_iinc (pc := 14) N d5_14 rfl (v := (3 : Int32)) (by decide) (Ls' := #[.val (.ref t), .val (.int (-1 : Int32)), .val (.int (3 : Int32)), .val (.int (4 : Int32))]) rfl ?_
  refine k_goto (pc := 17) N d5_17 (pc' := 5) (by decide) ?_
  refine k_iload_n (pc := 5) N d5_5 rfl ?_
  refine k_iload_n (pc := 6) N d5_6 rfl ?_
  refine k_icmp_ge (pc := 7) N d5_7 (pc' := 20) (by decide) (fun qQ => absurd qQ (by decide)) (fun _ => ?_)
  refine k_aload_n (pc := 10) N d5_10 rfl rfl ?_
  refine k_iload_n (pc := 11) N d5_11 rfl ?_
  refine k_iload_n (pc := 12) N d5_12 rfl ?_
  refine k_iastore (pc := 13) N 0 3 d5_13 rfl (by decide) (by decide) (Nat.le_of_ble_eq_true rfl) (v := .int (-1 : Int32)) rfl (K' := ((oArr Z t k .int [.int (-1 : Int32), .int (-1 : Int32), .int (-1 : Int32), .int (-1 : Int32)]) :: rest)) rfl fun T N => ?_
  refine k_iinc (pc := 14) N d5_14 rfl (v := (4 : Int32)) (by decide) (Ls' := #[.val (.ref t), .val (.int (-1 : Int32)), .val (.int (4 : Int32)), .val (.int (4 : Int32))]) rfl ?_
  refine k_goto (pc := 17) N d5_17 (pc' := 5) (by decide) ?_
  refine k_iload_n (pc := 5) N d5_5 rfl ?_
  refine k_iload_n (pc := 6) N d5_6 rfl ?_
  refine k_icmp_ge (pc := 7) N d5_7 (pc' := 20) (by decide) (fun _ => ?_) (fun qQ => absurd qQ (by decide))
  exact k_return (pc := 20) N d5_20 rfl (by decide) (by decide) ⟨rfl, rfl⟩
set_option maxRecDepth 65536 in
theorem ef_c_init (m : MethodId) (z0 : Addr) (z1 : Int32) : entryFrame m ([.ref z0, .int z1] : List Value).toArray 2 = mkF m 0 #[.val (.ref z0), .val (.int z1)] [] := by first | (simp [entryFrame, mkF, argsToLocals, Value.category]; done) | rfl
def rm_c_init : Room := { frames := 1, cells := 4, slots := 16, locals := 15 }
set_option maxRecDepth 65536 in
set_option maxHeartbeats 40000000 in
theorem c_init (l : Launch) (Z : State) (a0 : Array Value) (hw : ∀ d ∈ tables_1, d.before a0 Z = true) (qa : Addr) (rest : List Ent) :
    OMeets l (⟨"com/example/freshline/freshline/schedule/CandidateQueue", "<init>", "(I)V"⟩ : MethodName) prog_52_method_1_code 2 none rm_c_init Z [.ref qa, .int (4 : Int32)] ((oCq Z qa .null .null .null .null (.int (0 : Int32))) :: rest) (fun v K => ∃ (ah ap ar ax : Addr) (kh kp kr ks : ClassId), v = none ∧ K = (oCq Z qa (.ref ah) (.ref ap) (.ref ar) (.ref ax) (.int (0 : Int32))) :: (oArr Z ah kh .int (hA (fun _ => 0))) :: (oArr Z ap kp .int (iA m1)) :: (oArr Z ar kr .double (rA z0)) :: (oArr Z ax ks .double (rA z0)) :: rest) := by
  refine OMeets.of_body (plainFor_of_name pn_com_example_freshline_freshline_schedule_CandidateQueue) #[.val (.ref qa), .val (.int (4 : Int32))] (fun m => ef_c_init m qa (4 : Int32)) fun pP eE sS mM bB hH cC T N => ?_
  refine k_aload_n (pc := 0) N d3_0 rfl rfl ?_
  refine initO_k (pc := 1) N 0 d3_1 (hw _ (List.mem_of_getElem? (i := 14) rfl)) (hw _ (List.mem_of_getElem? (i := 15) rfl)) (hw _ (List.mem_of_getElem? (i := 16) rfl)) rfl rfl (by decide) (by decide) fun T N => ?_
  refine k_aload_n (pc := 4) N d3_4 rfl rfl ?_
  refine k_iload_n (pc := 5) N d3_5 rfl ?_
  refine k_newarray (pc := 6) N 4 d3_6 (ty := .int) rfl (hw _ (List.mem_of_getElem? (i := 0) rfl)) (by decide) (by decide) (by decide) (vs := [.int (0 : Int32), .int (0 : Int32), .int (0 : Int32), .int (0 : Int32)]) rfl (by decide) (by decide) fun T ah ahk N => ?_
  refine k_put (pc := 8) (host := "") N 1 0 d3_8 (Or.inl (hw _ (List.mem_of_getElem? (i := 17) rfl))) Via.refl rfl rfl (Or.inr ⟨(hw _ (List.mem_of_getElem? (i := 18) rfl)), rfl, rfl⟩) (hw _ (List.mem_of_getElem? (i := 9) rfl)) (ty := (.array .int)) (by decide) rfl rfl (K' := ((oArr Z ah ahk .int [.int (0 : Int32), .int (0 : Int32), .int (0 : Int32), .int (0 : Int32)]) :: (oCq Z qa (.ref ah) .null .null .null (.int (0 : Int32))) :: rest)) rfl fun T N => ?_
  refine k_aload_n (pc := 11) N d3_11 rfl rfl ?_
  refine k_iload_n (pc := 12) N d3_12 rfl ?_
  refine k_newarray (pc := 13) N 4 d3_13 (ty := .int) rfl (hw _ (List.mem_of_getElem? (i := 0) rfl)) (by decide) (by decide) (by decide) (vs := [.int (0 : Int32), .int (0 : Int32), .int (0 : Int32), .int (0 : Int32)]) rfl (by decide) (by decide) fun T ap apk N => ?_
  refine k_put (pc := 15) (host := "") N 2 1 d3_15 (Or.inl (hw _ (List.mem_of_getElem? (i := 19) rfl))) Via.refl rfl rfl (Or.inr ⟨(hw _ (List.mem_of_getElem? (i := 20) rfl)), rfl, rfl⟩) (hw _ (List.mem_of_getElem? (i := 9) rfl)) (ty := (.array .int)) (by decide) rfl rfl (K' := ((oArr Z ap apk .int [.int (0 : Int32), .int (0 : Int32), .int (0 : Int32), .int (0 : Int32)]) :: (oArr Z ah ahk .int [.int (0 : Int32), .int (0 : Int32), .int (0 : Int32), .int (0 : Int32)]) :: (oCq Z qa (.ref ah) (.ref ap) .null .null (.int (0 : Int32))) :: rest)) rfl fun T N => ?_
  refine k_aload_n (pc := 18) N d3_18 rfl rfl ?_
  refine k_iload_n (pc := 19) N d3_19 rfl ?_
  refine k_newarray (pc := 20) N 4 d3_20 (ty := .double) rfl (hw _ (List.mem_of_getElem? (i := 21) rfl)) (by decide) (by decide) (by decide) (vs := [.double (0 : UInt64), .double (0 : UInt64), .double (0 : UInt64), .double (0 : UInt64)]) rfl (by decide) (by decide) fun T ar ark N => ?_
  refine k_put (pc := 22) (host := "") N 3 2 d3_22 (Or.inl (hw _ (List.mem_of_getElem? (i := 22) rfl))) Via.refl rfl rfl (Or.inr ⟨(hw _ (List.mem_of_getElem? (i := 23) rfl)), rfl, rfl⟩) (hw _ (List.mem_of_getElem? (i := 9) rfl)) (ty := (.array .double)) (by decide) rfl rfl (K' := ((oArr Z ar ark .double [.double (0 : UInt64), .double (0 : UInt64), .double (0 : UInt64), .double (0 : UInt64)]) :: (oArr Z ap apk .int [.int (0 : Int32), .int (0 : Int32), .int (0 : Int32), .int (0 : Int32)]) :: (oArr Z ah ahk .int [.int (0 : Int32), .int (0 : Int32), .int (0 : Int32), .int (0 : Int32)]) :: (oCq Z qa (.ref ah) (.ref ap) (.ref ar) .null (.int (0 : Int32))) :: rest)) rfl fun T N => ?_
  refine k_aload_n (pc := 25) N d3_25 rfl rfl ?_
  refine k_iload_n (pc := 26) N d3_26 rfl ?_
  refine k_newarray (pc := 27) N 4 d3_27 (ty := .double) rfl (hw _ (List.mem_of_getElem? (i := 21) rfl)) (by decide) (by decide) (by decide) (vs := [.double (0 : UInt64), .double (0 : UInt64), .double (0 : UInt64), .double (0 : UInt64)]) rfl (by decide) (by decide) fun T ax axk N => ?_
  refine k_put (pc := 29) (host := "") N 4 3 d3_29 (Or.inl (hw _ (List.mem_of_getElem? (i := 24) rfl))) Via.refl rfl rfl (Or.inr ⟨(hw _ (List.mem_of_getElem? (i := 25) rfl)), rfl, rfl⟩) (hw _ (List.mem_of_getElem? (i := 9) rfl)) (ty := (.array .double)) (by decide) rfl rfl (K' := ((oArr Z ax axk .double [.double (0 : UInt64), .double (0 : UInt64), .double (0 : UInt64), .double (0 : UInt64)]) :: (oArr Z ar ark .double [.double (0 : UInt64), .double (0 : UInt64), .double (0 : UInt64), .double (0 : UInt64)]) :: (oArr Z ap apk .int [.int (0 : Int32), .int (0 : Int32), .int (0 : Int32), .int (0 : Int32)]) :: (oArr Z ah ahk .int [.int (0 : Int32), .int (0 : Int32), .int (0 : Int32), .int (0 : Int32)]) :: (oCq Z qa (.ref ah) (.ref ap) (.ref ar) (.ref ax) (.int (0 : Int32))) :: rest)) rfl fun T N => ?_
  refine k_aload_n (pc := 32) N d3_32 rfl rfl ?_
  refine k_get (pc := 33) (host := "") N 4 1 d3_33 (Or.inl (hw _ (List.mem_of_getElem? (i := 19) rfl))) Via.refl rfl rfl fun T N => ?_
  refine k_iconst (pc := 36) N d3_36 (v := (-1 : Int32)) (by decide) ?_
  replace N := ONow.sel (F := [oArr Z ax axk .double [.double (0 : UInt64), .double (0 : UInt64), .double (0 : UInt64), .double (0 : UInt64)], oArr Z ar ark .double [.double (0 : UInt64), .double (0 : UInt64), .double (0 : UInt64), .double (0 : UInt64)], oArr Z ap apk .int [.int (0 : Int32), .int (0 : Int32), .int (0 : Int32), .int (0 : Int32)], oArr Z ah ahk .int [.int (0 : Int32), .int (0 : Int32), .int (0 : Int32), .int (0 : Int32)], oCq Z qa (.ref ah) (.ref ap) (.ref ar) (.ref ax) (.int (0 : Int32))]) (F' := [oArr Z ap apk .int [.int (0 : Int32), .int (0 : Int32), .int (0 : Int32), .int (0 : Int32)], oArr Z ax axk .double [.double (0 : UInt64), .double (0 : UInt64), .double (0 : UInt64), .double (0 : UInt64)], oArr Z ar ark .double [.double (0 : UInt64), .double (0 : UInt64), .double (0 : UInt64), .double (0 : UInt64)], oArr Z ah ahk .int [.int (0 : Int32), .int (0 : Int32), .int (0 : Int32), .int (0 : Int32)], oCq Z qa (.ref ah) (.ref ap) (.ref ar) (.ref ax) (.int (0 : Int32))]) (rest := rest) N [2, 0, 1, 3, 4] (by decide) rfl
  refine k_static (pc := 37) N (y := (⟨"java/util/Arrays", "fill", "([II)V"⟩ : MethodName)) (rest := []) [.ref ap, .int (-1 : Int32)] d3_37 (hw _ (List.mem_of_getElem? (i := 26) rfl)) (hw _ (List.mem_of_getElem? (i := 27) rfl)) (hw _ (List.mem_of_getElem? (i := 28) rfl)) (hw _ (List.mem_of_getElem? (i := 29) rfl)) (by decide) pd___II_V rfl (c_fill l Z a0 hw ap apk ((oArr Z ax axk .double [.double (0 : UInt64), .double (0 : UInt64), .double (0 : UInt64), .double (0 : UInt64)]) :: (oArr Z ar ark .double [.double (0 : UInt64), .double (0 : UInt64), .double (0 : UInt64), .double (0 : UInt64)]) :: (oArr Z ah ahk .int [.int (0 : Int32), .int (0 : Int32), .int (0 : Int32), .int (0 : Int32)]) :: (oCq Z qa (.ref ah) (.ref ap) (.ref ar) (.ref ax) (.int (0 : Int32))) :: rest)) rfl rfl 0 rfl (by decide) (by decide) (cells' := 4) rfl (slots' := 16) rfl (by decide) (by decide) fun T vV K' N qQ => ?_
  obtain ⟨rfl, rfl⟩ := qQ
  replace N := ONow.sel (F := [oArr Z ap apk .int (iA m1), oArr Z ax axk .double [.double (0 : UInt64), .double (0 : UInt64), .double (0 : UInt64), .double (0 : UInt64)], oArr Z ar ark .double [.double (0 : UInt64), .double (0 : UInt64), .double (0 : UInt64), .double (0 : UInt64)], oArr Z ah ahk .int [.int (0 : Int32), .int (0 : Int32), .int (0 : Int32), .int (0 : Int32)], oCq Z qa (.ref ah) (.ref ap) (.ref ar) (.ref ax) (.int (0 : Int32))]) (F' := [oCq Z qa (.ref ah) (.ref ap) (.ref ar) (.ref ax) (.int (0 : Int32)), oArr Z ah ahk .int [.int (0 : Int32), .int (0 : Int32), .int (0 : Int32), .int (0 : Int32)], oArr Z ap apk .int (iA m1), oArr Z ar ark .double [.double (0 : UInt64), .double (0 : UInt64), .double (0 : UInt64), .double (0 : UInt64)], oArr Z ax axk .double [.double (0 : UInt64), .double (0 : UInt64), .double (0 : UInt64), .double (0 : UInt64)]]) (rest := rest) N [4, 3, 0, 2, 1] (by decide) rfl
  rw [ra0] at N
  exact k_return (pc := 40) N d3_40 rfl (by decide) (by decide) ⟨ah, ap, ar, ax, ahk, apk, ark, axk, rfl, rfl⟩
set_option maxRecDepth 65536 in
theorem ef_c_first (m : MethodId) (z0 : Addr) : entryFrame m ([.ref z0] : List Value).toArray 1 = mkF m 0 #[.val (.ref z0)] [] := by first | (simp [entryFrame, mkF, argsToLocals, Value.category]; done) | rfl
def rm_c_first : Room := { frames := 0, cells := 0, slots := 0, locals := 0 }
set_option maxRecDepth 65536 in
set_option maxHeartbeats 40000000 in
theorem c_first (l : Launch) (Z : State) (a0 : Array Value) (hw : ∀ d ∈ tables_1, d.before a0 Z = true) (qa ah ap ar ax : Addr) (kh kp kr ks : ClassId) (n : Nat) (hn : n < 5) (h : Nat → Nat) (p a b : Nat → Int32) (rest : List Ent) :
    OMeets l (⟨"com/example/freshline/freshline/schedule/CandidateQueue", "first", "()I"⟩ : MethodName) prog_52_method_5_code 1 (some .int) rm_c_first Z [.ref qa] ((oCq Z qa (.ref ah) (.ref ap) (.ref ar) (.ref ax) (.int (nd n))) :: (oArr Z ah kh .int (hA h)) :: (oArr Z ap kp .int (iA p)) :: (oArr Z ar kr .double (rA a)) :: (oArr Z ax ks .double (rA b)) :: rest) (fun v K => v = some (.int (fst n h)) ∧ K = (oCq Z qa (.ref ah) (.ref ap) (.ref ar) (.ref ax) (.int (nd n))) :: (oArr Z ah kh .int (hA h)) :: (oArr Z ap kp .int (iA p)) :: (oArr Z ar kr .double (rA a)) :: (oArr Z ax ks .double (rA b)) :: rest) := by
  refine OMeets.of_body (plainFor_of_name pn_com_example_freshline_freshline_schedule_CandidateQueue) #[.val (.ref qa)] (fun m => ef_c_first m qa) fun pP eE sS mM bB hH cC T N => ?_
  refine k_aload_n (pc := 0) N d17_0 rfl rfl ?_
  refine k_get (pc := 1) (host := "") N 0 4 d17_1 (Or.inl (hw _ (List.mem_of_getElem? (i := 35) rfl))) Via.refl rfl rfl fun T N => ?_
  refine k_if_ne (pc := 4) N d17_4 (pc' := 11) (by decide) (fun c4 => ?_) (fun c4 => ?_)
  · refine k_aload_n (pc := 11) N d17_11 rfl rfl ?_
    refine k_get (pc := 12) (host := "") N 0 0 d17_12 (Or.inl (hw _ (List.mem_of_getElem? (i := 17) rfl))) Via.refl rfl rfl fun T N => ?_
    refine k_iconst (pc := 15) N d17_15 (v := (0 : Int32)) (by decide) ?_
    refine k_iaload (pc := 16) N 1 0 d17_16 rfl (by decide) (by decide) (v := .int (nd (h 0))) rfl ?_
    exact k_ireturn (pc := 17) N d17_17 rfl (by decide) (by decide) ⟨by rw [fst_no c4], rfl⟩
  · refine k_iconst (pc := 7) N d17_7 (v := (-1 : Int32)) (by decide) ?_
    refine k_goto (pc := 8) N d17_8 (pc' := 17) (by decide) ?_
    exact k_ireturn (pc := 17) N d17_17 rfl (by decide) (by decide) ⟨by rw [fst_yes hn c4], rfl⟩
set_option maxRecDepth 65536 in
theorem ef_c_move (m : MethodId) (z0 : Addr) (z1 : Int32) (z2 : Int32) : entryFrame m ([.ref z0, .int z1, .int z2] : List Value).toArray 3 = mkF m 0 #[.val (.ref z0), .val (.int z1), .val (.int z2)] [] := by first | (simp [entryFrame, mkF, argsToLocals, Value.category]; done) | rfl
def rm_c_move : Room := { frames := 0, cells := 0, slots := 0, locals := 0 }
set_option maxRecDepth 65536 in
set_option maxHeartbeats 40000000 in
theorem c_move (l : Launch) (Z : State) (a0 : Array Value) (hw : ∀ d ∈ tables_1, d.before a0 Z = true) (qa ah ap ar ax : Addr) (kh kp kr ks : ClassId) (sz : Int32) (h : Nat → Nat) (p a b : Nat → Int32) (x y : Nat) (hx : x < 4) (hy : y < 4) (rest : List Ent) :
    OMeets l (⟨"com/example/freshline/freshline/schedule/CandidateQueue", "move", "(II)V"⟩ : MethodName) prog_52_method_11_code 3 none rm_c_move Z [.ref qa, .int (nd x), .int (nd y)] ((oCq Z qa (.ref ah) (.ref ap) (.ref ar) (.ref ax) (.int sz)) :: (oArr Z ah kh .int (hA h)) :: (oArr Z ap kp .int (iA p)) :: (oArr Z ar kr .double (rA a)) :: (oArr Z ax ks .double (rA b)) :: rest) (fun v K => v = none ∧ K = (oCq Z qa (.ref ah) (.ref ap) (.ref ar) (.ref ax) (.int sz)) :: (oArr Z ah kh .int (hA (upd h y x))) :: (oArr Z ap kp .int (iA (upd p x (nd y)))) :: (oArr Z ar kr .double (rA a)) :: (oArr Z ax ks .double (rA b)) :: rest) := by
  refine OMeets.of_body (plainFor_of_name pn_com_example_freshline_freshline_schedule_CandidateQueue) #[.val (.ref qa), .val (.int (nd x)), .val (.int (nd y))] (fun m => ef_c_move m qa (nd x) (nd y)) fun pP eE sS mM bB hH cC T N => ?_
  refine k_aload_n (pc := 0) N d8_0 rfl rfl ?_
  refine k_get (pc := 1) (host := "") N 0 0 d8_1 (Or.inl (hw _ (List.mem_of_getElem? (i := 17) rfl))) Via.refl rfl rfl fun T N => ?_
  refine k_iload_n (pc := 4) N d8_4 rfl ?_
  refine k_iload_n (pc := 5) N d8_5 rfl ?_
  refine k_iastore (pc := 6) N 1 y d8_6 rfl (nd_nn (Nat.lt_succ_of_lt hy)) (nd_nat (Nat.lt_succ_of_lt hy)) (show y < 4 from hy) (v := .int (nd x)) rfl (K' := ((oCq Z qa (.ref ah) (.ref ap) (.ref ar) (.ref ax) (.int sz)) :: (oArr Z ah kh .int (hA (upd h y x))) :: (oArr Z ap kp .int (iA p)) :: (oArr Z ar kr .double (rA a)) :: (oArr Z ax ks .double (rA b)) :: rest)) (by rw [set_hA (show y < 4 from hy)]; rfl) fun T N => ?_
  refine k_aload_n (pc := 7) N d8_7 rfl rfl ?_
  refine k_get (pc := 8) (host := "") N 0 1 d8_8 (Or.inl (hw _ (List.mem_of_getElem? (i := 19) rfl))) Via.refl rfl rfl fun T N => ?_
  refine k_iload_n (pc := 11) N d8_11 rfl ?_
  refine k_iload_n (pc := 12) N d8_12 rfl ?_
  refine k_iastore (pc := 13) N 2 x d8_13 rfl (nd_nn (Nat.lt_succ_of_lt hx)) (nd_nat (Nat.lt_succ_of_lt hx)) (show x < 4 from hx) (v := .int (nd y)) rfl (K' := ((oCq Z qa (.ref ah) (.ref ap) (.ref ar) (.ref ax) (.int sz)) :: (oArr Z ah kh .int (hA (upd h y x))) :: (oArr Z ap kp .int (iA (upd p x (nd y)))) :: (oArr Z ar kr .double (rA a)) :: (oArr Z ax ks .double (rA b)) :: rest)) (by rw [set_iA (show x < 4 from hx)]; rfl) fun T N => ?_
  exact k_return (pc := 14) N d8_14 rfl (by decide) (by decide) ⟨rfl, rfl⟩
set_option maxRecDepth 65536 in
theorem ef_c_prec2 (m : MethodId) (z0 : Addr) (z1 : Int32) (z2 : Int32) : entryFrame m ([.ref z0, .int z1, .int z2] : List Value).toArray 3 = mkF m 0 #[.val (.ref z0), .val (.int z1), .val (.int z2)] [] := by first | (simp [entryFrame, mkF, argsToLocals, Value.category]; done) | rfl
def rm_c_prec2 : Room := { frames := 4, cells := 0, slots := 0, locals := 71 }
set_option maxRecDepth 65536 in
set_option maxHeartbeats 40000000 in
theorem c_prec2 (l : Launch) (Z : State) (a0 : Array Value) (hw : ∀ d ∈ tables_1, d.before a0 Z = true) (qa ah ap ar ax : Addr) (kh kp kr ks : ClassId) (sz : Int32) (h : Nat → Nat) (p a b : Nat → Int32) (x y : Nat) (hx : x < 4) (hy : y < 4) (rest : List Ent) :
    OMeets l (⟨"com/example/freshline/freshline/schedule/CandidateQueue", "precedes", "(II)Z"⟩ : MethodName) prog_52_method_10_code 3 (some .boolean) rm_c_prec2 Z [.ref qa, .int (nd x), .int (nd y)] ((oCq Z qa (.ref ah) (.ref ap) (.ref ar) (.ref ax) (.int sz)) :: (oArr Z ah kh .int (hA h)) :: (oArr Z ap kp .int (iA p)) :: (oArr Z ar kr .double (rA a)) :: (oArr Z ax ks .double (rA b)) :: rest) (fun v K => v = some (.int (if ky a b x < ky a b y then (1 : Int32) else 0)) ∧ K = (oCq Z qa (.ref ah) (.ref ap) (.ref ar) (.ref ax) (.int sz)) :: (oArr Z ah kh .int (hA h)) :: (oArr Z ap kp .int (iA p)) :: (oArr Z ar kr .double (rA a)) :: (oArr Z ax ks .double (rA b)) :: rest) := by
  refine OMeets.of_body (plainFor_of_name pn_com_example_freshline_freshline_schedule_CandidateQueue) #[.val (.ref qa), .val (.int (nd x)), .val (.int (nd y))] (fun m => ef_c_prec2 m qa (nd x) (nd y)) fun pP eE sS mM bB hH cC T N => ?_
  refine k_aload_n (pc := 0) N d10_0 rfl rfl ?_
  refine k_get (pc := 1) (host := "") N 0 2 d10_1 (Or.inl (hw _ (List.mem_of_getElem? (i := 22) rfl))) Via.refl rfl rfl fun T N => ?_
  refine k_iload_n (pc := 4) N d10_4 rfl ?_
  refine k_daload (pc := 5) N 3 x d10_5 rfl (nd_nn (Nat.lt_succ_of_lt hx)) (nd_nat (Nat.lt_succ_of_lt hx)) (v := .double (FP.i2d (a x))) (arr4_get hx) ?_
  refine k_aload_n (pc := 6) N d10_6 rfl rfl ?_
  refine k_get (pc := 7) (host := "") N 0 3 d10_7 (Or.inl (hw _ (List.mem_of_getElem? (i := 24) rfl))) Via.refl rfl rfl fun T N => ?_
  refine k_iload_n (pc := 10) N d10_10 rfl ?_
  refine k_daload (pc := 11) N 4 x d10_11 rfl (nd_nn (Nat.lt_succ_of_lt hx)) (nd_nat (Nat.lt_succ_of_lt hx)) (v := .double (FP.i2d (b x))) (arr4_get hx) ?_
  refine k_iload_n (pc := 12) N d10_12 rfl ?_
  refine k_aload_n (pc := 13) N d10_13 rfl rfl ?_
  refine k_get (pc := 14) (host := "") N 0 2 d10_14 (Or.inl (hw _ (List.mem_of_getElem? (i := 22) rfl))) Via.refl rfl rfl fun T N => ?_
  refine k_iload_n (pc := 17) N d10_17 rfl ?_
  refine k_daload (pc := 18) N 3 y d10_18 rfl (nd_nn (Nat.lt_succ_of_lt hy)) (nd_nat (Nat.lt_succ_of_lt hy)) (v := .double (FP.i2d (a y))) (arr4_get hy) ?_
  refine k_aload_n (pc := 19) N d10_19 rfl rfl ?_
  refine k_get (pc := 20) (host := "") N 0 3 d10_20 (Or.inl (hw _ (List.mem_of_getElem? (i := 24) rfl))) Via.refl rfl rfl fun T N => ?_
  refine k_iload_n (pc := 23) N d10_23 rfl ?_
  refine k_daload (pc := 24) N 4 y d10_24 rfl (nd_nn (Nat.lt_succ_of_lt hy)) (nd_nat (Nat.lt_succ_of_lt hy)) (v := .double (FP.i2d (b y))) (arr4_get hy) ?_
  refine k_iload_n (pc := 25) N d10_25 rfl ?_
  refine k_static (pc := 26) N (y := (⟨"com/example/freshline/freshline/schedule/CandidateQueue", "precedes", "(DDIDDI)Z"⟩ : MethodName)) (rest := []) [.double (FP.i2d (a x)), .double (FP.i2d (b x)), .int (nd x), .double (FP.i2d (a y)), .double (FP.i2d (b y)), .int (nd y)] d10_26 (hw _ (List.mem_of_getElem? (i := 53) rfl)) (hw _ (List.mem_of_getElem? (i := 54) rfl)) (hw _ (List.mem_of_getElem? (i := 10) rfl)) (hw _ (List.mem_of_getElem? (i := 55) rfl)) (by decide) pd__DDIDDI_Z rfl (c_precedes l Z a0 hw (FP.i2d (a x)) (FP.i2d (b x)) (nd x) (FP.i2d (a y)) (FP.i2d (b y)) (nd y) (i2d_fin _).noNaN (i2d_fin _).noNaN (i2d_fin _).noNaN (i2d_fin _).noNaN ((oCq Z qa (.ref ah) (.ref ap) (.ref ar) (.ref ax) (.int sz)) :: (oArr Z ah kh .int (hA h)) :: (oArr Z ap kp .int (iA p)) :: (oArr Z ar kr .double (rA a)) :: (oArr Z ax ks .double (rA b)) :: rest)) rfl rfl 0 rfl (by decide) (by decide) (cells' := 0) rfl (slots' := 0) rfl (by decide) (by decide) fun T vV K' N qQ => ?_
  obtain ⟨rfl, rfl⟩ := qQ
  exact k_zreturn (pc := 29) N d10_29 rfl (by decide) (by decide) ⟨by rw [prec_ky hx hy]; split <;> rfl, rfl⟩
set_option maxRecDepth 65536 in
theorem ef_c_up0 (m : MethodId) (z0 : Addr) (z1 : Int32) : entryFrame m ([.ref z0, .int z1] : List Value).toArray 5 = mkF m 0 #[.val (.ref z0), .val (.int z1), .unset, .unset, .unset] [] := by first | (simp [entryFrame, mkF, argsToLocals, Value.category]; done) | rfl
def rm_c_up0 : Room := { frames := 5, cells := 0, slots := 0, locals := 85 }
set_option maxRecDepth 65536 in
set_option maxHeartbeats 40000000 in
theorem c_up0 (l : Launch) (Z : State) (a0 : Array Value) (hw : ∀ d ∈ tables_1, d.before a0 Z = true) (qa ah ap ar ax : Addr) (kh kp kr ks : ClassId) (sz : Int32) (h : Nat → Nat) (p a b : Nat → Int32) (n : Nat) (hO : Ok n h p) (hc : 0 < n) (hX : HX n 0 (ky a b) h) (rest : List Ent) :
    OMeets l (⟨"com/example/freshline/freshline/schedule/CandidateQueue", "siftUp", "(I)I"⟩ : MethodName) prog_52_method_8_code 5 (some .int) rm_c_up0 Z [.ref qa, .int (0 : Int32)] ((oCq Z qa (.ref ah) (.ref ap) (.ref ar) (.ref ax) (.int sz)) :: (oArr Z ah kh .int (hA h)) :: (oArr Z ap kp .int (iA p)) :: (oArr Z ar kr .double (rA a)) :: (oArr Z ax ks .double (rA b)) :: rest) (fun v K => ∃ (h' : Nat → Nat) (p' : Nat → Int32) (d : Nat), d < n ∧ v = some (.int (nd d)) ∧ K = (oCq Z qa (.ref ah) (.ref ap) (.ref ar) (.ref ax) (.int sz)) :: (oArr Z ah kh .int (hA h')) :: (oArr Z ap kp .int (iA p')) :: (oArr Z ar kr .double (rA a)) :: (oArr Z ax ks .double (rA b)) :: rest ∧ Ok n h' p' ∧ All p p' ∧ HD n d (ky a b) h') := by
  refine OMeets.of_body (plainFor_of_name pn_com_example_freshline_freshline_schedule_CandidateQueue) #[.val (.ref qa), .val (.int (0 : Int32)), .unset, .unset, .unset] (fun m => ef_c_up0 m qa (0 : Int32)) fun pP eE sS mM bB hH cC T N => ?_
  have l0 := (hO.atp 0 (by omega)).1
  refine k_aload_n (pc := 0) N d7_0 rfl rfl ?_
  refine k_get (pc := 1) (host := "") N 0 0 d7_1 (Or.inl (hw _ (List.mem_of_getElem? (i := 17) rfl))) Via.refl rfl rfl fun T N => ?_
  refine k_iload_n (pc := 4) N d7_4 rfl ?_
  refine k_iaload (pc := 5) N 1 0 d7_5 rfl (by decide) (by decide) (v := .int (nd (h 0))) rfl ?_
  refine k_istore_n (pc := 6) N d7_6 (Ls' := #[.val (.ref qa), .val (.int (0 : Int32)), .val (.int (nd (h 0))), .unset, .unset]) rfl ?_
  have O0 := hO.hole (c := 0) hc
  have S0 := Same.refl p (h 0)
  refine k_iload_n (pc := 7) N d7_7 rfl ?_
  refine k_istore_n (pc := 8) N d7_8 (Ls' := #[.val (.ref qa), .val (.int (0 : Int32)), .val (.int (nd (h 0))), .val (.int (0 : Int32)), .unset]) rfl ?_
  refine k_iload_n (pc := 9) N d7_9 rfl ?_
  refine k_if_le (pc := 10) N d7_10 (pc' := 56) (by decide) (fun _ => ?_) (fun qQ => absurd qQ (by decide))
  refine k_aload_n (pc := 56) N d7_56 rfl rfl ?_
  refine k_iload_n (pc := 57) N d7_57 rfl ?_
  refine k_iload_n (pc := 58) N d7_58 rfl ?_
  refine k_private (pc := 59) N (y := (⟨"com/example/freshline/freshline/schedule/CandidateQueue", "move", "(II)V"⟩ : MethodName)) (rest := []) [.int (nd (h 0)), .int (0 : Int32)] (a := qa) 0 d7_59 rfl (hw _ (List.mem_of_getElem? (i := 9) rfl)) (hw _ (List.mem_of_getElem? (i := 41) rfl)) (hw _ (List.mem_of_getElem? (i := 42) rfl)) (hw _ (List.mem_of_getElem? (i := 43) rfl)) (hw _ (List.mem_of_getElem? (i := 10) rfl)) (hw _ (List.mem_of_getElem? (i := 44) rfl)) (by decide) pd__II_V rfl (c_move l Z a0 hw qa ah ap ar ax kh kp kr ks sz h p a b (h 0) 0 l0 (by decide) rest) rfl rfl 0 rfl (by decide) (by decide) (cells' := 0) rfl (slots' := 0) rfl (by decide) (by decide) fun T vV K' N qQ => ?_
  obtain ⟨rfl, rfl⟩ := qQ
  refine k_iload_n (pc := 62) N d7_62 rfl ?_
  refine k_ireturn (pc := 63) N d7_63 rfl (by decide) (by decide) ?_
  refine ⟨(upd h 0 (h 0)), (upd p (h 0) (nd 0)), 0, by omega, rfl, rfl, O0.fill, Okh.all hO hc O0 S0, ?_⟩
  show Hd n 0 (ky a b (h 0)) (ky a b (h 1)) (ky a b (h 2)) (ky a b (h 3))
  unfold HX Hx at hX
  unfold Hd
  omega
set_option maxRecDepth 65536 in
theorem ef_c_up1 (m : MethodId) (z0 : Addr) (z1 : Int32) : entryFrame m ([.ref z0, .int z1] : List Value).toArray 5 = mkF m 0 #[.val (.ref z0), .val (.int z1), .unset, .unset, .unset] [] := by first | (simp [entryFrame, mkF, argsToLocals, Value.category]; done) | rfl
def rm_c_up1 : Room := { frames := 5, cells := 0, slots := 0, locals := 85 }
set_option maxRecDepth 65536 in
set_option maxHeartbeats 40000000 in
theorem c_up1 (l : Launch) (Z : State) (a0 : Array Value) (hw : ∀ d ∈ tables_1, d.before a0 Z = true) (qa ah ap ar ax : Addr) (kh kp kr ks : ClassId) (sz : Int32) (h : Nat → Nat) (p a b : Nat → Int32) (n : Nat) (hO : Ok n h p) (hc : 1 < n) (hX : HX n 1 (ky a b) h) (rest : List Ent) :
    OMeets l (⟨"com/example/freshline/freshline/schedule/CandidateQueue", "siftUp", "(I)I"⟩ : MethodName) prog_52_method_8_code 5 (some .int) rm_c_up1 Z [.ref qa, .int (1 : Int32)] ((oCq Z qa (.ref ah) (.ref ap) (.ref ar) (.ref ax) (.int sz)) :: (oArr Z ah kh .int (hA h)) :: (oArr Z ap kp .int (iA p)) :: (oArr Z ar kr .double (rA a)) :: (oArr Z ax ks .double (rA b)) :: rest) (fun v K => ∃ (h' : Nat → Nat) (p' : Nat → Int32) (d : Nat), d < n ∧ v = some (.int (nd d)) ∧ K = (oCq Z qa (.ref ah) (.ref ap) (.ref ar) (.ref ax) (.int sz)) :: (oArr Z ah kh .int (hA h')) :: (oArr Z ap kp .int (iA p')) :: (oArr Z ar kr .double (rA a)) :: (oArr Z ax ks .double (rA b)) :: rest ∧ Ok n h' p' ∧ All p p' ∧ HD n d (ky a b) h') := by
  refine OMeets.of_body (plainFor_of_name pn_com_example_freshline_freshline_schedule_CandidateQueue) #[.val (.ref qa), .val (.int (1 : Int32)), .unset, .unset, .unset] (fun m => ef_c_up1 m qa (1 : Int32)) fun pP eE sS mM bB hH cC T N => ?_
  have l0 := (hO.atp 0 (by omega)).1
  have l1 := (hO.atp 1 (by omega)).1
  refine k_aload_n (pc := 0) N d7_0 rfl rfl ?_
  refine k_get (pc := 1) (host := "") N 0 0 d7_1 (Or.inl (hw _ (List.mem_of_getElem? (i := 17) rfl))) Via.refl rfl rfl fun T N => ?_
  refine k_iload_n (pc := 4) N d7_4 rfl ?_
  refine k_iaload (pc := 5) N 1 1 d7_5 rfl (by decide) (by decide) (v := .int (nd (h 1))) rfl ?_
  refine k_istore_n (pc := 6) N d7_6 (Ls' := #[.val (.ref qa), .val (.int (1 : Int32)), .val (.int (nd (h 1))), .unset, .unset]) rfl ?_
  have O0 := hO.hole (c := 1) hc
  have S0 := Same.refl p (h 1)
  refine k_iload_n (pc := 7) N d7_7 rfl ?_
  refine k_istore_n (pc := 8) N d7_8 (Ls' := #[.val (.ref qa), .val (.int (1 : Int32)), .val (.int (nd (h 1))), .val (.int (1 : Int32)), .unset]) rfl ?_
  refine k_iload_n (pc := 9) N d7_9 rfl ?_
  refine k_if_le (pc := 10) N d7_10 (pc' := 56) (by decide) (fun qQ => absurd qQ (by decide)) (fun _ => ?_)
  refine k_iload_n (pc := 13) N d7_13 rfl ?_
  refine k_iconst (pc := 14) N d7_14 (v := (1 : Int32)) (by decide) ?_
  refine k_isub (pc := 15) N d7_15 ?_
  rw [show ((1 : Int32) - (1 : Int32)) = (0 : Int32) by decide]
  refine k_iconst (pc := 16) N d7_16 (v := (2 : Int32)) (by decide) ?_
  refine k_idiv (pc := 17) N d7_17 (by decide) ?_
  rw [show ((0 : Int32) / (2 : Int32)) = (0 : Int32) by decide]
  refine k_istore (pc := 18) N d7_18 (Ls' := #[.val (.ref qa), .val (.int (1 : Int32)), .val (.int (nd (h 1))), .val (.int (1 : Int32)), .val (.int (0 : Int32))]) rfl ?_
  refine k_aload_n (pc := 20) N d7_20 rfl rfl ?_
  refine k_iload_n (pc := 21) N d7_21 rfl ?_
  refine k_aload_n (pc := 22) N d7_22 rfl rfl ?_
  refine k_get (pc := 23) (host := "") N 0 0 d7_23 (Or.inl (hw _ (List.mem_of_getElem? (i := 17) rfl))) Via.refl rfl rfl fun T N => ?_
  refine k_iload (pc := 26) N d7_26 rfl ?_
  refine k_iaload (pc := 28) N 1 0 d7_28 rfl (by decide) (by decide) (v := .int (nd (h 0))) rfl ?_
  refine k_private (pc := 29) N (y := (⟨"com/example/freshline/freshline/schedule/CandidateQueue", "precedes", "(II)Z"⟩ : MethodName)) (rest := []) [.int (nd (h 1)), .int (nd (h 0))] (a := qa) 0 d7_29 rfl (hw _ (List.mem_of_getElem? (i := 9) rfl)) (hw _ (List.mem_of_getElem? (i := 49) rfl)) (hw _ (List.mem_of_getElem? (i := 50) rfl)) (hw _ (List.mem_of_getElem? (i := 51) rfl)) (hw _ (List.mem_of_getElem? (i := 10) rfl)) (hw _ (List.mem_of_getElem? (i := 52) rfl)) (by decide) pd__II_Z rfl (c_prec2 l Z a0 hw qa ah ap ar ax kh kp kr ks sz h p a b (h 1) (h 0) l1 l0 rest) rfl rfl 0 rfl (by decide) (by decide) (cells' := 0) rfl (slots' := 0) rfl (by decide) (by decide) fun T vV K' N qQ => ?_
  obtain ⟨rfl, rfl⟩ := qQ
  refine k_if_ne (pc := 32) N d7_32 (pc' := 38) (by decide) (fun c32 => ?_) (fun c32 => ?_)
  · have q1 := of_if c32
    refine k_aload_n (pc := 38) N d7_38 rfl rfl ?_
    refine k_aload_n (pc := 39) N d7_39 rfl rfl ?_
    refine k_get (pc := 40) (host := "") N 0 0 d7_40 (Or.inl (hw _ (List.mem_of_getElem? (i := 17) rfl))) Via.refl rfl rfl fun T N => ?_
    refine k_iload (pc := 43) N d7_43 rfl ?_
    refine k_iaload (pc := 45) N 1 0 d7_45 rfl (by decide) (by decide) (v := .int (nd (h 0))) rfl ?_
    refine k_iload_n (pc := 46) N d7_46 rfl ?_
    refine k_private (pc := 47) N (y := (⟨"com/example/freshline/freshline/schedule/CandidateQueue", "move", "(II)V"⟩ : MethodName)) (rest := []) [.int (nd (h 0)), .int (1 : Int32)] (a := qa) 0 d7_47 rfl (hw _ (List.mem_of_getElem? (i := 9) rfl)) (hw _ (List.mem_of_getElem? (i := 41) rfl)) (hw _ (List.mem_of_getElem? (i := 42) rfl)) (hw _ (List.mem_of_getElem? (i := 43) rfl)) (hw _ (List.mem_of_getElem? (i := 10) rfl)) (hw _ (List.mem_of_getElem? (i := 44) rfl)) (by decide) pd__II_V rfl (c_move l Z a0 hw qa ah ap ar ax kh kp kr ks sz h p a b (h 0) 1 l0 (by decide) rest) rfl rfl 0 rfl (by decide) (by decide) (cells' := 0) rfl (slots' := 0) rfl (by decide) (by decide) fun T vV K' N qQ => ?_
    obtain ⟨rfl, rfl⟩ := qQ
    have O1 := O0.step (d := 0) (by omega) (by decide)
    have S1 := Same.trans S0 (O0.step_same (d := 0) (by omega) (by decide))
    refine k_iload (pc := 50) N d7_50 rfl ?_
    refine k_istore_n (pc := 52) N d7_52 (Ls' := #[.val (.ref qa), .val (.int (1 : Int32)), .val (.int (nd (h 1))), .val (.int (0 : Int32)), .val (.int (0 : Int32))]) rfl ?_
    refine k_goto (pc := 53) N d7_53 (pc' := 9) (by decide) ?_
    refine k_iload_n (pc := 9) N d7_9 rfl ?_
    refine k_if_le (pc := 10) N d7_10 (pc' := 56) (by decide) (fun _ => ?_) (fun qQ => absurd qQ (by decide))
    refine k_aload_n (pc := 56) N d7_56 rfl rfl ?_
    refine k_iload_n (pc := 57) N d7_57 rfl ?_
    refine k_iload_n (pc := 58) N d7_58 rfl ?_
    refine k_private (pc := 59) N (y := (⟨"com/example/freshline/freshline/schedule/CandidateQueue", "move", "(II)V"⟩ : MethodName)) (rest := []) [.int (nd (h 1)), .int (0 : Int32)] (a := qa) 0 d7_59 rfl (hw _ (List.mem_of_getElem? (i := 9) rfl)) (hw _ (List.mem_of_getElem? (i := 41) rfl)) (hw _ (List.mem_of_getElem? (i := 42) rfl)) (hw _ (List.mem_of_getElem? (i := 43) rfl)) (hw _ (List.mem_of_getElem? (i := 10) rfl)) (hw _ (List.mem_of_getElem? (i := 44) rfl)) (by decide) pd__II_V rfl (c_move l Z a0 hw qa ah ap ar ax kh kp kr ks sz (upd h 1 (h 0)) (upd p (h 0) (nd 1)) a b (h 1) 0 l1 (by decide) rest) rfl rfl 0 rfl (by decide) (by decide) (cells' := 0) rfl (slots' := 0) rfl (by decide) (by decide) fun T vV K' N qQ => ?_
    obtain ⟨rfl, rfl⟩ := qQ
    refine k_iload_n (pc := 62) N d7_62 rfl ?_
    refine k_ireturn (pc := 63) N d7_63 rfl (by decide) (by decide) ?_
    refine ⟨(upd (upd h 1 (h 0)) 0 (h 1)), (upd (upd p (h 0) (nd 1)) (h 1) (nd 0)), 0, by omega, rfl, rfl, O1.fill, Okh.all hO hc O1 S1, ?_⟩
    show Hd n 0 (ky a b (h 1)) (ky a b (h 0)) (ky a b (h 2)) (ky a b (h 3))
    unfold HX Hx at hX
    unfold Hd
    omega
  · have q1 := of_ifn c32
    refine k_goto (pc := 35) N d7_35 (pc' := 56) (by decide) ?_
    refine k_aload_n (pc := 56) N d7_56 rfl rfl ?_
    refine k_iload_n (pc := 57) N d7_57 rfl ?_
    refine k_iload_n (pc := 58) N d7_58 rfl ?_
    refine k_private (pc := 59) N (y := (⟨"com/example/freshline/freshline/schedule/CandidateQueue", "move", "(II)V"⟩ : MethodName)) (rest := []) [.int (nd (h 1)), .int (1 : Int32)] (a := qa) 0 d7_59 rfl (hw _ (List.mem_of_getElem? (i := 9) rfl)) (hw _ (List.mem_of_getElem? (i := 41) rfl)) (hw _ (List.mem_of_getElem? (i := 42) rfl)) (hw _ (List.mem_of_getElem? (i := 43) rfl)) (hw _ (List.mem_of_getElem? (i := 10) rfl)) (hw _ (List.mem_of_getElem? (i := 44) rfl)) (by decide) pd__II_V rfl (c_move l Z a0 hw qa ah ap ar ax kh kp kr ks sz h p a b (h 1) 1 l1 (by decide) rest) rfl rfl 0 rfl (by decide) (by decide) (cells' := 0) rfl (slots' := 0) rfl (by decide) (by decide) fun T vV K' N qQ => ?_
    obtain ⟨rfl, rfl⟩ := qQ
    refine k_iload_n (pc := 62) N d7_62 rfl ?_
    refine k_ireturn (pc := 63) N d7_63 rfl (by decide) (by decide) ?_
    refine ⟨(upd h 1 (h 1)), (upd p (h 1) (nd 1)), 1, by omega, rfl, rfl, O0.fill, Okh.all hO hc O0 S0, ?_⟩
    show Hd n 1 (ky a b (h 0)) (ky a b (h 1)) (ky a b (h 2)) (ky a b (h 3))
    unfold HX Hx at hX
    unfold Hd
    omega
set_option maxRecDepth 65536 in
theorem ef_c_up2 (m : MethodId) (z0 : Addr) (z1 : Int32) : entryFrame m ([.ref z0, .int z1] : List Value).toArray 5 = mkF m 0 #[.val (.ref z0), .val (.int z1), .unset, .unset, .unset] [] := by first | (simp [entryFrame, mkF, argsToLocals, Value.category]; done) | rfl
def rm_c_up2 : Room := { frames := 5, cells := 0, slots := 0, locals := 85 }
set_option maxRecDepth 65536 in
set_option maxHeartbeats 40000000 in
theorem c_up2 (l : Launch) (Z : State) (a0 : Array Value) (hw : ∀ d ∈ tables_1, d.before a0 Z = true) (qa ah ap ar ax : Addr) (kh kp kr ks : ClassId) (sz : Int32) (h : Nat → Nat) (p a b : Nat → Int32) (n : Nat) (hO : Ok n h p) (hc : 2 < n) (hX : HX n 2 (ky a b) h) (rest : List Ent) :
    OMeets l (⟨"com/example/freshline/freshline/schedule/CandidateQueue", "siftUp", "(I)I"⟩ : MethodName) prog_52_method_8_code 5 (some .int) rm_c_up2 Z [.ref qa, .int (2 : Int32)] ((oCq Z qa (.ref ah) (.ref ap) (.ref ar) (.ref ax) (.int sz)) :: (oArr Z ah kh .int (hA h)) :: (oArr Z ap kp .int (iA p)) :: (oArr Z ar kr .double (rA a)) :: (oArr Z ax ks .double (rA b)) :: rest) (fun v K => ∃ (h' : Nat → Nat) (p' : Nat → Int32) (d : Nat), d < n ∧ v = some (.int (nd d)) ∧ K = (oCq Z qa (.ref ah) (.ref ap) (.ref ar) (.ref ax) (.int sz)) :: (oArr Z ah kh .int (hA h')) :: (oArr Z ap kp .int (iA p')) :: (oArr Z ar kr .double (rA a)) :: (oArr Z ax ks .double (rA b)) :: rest ∧ Ok n h' p' ∧ All p p' ∧ HD n d (ky a b) h') := by
  refine OMeets.of_body (plainFor_of_name pn_com_example_freshline_freshline_schedule_CandidateQueue) #[.val (.ref qa), .val (.int (2 : Int32)), .unset, .unset, .unset] (fun m => ef_c_up2 m qa (2 : Int32)) fun pP eE sS mM bB hH cC T N => ?_
  have l0 := (hO.atp 0 (by omega)).1
  have l1 := (hO.atp 1 (by omega)).1
  have l2 := (hO.atp 2 (by omega)).1
  refine k_aload_n (pc := 0) N d7_0 rfl rfl ?_
  refine k_get (pc := 1) (host := "") N 0 0 d7_1 (Or.inl (hw _ (List.mem_of_getElem? (i := 17) rfl))) Via.refl rfl rfl fun T N => ?_
  refine k_iload_n (pc := 4) N d7_4 rfl ?_
  refine k_iaload (pc := 5) N 1 2 d7_5 rfl (by decide) (by decide) (v := .int (nd (h 2))) rfl ?_
  refine k_istore_n (pc := 6) N d7_6 (Ls' := #[.val (.ref qa), .val (.int (2 : Int32)), .val (.int (nd (h 2))), .unset, .unset]) rfl ?_
  have O0 := hO.hole (c := 2) hc
  have S0 := Same.refl p (h 2)
  refine k_iload_n (pc := 7) N d7_7 rfl ?_
  refine k_istore_n (pc := 8) N d7_8 (Ls' := #[.val (.ref qa), .val (.int (2 : Int32)), .val (.int (nd (h 2))), .val (.int (2 : Int32)), .unset]) rfl ?_
  refine k_iload_n (pc := 9) N d7_9 rfl ?_
  refine k_if_le (pc := 10) N d7_10 (pc' := 56) (by decide) (fun qQ => absurd qQ (by decide)) (fun _ => ?_)
  refine k_iload_n (pc := 13) N d7_13 rfl ?_
  refine k_iconst (pc := 14) N d7_14 (v := (1 : Int32)) (by decide) ?_
  refine k_isub (pc := 15) N d7_15 ?_
  rw [show ((2 : Int32) - (1 : Int32)) = (1 : Int32) by decide]
  refine k_iconst (pc := 16) N d7_16 (v := (2 : Int32)) (by decide) ?_
  refine k_idiv (pc := 17) N d7_17 (by decide) ?_
  rw [show ((1 : Int32) / (2 : Int32)) = (0 : Int32) by decide]
  refine k_istore (pc := 18) N d7_18 (Ls' := #[.val (.ref qa), .val (.int (2 : Int32)), .val (.int (nd (h 2))), .val (.int (2 : Int32)), .val (.int (0 : Int32))]) rfl ?_
  refine k_aload_n (pc := 20) N d7_20 rfl rfl ?_
  refine k_iload_n (pc := 21) N d7_21 rfl ?_
  refine k_aload_n (pc := 22) N d7_22 rfl rfl ?_
  refine k_get (pc := 23) (host := "") N 0 0 d7_23 (Or.inl (hw _ (List.mem_of_getElem? (i := 17) rfl))) Via.refl rfl rfl fun T N => ?_
  refine k_iload (pc := 26) N d7_26 rfl ?_
  refine k_iaload (pc := 28) N 1 0 d7_28 rfl (by decide) (by decide) (v := .int (nd (h 0))) rfl ?_
  refine k_private (pc := 29) N (y := (⟨"com/example/freshline/freshline/schedule/CandidateQueue", "precedes", "(II)Z"⟩ : MethodName)) (rest := []) [.int (nd (h 2)), .int (nd (h 0))] (a := qa) 0 d7_29 rfl (hw _ (List.mem_of_getElem? (i := 9) rfl)) (hw _ (List.mem_of_getElem? (i := 49) rfl)) (hw _ (List.mem_of_getElem? (i := 50) rfl)) (hw _ (List.mem_of_getElem? (i := 51) rfl)) (hw _ (List.mem_of_getElem? (i := 10) rfl)) (hw _ (List.mem_of_getElem? (i := 52) rfl)) (by decide) pd__II_Z rfl (c_prec2 l Z a0 hw qa ah ap ar ax kh kp kr ks sz h p a b (h 2) (h 0) l2 l0 rest) rfl rfl 0 rfl (by decide) (by decide) (cells' := 0) rfl (slots' := 0) rfl (by decide) (by decide) fun T vV K' N qQ => ?_
  obtain ⟨rfl, rfl⟩ := qQ
  refine k_if_ne (pc := 32) N d7_32 (pc' := 38) (by decide) (fun c32 => ?_) (fun c32 => ?_)
  · have q2 := of_if c32
    refine k_aload_n (pc := 38) N d7_38 rfl rfl ?_
    refine k_aload_n (pc := 39) N d7_39 rfl rfl ?_
    refine k_get (pc := 40) (host := "") N 0 0 d7_40 (Or.inl (hw _ (List.mem_of_getElem? (i := 17) rfl))) Via.refl rfl rfl fun T N => ?_
    refine k_iload (pc := 43) N d7_43 rfl ?_
    refine k_iaload (pc := 45) N 1 0 d7_45 rfl (by decide) (by decide) (v := .int (nd (h 0))) rfl ?_
    refine k_iload_n (pc := 46) N d7_46 rfl ?_
    refine k_private (pc := 47) N (y := (⟨"com/example/freshline/freshline/schedule/CandidateQueue", "move", "(II)V"⟩ : MethodName)) (rest := []) [.int (nd (h 0)), .int (2 : Int32)] (a := qa) 0 d7_47 rfl (hw _ (List.mem_of_getElem? (i := 9) rfl)) (hw _ (List.mem_of_getElem? (i := 41) rfl)) (hw _ (List.mem_of_getElem? (i := 42) rfl)) (hw _ (List.mem_of_getElem? (i := 43) rfl)) (hw _ (List.mem_of_getElem? (i := 10) rfl)) (hw _ (List.mem_of_getElem? (i := 44) rfl)) (by decide) pd__II_V rfl (c_move l Z a0 hw qa ah ap ar ax kh kp kr ks sz h p a b (h 0) 2 l0 (by decide) rest) rfl rfl 0 rfl (by decide) (by decide) (cells' := 0) rfl (slots' := 0) rfl (by decide) (by decide) fun T vV K' N qQ => ?_
    obtain ⟨rfl, rfl⟩ := qQ
    have O1 := O0.step (d := 0) (by omega) (by decide)
    have S1 := Same.trans S0 (O0.step_same (d := 0) (by omega) (by decide))
    refine k_iload (pc := 50) N d7_50 rfl ?_
    refine k_istore_n (pc := 52) N d7_52 (Ls' := #[.val (.ref qa), .val (.int (2 : Int32)), .val (.int (nd (h 2))), .val (.int (0 : Int32)), .val (.int (0 : Int32))]) rfl ?_
    refine k_goto (pc := 53) N d7_53 (pc' := 9) (by decide) ?_
    refine k_iload_n (pc := 9) N d7_9 rfl ?_
    refine k_if_le (pc := 10) N d7_10 (pc' := 56) (by decide) (fun _ => ?_) (fun qQ => absurd qQ (by decide))
    refine k_aload_n (pc := 56) N d7_56 rfl rfl ?_
    refine k_iload_n (pc := 57) N d7_57 rfl ?_
    refine k_iload_n (pc := 58) N d7_58 rfl ?_
    refine k_private (pc := 59) N (y := (⟨"com/example/freshline/freshline/schedule/CandidateQueue", "move", "(II)V"⟩ : MethodName)) (rest := []) [.int (nd (h 2)), .int (0 : Int32)] (a := qa) 0 d7_59 rfl (hw _ (List.mem_of_getElem? (i := 9) rfl)) (hw _ (List.mem_of_getElem? (i := 41) rfl)) (hw _ (List.mem_of_getElem? (i := 42) rfl)) (hw _ (List.mem_of_getElem? (i := 43) rfl)) (hw _ (List.mem_of_getElem? (i := 10) rfl)) (hw _ (List.mem_of_getElem? (i := 44) rfl)) (by decide) pd__II_V rfl (c_move l Z a0 hw qa ah ap ar ax kh kp kr ks sz (upd h 2 (h 0)) (upd p (h 0) (nd 2)) a b (h 2) 0 l2 (by decide) rest) rfl rfl 0 rfl (by decide) (by decide) (cells' := 0) rfl (slots' := 0) rfl (by decide) (by decide) fun T vV K' N qQ => ?_
    obtain ⟨rfl, rfl⟩ := qQ
    refine k_iload_n (pc := 62) N d7_62 rfl ?_
    refine k_ireturn (pc := 63) N d7_63 rfl (by decide) (by decide) ?_
    refine ⟨(upd (upd h 2 (h 0)) 0 (h 2)), (upd (upd p (h 0) (nd 2)) (h 2) (nd 0)), 0, by omega, rfl, rfl, O1.fill, Okh.all hO hc O1 S1, ?_⟩
    show Hd n 0 (ky a b (h 2)) (ky a b (h 1)) (ky a b (h 0)) (ky a b (h 3))
    unfold HX Hx at hX
    unfold Hd
    omega
  · have q2 := of_ifn c32
    refine k_goto (pc := 35) N d7_35 (pc' := 56) (by decide) ?_
    refine k_aload_n (pc := 56) N d7_56 rfl rfl ?_
    refine k_iload_n (pc := 57) N d7_57 rfl ?_
    refine k_iload_n (pc := 58) N d7_58 rfl ?_
    refine k_private (pc := 59) N (y := (⟨"com/example/freshline/freshline/schedule/CandidateQueue", "move", "(II)V"⟩ : MethodName)) (rest := []) [.int (nd (h 2)), .int (2 : Int32)] (a := qa) 0 d7_59 rfl (hw _ (List.mem_of_getElem? (i := 9) rfl)) (hw _ (List.mem_of_getElem? (i := 41) rfl)) (hw _ (List.mem_of_getElem? (i := 42) rfl)) (hw _ (List.mem_of_getElem? (i := 43) rfl)) (hw _ (List.mem_of_getElem? (i := 10) rfl)) (hw _ (List.mem_of_getElem? (i := 44) rfl)) (by decide) pd__II_V rfl (c_move l Z a0 hw qa ah ap ar ax kh kp kr ks sz h p a b (h 2) 2 l2 (by decide) rest) rfl rfl 0 rfl (by decide) (by decide) (cells' := 0) rfl (slots' := 0) rfl (by decide) (by decide) fun T vV K' N qQ => ?_
    obtain ⟨rfl, rfl⟩ := qQ
    refine k_iload_n (pc := 62) N d7_62 rfl ?_
    refine k_ireturn (pc := 63) N d7_63 rfl (by decide) (by decide) ?_
    refine ⟨(upd h 2 (h 2)), (upd p (h 2) (nd 2)), 2, by omega, rfl, rfl, O0.fill, Okh.all hO hc O0 S0, ?_⟩
    show Hd n 2 (ky a b (h 0)) (ky a b (h 1)) (ky a b (h 2)) (ky a b (h 3))
    unfold HX Hx at hX
    unfold Hd
    omega
set_option maxRecDepth 65536 in
theorem ef_c_up3 (m : MethodId) (z0 : Addr) (z1 : Int32) : entryFrame m ([.ref z0, .int z1] : List Value).toArray 5 = mkF m 0 #[.val (.ref z0), .val (.int z1), .unset, .unset, .unset] [] := by first | (simp [entryFrame, mkF, argsToLocals, Value.category]; done) | rfl
def rm_c_up3 : Room := { frames := 5, cells := 0, slots := 0, locals := 85 }
set_option maxRecDepth 65536 in
set_option maxHeartbeats 40000000 in
theorem c_up3 (l : Launch) (Z : State) (a0 : Array Value) (hw : ∀ d ∈ tables_1, d.before a0 Z = true) (qa ah ap ar ax : Addr) (kh kp kr ks : ClassId) (sz : Int32) (h : Nat → Nat) (p a b : Nat → Int32) (n : Nat) (hO : Ok n h p) (hc : 3 < n) (hX : HX n 3 (ky a b) h) (rest : List Ent) :
    OMeets l (⟨"com/example/freshline/freshline/schedule/CandidateQueue", "siftUp", "(I)I"⟩ : MethodName) prog_52_method_8_code 5 (some .int) rm_c_up3 Z [.ref qa, .int (3 : Int32)] ((oCq Z qa (.ref ah) (.ref ap) (.ref ar) (.ref ax) (.int sz)) :: (oArr Z ah kh .int (hA h)) :: (oArr Z ap kp .int (iA p)) :: (oArr Z ar kr .double (rA a)) :: (oArr Z ax ks .double (rA b)) :: rest) (fun v K => ∃ (h' : Nat → Nat) (p' : Nat → Int32) (d : Nat), d < n ∧ v = some (.int (nd d)) ∧ K = (oCq Z qa (.ref ah) (.ref ap) (.ref ar) (.ref ax) (.int sz)) :: (oArr Z ah kh .int (hA h')) :: (oArr Z ap kp .int (iA p')) :: (oArr Z ar kr .double (rA a)) :: (oArr Z ax ks .double (rA b)) :: rest ∧ Ok n h' p' ∧ All p p' ∧ HD n d (ky a b) h') := by
  refine OMeets.of_body (plainFor_of_name pn_com_example_freshline_freshline_schedule_CandidateQueue) #[.val (.ref qa), .val (.int (3 : Int32)), .unset, .unset, .unset] (fun m => ef_c_up3 m qa (3 : Int32)) fun pP eE sS mM bB hH cC T N => ?_
  have l0 := (hO.atp 0 (by omega)).1
  have l1 := (hO.atp 1 (by omega)).1
  have l2 := (hO.atp 2 (by omega)).1
  have l3 := (hO.atp 3 (by omega)).1
  refine k_aload_n (pc := 0) N d7_0 rfl rfl ?_
  refine k_get (pc := 1) (host := "") N 0 0 d7_1 (Or.inl (hw _ (List.mem_of_getElem? (i := 17) rfl))) Via.refl rfl rfl fun T N => ?_
  refine k_iload_n (pc := 4) N d7_4 rfl ?_
  refine k_iaload (pc := 5) N 1 3 d7_5 rfl (by decide) (by decide) (v := .int (nd (h 3))) rfl ?_
  refine k_istore_n (pc := 6) N d7_6 (Ls' := #[.val (.ref qa), .val (.int (3 : Int32)), .val (.int (nd (h 3))), .unset, .unset]) rfl ?_
  have O0 := hO.hole (c := 3) hc
  have S0 := Same.refl p (h 3)
  refine k_iload_n (pc := 7) N d7_7 rfl ?_
  refine k_istore_n (pc := 8) N d7_8 (Ls' := #[.val (.ref qa), .val (.int (3 : Int32)), .val (.int (nd (h 3))), .val (.int (3 : Int32)), .unset]) rfl ?_
  refine k_iload_n (pc := 9) N d7_9 rfl ?_
  refine k_if_le (pc := 10) N d7_10 (pc' := 56) (by decide) (fun qQ => absurd qQ (by decide)) (fun _ => ?_)
  refine k_iload_n (pc := 13) N d7_13 rfl ?_
  refine k_iconst (pc := 14) N d7_14 (v := (1 : Int32)) (by decide) ?_
  refine k_isub (pc := 15) N d7_15 ?_
  rw [show ((3 : Int32) - (1 : Int32)) = (2 : Int32) by decide]
  refine k_iconst (pc := 16) N d7_16 (v := (2 : Int32)) (by decide) ?_
  refine k_idiv (pc := 17) N d7_17 (by decide) ?_
  rw [show ((2 : Int32) / (2 : Int32)) = (1 : Int32) by decide]
  refine k_istore (pc := 18) N d7_18 (Ls' := #[.val (.ref qa), .val (.int (3 : Int32)), .val (.int (nd (h 3))), .val (.int (3 : Int32)), .val (.int (1 : Int32))]) rfl ?_
  refine k_aload_n (pc := 20) N d7_20 rfl rfl ?_
  refine k_iload_n (pc := 21) N d7_21 rfl ?_
  refine k_aload_n (pc := 22) N d7_22 rfl rfl ?_
  refine k_get (pc := 23) (host := "") N 0 0 d7_23 (Or.inl (hw _ (List.mem_of_getElem? (i := 17) rfl))) Via.refl rfl rfl fun T N => ?_
  refine k_iload (pc := 26) N d7_26 rfl ?_
  refine k_iaload (pc := 28) N 1 1 d7_28 rfl (by decide) (by decide) (v := .int (nd (h 1))) rfl ?_
  refine k_private (pc := 29) N (y := (⟨"com/example/freshline/freshline/schedule/CandidateQueue", "precedes", "(II)Z"⟩ : MethodName)) (rest := []) [.int (nd (h 3)), .int (nd (h 1))] (a := qa) 0 d7_29 rfl (hw _ (List.mem_of_getElem? (i := 9) rfl)) (hw _ (List.mem_of_getElem? (i := 49) rfl)) (hw _ (List.mem_of_getElem? (i := 50) rfl)) (hw _ (List.mem_of_getElem? (i := 51) rfl)) (hw _ (List.mem_of_getElem? (i := 10) rfl)) (hw _ (List.mem_of_getElem? (i := 52) rfl)) (by decide) pd__II_Z rfl (c_prec2 l Z a0 hw qa ah ap ar ax kh kp kr ks sz h p a b (h 3) (h 1) l3 l1 rest) rfl rfl 0 rfl (by decide) (by decide) (cells' := 0) rfl (slots' := 0) rfl (by decide) (by decide) fun T vV K' N qQ => ?_
  obtain ⟨rfl, rfl⟩ := qQ
  refine k_if_ne (pc := 32) N d7_32 (pc' := 38) (by decide) (fun c32 => ?_) (fun c32 => ?_)
  · have q3 := of_if c32
    refine k_aload_n (pc := 38) N d7_38 rfl rfl ?_
    refine k_aload_n (pc := 39) N d7_39 rfl rfl ?_
    refine k_get (pc := 40) (host := "") N 0 0 d7_40 (Or.inl (hw _ (List.mem_of_getElem? (i := 17) rfl))) Via.refl rfl rfl fun T N => ?_
    refine k_iload (pc := 43) N d7_43 rfl ?_
    refine k_iaload (pc := 45) N 1 1 d7_45 rfl (by decide) (by decide) (v := .int (nd (h 1))) rfl ?_
    refine k_iload_n (pc := 46) N d7_46 rfl ?_
    refine k_private (pc := 47) N (y := (⟨"com/example/freshline/freshline/schedule/CandidateQueue", "move", "(II)V"⟩ : MethodName)) (rest := []) [.int (nd (h 1)), .int (3 : Int32)] (a := qa) 0 d7_47 rfl (hw _ (List.mem_of_getElem? (i := 9) rfl)) (hw _ (List.mem_of_getElem? (i := 41) rfl)) (hw _ (List.mem_of_getElem? (i := 42) rfl)) (hw _ (List.mem_of_getElem? (i := 43) rfl)) (hw _ (List.mem_of_getElem? (i := 10) rfl)) (hw _ (List.mem_of_getElem? (i := 44) rfl)) (by decide) pd__II_V rfl (c_move l Z a0 hw qa ah ap ar ax kh kp kr ks sz h p a b (h 1) 3 l1 (by decide) rest) rfl rfl 0 rfl (by decide) (by decide) (cells' := 0) rfl (slots' := 0) rfl (by decide) (by decide) fun T vV K' N qQ => ?_
    obtain ⟨rfl, rfl⟩ := qQ
    have O1 := O0.step (d := 1) (by omega) (by decide)
    have S1 := Same.trans S0 (O0.step_same (d := 1) (by omega) (by decide))
    refine k_iload (pc := 50) N d7_50 rfl ?_
    refine k_istore_n (pc := 52) N d7_52 (Ls' := #[.val (.ref qa), .val (.int (3 : Int32)), .val (.int (nd (h 3))), .val (.int (1 : Int32)), .val (.int (1 : Int32))]) rfl ?_
    refine k_goto (pc := 53) N d7_53 (pc' := 9) (by decide) ?_
    refine k_iload_n (pc := 9) N d7_9 rfl ?_
    refine k_if_le (pc := 10) N d7_10 (pc' := 56) (by decide) (fun qQ => absurd qQ (by decide)) (fun _ => ?_)
    refine k_iload_n (pc := 13) N d7_13 rfl ?_
    refine k_iconst (pc := 14) N d7_14 (v := (1 : Int32)) (by decide) ?_
    refine k_isub (pc := 15) N d7_15 ?_
    rw [show ((1 : Int32) - (1 : Int32)) = (0 : Int32) by decide]
    refine k_iconst (pc := 16) N d7_16 (v := (2 : Int32)) (by decide) ?_
    refine k_idiv (pc := 17) N d7_17 (by decide) ?_
    rw [show ((0 : Int32) / (2 : Int32)) = (0 : Int32) by decide]
    refine k_istore (pc := 18) N d7_18 (Ls' := #[.val (.ref qa), .val (.int (3 : Int32)), .val (.int (nd (h 3))), .val (.int (1 : Int32)), .val (.int (0 : Int32))]) rfl ?_
    refine k_aload_n (pc := 20) N d7_20 rfl rfl ?_
    refine k_iload_n (pc := 21) N d7_21 rfl ?_
    refine k_aload_n (pc := 22) N d7_22 rfl rfl ?_
    refine k_get (pc := 23) (host := "") N 0 0 d7_23 (Or.inl (hw _ (List.mem_of_getElem? (i := 17) rfl))) Via.refl rfl rfl fun T N => ?_
    refine k_iload (pc := 26) N d7_26 rfl ?_
    refine k_iaload (pc := 28) N 1 0 d7_28 rfl (by decide) (by decide) (v := .int (nd (h 0))) rfl ?_
    refine k_private (pc := 29) N (y := (⟨"com/example/freshline/freshline/schedule/CandidateQueue", "precedes", "(II)Z"⟩ : MethodName)) (rest := []) [.int (nd (h 3)), .int (nd (h 0))] (a := qa) 0 d7_29 rfl (hw _ (List.mem_of_getElem? (i := 9) rfl)) (hw _ (List.mem_of_getElem? (i := 49) rfl)) (hw _ (List.mem_of_getElem? (i := 50) rfl)) (hw _ (List.mem_of_getElem? (i := 51) rfl)) (hw _ (List.mem_of_getElem? (i := 10) rfl)) (hw _ (List.mem_of_getElem? (i := 52) rfl)) (by decide) pd__II_Z rfl (c_prec2 l Z a0 hw qa ah ap ar ax kh kp kr ks sz (upd h 3 (h 1)) (upd p (h 1) (nd 3)) a b (h 3) (h 0) l3 l0 rest) rfl rfl 0 rfl (by decide) (by decide) (cells' := 0) rfl (slots' := 0) rfl (by decide) (by decide) fun T vV K' N qQ => ?_
    obtain ⟨rfl, rfl⟩ := qQ
    refine k_if_ne (pc := 32) N d7_32 (pc' := 38) (by decide) (fun c32 => ?_) (fun c32 => ?_)
    · have q1 := of_if c32
      refine k_aload_n (pc := 38) N d7_38 rfl rfl ?_
      refine k_aload_n (pc := 39) N d7_39 rfl rfl ?_
      refine k_get (pc := 40) (host := "") N 0 0 d7_40 (Or.inl (hw _ (List.mem_of_getElem? (i := 17) rfl))) Via.refl rfl rfl fun T N => ?_
      refine k_iload (pc := 43) N d7_43 rfl ?_
      refine k_iaload (pc := 45) N 1 0 d7_45 rfl (by decide) (by decide) (v := .int (nd (h 0))) rfl ?_
      refine k_iload_n (pc := 46) N d7_46 rfl ?_
      refine k_private (pc := 47) N (y := (⟨"com/example/freshline/freshline/schedule/CandidateQueue", "move", "(II)V"⟩ : MethodName)) (rest := []) [.int (nd (h 0)), .int (1 : Int32)] (a := qa) 0 d7_47 rfl (hw _ (List.mem_of_getElem? (i := 9) rfl)) (hw _ (List.mem_of_getElem? (i := 41) rfl)) (hw _ (List.mem_of_getElem? (i := 42) rfl)) (hw _ (List.mem_of_getElem? (i := 43) rfl)) (hw _ (List.mem_of_getElem? (i := 10) rfl)) (hw _ (List.mem_of_getElem? (i := 44) rfl)) (by decide) pd__II_V rfl (c_move l Z a0 hw qa ah ap ar ax kh kp kr ks sz (upd h 3 (h 1)) (upd p (h 1) (nd 3)) a b (h 0) 1 l0 (by decide) rest) rfl rfl 0 rfl (by decide) (by decide) (cells' := 0) rfl (slots' := 0) rfl (by decide) (by decide) fun T vV K' N qQ => ?_
      obtain ⟨rfl, rfl⟩ := qQ
      have O2 := O1.step (d := 0) (by omega) (by decide)
      have S2 := Same.trans S1 (O1.step_same (d := 0) (by omega) (by decide))
      refine k_iload (pc := 50) N d7_50 rfl ?_
      refine k_istore_n (pc := 52) N d7_52 (Ls' := #[.val (.ref qa), .val (.int (3 : Int32)), .val (.int (nd (h 3))), .val (.int (0 : Int32)), .val (.int (0 : Int32))]) rfl ?_
      refine k_goto (pc := 53) N d7_53 (pc' := 9) (by decide) ?_
      refine k_iload_n (pc := 9) N d7_9 rfl ?_
      refine k_if_le (pc := 10) N d7_10 (pc' := 56) (by decide) (fun _ => ?_) (fun qQ => absurd qQ (by decide))
      refine k_aload_n (pc := 56) N d7_56 rfl rfl ?_
      refine k_iload_n (pc := 57) N d7_57 rfl ?_
      refine k_iload_n (pc := 58) N d7_58 rfl ?_
      refine k_private (pc := 59) N (y := (⟨"com/example/freshline/freshline/schedule/CandidateQueue", "move", "(II)V"⟩ : MethodName)) (rest := []) [.int (nd (h 3)), .int (0 : Int32)] (a := qa) 0 d7_59 rfl (hw _ (List.mem_of_getElem? (i := 9) rfl)) (hw _ (List.mem_of_getElem? (i := 41) rfl)) (hw _ (List.mem_of_getElem? (i := 42) rfl)) (hw _ (List.mem_of_getElem? (i := 43) rfl)) (hw _ (List.mem_of_getElem? (i := 10) rfl)) (hw _ (List.mem_of_getElem? (i := 44) rfl)) (by decide) pd__II_V rfl (c_move l Z a0 hw qa ah ap ar ax kh kp kr ks sz (upd (upd h 3 (h 1)) 1 (h 0)) (upd (upd p (h 1) (nd 3)) (h 0) (nd 1)) a b (h 3) 0 l3 (by decide) rest) rfl rfl 0 rfl (by decide) (by decide) (cells' := 0) rfl (slots' := 0) rfl (by decide) (by decide) fun T vV K' N qQ => ?_
      obtain ⟨rfl, rfl⟩ := qQ
      refine k_iload_n (pc := 62) N d7_62 rfl ?_
      refine k_ireturn (pc := 63) N d7_63 rfl (by decide) (by decide) ?_
      refine ⟨(upd (upd (upd h 3 (h 1)) 1 (h 0)) 0 (h 3)), (upd (upd (upd p (h 1) (nd 3)) (h 0) (nd 1)) (h 3) (nd 0)), 0, by omega, rfl, rfl, O2.fill, Okh.all hO hc O2 S2, ?_⟩
      show Hd n 0 (ky a b (h 3)) (ky a b (h 0)) (ky a b (h 2)) (ky a b (h 1))
      unfold HX Hx at hX
      unfold Hd
      omega
    · have q1 := of_ifn c32
      refine k_goto (pc := 35) N d7_35 (pc' := 56) (by decide) ?_
      refine k_aload_n (pc := 56) N d7_56 rfl rfl ?_
      refine k_iload_n (pc := 57) N d7_57 rfl ?_
      refine k_iload_n (pc := 58) N d7_58 rfl ?_
      refine k_private (pc := 59) N (y := (⟨"com/example/freshline/freshline/schedule/CandidateQueue", "move", "(II)V"⟩ : MethodName)) (rest := []) [.int (nd (h 3)), .int (1 : Int32)] (a := qa) 0 d7_59 rfl (hw _ (List.mem_of_getElem? (i := 9) rfl)) (hw _ (List.mem_of_getElem? (i := 41) rfl)) (hw _ (List.mem_of_getElem? (i := 42) rfl)) (hw _ (List.mem_of_getElem? (i := 43) rfl)) (hw _ (List.mem_of_getElem? (i := 10) rfl)) (hw _ (List.mem_of_getElem? (i := 44) rfl)) (by decide) pd__II_V rfl (c_move l Z a0 hw qa ah ap ar ax kh kp kr ks sz (upd h 3 (h 1)) (upd p (h 1) (nd 3)) a b (h 3) 1 l3 (by decide) rest) rfl rfl 0 rfl (by decide) (by decide) (cells' := 0) rfl (slots' := 0) rfl (by decide) (by decide) fun T vV K' N qQ => ?_
      obtain ⟨rfl, rfl⟩ := qQ
      refine k_iload_n (pc := 62) N d7_62 rfl ?_
      refine k_ireturn (pc := 63) N d7_63 rfl (by decide) (by decide) ?_
      refine ⟨(upd (upd h 3 (h 1)) 1 (h 3)), (upd (upd p (h 1) (nd 3)) (h 3) (nd 1)), 1, by omega, rfl, rfl, O1.fill, Okh.all hO hc O1 S1, ?_⟩
      show Hd n 1 (ky a b (h 0)) (ky a b (h 3)) (ky a b (h 2)) (ky a b (h 1))
      unfold HX Hx at hX
      unfold Hd
      omega
  · have q3 := of_ifn c32
    refine k_goto (pc := 35) N d7_35 (pc' := 56) (by decide) ?_
    refine k_aload_n (pc := 56) N d7_56 rfl rfl ?_
    refine k_iload_n (pc := 57) N d7_57 rfl ?_
    refine k_iload_n (pc := 58) N d7_58 rfl ?_
    refine k_private (pc := 59) N (y := (⟨"com/example/freshline/freshline/schedule/CandidateQueue", "move", "(II)V"⟩ : MethodName)) (rest := []) [.int (nd (h 3)), .int (3 : Int32)] (a := qa) 0 d7_59 rfl (hw _ (List.mem_of_getElem? (i := 9) rfl)) (hw _ (List.mem_of_getElem? (i := 41) rfl)) (hw _ (List.mem_of_getElem? (i := 42) rfl)) (hw _ (List.mem_of_getElem? (i := 43) rfl)) (hw _ (List.mem_of_getElem? (i := 10) rfl)) (hw _ (List.mem_of_getElem? (i := 44) rfl)) (by decide) pd__II_V rfl (c_move l Z a0 hw qa ah ap ar ax kh kp kr ks sz h p a b (h 3) 3 l3 (by decide) rest) rfl rfl 0 rfl (by decide) (by decide) (cells' := 0) rfl (slots' := 0) rfl (by decide) (by decide) fun T vV K' N qQ => ?_
    obtain ⟨rfl, rfl⟩ := qQ
    refine k_iload_n (pc := 62) N d7_62 rfl ?_
    refine k_ireturn (pc := 63) N d7_63 rfl (by decide) (by decide) ?_
    refine ⟨(upd h 3 (h 3)), (upd p (h 3) (nd 3)), 3, by omega, rfl, rfl, O0.fill, Okh.all hO hc O0 S0, ?_⟩
    show Hd n 3 (ky a b (h 0)) (ky a b (h 1)) (ky a b (h 2)) (ky a b (h 3))
    unfold HX Hx at hX
    unfold Hd
    omega
set_option maxRecDepth 65536 in
theorem ef_c_down0_1 (m : MethodId) (z0 : Addr) (z1 : Int32) : entryFrame m ([.ref z0, .int z1] : List Value).toArray 5 = mkF m 0 #[.val (.ref z0), .val (.int z1), .unset, .unset, .unset] [] := by first | (simp [entryFrame, mkF, argsToLocals, Value.category]; done) | rfl
def rm_c_down0_1 : Room := { frames := 5, cells := 0, slots := 0, locals := 85 }
set_option maxRecDepth 65536 in
set_option maxHeartbeats 40000000 in
theorem c_down0_1 (l : Launch) (Z : State) (a0 : Array Value) (hw : ∀ d ∈ tables_1, d.before a0 Z = true) (qa ah ap ar ax : Addr) (kh kp kr ks : ClassId) (h : Nat → Nat) (p a b : Nat → Int32) (hO : Ok 1 h p) (hD : HD 1 0 (ky a b) h) (rest : List Ent) :
    OMeets l (⟨"com/example/freshline/freshline/schedule/CandidateQueue", "siftDown", "(I)V"⟩ : MethodName) prog_52_method_9_code 5 none rm_c_down0_1 Z [.ref qa, .int (0 : Int32)] ((oCq Z qa (.ref ah) (.ref ap) (.ref ar) (.ref ax) (.int (1 : Int32))) :: (oArr Z ah kh .int (hA h)) :: (oArr Z ap kp .int (iA p)) :: (oArr Z ar kr .double (rA a)) :: (oArr Z ax ks .double (rA b)) :: rest) (fun v K => ∃ (h' : Nat → Nat) (p' : Nat → Int32), v = none ∧ K = (oCq Z qa (.ref ah) (.ref ap) (.ref ar) (.ref ax) (.int (1 : Int32))) :: (oArr Z ah kh .int (hA h')) :: (oArr Z ap kp .int (iA p')) :: (oArr Z ar kr .double (rA a)) :: (oArr Z ax ks .double (rA b)) :: rest ∧ Ok 1 h' p' ∧ All p p' ∧ HW 1 (ky a b) h') := by
  refine OMeets.of_body (plainFor_of_name pn_com_example_freshline_freshline_schedule_CandidateQueue) #[.val (.ref qa), .val (.int (0 : Int32)), .unset, .unset, .unset] (fun m => ef_c_down0_1 m qa (0 : Int32)) fun pP eE sS mM bB hH cC T N => ?_
  have l0 := (hO.atp 0 (by decide)).1
  refine k_aload_n (pc := 0) N d9_0 rfl rfl ?_
  refine k_get (pc := 1) (host := "") N 0 0 d9_1 (Or.inl (hw _ (List.mem_of_getElem? (i := 17) rfl))) Via.refl rfl rfl fun T N => ?_
  refine k_iload_n (pc := 4) N d9_4 rfl ?_
  refine k_iaload (pc := 5) N 1 0 d9_5 rfl (by decide) (by decide) (v := .int (nd (h 0))) rfl ?_
  refine k_istore_n (pc := 6) N d9_6 (Ls' := #[.val (.ref qa), .val (.int (0 : Int32)), .val (.int (nd (h 0))), .unset, .unset]) rfl ?_
  have O0 := hO.hole (c := 0) (by decide)
  have S0 := Same.refl p (h 0)
  refine k_iload_n (pc := 7) N d9_7 rfl ?_
  refine k_istore_n (pc := 8) N d9_8 (Ls' := #[.val (.ref qa), .val (.int (0 : Int32)), .val (.int (nd (h 0))), .val (.int (0 : Int32)), .unset]) rfl ?_
  refine k_iconst (pc := 9) N d9_9 (v := (2 : Int32)) (by decide) ?_
  refine k_iload_n (pc := 10) N d9_10 rfl ?_
  refine k_imul (pc := 11) N d9_11 ?_
  rw [show ((2 : Int32) * (0 : Int32)) = (0 : Int32) by decide]
  refine k_iconst (pc := 12) N d9_12 (v := (1 : Int32)) (by decide) ?_
  refine k_iadd (pc := 13) N d9_13 ?_
  rw [show ((0 : Int32) + (1 : Int32)) = (1 : Int32) by decide]
  refine k_aload_n (pc := 14) N d9_14 rfl rfl ?_
  refine k_get (pc := 15) (host := "") N 0 4 d9_15 (Or.inl (hw _ (List.mem_of_getElem? (i := 35) rfl))) Via.refl rfl rfl fun T N => ?_
  refine k_icmp_ge (pc := 18) N d9_18 (pc' := 101) (by decide) (fun _ => ?_) (fun qQ => absurd qQ (by decide))
  refine k_aload_n (pc := 101) N d9_101 rfl rfl ?_
  refine k_iload_n (pc := 102) N d9_102 rfl ?_
  refine k_iload_n (pc := 103) N d9_103 rfl ?_
  refine k_private (pc := 104) N (y := (⟨"com/example/freshline/freshline/schedule/CandidateQueue", "move", "(II)V"⟩ : MethodName)) (rest := []) [.int (nd (h 0)), .int (0 : Int32)] (a := qa) 0 d9_104 rfl (hw _ (List.mem_of_getElem? (i := 9) rfl)) (hw _ (List.mem_of_getElem? (i := 41) rfl)) (hw _ (List.mem_of_getElem? (i := 42) rfl)) (hw _ (List.mem_of_getElem? (i := 43) rfl)) (hw _ (List.mem_of_getElem? (i := 10) rfl)) (hw _ (List.mem_of_getElem? (i := 44) rfl)) (by decide) pd__II_V rfl (c_move l Z a0 hw qa ah ap ar ax kh kp kr ks (1 : Int32) h p a b (h 0) 0 l0 (by decide) rest) rfl rfl 0 rfl (by decide) (by decide) (cells' := 0) rfl (slots' := 0) rfl (by decide) (by decide) fun T vV K' N qQ => ?_
  obtain ⟨rfl, rfl⟩ := qQ
  refine k_return (pc := 107) N d9_107 rfl (by decide) (by decide) ?_
  refine ⟨(upd h 0 (h 0)), (upd p (h 0) (nd 0)), rfl, rfl, O0.fill, Okh.all hO (by decide) O0 S0, ?_⟩
  show Hw 1 (ky a b (h 0)) (ky a b (h 1)) (ky a b (h 2)) (ky a b (h 3))
  unfold HD Hd at hD
  unfold Hw
  omega
set_option maxRecDepth 65536 in
theorem ef_c_down0_2 (m : MethodId) (z0 : Addr) (z1 : Int32) : entryFrame m ([.ref z0, .int z1] : List Value).toArray 5 = mkF m 0 #[.val (.ref z0), .val (.int z1), .unset, .unset, .unset] [] := by first | (simp [entryFrame, mkF, argsToLocals, Value.category]; done) | rfl
def rm_c_down0_2 : Room := { frames := 5, cells := 0, slots := 0, locals := 85 }
set_option maxRecDepth 65536 in
set_option maxHeartbeats 40000000 in
theorem c_down0_2 (l : Launch) (Z : State) (a0 : Array Value) (hw : ∀ d ∈ tables_1, d.before a0 Z = true) (qa ah ap ar ax : Addr) (kh kp kr ks : ClassId) (h : Nat → Nat) (p a b : Nat → Int32) (hO : Ok 2 h p) (hD : HD 2 0 (ky a b) h) (rest : List Ent) :
    OMeets l (⟨"com/example/freshline/freshline/schedule/CandidateQueue", "siftDown", "(I)V"⟩ : MethodName) prog_52_method_9_code 5 none rm_c_down0_2 Z [.ref qa, .int (0 : Int32)] ((oCq Z qa (.ref ah) (.ref ap) (.ref ar) (.ref ax) (.int (2 : Int32))) :: (oArr Z ah kh .int (hA h)) :: (oArr Z ap kp .int (iA p)) :: (oArr Z ar kr .double (rA a)) :: (oArr Z ax ks .double (rA b)) :: rest) (fun v K => ∃ (h' : Nat → Nat) (p' : Nat → Int32), v = none ∧ K = (oCq Z qa (.ref ah) (.ref ap) (.ref ar) (.ref ax) (.int (2 : Int32))) :: (oArr Z ah kh .int (hA h')) :: (oArr Z ap kp .int (iA p')) :: (oArr Z ar kr .double (rA a)) :: (oArr Z ax ks .double (rA b)) :: rest ∧ Ok 2 h' p' ∧ All p p' ∧ HW 2 (ky a b) h') := by
  refine OMeets.of_body (plainFor_of_name pn_com_example_freshline_freshline_schedule_CandidateQueue) #[.val (.ref qa), .val (.int (0 : Int32)), .unset, .unset, .unset] (fun m => ef_c_down0_2 m qa (0 : Int32)) fun pP eE sS mM bB hH cC T N => ?_
  have l0 := (hO.atp 0 (by decide)).1
  have l1 := (hO.atp 1 (by decide)).1
  refine k_aload_n (pc := 0) N d9_0 rfl rfl ?_
  refine k_get (pc := 1) (host := "") N 0 0 d9_1 (Or.inl (hw _ (List.mem_of_getElem? (i := 17) rfl))) Via.refl rfl rfl fun T N => ?_
  refine k_iload_n (pc := 4) N d9_4 rfl ?_
  refine k_iaload (pc := 5) N 1 0 d9_5 rfl (by decide) (by decide) (v := .int (nd (h 0))) rfl ?_
  refine k_istore_n (pc := 6) N d9_6 (Ls' := #[.val (.ref qa), .val (.int (0 : Int32)), .val (.int (nd (h 0))), .unset, .unset]) rfl ?_
  have O0 := hO.hole (c := 0) (by decide)
  have S0 := Same.refl p (h 0)
  refine k_iload_n (pc := 7) N d9_7 rfl ?_
  refine k_istore_n (pc := 8) N d9_8 (Ls' := #[.val (.ref qa), .val (.int (0 : Int32)), .val (.int (nd (h 0))), .val (.int (0 : Int32)), .unset]) rfl ?_
  refine k_iconst (pc := 9) N d9_9 (v := (2 : Int32)) (by decide) ?_
  refine k_iload_n (pc := 10) N d9_10 rfl ?_
  refine k_imul (pc := 11) N d9_11 ?_
  rw [show ((2 : Int32) * (0 : Int32)) = (0 : Int32) by decide]
  refine k_iconst (pc := 12) N d9_12 (v := (1 : Int32)) (by decide) ?_
  refine k_iadd (pc := 13) N d9_13 ?_
  rw [show ((0 : Int32) + (1 : Int32)) = (1 : Int32) by decide]
  refine k_aload_n (pc := 14) N d9_14 rfl rfl ?_
  refine k_get (pc := 15) (host := "") N 0 4 d9_15 (Or.inl (hw _ (List.mem_of_getElem? (i := 35) rfl))) Via.refl rfl rfl fun T N => ?_
  refine k_icmp_ge (pc := 18) N d9_18 (pc' := 101) (by decide) (fun qQ => absurd qQ (by decide)) (fun _ => ?_)
  refine k_iconst (pc := 21) N d9_21 (v := (2 : Int32)) (by decide) ?_
  refine k_iload_n (pc := 22) N d9_22 rfl ?_
  refine k_imul (pc := 23) N d9_23 ?_
  rw [show ((2 : Int32) * (0 : Int32)) = (0 : Int32) by decide]
  refine k_iconst (pc := 24) N d9_24 (v := (1 : Int32)) (by decide) ?_
  refine k_iadd (pc := 25) N d9_25 ?_
  rw [show ((0 : Int32) + (1 : Int32)) = (1 : Int32) by decide]
  refine k_istore (pc := 26) N d9_26 (Ls' := #[.val (.ref qa), .val (.int (0 : Int32)), .val (.int (nd (h 0))), .val (.int (0 : Int32)), .val (.int (1 : Int32))]) rfl ?_
  refine k_iload (pc := 28) N d9_28 rfl ?_
  refine k_iconst (pc := 30) N d9_30 (v := (1 : Int32)) (by decide) ?_
  refine k_iadd (pc := 31) N d9_31 ?_
  rw [show ((1 : Int32) + (1 : Int32)) = (2 : Int32) by decide]
  refine k_aload_n (pc := 32) N d9_32 rfl rfl ?_
  refine k_get (pc := 33) (host := "") N 0 4 d9_33 (Or.inl (hw _ (List.mem_of_getElem? (i := 35) rfl))) Via.refl rfl rfl fun T N => ?_
  refine k_icmp_ge (pc := 36) N d9_36 (pc' := 65) (by decide) (fun _ => ?_) (fun qQ => absurd qQ (by decide))
  refine k_aload_n (pc := 65) N d9_65 rfl rfl ?_
  refine k_aload_n (pc := 66) N d9_66 rfl rfl ?_
  refine k_get (pc := 67) (host := "") N 0 0 d9_67 (Or.inl (hw _ (List.mem_of_getElem? (i := 17) rfl))) Via.refl rfl rfl fun T N => ?_
  refine k_iload (pc := 70) N d9_70 rfl ?_
  refine k_iaload (pc := 72) N 1 1 d9_72 rfl (by decide) (by decide) (v := .int (nd (h 1))) rfl ?_
  refine k_iload_n (pc := 73) N d9_73 rfl ?_
  refine k_private (pc := 74) N (y := (⟨"com/example/freshline/freshline/schedule/CandidateQueue", "precedes", "(II)Z"⟩ : MethodName)) (rest := []) [.int (nd (h 1)), .int (nd (h 0))] (a := qa) 0 d9_74 rfl (hw _ (List.mem_of_getElem? (i := 9) rfl)) (hw _ (List.mem_of_getElem? (i := 49) rfl)) (hw _ (List.mem_of_getElem? (i := 50) rfl)) (hw _ (List.mem_of_getElem? (i := 51) rfl)) (hw _ (List.mem_of_getElem? (i := 10) rfl)) (hw _ (List.mem_of_getElem? (i := 52) rfl)) (by decide) pd__II_Z rfl (c_prec2 l Z a0 hw qa ah ap ar ax kh kp kr ks (2 : Int32) h p a b (h 1) (h 0) l1 l0 rest) rfl rfl 0 rfl (by decide) (by decide) (cells' := 0) rfl (slots' := 0) rfl (by decide) (by decide) fun T vV K' N qQ => ?_
  obtain ⟨rfl, rfl⟩ := qQ
  refine k_if_ne (pc := 77) N d9_77 (pc' := 83) (by decide) (fun c77 => ?_) (fun c77 => ?_)
  · have q1 := of_if c77
    refine k_aload_n (pc := 83) N d9_83 rfl rfl ?_
    refine k_aload_n (pc := 84) N d9_84 rfl rfl ?_
    refine k_get (pc := 85) (host := "") N 0 0 d9_85 (Or.inl (hw _ (List.mem_of_getElem? (i := 17) rfl))) Via.refl rfl rfl fun T N => ?_
    refine k_iload (pc := 88) N d9_88 rfl ?_
    refine k_iaload (pc := 90) N 1 1 d9_90 rfl (by decide) (by decide) (v := .int (nd (h 1))) rfl ?_
    refine k_iload_n (pc := 91) N d9_91 rfl ?_
    refine k_private (pc := 92) N (y := (⟨"com/example/freshline/freshline/schedule/CandidateQueue", "move", "(II)V"⟩ : MethodName)) (rest := []) [.int (nd (h 1)), .int (0 : Int32)] (a := qa) 0 d9_92 rfl (hw _ (List.mem_of_getElem? (i := 9) rfl)) (hw _ (List.mem_of_getElem? (i := 41) rfl)) (hw _ (List.mem_of_getElem? (i := 42) rfl)) (hw _ (List.mem_of_getElem? (i := 43) rfl)) (hw _ (List.mem_of_getElem? (i := 10) rfl)) (hw _ (List.mem_of_getElem? (i := 44) rfl)) (by decide) pd__II_V rfl (c_move l Z a0 hw qa ah ap ar ax kh kp kr ks (2 : Int32) h p a b (h 1) 0 l1 (by decide) rest) rfl rfl 0 rfl (by decide) (by decide) (cells' := 0) rfl (slots' := 0) rfl (by decide) (by decide) fun T vV K' N qQ => ?_
    obtain ⟨rfl, rfl⟩ := qQ
    have O1 := O0.step (d := 1) (by omega) (by decide)
    have S1 := Same.trans S0 (O0.step_same (d := 1) (by omega) (by decide))
    refine k_iload (pc := 95) N d9_95 rfl ?_
    refine k_istore_n (pc := 97) N d9_97 (Ls' := #[.val (.ref qa), .val (.int (0 : Int32)), .val (.int (nd (h 0))), .val (.int (1 : Int32)), .val (.int (1 : Int32))]) rfl ?_
    refine k_goto (pc := 98) N d9_98 (pc' := 9) (by decide) ?_
    refine k_iconst (pc := 9) N d9_9 (v := (2 : Int32)) (by decide) ?_
    refine k_iload_n (pc := 10) N d9_10 rfl ?_
    refine k_imul (pc := 11) N d9_11 ?_
    rw [show ((2 : Int32) * (1 : Int32)) = (2 : Int32) by decide]
    refine k_iconst (pc := 12) N d9_12 (v := (1 : Int32)) (by decide) ?_
    refine k_iadd (pc := 13) N d9_13 ?_
    rw [show ((2 : Int32) + (1 : Int32)) = (3 : Int32) by decide]
    refine k_aload_n (pc := 14) N d9_14 rfl rfl ?_
    refine k_get (pc := 15) (host := "") N 0 4 d9_15 (Or.inl (hw _ (List.mem_of_getElem? (i := 35) rfl))) Via.refl rfl rfl fun T N => ?_
    refine k_icmp_ge (pc := 18) N d9_18 (pc' := 101) (by decide) (fun _ => ?_) (fun qQ => absurd qQ (by decide))
    refine k_aload_n (pc := 101) N d9_101 rfl rfl ?_
    refine k_iload_n (pc := 102) N d9_102 rfl ?_
    refine k_iload_n (pc := 103) N d9_103 rfl ?_
    refine k_private (pc := 104) N (y := (⟨"com/example/freshline/freshline/schedule/CandidateQueue", "move", "(II)V"⟩ : MethodName)) (rest := []) [.int (nd (h 0)), .int (1 : Int32)] (a := qa) 0 d9_104 rfl (hw _ (List.mem_of_getElem? (i := 9) rfl)) (hw _ (List.mem_of_getElem? (i := 41) rfl)) (hw _ (List.mem_of_getElem? (i := 42) rfl)) (hw _ (List.mem_of_getElem? (i := 43) rfl)) (hw _ (List.mem_of_getElem? (i := 10) rfl)) (hw _ (List.mem_of_getElem? (i := 44) rfl)) (by decide) pd__II_V rfl (c_move l Z a0 hw qa ah ap ar ax kh kp kr ks (2 : Int32) (upd h 0 (h 1)) (upd p (h 1) (nd 0)) a b (h 0) 1 l0 (by decide) rest) rfl rfl 0 rfl (by decide) (by decide) (cells' := 0) rfl (slots' := 0) rfl (by decide) (by decide) fun T vV K' N qQ => ?_
    obtain ⟨rfl, rfl⟩ := qQ
    refine k_return (pc := 107) N d9_107 rfl (by decide) (by decide) ?_
    refine ⟨(upd (upd h 0 (h 1)) 1 (h 0)), (upd (upd p (h 1) (nd 0)) (h 0) (nd 1)), rfl, rfl, O1.fill, Okh.all hO (by decide) O1 S1, ?_⟩
    show Hw 2 (ky a b (h 1)) (ky a b (h 0)) (ky a b (h 2)) (ky a b (h 3))
    unfold HD Hd at hD
    unfold Hw
    omega
  · have q1 := of_ifn c77
    refine k_goto (pc := 80) N d9_80 (pc' := 101) (by decide) ?_
    refine k_aload_n (pc := 101) N d9_101 rfl rfl ?_
    refine k_iload_n (pc := 102) N d9_102 rfl ?_
    refine k_iload_n (pc := 103) N d9_103 rfl ?_
    refine k_private (pc := 104) N (y := (⟨"com/example/freshline/freshline/schedule/CandidateQueue", "move", "(II)V"⟩ : MethodName)) (rest := []) [.int (nd (h 0)), .int (0 : Int32)] (a := qa) 0 d9_104 rfl (hw _ (List.mem_of_getElem? (i := 9) rfl)) (hw _ (List.mem_of_getElem? (i := 41) rfl)) (hw _ (List.mem_of_getElem? (i := 42) rfl)) (hw _ (List.mem_of_getElem? (i := 43) rfl)) (hw _ (List.mem_of_getElem? (i := 10) rfl)) (hw _ (List.mem_of_getElem? (i := 44) rfl)) (by decide) pd__II_V rfl (c_move l Z a0 hw qa ah ap ar ax kh kp kr ks (2 : Int32) h p a b (h 0) 0 l0 (by decide) rest) rfl rfl 0 rfl (by decide) (by decide) (cells' := 0) rfl (slots' := 0) rfl (by decide) (by decide) fun T vV K' N qQ => ?_
    obtain ⟨rfl, rfl⟩ := qQ
    refine k_return (pc := 107) N d9_107 rfl (by decide) (by decide) ?_
    refine ⟨(upd h 0 (h 0)), (upd p (h 0) (nd 0)), rfl, rfl, O0.fill, Okh.all hO (by decide) O0 S0, ?_⟩
    show Hw 2 (ky a b (h 0)) (ky a b (h 1)) (ky a b (h 2)) (ky a b (h 3))
    unfold HD Hd at hD
    unfold Hw
    omega
set_option maxRecDepth 65536 in
theorem ef_c_down1_2 (m : MethodId) (z0 : Addr) (z1 : Int32) : entryFrame m ([.ref z0, .int z1] : List Value).toArray 5 = mkF m 0 #[.val (.ref z0), .val (.int z1), .unset, .unset, .unset] [] := by first | (simp [entryFrame, mkF, argsToLocals, Value.category]; done) | rfl
def rm_c_down1_2 : Room := { frames := 5, cells := 0, slots := 0, locals := 85 }
set_option maxRecDepth 65536 in
set_option maxHeartbeats 40000000 in
theorem c_down1_2 (l : Launch) (Z : State) (a0 : Array Value) (hw : ∀ d ∈ tables_1, d.before a0 Z = true) (qa ah ap ar ax : Addr) (kh kp kr ks : ClassId) (h : Nat → Nat) (p a b : Nat → Int32) (hO : Ok 2 h p) (hD : HD 2 1 (ky a b) h) (rest : List Ent) :
    OMeets l (⟨"com/example/freshline/freshline/schedule/CandidateQueue", "siftDown", "(I)V"⟩ : MethodName) prog_52_method_9_code 5 none rm_c_down1_2 Z [.ref qa, .int (1 : Int32)] ((oCq Z qa (.ref ah) (.ref ap) (.ref ar) (.ref ax) (.int (2 : Int32))) :: (oArr Z ah kh .int (hA h)) :: (oArr Z ap kp .int (iA p)) :: (oArr Z ar kr .double (rA a)) :: (oArr Z ax ks .double (rA b)) :: rest) (fun v K => ∃ (h' : Nat → Nat) (p' : Nat → Int32), v = none ∧ K = (oCq Z qa (.ref ah) (.ref ap) (.ref ar) (.ref ax) (.int (2 : Int32))) :: (oArr Z ah kh .int (hA h')) :: (oArr Z ap kp .int (iA p')) :: (oArr Z ar kr .double (rA a)) :: (oArr Z ax ks .double (rA b)) :: rest ∧ Ok 2 h' p' ∧ All p p' ∧ HW 2 (ky a b) h') := by
  refine OMeets.of_body (plainFor_of_name pn_com_example_freshline_freshline_schedule_CandidateQueue) #[.val (.ref qa), .val (.int (1 : Int32)), .unset, .unset, .unset] (fun m => ef_c_down1_2 m qa (1 : Int32)) fun pP eE sS mM bB hH cC T N => ?_
  have l0 := (hO.atp 0 (by decide)).1
  have l1 := (hO.atp 1 (by decide)).1
  refine k_aload_n (pc := 0) N d9_0 rfl rfl ?_
  refine k_get (pc := 1) (host := "") N 0 0 d9_1 (Or.inl (hw _ (List.mem_of_getElem? (i := 17) rfl))) Via.refl rfl rfl fun T N => ?_
  refine k_iload_n (pc := 4) N d9_4 rfl ?_
  refine k_iaload (pc := 5) N 1 1 d9_5 rfl (by decide) (by decide) (v := .int (nd (h 1))) rfl ?_
  refine k_istore_n (pc := 6) N d9_6 (Ls' := #[.val (.ref qa), .val (.int (1 : Int32)), .val (.int (nd (h 1))), .unset, .unset]) rfl ?_
  have O0 := hO.hole (c := 1) (by decide)
  have S0 := Same.refl p (h 1)
  refine k_iload_n (pc := 7) N d9_7 rfl ?_
  refine k_istore_n (pc := 8) N d9_8 (Ls' := #[.val (.ref qa), .val (.int (1 : Int32)), .val (.int (nd (h 1))), .val (.int (1 : Int32)), .unset]) rfl ?_
  refine k_iconst (pc := 9) N d9_9 (v := (2 : Int32)) (by decide) ?_
  refine k_iload_n (pc := 10) N d9_10 rfl ?_
  refine k_imul (pc := 11) N d9_11 ?_
  rw [show ((2 : Int32) * (1 : Int32)) = (2 : Int32) by decide]
  refine k_iconst (pc := 12) N d9_12 (v := (1 : Int32)) (by decide) ?_
  refine k_iadd (pc := 13) N d9_13 ?_
  rw [show ((2 : Int32) + (1 : Int32)) = (3 : Int32) by decide]
  refine k_aload_n (pc := 14) N d9_14 rfl rfl ?_
  refine k_get (pc := 15) (host := "") N 0 4 d9_15 (Or.inl (hw _ (List.mem_of_getElem? (i := 35) rfl))) Via.refl rfl rfl fun T N => ?_
  refine k_icmp_ge (pc := 18) N d9_18 (pc' := 101) (by decide) (fun _ => ?_) (fun qQ => absurd qQ (by decide))
  refine k_aload_n (pc := 101) N d9_101 rfl rfl ?_
  refine k_iload_n (pc := 102) N d9_102 rfl ?_
  refine k_iload_n (pc := 103) N d9_103 rfl ?_
  refine k_private (pc := 104) N (y := (⟨"com/example/freshline/freshline/schedule/CandidateQueue", "move", "(II)V"⟩ : MethodName)) (rest := []) [.int (nd (h 1)), .int (1 : Int32)] (a := qa) 0 d9_104 rfl (hw _ (List.mem_of_getElem? (i := 9) rfl)) (hw _ (List.mem_of_getElem? (i := 41) rfl)) (hw _ (List.mem_of_getElem? (i := 42) rfl)) (hw _ (List.mem_of_getElem? (i := 43) rfl)) (hw _ (List.mem_of_getElem? (i := 10) rfl)) (hw _ (List.mem_of_getElem? (i := 44) rfl)) (by decide) pd__II_V rfl (c_move l Z a0 hw qa ah ap ar ax kh kp kr ks (2 : Int32) h p a b (h 1) 1 l1 (by decide) rest) rfl rfl 0 rfl (by decide) (by decide) (cells' := 0) rfl (slots' := 0) rfl (by decide) (by decide) fun T vV K' N qQ => ?_
  obtain ⟨rfl, rfl⟩ := qQ
  refine k_return (pc := 107) N d9_107 rfl (by decide) (by decide) ?_
  refine ⟨(upd h 1 (h 1)), (upd p (h 1) (nd 1)), rfl, rfl, O0.fill, Okh.all hO (by decide) O0 S0, ?_⟩
  show Hw 2 (ky a b (h 0)) (ky a b (h 1)) (ky a b (h 2)) (ky a b (h 3))
  unfold HD Hd at hD
  unfold Hw
  omega
set_option maxRecDepth 65536 in
theorem ef_c_down0_3 (m : MethodId) (z0 : Addr) (z1 : Int32) : entryFrame m ([.ref z0, .int z1] : List Value).toArray 5 = mkF m 0 #[.val (.ref z0), .val (.int z1), .unset, .unset, .unset] [] := by first | (simp [entryFrame, mkF, argsToLocals, Value.category]; done) | rfl
def rm_c_down0_3 : Room := { frames := 5, cells := 0, slots := 0, locals := 85 }
set_option maxRecDepth 65536 in
set_option maxHeartbeats 40000000 in
theorem c_down0_3 (l : Launch) (Z : State) (a0 : Array Value) (hw : ∀ d ∈ tables_1, d.before a0 Z = true) (qa ah ap ar ax : Addr) (kh kp kr ks : ClassId) (h : Nat → Nat) (p a b : Nat → Int32) (hO : Ok 3 h p) (hD : HD 3 0 (ky a b) h) (rest : List Ent) :
    OMeets l (⟨"com/example/freshline/freshline/schedule/CandidateQueue", "siftDown", "(I)V"⟩ : MethodName) prog_52_method_9_code 5 none rm_c_down0_3 Z [.ref qa, .int (0 : Int32)] ((oCq Z qa (.ref ah) (.ref ap) (.ref ar) (.ref ax) (.int (3 : Int32))) :: (oArr Z ah kh .int (hA h)) :: (oArr Z ap kp .int (iA p)) :: (oArr Z ar kr .double (rA a)) :: (oArr Z ax ks .double (rA b)) :: rest) (fun v K => ∃ (h' : Nat → Nat) (p' : Nat → Int32), v = none ∧ K = (oCq Z qa (.ref ah) (.ref ap) (.ref ar) (.ref ax) (.int (3 : Int32))) :: (oArr Z ah kh .int (hA h')) :: (oArr Z ap kp .int (iA p')) :: (oArr Z ar kr .double (rA a)) :: (oArr Z ax ks .double (rA b)) :: rest ∧ Ok 3 h' p' ∧ All p p' ∧ HW 3 (ky a b) h') := by
  refine OMeets.of_body (plainFor_of_name pn_com_example_freshline_freshline_schedule_CandidateQueue) #[.val (.ref qa), .val (.int (0 : Int32)), .unset, .unset, .unset] (fun m => ef_c_down0_3 m qa (0 : Int32)) fun pP eE sS mM bB hH cC T N => ?_
  have l0 := (hO.atp 0 (by decide)).1
  have l1 := (hO.atp 1 (by decide)).1
  have l2 := (hO.atp 2 (by decide)).1
  refine k_aload_n (pc := 0) N d9_0 rfl rfl ?_
  refine k_get (pc := 1) (host := "") N 0 0 d9_1 (Or.inl (hw _ (List.mem_of_getElem? (i := 17) rfl))) Via.refl rfl rfl fun T N => ?_
  refine k_iload_n (pc := 4) N d9_4 rfl ?_
  refine k_iaload (pc := 5) N 1 0 d9_5 rfl (by decide) (by decide) (v := .int (nd (h 0))) rfl ?_
  refine k_istore_n (pc := 6) N d9_6 (Ls' := #[.val (.ref qa), .val (.int (0 : Int32)), .val (.int (nd (h 0))), .unset, .unset]) rfl ?_
  have O0 := hO.hole (c := 0) (by decide)
  have S0 := Same.refl p (h 0)
  refine k_iload_n (pc := 7) N d9_7 rfl ?_
  refine k_istore_n (pc := 8) N d9_8 (Ls' := #[.val (.ref qa), .val (.int (0 : Int32)), .val (.int (nd (h 0))), .val (.int (0 : Int32)), .unset]) rfl ?_
  refine k_iconst (pc := 9) N d9_9 (v := (2 : Int32)) (by decide) ?_
  refine k_iload_n (pc := 10) N d9_10 rfl ?_
  refine k_imul (pc := 11) N d9_11 ?_
  rw [show ((2 : Int32) * (0 : Int32)) = (0 : Int32) by decide]
  refine k_iconst (pc := 12) N d9_12 (v := (1 : Int32)) (by decide) ?_
  refine k_iadd (pc := 13) N d9_13 ?_
  rw [show ((0 : Int32) + (1 : Int32)) = (1 : Int32) by decide]
  refine k_aload_n (pc := 14) N d9_14 rfl rfl ?_
  refine k_get (pc := 15) (host := "") N 0 4 d9_15 (Or.inl (hw _ (List.mem_of_getElem? (i := 35) rfl))) Via.refl rfl rfl fun T N => ?_
  refine k_icmp_ge (pc := 18) N d9_18 (pc' := 101) (by decide) (fun qQ => absurd qQ (by decide)) (fun _ => ?_)
  refine k_iconst (pc := 21) N d9_21 (v := (2 : Int32)) (by decide) ?_
  refine k_iload_n (pc := 22) N d9_22 rfl ?_
  refine k_imul (pc := 23) N d9_23 ?_
  rw [show ((2 : Int32) * (0 : Int32)) = (0 : Int32) by decide]
  refine k_iconst (pc := 24) N d9_24 (v := (1 : Int32)) (by decide) ?_
  refine k_iadd (pc := 25) N d9_25 ?_
  rw [show ((0 : Int32) + (1 : Int32)) = (1 : Int32) by decide]
  refine k_istore (pc := 26) N d9_26 (Ls' := #[.val (.ref qa), .val (.int (0 : Int32)), .val (.int (nd (h 0))), .val (.int (0 : Int32)), .val (.int (1 : Int32))]) rfl ?_
  refine k_iload (pc := 28) N d9_28 rfl ?_
  refine k_iconst (pc := 30) N d9_30 (v := (1 : Int32)) (by decide) ?_
  refine k_iadd (pc := 31) N d9_31 ?_
  rw [show ((1 : Int32) + (1 : Int32)) = (2 : Int32) by decide]
  refine k_aload_n (pc := 32) N d9_32 rfl rfl ?_
  refine k_get (pc := 33) (host := "") N 0 4 d9_33 (Or.inl (hw _ (List.mem_of_getElem? (i := 35) rfl))) Via.refl rfl rfl fun T N => ?_
  refine k_icmp_ge (pc := 36) N d9_36 (pc' := 65) (by decide) (fun qQ => absurd qQ (by decide)) (fun _ => ?_)
  refine k_aload_n (pc := 39) N d9_39 rfl rfl ?_
  refine k_aload_n (pc := 40) N d9_40 rfl rfl ?_
  refine k_get (pc := 41) (host := "") N 0 0 d9_41 (Or.inl (hw _ (List.mem_of_getElem? (i := 17) rfl))) Via.refl rfl rfl fun T N => ?_
  refine k_iload (pc := 44) N d9_44 rfl ?_
  refine k_iconst (pc := 46) N d9_46 (v := (1 : Int32)) (by decide) ?_
  refine k_iadd (pc := 47) N d9_47 ?_
  rw [show ((1 : Int32) + (1 : Int32)) = (2 : Int32) by decide]
  refine k_iaload (pc := 48) N 1 2 d9_48 rfl (by decide) (by decide) (v := .int (nd (h 2))) rfl ?_
  refine k_aload_n (pc := 49) N d9_49 rfl rfl ?_
  refine k_get (pc := 50) (host := "") N 0 0 d9_50 (Or.inl (hw _ (List.mem_of_getElem? (i := 17) rfl))) Via.refl rfl rfl fun T N => ?_
  refine k_iload (pc := 53) N d9_53 rfl ?_
  refine k_iaload (pc := 55) N 1 1 d9_55 rfl (by decide) (by decide) (v := .int (nd (h 1))) rfl ?_
  refine k_private (pc := 56) N (y := (⟨"com/example/freshline/freshline/schedule/CandidateQueue", "precedes", "(II)Z"⟩ : MethodName)) (rest := []) [.int (nd (h 2)), .int (nd (h 1))] (a := qa) 0 d9_56 rfl (hw _ (List.mem_of_getElem? (i := 9) rfl)) (hw _ (List.mem_of_getElem? (i := 49) rfl)) (hw _ (List.mem_of_getElem? (i := 50) rfl)) (hw _ (List.mem_of_getElem? (i := 51) rfl)) (hw _ (List.mem_of_getElem? (i := 10) rfl)) (hw _ (List.mem_of_getElem? (i := 52) rfl)) (by decide) pd__II_Z rfl (c_prec2 l Z a0 hw qa ah ap ar ax kh kp kr ks (3 : Int32) h p a b (h 2) (h 1) l2 l1 rest) rfl rfl 0 rfl (by decide) (by decide) (cells' := 0) rfl (slots' := 0) rfl (by decide) (by decide) fun T vV K' N qQ => ?_
  obtain ⟨rfl, rfl⟩ := qQ
  refine k_if_eq (pc := 59) N d9_59 (pc' := 65) (by decide) (fun c59 => ?_) (fun c59 => ?_)
  · have r1 := of_ifn c59
    refine k_aload_n (pc := 65) N d9_65 rfl rfl ?_
    refine k_aload_n (pc := 66) N d9_66 rfl rfl ?_
    refine k_get (pc := 67) (host := "") N 0 0 d9_67 (Or.inl (hw _ (List.mem_of_getElem? (i := 17) rfl))) Via.refl rfl rfl fun T N => ?_
    refine k_iload (pc := 70) N d9_70 rfl ?_
    refine k_iaload (pc := 72) N 1 1 d9_72 rfl (by decide) (by decide) (v := .int (nd (h 1))) rfl ?_
    refine k_iload_n (pc := 73) N d9_73 rfl ?_
    refine k_private (pc := 74) N (y := (⟨"com/example/freshline/freshline/schedule/CandidateQueue", "precedes", "(II)Z"⟩ : MethodName)) (rest := []) [.int (nd (h 1)), .int (nd (h 0))] (a := qa) 0 d9_74 rfl (hw _ (List.mem_of_getElem? (i := 9) rfl)) (hw _ (List.mem_of_getElem? (i := 49) rfl)) (hw _ (List.mem_of_getElem? (i := 50) rfl)) (hw _ (List.mem_of_getElem? (i := 51) rfl)) (hw _ (List.mem_of_getElem? (i := 10) rfl)) (hw _ (List.mem_of_getElem? (i := 52) rfl)) (by decide) pd__II_Z rfl (c_prec2 l Z a0 hw qa ah ap ar ax kh kp kr ks (3 : Int32) h p a b (h 1) (h 0) l1 l0 rest) rfl rfl 0 rfl (by decide) (by decide) (cells' := 0) rfl (slots' := 0) rfl (by decide) (by decide) fun T vV K' N qQ => ?_
    obtain ⟨rfl, rfl⟩ := qQ
    refine k_if_ne (pc := 77) N d9_77 (pc' := 83) (by decide) (fun c77 => ?_) (fun c77 => ?_)
    · have q1 := of_if c77
      refine k_aload_n (pc := 83) N d9_83 rfl rfl ?_
      refine k_aload_n (pc := 84) N d9_84 rfl rfl ?_
      refine k_get (pc := 85) (host := "") N 0 0 d9_85 (Or.inl (hw _ (List.mem_of_getElem? (i := 17) rfl))) Via.refl rfl rfl fun T N => ?_
      refine k_iload (pc := 88) N d9_88 rfl ?_
      refine k_iaload (pc := 90) N 1 1 d9_90 rfl (by decide) (by decide) (v := .int (nd (h 1))) rfl ?_
      refine k_iload_n (pc := 91) N d9_91 rfl ?_
      refine k_private (pc := 92) N (y := (⟨"com/example/freshline/freshline/schedule/CandidateQueue", "move", "(II)V"⟩ : MethodName)) (rest := []) [.int (nd (h 1)), .int (0 : Int32)] (a := qa) 0 d9_92 rfl (hw _ (List.mem_of_getElem? (i := 9) rfl)) (hw _ (List.mem_of_getElem? (i := 41) rfl)) (hw _ (List.mem_of_getElem? (i := 42) rfl)) (hw _ (List.mem_of_getElem? (i := 43) rfl)) (hw _ (List.mem_of_getElem? (i := 10) rfl)) (hw _ (List.mem_of_getElem? (i := 44) rfl)) (by decide) pd__II_V rfl (c_move l Z a0 hw qa ah ap ar ax kh kp kr ks (3 : Int32) h p a b (h 1) 0 l1 (by decide) rest) rfl rfl 0 rfl (by decide) (by decide) (cells' := 0) rfl (slots' := 0) rfl (by decide) (by decide) fun T vV K' N qQ => ?_
      obtain ⟨rfl, rfl⟩ := qQ
      have O1 := O0.step (d := 1) (by omega) (by decide)
      have S1 := Same.trans S0 (O0.step_same (d := 1) (by omega) (by decide))
      refine k_iload (pc := 95) N d9_95 rfl ?_
      refine k_istore_n (pc := 97) N d9_97 (Ls' := #[.val (.ref qa), .val (.int (0 : Int32)), .val (.int (nd (h 0))), .val (.int (1 : Int32)), .val (.int (1 : Int32))]) rfl ?_
      refine k_goto (pc := 98) N d9_98 (pc' := 9) (by decide) ?_
      refine k_iconst (pc := 9) N d9_9 (v := (2 : Int32)) (by decide) ?_
      refine k_iload_n (pc := 10) N d9_10 rfl ?_
      refine k_imul (pc := 11) N d9_11 ?_
      rw [show ((2 : Int32) * (1 : Int32)) = (2 : Int32) by decide]
      refine k_iconst (pc := 12) N d9_12 (v := (1 : Int32)) (by decide) ?_
      refine k_iadd (pc := 13) N d9_13 ?_
      rw [show ((2 : Int32) + (1 : Int32)) = (3 : Int32) by decide]
      refine k_aload_n (pc := 14) N d9_14 rfl rfl ?_
      refine k_get (pc := 15) (host := "") N 0 4 d9_15 (Or.inl (hw _ (List.mem_of_getElem? (i := 35) rfl))) Via.refl rfl rfl fun T N => ?_
      refine k_icmp_ge (pc := 18) N d9_18 (pc' := 101) (by decide) (fun _ => ?_) (fun qQ => absurd qQ (by decide))
      refine k_aload_n (pc := 101) N d9_101 rfl rfl ?_
      refine k_iload_n (pc := 102) N d9_102 rfl ?_
      refine k_iload_n (pc := 103) N d9_103 rfl ?_
      refine k_private (pc := 104) N (y := (⟨"com/example/freshline/freshline/schedule/CandidateQueue", "move", "(II)V"⟩ : MethodName)) (rest := []) [.int (nd (h 0)), .int (1 : Int32)] (a := qa) 0 d9_104 rfl (hw _ (List.mem_of_getElem? (i := 9) rfl)) (hw _ (List.mem_of_getElem? (i := 41) rfl)) (hw _ (List.mem_of_getElem? (i := 42) rfl)) (hw _ (List.mem_of_getElem? (i := 43) rfl)) (hw _ (List.mem_of_getElem? (i := 10) rfl)) (hw _ (List.mem_of_getElem? (i := 44) rfl)) (by decide) pd__II_V rfl (c_move l Z a0 hw qa ah ap ar ax kh kp kr ks (3 : Int32) (upd h 0 (h 1)) (upd p (h 1) (nd 0)) a b (h 0) 1 l0 (by decide) rest) rfl rfl 0 rfl (by decide) (by decide) (cells' := 0) rfl (slots' := 0) rfl (by decide) (by decide) fun T vV K' N qQ => ?_
      obtain ⟨rfl, rfl⟩ := qQ
      refine k_return (pc := 107) N d9_107 rfl (by decide) (by decide) ?_
      refine ⟨(upd (upd h 0 (h 1)) 1 (h 0)), (upd (upd p (h 1) (nd 0)) (h 0) (nd 1)), rfl, rfl, O1.fill, Okh.all hO (by decide) O1 S1, ?_⟩
      show Hw 3 (ky a b (h 1)) (ky a b (h 0)) (ky a b (h 2)) (ky a b (h 3))
      unfold HD Hd at hD
      unfold Hw
      omega
    · have q1 := of_ifn c77
      refine k_goto (pc := 80) N d9_80 (pc' := 101) (by decide) ?_
      refine k_aload_n (pc := 101) N d9_101 rfl rfl ?_
      refine k_iload_n (pc := 102) N d9_102 rfl ?_
      refine k_iload_n (pc := 103) N d9_103 rfl ?_
      refine k_private (pc := 104) N (y := (⟨"com/example/freshline/freshline/schedule/CandidateQueue", "move", "(II)V"⟩ : MethodName)) (rest := []) [.int (nd (h 0)), .int (0 : Int32)] (a := qa) 0 d9_104 rfl (hw _ (List.mem_of_getElem? (i := 9) rfl)) (hw _ (List.mem_of_getElem? (i := 41) rfl)) (hw _ (List.mem_of_getElem? (i := 42) rfl)) (hw _ (List.mem_of_getElem? (i := 43) rfl)) (hw _ (List.mem_of_getElem? (i := 10) rfl)) (hw _ (List.mem_of_getElem? (i := 44) rfl)) (by decide) pd__II_V rfl (c_move l Z a0 hw qa ah ap ar ax kh kp kr ks (3 : Int32) h p a b (h 0) 0 l0 (by decide) rest) rfl rfl 0 rfl (by decide) (by decide) (cells' := 0) rfl (slots' := 0) rfl (by decide) (by decide) fun T vV K' N qQ => ?_
      obtain ⟨rfl, rfl⟩ := qQ
      refine k_return (pc := 107) N d9_107 rfl (by decide) (by decide) ?_
      refine ⟨(upd h 0 (h 0)), (upd p (h 0) (nd 0)), rfl, rfl, O0.fill, Okh.all hO (by decide) O0 S0, ?_⟩
      show Hw 3 (ky a b (h 0)) (ky a b (h 1)) (ky a b (h 2)) (ky a b (h 3))
      unfold HD Hd at hD
      unfold Hw
      omega
  · have r1 := of_if c59
    refine k_iinc (pc := 62) N d9_62 rfl (v := (2 : Int32)) (by decide) (Ls' := #[.val (.ref qa), .val (.int (0 : Int32)), .val (.int (nd (h 0))), .val (.int (0 : Int32)), .val (.int (2 : Int32))]) rfl ?_
    refine k_aload_n (pc := 65) N d9_65 rfl rfl ?_
    refine k_aload_n (pc := 66) N d9_66 rfl rfl ?_
    refine k_get (pc := 67) (host := "") N 0 0 d9_67 (Or.inl (hw _ (List.mem_of_getElem? (i := 17) rfl))) Via.refl rfl rfl fun T N => ?_
    refine k_iload (pc := 70) N d9_70 rfl ?_
    refine k_iaload (pc := 72) N 1 2 d9_72 rfl (by decide) (by decide) (v := .int (nd (h 2))) rfl ?_
    refine k_iload_n (pc := 73) N d9_73 rfl ?_
    refine k_private (pc := 74) N (y := (⟨"com/example/freshline/freshline/schedule/CandidateQueue", "precedes", "(II)Z"⟩ : MethodName)) (rest := []) [.int (nd (h 2)), .int (nd (h 0))] (a := qa) 0 d9_74 rfl (hw _ (List.mem_of_getElem? (i := 9) rfl)) (hw _ (List.mem_of_getElem? (i := 49) rfl)) (hw _ (List.mem_of_getElem? (i := 50) rfl)) (hw _ (List.mem_of_getElem? (i := 51) rfl)) (hw _ (List.mem_of_getElem? (i := 10) rfl)) (hw _ (List.mem_of_getElem? (i := 52) rfl)) (by decide) pd__II_Z rfl (c_prec2 l Z a0 hw qa ah ap ar ax kh kp kr ks (3 : Int32) h p a b (h 2) (h 0) l2 l0 rest) rfl rfl 0 rfl (by decide) (by decide) (cells' := 0) rfl (slots' := 0) rfl (by decide) (by decide) fun T vV K' N qQ => ?_
    obtain ⟨rfl, rfl⟩ := qQ
    refine k_if_ne (pc := 77) N d9_77 (pc' := 83) (by decide) (fun c77 => ?_) (fun c77 => ?_)
    · have q2 := of_if c77
      refine k_aload_n (pc := 83) N d9_83 rfl rfl ?_
      refine k_aload_n (pc := 84) N d9_84 rfl rfl ?_
      refine k_get (pc := 85) (host := "") N 0 0 d9_85 (Or.inl (hw _ (List.mem_of_getElem? (i := 17) rfl))) Via.refl rfl rfl fun T N => ?_
      refine k_iload (pc := 88) N d9_88 rfl ?_
      refine k_iaload (pc := 90) N 1 2 d9_90 rfl (by decide) (by decide) (v := .int (nd (h 2))) rfl ?_
      refine k_iload_n (pc := 91) N d9_91 rfl ?_
      refine k_private (pc := 92) N (y := (⟨"com/example/freshline/freshline/schedule/CandidateQueue", "move", "(II)V"⟩ : MethodName)) (rest := []) [.int (nd (h 2)), .int (0 : Int32)] (a := qa) 0 d9_92 rfl (hw _ (List.mem_of_getElem? (i := 9) rfl)) (hw _ (List.mem_of_getElem? (i := 41) rfl)) (hw _ (List.mem_of_getElem? (i := 42) rfl)) (hw _ (List.mem_of_getElem? (i := 43) rfl)) (hw _ (List.mem_of_getElem? (i := 10) rfl)) (hw _ (List.mem_of_getElem? (i := 44) rfl)) (by decide) pd__II_V rfl (c_move l Z a0 hw qa ah ap ar ax kh kp kr ks (3 : Int32) h p a b (h 2) 0 l2 (by decide) rest) rfl rfl 0 rfl (by decide) (by decide) (cells' := 0) rfl (slots' := 0) rfl (by decide) (by decide) fun T vV K' N qQ => ?_
      obtain ⟨rfl, rfl⟩ := qQ
      have O1 := O0.step (d := 2) (by omega) (by decide)
      have S1 := Same.trans S0 (O0.step_same (d := 2) (by omega) (by decide))
      refine k_iload (pc := 95) N d9_95 rfl ?_
      refine k_istore_n (pc := 97) N d9_97 (Ls' := #[.val (.ref qa), .val (.int (0 : Int32)), .val (.int (nd (h 0))), .val (.int (2 : Int32)), .val (.int (2 : Int32))]) rfl ?_
      refine k_goto (pc := 98) N d9_98 (pc' := 9) (by decide) ?_
      refine k_iconst (pc := 9) N d9_9 (v := (2 : Int32)) (by decide) ?_
      refine k_iload_n (pc := 10) N d9_10 rfl ?_
      refine k_imul (pc := 11) N d9_11 ?_
      rw [show ((2 : Int32) * (2 : Int32)) = (4 : Int32) by decide]
      refine k_iconst (pc := 12) N d9_12 (v := (1 : Int32)) (by decide) ?_
      refine k_iadd (pc := 13) N d9_13 ?_
      rw [show ((4 : Int32) + (1 : Int32)) = (5 : Int32) by decide]
      refine k_aload_n (pc := 14) N d9_14 rfl rfl ?_
      refine k_get (pc := 15) (host := "") N 0 4 d9_15 (Or.inl (hw _ (List.mem_of_getElem? (i := 35) rfl))) Via.refl rfl rfl fun T N => ?_
      refine k_icmp_ge (pc := 18) N d9_18 (pc' := 101) (by decide) (fun _ => ?_) (fun qQ => absurd qQ (by decide))
      refine k_aload_n (pc := 101) N d9_101 rfl rfl ?_
      refine k_iload_n (pc := 102) N d9_102 rfl ?_
      refine k_iload_n (pc := 103) N d9_103 rfl ?_
      refine k_private (pc := 104) N (y := (⟨"com/example/freshline/freshline/schedule/CandidateQueue", "move", "(II)V"⟩ : MethodName)) (rest := []) [.int (nd (h 0)), .int (2 : Int32)] (a := qa) 0 d9_104 rfl (hw _ (List.mem_of_getElem? (i := 9) rfl)) (hw _ (List.mem_of_getElem? (i := 41) rfl)) (hw _ (List.mem_of_getElem? (i := 42) rfl)) (hw _ (List.mem_of_getElem? (i := 43) rfl)) (hw _ (List.mem_of_getElem? (i := 10) rfl)) (hw _ (List.mem_of_getElem? (i := 44) rfl)) (by decide) pd__II_V rfl (c_move l Z a0 hw qa ah ap ar ax kh kp kr ks (3 : Int32) (upd h 0 (h 2)) (upd p (h 2) (nd 0)) a b (h 0) 2 l0 (by decide) rest) rfl rfl 0 rfl (by decide) (by decide) (cells' := 0) rfl (slots' := 0) rfl (by decide) (by decide) fun T vV K' N qQ => ?_
      obtain ⟨rfl, rfl⟩ := qQ
      refine k_return (pc := 107) N d9_107 rfl (by decide) (by decide) ?_
      refine ⟨(upd (upd h 0 (h 2)) 2 (h 0)), (upd (upd p (h 2) (nd 0)) (h 0) (nd 2)), rfl, rfl, O1.fill, Okh.all hO (by decide) O1 S1, ?_⟩
      show Hw 3 (ky a b (h 2)) (ky a b (h 1)) (ky a b (h 0)) (ky a b (h 3))
      unfold HD Hd at hD
      unfold Hw
      omega
    · have q2 := of_ifn c77
      refine k_goto (pc := 80) N d9_80 (pc' := 101) (by decide) ?_
      refine k_aload_n (pc := 101) N d9_101 rfl rfl ?_
      refine k_iload_n (pc := 102) N d9_102 rfl ?_
      refine k_iload_n (pc := 103) N d9_103 rfl ?_
      refine k_private (pc := 104) N (y := (⟨"com/example/freshline/freshline/schedule/CandidateQueue", "move", "(II)V"⟩ : MethodName)) (rest := []) [.int (nd (h 0)), .int (0 : Int32)] (a := qa) 0 d9_104 rfl (hw _ (List.mem_of_getElem? (i := 9) rfl)) (hw _ (List.mem_of_getElem? (i := 41) rfl)) (hw _ (List.mem_of_getElem? (i := 42) rfl)) (hw _ (List.mem_of_getElem? (i := 43) rfl)) (hw _ (List.mem_of_getElem? (i := 10) rfl)) (hw _ (List.mem_of_getElem? (i := 44) rfl)) (by decide) pd__II_V rfl (c_move l Z a0 hw qa ah ap ar ax kh kp kr ks (3 : Int32) h p a b (h 0) 0 l0 (by decide) rest) rfl rfl 0 rfl (by decide) (by decide) (cells' := 0) rfl (slots' := 0) rfl (by decide) (by decide) fun T vV K' N qQ => ?_
      obtain ⟨rfl, rfl⟩ := qQ
      refine k_return (pc := 107) N d9_107 rfl (by decide) (by decide) ?_
      refine ⟨(upd h 0 (h 0)), (upd p (h 0) (nd 0)), rfl, rfl, O0.fill, Okh.all hO (by decide) O0 S0, ?_⟩
      show Hw 3 (ky a b (h 0)) (ky a b (h 1)) (ky a b (h 2)) (ky a b (h 3))
      unfold HD Hd at hD
      unfold Hw
      omega
set_option maxRecDepth 65536 in
theorem ef_c_down1_3 (m : MethodId) (z0 : Addr) (z1 : Int32) : entryFrame m ([.ref z0, .int z1] : List Value).toArray 5 = mkF m 0 #[.val (.ref z0), .val (.int z1), .unset, .unset, .unset] [] := by first | (simp [entryFrame, mkF, argsToLocals, Value.category]; done) | rfl
def rm_c_down1_3 : Room := { frames := 5, cells := 0, slots := 0, locals := 85 }
set_option maxRecDepth 65536 in
set_option maxHeartbeats 40000000 in
theorem c_down1_3 (l : Launch) (Z : State) (a0 : Array Value) (hw : ∀ d ∈ tables_1, d.before a0 Z = true) (qa ah ap ar ax : Addr) (kh kp kr ks : ClassId) (h : Nat → Nat) (p a b : Nat → Int32) (hO : Ok 3 h p) (hD : HD 3 1 (ky a b) h) (rest : List Ent) :
    OMeets l (⟨"com/example/freshline/freshline/schedule/CandidateQueue", "siftDown", "(I)V"⟩ : MethodName) prog_52_method_9_code 5 none rm_c_down1_3 Z [.ref qa, .int (1 : Int32)] ((oCq Z qa (.ref ah) (.ref ap) (.ref ar) (.ref ax) (.int (3 : Int32))) :: (oArr Z ah kh .int (hA h)) :: (oArr Z ap kp .int (iA p)) :: (oArr Z ar kr .double (rA a)) :: (oArr Z ax ks .double (rA b)) :: rest) (fun v K => ∃ (h' : Nat → Nat) (p' : Nat → Int32), v = none ∧ K = (oCq Z qa (.ref ah) (.ref ap) (.ref ar) (.ref ax) (.int (3 : Int32))) :: (oArr Z ah kh .int (hA h')) :: (oArr Z ap kp .int (iA p')) :: (oArr Z ar kr .double (rA a)) :: (oArr Z ax ks .double (rA b)) :: rest ∧ Ok 3 h' p' ∧ All p p' ∧ HW 3 (ky a b) h') := by
  refine OMeets.of_body (plainFor_of_name pn_com_example_freshline_freshline_schedule_CandidateQueue) #[.val (.ref qa), .val (.int (1 : Int32)), .unset, .unset, .unset] (fun m => ef_c_down1_3 m qa (1 : Int32)) fun pP eE sS mM bB hH cC T N => ?_
  have l0 := (hO.atp 0 (by decide)).1
  have l1 := (hO.atp 1 (by decide)).1
  have l2 := (hO.atp 2 (by decide)).1
  refine k_aload_n (pc := 0) N d9_0 rfl rfl ?_
  refine k_get (pc := 1) (host := "") N 0 0 d9_1 (Or.inl (hw _ (List.mem_of_getElem? (i := 17) rfl))) Via.refl rfl rfl fun T N => ?_
  refine k_iload_n (pc := 4) N d9_4 rfl ?_
  refine k_iaload (pc := 5) N 1 1 d9_5 rfl (by decide) (by decide) (v := .int (nd (h 1))) rfl ?_
  refine k_istore_n (pc := 6) N d9_6 (Ls' := #[.val (.ref qa), .val (.int (1 : Int32)), .val (.int (nd (h 1))), .unset, .unset]) rfl ?_
  have O0 := hO.hole (c := 1) (by decide)
  have S0 := Same.refl p (h 1)
  refine k_iload_n (pc := 7) N d9_7 rfl ?_
  refine k_istore_n (pc := 8) N d9_8 (Ls' := #[.val (.ref qa), .val (.int (1 : Int32)), .val (.int (nd (h 1))), .val (.int (1 : Int32)), .unset]) rfl ?_
  refine k_iconst (pc := 9) N d9_9 (v := (2 : Int32)) (by decide) ?_
  refine k_iload_n (pc := 10) N d9_10 rfl ?_
  refine k_imul (pc := 11) N d9_11 ?_
  rw [show ((2 : Int32) * (1 : Int32)) = (2 : Int32) by decide]
  refine k_iconst (pc := 12) N d9_12 (v := (1 : Int32)) (by decide) ?_
  refine k_iadd (pc := 13) N d9_13 ?_
  rw [show ((2 : Int32) + (1 : Int32)) = (3 : Int32) by decide]
  refine k_aload_n (pc := 14) N d9_14 rfl rfl ?_
  refine k_get (pc := 15) (host := "") N 0 4 d9_15 (Or.inl (hw _ (List.mem_of_getElem? (i := 35) rfl))) Via.refl rfl rfl fun T N => ?_
  refine k_icmp_ge (pc := 18) N d9_18 (pc' := 101) (by decide) (fun _ => ?_) (fun qQ => absurd qQ (by decide))
  refine k_aload_n (pc := 101) N d9_101 rfl rfl ?_
  refine k_iload_n (pc := 102) N d9_102 rfl ?_
  refine k_iload_n (pc := 103) N d9_103 rfl ?_
  refine k_private (pc := 104) N (y := (⟨"com/example/freshline/freshline/schedule/CandidateQueue", "move", "(II)V"⟩ : MethodName)) (rest := []) [.int (nd (h 1)), .int (1 : Int32)] (a := qa) 0 d9_104 rfl (hw _ (List.mem_of_getElem? (i := 9) rfl)) (hw _ (List.mem_of_getElem? (i := 41) rfl)) (hw _ (List.mem_of_getElem? (i := 42) rfl)) (hw _ (List.mem_of_getElem? (i := 43) rfl)) (hw _ (List.mem_of_getElem? (i := 10) rfl)) (hw _ (List.mem_of_getElem? (i := 44) rfl)) (by decide) pd__II_V rfl (c_move l Z a0 hw qa ah ap ar ax kh kp kr ks (3 : Int32) h p a b (h 1) 1 l1 (by decide) rest) rfl rfl 0 rfl (by decide) (by decide) (cells' := 0) rfl (slots' := 0) rfl (by decide) (by decide) fun T vV K' N qQ => ?_
  obtain ⟨rfl, rfl⟩ := qQ
  refine k_return (pc := 107) N d9_107 rfl (by decide) (by decide) ?_
  refine ⟨(upd h 1 (h 1)), (upd p (h 1) (nd 1)), rfl, rfl, O0.fill, Okh.all hO (by decide) O0 S0, ?_⟩
  show Hw 3 (ky a b (h 0)) (ky a b (h 1)) (ky a b (h 2)) (ky a b (h 3))
  unfold HD Hd at hD
  unfold Hw
  omega
set_option maxRecDepth 65536 in
theorem ef_c_down2_3 (m : MethodId) (z0 : Addr) (z1 : Int32) : entryFrame m ([.ref z0, .int z1] : List Value).toArray 5 = mkF m 0 #[.val (.ref z0), .val (.int z1), .unset, .unset, .unset] [] := by first | (simp [entryFrame, mkF, argsToLocals, Value.category]; done) | rfl
def rm_c_down2_3 : Room := { frames := 5, cells := 0, slots := 0, locals := 85 }
set_option maxRecDepth 65536 in
set_option maxHeartbeats 40000000 in
theorem c_down2_3 (l : Launch) (Z : State) (a0 : Array Value) (hw : ∀ d ∈ tables_1, d.before a0 Z = true) (qa ah ap ar ax : Addr) (kh kp kr ks : ClassId) (h : Nat → Nat) (p a b : Nat → Int32) (hO : Ok 3 h p) (hD : HD 3 2 (ky a b) h) (rest : List Ent) :
    OMeets l (⟨"com/example/freshline/freshline/schedule/CandidateQueue", "siftDown", "(I)V"⟩ : MethodName) prog_52_method_9_code 5 none rm_c_down2_3 Z [.ref qa, .int (2 : Int32)] ((oCq Z qa (.ref ah) (.ref ap) (.ref ar) (.ref ax) (.int (3 : Int32))) :: (oArr Z ah kh .int (hA h)) :: (oArr Z ap kp .int (iA p)) :: (oArr Z ar kr .double (rA a)) :: (oArr Z ax ks .double (rA b)) :: rest) (fun v K => ∃ (h' : Nat → Nat) (p' : Nat → Int32), v = none ∧ K = (oCq Z qa (.ref ah) (.ref ap) (.ref ar) (.ref ax) (.int (3 : Int32))) :: (oArr Z ah kh .int (hA h')) :: (oArr Z ap kp .int (iA p')) :: (oArr Z ar kr .double (rA a)) :: (oArr Z ax ks .double (rA b)) :: rest ∧ Ok 3 h' p' ∧ All p p' ∧ HW 3 (ky a b) h') := by
  refine OMeets.of_body (plainFor_of_name pn_com_example_freshline_freshline_schedule_CandidateQueue) #[.val (.ref qa), .val (.int (2 : Int32)), .unset, .unset, .unset] (fun m => ef_c_down2_3 m qa (2 : Int32)) fun pP eE sS mM bB hH cC T N => ?_
  have l0 := (hO.atp 0 (by decide)).1
  have l1 := (hO.atp 1 (by decide)).1
  have l2 := (hO.atp 2 (by decide)).1
  refine k_aload_n (pc := 0) N d9_0 rfl rfl ?_
  refine k_get (pc := 1) (host := "") N 0 0 d9_1 (Or.inl (hw _ (List.mem_of_getElem? (i := 17) rfl))) Via.refl rfl rfl fun T N => ?_
  refine k_iload_n (pc := 4) N d9_4 rfl ?_
  refine k_iaload (pc := 5) N 1 2 d9_5 rfl (by decide) (by decide) (v := .int (nd (h 2))) rfl ?_
  refine k_istore_n (pc := 6) N d9_6 (Ls' := #[.val (.ref qa), .val (.int (2 : Int32)), .val (.int (nd (h 2))), .unset, .unset]) rfl ?_
  have O0 := hO.hole (c := 2) (by decide)
  have S0 := Same.refl p (h 2)
  refine k_iload_n (pc := 7) N d9_7 rfl ?_
  refine k_istore_n (pc := 8) N d9_8 (Ls' := #[.val (.ref qa), .val (.int (2 : Int32)), .val (.int (nd (h 2))), .val (.int (2 : Int32)), .unset]) rfl ?_
  refine k_iconst (pc := 9) N d9_9 (v := (2 : Int32)) (by decide) ?_
  refine k_iload_n (pc := 10) N d9_10 rfl ?_
  refine k_imul (pc := 11) N d9_11 ?_
  rw [show ((2 : Int32) * (2 : Int32)) = (4 : Int32) by decide]
  refine k_iconst (pc := 12) N d9_12 (v := (1 : Int32)) (by decide) ?_
  refine k_iadd (pc := 13) N d9_13 ?_
  rw [show ((4 : Int32) + (1 : Int32)) = (5 : Int32) by decide]
  refine k_aload_n (pc := 14) N d9_14 rfl rfl ?_
  refine k_get (pc := 15) (host := "") N 0 4 d9_15 (Or.inl (hw _ (List.mem_of_getElem? (i := 35) rfl))) Via.refl rfl rfl fun T N => ?_
  refine k_icmp_ge (pc := 18) N d9_18 (pc' := 101) (by decide) (fun _ => ?_) (fun qQ => absurd qQ (by decide))
  refine k_aload_n (pc := 101) N d9_101 rfl rfl ?_
  refine k_iload_n (pc := 102) N d9_102 rfl ?_
  refine k_iload_n (pc := 103) N d9_103 rfl ?_
  refine k_private (pc := 104) N (y := (⟨"com/example/freshline/freshline/schedule/CandidateQueue", "move", "(II)V"⟩ : MethodName)) (rest := []) [.int (nd (h 2)), .int (2 : Int32)] (a := qa) 0 d9_104 rfl (hw _ (List.mem_of_getElem? (i := 9) rfl)) (hw _ (List.mem_of_getElem? (i := 41) rfl)) (hw _ (List.mem_of_getElem? (i := 42) rfl)) (hw _ (List.mem_of_getElem? (i := 43) rfl)) (hw _ (List.mem_of_getElem? (i := 10) rfl)) (hw _ (List.mem_of_getElem? (i := 44) rfl)) (by decide) pd__II_V rfl (c_move l Z a0 hw qa ah ap ar ax kh kp kr ks (3 : Int32) h p a b (h 2) 2 l2 (by decide) rest) rfl rfl 0 rfl (by decide) (by decide) (cells' := 0) rfl (slots' := 0) rfl (by decide) (by decide) fun T vV K' N qQ => ?_
  obtain ⟨rfl, rfl⟩ := qQ
  refine k_return (pc := 107) N d9_107 rfl (by decide) (by decide) ?_
  refine ⟨(upd h 2 (h 2)), (upd p (h 2) (nd 2)), rfl, rfl, O0.fill, Okh.all hO (by decide) O0 S0, ?_⟩
  show Hw 3 (ky a b (h 0)) (ky a b (h 1)) (ky a b (h 2)) (ky a b (h 3))
  unfold HD Hd at hD
  unfold Hw
  omega
set_option maxRecDepth 65536 in
theorem ef_c_down0_4 (m : MethodId) (z0 : Addr) (z1 : Int32) : entryFrame m ([.ref z0, .int z1] : List Value).toArray 5 = mkF m 0 #[.val (.ref z0), .val (.int z1), .unset, .unset, .unset] [] := by first | (simp [entryFrame, mkF, argsToLocals, Value.category]; done) | rfl
def rm_c_down0_4 : Room := { frames := 5, cells := 0, slots := 0, locals := 85 }
set_option maxRecDepth 65536 in
set_option maxHeartbeats 40000000 in
theorem c_down0_4 (l : Launch) (Z : State) (a0 : Array Value) (hw : ∀ d ∈ tables_1, d.before a0 Z = true) (qa ah ap ar ax : Addr) (kh kp kr ks : ClassId) (h : Nat → Nat) (p a b : Nat → Int32) (hO : Ok 4 h p) (hD : HD 4 0 (ky a b) h) (rest : List Ent) :
    OMeets l (⟨"com/example/freshline/freshline/schedule/CandidateQueue", "siftDown", "(I)V"⟩ : MethodName) prog_52_method_9_code 5 none rm_c_down0_4 Z [.ref qa, .int (0 : Int32)] ((oCq Z qa (.ref ah) (.ref ap) (.ref ar) (.ref ax) (.int (4 : Int32))) :: (oArr Z ah kh .int (hA h)) :: (oArr Z ap kp .int (iA p)) :: (oArr Z ar kr .double (rA a)) :: (oArr Z ax ks .double (rA b)) :: rest) (fun v K => ∃ (h' : Nat → Nat) (p' : Nat → Int32), v = none ∧ K = (oCq Z qa (.ref ah) (.ref ap) (.ref ar) (.ref ax) (.int (4 : Int32))) :: (oArr Z ah kh .int (hA h')) :: (oArr Z ap kp .int (iA p')) :: (oArr Z ar kr .double (rA a)) :: (oArr Z ax ks .double (rA b)) :: rest ∧ Ok 4 h' p' ∧ All p p' ∧ HW 4 (ky a b) h') := by
  refine OMeets.of_body (plainFor_of_name pn_com_example_freshline_freshline_schedule_CandidateQueue) #[.val (.ref qa), .val (.int (0 : Int32)), .unset, .unset, .unset] (fun m => ef_c_down0_4 m qa (0 : Int32)) fun pP eE sS mM bB hH cC T N => ?_
  have l0 := (hO.atp 0 (by decide)).1
  have l1 := (hO.atp 1 (by decide)).1
  have l2 := (hO.atp 2 (by decide)).1
  have l3 := (hO.atp 3 (by decide)).1
  refine k_aload_n (pc := 0) N d9_0 rfl rfl ?_
  refine k_get (pc := 1) (host := "") N 0 0 d9_1 (Or.inl (hw _ (List.mem_of_getElem? (i := 17) rfl))) Via.refl rfl rfl fun T N => ?_
  refine k_iload_n (pc := 4) N d9_4 rfl ?_
  refine k_iaload (pc := 5) N 1 0 d9_5 rfl (by decide) (by decide) (v := .int (nd (h 0))) rfl ?_
  refine k_istore_n (pc := 6) N d9_6 (Ls' := #[.val (.ref qa), .val (.int (0 : Int32)), .val (.int (nd (h 0))), .unset, .unset]) rfl ?_
  have O0 := hO.hole (c := 0) (by decide)
  have S0 := Same.refl p (h 0)
  refine k_iload_n (pc := 7) N d9_7 rfl ?_
  refine k_istore_n (pc := 8) N d9_8 (Ls' := #[.val (.ref qa), .val (.int (0 : Int32)), .val (.int (nd (h 0))), .val (.int (0 : Int32)), .unset]) rfl ?_
  refine k_iconst (pc := 9) N d9_9 (v := (2 : Int32)) (by decide) ?_
  refine k_iload_n (pc := 10) N d9_10 rfl ?_
  refine k_imul (pc := 11) N d9_11 ?_
  rw [show ((2 : Int32) * (0 : Int32)) = (0 : Int32) by decide]
  refine k_iconst (pc := 12) N d9_12 (v := (1 : Int32)) (by decide) ?_
  refine k_iadd (pc := 13) N d9_13 ?_
  rw [show ((0 : Int32) + (1 : Int32)) = (1 : Int32) by decide]
  refine k_aload_n (pc := 14) N d9_14 rfl rfl ?_
  refine k_get (pc := 15) (host := "") N 0 4 d9_15 (Or.inl (hw _ (List.mem_of_getElem? (i := 35) rfl))) Via.refl rfl rfl fun T N => ?_
  refine k_icmp_ge (pc := 18) N d9_18 (pc' := 101) (by decide) (fun qQ => absurd qQ (by decide)) (fun _ => ?_)
  refine k_iconst (pc := 21) N d9_21 (v := (2 : Int32)) (by decide) ?_
  refine k_iload_n (pc := 22) N d9_22 rfl ?_
  refine k_imul (pc := 23) N d9_23 ?_
  rw [show ((2 : Int32) * (0 : Int32)) = (0 : Int32) by decide]
  refine k_iconst (pc := 24) N d9_24 (v := (1 : Int32)) (by decide) ?_
  refine k_iadd (pc := 25) N d9_25 ?_
  rw [show ((0 : Int32) + (1 : Int32)) = (1 : Int32) by decide]
  refine k_istore (pc := 26) N d9_26 (Ls' := #[.val (.ref qa), .val (.int (0 : Int32)), .val (.int (nd (h 0))), .val (.int (0 : Int32)), .val (.int (1 : Int32))]) rfl ?_
  refine k_iload (pc := 28) N d9_28 rfl ?_
  refine k_iconst (pc := 30) N d9_30 (v := (1 : Int32)) (by decide) ?_
  refine k_iadd (pc := 31) N d9_31 ?_
  rw [show ((1 : Int32) + (1 : Int32)) = (2 : Int32) by decide]
  refine k_aload_n (pc := 32) N d9_32 rfl rfl ?_
  refine k_get (pc := 33) (host := "") N 0 4 d9_33 (Or.inl (hw _ (List.mem_of_getElem? (i := 35) rfl))) Via.refl rfl rfl fun T N => ?_
  refine k_icmp_ge (pc := 36) N d9_36 (pc' := 65) (by decide) (fun qQ => absurd qQ (by decide)) (fun _ => ?_)
  refine k_aload_n (pc := 39) N d9_39 rfl rfl ?_
  refine k_aload_n (pc := 40) N d9_40 rfl rfl ?_
  refine k_get (pc := 41) (host := "") N 0 0 d9_41 (Or.inl (hw _ (List.mem_of_getElem? (i := 17) rfl))) Via.refl rfl rfl fun T N => ?_
  refine k_iload (pc := 44) N d9_44 rfl ?_
  refine k_iconst (pc := 46) N d9_46 (v := (1 : Int32)) (by decide) ?_
  refine k_iadd (pc := 47) N d9_47 ?_
  rw [show ((1 : Int32) + (1 : Int32)) = (2 : Int32) by decide]
  refine k_iaload (pc := 48) N 1 2 d9_48 rfl (by decide) (by decide) (v := .int (nd (h 2))) rfl ?_
  refine k_aload_n (pc := 49) N d9_49 rfl rfl ?_
  refine k_get (pc := 50) (host := "") N 0 0 d9_50 (Or.inl (hw _ (List.mem_of_getElem? (i := 17) rfl))) Via.refl rfl rfl fun T N => ?_
  refine k_iload (pc := 53) N d9_53 rfl ?_
  refine k_iaload (pc := 55) N 1 1 d9_55 rfl (by decide) (by decide) (v := .int (nd (h 1))) rfl ?_
  refine k_private (pc := 56) N (y := (⟨"com/example/freshline/freshline/schedule/CandidateQueue", "precedes", "(II)Z"⟩ : MethodName)) (rest := []) [.int (nd (h 2)), .int (nd (h 1))] (a := qa) 0 d9_56 rfl (hw _ (List.mem_of_getElem? (i := 9) rfl)) (hw _ (List.mem_of_getElem? (i := 49) rfl)) (hw _ (List.mem_of_getElem? (i := 50) rfl)) (hw _ (List.mem_of_getElem? (i := 51) rfl)) (hw _ (List.mem_of_getElem? (i := 10) rfl)) (hw _ (List.mem_of_getElem? (i := 52) rfl)) (by decide) pd__II_Z rfl (c_prec2 l Z a0 hw qa ah ap ar ax kh kp kr ks (4 : Int32) h p a b (h 2) (h 1) l2 l1 rest) rfl rfl 0 rfl (by decide) (by decide) (cells' := 0) rfl (slots' := 0) rfl (by decide) (by decide) fun T vV K' N qQ => ?_
  obtain ⟨rfl, rfl⟩ := qQ
  refine k_if_eq (pc := 59) N d9_59 (pc' := 65) (by decide) (fun c59 => ?_) (fun c59 => ?_)
  · have r1 := of_ifn c59
    refine k_aload_n (pc := 65) N d9_65 rfl rfl ?_
    refine k_aload_n (pc := 66) N d9_66 rfl rfl ?_
    refine k_get (pc := 67) (host := "") N 0 0 d9_67 (Or.inl (hw _ (List.mem_of_getElem? (i := 17) rfl))) Via.refl rfl rfl fun T N => ?_
    refine k_iload (pc := 70) N d9_70 rfl ?_
    refine k_iaload (pc := 72) N 1 1 d9_72 rfl (by decide) (by decide) (v := .int (nd (h 1))) rfl ?_
    refine k_iload_n (pc := 73) N d9_73 rfl ?_
    refine k_private (pc := 74) N (y := (⟨"com/example/freshline/freshline/schedule/CandidateQueue", "precedes", "(II)Z"⟩ : MethodName)) (rest := []) [.int (nd (h 1)), .int (nd (h 0))] (a := qa) 0 d9_74 rfl (hw _ (List.mem_of_getElem? (i := 9) rfl)) (hw _ (List.mem_of_getElem? (i := 49) rfl)) (hw _ (List.mem_of_getElem? (i := 50) rfl)) (hw _ (List.mem_of_getElem? (i := 51) rfl)) (hw _ (List.mem_of_getElem? (i := 10) rfl)) (hw _ (List.mem_of_getElem? (i := 52) rfl)) (by decide) pd__II_Z rfl (c_prec2 l Z a0 hw qa ah ap ar ax kh kp kr ks (4 : Int32) h p a b (h 1) (h 0) l1 l0 rest) rfl rfl 0 rfl (by decide) (by decide) (cells' := 0) rfl (slots' := 0) rfl (by decide) (by decide) fun T vV K' N qQ => ?_
    obtain ⟨rfl, rfl⟩ := qQ
    refine k_if_ne (pc := 77) N d9_77 (pc' := 83) (by decide) (fun c77 => ?_) (fun c77 => ?_)
    · have q1 := of_if c77
      refine k_aload_n (pc := 83) N d9_83 rfl rfl ?_
      refine k_aload_n (pc := 84) N d9_84 rfl rfl ?_
      refine k_get (pc := 85) (host := "") N 0 0 d9_85 (Or.inl (hw _ (List.mem_of_getElem? (i := 17) rfl))) Via.refl rfl rfl fun T N => ?_
      refine k_iload (pc := 88) N d9_88 rfl ?_
      refine k_iaload (pc := 90) N 1 1 d9_90 rfl (by decide) (by decide) (v := .int (nd (h 1))) rfl ?_
      refine k_iload_n (pc := 91) N d9_91 rfl ?_
      refine k_private (pc := 92) N (y := (⟨"com/example/freshline/freshline/schedule/CandidateQueue", "move", "(II)V"⟩ : MethodName)) (rest := []) [.int (nd (h 1)), .int (0 : Int32)] (a := qa) 0 d9_92 rfl (hw _ (List.mem_of_getElem? (i := 9) rfl)) (hw _ (List.mem_of_getElem? (i := 41) rfl)) (hw _ (List.mem_of_getElem? (i := 42) rfl)) (hw _ (List.mem_of_getElem? (i := 43) rfl)) (hw _ (List.mem_of_getElem? (i := 10) rfl)) (hw _ (List.mem_of_getElem? (i := 44) rfl)) (by decide) pd__II_V rfl (c_move l Z a0 hw qa ah ap ar ax kh kp kr ks (4 : Int32) h p a b (h 1) 0 l1 (by decide) rest) rfl rfl 0 rfl (by decide) (by decide) (cells' := 0) rfl (slots' := 0) rfl (by decide) (by decide) fun T vV K' N qQ => ?_
      obtain ⟨rfl, rfl⟩ := qQ
      have O1 := O0.step (d := 1) (by omega) (by decide)
      have S1 := Same.trans S0 (O0.step_same (d := 1) (by omega) (by decide))
      refine k_iload (pc := 95) N d9_95 rfl ?_
      refine k_istore_n (pc := 97) N d9_97 (Ls' := #[.val (.ref qa), .val (.int (0 : Int32)), .val (.int (nd (h 0))), .val (.int (1 : Int32)), .val (.int (1 : Int32))]) rfl ?_
      refine k_goto (pc := 98) N d9_98 (pc' := 9) (by decide) ?_
      refine k_iconst (pc := 9) N d9_9 (v := (2 : Int32)) (by decide) ?_
      refine k_iload_n (pc := 10) N d9_10 rfl ?_
      refine k_imul (pc := 11) N d9_11 ?_
      rw [show ((2 : Int32) * (1 : Int32)) = (2 : Int32) by decide]
      refine k_iconst (pc := 12) N d9_12 (v := (1 : Int32)) (by decide) ?_
      refine k_iadd (pc := 13) N d9_13 ?_
      rw [show ((2 : Int32) + (1 : Int32)) = (3 : Int32) by decide]
      refine k_aload_n (pc := 14) N d9_14 rfl rfl ?_
      refine k_get (pc := 15) (host := "") N 0 4 d9_15 (Or.inl (hw _ (List.mem_of_getElem? (i := 35) rfl))) Via.refl rfl rfl fun T N => ?_
      refine k_icmp_ge (pc := 18) N d9_18 (pc' := 101) (by decide) (fun qQ => absurd qQ (by decide)) (fun _ => ?_)
      refine k_iconst (pc := 21) N d9_21 (v := (2 : Int32)) (by decide) ?_
      refine k_iload_n (pc := 22) N d9_22 rfl ?_
      refine k_imul (pc := 23) N d9_23 ?_
      rw [show ((2 : Int32) * (1 : Int32)) = (2 : Int32) by decide]
      refine k_iconst (pc := 24) N d9_24 (v := (1 : Int32)) (by decide) ?_
      refine k_iadd (pc := 25) N d9_25 ?_
      rw [show ((2 : Int32) + (1 : Int32)) = (3 : Int32) by decide]
      refine k_istore (pc := 26) N d9_26 (Ls' := #[.val (.ref qa), .val (.int (0 : Int32)), .val (.int (nd (h 0))), .val (.int (1 : Int32)), .val (.int (3 : Int32))]) rfl ?_
      refine k_iload (pc := 28) N d9_28 rfl ?_
      refine k_iconst (pc := 30) N d9_30 (v := (1 : Int32)) (by decide) ?_
      refine k_iadd (pc := 31) N d9_31 ?_
      rw [show ((3 : Int32) + (1 : Int32)) = (4 : Int32) by decide]
      refine k_aload_n (pc := 32) N d9_32 rfl rfl ?_
      refine k_get (pc := 33) (host := "") N 0 4 d9_33 (Or.inl (hw _ (List.mem_of_getElem? (i := 35) rfl))) Via.refl rfl rfl fun T N => ?_
      refine k_icmp_ge (pc := 36) N d9_36 (pc' := 65) (by decide) (fun _ => ?_) (fun qQ => absurd qQ (by decide))
      refine k_aload_n (pc := 65) N d9_65 rfl rfl ?_
      refine k_aload_n (pc := 66) N d9_66 rfl rfl ?_
      refine k_get (pc := 67) (host := "") N 0 0 d9_67 (Or.inl (hw _ (List.mem_of_getElem? (i := 17) rfl))) Via.refl rfl rfl fun T N => ?_
      refine k_iload (pc := 70) N d9_70 rfl ?_
      refine k_iaload (pc := 72) N 1 3 d9_72 rfl (by decide) (by decide) (v := .int (nd (h 3))) rfl ?_
      refine k_iload_n (pc := 73) N d9_73 rfl ?_
      refine k_private (pc := 74) N (y := (⟨"com/example/freshline/freshline/schedule/CandidateQueue", "precedes", "(II)Z"⟩ : MethodName)) (rest := []) [.int (nd (h 3)), .int (nd (h 0))] (a := qa) 0 d9_74 rfl (hw _ (List.mem_of_getElem? (i := 9) rfl)) (hw _ (List.mem_of_getElem? (i := 49) rfl)) (hw _ (List.mem_of_getElem? (i := 50) rfl)) (hw _ (List.mem_of_getElem? (i := 51) rfl)) (hw _ (List.mem_of_getElem? (i := 10) rfl)) (hw _ (List.mem_of_getElem? (i := 52) rfl)) (by decide) pd__II_Z rfl (c_prec2 l Z a0 hw qa ah ap ar ax kh kp kr ks (4 : Int32) (upd h 0 (h 1)) (upd p (h 1) (nd 0)) a b (h 3) (h 0) l3 l0 rest) rfl rfl 0 rfl (by decide) (by decide) (cells' := 0) rfl (slots' := 0) rfl (by decide) (by decide) fun T vV K' N qQ => ?_
      obtain ⟨rfl, rfl⟩ := qQ
      refine k_if_ne (pc := 77) N d9_77 (pc' := 83) (by decide) (fun c77 => ?_) (fun c77 => ?_)
      · have q3 := of_if c77
        refine k_aload_n (pc := 83) N d9_83 rfl rfl ?_
        refine k_aload_n (pc := 84) N d9_84 rfl rfl ?_
        refine k_get (pc := 85) (host := "") N 0 0 d9_85 (Or.inl (hw _ (List.mem_of_getElem? (i := 17) rfl))) Via.refl rfl rfl fun T N => ?_
        refine k_iload (pc := 88) N d9_88 rfl ?_
        refine k_iaload (pc := 90) N 1 3 d9_90 rfl (by decide) (by decide) (v := .int (nd (h 3))) rfl ?_
        refine k_iload_n (pc := 91) N d9_91 rfl ?_
        refine k_private (pc := 92) N (y := (⟨"com/example/freshline/freshline/schedule/CandidateQueue", "move", "(II)V"⟩ : MethodName)) (rest := []) [.int (nd (h 3)), .int (1 : Int32)] (a := qa) 0 d9_92 rfl (hw _ (List.mem_of_getElem? (i := 9) rfl)) (hw _ (List.mem_of_getElem? (i := 41) rfl)) (hw _ (List.mem_of_getElem? (i := 42) rfl)) (hw _ (List.mem_of_getElem? (i := 43) rfl)) (hw _ (List.mem_of_getElem? (i := 10) rfl)) (hw _ (List.mem_of_getElem? (i := 44) rfl)) (by decide) pd__II_V rfl (c_move l Z a0 hw qa ah ap ar ax kh kp kr ks (4 : Int32) (upd h 0 (h 1)) (upd p (h 1) (nd 0)) a b (h 3) 1 l3 (by decide) rest) rfl rfl 0 rfl (by decide) (by decide) (cells' := 0) rfl (slots' := 0) rfl (by decide) (by decide) fun T vV K' N qQ => ?_
        obtain ⟨rfl, rfl⟩ := qQ
        have O2 := O1.step (d := 3) (by omega) (by decide)
        have S2 := Same.trans S1 (O1.step_same (d := 3) (by omega) (by decide))
        refine k_iload (pc := 95) N d9_95 rfl ?_
        refine k_istore_n (pc := 97) N d9_97 (Ls' := #[.val (.ref qa), .val (.int (0 : Int32)), .val (.int (nd (h 0))), .val (.int (3 : Int32)), .val (.int (3 : Int32))]) rfl ?_
        refine k_goto (pc := 98) N d9_98 (pc' := 9) (by decide) ?_
        refine k_iconst (pc := 9) N d9_9 (v := (2 : Int32)) (by decide) ?_
        refine k_iload_n (pc := 10) N d9_10 rfl ?_
        refine k_imul (pc := 11) N d9_11 ?_
        rw [show ((2 : Int32) * (3 : Int32)) = (6 : Int32) by decide]
        refine k_iconst (pc := 12) N d9_12 (v := (1 : Int32)) (by decide) ?_
        refine k_iadd (pc := 13) N d9_13 ?_
        rw [show ((6 : Int32) + (1 : Int32)) = (7 : Int32) by decide]
        refine k_aload_n (pc := 14) N d9_14 rfl rfl ?_
        refine k_get (pc := 15) (host := "") N 0 4 d9_15 (Or.inl (hw _ (List.mem_of_getElem? (i := 35) rfl))) Via.refl rfl rfl fun T N => ?_
        refine k_icmp_ge (pc := 18) N d9_18 (pc' := 101) (by decide) (fun _ => ?_) (fun qQ => absurd qQ (by decide))
        refine k_aload_n (pc := 101) N d9_101 rfl rfl ?_
        refine k_iload_n (pc := 102) N d9_102 rfl ?_
        refine k_iload_n (pc := 103) N d9_103 rfl ?_
        refine k_private (pc := 104) N (y := (⟨"com/example/freshline/freshline/schedule/CandidateQueue", "move", "(II)V"⟩ : MethodName)) (rest := []) [.int (nd (h 0)), .int (3 : Int32)] (a := qa) 0 d9_104 rfl (hw _ (List.mem_of_getElem? (i := 9) rfl)) (hw _ (List.mem_of_getElem? (i := 41) rfl)) (hw _ (List.mem_of_getElem? (i := 42) rfl)) (hw _ (List.mem_of_getElem? (i := 43) rfl)) (hw _ (List.mem_of_getElem? (i := 10) rfl)) (hw _ (List.mem_of_getElem? (i := 44) rfl)) (by decide) pd__II_V rfl (c_move l Z a0 hw qa ah ap ar ax kh kp kr ks (4 : Int32) (upd (upd h 0 (h 1)) 1 (h 3)) (upd (upd p (h 1) (nd 0)) (h 3) (nd 1)) a b (h 0) 3 l0 (by decide) rest) rfl rfl 0 rfl (by decide) (by decide) (cells' := 0) rfl (slots' := 0) rfl (by decide) (by decide) fun T vV K' N qQ => ?_
        obtain ⟨rfl, rfl⟩ := qQ
        refine k_return (pc := 107) N d9_107 rfl (by decide) (by decide) ?_
        refine ⟨(upd (upd (upd h 0 (h 1)) 1 (h 3)) 3 (h 0)), (upd (upd (upd p (h 1) (nd 0)) (h 3) (nd 1)) (h 0) (nd 3)), rfl, rfl, O2.fill, Okh.all hO (by decide) O2 S2, ?_⟩
        show Hw 4 (ky a b (h 1)) (ky a b (h 3)) (ky a b (h 2)) (ky a b (h 0))
        unfold HD Hd at hD
        unfold Hw
        omega
      · have q3 := of_ifn c77
        refine k_goto (pc := 80) N d9_80 (pc' := 101) (by decide) ?_
        refine k_aload_n (pc := 101) N d9_101 rfl rfl ?_
        refine k_iload_n (pc := 102) N d9_102 rfl ?_
        refine k_iload_n (pc := 103) N d9_103 rfl ?_
        refine k_private (pc := 104) N (y := (⟨"com/example/freshline/freshline/schedule/CandidateQueue", "move", "(II)V"⟩ : MethodName)) (rest := []) [.int (nd (h 0)), .int (1 : Int32)] (a := qa) 0 d9_104 rfl (hw _ (List.mem_of_getElem? (i := 9) rfl)) (hw _ (List.mem_of_getElem? (i := 41) rfl)) (hw _ (List.mem_of_getElem? (i := 42) rfl)) (hw _ (List.mem_of_getElem? (i := 43) rfl)) (hw _ (List.mem_of_getElem? (i := 10) rfl)) (hw _ (List.mem_of_getElem? (i := 44) rfl)) (by decide) pd__II_V rfl (c_move l Z a0 hw qa ah ap ar ax kh kp kr ks (4 : Int32) (upd h 0 (h 1)) (upd p (h 1) (nd 0)) a b (h 0) 1 l0 (by decide) rest) rfl rfl 0 rfl (by decide) (by decide) (cells' := 0) rfl (slots' := 0) rfl (by decide) (by decide) fun T vV K' N qQ => ?_
        obtain ⟨rfl, rfl⟩ := qQ
        refine k_return (pc := 107) N d9_107 rfl (by decide) (by decide) ?_
        refine ⟨(upd (upd h 0 (h 1)) 1 (h 0)), (upd (upd p (h 1) (nd 0)) (h 0) (nd 1)), rfl, rfl, O1.fill, Okh.all hO (by decide) O1 S1, ?_⟩
        show Hw 4 (ky a b (h 1)) (ky a b (h 0)) (ky a b (h 2)) (ky a b (h 3))
        unfold HD Hd at hD
        unfold Hw
        omega
    · have q1 := of_ifn c77
      refine k_goto (pc := 80) N d9_80 (pc' := 101) (by decide) ?_
      refine k_aload_n (pc := 101) N d9_101 rfl rfl ?_
      refine k_iload_n (pc := 102) N d9_102 rfl ?_
      refine k_iload_n (pc := 103) N d9_103 rfl ?_
      refine k_private (pc := 104) N (y := (⟨"com/example/freshline/freshline/schedule/CandidateQueue", "move", "(II)V"⟩ : MethodName)) (rest := []) [.int (nd (h 0)), .int (0 : Int32)] (a := qa) 0 d9_104 rfl (hw _ (List.mem_of_getElem? (i := 9) rfl)) (hw _ (List.mem_of_getElem? (i := 41) rfl)) (hw _ (List.mem_of_getElem? (i := 42) rfl)) (hw _ (List.mem_of_getElem? (i := 43) rfl)) (hw _ (List.mem_of_getElem? (i := 10) rfl)) (hw _ (List.mem_of_getElem? (i := 44) rfl)) (by decide) pd__II_V rfl (c_move l Z a0 hw qa ah ap ar ax kh kp kr ks (4 : Int32) h p a b (h 0) 0 l0 (by decide) rest) rfl rfl 0 rfl (by decide) (by decide) (cells' := 0) rfl (slots' := 0) rfl (by decide) (by decide) fun T vV K' N qQ => ?_
      obtain ⟨rfl, rfl⟩ := qQ
      refine k_return (pc := 107) N d9_107 rfl (by decide) (by decide) ?_
      refine ⟨(upd h 0 (h 0)), (upd p (h 0) (nd 0)), rfl, rfl, O0.fill, Okh.all hO (by decide) O0 S0, ?_⟩
      show Hw 4 (ky a b (h 0)) (ky a b (h 1)) (ky a b (h 2)) (ky a b (h 3))
      unfold HD Hd at hD
      unfold Hw
      omega
  · have r1 := of_if c59
    refine k_iinc (pc := 62) N d9_62 rfl (v := (2 : Int32)) (by decide) (Ls' := #[.val (.ref qa), .val (.int (0 : Int32)), .val (.int (nd (h 0))), .val (.int (0 : Int32)), .val (.int (2 : Int32))]) rfl ?_
    refine k_aload_n (pc := 65) N d9_65 rfl rfl ?_
    refine k_aload_n (pc := 66) N d9_66 rfl rfl ?_
    refine k_get (pc := 67) (host := "") N 0 0 d9_67 (Or.inl (hw _ (List.mem_of_getElem? (i := 17) rfl))) Via.refl rfl rfl fun T N => ?_
    refine k_iload (pc := 70) N d9_70 rfl ?_
    refine k_iaload (pc := 72) N 1 2 d9_72 rfl (by decide) (by decide) (v := .int (nd (h 2))) rfl ?_
    refine k_iload_n (pc := 73) N d9_73 rfl ?_
    refine k_private (pc := 74) N (y := (⟨"com/example/freshline/freshline/schedule/CandidateQueue", "precedes", "(II)Z"⟩ : MethodName)) (rest := []) [.int (nd (h 2)), .int (nd (h 0))] (a := qa) 0 d9_74 rfl (hw _ (List.mem_of_getElem? (i := 9) rfl)) (hw _ (List.mem_of_getElem? (i := 49) rfl)) (hw _ (List.mem_of_getElem? (i := 50) rfl)) (hw _ (List.mem_of_getElem? (i := 51) rfl)) (hw _ (List.mem_of_getElem? (i := 10) rfl)) (hw _ (List.mem_of_getElem? (i := 52) rfl)) (by decide) pd__II_Z rfl (c_prec2 l Z a0 hw qa ah ap ar ax kh kp kr ks (4 : Int32) h p a b (h 2) (h 0) l2 l0 rest) rfl rfl 0 rfl (by decide) (by decide) (cells' := 0) rfl (slots' := 0) rfl (by decide) (by decide) fun T vV K' N qQ => ?_
    obtain ⟨rfl, rfl⟩ := qQ
    refine k_if_ne (pc := 77) N d9_77 (pc' := 83) (by decide) (fun c77 => ?_) (fun c77 => ?_)
    · have q2 := of_if c77
      refine k_aload_n (pc := 83) N d9_83 rfl rfl ?_
      refine k_aload_n (pc := 84) N d9_84 rfl rfl ?_
      refine k_get (pc := 85) (host := "") N 0 0 d9_85 (Or.inl (hw _ (List.mem_of_getElem? (i := 17) rfl))) Via.refl rfl rfl fun T N => ?_
      refine k_iload (pc := 88) N d9_88 rfl ?_
      refine k_iaload (pc := 90) N 1 2 d9_90 rfl (by decide) (by decide) (v := .int (nd (h 2))) rfl ?_
      refine k_iload_n (pc := 91) N d9_91 rfl ?_
      refine k_private (pc := 92) N (y := (⟨"com/example/freshline/freshline/schedule/CandidateQueue", "move", "(II)V"⟩ : MethodName)) (rest := []) [.int (nd (h 2)), .int (0 : Int32)] (a := qa) 0 d9_92 rfl (hw _ (List.mem_of_getElem? (i := 9) rfl)) (hw _ (List.mem_of_getElem? (i := 41) rfl)) (hw _ (List.mem_of_getElem? (i := 42) rfl)) (hw _ (List.mem_of_getElem? (i := 43) rfl)) (hw _ (List.mem_of_getElem? (i := 10) rfl)) (hw _ (List.mem_of_getElem? (i := 44) rfl)) (by decide) pd__II_V rfl (c_move l Z a0 hw qa ah ap ar ax kh kp kr ks (4 : Int32) h p a b (h 2) 0 l2 (by decide) rest) rfl rfl 0 rfl (by decide) (by decide) (cells' := 0) rfl (slots' := 0) rfl (by decide) (by decide) fun T vV K' N qQ => ?_
      obtain ⟨rfl, rfl⟩ := qQ
      have O1 := O0.step (d := 2) (by omega) (by decide)
      have S1 := Same.trans S0 (O0.step_same (d := 2) (by omega) (by decide))
      refine k_iload (pc := 95) N d9_95 rfl ?_
      refine k_istore_n (pc := 97) N d9_97 (Ls' := #[.val (.ref qa), .val (.int (0 : Int32)), .val (.int (nd (h 0))), .val (.int (2 : Int32)), .val (.int (2 : Int32))]) rfl ?_
      refine k_goto (pc := 98) N d9_98 (pc' := 9) (by decide) ?_
      refine k_iconst (pc := 9) N d9_9 (v := (2 : Int32)) (by decide) ?_
      refine k_iload_n (pc := 10) N d9_10 rfl ?_
      refine k_imul (pc := 11) N d9_11 ?_
      rw [show ((2 : Int32) * (2 : Int32)) = (4 : Int32) by decide]
      refine k_iconst (pc := 12) N d9_12 (v := (1 : Int32)) (by decide) ?_
      refine k_iadd (pc := 13) N d9_13 ?_
      rw [show ((4 : Int32) + (1 : Int32)) = (5 : Int32) by decide]
      refine k_aload_n (pc := 14) N d9_14 rfl rfl ?_
      refine k_get (pc := 15) (host := "") N 0 4 d9_15 (Or.inl (hw _ (List.mem_of_getElem? (i := 35) rfl))) Via.refl rfl rfl fun T N => ?_
      refine k_icmp_ge (pc := 18) N d9_18 (pc' := 101) (by decide) (fun _ => ?_) (fun qQ => absurd qQ (by decide))
      refine k_aload_n (pc := 101) N d9_101 rfl rfl ?_
      refine k_iload_n (pc := 102) N d9_102 rfl ?_
      refine k_iload_n (pc := 103) N d9_103 rfl ?_
      refine k_private (pc := 104) N (y := (⟨"com/example/freshline/freshline/schedule/CandidateQueue", "move", "(II)V"⟩ : MethodName)) (rest := []) [.int (nd (h 0)), .int (2 : Int32)] (a := qa) 0 d9_104 rfl (hw _ (List.mem_of_getElem? (i := 9) rfl)) (hw _ (List.mem_of_getElem? (i := 41) rfl)) (hw _ (List.mem_of_getElem? (i := 42) rfl)) (hw _ (List.mem_of_getElem? (i := 43) rfl)) (hw _ (List.mem_of_getElem? (i := 10) rfl)) (hw _ (List.mem_of_getElem? (i := 44) rfl)) (by decide) pd__II_V rfl (c_move l Z a0 hw qa ah ap ar ax kh kp kr ks (4 : Int32) (upd h 0 (h 2)) (upd p (h 2) (nd 0)) a b (h 0) 2 l0 (by decide) rest) rfl rfl 0 rfl (by decide) (by decide) (cells' := 0) rfl (slots' := 0) rfl (by decide) (by decide) fun T vV K' N qQ => ?_
      obtain ⟨rfl, rfl⟩ := qQ
      refine k_return (pc := 107) N d9_107 rfl (by decide) (by decide) ?_
      refine ⟨(upd (upd h 0 (h 2)) 2 (h 0)), (upd (upd p (h 2) (nd 0)) (h 0) (nd 2)), rfl, rfl, O1.fill, Okh.all hO (by decide) O1 S1, ?_⟩
      show Hw 4 (ky a b (h 2)) (ky a b (h 1)) (ky a b (h 0)) (ky a b (h 3))
      unfold HD Hd at hD
      unfold Hw
      omega
    · have q2 := of_ifn c77
      refine k_goto (pc := 80) N d9_80 (pc' := 101) (by decide) ?_
      refine k_aload_n (pc := 101) N d9_101 rfl rfl ?_
      refine k_iload_n (pc := 102) N d9_102 rfl ?_
      refine k_iload_n (pc := 103) N d9_103 rfl ?_
      refine k_private (pc := 104) N (y := (⟨"com/example/freshline/freshline/schedule/CandidateQueue", "move", "(II)V"⟩ : MethodName)) (rest := []) [.int (nd (h 0)), .int (0 : Int32)] (a := qa) 0 d9_104 rfl (hw _ (List.mem_of_getElem? (i := 9) rfl)) (hw _ (List.mem_of_getElem? (i := 41) rfl)) (hw _ (List.mem_of_getElem? (i := 42) rfl)) (hw _ (List.mem_of_getElem? (i := 43) rfl)) (hw _ (List.mem_of_getElem? (i := 10) rfl)) (hw _ (List.mem_of_getElem? (i := 44) rfl)) (by decide) pd__II_V rfl (c_move l Z a0 hw qa ah ap ar ax kh kp kr ks (4 : Int32) h p a b (h 0) 0 l0 (by decide) rest) rfl rfl 0 rfl (by decide) (by decide) (cells' := 0) rfl (slots' := 0) rfl (by decide) (by decide) fun T vV K' N qQ => ?_
      obtain ⟨rfl, rfl⟩ := qQ
      refine k_return (pc := 107) N d9_107 rfl (by decide) (by decide) ?_
      refine ⟨(upd h 0 (h 0)), (upd p (h 0) (nd 0)), rfl, rfl, O0.fill, Okh.all hO (by decide) O0 S0, ?_⟩
      show Hw 4 (ky a b (h 0)) (ky a b (h 1)) (ky a b (h 2)) (ky a b (h 3))
      unfold HD Hd at hD
      unfold Hw
      omega
set_option maxRecDepth 65536 in
theorem ef_c_down1_4 (m : MethodId) (z0 : Addr) (z1 : Int32) : entryFrame m ([.ref z0, .int z1] : List Value).toArray 5 = mkF m 0 #[.val (.ref z0), .val (.int z1), .unset, .unset, .unset] [] := by first | (simp [entryFrame, mkF, argsToLocals, Value.category]; done) | rfl
def rm_c_down1_4 : Room := { frames := 5, cells := 0, slots := 0, locals := 85 }
set_option maxRecDepth 65536 in
set_option maxHeartbeats 40000000 in
theorem c_down1_4 (l : Launch) (Z : State) (a0 : Array Value) (hw : ∀ d ∈ tables_1, d.before a0 Z = true) (qa ah ap ar ax : Addr) (kh kp kr ks : ClassId) (h : Nat → Nat) (p a b : Nat → Int32) (hO : Ok 4 h p) (hD : HD 4 1 (ky a b) h) (rest : List Ent) :
    OMeets l (⟨"com/example/freshline/freshline/schedule/CandidateQueue", "siftDown", "(I)V"⟩ : MethodName) prog_52_method_9_code 5 none rm_c_down1_4 Z [.ref qa, .int (1 : Int32)] ((oCq Z qa (.ref ah) (.ref ap) (.ref ar) (.ref ax) (.int (4 : Int32))) :: (oArr Z ah kh .int (hA h)) :: (oArr Z ap kp .int (iA p)) :: (oArr Z ar kr .double (rA a)) :: (oArr Z ax ks .double (rA b)) :: rest) (fun v K => ∃ (h' : Nat → Nat) (p' : Nat → Int32), v = none ∧ K = (oCq Z qa (.ref ah) (.ref ap) (.ref ar) (.ref ax) (.int (4 : Int32))) :: (oArr Z ah kh .int (hA h')) :: (oArr Z ap kp .int (iA p')) :: (oArr Z ar kr .double (rA a)) :: (oArr Z ax ks .double (rA b)) :: rest ∧ Ok 4 h' p' ∧ All p p' ∧ HW 4 (ky a b) h') := by
  refine OMeets.of_body (plainFor_of_name pn_com_example_freshline_freshline_schedule_CandidateQueue) #[.val (.ref qa), .val (.int (1 : Int32)), .unset, .unset, .unset] (fun m => ef_c_down1_4 m qa (1 : Int32)) fun pP eE sS mM bB hH cC T N => ?_
  have l0 := (hO.atp 0 (by decide)).1
  have l1 := (hO.atp 1 (by decide)).1
  have l2 := (hO.atp 2 (by decide)).1
  have l3 := (hO.atp 3 (by decide)).1
  refine k_aload_n (pc := 0) N d9_0 rfl rfl ?_
  refine k_get (pc := 1) (host := "") N 0 0 d9_1 (Or.inl (hw _ (List.mem_of_getElem? (i := 17) rfl))) Via.refl rfl rfl fun T N => ?_
  refine k_iload_n (pc := 4) N d9_4 rfl ?_
  refine k_iaload (pc := 5) N 1 1 d9_5 rfl (by decide) (by decide) (v := .int (nd (h 1))) rfl ?_
  refine k_istore_n (pc := 6) N d9_6 (Ls' := #[.val (.ref qa), .val (.int (1 : Int32)), .val (.int (nd (h 1))), .unset, .unset]) rfl ?_
  have O0 := hO.hole (c := 1) (by decide)
  have S0 := Same.refl p (h 1)
  refine k_iload_n (pc := 7) N d9_7 rfl ?_
  refine k_istore_n (pc := 8) N d9_8 (Ls' := #[.val (.ref qa), .val (.int (1 : Int32)), .val (.int (nd (h 1))), .val (.int (1 : Int32)), .unset]) rfl ?_
  refine k_iconst (pc := 9) N d9_9 (v := (2 : Int32)) (by decide) ?_
  refine k_iload_n (pc := 10) N d9_10 rfl ?_
  refine k_imul (pc := 11) N d9_11 ?_
  rw [show ((2 : Int32) * (1 : Int32)) = (2 : Int32) by decide]
  refine k_iconst (pc := 12) N d9_12 (v := (1 : Int32)) (by decide) ?_
  refine k_iadd (pc := 13) N d9_13 ?_
  rw [show ((2 : Int32) + (1 : Int32)) = (3 : Int32) by decide]
  refine k_aload_n (pc := 14) N d9_14 rfl rfl ?_
  refine k_get (pc := 15) (host := "") N 0 4 d9_15 (Or.inl (hw _ (List.mem_of_getElem? (i := 35) rfl))) Via.refl rfl rfl fun T N => ?_
  refine k_icmp_ge (pc := 18) N d9_18 (pc' := 101) (by decide) (fun qQ => absurd qQ (by decide)) (fun _ => ?_)
  refine k_iconst (pc := 21) N d9_21 (v := (2 : Int32)) (by decide) ?_
  refine k_iload_n (pc := 22) N d9_22 rfl ?_
  refine k_imul (pc := 23) N d9_23 ?_
  rw [show ((2 : Int32) * (1 : Int32)) = (2 : Int32) by decide]
  refine k_iconst (pc := 24) N d9_24 (v := (1 : Int32)) (by decide) ?_
  refine k_iadd (pc := 25) N d9_25 ?_
  rw [show ((2 : Int32) + (1 : Int32)) = (3 : Int32) by decide]
  refine k_istore (pc := 26) N d9_26 (Ls' := #[.val (.ref qa), .val (.int (1 : Int32)), .val (.int (nd (h 1))), .val (.int (1 : Int32)), .val (.int (3 : Int32))]) rfl ?_
  refine k_iload (pc := 28) N d9_28 rfl ?_
  refine k_iconst (pc := 30) N d9_30 (v := (1 : Int32)) (by decide) ?_
  refine k_iadd (pc := 31) N d9_31 ?_
  rw [show ((3 : Int32) + (1 : Int32)) = (4 : Int32) by decide]
  refine k_aload_n (pc := 32) N d9_32 rfl rfl ?_
  refine k_get (pc := 33) (host := "") N 0 4 d9_33 (Or.inl (hw _ (List.mem_of_getElem? (i := 35) rfl))) Via.refl rfl rfl fun T N => ?_
  refine k_icmp_ge (pc := 36) N d9_36 (pc' := 65) (by decide) (fun _ => ?_) (fun qQ => absurd qQ (by decide))
  refine k_aload_n (pc := 65) N d9_65 rfl rfl ?_
  refine k_aload_n (pc := 66) N d9_66 rfl rfl ?_
  refine k_get (pc := 67) (host := "") N 0 0 d9_67 (Or.inl (hw _ (List.mem_of_getElem? (i := 17) rfl))) Via.refl rfl rfl fun T N => ?_
  refine k_iload (pc := 70) N d9_70 rfl ?_
  refine k_iaload (pc := 72) N 1 3 d9_72 rfl (by decide) (by decide) (v := .int (nd (h 3))) rfl ?_
  refine k_iload_n (pc := 73) N d9_73 rfl ?_
  refine k_private (pc := 74) N (y := (⟨"com/example/freshline/freshline/schedule/CandidateQueue", "precedes", "(II)Z"⟩ : MethodName)) (rest := []) [.int (nd (h 3)), .int (nd (h 1))] (a := qa) 0 d9_74 rfl (hw _ (List.mem_of_getElem? (i := 9) rfl)) (hw _ (List.mem_of_getElem? (i := 49) rfl)) (hw _ (List.mem_of_getElem? (i := 50) rfl)) (hw _ (List.mem_of_getElem? (i := 51) rfl)) (hw _ (List.mem_of_getElem? (i := 10) rfl)) (hw _ (List.mem_of_getElem? (i := 52) rfl)) (by decide) pd__II_Z rfl (c_prec2 l Z a0 hw qa ah ap ar ax kh kp kr ks (4 : Int32) h p a b (h 3) (h 1) l3 l1 rest) rfl rfl 0 rfl (by decide) (by decide) (cells' := 0) rfl (slots' := 0) rfl (by decide) (by decide) fun T vV K' N qQ => ?_
  obtain ⟨rfl, rfl⟩ := qQ
  refine k_if_ne (pc := 77) N d9_77 (pc' := 83) (by decide) (fun c77 => ?_) (fun c77 => ?_)
  · have q3 := of_if c77
    refine k_aload_n (pc := 83) N d9_83 rfl rfl ?_
    refine k_aload_n (pc := 84) N d9_84 rfl rfl ?_
    refine k_get (pc := 85) (host := "") N 0 0 d9_85 (Or.inl (hw _ (List.mem_of_getElem? (i := 17) rfl))) Via.refl rfl rfl fun T N => ?_
    refine k_iload (pc := 88) N d9_88 rfl ?_
    refine k_iaload (pc := 90) N 1 3 d9_90 rfl (by decide) (by decide) (v := .int (nd (h 3))) rfl ?_
    refine k_iload_n (pc := 91) N d9_91 rfl ?_
    refine k_private (pc := 92) N (y := (⟨"com/example/freshline/freshline/schedule/CandidateQueue", "move", "(II)V"⟩ : MethodName)) (rest := []) [.int (nd (h 3)), .int (1 : Int32)] (a := qa) 0 d9_92 rfl (hw _ (List.mem_of_getElem? (i := 9) rfl)) (hw _ (List.mem_of_getElem? (i := 41) rfl)) (hw _ (List.mem_of_getElem? (i := 42) rfl)) (hw _ (List.mem_of_getElem? (i := 43) rfl)) (hw _ (List.mem_of_getElem? (i := 10) rfl)) (hw _ (List.mem_of_getElem? (i := 44) rfl)) (by decide) pd__II_V rfl (c_move l Z a0 hw qa ah ap ar ax kh kp kr ks (4 : Int32) h p a b (h 3) 1 l3 (by decide) rest) rfl rfl 0 rfl (by decide) (by decide) (cells' := 0) rfl (slots' := 0) rfl (by decide) (by decide) fun T vV K' N qQ => ?_
    obtain ⟨rfl, rfl⟩ := qQ
    have O1 := O0.step (d := 3) (by omega) (by decide)
    have S1 := Same.trans S0 (O0.step_same (d := 3) (by omega) (by decide))
    refine k_iload (pc := 95) N d9_95 rfl ?_
    refine k_istore_n (pc := 97) N d9_97 (Ls' := #[.val (.ref qa), .val (.int (1 : Int32)), .val (.int (nd (h 1))), .val (.int (3 : Int32)), .val (.int (3 : Int32))]) rfl ?_
    refine k_goto (pc := 98) N d9_98 (pc' := 9) (by decide) ?_
    refine k_iconst (pc := 9) N d9_9 (v := (2 : Int32)) (by decide) ?_
    refine k_iload_n (pc := 10) N d9_10 rfl ?_
    refine k_imul (pc := 11) N d9_11 ?_
    rw [show ((2 : Int32) * (3 : Int32)) = (6 : Int32) by decide]
    refine k_iconst (pc := 12) N d9_12 (v := (1 : Int32)) (by decide) ?_
    refine k_iadd (pc := 13) N d9_13 ?_
    rw [show ((6 : Int32) + (1 : Int32)) = (7 : Int32) by decide]
    refine k_aload_n (pc := 14) N d9_14 rfl rfl ?_
    refine k_get (pc := 15) (host := "") N 0 4 d9_15 (Or.inl (hw _ (List.mem_of_getElem? (i := 35) rfl))) Via.refl rfl rfl fun T N => ?_
    refine k_icmp_ge (pc := 18) N d9_18 (pc' := 101) (by decide) (fun _ => ?_) (fun qQ => absurd qQ (by decide))
    refine k_aload_n (pc := 101) N d9_101 rfl rfl ?_
    refine k_iload_n (pc := 102) N d9_102 rfl ?_
    refine k_iload_n (pc := 103) N d9_103 rfl ?_
    refine k_private (pc := 104) N (y := (⟨"com/example/freshline/freshline/schedule/CandidateQueue", "move", "(II)V"⟩ : MethodName)) (rest := []) [.int (nd (h 1)), .int (3 : Int32)] (a := qa) 0 d9_104 rfl (hw _ (List.mem_of_getElem? (i := 9) rfl)) (hw _ (List.mem_of_getElem? (i := 41) rfl)) (hw _ (List.mem_of_getElem? (i := 42) rfl)) (hw _ (List.mem_of_getElem? (i := 43) rfl)) (hw _ (List.mem_of_getElem? (i := 10) rfl)) (hw _ (List.mem_of_getElem? (i := 44) rfl)) (by decide) pd__II_V rfl (c_move l Z a0 hw qa ah ap ar ax kh kp kr ks (4 : Int32) (upd h 1 (h 3)) (upd p (h 3) (nd 1)) a b (h 1) 3 l1 (by decide) rest) rfl rfl 0 rfl (by decide) (by decide) (cells' := 0) rfl (slots' := 0) rfl (by decide) (by decide) fun T vV K' N qQ => ?_
    obtain ⟨rfl, rfl⟩ := qQ
    refine k_return (pc := 107) N d9_107 rfl (by decide) (by decide) ?_
    refine ⟨(upd (upd h 1 (h 3)) 3 (h 1)), (upd (upd p (h 3) (nd 1)) (h 1) (nd 3)), rfl, rfl, O1.fill, Okh.all hO (by decide) O1 S1, ?_⟩
    show Hw 4 (ky a b (h 0)) (ky a b (h 3)) (ky a b (h 2)) (ky a b (h 1))
    unfold HD Hd at hD
    unfold Hw
    omega
  · have q3 := of_ifn c77
    refine k_goto (pc := 80) N d9_80 (pc' := 101) (by decide) ?_
    refine k_aload_n (pc := 101) N d9_101 rfl rfl ?_
    refine k_iload_n (pc := 102) N d9_102 rfl ?_
    refine k_iload_n (pc := 103) N d9_103 rfl ?_
    refine k_private (pc := 104) N (y := (⟨"com/example/freshline/freshline/schedule/CandidateQueue", "move", "(II)V"⟩ : MethodName)) (rest := []) [.int (nd (h 1)), .int (1 : Int32)] (a := qa) 0 d9_104 rfl (hw _ (List.mem_of_getElem? (i := 9) rfl)) (hw _ (List.mem_of_getElem? (i := 41) rfl)) (hw _ (List.mem_of_getElem? (i := 42) rfl)) (hw _ (List.mem_of_getElem? (i := 43) rfl)) (hw _ (List.mem_of_getElem? (i := 10) rfl)) (hw _ (List.mem_of_getElem? (i := 44) rfl)) (by decide) pd__II_V rfl (c_move l Z a0 hw qa ah ap ar ax kh kp kr ks (4 : Int32) h p a b (h 1) 1 l1 (by decide) rest) rfl rfl 0 rfl (by decide) (by decide) (cells' := 0) rfl (slots' := 0) rfl (by decide) (by decide) fun T vV K' N qQ => ?_
    obtain ⟨rfl, rfl⟩ := qQ
    refine k_return (pc := 107) N d9_107 rfl (by decide) (by decide) ?_
    refine ⟨(upd h 1 (h 1)), (upd p (h 1) (nd 1)), rfl, rfl, O0.fill, Okh.all hO (by decide) O0 S0, ?_⟩
    show Hw 4 (ky a b (h 0)) (ky a b (h 1)) (ky a b (h 2)) (ky a b (h 3))
    unfold HD Hd at hD
    unfold Hw
    omega
set_option maxRecDepth 65536 in
theorem ef_c_down2_4 (m : MethodId) (z0 : Addr) (z1 : Int32) : entryFrame m ([.ref z0, .int z1] : List Value).toArray 5 = mkF m 0 #[.val (.ref z0), .val (.int z1), .unset, .unset, .unset] [] := by first | (simp [entryFrame, mkF, argsToLocals, Value.category]; done) | rfl
def rm_c_down2_4 : Room := { frames := 5, cells := 0, slots := 0, locals := 85 }
set_option maxRecDepth 65536 in
set_option maxHeartbeats 40000000 in
theorem c_down2_4 (l : Launch) (Z : State) (a0 : Array Value) (hw : ∀ d ∈ tables_1, d.before a0 Z = true) (qa ah ap ar ax : Addr) (kh kp kr ks : ClassId) (h : Nat → Nat) (p a b : Nat → Int32) (hO : Ok 4 h p) (hD : HD 4 2 (ky a b) h) (rest : List Ent) :
    OMeets l (⟨"com/example/freshline/freshline/schedule/CandidateQueue", "siftDown", "(I)V"⟩ : MethodName) prog_52_method_9_code 5 none rm_c_down2_4 Z [.ref qa, .int (2 : Int32)] ((oCq Z qa (.ref ah) (.ref ap) (.ref ar) (.ref ax) (.int (4 : Int32))) :: (oArr Z ah kh .int (hA h)) :: (oArr Z ap kp .int (iA p)) :: (oArr Z ar kr .double (rA a)) :: (oArr Z ax ks .double (rA b)) :: rest) (fun v K => ∃ (h' : Nat → Nat) (p' : Nat → Int32), v = none ∧ K = (oCq Z qa (.ref ah) (.ref ap) (.ref ar) (.ref ax) (.int (4 : Int32))) :: (oArr Z ah kh .int (hA h')) :: (oArr Z ap kp .int (iA p')) :: (oArr Z ar kr .double (rA a)) :: (oArr Z ax ks .double (rA b)) :: rest ∧ Ok 4 h' p' ∧ All p p' ∧ HW 4 (ky a b) h') := by
  refine OMeets.of_body (plainFor_of_name pn_com_example_freshline_freshline_schedule_CandidateQueue) #[.val (.ref qa), .val (.int (2 : Int32)), .unset, .unset, .unset] (fun m => ef_c_down2_4 m qa (2 : Int32)) fun pP eE sS mM bB hH cC T N => ?_
  have l0 := (hO.atp 0 (by decide)).1
  have l1 := (hO.atp 1 (by decide)).1
  have l2 := (hO.atp 2 (by decide)).1
  have l3 := (hO.atp 3 (by decide)).1
  refine k_aload_n (pc := 0) N d9_0 rfl rfl ?_
  refine k_get (pc := 1) (host := "") N 0 0 d9_1 (Or.inl (hw _ (List.mem_of_getElem? (i := 17) rfl))) Via.refl rfl rfl fun T N => ?_
  refine k_iload_n (pc := 4) N d9_4 rfl ?_
  refine k_iaload (pc := 5) N 1 2 d9_5 rfl (by decide) (by decide) (v := .int (nd (h 2))) rfl ?_
  refine k_istore_n (pc := 6) N d9_6 (Ls' := #[.val (.ref qa), .val (.int (2 : Int32)), .val (.int (nd (h 2))), .unset, .unset]) rfl ?_
  have O0 := hO.hole (c := 2) (by decide)
  have S0 := Same.refl p (h 2)
  refine k_iload_n (pc := 7) N d9_7 rfl ?_
  refine k_istore_n (pc := 8) N d9_8 (Ls' := #[.val (.ref qa), .val (.int (2 : Int32)), .val (.int (nd (h 2))), .val (.int (2 : Int32)), .unset]) rfl ?_
  refine k_iconst (pc := 9) N d9_9 (v := (2 : Int32)) (by decide) ?_
  refine k_iload_n (pc := 10) N d9_10 rfl ?_
  refine k_imul (pc := 11) N d9_11 ?_
  rw [show ((2 : Int32) * (2 : Int32)) = (4 : Int32) by decide]
  refine k_iconst (pc := 12) N d9_12 (v := (1 : Int32)) (by decide) ?_
  refine k_iadd (pc := 13) N d9_13 ?_
  rw [show ((4 : Int32) + (1 : Int32)) = (5 : Int32) by decide]
  refine k_aload_n (pc := 14) N d9_14 rfl rfl ?_
  refine k_get (pc := 15) (host := "") N 0 4 d9_15 (Or.inl (hw _ (List.mem_of_getElem? (i := 35) rfl))) Via.refl rfl rfl fun T N => ?_
  refine k_icmp_ge (pc := 18) N d9_18 (pc' := 101) (by decide) (fun _ => ?_) (fun qQ => absurd qQ (by decide))
  refine k_aload_n (pc := 101) N d9_101 rfl rfl ?_
  refine k_iload_n (pc := 102) N d9_102 rfl ?_
  refine k_iload_n (pc := 103) N d9_103 rfl ?_
  refine k_private (pc := 104) N (y := (⟨"com/example/freshline/freshline/schedule/CandidateQueue", "move", "(II)V"⟩ : MethodName)) (rest := []) [.int (nd (h 2)), .int (2 : Int32)] (a := qa) 0 d9_104 rfl (hw _ (List.mem_of_getElem? (i := 9) rfl)) (hw _ (List.mem_of_getElem? (i := 41) rfl)) (hw _ (List.mem_of_getElem? (i := 42) rfl)) (hw _ (List.mem_of_getElem? (i := 43) rfl)) (hw _ (List.mem_of_getElem? (i := 10) rfl)) (hw _ (List.mem_of_getElem? (i := 44) rfl)) (by decide) pd__II_V rfl (c_move l Z a0 hw qa ah ap ar ax kh kp kr ks (4 : Int32) h p a b (h 2) 2 l2 (by decide) rest) rfl rfl 0 rfl (by decide) (by decide) (cells' := 0) rfl (slots' := 0) rfl (by decide) (by decide) fun T vV K' N qQ => ?_
  obtain ⟨rfl, rfl⟩ := qQ
  refine k_return (pc := 107) N d9_107 rfl (by decide) (by decide) ?_
  refine ⟨(upd h 2 (h 2)), (upd p (h 2) (nd 2)), rfl, rfl, O0.fill, Okh.all hO (by decide) O0 S0, ?_⟩
  show Hw 4 (ky a b (h 0)) (ky a b (h 1)) (ky a b (h 2)) (ky a b (h 3))
  unfold HD Hd at hD
  unfold Hw
  omega
set_option maxRecDepth 65536 in
theorem ef_c_down3_4 (m : MethodId) (z0 : Addr) (z1 : Int32) : entryFrame m ([.ref z0, .int z1] : List Value).toArray 5 = mkF m 0 #[.val (.ref z0), .val (.int z1), .unset, .unset, .unset] [] := by first | (simp [entryFrame, mkF, argsToLocals, Value.category]; done) | rfl
def rm_c_down3_4 : Room := { frames := 5, cells := 0, slots := 0, locals := 85 }
set_option maxRecDepth 65536 in
set_option maxHeartbeats 40000000 in
theorem c_down3_4 (l : Launch) (Z : State) (a0 : Array Value) (hw : ∀ d ∈ tables_1, d.before a0 Z = true) (qa ah ap ar ax : Addr) (kh kp kr ks : ClassId) (h : Nat → Nat) (p a b : Nat → Int32) (hO : Ok 4 h p) (hD : HD 4 3 (ky a b) h) (rest : List Ent) :
    OMeets l (⟨"com/example/freshline/freshline/schedule/CandidateQueue", "siftDown", "(I)V"⟩ : MethodName) prog_52_method_9_code 5 none rm_c_down3_4 Z [.ref qa, .int (3 : Int32)] ((oCq Z qa (.ref ah) (.ref ap) (.ref ar) (.ref ax) (.int (4 : Int32))) :: (oArr Z ah kh .int (hA h)) :: (oArr Z ap kp .int (iA p)) :: (oArr Z ar kr .double (rA a)) :: (oArr Z ax ks .double (rA b)) :: rest) (fun v K => ∃ (h' : Nat → Nat) (p' : Nat → Int32), v = none ∧ K = (oCq Z qa (.ref ah) (.ref ap) (.ref ar) (.ref ax) (.int (4 : Int32))) :: (oArr Z ah kh .int (hA h')) :: (oArr Z ap kp .int (iA p')) :: (oArr Z ar kr .double (rA a)) :: (oArr Z ax ks .double (rA b)) :: rest ∧ Ok 4 h' p' ∧ All p p' ∧ HW 4 (ky a b) h') := by
  refine OMeets.of_body (plainFor_of_name pn_com_example_freshline_freshline_schedule_CandidateQueue) #[.val (.ref qa), .val (.int (3 : Int32)), .unset, .unset, .unset] (fun m => ef_c_down3_4 m qa (3 : Int32)) fun pP eE sS mM bB hH cC T N => ?_
  have l0 := (hO.atp 0 (by decide)).1
  have l1 := (hO.atp 1 (by decide)).1
  have l2 := (hO.atp 2 (by decide)).1
  have l3 := (hO.atp 3 (by decide)).1
  refine k_aload_n (pc := 0) N d9_0 rfl rfl ?_
  refine k_get (pc := 1) (host := "") N 0 0 d9_1 (Or.inl (hw _ (List.mem_of_getElem? (i := 17) rfl))) Via.refl rfl rfl fun T N => ?_
  refine k_iload_n (pc := 4) N d9_4 rfl ?_
  refine k_iaload (pc := 5) N 1 3 d9_5 rfl (by decide) (by decide) (v := .int (nd (h 3))) rfl ?_
  refine k_istore_n (pc := 6) N d9_6 (Ls' := #[.val (.ref qa), .val (.int (3 : Int32)), .val (.int (nd (h 3))), .unset, .unset]) rfl ?_
  have O0 := hO.hole (c := 3) (by decide)
  have S0 := Same.refl p (h 3)
  refine k_iload_n (pc := 7) N d9_7 rfl ?_
  refine k_istore_n (pc := 8) N d9_8 (Ls' := #[.val (.ref qa), .val (.int (3 : Int32)), .val (.int (nd (h 3))), .val (.int (3 : Int32)), .unset]) rfl ?_
  refine k_iconst (pc := 9) N d9_9 (v := (2 : Int32)) (by decide) ?_
  refine k_iload_n (pc := 10) N d9_10 rfl ?_
  refine k_imul (pc := 11) N d9_11 ?_
  rw [show ((2 : Int32) * (3 : Int32)) = (6 : Int32) by decide]
  refine k_iconst (pc := 12) N d9_12 (v := (1 : Int32)) (by decide) ?_
  refine k_iadd (pc := 13) N d9_13 ?_
  rw [show ((6 : Int32) + (1 : Int32)) = (7 : Int32) by decide]
  refine k_aload_n (pc := 14) N d9_14 rfl rfl ?_
  refine k_get (pc := 15) (host := "") N 0 4 d9_15 (Or.inl (hw _ (List.mem_of_getElem? (i := 35) rfl))) Via.refl rfl rfl fun T N => ?_
  refine k_icmp_ge (pc := 18) N d9_18 (pc' := 101) (by decide) (fun _ => ?_) (fun qQ => absurd qQ (by decide))
  refine k_aload_n (pc := 101) N d9_101 rfl rfl ?_
  refine k_iload_n (pc := 102) N d9_102 rfl ?_
  refine k_iload_n (pc := 103) N d9_103 rfl ?_
  refine k_private (pc := 104) N (y := (⟨"com/example/freshline/freshline/schedule/CandidateQueue", "move", "(II)V"⟩ : MethodName)) (rest := []) [.int (nd (h 3)), .int (3 : Int32)] (a := qa) 0 d9_104 rfl (hw _ (List.mem_of_getElem? (i := 9) rfl)) (hw _ (List.mem_of_getElem? (i := 41) rfl)) (hw _ (List.mem_of_getElem? (i := 42) rfl)) (hw _ (List.mem_of_getElem? (i := 43) rfl)) (hw _ (List.mem_of_getElem? (i := 10) rfl)) (hw _ (List.mem_of_getElem? (i := 44) rfl)) (by decide) pd__II_V rfl (c_move l Z a0 hw qa ah ap ar ax kh kp kr ks (4 : Int32) h p a b (h 3) 3 l3 (by decide) rest) rfl rfl 0 rfl (by decide) (by decide) (cells' := 0) rfl (slots' := 0) rfl (by decide) (by decide) fun T vV K' N qQ => ?_
  obtain ⟨rfl, rfl⟩ := qQ
  refine k_return (pc := 107) N d9_107 rfl (by decide) (by decide) ?_
  refine ⟨(upd h 3 (h 3)), (upd p (h 3) (nd 3)), rfl, rfl, O0.fill, Okh.all hO (by decide) O0 S0, ?_⟩
  show Hw 4 (ky a b (h 0)) (ky a b (h 1)) (ky a b (h 2)) (ky a b (h 3))
  unfold HD Hd at hD
  unfold Hw
  omega
set_option maxHeartbeats 4000000 in
theorem c_up (l : Launch) (Z : State) (a0 : Array Value) (hw : ∀ d ∈ tables_1, d.before a0 Z = true) (qa ah ap ar ax : Addr) (kh kp kr ks : ClassId) (sz : Int32) (h : Nat → Nat) (p a b : Nat → Int32) (n c : Nat) (hO : Ok n h p) (hc : c < n) (hX : HX n c (ky a b) h) (rest : List Ent) :
    OMeets l (⟨"com/example/freshline/freshline/schedule/CandidateQueue", "siftUp", "(I)I"⟩ : MethodName) prog_52_method_8_code 5 (some .int) rm_c_up0 Z [.ref qa, .int (nd c)] ((oCq Z qa (.ref ah) (.ref ap) (.ref ar) (.ref ax) (.int sz)) :: (oArr Z ah kh .int (hA h)) :: (oArr Z ap kp .int (iA p)) :: (oArr Z ar kr .double (rA a)) :: (oArr Z ax ks .double (rA b)) :: rest) (fun v K => ∃ (h' : Nat → Nat) (p' : Nat → Int32) (d : Nat), d < n ∧ v = some (.int (nd d)) ∧ K = (oCq Z qa (.ref ah) (.ref ap) (.ref ar) (.ref ax) (.int sz)) :: (oArr Z ah kh .int (hA h')) :: (oArr Z ap kp .int (iA p')) :: (oArr Z ar kr .double (rA a)) :: (oArr Z ax ks .double (rA b)) :: rest ∧ Ok n h' p' ∧ All p p' ∧ HD n d (ky a b) h') := by
  have le := hO.le
  rcases lt4 (show c < 4 by omega) with rfl | rfl | rfl | rfl
  · exact c_up0 l Z a0 hw qa ah ap ar ax kh kp kr ks sz h p a b n hO hc hX rest
  · exact c_up1 l Z a0 hw qa ah ap ar ax kh kp kr ks sz h p a b n hO hc hX rest
  · exact c_up2 l Z a0 hw qa ah ap ar ax kh kp kr ks sz h p a b n hO hc hX rest
  · exact c_up3 l Z a0 hw qa ah ap ar ax kh kp kr ks sz h p a b n hO hc hX rest
set_option maxHeartbeats 4000000 in
theorem c_down (l : Launch) (Z : State) (a0 : Array Value) (hw : ∀ d ∈ tables_1, d.before a0 Z = true) (qa ah ap ar ax : Addr) (kh kp kr ks : ClassId) (h : Nat → Nat) (p a b : Nat → Int32) (n c : Nat) (hO : Ok n h p) (hc : c < n) (hD : HD n c (ky a b) h) (rest : List Ent) :
    OMeets l (⟨"com/example/freshline/freshline/schedule/CandidateQueue", "siftDown", "(I)V"⟩ : MethodName) prog_52_method_9_code 5 none rm_c_down0_1 Z [.ref qa, .int (nd c)] ((oCq Z qa (.ref ah) (.ref ap) (.ref ar) (.ref ax) (.int (nd n))) :: (oArr Z ah kh .int (hA h)) :: (oArr Z ap kp .int (iA p)) :: (oArr Z ar kr .double (rA a)) :: (oArr Z ax ks .double (rA b)) :: rest) (fun v K => ∃ (h' : Nat → Nat) (p' : Nat → Int32), v = none ∧ K = (oCq Z qa (.ref ah) (.ref ap) (.ref ar) (.ref ax) (.int (nd n))) :: (oArr Z ah kh .int (hA h')) :: (oArr Z ap kp .int (iA p')) :: (oArr Z ar kr .double (rA a)) :: (oArr Z ax ks .double (rA b)) :: rest ∧ Ok n h' p' ∧ All p p' ∧ HW n (ky a b) h') := by
  have le := hO.le
  rcases lt4 (show c < 4 by omega) with rfl | rfl | rfl | rfl
  · rcases (show n = 1 ∨ n = 2 ∨ n = 3 ∨ n = 4 by omega) with rfl | rfl | rfl | rfl
    · exact c_down0_1 l Z a0 hw qa ah ap ar ax kh kp kr ks h p a b hO hD rest
    · exact c_down0_2 l Z a0 hw qa ah ap ar ax kh kp kr ks h p a b hO hD rest
    · exact c_down0_3 l Z a0 hw qa ah ap ar ax kh kp kr ks h p a b hO hD rest
    · exact c_down0_4 l Z a0 hw qa ah ap ar ax kh kp kr ks h p a b hO hD rest
  · rcases (show n = 2 ∨ n = 3 ∨ n = 4 by omega) with rfl | rfl | rfl
    · exact c_down1_2 l Z a0 hw qa ah ap ar ax kh kp kr ks h p a b hO hD rest
    · exact c_down1_3 l Z a0 hw qa ah ap ar ax kh kp kr ks h p a b hO hD rest
    · exact c_down1_4 l Z a0 hw qa ah ap ar ax kh kp kr ks h p a b hO hD rest
  · rcases (show n = 3 ∨ n = 4 by omega) with rfl | rfl
    · exact c_down2_3 l Z a0 hw qa ah ap ar ax kh kp kr ks h p a b hO hD rest
    · exact c_down2_4 l Z a0 hw qa ah ap ar ax kh kp kr ks h p a b hO hD rest
  · obtain rfl : n = 4 := by omega
    exact c_down3_4 l Z a0 hw qa ah ap ar ax kh kp kr ks h p a b hO hD rest
def Put (p p' : Nat → Int32) (x : Nat) : Prop := ∀ y, y < 4 → (p' y = -1 ↔ p y = -1 ∧ y ≠ x)
def Rem (p p' : Nat → Int32) (x : Nat) : Prop := ∀ y, y < 4 → (p' y = -1 ↔ p y = -1 ∨ y = x)
theorem put_mem_new {p p2 : Nat → Int32} {x n : Nat} (e : p x = -1) (hn : n < 4) (A : All (upd p x (nd n)) p2) : Put p p2 x := fun y hy => by
  rw [A y hy]
  by_cases q : y = x
  · subst q; rw [upd_here]; exact ⟨fun z => absurd z (nd_ne (by omega)), fun z => absurd rfl z.2⟩
  · rw [upd_ne _ _ q]; exact ⟨fun z => ⟨z, q⟩, fun z => z.1⟩
theorem put_mem_old {p p2 : Nat → Int32} {x : Nat} (A : All p p2) (e : ¬ p x = -1) : Put p p2 x := fun y hy => by
  rw [A y hy]
  exact ⟨fun z => ⟨z, fun q => e (q ▸ z)⟩, fun z => z.1⟩
theorem rem_none {p : Nat → Int32} {x : Nat} (e : p x = -1) : Rem p p x := fun y hy => ⟨Or.inl, fun z => z.elim id fun q => q ▸ e⟩
theorem rem_last {p : Nat → Int32} {x : Nat} : Rem p (upd p x (-1)) x := fun y hy => by
  by_cases q : y = x
  · subst q; rw [upd_here]; exact ⟨fun _ => Or.inr rfl, fun _ => rfl⟩
  · rw [upd_ne _ _ q]; exact ⟨Or.inl, fun z => z.elim id fun e => absurd e q⟩
theorem rem_gap {p p2 : Nat → Int32} {x w i m : Nat} (hw : p w = nd m) (hm : m < 5) (ne : w ≠ x) (hi : i < 5) (A : All (upd (upd p x (-1)) w (nd i)) p2) : Rem p p2 x := fun y hy => by
  rw [A y hy]
  by_cases r : y = w
  · subst r; rw [upd_here, hw]; exact ⟨fun z => absurd z (nd_ne hi), fun z => z.elim (fun e => absurd e (nd_ne hm)) fun e => absurd e ne⟩
  · rw [upd_ne _ _ r]; exact rem_last y hy
set_option maxRecDepth 65536 in
theorem ef_c_put (m : MethodId) (z0 : Addr) (z1 : Int32) (z2 : UInt64) (z3 : UInt64) : entryFrame m ([.ref z0, .int z1, .double z2, .double z3] : List Value).toArray 7 = mkF m 0 #[.val (.ref z0), .val (.int z1), .val (.double z2), .second, .val (.double z3), .second, .unset] [] := by first | (simp [entryFrame, mkF, argsToLocals, Value.category]; done) | rfl
def rm_c_put : Room := { frames := 6, cells := 0, slots := 0, locals := 102 }
set_option maxRecDepth 65536 in
set_option maxHeartbeats 40000000 in
theorem c_put (l : Launch) (Z : State) (a0 : Array Value) (hw : ∀ d ∈ tables_1, d.before a0 Z = true) (qa ah ap ar ax : Addr) (kh kp kr ks : ClassId) (n : Nat) (h : Nat → Nat) (p a b : Nat → Int32) (hO : Ok n h p) (hW : HW n (ky a b) h) (x : Nat) (hx : x < 4) (u v : Int32) (rest : List Ent) :
    OMeets l (⟨"com/example/freshline/freshline/schedule/CandidateQueue", "put", "(IDD)V"⟩ : MethodName) prog_52_method_3_code 7 none rm_c_put Z [.ref qa, .int (nd x), .double (FP.i2d u), .double (FP.i2d v)] ((oCq Z qa (.ref ah) (.ref ap) (.ref ar) (.ref ax) (.int (nd n))) :: (oArr Z ah kh .int (hA h)) :: (oArr Z ap kp .int (iA p)) :: (oArr Z ar kr .double (rA a)) :: (oArr Z ax ks .double (rA b)) :: rest) (fun v_ K => ∃ (n' : Nat) (h' : Nat → Nat) (p' a' b' : Nat → Int32), Ok n' h' p' ∧ HW n' (ky a' b') h' ∧ Put p p' x ∧ a' = upd a x u ∧ b' = upd b x v ∧ v_ = none ∧ K = (oCq Z qa (.ref ah) (.ref ap) (.ref ar) (.ref ax) (.int (nd n'))) :: (oArr Z ah kh .int (hA h')) :: (oArr Z ap kp .int (iA p')) :: (oArr Z ar kr .double (rA a')) :: (oArr Z ax ks .double (rA b')) :: rest) := by
  refine OMeets.of_body (plainFor_of_name pn_com_example_freshline_freshline_schedule_CandidateQueue) #[.val (.ref qa), .val (.int (nd x)), .val (.double (FP.i2d u)), .second, .val (.double (FP.i2d v)), .second, .unset] (fun m => ef_c_put m qa (nd x) (FP.i2d u) (FP.i2d v)) fun pP eE sS mM bB hH cC T N => ?_
  refine k_aload_n (pc := 0) N d6_0 rfl rfl ?_
  refine k_get (pc := 1) (host := "") N 0 2 d6_1 (Or.inl (hw _ (List.mem_of_getElem? (i := 22) rfl))) Via.refl rfl rfl fun T N => ?_
  refine k_iload_n (pc := 4) N d6_4 rfl ?_
  refine k_dload_n (pc := 5) N d6_5 rfl ?_
  refine k_dastore (pc := 6) N 3 x d6_6 rfl (nd_nn (Nat.lt_succ_of_lt hx)) (nd_nat (Nat.lt_succ_of_lt hx)) (show x < 4 from hx) (v := .double (FP.i2d u)) rfl (K' := ((oCq Z qa (.ref ah) (.ref ap) (.ref ar) (.ref ax) (.int (nd n))) :: (oArr Z ah kh .int (hA h)) :: (oArr Z ap kp .int (iA p)) :: (oArr Z ar kr .double (rA (upd a x u))) :: (oArr Z ax ks .double (rA b)) :: rest)) (by rw [set_rA (show x < 4 from hx)]; rfl) fun T N => ?_
  refine k_aload_n (pc := 7) N d6_7 rfl rfl ?_
  refine k_get (pc := 8) (host := "") N 0 3 d6_8 (Or.inl (hw _ (List.mem_of_getElem? (i := 24) rfl))) Via.refl rfl rfl fun T N => ?_
  refine k_iload_n (pc := 11) N d6_11 rfl ?_
  refine k_dload (pc := 12) N d6_12 rfl ?_
  refine k_dastore (pc := 14) N 4 x d6_14 rfl (nd_nn (Nat.lt_succ_of_lt hx)) (nd_nat (Nat.lt_succ_of_lt hx)) (show x < 4 from hx) (v := .double (FP.i2d v)) rfl (K' := ((oCq Z qa (.ref ah) (.ref ap) (.ref ar) (.ref ax) (.int (nd n))) :: (oArr Z ah kh .int (hA h)) :: (oArr Z ap kp .int (iA p)) :: (oArr Z ar kr .double (rA (upd a x u))) :: (oArr Z ax ks .double (rA (upd b x v))) :: rest)) (by rw [set_rA (show x < 4 from hx)]; rfl) fun T N => ?_
  refine k_aload_n (pc := 15) N d6_15 rfl rfl ?_
  refine k_get (pc := 16) (host := "") N 0 1 d6_16 (Or.inl (hw _ (List.mem_of_getElem? (i := 19) rfl))) Via.refl rfl rfl fun T N => ?_
  refine k_iload_n (pc := 19) N d6_19 rfl ?_
  refine k_iaload (pc := 20) N 2 x d6_20 rfl (nd_nn (Nat.lt_succ_of_lt hx)) (nd_nat (Nat.lt_succ_of_lt hx)) (v := .int (p x)) (arr4_get hx) ?_
  refine k_istore (pc := 21) N d6_21 (Ls' := #[.val (.ref qa), .val (.int (nd x)), .val (.double (FP.i2d u)), .second, .val (.double (FP.i2d v)), .second, .val (.int (p x))]) rfl ?_
  refine k_iload (pc := 23) N d6_23 rfl ?_
  refine k_iconst (pc := 25) N d6_25 (v := (-1 : Int32)) (by decide) ?_
  refine k_icmp_ne (pc := 26) N d6_26 (pc' := 61) (by decide) (fun c26 => ?_) (fun c26 => ?_)
  · obtain ⟨i, hi, hix, hpi⟩ := hO.some hx c26
    rw [hpi]
    refine k_aload_n (pc := 61) N d6_61 rfl rfl ?_
    refine k_aload_n (pc := 62) N d6_62 rfl rfl ?_
    refine k_iload (pc := 63) N d6_63 rfl ?_
    refine k_private (pc := 65) N (y := (⟨"com/example/freshline/freshline/schedule/CandidateQueue", "siftUp", "(I)I"⟩ : MethodName)) (rest := [.ref qa]) [.int (nd i)] (a := qa) 0 d6_65 rfl (hw _ (List.mem_of_getElem? (i := 9) rfl)) (hw _ (List.mem_of_getElem? (i := 37) rfl)) (hw _ (List.mem_of_getElem? (i := 38) rfl)) (hw _ (List.mem_of_getElem? (i := 39) rfl)) (hw _ (List.mem_of_getElem? (i := 10) rfl)) (hw _ (List.mem_of_getElem? (i := 40) rfl)) (by decide) pd__I_I rfl (c_up l Z a0 hw qa ah ap ar ax kh kp kr ks (nd n) h p (upd a x u) (upd b x v) n i hO hi (put_old hO hW hi hix) rest) rfl rfl 1 rfl (by decide) (by decide) (cells' := 0) rfl (slots' := 0) rfl (by decide) (by decide) fun T vV K' N qQ => ?_
    obtain ⟨h1, p1, d, hd, rfl, rfl, hO1, hA1, hD1⟩ := qQ
    refine k_private (pc := 68) N (y := (⟨"com/example/freshline/freshline/schedule/CandidateQueue", "siftDown", "(I)V"⟩ : MethodName)) (rest := []) [.int (nd d)] (a := qa) 0 d6_68 rfl (hw _ (List.mem_of_getElem? (i := 9) rfl)) (hw _ (List.mem_of_getElem? (i := 45) rfl)) (hw _ (List.mem_of_getElem? (i := 46) rfl)) (hw _ (List.mem_of_getElem? (i := 47) rfl)) (hw _ (List.mem_of_getElem? (i := 10) rfl)) (hw _ (List.mem_of_getElem? (i := 48) rfl)) (by decide) pd__I_V rfl (c_down l Z a0 hw qa ah ap ar ax kh kp kr ks h1 p1 (upd a x u) (upd b x v) n d hO1 hd hD1 rest) rfl rfl 0 rfl (by decide) (by decide) (cells' := 0) rfl (slots' := 0) rfl (by decide) (by decide) fun T vV K' N qQ => ?_
    obtain ⟨h2, p2, rfl, rfl, hO2, hA2, hW2⟩ := qQ
    exact k_return (pc := 71) N d6_71 rfl (by decide) (by decide) ⟨n, h2, p2, upd a x u, upd b x v, hO2, hW2, put_mem_old (All.trans hA1 hA2) c26, rfl, rfl, rfl, rfl⟩
  · refine k_aload_n (pc := 29) N d6_29 rfl rfl ?_
    refine k_get (pc := 30) (host := "") N 0 4 d6_30 (Or.inl (hw _ (List.mem_of_getElem? (i := 35) rfl))) Via.refl rfl rfl fun T N => ?_
    refine k_istore (pc := 33) N d6_33 (Ls' := #[.val (.ref qa), .val (.int (nd x)), .val (.double (FP.i2d u)), .second, .val (.double (FP.i2d v)), .second, .val (.int (nd n))]) rfl ?_
    refine k_aload_n (pc := 35) N d6_35 rfl rfl ?_
    refine k_dup (pc := 36) N d6_36 rfl ?_
    refine k_get (pc := 37) (host := "") N 0 4 d6_37 (Or.inl (hw _ (List.mem_of_getElem? (i := 35) rfl))) Via.refl rfl rfl fun T N => ?_
    refine k_iconst (pc := 40) N d6_40 (v := (1 : Int32)) (by decide) ?_
    refine k_iadd (pc := 41) N d6_41 ?_
    rw [nd_succ (hO.lt hx c26)]
    refine k_put (pc := 42) (host := "") N 0 4 d6_42 (Or.inl (hw _ (List.mem_of_getElem? (i := 35) rfl))) Via.refl rfl rfl (Or.inl (hw _ (List.mem_of_getElem? (i := 36) rfl))) (hw _ (List.mem_of_getElem? (i := 9) rfl)) (ty := .int) (by decide) rfl rfl (K' := ((oCq Z qa (.ref ah) (.ref ap) (.ref ar) (.ref ax) (.int (nd (n + 1)))) :: (oArr Z ah kh .int (hA h)) :: (oArr Z ap kp .int (iA p)) :: (oArr Z ar kr .double (rA (upd a x u))) :: (oArr Z ax ks .double (rA (upd b x v))) :: rest)) rfl fun T N => ?_
    refine k_aload_n (pc := 45) N d6_45 rfl rfl ?_
    refine k_get (pc := 46) (host := "") N 0 0 d6_46 (Or.inl (hw _ (List.mem_of_getElem? (i := 17) rfl))) Via.refl rfl rfl fun T N => ?_
    refine k_iload (pc := 49) N d6_49 rfl ?_
    refine k_iload_n (pc := 51) N d6_51 rfl ?_
    refine k_iastore (pc := 52) N 1 n d6_52 rfl (nd_nn (Nat.lt_succ_of_lt (hO.lt hx c26))) (nd_nat (Nat.lt_succ_of_lt (hO.lt hx c26))) (show n < 4 from (hO.lt hx c26)) (v := .int (nd x)) rfl (K' := ((oCq Z qa (.ref ah) (.ref ap) (.ref ar) (.ref ax) (.int (nd (n + 1)))) :: (oArr Z ah kh .int (hA (upd h n x))) :: (oArr Z ap kp .int (iA p)) :: (oArr Z ar kr .double (rA (upd a x u))) :: (oArr Z ax ks .double (rA (upd b x v))) :: rest)) (by rw [set_hA (show n < 4 from (hO.lt hx c26))]; rfl) fun T N => ?_
    refine k_aload_n (pc := 53) N d6_53 rfl rfl ?_
    refine k_get (pc := 54) (host := "") N 0 1 d6_54 (Or.inl (hw _ (List.mem_of_getElem? (i := 19) rfl))) Via.refl rfl rfl fun T N => ?_
    refine k_iload_n (pc := 57) N d6_57 rfl ?_
    refine k_iload (pc := 58) N d6_58 rfl ?_
    refine k_iastore (pc := 60) N 2 x d6_60 rfl (nd_nn (Nat.lt_succ_of_lt hx)) (nd_nat (Nat.lt_succ_of_lt hx)) (show x < 4 from hx) (v := .int (nd n)) rfl (K' := ((oCq Z qa (.ref ah) (.ref ap) (.ref ar) (.ref ax) (.int (nd (n + 1)))) :: (oArr Z ah kh .int (hA (upd h n x))) :: (oArr Z ap kp .int (iA (upd p x (nd n)))) :: (oArr Z ar kr .double (rA (upd a x u))) :: (oArr Z ax ks .double (rA (upd b x v))) :: rest)) (by rw [set_iA (show x < 4 from hx)]; rfl) fun T N => ?_
    refine k_aload_n (pc := 61) N d6_61 rfl rfl ?_
    refine k_aload_n (pc := 62) N d6_62 rfl rfl ?_
    refine k_iload (pc := 63) N d6_63 rfl ?_
    refine k_private (pc := 65) N (y := (⟨"com/example/freshline/freshline/schedule/CandidateQueue", "siftUp", "(I)I"⟩ : MethodName)) (rest := [.ref qa]) [.int (nd n)] (a := qa) 0 d6_65 rfl (hw _ (List.mem_of_getElem? (i := 9) rfl)) (hw _ (List.mem_of_getElem? (i := 37) rfl)) (hw _ (List.mem_of_getElem? (i := 38) rfl)) (hw _ (List.mem_of_getElem? (i := 39) rfl)) (hw _ (List.mem_of_getElem? (i := 10) rfl)) (hw _ (List.mem_of_getElem? (i := 40) rfl)) (by decide) pd__I_I rfl (c_up l Z a0 hw qa ah ap ar ax kh kp kr ks (nd (n + 1)) (upd h n x) (upd p x (nd n)) (upd a x u) (upd b x v) (n + 1) n (hO.new hx c26) (Nat.lt_succ_self n) (put_new hO hW hx c26) rest) rfl rfl 1 rfl (by decide) (by decide) (cells' := 0) rfl (slots' := 0) rfl (by decide) (by decide) fun T vV K' N qQ => ?_
    obtain ⟨h1, p1, d, hd, rfl, rfl, hO1, hA1, hD1⟩ := qQ
    refine k_private (pc := 68) N (y := (⟨"com/example/freshline/freshline/schedule/CandidateQueue", "siftDown", "(I)V"⟩ : MethodName)) (rest := []) [.int (nd d)] (a := qa) 0 d6_68 rfl (hw _ (List.mem_of_getElem? (i := 9) rfl)) (hw _ (List.mem_of_getElem? (i := 45) rfl)) (hw _ (List.mem_of_getElem? (i := 46) rfl)) (hw _ (List.mem_of_getElem? (i := 47) rfl)) (hw _ (List.mem_of_getElem? (i := 10) rfl)) (hw _ (List.mem_of_getElem? (i := 48) rfl)) (by decide) pd__I_V rfl (c_down l Z a0 hw qa ah ap ar ax kh kp kr ks h1 p1 (upd a x u) (upd b x v) (n + 1) d hO1 hd hD1 rest) rfl rfl 0 rfl (by decide) (by decide) (cells' := 0) rfl (slots' := 0) rfl (by decide) (by decide) fun T vV K' N qQ => ?_
    obtain ⟨h2, p2, rfl, rfl, hO2, hA2, hW2⟩ := qQ
    exact k_return (pc := 71) N d6_71 rfl (by decide) (by decide) ⟨n + 1, h2, p2, upd a x u, upd b x v, hO2, hW2, put_mem_new c26 (hO.lt hx c26) (All.trans hA1 hA2), rfl, rfl, rfl, rfl⟩
set_option maxRecDepth 65536 in
theorem ef_c_remove (m : MethodId) (z0 : Addr) (z1 : Int32) : entryFrame m ([.ref z0, .int z1] : List Value).toArray 4 = mkF m 0 #[.val (.ref z0), .val (.int z1), .unset, .unset] [] := by first | (simp [entryFrame, mkF, argsToLocals, Value.category]; done) | rfl
def rm_c_remove : Room := { frames := 6, cells := 0, slots := 0, locals := 102 }
set_option maxRecDepth 65536 in
set_option maxHeartbeats 40000000 in
theorem c_remove (l : Launch) (Z : State) (a0 : Array Value) (hw : ∀ d ∈ tables_1, d.before a0 Z = true) (qa ah ap ar ax : Addr) (kh kp kr ks : ClassId) (n : Nat) (h : Nat → Nat) (p a b : Nat → Int32) (hO : Ok n h p) (hW : HW n (ky a b) h) (x : Nat) (hx : x < 4) (rest : List Ent) :
    OMeets l (⟨"com/example/freshline/freshline/schedule/CandidateQueue", "remove", "(I)V"⟩ : MethodName) prog_52_method_4_code 4 none rm_c_remove Z [.ref qa, .int (nd x)] ((oCq Z qa (.ref ah) (.ref ap) (.ref ar) (.ref ax) (.int (nd n))) :: (oArr Z ah kh .int (hA h)) :: (oArr Z ap kp .int (iA p)) :: (oArr Z ar kr .double (rA a)) :: (oArr Z ax ks .double (rA b)) :: rest) (fun v K => ∃ (n' : Nat) (h' : Nat → Nat) (p' a' b' : Nat → Int32), Ok n' h' p' ∧ HW n' (ky a' b') h' ∧ Rem p p' x ∧ a' = a ∧ b' = b ∧ v = none ∧ K = (oCq Z qa (.ref ah) (.ref ap) (.ref ar) (.ref ax) (.int (nd n'))) :: (oArr Z ah kh .int (hA h')) :: (oArr Z ap kp .int (iA p')) :: (oArr Z ar kr .double (rA a')) :: (oArr Z ax ks .double (rA b')) :: rest) := by
  refine OMeets.of_body (plainFor_of_name pn_com_example_freshline_freshline_schedule_CandidateQueue) #[.val (.ref qa), .val (.int (nd x)), .unset, .unset] (fun m => ef_c_remove m qa (nd x)) fun pP eE sS mM bB hH cC T N => ?_
  refine k_aload_n (pc := 0) N d18_0 rfl rfl ?_
  refine k_get (pc := 1) (host := "") N 0 1 d18_1 (Or.inl (hw _ (List.mem_of_getElem? (i := 19) rfl))) Via.refl rfl rfl fun T N => ?_
  refine k_iload_n (pc := 4) N d18_4 rfl ?_
  refine k_iaload (pc := 5) N 2 x d18_5 rfl (nd_nn (Nat.lt_succ_of_lt hx)) (nd_nat (Nat.lt_succ_of_lt hx)) (v := .int (p x)) (arr4_get hx) ?_
  refine k_istore_n (pc := 6) N d18_6 (Ls' := #[.val (.ref qa), .val (.int (nd x)), .val (.int (p x)), .unset]) rfl ?_
  refine k_iload_n (pc := 7) N d18_7 rfl ?_
  refine k_iconst (pc := 8) N d18_8 (v := (-1 : Int32)) (by decide) ?_
  refine k_icmp_ne (pc := 9) N d18_9 (pc' := 13) (by decide) (fun c9 => ?_) (fun c9 => ?_)
  · obtain ⟨i, hi, hix, hpi⟩ := hO.some hx c9
    rw [hpi]
    obtain ⟨m, rfl⟩ : ∃ m, n = m + 1 := ⟨n - 1, by omega⟩
    have hm4 : m < 4 := hO.le
    have hl := (hO.atp m (Nat.lt_succ_self m)).1
    refine k_aload_n (pc := 13) N d18_13 rfl rfl ?_
    refine k_get (pc := 14) (host := "") N 0 1 d18_14 (Or.inl (hw _ (List.mem_of_getElem? (i := 19) rfl))) Via.refl rfl rfl fun T N => ?_
    refine k_iload_n (pc := 17) N d18_17 rfl ?_
    refine k_iconst (pc := 18) N d18_18 (v := (-1 : Int32)) (by decide) ?_
    refine k_iastore (pc := 19) N 2 x d18_19 rfl (nd_nn (Nat.lt_succ_of_lt hx)) (nd_nat (Nat.lt_succ_of_lt hx)) (show x < 4 from hx) (v := .int (-1 : Int32)) rfl (K' := ((oCq Z qa (.ref ah) (.ref ap) (.ref ar) (.ref ax) (.int (nd (m + 1)))) :: (oArr Z ah kh .int (hA h)) :: (oArr Z ap kp .int (iA (upd p x (-1 : Int32)))) :: (oArr Z ar kr .double (rA a)) :: (oArr Z ax ks .double (rA b)) :: rest)) (by rw [set_iA (show x < 4 from hx)]; rfl) fun T N => ?_
    refine k_aload_n (pc := 20) N d18_20 rfl rfl ?_
    refine k_dup (pc := 21) N d18_21 rfl ?_
    refine k_get (pc := 22) (host := "") N 0 4 d18_22 (Or.inl (hw _ (List.mem_of_getElem? (i := 35) rfl))) Via.refl rfl rfl fun T N => ?_
    refine k_iconst (pc := 25) N d18_25 (v := (1 : Int32)) (by decide) ?_
    refine k_isub (pc := 26) N d18_26 ?_
    rw [nd_pred hm4]
    refine k_put (pc := 27) (host := "") N 0 4 d18_27 (Or.inl (hw _ (List.mem_of_getElem? (i := 35) rfl))) Via.refl rfl rfl (Or.inl (hw _ (List.mem_of_getElem? (i := 36) rfl))) (hw _ (List.mem_of_getElem? (i := 9) rfl)) (ty := .int) (by decide) rfl rfl (K' := ((oCq Z qa (.ref ah) (.ref ap) (.ref ar) (.ref ax) (.int (nd m))) :: (oArr Z ah kh .int (hA h)) :: (oArr Z ap kp .int (iA (upd p x (-1 : Int32)))) :: (oArr Z ar kr .double (rA a)) :: (oArr Z ax ks .double (rA b)) :: rest)) rfl fun T N => ?_
    refine k_iload_n (pc := 30) N d18_30 rfl ?_
    refine k_aload_n (pc := 31) N d18_31 rfl rfl ?_
    refine k_get (pc := 32) (host := "") N 0 4 d18_32 (Or.inl (hw _ (List.mem_of_getElem? (i := 35) rfl))) Via.refl rfl rfl fun T N => ?_
    refine k_icmp_ge (pc := 35) N d18_35 (pc' := 71) (by decide) (fun c35 => ?_) (fun c35 => ?_)
    · obtain rfl : i = m := by rw [nd_lt (by omega) (by omega)] at c35; omega
      exact k_return (pc := 71) N d18_71 rfl (by decide) (by decide) ⟨i, h, upd p x (-1), a, b, (by rw [← hix]; exact hO.cutLast), hW.cut, rem_last, rfl, rfl, rfl, rfl⟩
    · have him : i < m := (nd_lt (by omega) (by omega)).mp c35
      have hlx : h m ≠ x := fun q => by rw [← hix] at q; have := hO.inj (Nat.lt_succ_self m) hi q; omega
      refine k_aload_n (pc := 38) N d18_38 rfl rfl ?_
      refine k_get (pc := 39) (host := "") N 0 0 d18_39 (Or.inl (hw _ (List.mem_of_getElem? (i := 17) rfl))) Via.refl rfl rfl fun T N => ?_
      refine k_aload_n (pc := 42) N d18_42 rfl rfl ?_
      refine k_get (pc := 43) (host := "") N 0 4 d18_43 (Or.inl (hw _ (List.mem_of_getElem? (i := 35) rfl))) Via.refl rfl rfl fun T N => ?_
      refine k_iaload (pc := 46) N 1 m d18_46 rfl (nd_nn (Nat.lt_succ_of_lt hm4)) (nd_nat (Nat.lt_succ_of_lt hm4)) (v := .int (nd (h m))) (arr4_get hm4) ?_
      refine k_istore_n (pc := 47) N d18_47 (Ls' := #[.val (.ref qa), .val (.int (nd x)), .val (.int (nd i)), .val (.int (nd (h m)))]) rfl ?_
      refine k_aload_n (pc := 48) N d18_48 rfl rfl ?_
      refine k_get (pc := 49) (host := "") N 0 0 d18_49 (Or.inl (hw _ (List.mem_of_getElem? (i := 17) rfl))) Via.refl rfl rfl fun T N => ?_
      refine k_iload_n (pc := 52) N d18_52 rfl ?_
      refine k_iload_n (pc := 53) N d18_53 rfl ?_
      refine k_iastore (pc := 54) N 1 i d18_54 rfl (nd_nn (Nat.lt_succ_of_lt (Nat.lt_of_lt_of_le hi hO.le))) (nd_nat (Nat.lt_succ_of_lt (Nat.lt_of_lt_of_le hi hO.le))) (show i < 4 from (Nat.lt_of_lt_of_le hi hO.le)) (v := .int (nd (h m))) rfl (K' := ((oCq Z qa (.ref ah) (.ref ap) (.ref ar) (.ref ax) (.int (nd m))) :: (oArr Z ah kh .int (hA (upd h i (h m)))) :: (oArr Z ap kp .int (iA (upd p x (-1 : Int32)))) :: (oArr Z ar kr .double (rA a)) :: (oArr Z ax ks .double (rA b)) :: rest)) (by rw [set_hA (show i < 4 from (Nat.lt_of_lt_of_le hi hO.le))]; rfl) fun T N => ?_
      refine k_aload_n (pc := 55) N d18_55 rfl rfl ?_
      refine k_get (pc := 56) (host := "") N 0 1 d18_56 (Or.inl (hw _ (List.mem_of_getElem? (i := 19) rfl))) Via.refl rfl rfl fun T N => ?_
      refine k_iload_n (pc := 59) N d18_59 rfl ?_
      refine k_iload_n (pc := 60) N d18_60 rfl ?_
      refine k_iastore (pc := 61) N 2 (h m) d18_61 rfl (nd_nn (Nat.lt_succ_of_lt hl)) (nd_nat (Nat.lt_succ_of_lt hl)) (show (h m) < 4 from hl) (v := .int (nd i)) rfl (K' := ((oCq Z qa (.ref ah) (.ref ap) (.ref ar) (.ref ax) (.int (nd m))) :: (oArr Z ah kh .int (hA (upd h i (h m)))) :: (oArr Z ap kp .int (iA (upd (upd p x (-1 : Int32)) (h m) (nd i)))) :: (oArr Z ar kr .double (rA a)) :: (oArr Z ax ks .double (rA b)) :: rest)) (by rw [set_iA (show (h m) < 4 from hl)]; rfl) fun T N => ?_
      refine k_aload_n (pc := 62) N d18_62 rfl rfl ?_
      refine k_aload_n (pc := 63) N d18_63 rfl rfl ?_
      refine k_iload_n (pc := 64) N d18_64 rfl ?_
      refine k_private (pc := 65) N (y := (⟨"com/example/freshline/freshline/schedule/CandidateQueue", "siftUp", "(I)I"⟩ : MethodName)) (rest := [.ref qa]) [.int (nd i)] (a := qa) 0 d18_65 rfl (hw _ (List.mem_of_getElem? (i := 9) rfl)) (hw _ (List.mem_of_getElem? (i := 37) rfl)) (hw _ (List.mem_of_getElem? (i := 38) rfl)) (hw _ (List.mem_of_getElem? (i := 39) rfl)) (hw _ (List.mem_of_getElem? (i := 10) rfl)) (hw _ (List.mem_of_getElem? (i := 40) rfl)) (by decide) pd__I_I rfl (c_up l Z a0 hw qa ah ap ar ax kh kp kr ks (nd m) (upd h i (h m)) (upd (upd p x (-1 : Int32)) (h m) (nd i)) a b m i (by rw [← hix]; exact hO.gap him) him (HX.gap hW him hm4) rest) rfl rfl 1 rfl (by decide) (by decide) (cells' := 0) rfl (slots' := 0) rfl (by decide) (by decide) fun T vV K' N qQ => ?_
      obtain ⟨h1, p1, d, hd, rfl, rfl, hO1, hA1, hD1⟩ := qQ
      refine k_private (pc := 68) N (y := (⟨"com/example/freshline/freshline/schedule/CandidateQueue", "siftDown", "(I)V"⟩ : MethodName)) (rest := []) [.int (nd d)] (a := qa) 0 d18_68 rfl (hw _ (List.mem_of_getElem? (i := 9) rfl)) (hw _ (List.mem_of_getElem? (i := 45) rfl)) (hw _ (List.mem_of_getElem? (i := 46) rfl)) (hw _ (List.mem_of_getElem? (i := 47) rfl)) (hw _ (List.mem_of_getElem? (i := 10) rfl)) (hw _ (List.mem_of_getElem? (i := 48) rfl)) (by decide) pd__I_V rfl (c_down l Z a0 hw qa ah ap ar ax kh kp kr ks h1 p1 a b m d hO1 hd hD1 rest) rfl rfl 0 rfl (by decide) (by decide) (cells' := 0) rfl (slots' := 0) rfl (by decide) (by decide) fun T vV K' N qQ => ?_
      obtain ⟨h2, p2, rfl, rfl, hO2, hA2, hW2⟩ := qQ
      exact k_return (pc := 71) N d18_71 rfl (by decide) (by decide) ⟨m, h2, p2, a, b, hO2, hW2, rem_gap (hO.atp m (Nat.lt_succ_self m)).2 (by omega) hlx (by omega) (All.trans hA1 hA2), rfl, rfl, rfl, rfl⟩
  · exact k_return (pc := 12) N d18_12 rfl (by decide) (by decide) ⟨n, h, p, a, b, hO, hW, rem_none c9, rfl, rfl, rfl, rfl⟩
theorem four (x : Int32) : x &&& 3 = 0 ∨ x &&& 3 = 1 ∨ x &&& 3 = 2 ∨ x &&& 3 = 3 := by
  have h : (x &&& 3).toBitVec.toNat < 4 := by
    simp only [Int32.toBitVec_and, BitVec.toNat_and]
    exact Nat.lt_succ_of_le Nat.and_le_right
  have e : ∀ y : Int32, y.toBitVec.toNat < 4 → y = 0 ∨ y = 1 ∨ y = 2 ∨ y = 3 := fun y hy => by
    have q : ∀ k : Int32, y.toBitVec.toNat = k.toBitVec.toNat → y = k := fun k w => Int32.toBitVec_inj.mp (BitVec.eq_of_toNat_eq w)
    have : y.toBitVec.toNat = 0 ∨ y.toBitVec.toNat = 1 ∨ y.toBitVec.toNat = 2 ∨ y.toBitVec.toNat = 3 := by omega
    rcases this with w | w | w | w
    · exact Or.inl (q 0 w)
    · exact Or.inr (Or.inl (q 1 w))
    · exact Or.inr (Or.inr (Or.inl (q 2 w)))
    · exact Or.inr (Or.inr (Or.inr (q 3 w)))
  exact e _ h

theorem msk3 (x : Int32) : ∃ k, k < 4 ∧ x &&& 3 = nd k := by
  rcases four x with h | h | h | h
  · exact ⟨0, by decide, by rw [h]; rfl⟩
  · exact ⟨1, by decide, by rw [h]; rfl⟩
  · exact ⟨2, by decide, by rw [h]; rfl⟩
  · exact ⟨3, by decide, by rw [h]; rfl⟩
theorem xors (x : Int32) : ∃ x0 x1 x2 x3 : Nat, x0 < 4 ∧ x1 < 4 ∧ x2 < 4 ∧ x3 < 4 ∧ ((0 : Int32) ^^^ (x &&& 3)) = nd x0 ∧ ((1 : Int32) ^^^ (x &&& 3)) = nd x1 ∧ ((2 : Int32) ^^^ (x &&& 3)) = nd x2 ∧ ((3 : Int32) ^^^ (x &&& 3)) = nd x3 ∧ ∀ y, y < 4 → y = x0 ∨ y = x1 ∨ y = x2 ∨ y = x3 := by
  rcases four x with h | h | h | h <;> rw [h]
  · exact ⟨0, 1, 2, 3, by decide, by decide, by decide, by decide, rfl, rfl, rfl, rfl, fun y hy => by omega⟩
  · exact ⟨1, 0, 3, 2, by decide, by decide, by decide, by decide, rfl, rfl, rfl, rfl, fun y hy => by omega⟩
  · exact ⟨2, 3, 0, 1, by decide, by decide, by decide, by decide, rfl, rfl, rfl, rfl, fun y hy => by omega⟩
  · exact ⟨3, 2, 1, 0, by decide, by decide, by decide, by decide, rfl, rfl, rfl, rfl, fun y hy => by omega⟩
theorem bf_ky {a b : Nat → Int32} {i j : Nat} (hi : i < 4) (hj : j < 4) : (if a i = a j then (if b i = b j then (if nd i < nd j then (1 : Int32) else 0) else if b i < b j then 1 else 0) else if a j < a i then 1 else 0) = if ky a b i < ky a b j then 1 else 0 := by
  have e := ky_lt (a := a) (b := b) hi hj
  have h5 := nd_lt (i := i) (j := j) (by omega) (by omega)
  by_cases c1 : a i = a j
  · rw [if_pos c1]
    by_cases c2 : b i = b j
    · rw [if_pos c2]
      by_cases c3 : i < j
      · rw [if_pos (h5.mpr c3), if_pos (e.mpr (Or.inr ⟨c1, Or.inr ⟨c2, c3⟩⟩))]
      · rw [if_neg fun q => c3 (h5.mp q), if_neg fun q => ?_]
        rcases e.mp q with q | ⟨-, q | ⟨-, q⟩⟩
        · rw [c1] at q; exact absurd q Int32.lt_irrefl
        · rw [c2] at q; exact absurd q Int32.lt_irrefl
        · exact c3 q
    · rw [if_neg c2]
      by_cases c3 : b i < b j
      · rw [if_pos c3, if_pos (e.mpr (Or.inr ⟨c1, Or.inl c3⟩))]
      · rw [if_neg c3, if_neg fun q => ?_]
        rcases e.mp q with q | ⟨-, q | ⟨q, -⟩⟩
        · rw [c1] at q; exact absurd q Int32.lt_irrefl
        · exact c3 q
        · exact c2 q
  · rw [if_neg c1]
    by_cases c2 : a j < a i
    · rw [if_pos c2, if_pos (e.mpr (Or.inl c2))]
    · rw [if_neg c2, if_neg fun q => ?_]
      rcases e.mp q with q | ⟨q, -⟩
      · exact c2 q
      · exact c1 q
theorem four_puts {x0 x1 x2 x3 : Nat} {p0 p1 p2 p3 p4 : Nat → Int32} (cov : ∀ y, y < 4 → y = x0 ∨ y = x1 ∨ y = x2 ∨ y = x3) (h1 : Put p0 p1 x0) (h2 : Put p1 p2 x1) (h3 : Put p2 p3 x2) (h4 : Put p3 p4 x3) (y : Nat) (hy : y < 4) : p4 y ≠ -1 := fun e => by
  have e4 := (h4 y hy).mp e; have e3 := (h3 y hy).mp e4.1; have e2 := (h2 y hy).mp e3.1; have e1 := (h1 y hy).mp e2.1
  rcases cov y hy with q | q | q | q
  · exact e1.2 q
  · exact e2.2 q
  · exact e3.2 q
  · exact e4.2 q
theorem four_upds {x0 x1 x2 x3 : Nat} {f g0 g1 g2 g3 g4 : Nat → Int32} (cov : ∀ y, y < 4 → y = x0 ∨ y = x1 ∨ y = x2 ∨ y = x3) (e1 : g1 = upd g0 x0 (f x0)) (e2 : g2 = upd g1 x1 (f x1)) (e3 : g3 = upd g2 x2 (f x2)) (e4 : g4 = upd g3 x3 (f x3)) (y : Nat) (hy : y < 4) : g4 y = f y := by
  subst e1 e2 e3 e4
  by_cases q3 : y = x3
  · rw [q3, upd_here]
  · rw [upd_ne _ _ q3]
    by_cases q2 : y = x2
    · rw [q2, upd_here]
    · rw [upd_ne _ _ q2]
      by_cases q1 : y = x1
      · rw [q1, upd_here]
      · rw [upd_ne _ _ q1]
        rcases cov y hy with q | q | q | q
        · rw [q, upd_here]
        · exact absurd q q1
        · exact absurd q q2
        · exact absurd q q3
theorem upd_agree {f g g' : Nat → Int32} {k : Nat} {v : Int32} (A : ∀ y, y < 4 → g y = f y) (e : g' = upd g k (upd f k v k)) (y : Nat) (hy : y < 4) : g' y = upd f k v y := by
  subst e
  by_cases q : y = k
  · rw [q, upd_here]
  · rw [upd_ne _ _ q, upd_ne _ _ q, A y hy]
set_option maxRecDepth 65536 in
theorem ef_c_rk (m : MethodId) (z0 : Int32) : entryFrame m ([.int z0] : List Value).toArray 1 = mkF m 0 #[.val (.int z0)] [] := by first | (simp [entryFrame, mkF, argsToLocals, Value.category]; done) | rfl
def rm_c_rk : Room := { frames := 0, cells := 0, slots := 0, locals := 0 }
set_option maxRecDepth 65536 in
set_option maxHeartbeats 40000000 in
theorem c_rk (l : Launch) (Z : State) (a0 : Array Value) (hw : ∀ d ∈ tables_1, d.before a0 Z = true) (x : Int32) (rest : List Ent) :
    OMeets l (⟨"com/example/freshline/freshline/schedule/CandidateQueuePutPinLaw", "rk", "(I)I"⟩ : MethodName) method_2_code 1 (some .int) rm_c_rk Z [.int x] rest (fun v K => v = some (.int (x % (5 : Int32))) ∧ rest = K) := by
  refine OMeets.of_body (plainFor_of_name pn_com_example_freshline_freshline_schedule_CandidateQueuePutPinLaw) #[.val (.int x)] (fun m => ef_c_rk m x) fun pP eE sS mM bB hH cC T N => ?_
  refine k_iload_n (pc := 0) N d1_0 rfl ?_
  refine k_iconst (pc := 1) N d1_1 (v := (5 : Int32)) (by decide) ?_
  refine k_irem (pc := 2) N d1_2 (by decide) ?_
  exact k_ireturn (pc := 3) N d1_3 rfl (by decide) (by decide) ⟨rfl, rfl⟩
set_option maxRecDepth 65536 in
theorem ef_c_sk (m : MethodId) (z0 : Int32) : entryFrame m ([.int z0] : List Value).toArray 1 = mkF m 0 #[.val (.int z0)] [] := by first | (simp [entryFrame, mkF, argsToLocals, Value.category]; done) | rfl
def rm_c_sk : Room := { frames := 0, cells := 0, slots := 0, locals := 0 }
set_option maxRecDepth 65536 in
set_option maxHeartbeats 40000000 in
theorem c_sk (l : Launch) (Z : State) (a0 : Array Value) (hw : ∀ d ∈ tables_1, d.before a0 Z = true) (x : Int32) (rest : List Ent) :
    OMeets l (⟨"com/example/freshline/freshline/schedule/CandidateQueuePutPinLaw", "sk", "(I)I"⟩ : MethodName) method_3_code 1 (some .int) rm_c_sk Z [.int x] rest (fun v K => v = some (.int ((x >>> ((3 : Int32) &&& 31)) % (5 : Int32))) ∧ rest = K) := by
  refine OMeets.of_body (plainFor_of_name pn_com_example_freshline_freshline_schedule_CandidateQueuePutPinLaw) #[.val (.int x)] (fun m => ef_c_sk m x) fun pP eE sS mM bB hH cC T N => ?_
  refine k_iload_n (pc := 0) N d2_0 rfl ?_
  refine k_iconst (pc := 1) N d2_1 (v := (3 : Int32)) (by decide) ?_
  refine k_ishr (pc := 2) N d2_2 ?_
  refine k_iconst (pc := 3) N d2_3 (v := (5 : Int32)) (by decide) ?_
  refine k_irem (pc := 4) N d2_4 (by decide) ?_
  exact k_ireturn (pc := 5) N d2_5 rfl (by decide) (by decide) ⟨rfl, rfl⟩
set_option maxRecDepth 65536 in
theorem ef_c_before (m : MethodId) (z0 : Addr) (z1 : Addr) (z2 : Int32) (z3 : Int32) : entryFrame m ([.ref z0, .ref z1, .int z2, .int z3] : List Value).toArray 4 = mkF m 0 #[.val (.ref z0), .val (.ref z1), .val (.int z2), .val (.int z3)] [] := by first | (simp [entryFrame, mkF, argsToLocals, Value.category]; done) | rfl
def rm_c_before : Room := { frames := 0, cells := 0, slots := 0, locals := 0 }
set_option maxRecDepth 65536 in
set_option maxHeartbeats 40000000 in
theorem c_before (l : Launch) (Z : State) (a0 : Array Value) (hw : ∀ d ∈ tables_1, d.before a0 Z = true) (r s : Addr) (kr ks : ClassId) (a b : Nat → Int32) (i j : Nat) (hi : i < 4) (hj : j < 4) (rest : List Ent) :
    OMeets l (⟨"com/example/freshline/freshline/schedule/CandidateQueuePutPinLaw", "before", "([I[III)Z"⟩ : MethodName) method_4_code 4 (some .boolean) rm_c_before Z [.ref r, .ref s, .int (nd i), .int (nd j)] ((oArr Z r kr .int (iA a)) :: (oArr Z s ks .int (iA b)) :: rest) (fun v K => v = some (.int (if ky a b i < ky a b j then (1 : Int32) else 0)) ∧ K = (oArr Z r kr .int (iA a)) :: (oArr Z s ks .int (iA b)) :: rest) := by
  refine OMeets.of_body (plainFor_of_name pn_com_example_freshline_freshline_schedule_CandidateQueuePutPinLaw) #[.val (.ref r), .val (.ref s), .val (.int (nd i)), .val (.int (nd j))] (fun m => ef_c_before m r s (nd i) (nd j)) fun pP eE sS mM bB hH cC T N => ?_
  refine k_aload_n (pc := 0) N d16_0 rfl rfl ?_
  refine k_iload_n (pc := 1) N d16_1 rfl ?_
  refine k_iaload (pc := 2) N 0 i d16_2 rfl (nd_nn (Nat.lt_succ_of_lt hi)) (nd_nat (Nat.lt_succ_of_lt hi)) (v := .int (a i)) (arr4_get hi) ?_
  refine k_aload_n (pc := 3) N d16_3 rfl rfl ?_
  refine k_iload_n (pc := 4) N d16_4 rfl ?_
  refine k_iaload (pc := 5) N 0 j d16_5 rfl (nd_nn (Nat.lt_succ_of_lt hj)) (nd_nat (Nat.lt_succ_of_lt hj)) (v := .int (a j)) (arr4_get hj) ?_
  refine k_icmp_eq (pc := 6) N d16_6 (pc' := 24) (by decide) (fun c6 => ?_) (fun c6 => ?_)
  · refine k_aload_n (pc := 24) N d16_24 rfl rfl ?_
    refine k_iload_n (pc := 25) N d16_25 rfl ?_
    refine k_iaload (pc := 26) N 1 i d16_26 rfl (nd_nn (Nat.lt_succ_of_lt hi)) (nd_nat (Nat.lt_succ_of_lt hi)) (v := .int (b i)) (arr4_get hi) ?_
    refine k_aload_n (pc := 27) N d16_27 rfl rfl ?_
    refine k_iload_n (pc := 28) N d16_28 rfl ?_
    refine k_iaload (pc := 29) N 1 j d16_29 rfl (nd_nn (Nat.lt_succ_of_lt hj)) (nd_nat (Nat.lt_succ_of_lt hj)) (v := .int (b j)) (arr4_get hj) ?_
    refine k_icmp_eq (pc := 30) N d16_30 (pc' := 48) (by decide) (fun c30 => ?_) (fun c30 => ?_)
    · refine k_iload_n (pc := 48) N d16_48 rfl ?_
      refine k_iload_n (pc := 49) N d16_49 rfl ?_
      refine k_icmp_ge (pc := 50) N d16_50 (pc' := 57) (by decide) (fun c50 => ?_) (fun c50 => ?_)
      · refine k_iconst (pc := 57) N d16_57 (v := (0 : Int32)) (by decide) ?_
        exact k_zreturn (pc := 58) N d16_58 rfl (by decide) (by decide) ⟨by rw [← bf_ky hi hj, if_pos c6, if_pos c30, if_neg c50]; rfl, rfl⟩
      · refine k_iconst (pc := 53) N d16_53 (v := (1 : Int32)) (by decide) ?_
        refine k_goto (pc := 54) N d16_54 (pc' := 58) (by decide) ?_
        exact k_zreturn (pc := 58) N d16_58 rfl (by decide) (by decide) ⟨by rw [← bf_ky hi hj, if_pos c6, if_pos c30, if_pos c50]; rfl, rfl⟩
    · refine k_aload_n (pc := 33) N d16_33 rfl rfl ?_
      refine k_iload_n (pc := 34) N d16_34 rfl ?_
      refine k_iaload (pc := 35) N 1 i d16_35 rfl (nd_nn (Nat.lt_succ_of_lt hi)) (nd_nat (Nat.lt_succ_of_lt hi)) (v := .int (b i)) (arr4_get hi) ?_
      refine k_aload_n (pc := 36) N d16_36 rfl rfl ?_
      refine k_iload_n (pc := 37) N d16_37 rfl ?_
      refine k_iaload (pc := 38) N 1 j d16_38 rfl (nd_nn (Nat.lt_succ_of_lt hj)) (nd_nat (Nat.lt_succ_of_lt hj)) (v := .int (b j)) (arr4_get hj) ?_
      refine k_icmp_ge (pc := 39) N d16_39 (pc' := 46) (by decide) (fun c39 => ?_) (fun c39 => ?_)
      · refine k_iconst (pc := 46) N d16_46 (v := (0 : Int32)) (by decide) ?_
        exact k_zreturn (pc := 47) N d16_47 rfl (by decide) (by decide) ⟨by rw [← bf_ky hi hj, if_pos c6, if_neg c30, if_neg c39]; rfl, rfl⟩
      · refine k_iconst (pc := 42) N d16_42 (v := (1 : Int32)) (by decide) ?_
        refine k_goto (pc := 43) N d16_43 (pc' := 47) (by decide) ?_
        exact k_zreturn (pc := 47) N d16_47 rfl (by decide) (by decide) ⟨by rw [← bf_ky hi hj, if_pos c6, if_neg c30, if_pos c39]; rfl, rfl⟩
  · refine k_aload_n (pc := 9) N d16_9 rfl rfl ?_
    refine k_iload_n (pc := 10) N d16_10 rfl ?_
    refine k_iaload (pc := 11) N 0 i d16_11 rfl (nd_nn (Nat.lt_succ_of_lt hi)) (nd_nat (Nat.lt_succ_of_lt hi)) (v := .int (a i)) (arr4_get hi) ?_
    refine k_aload_n (pc := 12) N d16_12 rfl rfl ?_
    refine k_iload_n (pc := 13) N d16_13 rfl ?_
    refine k_iaload (pc := 14) N 0 j d16_14 rfl (nd_nn (Nat.lt_succ_of_lt hj)) (nd_nat (Nat.lt_succ_of_lt hj)) (v := .int (a j)) (arr4_get hj) ?_
    refine k_icmp_le (pc := 15) N d16_15 (pc' := 22) (by decide) (fun c15 => ?_) (fun c15 => ?_)
    · refine k_iconst (pc := 22) N d16_22 (v := (0 : Int32)) (by decide) ?_
      exact k_zreturn (pc := 23) N d16_23 rfl (by decide) (by decide) ⟨by rw [← bf_ky hi hj, if_neg c6, if_neg c15]; rfl, rfl⟩
    · refine k_iconst (pc := 18) N d16_18 (v := (1 : Int32)) (by decide) ?_
      refine k_goto (pc := 19) N d16_19 (pc' := 23) (by decide) ?_
      exact k_zreturn (pc := 23) N d16_23 rfl (by decide) (by decide) ⟨by rw [← bf_ky hi hj, if_neg c6, if_pos c15]; rfl, rfl⟩
set_option maxRecDepth 65536 in
theorem ef_c_better (m : MethodId) (z0 : Addr) (z1 : Addr) (z2 : Int32) (z3 : Int32) : entryFrame m ([.ref z0, .ref z1, .int z2, .int z3] : List Value).toArray 4 = mkF m 0 #[.val (.ref z0), .val (.ref z1), .val (.int z2), .val (.int z3)] [] := by first | (simp [entryFrame, mkF, argsToLocals, Value.category]; done) | rfl
def rm_c_better : Room := { frames := 1, cells := 0, slots := 0, locals := 15 }
set_option maxRecDepth 65536 in
set_option maxHeartbeats 40000000 in
theorem c_better (l : Launch) (Z : State) (a0 : Array Value) (hw : ∀ d ∈ tables_1, d.before a0 Z = true) (r s : Addr) (kr ks : ClassId) (a b : Nat → Int32) (i j : Nat) (hi : i < 4) (hj : j < 4) (rest : List Ent) :
    OMeets l (⟨"com/example/freshline/freshline/schedule/CandidateQueuePutPinLaw", "better", "([I[III)I"⟩ : MethodName) method_5_code 4 (some .int) rm_c_better Z [.ref r, .ref s, .int (nd i), .int (nd j)] ((oArr Z r kr .int (iA a)) :: (oArr Z s ks .int (iA b)) :: rest) (fun v K => v = some (.int (nd (bst (ky a b) i j))) ∧ K = (oArr Z r kr .int (iA a)) :: (oArr Z s ks .int (iA b)) :: rest) := by
  refine OMeets.of_body (plainFor_of_name pn_com_example_freshline_freshline_schedule_CandidateQueuePutPinLaw) #[.val (.ref r), .val (.ref s), .val (.int (nd i)), .val (.int (nd j))] (fun m => ef_c_better m r s (nd i) (nd j)) fun pP eE sS mM bB hH cC T N => ?_
  refine k_aload_n (pc := 0) N d15_0 rfl rfl ?_
  refine k_aload_n (pc := 1) N d15_1 rfl rfl ?_
  refine k_iload_n (pc := 2) N d15_2 rfl ?_
  refine k_iload_n (pc := 3) N d15_3 rfl ?_
  refine k_static (pc := 4) N (y := (⟨"com/example/freshline/freshline/schedule/CandidateQueuePutPinLaw", "before", "([I[III)Z"⟩ : MethodName)) (rest := []) [.ref r, .ref s, .int (nd i), .int (nd j)] d15_4 (hw _ (List.mem_of_getElem? (i := 72) rfl)) (hw _ (List.mem_of_getElem? (i := 73) rfl)) (hw _ (List.mem_of_getElem? (i := 3) rfl)) (hw _ (List.mem_of_getElem? (i := 74) rfl)) (by decide) pd___I_III_Z rfl (c_before l Z a0 hw r s kr ks a b i j hi hj rest) rfl rfl 0 rfl (by decide) (by decide) (cells' := 0) rfl (slots' := 0) rfl (by decide) (by decide) fun T vV K' N qQ => ?_
  obtain ⟨rfl, rfl⟩ := qQ
  refine k_if_eq (pc := 7) N d15_7 (pc' := 14) (by decide) (fun c7 => ?_) (fun c7 => ?_)
  · refine k_iload_n (pc := 14) N d15_14 rfl ?_
    exact k_ireturn (pc := 15) N d15_15 rfl (by decide) (by decide) ⟨by rw [bst, if_neg (of_ifn c7)], rfl⟩
  · refine k_iload_n (pc := 10) N d15_10 rfl ?_
    refine k_goto (pc := 11) N d15_11 (pc' := 15) (by decide) ?_
    exact k_ireturn (pc := 15) N d15_15 rfl (by decide) (by decide) ⟨by rw [bst, if_pos (of_if c7)], rfl⟩
set_option maxRecDepth 65536 in
theorem ef_c_pick (m : MethodId) (z0 : Addr) (z1 : Addr) (z2 : Int32) (z3 : Int32) (z4 : Int32) : entryFrame m ([.ref z0, .ref z1, .int z2, .int z3, .int z4] : List Value).toArray 5 = mkF m 0 #[.val (.ref z0), .val (.ref z1), .val (.int z2), .val (.int z3), .val (.int z4)] [] := by first | (simp [entryFrame, mkF, argsToLocals, Value.category]; done) | rfl
def rm_c_pick : Room := { frames := 2, cells := 0, slots := 0, locals := 30 }
set_option maxRecDepth 65536 in
set_option maxHeartbeats 40000000 in
theorem c_pick (l : Launch) (Z : State) (a0 : Array Value) (hw : ∀ d ∈ tables_1, d.before a0 Z = true) (r s : Addr) (kr ks : ClassId) (a b : Nat → Int32) (i j : Nat) (hi : i < 4) (hj : j < 4) (w : Nat) (hw4 : w < 4) (rest : List Ent) :
    OMeets l (⟨"com/example/freshline/freshline/schedule/CandidateQueuePutPinLaw", "pick", "([I[IIII)I"⟩ : MethodName) method_6_code 5 (some .int) rm_c_pick Z [.ref r, .ref s, .int (nd i), .int (nd j), .int (nd w)] ((oArr Z r kr .int (iA a)) :: (oArr Z s ks .int (iA b)) :: rest) (fun v K => v = some (.int (nd (pk (ky a b) i j w))) ∧ K = (oArr Z r kr .int (iA a)) :: (oArr Z s ks .int (iA b)) :: rest) := by
  refine OMeets.of_body (plainFor_of_name pn_com_example_freshline_freshline_schedule_CandidateQueuePutPinLaw) #[.val (.ref r), .val (.ref s), .val (.int (nd i)), .val (.int (nd j)), .val (.int (nd w))] (fun m => ef_c_pick m r s (nd i) (nd j) (nd w)) fun pP eE sS mM bB hH cC T N => ?_
  refine k_iload_n (pc := 0) N d19_0 rfl ?_
  refine k_iload (pc := 1) N d19_1 rfl ?_
  refine k_icmp_ne (pc := 3) N d19_3 (pc' := 8) (by decide) (fun c3 => ?_) (fun c3 => ?_)
  · refine k_iload_n (pc := 8) N d19_8 rfl ?_
    refine k_iload (pc := 9) N d19_9 rfl ?_
    refine k_icmp_ne (pc := 11) N d19_11 (pc' := 16) (by decide) (fun c11 => ?_) (fun c11 => ?_)
    · refine k_aload_n (pc := 16) N d19_16 rfl rfl ?_
      refine k_aload_n (pc := 17) N d19_17 rfl rfl ?_
      refine k_iload_n (pc := 18) N d19_18 rfl ?_
      refine k_iload_n (pc := 19) N d19_19 rfl ?_
      refine k_static (pc := 20) N (y := (⟨"com/example/freshline/freshline/schedule/CandidateQueuePutPinLaw", "better", "([I[III)I"⟩ : MethodName)) (rest := []) [.ref r, .ref s, .int (nd i), .int (nd j)] d19_20 (hw _ (List.mem_of_getElem? (i := 69) rfl)) (hw _ (List.mem_of_getElem? (i := 70) rfl)) (hw _ (List.mem_of_getElem? (i := 3) rfl)) (hw _ (List.mem_of_getElem? (i := 71) rfl)) (by decide) pd___I_III_I rfl (c_better l Z a0 hw r s kr ks a b i j hi hj rest) rfl rfl 0 rfl (by decide) (by decide) (cells' := 0) rfl (slots' := 0) rfl (by decide) (by decide) fun T vV K' N qQ => ?_
      obtain ⟨rfl, rfl⟩ := qQ
      exact k_ireturn (pc := 23) N d19_23 rfl (by decide) (by decide) ⟨by rw [pk, if_neg (fun q => c3 (congrArg nd q)), if_neg (fun q => c11 (congrArg nd q))], rfl⟩
    · refine k_iload_n (pc := 14) N d19_14 rfl ?_
      exact k_ireturn (pc := 15) N d19_15 rfl (by decide) (by decide) ⟨by rw [pk, if_neg (fun q => c3 (congrArg nd q)), if_pos (nd_inj (by omega) (by omega) c11)], rfl⟩
  · refine k_iload_n (pc := 6) N d19_6 rfl ?_
    exact k_ireturn (pc := 7) N d19_7 rfl (by decide) (by decide) ⟨by rw [pk, if_pos (nd_inj (by omega) (by omega) c3)], rfl⟩
set_option maxRecDepth 65536 in
theorem ef_c_law (m : MethodId) (z0 : Int32) (z1 : Int32) (z2 : Int32) (z3 : Int32) (z4 : Int32) (z5 : Int32) : entryFrame m ([.int z0, .int z1, .int z2, .int z3, .int z4, .int z5] : List Value).toArray maxLocals = mkF m 0 #[.val (.int z0), .val (.int z1), .val (.int z2), .val (.int z3), .val (.int z4), .val (.int z5), .unset, .unset, .unset, .unset, .unset, .unset, .unset, .unset, .unset, .unset, .unset, .unset, .unset, .unset, .unset] [] := by first | (simp [entryFrame, mkF, argsToLocals, Value.category, maxLocals]; done) | rfl
set_option maxRecDepth 65536 in
set_option maxHeartbeats 40000000 in
theorem c_law (l : Launch) (Z : State) (a0 : Array Value) (hw : ∀ d ∈ tables_1, d.before a0 Z = true) (p0_ p1_ p2_ p3_ p4_ p5_ : Int32) :
    OMeets l x code maxLocals ret room_1 Z [.int p0_, .int p1_, .int p2_, .int p3_, .int p4_, .int p5_] [] (fun v K => v = some (.int 1)) := by
  refine OMeets.of_body (plainFor_of_name pn_com_example_freshline_freshline_schedule_CandidateQueuePutPinLaw) #[.val (.int p0_), .val (.int p1_), .val (.int p2_), .val (.int p3_), .val (.int p4_), .val (.int p5_), .unset, .unset, .unset, .unset, .unset, .unset, .unset, .unset, .unset, .unset, .unset, .unset, .unset, .unset, .unset] (fun m => ef_c_law m p0_ p1_ p2_ p3_ p4_ p5_) fun pP eE sS mM bB hH cC T N => ?_
  obtain ⟨x0, x1, x2, x3, hx0, hx1, hx2, hx3, ex0, ex1, ex2, ex3, cov⟩ := xors p5_
  obtain ⟨kk, hkk, ek⟩ := msk3 (XT.ushr p5_ (2 : Int32))
  refine k_iload (pc := 0) N at_0 rfl ?_
  refine k_iconst (pc := 2) N at_2 (v := (3 : Int32)) (by decide) ?_
  refine k_iand (pc := 3) N at_3 ?_
  refine k_istore (pc := 4) N at_4 (Ls' := #[.val (.int p0_), .val (.int p1_), .val (.int p2_), .val (.int p3_), .val (.int p4_), .val (.int p5_), .val (.int (p5_ &&& (3 : Int32))), .unset, .unset, .unset, .unset, .unset, .unset, .unset, .unset, .unset, .unset, .unset, .unset, .unset, .unset]) rfl ?_
  refine k_iload (pc := 6) N at_6 rfl ?_
  refine k_iconst (pc := 8) N at_8 (v := (2 : Int32)) (by decide) ?_
  refine k_iushr (pc := 9) N at_9 ?_
  refine k_iconst (pc := 10) N at_10 (v := (3 : Int32)) (by decide) ?_
  refine k_iand (pc := 11) N at_11 ?_
  rw [ek]
  refine k_istore (pc := 12) N at_12 (Ls' := #[.val (.int p0_), .val (.int p1_), .val (.int p2_), .val (.int p3_), .val (.int p4_), .val (.int p5_), .val (.int (p5_ &&& (3 : Int32))), .val (.int (nd kk)), .unset, .unset, .unset, .unset, .unset, .unset, .unset, .unset, .unset, .unset, .unset, .unset, .unset]) rfl ?_
  refine k_iconst (pc := 14) N at_14 (v := (4 : Int32)) (by decide) ?_
  refine k_newarray (pc := 15) N 4 at_15 (ty := .int) rfl (hw _ (List.mem_of_getElem? (i := 0) rfl)) (by decide) (by decide) (by decide) (vs := [.int (0 : Int32), .int (0 : Int32), .int (0 : Int32), .int (0 : Int32)]) rfl (by decide) (by decide) fun T lr lrk N => ?_
  refine k_astore (pc := 17) N at_17 rfl (Ls' := #[.val (.int p0_), .val (.int p1_), .val (.int p2_), .val (.int p3_), .val (.int p4_), .val (.int p5_), .val (.int (p5_ &&& (3 : Int32))), .val (.int (nd kk)), .val (.ref lr), .unset, .unset, .unset, .unset, .unset, .unset, .unset, .unset, .unset, .unset, .unset, .unset]) rfl ?_
  refine k_iconst (pc := 19) N at_19 (v := (4 : Int32)) (by decide) ?_
  refine k_newarray (pc := 20) N 4 at_20 (ty := .int) rfl (hw _ (List.mem_of_getElem? (i := 0) rfl)) (by decide) (by decide) (by decide) (vs := [.int (0 : Int32), .int (0 : Int32), .int (0 : Int32), .int (0 : Int32)]) rfl (by decide) (by decide) fun T ls lsk N => ?_
  refine k_astore (pc := 22) N at_22 rfl (Ls' := #[.val (.int p0_), .val (.int p1_), .val (.int p2_), .val (.int p3_), .val (.int p4_), .val (.int p5_), .val (.int (p5_ &&& (3 : Int32))), .val (.int (nd kk)), .val (.ref lr), .val (.ref ls), .unset, .unset, .unset, .unset, .unset, .unset, .unset, .unset, .unset, .unset, .unset]) rfl ?_
  refine k_iconst (pc := 24) N at_24 (v := (0 : Int32)) (by decide) ?_
  refine k_iload (pc := 25) N at_25 rfl ?_
  refine k_ixor (pc := 27) N at_27 ?_
  rw [ex0]
  refine k_istore (pc := 28) N at_28 (Ls' := #[.val (.int p0_), .val (.int p1_), .val (.int p2_), .val (.int p3_), .val (.int p4_), .val (.int p5_), .val (.int (p5_ &&& (3 : Int32))), .val (.int (nd kk)), .val (.ref lr), .val (.ref ls), .val (.int (nd x0)), .unset, .unset, .unset, .unset, .unset, .unset, .unset, .unset, .unset, .unset]) rfl ?_
  refine k_iconst (pc := 30) N at_30 (v := (1 : Int32)) (by decide) ?_
  refine k_iload (pc := 31) N at_31 rfl ?_
  refine k_ixor (pc := 33) N at_33 ?_
  rw [ex1]
  refine k_istore (pc := 34) N at_34 (Ls' := #[.val (.int p0_), .val (.int p1_), .val (.int p2_), .val (.int p3_), .val (.int p4_), .val (.int p5_), .val (.int (p5_ &&& (3 : Int32))), .val (.int (nd kk)), .val (.ref lr), .val (.ref ls), .val (.int (nd x0)), .val (.int (nd x1)), .unset, .unset, .unset, .unset, .unset, .unset, .unset, .unset, .unset]) rfl ?_
  refine k_iconst (pc := 36) N at_36 (v := (2 : Int32)) (by decide) ?_
  refine k_iload (pc := 37) N at_37 rfl ?_
  refine k_ixor (pc := 39) N at_39 ?_
  rw [ex2]
  refine k_istore (pc := 40) N at_40 (Ls' := #[.val (.int p0_), .val (.int p1_), .val (.int p2_), .val (.int p3_), .val (.int p4_), .val (.int p5_), .val (.int (p5_ &&& (3 : Int32))), .val (.int (nd kk)), .val (.ref lr), .val (.ref ls), .val (.int (nd x0)), .val (.int (nd x1)), .val (.int (nd x2)), .unset, .unset, .unset, .unset, .unset, .unset, .unset, .unset]) rfl ?_
  refine k_iconst (pc := 42) N at_42 (v := (3 : Int32)) (by decide) ?_
  refine k_iload (pc := 43) N at_43 rfl ?_
  refine k_ixor (pc := 45) N at_45 ?_
  rw [ex3]
  refine k_istore (pc := 46) N at_46 (Ls' := #[.val (.int p0_), .val (.int p1_), .val (.int p2_), .val (.int p3_), .val (.int p4_), .val (.int p5_), .val (.int (p5_ &&& (3 : Int32))), .val (.int (nd kk)), .val (.ref lr), .val (.ref ls), .val (.int (nd x0)), .val (.int (nd x1)), .val (.int (nd x2)), .val (.int (nd x3)), .unset, .unset, .unset, .unset, .unset, .unset, .unset]) rfl ?_
  refine k_aload (pc := 48) N at_48 rfl rfl ?_
  refine k_iload (pc := 50) N at_50 rfl ?_
  refine k_iload_n (pc := 52) N at_52 rfl ?_
  refine k_static (pc := 53) N (y := (⟨"com/example/freshline/freshline/schedule/CandidateQueuePutPinLaw", "rk", "(I)I"⟩ : MethodName)) (rest := [.int (nd x0), .ref lr]) [.int p0_] at_53 (hw _ (List.mem_of_getElem? (i := 1) rfl)) (hw _ (List.mem_of_getElem? (i := 2) rfl)) (hw _ (List.mem_of_getElem? (i := 3) rfl)) (hw _ (List.mem_of_getElem? (i := 4) rfl)) (by decide) pd__I_I rfl (c_rk l Z a0 hw p0_ [oArr Z ls lsk .int (iA z0), oArr Z lr lrk .int (iA z0)]) rfl rfl 2 rfl (by decide) (by decide) (cells' := 2) rfl (slots' := 8) rfl (by decide) (by decide) fun T vV K' N qQ => ?_
  obtain ⟨rfl, rfl⟩ := qQ
  refine k_iastore (pc := 56) N 1 x0 at_56 rfl (nd_nn (Nat.lt_succ_of_lt hx0)) (nd_nat (Nat.lt_succ_of_lt hx0)) (show x0 < 4 from hx0) (v := .int (p0_ % (5 : Int32))) rfl (K' := [oArr Z ls lsk .int (iA z0), oArr Z lr lrk .int (iA (upd z0 x0 (p0_ % (5 : Int32))))]) (by rw [set_iA (show x0 < 4 from hx0)]; rfl) fun T N => ?_
  refine k_aload (pc := 57) N at_57 rfl rfl ?_
  refine k_iload (pc := 59) N at_59 rfl ?_
  refine k_iload_n (pc := 61) N at_61 rfl ?_
  refine k_static (pc := 62) N (y := (⟨"com/example/freshline/freshline/schedule/CandidateQueuePutPinLaw", "sk", "(I)I"⟩ : MethodName)) (rest := [.int (nd x0), .ref ls]) [.int p0_] at_62 (hw _ (List.mem_of_getElem? (i := 5) rfl)) (hw _ (List.mem_of_getElem? (i := 6) rfl)) (hw _ (List.mem_of_getElem? (i := 3) rfl)) (hw _ (List.mem_of_getElem? (i := 7) rfl)) (by decide) pd__I_I rfl (c_sk l Z a0 hw p0_ [oArr Z ls lsk .int (iA z0), oArr Z lr lrk .int (iA (upd z0 x0 (p0_ % (5 : Int32))))]) rfl rfl 2 rfl (by decide) (by decide) (cells' := 2) rfl (slots' := 8) rfl (by decide) (by decide) fun T vV K' N qQ => ?_
  obtain ⟨rfl, rfl⟩ := qQ
  refine k_iastore (pc := 65) N 0 x0 at_65 rfl (nd_nn (Nat.lt_succ_of_lt hx0)) (nd_nat (Nat.lt_succ_of_lt hx0)) (show x0 < 4 from hx0) (v := .int ((p0_ >>> ((3 : Int32) &&& 31)) % (5 : Int32))) rfl (K' := [oArr Z ls lsk .int (iA (upd z0 x0 ((p0_ >>> ((3 : Int32) &&& 31)) % (5 : Int32)))), oArr Z lr lrk .int (iA (upd z0 x0 (p0_ % (5 : Int32))))]) (by rw [set_iA (show x0 < 4 from hx0)]; rfl) fun T N => ?_
  refine k_aload (pc := 66) N at_66 rfl rfl ?_
  refine k_iload (pc := 68) N at_68 rfl ?_
  refine k_iload_n (pc := 70) N at_70 rfl ?_
  refine k_static (pc := 71) N (y := (⟨"com/example/freshline/freshline/schedule/CandidateQueuePutPinLaw", "rk", "(I)I"⟩ : MethodName)) (rest := [.int (nd x1), .ref lr]) [.int p1_] at_71 (hw _ (List.mem_of_getElem? (i := 1) rfl)) (hw _ (List.mem_of_getElem? (i := 2) rfl)) (hw _ (List.mem_of_getElem? (i := 3) rfl)) (hw _ (List.mem_of_getElem? (i := 4) rfl)) (by decide) pd__I_I rfl (c_rk l Z a0 hw p1_ [oArr Z ls lsk .int (iA (upd z0 x0 ((p0_ >>> ((3 : Int32) &&& 31)) % (5 : Int32)))), oArr Z lr lrk .int (iA (upd z0 x0 (p0_ % (5 : Int32))))]) rfl rfl 2 rfl (by decide) (by decide) (cells' := 2) rfl (slots' := 8) rfl (by decide) (by decide) fun T vV K' N qQ => ?_
  obtain ⟨rfl, rfl⟩ := qQ
  refine k_iastore (pc := 74) N 1 x1 at_74 rfl (nd_nn (Nat.lt_succ_of_lt hx1)) (nd_nat (Nat.lt_succ_of_lt hx1)) (show x1 < 4 from hx1) (v := .int (p1_ % (5 : Int32))) rfl (K' := [oArr Z ls lsk .int (iA (upd z0 x0 ((p0_ >>> ((3 : Int32) &&& 31)) % (5 : Int32)))), oArr Z lr lrk .int (iA (upd (upd z0 x0 (p0_ % (5 : Int32))) x1 (p1_ % (5 : Int32))))]) (by rw [set_iA (show x1 < 4 from hx1)]; rfl) fun T N => ?_
  refine k_aload (pc := 75) N at_75 rfl rfl ?_
  refine k_iload (pc := 77) N at_77 rfl ?_
  refine k_iload_n (pc := 79) N at_79 rfl ?_
  refine k_static (pc := 80) N (y := (⟨"com/example/freshline/freshline/schedule/CandidateQueuePutPinLaw", "sk", "(I)I"⟩ : MethodName)) (rest := [.int (nd x1), .ref ls]) [.int p1_] at_80 (hw _ (List.mem_of_getElem? (i := 5) rfl)) (hw _ (List.mem_of_getElem? (i := 6) rfl)) (hw _ (List.mem_of_getElem? (i := 3) rfl)) (hw _ (List.mem_of_getElem? (i := 7) rfl)) (by decide) pd__I_I rfl (c_sk l Z a0 hw p1_ [oArr Z ls lsk .int (iA (upd z0 x0 ((p0_ >>> ((3 : Int32) &&& 31)) % (5 : Int32)))), oArr Z lr lrk .int (iA (upd (upd z0 x0 (p0_ % (5 : Int32))) x1 (p1_ % (5 : Int32))))]) rfl rfl 2 rfl (by decide) (by decide) (cells' := 2) rfl (slots' := 8) rfl (by decide) (by decide) fun T vV K' N qQ => ?_
  obtain ⟨rfl, rfl⟩ := qQ
  refine k_iastore (pc := 83) N 0 x1 at_83 rfl (nd_nn (Nat.lt_succ_of_lt hx1)) (nd_nat (Nat.lt_succ_of_lt hx1)) (show x1 < 4 from hx1) (v := .int ((p1_ >>> ((3 : Int32) &&& 31)) % (5 : Int32))) rfl (K' := [oArr Z ls lsk .int (iA (upd (upd z0 x0 ((p0_ >>> ((3 : Int32) &&& 31)) % (5 : Int32))) x1 ((p1_ >>> ((3 : Int32) &&& 31)) % (5 : Int32)))), oArr Z lr lrk .int (iA (upd (upd z0 x0 (p0_ % (5 : Int32))) x1 (p1_ % (5 : Int32))))]) (by rw [set_iA (show x1 < 4 from hx1)]; rfl) fun T N => ?_
  refine k_aload (pc := 84) N at_84 rfl rfl ?_
  refine k_iload (pc := 86) N at_86 rfl ?_
  refine k_iload_n (pc := 88) N at_88 rfl ?_
  refine k_static (pc := 89) N (y := (⟨"com/example/freshline/freshline/schedule/CandidateQueuePutPinLaw", "rk", "(I)I"⟩ : MethodName)) (rest := [.int (nd x2), .ref lr]) [.int p2_] at_89 (hw _ (List.mem_of_getElem? (i := 1) rfl)) (hw _ (List.mem_of_getElem? (i := 2) rfl)) (hw _ (List.mem_of_getElem? (i := 3) rfl)) (hw _ (List.mem_of_getElem? (i := 4) rfl)) (by decide) pd__I_I rfl (c_rk l Z a0 hw p2_ [oArr Z ls lsk .int (iA (upd (upd z0 x0 ((p0_ >>> ((3 : Int32) &&& 31)) % (5 : Int32))) x1 ((p1_ >>> ((3 : Int32) &&& 31)) % (5 : Int32)))), oArr Z lr lrk .int (iA (upd (upd z0 x0 (p0_ % (5 : Int32))) x1 (p1_ % (5 : Int32))))]) rfl rfl 2 rfl (by decide) (by decide) (cells' := 2) rfl (slots' := 8) rfl (by decide) (by decide) fun T vV K' N qQ => ?_
  obtain ⟨rfl, rfl⟩ := qQ
  refine k_iastore (pc := 92) N 1 x2 at_92 rfl (nd_nn (Nat.lt_succ_of_lt hx2)) (nd_nat (Nat.lt_succ_of_lt hx2)) (show x2 < 4 from hx2) (v := .int (p2_ % (5 : Int32))) rfl (K' := [oArr Z ls lsk .int (iA (upd (upd z0 x0 ((p0_ >>> ((3 : Int32) &&& 31)) % (5 : Int32))) x1 ((p1_ >>> ((3 : Int32) &&& 31)) % (5 : Int32)))), oArr Z lr lrk .int (iA (upd (upd (upd z0 x0 (p0_ % (5 : Int32))) x1 (p1_ % (5 : Int32))) x2 (p2_ % (5 : Int32))))]) (by rw [set_iA (show x2 < 4 from hx2)]; rfl) fun T N => ?_
  refine k_aload (pc := 93) N at_93 rfl rfl ?_
  refine k_iload (pc := 95) N at_95 rfl ?_
  refine k_iload_n (pc := 97) N at_97 rfl ?_
  refine k_static (pc := 98) N (y := (⟨"com/example/freshline/freshline/schedule/CandidateQueuePutPinLaw", "sk", "(I)I"⟩ : MethodName)) (rest := [.int (nd x2), .ref ls]) [.int p2_] at_98 (hw _ (List.mem_of_getElem? (i := 5) rfl)) (hw _ (List.mem_of_getElem? (i := 6) rfl)) (hw _ (List.mem_of_getElem? (i := 3) rfl)) (hw _ (List.mem_of_getElem? (i := 7) rfl)) (by decide) pd__I_I rfl (c_sk l Z a0 hw p2_ [oArr Z ls lsk .int (iA (upd (upd z0 x0 ((p0_ >>> ((3 : Int32) &&& 31)) % (5 : Int32))) x1 ((p1_ >>> ((3 : Int32) &&& 31)) % (5 : Int32)))), oArr Z lr lrk .int (iA (upd (upd (upd z0 x0 (p0_ % (5 : Int32))) x1 (p1_ % (5 : Int32))) x2 (p2_ % (5 : Int32))))]) rfl rfl 2 rfl (by decide) (by decide) (cells' := 2) rfl (slots' := 8) rfl (by decide) (by decide) fun T vV K' N qQ => ?_
  obtain ⟨rfl, rfl⟩ := qQ
  refine k_iastore (pc := 101) N 0 x2 at_101 rfl (nd_nn (Nat.lt_succ_of_lt hx2)) (nd_nat (Nat.lt_succ_of_lt hx2)) (show x2 < 4 from hx2) (v := .int ((p2_ >>> ((3 : Int32) &&& 31)) % (5 : Int32))) rfl (K' := [oArr Z ls lsk .int (iA (upd (upd (upd z0 x0 ((p0_ >>> ((3 : Int32) &&& 31)) % (5 : Int32))) x1 ((p1_ >>> ((3 : Int32) &&& 31)) % (5 : Int32))) x2 ((p2_ >>> ((3 : Int32) &&& 31)) % (5 : Int32)))), oArr Z lr lrk .int (iA (upd (upd (upd z0 x0 (p0_ % (5 : Int32))) x1 (p1_ % (5 : Int32))) x2 (p2_ % (5 : Int32))))]) (by rw [set_iA (show x2 < 4 from hx2)]; rfl) fun T N => ?_
  refine k_aload (pc := 102) N at_102 rfl rfl ?_
  refine k_iload (pc := 104) N at_104 rfl ?_
  refine k_iload_n (pc := 106) N at_106 rfl ?_
  refine k_static (pc := 107) N (y := (⟨"com/example/freshline/freshline/schedule/CandidateQueuePutPinLaw", "rk", "(I)I"⟩ : MethodName)) (rest := [.int (nd x3), .ref lr]) [.int p3_] at_107 (hw _ (List.mem_of_getElem? (i := 1) rfl)) (hw _ (List.mem_of_getElem? (i := 2) rfl)) (hw _ (List.mem_of_getElem? (i := 3) rfl)) (hw _ (List.mem_of_getElem? (i := 4) rfl)) (by decide) pd__I_I rfl (c_rk l Z a0 hw p3_ [oArr Z ls lsk .int (iA (upd (upd (upd z0 x0 ((p0_ >>> ((3 : Int32) &&& 31)) % (5 : Int32))) x1 ((p1_ >>> ((3 : Int32) &&& 31)) % (5 : Int32))) x2 ((p2_ >>> ((3 : Int32) &&& 31)) % (5 : Int32)))), oArr Z lr lrk .int (iA (upd (upd (upd z0 x0 (p0_ % (5 : Int32))) x1 (p1_ % (5 : Int32))) x2 (p2_ % (5 : Int32))))]) rfl rfl 2 rfl (by decide) (by decide) (cells' := 2) rfl (slots' := 8) rfl (by decide) (by decide) fun T vV K' N qQ => ?_
  obtain ⟨rfl, rfl⟩ := qQ
  refine k_iastore (pc := 110) N 1 x3 at_110 rfl (nd_nn (Nat.lt_succ_of_lt hx3)) (nd_nat (Nat.lt_succ_of_lt hx3)) (show x3 < 4 from hx3) (v := .int (p3_ % (5 : Int32))) rfl (K' := [oArr Z ls lsk .int (iA (upd (upd (upd z0 x0 ((p0_ >>> ((3 : Int32) &&& 31)) % (5 : Int32))) x1 ((p1_ >>> ((3 : Int32) &&& 31)) % (5 : Int32))) x2 ((p2_ >>> ((3 : Int32) &&& 31)) % (5 : Int32)))), oArr Z lr lrk .int (iA (upd (upd (upd (upd z0 x0 (p0_ % (5 : Int32))) x1 (p1_ % (5 : Int32))) x2 (p2_ % (5 : Int32))) x3 (p3_ % (5 : Int32))))]) (by rw [set_iA (show x3 < 4 from hx3)]; rfl) fun T N => ?_
  refine k_aload (pc := 111) N at_111 rfl rfl ?_
  refine k_iload (pc := 113) N at_113 rfl ?_
  refine k_iload_n (pc := 115) N at_115 rfl ?_
  refine k_static (pc := 116) N (y := (⟨"com/example/freshline/freshline/schedule/CandidateQueuePutPinLaw", "sk", "(I)I"⟩ : MethodName)) (rest := [.int (nd x3), .ref ls]) [.int p3_] at_116 (hw _ (List.mem_of_getElem? (i := 5) rfl)) (hw _ (List.mem_of_getElem? (i := 6) rfl)) (hw _ (List.mem_of_getElem? (i := 3) rfl)) (hw _ (List.mem_of_getElem? (i := 7) rfl)) (by decide) pd__I_I rfl (c_sk l Z a0 hw p3_ [oArr Z ls lsk .int (iA (upd (upd (upd z0 x0 ((p0_ >>> ((3 : Int32) &&& 31)) % (5 : Int32))) x1 ((p1_ >>> ((3 : Int32) &&& 31)) % (5 : Int32))) x2 ((p2_ >>> ((3 : Int32) &&& 31)) % (5 : Int32)))), oArr Z lr lrk .int (iA (upd (upd (upd (upd z0 x0 (p0_ % (5 : Int32))) x1 (p1_ % (5 : Int32))) x2 (p2_ % (5 : Int32))) x3 (p3_ % (5 : Int32))))]) rfl rfl 2 rfl (by decide) (by decide) (cells' := 2) rfl (slots' := 8) rfl (by decide) (by decide) fun T vV K' N qQ => ?_
  obtain ⟨rfl, rfl⟩ := qQ
  refine k_iastore (pc := 119) N 0 x3 at_119 rfl (nd_nn (Nat.lt_succ_of_lt hx3)) (nd_nat (Nat.lt_succ_of_lt hx3)) (show x3 < 4 from hx3) (v := .int ((p3_ >>> ((3 : Int32) &&& 31)) % (5 : Int32))) rfl (K' := [oArr Z ls lsk .int (iA (upd (upd (upd (upd z0 x0 ((p0_ >>> ((3 : Int32) &&& 31)) % (5 : Int32))) x1 ((p1_ >>> ((3 : Int32) &&& 31)) % (5 : Int32))) x2 ((p2_ >>> ((3 : Int32) &&& 31)) % (5 : Int32))) x3 ((p3_ >>> ((3 : Int32) &&& 31)) % (5 : Int32)))), oArr Z lr lrk .int (iA (upd (upd (upd (upd z0 x0 (p0_ % (5 : Int32))) x1 (p1_ % (5 : Int32))) x2 (p2_ % (5 : Int32))) x3 (p3_ % (5 : Int32))))]) (by rw [set_iA (show x3 < 4 from hx3)]; rfl) fun T N => ?_
  generalize (upd (upd (upd (upd z0 x0 ((p0_ >>> ((3 : Int32) &&& 31)) % (5 : Int32))) x1 ((p1_ >>> ((3 : Int32) &&& 31)) % (5 : Int32))) x2 ((p2_ >>> ((3 : Int32) &&& 31)) % (5 : Int32))) x3 ((p3_ >>> ((3 : Int32) &&& 31)) % (5 : Int32))) = fb at N
  generalize (upd (upd (upd (upd z0 x0 (p0_ % (5 : Int32))) x1 (p1_ % (5 : Int32))) x2 (p2_ % (5 : Int32))) x3 (p3_ % (5 : Int32))) = fa at N
  refine k_new (pc := 120) N at_120 (hw _ (List.mem_of_getElem? (i := 8) rfl)) (hw _ (List.mem_of_getElem? (i := 9) rfl)) (hw _ (List.mem_of_getElem? (i := 10) rfl)) (fs := [("com/example/freshline/freshline/schedule/CandidateQueue", "heap", "[I", .null), ("com/example/freshline/freshline/schedule/CandidateQueue", "places", "[I", .null), ("com/example/freshline/freshline/schedule/CandidateQueue", "ranks", "[D", .null), ("com/example/freshline/freshline/schedule/CandidateQueue", "staleSince", "[D", .null), ("com/example/freshline/freshline/schedule/CandidateQueue", "size", "I", .int (0 : Int32))]) ⟨⟨Or.inr (hw _ (List.mem_of_getElem? (i := 18) rfl)), (.array .int), by decide, rfl⟩, ⟨Or.inr (hw _ (List.mem_of_getElem? (i := 20) rfl)), (.array .int), by decide, rfl⟩, ⟨Or.inr (hw _ (List.mem_of_getElem? (i := 23) rfl)), (.array .double), by decide, rfl⟩, ⟨Or.inr (hw _ (List.mem_of_getElem? (i := 25) rfl)), (.array .double), by decide, rfl⟩, ⟨Or.inl (hw _ (List.mem_of_getElem? (i := 36) rfl)), .int, by decide, rfl⟩, trivial⟩ (by decide) (by decide) (by decide) fun T qa N => ?_
  refine k_dup (pc := 123) N at_123 rfl ?_
  refine k_iconst (pc := 124) N at_124 (v := (4 : Int32)) (by decide) ?_
  refine k_special (pc := 125) N (y := (⟨"com/example/freshline/freshline/schedule/CandidateQueue", "<init>", "(I)V"⟩ : MethodName)) (rest := [.ref qa]) [.int (4 : Int32)] (a := qa) at_125 rfl (hw _ (List.mem_of_getElem? (i := 11) rfl)) (hw _ (List.mem_of_getElem? (i := 12) rfl)) (hw _ (List.mem_of_getElem? (i := 10) rfl)) (hw _ (List.mem_of_getElem? (i := 13) rfl)) (by decide) pd__I_V rfl (c_init l Z a0 hw qa [oArr Z ls lsk .int (iA fb), oArr Z lr lrk .int (iA fa)]) rfl rfl 1 rfl (by decide) (by decide) (cells' := 7) rfl (slots' := 29) rfl (by decide) (by decide) fun T vV K' N qQ => ?_
  obtain ⟨ah, ap, ar, ax, kh, kp, kr, ks, rfl, rfl⟩ := qQ
  have hO0 := Ok.start
  have hW0 : HW 0 (ky z0 z0) (fun _ => 0) := HW.start
  refine k_astore (pc := 128) N at_128 rfl (Ls' := #[.val (.int p0_), .val (.int p1_), .val (.int p2_), .val (.int p3_), .val (.int p4_), .val (.int p5_), .val (.int (p5_ &&& (3 : Int32))), .val (.int (nd kk)), .val (.ref lr), .val (.ref ls), .val (.int (nd x0)), .val (.int (nd x1)), .val (.int (nd x2)), .val (.int (nd x3)), .val (.ref qa), .unset, .unset, .unset, .unset, .unset, .unset]) rfl ?_
  refine k_aload (pc := 130) N at_130 rfl rfl ?_
  refine k_iload (pc := 132) N at_132 rfl ?_
  refine k_aload (pc := 134) N at_134 rfl rfl ?_
  refine k_iload (pc := 136) N at_136 rfl ?_
  refine k_iaload (pc := 138) N 6 x0 at_138 rfl (nd_nn (Nat.lt_succ_of_lt hx0)) (nd_nat (Nat.lt_succ_of_lt hx0)) (v := .int (fa x0)) (arr4_get hx0) ?_
  refine k_i2d (pc := 139) N at_139 ?_
  refine k_aload (pc := 140) N at_140 rfl rfl ?_
  refine k_iload (pc := 142) N at_142 rfl ?_
  refine k_iaload (pc := 144) N 5 x0 at_144 rfl (nd_nn (Nat.lt_succ_of_lt hx0)) (nd_nat (Nat.lt_succ_of_lt hx0)) (v := .int (fb x0)) (arr4_get hx0) ?_
  refine k_i2d (pc := 145) N at_145 ?_
  refine k_virtual (pc := 146) N (y := (⟨"com/example/freshline/freshline/schedule/CandidateQueue", "put", "(IDD)V"⟩ : MethodName)) (z := (⟨"com/example/freshline/freshline/schedule/CandidateQueue", "put", "(IDD)V"⟩ : MethodName)) (rest := []) [.int (nd x0), .double (FP.i2d (fa x0)), .double (FP.i2d (fb x0))] (a := qa) at_146 (fun h N => N.exa (i := 0) rfl) (hw _ (List.mem_of_getElem? (i := 30) rfl)) (hw _ (List.mem_of_getElem? (i := 31) rfl)) (nf_self (hw _ (List.mem_of_getElem? (i := 33) rfl))) (hw _ (List.mem_of_getElem? (i := 33) rfl)) (hw _ (List.mem_of_getElem? (i := 32) rfl)) (hw _ (List.mem_of_getElem? (i := 10) rfl)) (hw _ (List.mem_of_getElem? (i := 34) rfl)) (by decide) pd__IDD_V rfl (c_put l Z a0 hw qa ah ap ar ax kh kp kr ks 0 (fun _ => 0) m1 z0 z0 hO0 hW0 x0 hx0 (fa x0) (fb x0) [oArr Z ls lsk .int (iA fb), oArr Z lr lrk .int (iA fa)]) rfl rfl 0 rfl (by decide) (by decide) (cells' := 7) rfl (slots' := 29) rfl (by decide) (by decide) fun T vV K' N qQ => ?_
  obtain ⟨n1, h1, p1, a1, b1, hO1, hW1, hP1, ea1, eb1, rfl, rfl⟩ := qQ
  refine k_aload (pc := 149) N at_149 rfl rfl ?_
  refine k_iload (pc := 151) N at_151 rfl ?_
  refine k_aload (pc := 153) N at_153 rfl rfl ?_
  refine k_iload (pc := 155) N at_155 rfl ?_
  refine k_iaload (pc := 157) N 6 x1 at_157 rfl (nd_nn (Nat.lt_succ_of_lt hx1)) (nd_nat (Nat.lt_succ_of_lt hx1)) (v := .int (fa x1)) (arr4_get hx1) ?_
  refine k_i2d (pc := 158) N at_158 ?_
  refine k_aload (pc := 159) N at_159 rfl rfl ?_
  refine k_iload (pc := 161) N at_161 rfl ?_
  refine k_iaload (pc := 163) N 5 x1 at_163 rfl (nd_nn (Nat.lt_succ_of_lt hx1)) (nd_nat (Nat.lt_succ_of_lt hx1)) (v := .int (fb x1)) (arr4_get hx1) ?_
  refine k_i2d (pc := 164) N at_164 ?_
  refine k_virtual (pc := 165) N (y := (⟨"com/example/freshline/freshline/schedule/CandidateQueue", "put", "(IDD)V"⟩ : MethodName)) (z := (⟨"com/example/freshline/freshline/schedule/CandidateQueue", "put", "(IDD)V"⟩ : MethodName)) (rest := []) [.int (nd x1), .double (FP.i2d (fa x1)), .double (FP.i2d (fb x1))] (a := qa) at_165 (fun h N => N.exa (i := 0) rfl) (hw _ (List.mem_of_getElem? (i := 30) rfl)) (hw _ (List.mem_of_getElem? (i := 31) rfl)) (nf_self (hw _ (List.mem_of_getElem? (i := 33) rfl))) (hw _ (List.mem_of_getElem? (i := 33) rfl)) (hw _ (List.mem_of_getElem? (i := 32) rfl)) (hw _ (List.mem_of_getElem? (i := 10) rfl)) (hw _ (List.mem_of_getElem? (i := 34) rfl)) (by decide) pd__IDD_V rfl (c_put l Z a0 hw qa ah ap ar ax kh kp kr ks n1 h1 p1 a1 b1 hO1 hW1 x1 hx1 (fa x1) (fb x1) [oArr Z ls lsk .int (iA fb), oArr Z lr lrk .int (iA fa)]) rfl rfl 0 rfl (by decide) (by decide) (cells' := 7) rfl (slots' := 29) rfl (by decide) (by decide) fun T vV K' N qQ => ?_
  obtain ⟨n2, h2, p2, a2, b2, hO2, hW2, hP2, ea2, eb2, rfl, rfl⟩ := qQ
  refine k_aload (pc := 168) N at_168 rfl rfl ?_
  refine k_iload (pc := 170) N at_170 rfl ?_
  refine k_aload (pc := 172) N at_172 rfl rfl ?_
  refine k_iload (pc := 174) N at_174 rfl ?_
  refine k_iaload (pc := 176) N 6 x2 at_176 rfl (nd_nn (Nat.lt_succ_of_lt hx2)) (nd_nat (Nat.lt_succ_of_lt hx2)) (v := .int (fa x2)) (arr4_get hx2) ?_
  refine k_i2d (pc := 177) N at_177 ?_
  refine k_aload (pc := 178) N at_178 rfl rfl ?_
  refine k_iload (pc := 180) N at_180 rfl ?_
  refine k_iaload (pc := 182) N 5 x2 at_182 rfl (nd_nn (Nat.lt_succ_of_lt hx2)) (nd_nat (Nat.lt_succ_of_lt hx2)) (v := .int (fb x2)) (arr4_get hx2) ?_
  refine k_i2d (pc := 183) N at_183 ?_
  refine k_virtual (pc := 184) N (y := (⟨"com/example/freshline/freshline/schedule/CandidateQueue", "put", "(IDD)V"⟩ : MethodName)) (z := (⟨"com/example/freshline/freshline/schedule/CandidateQueue", "put", "(IDD)V"⟩ : MethodName)) (rest := []) [.int (nd x2), .double (FP.i2d (fa x2)), .double (FP.i2d (fb x2))] (a := qa) at_184 (fun h N => N.exa (i := 0) rfl) (hw _ (List.mem_of_getElem? (i := 30) rfl)) (hw _ (List.mem_of_getElem? (i := 31) rfl)) (nf_self (hw _ (List.mem_of_getElem? (i := 33) rfl))) (hw _ (List.mem_of_getElem? (i := 33) rfl)) (hw _ (List.mem_of_getElem? (i := 32) rfl)) (hw _ (List.mem_of_getElem? (i := 10) rfl)) (hw _ (List.mem_of_getElem? (i := 34) rfl)) (by decide) pd__IDD_V rfl (c_put l Z a0 hw qa ah ap ar ax kh kp kr ks n2 h2 p2 a2 b2 hO2 hW2 x2 hx2 (fa x2) (fb x2) [oArr Z ls lsk .int (iA fb), oArr Z lr lrk .int (iA fa)]) rfl rfl 0 rfl (by decide) (by decide) (cells' := 7) rfl (slots' := 29) rfl (by decide) (by decide) fun T vV K' N qQ => ?_
  obtain ⟨n3, h3, p3, a3, b3, hO3, hW3, hP3, ea3, eb3, rfl, rfl⟩ := qQ
  refine k_aload (pc := 187) N at_187 rfl rfl ?_
  refine k_iload (pc := 189) N at_189 rfl ?_
  refine k_aload (pc := 191) N at_191 rfl rfl ?_
  refine k_iload (pc := 193) N at_193 rfl ?_
  refine k_iaload (pc := 195) N 6 x3 at_195 rfl (nd_nn (Nat.lt_succ_of_lt hx3)) (nd_nat (Nat.lt_succ_of_lt hx3)) (v := .int (fa x3)) (arr4_get hx3) ?_
  refine k_i2d (pc := 196) N at_196 ?_
  refine k_aload (pc := 197) N at_197 rfl rfl ?_
  refine k_iload (pc := 199) N at_199 rfl ?_
  refine k_iaload (pc := 201) N 5 x3 at_201 rfl (nd_nn (Nat.lt_succ_of_lt hx3)) (nd_nat (Nat.lt_succ_of_lt hx3)) (v := .int (fb x3)) (arr4_get hx3) ?_
  refine k_i2d (pc := 202) N at_202 ?_
  refine k_virtual (pc := 203) N (y := (⟨"com/example/freshline/freshline/schedule/CandidateQueue", "put", "(IDD)V"⟩ : MethodName)) (z := (⟨"com/example/freshline/freshline/schedule/CandidateQueue", "put", "(IDD)V"⟩ : MethodName)) (rest := []) [.int (nd x3), .double (FP.i2d (fa x3)), .double (FP.i2d (fb x3))] (a := qa) at_203 (fun h N => N.exa (i := 0) rfl) (hw _ (List.mem_of_getElem? (i := 30) rfl)) (hw _ (List.mem_of_getElem? (i := 31) rfl)) (nf_self (hw _ (List.mem_of_getElem? (i := 33) rfl))) (hw _ (List.mem_of_getElem? (i := 33) rfl)) (hw _ (List.mem_of_getElem? (i := 32) rfl)) (hw _ (List.mem_of_getElem? (i := 10) rfl)) (hw _ (List.mem_of_getElem? (i := 34) rfl)) (by decide) pd__IDD_V rfl (c_put l Z a0 hw qa ah ap ar ax kh kp kr ks n3 h3 p3 a3 b3 hO3 hW3 x3 hx3 (fa x3) (fb x3) [oArr Z ls lsk .int (iA fb), oArr Z lr lrk .int (iA fa)]) rfl rfl 0 rfl (by decide) (by decide) (cells' := 7) rfl (slots' := 29) rfl (by decide) (by decide) fun T vV K' N qQ => ?_
  obtain ⟨n4, h4, p4, a4, b4, hO4, hW4, hP4, ea4, eb4, rfl, rfl⟩ := qQ
  have hq4 := four_puts cov hP1 hP2 hP3 hP4
  have hA4 := four_upds cov ea1 ea2 ea3 ea4
  have hB4 := four_upds cov eb1 eb2 eb3 eb4
  refine k_aload (pc := 206) N at_206 rfl rfl ?_
  refine k_aload (pc := 208) N at_208 rfl rfl ?_
  refine k_aload (pc := 210) N at_210 rfl rfl ?_
  refine k_aload (pc := 212) N at_212 rfl rfl ?_
  refine k_iconst (pc := 214) N at_214 (v := (0 : Int32)) (by decide) ?_
  refine k_iconst (pc := 215) N at_215 (v := (1 : Int32)) (by decide) ?_
  replace N := ONow.sel (F := [oCq Z qa (.ref ah) (.ref ap) (.ref ar) (.ref ax) (.int (nd n4)), oArr Z ah kh .int (hA h4), oArr Z ap kp .int (iA p4), oArr Z ar kr .double (rA a4), oArr Z ax ks .double (rA b4), oArr Z ls lsk .int (iA fb), oArr Z lr lrk .int (iA fa)]) (F' := [oArr Z lr lrk .int (iA fa), oArr Z ls lsk .int (iA fb), oCq Z qa (.ref ah) (.ref ap) (.ref ar) (.ref ax) (.int (nd n4)), oArr Z ah kh .int (hA h4), oArr Z ap kp .int (iA p4), oArr Z ar kr .double (rA a4), oArr Z ax ks .double (rA b4)]) (rest := []) N [6, 5, 0, 1, 2, 3, 4] (by decide) rfl
  simp only [List.append_nil] at N
  refine k_static (pc := 216) N (y := (⟨"com/example/freshline/freshline/schedule/CandidateQueuePutPinLaw", "better", "([I[III)I"⟩ : MethodName)) (rest := [.ref ls, .ref lr]) [.ref lr, .ref ls, .int (0 : Int32), .int (1 : Int32)] at_216 (hw _ (List.mem_of_getElem? (i := 69) rfl)) (hw _ (List.mem_of_getElem? (i := 70) rfl)) (hw _ (List.mem_of_getElem? (i := 3) rfl)) (hw _ (List.mem_of_getElem? (i := 71) rfl)) (by decide) pd___I_III_I rfl (c_better l Z a0 hw lr ls lrk lsk fa fb 0 1 (by decide) (by decide) [oCq Z qa (.ref ah) (.ref ap) (.ref ar) (.ref ax) (.int (nd n4)), oArr Z ah kh .int (hA h4), oArr Z ap kp .int (iA p4), oArr Z ar kr .double (rA a4), oArr Z ax ks .double (rA b4)]) rfl rfl 2 rfl (by decide) (by decide) (cells' := 7) rfl (slots' := 29) rfl (by decide) (by decide) fun T vV K' N qQ => ?_
  obtain ⟨rfl, rfl⟩ := qQ
  refine k_aload (pc := 219) N at_219 rfl rfl ?_
  refine k_aload (pc := 221) N at_221 rfl rfl ?_
  refine k_iconst (pc := 223) N at_223 (v := (2 : Int32)) (by decide) ?_
  refine k_iconst (pc := 224) N at_224 (v := (3 : Int32)) (by decide) ?_
  refine k_static (pc := 225) N (y := (⟨"com/example/freshline/freshline/schedule/CandidateQueuePutPinLaw", "better", "([I[III)I"⟩ : MethodName)) (rest := [.int (nd (bst (ky fa fb) 0 1)), .ref ls, .ref lr]) [.ref lr, .ref ls, .int (2 : Int32), .int (3 : Int32)] at_225 (hw _ (List.mem_of_getElem? (i := 69) rfl)) (hw _ (List.mem_of_getElem? (i := 70) rfl)) (hw _ (List.mem_of_getElem? (i := 3) rfl)) (hw _ (List.mem_of_getElem? (i := 71) rfl)) (by decide) pd___I_III_I rfl (c_better l Z a0 hw lr ls lrk lsk fa fb 2 3 (by decide) (by decide) [oCq Z qa (.ref ah) (.ref ap) (.ref ar) (.ref ax) (.int (nd n4)), oArr Z ah kh .int (hA h4), oArr Z ap kp .int (iA p4), oArr Z ar kr .double (rA a4), oArr Z ax ks .double (rA b4)]) rfl rfl 3 rfl (by decide) (by decide) (cells' := 7) rfl (slots' := 29) rfl (by decide) (by decide) fun T vV K' N qQ => ?_
  obtain ⟨rfl, rfl⟩ := qQ
  refine k_static (pc := 228) N (y := (⟨"com/example/freshline/freshline/schedule/CandidateQueuePutPinLaw", "better", "([I[III)I"⟩ : MethodName)) (rest := []) [.ref lr, .ref ls, .int (nd (bst (ky fa fb) 0 1)), .int (nd (bst (ky fa fb) 2 3))] at_228 (hw _ (List.mem_of_getElem? (i := 69) rfl)) (hw _ (List.mem_of_getElem? (i := 70) rfl)) (hw _ (List.mem_of_getElem? (i := 3) rfl)) (hw _ (List.mem_of_getElem? (i := 71) rfl)) (by decide) pd___I_III_I rfl (c_better l Z a0 hw lr ls lrk lsk fa fb (bst (ky fa fb) 0 1) (bst (ky fa fb) 2 3) (bst_lt (by decide) (by decide)) (bst_lt (by decide) (by decide)) [oCq Z qa (.ref ah) (.ref ap) (.ref ar) (.ref ax) (.int (nd n4)), oArr Z ah kh .int (hA h4), oArr Z ap kp .int (iA p4), oArr Z ar kr .double (rA a4), oArr Z ax ks .double (rA b4)]) rfl rfl 0 rfl (by decide) (by decide) (cells' := 7) rfl (slots' := 29) rfl (by decide) (by decide) fun T vV K' N qQ => ?_
  obtain ⟨rfl, rfl⟩ := qQ
  refine k_istore (pc := 231) N at_231 (Ls' := #[.val (.int p0_), .val (.int p1_), .val (.int p2_), .val (.int p3_), .val (.int p4_), .val (.int p5_), .val (.int (p5_ &&& (3 : Int32))), .val (.int (nd kk)), .val (.ref lr), .val (.ref ls), .val (.int (nd x0)), .val (.int (nd x1)), .val (.int (nd x2)), .val (.int (nd x3)), .val (.ref qa), .val (.int (nd (bst (ky fa fb) (bst (ky fa fb) 0 1) (bst (ky fa fb) 2 3)))), .unset, .unset, .unset, .unset, .unset]) rfl ?_
  refine k_aload (pc := 233) N at_233 rfl rfl ?_
  replace N := ONow.sel (F := [oArr Z lr lrk .int (iA fa), oArr Z ls lsk .int (iA fb), oCq Z qa (.ref ah) (.ref ap) (.ref ar) (.ref ax) (.int (nd n4)), oArr Z ah kh .int (hA h4), oArr Z ap kp .int (iA p4), oArr Z ar kr .double (rA a4), oArr Z ax ks .double (rA b4)]) (F' := [oCq Z qa (.ref ah) (.ref ap) (.ref ar) (.ref ax) (.int (nd n4)), oArr Z ah kh .int (hA h4), oArr Z ap kp .int (iA p4), oArr Z ar kr .double (rA a4), oArr Z ax ks .double (rA b4), oArr Z lr lrk .int (iA fa), oArr Z ls lsk .int (iA fb)]) (rest := []) N [2, 3, 4, 5, 6, 0, 1] (by decide) rfl
  simp only [List.append_nil] at N
  refine k_virtual (pc := 235) N (y := (⟨"com/example/freshline/freshline/schedule/CandidateQueue", "first", "()I"⟩ : MethodName)) (z := (⟨"com/example/freshline/freshline/schedule/CandidateQueue", "first", "()I"⟩ : MethodName)) (rest := []) [] (a := qa) at_235 (fun h N => N.exa (i := 0) rfl) (hw _ (List.mem_of_getElem? (i := 75) rfl)) (hw _ (List.mem_of_getElem? (i := 76) rfl)) (nf_self (hw _ (List.mem_of_getElem? (i := 78) rfl))) (hw _ (List.mem_of_getElem? (i := 78) rfl)) (hw _ (List.mem_of_getElem? (i := 77) rfl)) (hw _ (List.mem_of_getElem? (i := 10) rfl)) (hw _ (List.mem_of_getElem? (i := 79) rfl)) (by decide) pd___I rfl (c_first l Z a0 hw qa ah ap ar ax kh kp kr ks n4 (Nat.lt_succ_of_le hO4.le) h4 p4 a4 b4 [oArr Z lr lrk .int (iA fa), oArr Z ls lsk .int (iA fb)]) rfl rfl 0 rfl (by decide) (by decide) (cells' := 7) rfl (slots' := 29) rfl (by decide) (by decide) fun T vV K' N qQ => ?_
  obtain ⟨rfl, rfl⟩ := qQ
  refine k_iload (pc := 238) N at_238 rfl ?_
  refine k_icmp_ne (pc := 240) N at_240 (pc' := 247) (by decide) (fun qQ => absurd qQ (fun z => z (fst_is hO4 hW4 (fun y hy _ => ⟨hA4 y hy, hB4 y hy⟩) (bst_lt (bst_lt (by decide) (by decide)) (bst_lt (by decide) (by decide))) (hq4 _ (bst_lt (bst_lt (by decide) (by decide)) (bst_lt (by decide) (by decide)))) (fun y hy _ => best4 _ hy)))) (fun _ => ?_)
  refine k_iconst (pc := 243) N at_243 (v := (1 : Int32)) (by decide) ?_
  refine k_goto (pc := 244) N at_244 (pc' := 248) (by decide) ?_
  refine k_istore (pc := 248) N at_248 (Ls' := #[.val (.int p0_), .val (.int p1_), .val (.int p2_), .val (.int p3_), .val (.int p4_), .val (.int p5_), .val (.int (p5_ &&& (3 : Int32))), .val (.int (nd kk)), .val (.ref lr), .val (.ref ls), .val (.int (nd x0)), .val (.int (nd x1)), .val (.int (nd x2)), .val (.int (nd x3)), .val (.ref qa), .val (.int (nd (bst (ky fa fb) (bst (ky fa fb) 0 1) (bst (ky fa fb) 2 3)))), .val (.int (1 : Int32)), .unset, .unset, .unset, .unset]) rfl ?_
  refine k_aload (pc := 250) N at_250 rfl rfl ?_
  refine k_iload (pc := 252) N at_252 rfl ?_
  refine k_iload (pc := 254) N at_254 rfl ?_
  refine k_static (pc := 256) N (y := (⟨"com/example/freshline/freshline/schedule/CandidateQueuePutPinLaw", "rk", "(I)I"⟩ : MethodName)) (rest := [.int (nd kk), .ref lr]) [.int p4_] at_256 (hw _ (List.mem_of_getElem? (i := 1) rfl)) (hw _ (List.mem_of_getElem? (i := 2) rfl)) (hw _ (List.mem_of_getElem? (i := 3) rfl)) (hw _ (List.mem_of_getElem? (i := 4) rfl)) (by decide) pd__I_I rfl (c_rk l Z a0 hw p4_ [oCq Z qa (.ref ah) (.ref ap) (.ref ar) (.ref ax) (.int (nd n4)), oArr Z ah kh .int (hA h4), oArr Z ap kp .int (iA p4), oArr Z ar kr .double (rA a4), oArr Z ax ks .double (rA b4), oArr Z lr lrk .int (iA fa), oArr Z ls lsk .int (iA fb)]) rfl rfl 2 rfl (by decide) (by decide) (cells' := 7) rfl (slots' := 29) rfl (by decide) (by decide) fun T vV K' N qQ => ?_
  obtain ⟨rfl, rfl⟩ := qQ
  refine k_iastore (pc := 259) N 5 kk at_259 rfl (nd_nn (Nat.lt_succ_of_lt hkk)) (nd_nat (Nat.lt_succ_of_lt hkk)) (show kk < 4 from hkk) (v := .int (p4_ % (5 : Int32))) rfl (K' := [oCq Z qa (.ref ah) (.ref ap) (.ref ar) (.ref ax) (.int (nd n4)), oArr Z ah kh .int (hA h4), oArr Z ap kp .int (iA p4), oArr Z ar kr .double (rA a4), oArr Z ax ks .double (rA b4), oArr Z lr lrk .int (iA (upd fa kk (p4_ % (5 : Int32)))), oArr Z ls lsk .int (iA fb)]) (by rw [set_iA (show kk < 4 from hkk)]; rfl) fun T N => ?_
  refine k_aload (pc := 260) N at_260 rfl rfl ?_
  refine k_iload (pc := 262) N at_262 rfl ?_
  refine k_iload (pc := 264) N at_264 rfl ?_
  refine k_static (pc := 266) N (y := (⟨"com/example/freshline/freshline/schedule/CandidateQueuePutPinLaw", "sk", "(I)I"⟩ : MethodName)) (rest := [.int (nd kk), .ref ls]) [.int p4_] at_266 (hw _ (List.mem_of_getElem? (i := 5) rfl)) (hw _ (List.mem_of_getElem? (i := 6) rfl)) (hw _ (List.mem_of_getElem? (i := 3) rfl)) (hw _ (List.mem_of_getElem? (i := 7) rfl)) (by decide) pd__I_I rfl (c_sk l Z a0 hw p4_ [oCq Z qa (.ref ah) (.ref ap) (.ref ar) (.ref ax) (.int (nd n4)), oArr Z ah kh .int (hA h4), oArr Z ap kp .int (iA p4), oArr Z ar kr .double (rA a4), oArr Z ax ks .double (rA b4), oArr Z lr lrk .int (iA (upd fa kk (p4_ % (5 : Int32)))), oArr Z ls lsk .int (iA fb)]) rfl rfl 2 rfl (by decide) (by decide) (cells' := 7) rfl (slots' := 29) rfl (by decide) (by decide) fun T vV K' N qQ => ?_
  obtain ⟨rfl, rfl⟩ := qQ
  refine k_iastore (pc := 269) N 6 kk at_269 rfl (nd_nn (Nat.lt_succ_of_lt hkk)) (nd_nat (Nat.lt_succ_of_lt hkk)) (show kk < 4 from hkk) (v := .int ((p4_ >>> ((3 : Int32) &&& 31)) % (5 : Int32))) rfl (K' := [oCq Z qa (.ref ah) (.ref ap) (.ref ar) (.ref ax) (.int (nd n4)), oArr Z ah kh .int (hA h4), oArr Z ap kp .int (iA p4), oArr Z ar kr .double (rA a4), oArr Z ax ks .double (rA b4), oArr Z lr lrk .int (iA (upd fa kk (p4_ % (5 : Int32)))), oArr Z ls lsk .int (iA (upd fb kk ((p4_ >>> ((3 : Int32) &&& 31)) % (5 : Int32))))]) (by rw [set_iA (show kk < 4 from hkk)]; rfl) fun T N => ?_
  refine k_aload (pc := 270) N at_270 rfl rfl ?_
  refine k_iload (pc := 272) N at_272 rfl ?_
  refine k_aload (pc := 274) N at_274 rfl rfl ?_
  refine k_iload (pc := 276) N at_276 rfl ?_
  refine k_iaload (pc := 278) N 5 kk at_278 rfl (nd_nn (Nat.lt_succ_of_lt hkk)) (nd_nat (Nat.lt_succ_of_lt hkk)) (v := .int ((upd fa kk (p4_ % (5 : Int32))) kk)) (arr4_get hkk) ?_
  refine k_i2d (pc := 279) N at_279 ?_
  refine k_aload (pc := 280) N at_280 rfl rfl ?_
  refine k_iload (pc := 282) N at_282 rfl ?_
  refine k_iaload (pc := 284) N 6 kk at_284 rfl (nd_nn (Nat.lt_succ_of_lt hkk)) (nd_nat (Nat.lt_succ_of_lt hkk)) (v := .int ((upd fb kk ((p4_ >>> ((3 : Int32) &&& 31)) % (5 : Int32))) kk)) (arr4_get hkk) ?_
  refine k_i2d (pc := 285) N at_285 ?_
  refine k_virtual (pc := 286) N (y := (⟨"com/example/freshline/freshline/schedule/CandidateQueue", "put", "(IDD)V"⟩ : MethodName)) (z := (⟨"com/example/freshline/freshline/schedule/CandidateQueue", "put", "(IDD)V"⟩ : MethodName)) (rest := []) [.int (nd kk), .double (FP.i2d ((upd fa kk (p4_ % (5 : Int32))) kk)), .double (FP.i2d ((upd fb kk ((p4_ >>> ((3 : Int32) &&& 31)) % (5 : Int32))) kk))] (a := qa) at_286 (fun h N => N.exa (i := 0) rfl) (hw _ (List.mem_of_getElem? (i := 30) rfl)) (hw _ (List.mem_of_getElem? (i := 31) rfl)) (nf_self (hw _ (List.mem_of_getElem? (i := 33) rfl))) (hw _ (List.mem_of_getElem? (i := 33) rfl)) (hw _ (List.mem_of_getElem? (i := 32) rfl)) (hw _ (List.mem_of_getElem? (i := 10) rfl)) (hw _ (List.mem_of_getElem? (i := 34) rfl)) (by decide) pd__IDD_V rfl (c_put l Z a0 hw qa ah ap ar ax kh kp kr ks n4 h4 p4 a4 b4 hO4 hW4 kk hkk ((upd fa kk (p4_ % (5 : Int32))) kk) ((upd fb kk ((p4_ >>> ((3 : Int32) &&& 31)) % (5 : Int32))) kk) [oArr Z lr lrk .int (iA (upd fa kk (p4_ % (5 : Int32)))), oArr Z ls lsk .int (iA (upd fb kk ((p4_ >>> ((3 : Int32) &&& 31)) % (5 : Int32))))]) rfl rfl 0 rfl (by decide) (by decide) (cells' := 7) rfl (slots' := 29) rfl (by decide) (by decide) fun T vV K' N qQ => ?_
  obtain ⟨n5, h5, p5, a5, b5, hO5, hW5, hP5, ea5, eb5, rfl, rfl⟩ := qQ
  have hq5 : ∀ y, y < 4 → p5 y ≠ -1 := fun y hy e => hq4 y hy ((hP5 y hy).mp e).1
  have hA5 := upd_agree hA4 ea5
  have hB5 := upd_agree hB4 eb5
  refine k_aload (pc := 289) N at_289 rfl rfl ?_
  refine k_aload (pc := 291) N at_291 rfl rfl ?_
  refine k_aload (pc := 293) N at_293 rfl rfl ?_
  refine k_aload (pc := 295) N at_295 rfl rfl ?_
  refine k_iconst (pc := 297) N at_297 (v := (0 : Int32)) (by decide) ?_
  refine k_iconst (pc := 298) N at_298 (v := (1 : Int32)) (by decide) ?_
  replace N := ONow.sel (F := [oCq Z qa (.ref ah) (.ref ap) (.ref ar) (.ref ax) (.int (nd n5)), oArr Z ah kh .int (hA h5), oArr Z ap kp .int (iA p5), oArr Z ar kr .double (rA a5), oArr Z ax ks .double (rA b5), oArr Z lr lrk .int (iA (upd fa kk (p4_ % (5 : Int32)))), oArr Z ls lsk .int (iA (upd fb kk ((p4_ >>> ((3 : Int32) &&& 31)) % (5 : Int32))))]) (F' := [oArr Z lr lrk .int (iA (upd fa kk (p4_ % (5 : Int32)))), oArr Z ls lsk .int (iA (upd fb kk ((p4_ >>> ((3 : Int32) &&& 31)) % (5 : Int32)))), oCq Z qa (.ref ah) (.ref ap) (.ref ar) (.ref ax) (.int (nd n5)), oArr Z ah kh .int (hA h5), oArr Z ap kp .int (iA p5), oArr Z ar kr .double (rA a5), oArr Z ax ks .double (rA b5)]) (rest := []) N [5, 6, 0, 1, 2, 3, 4] (by decide) rfl
  simp only [List.append_nil] at N
  refine k_static (pc := 299) N (y := (⟨"com/example/freshline/freshline/schedule/CandidateQueuePutPinLaw", "better", "([I[III)I"⟩ : MethodName)) (rest := [.ref ls, .ref lr]) [.ref lr, .ref ls, .int (0 : Int32), .int (1 : Int32)] at_299 (hw _ (List.mem_of_getElem? (i := 69) rfl)) (hw _ (List.mem_of_getElem? (i := 70) rfl)) (hw _ (List.mem_of_getElem? (i := 3) rfl)) (hw _ (List.mem_of_getElem? (i := 71) rfl)) (by decide) pd___I_III_I rfl (c_better l Z a0 hw lr ls lrk lsk (upd fa kk (p4_ % (5 : Int32))) (upd fb kk ((p4_ >>> ((3 : Int32) &&& 31)) % (5 : Int32))) 0 1 (by decide) (by decide) [oCq Z qa (.ref ah) (.ref ap) (.ref ar) (.ref ax) (.int (nd n5)), oArr Z ah kh .int (hA h5), oArr Z ap kp .int (iA p5), oArr Z ar kr .double (rA a5), oArr Z ax ks .double (rA b5)]) rfl rfl 2 rfl (by decide) (by decide) (cells' := 7) rfl (slots' := 29) rfl (by decide) (by decide) fun T vV K' N qQ => ?_
  obtain ⟨rfl, rfl⟩ := qQ
  refine k_aload (pc := 302) N at_302 rfl rfl ?_
  refine k_aload (pc := 304) N at_304 rfl rfl ?_
  refine k_iconst (pc := 306) N at_306 (v := (2 : Int32)) (by decide) ?_
  refine k_iconst (pc := 307) N at_307 (v := (3 : Int32)) (by decide) ?_
  refine k_static (pc := 308) N (y := (⟨"com/example/freshline/freshline/schedule/CandidateQueuePutPinLaw", "better", "([I[III)I"⟩ : MethodName)) (rest := [.int (nd (bst (ky (upd fa kk (p4_ % (5 : Int32))) (upd fb kk ((p4_ >>> ((3 : Int32) &&& 31)) % (5 : Int32)))) 0 1)), .ref ls, .ref lr]) [.ref lr, .ref ls, .int (2 : Int32), .int (3 : Int32)] at_308 (hw _ (List.mem_of_getElem? (i := 69) rfl)) (hw _ (List.mem_of_getElem? (i := 70) rfl)) (hw _ (List.mem_of_getElem? (i := 3) rfl)) (hw _ (List.mem_of_getElem? (i := 71) rfl)) (by decide) pd___I_III_I rfl (c_better l Z a0 hw lr ls lrk lsk (upd fa kk (p4_ % (5 : Int32))) (upd fb kk ((p4_ >>> ((3 : Int32) &&& 31)) % (5 : Int32))) 2 3 (by decide) (by decide) [oCq Z qa (.ref ah) (.ref ap) (.ref ar) (.ref ax) (.int (nd n5)), oArr Z ah kh .int (hA h5), oArr Z ap kp .int (iA p5), oArr Z ar kr .double (rA a5), oArr Z ax ks .double (rA b5)]) rfl rfl 3 rfl (by decide) (by decide) (cells' := 7) rfl (slots' := 29) rfl (by decide) (by decide) fun T vV K' N qQ => ?_
  obtain ⟨rfl, rfl⟩ := qQ
  refine k_static (pc := 311) N (y := (⟨"com/example/freshline/freshline/schedule/CandidateQueuePutPinLaw", "better", "([I[III)I"⟩ : MethodName)) (rest := []) [.ref lr, .ref ls, .int (nd (bst (ky (upd fa kk (p4_ % (5 : Int32))) (upd fb kk ((p4_ >>> ((3 : Int32) &&& 31)) % (5 : Int32)))) 0 1)), .int (nd (bst (ky (upd fa kk (p4_ % (5 : Int32))) (upd fb kk ((p4_ >>> ((3 : Int32) &&& 31)) % (5 : Int32)))) 2 3))] at_311 (hw _ (List.mem_of_getElem? (i := 69) rfl)) (hw _ (List.mem_of_getElem? (i := 70) rfl)) (hw _ (List.mem_of_getElem? (i := 3) rfl)) (hw _ (List.mem_of_getElem? (i := 71) rfl)) (by decide) pd___I_III_I rfl (c_better l Z a0 hw lr ls lrk lsk (upd fa kk (p4_ % (5 : Int32))) (upd fb kk ((p4_ >>> ((3 : Int32) &&& 31)) % (5 : Int32))) (bst (ky (upd fa kk (p4_ % (5 : Int32))) (upd fb kk ((p4_ >>> ((3 : Int32) &&& 31)) % (5 : Int32)))) 0 1) (bst (ky (upd fa kk (p4_ % (5 : Int32))) (upd fb kk ((p4_ >>> ((3 : Int32) &&& 31)) % (5 : Int32)))) 2 3) (bst_lt (by decide) (by decide)) (bst_lt (by decide) (by decide)) [oCq Z qa (.ref ah) (.ref ap) (.ref ar) (.ref ax) (.int (nd n5)), oArr Z ah kh .int (hA h5), oArr Z ap kp .int (iA p5), oArr Z ar kr .double (rA a5), oArr Z ax ks .double (rA b5)]) rfl rfl 0 rfl (by decide) (by decide) (cells' := 7) rfl (slots' := 29) rfl (by decide) (by decide) fun T vV K' N qQ => ?_
  obtain ⟨rfl, rfl⟩ := qQ
  refine k_istore (pc := 314) N at_314 (Ls' := #[.val (.int p0_), .val (.int p1_), .val (.int p2_), .val (.int p3_), .val (.int p4_), .val (.int p5_), .val (.int (p5_ &&& (3 : Int32))), .val (.int (nd kk)), .val (.ref lr), .val (.ref ls), .val (.int (nd x0)), .val (.int (nd x1)), .val (.int (nd x2)), .val (.int (nd x3)), .val (.ref qa), .val (.int (nd (bst (ky fa fb) (bst (ky fa fb) 0 1) (bst (ky fa fb) 2 3)))), .val (.int (1 : Int32)), .val (.int (nd (bst (ky (upd fa kk (p4_ % (5 : Int32))) (upd fb kk ((p4_ >>> ((3 : Int32) &&& 31)) % (5 : Int32)))) (bst (ky (upd fa kk (p4_ % (5 : Int32))) (upd fb kk ((p4_ >>> ((3 : Int32) &&& 31)) % (5 : Int32)))) 0 1) (bst (ky (upd fa kk (p4_ % (5 : Int32))) (upd fb kk ((p4_ >>> ((3 : Int32) &&& 31)) % (5 : Int32)))) 2 3)))), .unset, .unset, .unset]) rfl ?_
  refine k_aload (pc := 316) N at_316 rfl rfl ?_
  replace N := ONow.sel (F := [oArr Z lr lrk .int (iA (upd fa kk (p4_ % (5 : Int32)))), oArr Z ls lsk .int (iA (upd fb kk ((p4_ >>> ((3 : Int32) &&& 31)) % (5 : Int32)))), oCq Z qa (.ref ah) (.ref ap) (.ref ar) (.ref ax) (.int (nd n5)), oArr Z ah kh .int (hA h5), oArr Z ap kp .int (iA p5), oArr Z ar kr .double (rA a5), oArr Z ax ks .double (rA b5)]) (F' := [oCq Z qa (.ref ah) (.ref ap) (.ref ar) (.ref ax) (.int (nd n5)), oArr Z ah kh .int (hA h5), oArr Z ap kp .int (iA p5), oArr Z ar kr .double (rA a5), oArr Z ax ks .double (rA b5), oArr Z lr lrk .int (iA (upd fa kk (p4_ % (5 : Int32)))), oArr Z ls lsk .int (iA (upd fb kk ((p4_ >>> ((3 : Int32) &&& 31)) % (5 : Int32))))]) (rest := []) N [2, 3, 4, 5, 6, 0, 1] (by decide) rfl
  simp only [List.append_nil] at N
  refine k_virtual (pc := 318) N (y := (⟨"com/example/freshline/freshline/schedule/CandidateQueue", "first", "()I"⟩ : MethodName)) (z := (⟨"com/example/freshline/freshline/schedule/CandidateQueue", "first", "()I"⟩ : MethodName)) (rest := []) [] (a := qa) at_318 (fun h N => N.exa (i := 0) rfl) (hw _ (List.mem_of_getElem? (i := 75) rfl)) (hw _ (List.mem_of_getElem? (i := 76) rfl)) (nf_self (hw _ (List.mem_of_getElem? (i := 78) rfl))) (hw _ (List.mem_of_getElem? (i := 78) rfl)) (hw _ (List.mem_of_getElem? (i := 77) rfl)) (hw _ (List.mem_of_getElem? (i := 10) rfl)) (hw _ (List.mem_of_getElem? (i := 79) rfl)) (by decide) pd___I rfl (c_first l Z a0 hw qa ah ap ar ax kh kp kr ks n5 (Nat.lt_succ_of_le hO5.le) h5 p5 a5 b5 [oArr Z lr lrk .int (iA (upd fa kk (p4_ % (5 : Int32)))), oArr Z ls lsk .int (iA (upd fb kk ((p4_ >>> ((3 : Int32) &&& 31)) % (5 : Int32))))]) rfl rfl 0 rfl (by decide) (by decide) (cells' := 7) rfl (slots' := 29) rfl (by decide) (by decide) fun T vV K' N qQ => ?_
  obtain ⟨rfl, rfl⟩ := qQ
  refine k_iload (pc := 321) N at_321 rfl ?_
  refine k_icmp_ne (pc := 323) N at_323 (pc' := 330) (by decide) (fun qQ => absurd qQ (fun z => z (fst_is hO5 hW5 (fun y hy _ => ⟨hA5 y hy, hB5 y hy⟩) (bst_lt (bst_lt (by decide) (by decide)) (bst_lt (by decide) (by decide))) (hq5 _ (bst_lt (bst_lt (by decide) (by decide)) (bst_lt (by decide) (by decide)))) (fun y hy _ => best4 _ hy)))) (fun _ => ?_)
  refine k_iconst (pc := 326) N at_326 (v := (1 : Int32)) (by decide) ?_
  refine k_goto (pc := 327) N at_327 (pc' := 331) (by decide) ?_
  refine k_istore (pc := 331) N at_331 (Ls' := #[.val (.int p0_), .val (.int p1_), .val (.int p2_), .val (.int p3_), .val (.int p4_), .val (.int p5_), .val (.int (p5_ &&& (3 : Int32))), .val (.int (nd kk)), .val (.ref lr), .val (.ref ls), .val (.int (nd x0)), .val (.int (nd x1)), .val (.int (nd x2)), .val (.int (nd x3)), .val (.ref qa), .val (.int (nd (bst (ky fa fb) (bst (ky fa fb) 0 1) (bst (ky fa fb) 2 3)))), .val (.int (1 : Int32)), .val (.int (nd (bst (ky (upd fa kk (p4_ % (5 : Int32))) (upd fb kk ((p4_ >>> ((3 : Int32) &&& 31)) % (5 : Int32)))) (bst (ky (upd fa kk (p4_ % (5 : Int32))) (upd fb kk ((p4_ >>> ((3 : Int32) &&& 31)) % (5 : Int32)))) 0 1) (bst (ky (upd fa kk (p4_ % (5 : Int32))) (upd fb kk ((p4_ >>> ((3 : Int32) &&& 31)) % (5 : Int32)))) 2 3)))), .val (.int (1 : Int32)), .unset, .unset]) rfl ?_
  refine k_aload (pc := 333) N at_333 rfl rfl ?_
  refine k_iload (pc := 335) N at_335 rfl ?_
  refine k_virtual (pc := 337) N (y := (⟨"com/example/freshline/freshline/schedule/CandidateQueue", "remove", "(I)V"⟩ : MethodName)) (z := (⟨"com/example/freshline/freshline/schedule/CandidateQueue", "remove", "(I)V"⟩ : MethodName)) (rest := []) [.int (nd (bst (ky (upd fa kk (p4_ % (5 : Int32))) (upd fb kk ((p4_ >>> ((3 : Int32) &&& 31)) % (5 : Int32)))) (bst (ky (upd fa kk (p4_ % (5 : Int32))) (upd fb kk ((p4_ >>> ((3 : Int32) &&& 31)) % (5 : Int32)))) 0 1) (bst (ky (upd fa kk (p4_ % (5 : Int32))) (upd fb kk ((p4_ >>> ((3 : Int32) &&& 31)) % (5 : Int32)))) 2 3)))] (a := qa) at_337 (fun h N => N.exa (i := 0) rfl) (hw _ (List.mem_of_getElem? (i := 80) rfl)) (hw _ (List.mem_of_getElem? (i := 81) rfl)) (nf_self (hw _ (List.mem_of_getElem? (i := 83) rfl))) (hw _ (List.mem_of_getElem? (i := 83) rfl)) (hw _ (List.mem_of_getElem? (i := 82) rfl)) (hw _ (List.mem_of_getElem? (i := 10) rfl)) (hw _ (List.mem_of_getElem? (i := 84) rfl)) (by decide) pd__I_V rfl (c_remove l Z a0 hw qa ah ap ar ax kh kp kr ks n5 h5 p5 a5 b5 hO5 hW5 (bst (ky (upd fa kk (p4_ % (5 : Int32))) (upd fb kk ((p4_ >>> ((3 : Int32) &&& 31)) % (5 : Int32)))) (bst (ky (upd fa kk (p4_ % (5 : Int32))) (upd fb kk ((p4_ >>> ((3 : Int32) &&& 31)) % (5 : Int32)))) 0 1) (bst (ky (upd fa kk (p4_ % (5 : Int32))) (upd fb kk ((p4_ >>> ((3 : Int32) &&& 31)) % (5 : Int32)))) 2 3)) (bst_lt (bst_lt (by decide) (by decide)) (bst_lt (by decide) (by decide))) [oArr Z lr lrk .int (iA (upd fa kk (p4_ % (5 : Int32)))), oArr Z ls lsk .int (iA (upd fb kk ((p4_ >>> ((3 : Int32) &&& 31)) % (5 : Int32))))]) rfl rfl 0 rfl (by decide) (by decide) (cells' := 7) rfl (slots' := 29) rfl (by decide) (by decide) fun T vV K' N qQ => ?_
  obtain ⟨n6, h6, p6, a6, b6, hO6, hW6, hP6, ea6, eb6, rfl, rfl⟩ := qQ
  refine k_aload (pc := 340) N at_340 rfl rfl ?_
  refine k_aload (pc := 342) N at_342 rfl rfl ?_
  refine k_aload (pc := 344) N at_344 rfl rfl ?_
  refine k_aload (pc := 346) N at_346 rfl rfl ?_
  refine k_iconst (pc := 348) N at_348 (v := (0 : Int32)) (by decide) ?_
  refine k_iconst (pc := 349) N at_349 (v := (1 : Int32)) (by decide) ?_
  refine k_iload (pc := 350) N at_350 rfl ?_
  replace N := ONow.sel (F := [oCq Z qa (.ref ah) (.ref ap) (.ref ar) (.ref ax) (.int (nd n6)), oArr Z ah kh .int (hA h6), oArr Z ap kp .int (iA p6), oArr Z ar kr .double (rA a6), oArr Z ax ks .double (rA b6), oArr Z lr lrk .int (iA (upd fa kk (p4_ % (5 : Int32)))), oArr Z ls lsk .int (iA (upd fb kk ((p4_ >>> ((3 : Int32) &&& 31)) % (5 : Int32))))]) (F' := [oArr Z lr lrk .int (iA (upd fa kk (p4_ % (5 : Int32)))), oArr Z ls lsk .int (iA (upd fb kk ((p4_ >>> ((3 : Int32) &&& 31)) % (5 : Int32)))), oCq Z qa (.ref ah) (.ref ap) (.ref ar) (.ref ax) (.int (nd n6)), oArr Z ah kh .int (hA h6), oArr Z ap kp .int (iA p6), oArr Z ar kr .double (rA a6), oArr Z ax ks .double (rA b6)]) (rest := []) N [5, 6, 0, 1, 2, 3, 4] (by decide) rfl
  simp only [List.append_nil] at N
  refine k_static (pc := 352) N (y := (⟨"com/example/freshline/freshline/schedule/CandidateQueuePutPinLaw", "pick", "([I[IIII)I"⟩ : MethodName)) (rest := [.ref ls, .ref lr]) [.ref lr, .ref ls, .int (0 : Int32), .int (1 : Int32), .int (nd (bst (ky (upd fa kk (p4_ % (5 : Int32))) (upd fb kk ((p4_ >>> ((3 : Int32) &&& 31)) % (5 : Int32)))) (bst (ky (upd fa kk (p4_ % (5 : Int32))) (upd fb kk ((p4_ >>> ((3 : Int32) &&& 31)) % (5 : Int32)))) 0 1) (bst (ky (upd fa kk (p4_ % (5 : Int32))) (upd fb kk ((p4_ >>> ((3 : Int32) &&& 31)) % (5 : Int32)))) 2 3)))] at_352 (hw _ (List.mem_of_getElem? (i := 85) rfl)) (hw _ (List.mem_of_getElem? (i := 86) rfl)) (hw _ (List.mem_of_getElem? (i := 3) rfl)) (hw _ (List.mem_of_getElem? (i := 87) rfl)) (by decide) pd___I_IIII_I rfl (c_pick l Z a0 hw lr ls lrk lsk (upd fa kk (p4_ % (5 : Int32))) (upd fb kk ((p4_ >>> ((3 : Int32) &&& 31)) % (5 : Int32))) 0 1 (by decide) (by decide) (bst (ky (upd fa kk (p4_ % (5 : Int32))) (upd fb kk ((p4_ >>> ((3 : Int32) &&& 31)) % (5 : Int32)))) (bst (ky (upd fa kk (p4_ % (5 : Int32))) (upd fb kk ((p4_ >>> ((3 : Int32) &&& 31)) % (5 : Int32)))) 0 1) (bst (ky (upd fa kk (p4_ % (5 : Int32))) (upd fb kk ((p4_ >>> ((3 : Int32) &&& 31)) % (5 : Int32)))) 2 3)) (bst_lt (bst_lt (by decide) (by decide)) (bst_lt (by decide) (by decide))) [oCq Z qa (.ref ah) (.ref ap) (.ref ar) (.ref ax) (.int (nd n6)), oArr Z ah kh .int (hA h6), oArr Z ap kp .int (iA p6), oArr Z ar kr .double (rA a6), oArr Z ax ks .double (rA b6)]) rfl rfl 2 rfl (by decide) (by decide) (cells' := 7) rfl (slots' := 29) rfl (by decide) (by decide) fun T vV K' N qQ => ?_
  obtain ⟨rfl, rfl⟩ := qQ
  refine k_aload (pc := 355) N at_355 rfl rfl ?_
  refine k_aload (pc := 357) N at_357 rfl rfl ?_
  refine k_iconst (pc := 359) N at_359 (v := (2 : Int32)) (by decide) ?_
  refine k_iconst (pc := 360) N at_360 (v := (3 : Int32)) (by decide) ?_
  refine k_iload (pc := 361) N at_361 rfl ?_
  refine k_static (pc := 363) N (y := (⟨"com/example/freshline/freshline/schedule/CandidateQueuePutPinLaw", "pick", "([I[IIII)I"⟩ : MethodName)) (rest := [.int (nd (pk (ky (upd fa kk (p4_ % (5 : Int32))) (upd fb kk ((p4_ >>> ((3 : Int32) &&& 31)) % (5 : Int32)))) 0 1 (bst (ky (upd fa kk (p4_ % (5 : Int32))) (upd fb kk ((p4_ >>> ((3 : Int32) &&& 31)) % (5 : Int32)))) (bst (ky (upd fa kk (p4_ % (5 : Int32))) (upd fb kk ((p4_ >>> ((3 : Int32) &&& 31)) % (5 : Int32)))) 0 1) (bst (ky (upd fa kk (p4_ % (5 : Int32))) (upd fb kk ((p4_ >>> ((3 : Int32) &&& 31)) % (5 : Int32)))) 2 3)))), .ref ls, .ref lr]) [.ref lr, .ref ls, .int (2 : Int32), .int (3 : Int32), .int (nd (bst (ky (upd fa kk (p4_ % (5 : Int32))) (upd fb kk ((p4_ >>> ((3 : Int32) &&& 31)) % (5 : Int32)))) (bst (ky (upd fa kk (p4_ % (5 : Int32))) (upd fb kk ((p4_ >>> ((3 : Int32) &&& 31)) % (5 : Int32)))) 0 1) (bst (ky (upd fa kk (p4_ % (5 : Int32))) (upd fb kk ((p4_ >>> ((3 : Int32) &&& 31)) % (5 : Int32)))) 2 3)))] at_363 (hw _ (List.mem_of_getElem? (i := 85) rfl)) (hw _ (List.mem_of_getElem? (i := 86) rfl)) (hw _ (List.mem_of_getElem? (i := 3) rfl)) (hw _ (List.mem_of_getElem? (i := 87) rfl)) (by decide) pd___I_IIII_I rfl (c_pick l Z a0 hw lr ls lrk lsk (upd fa kk (p4_ % (5 : Int32))) (upd fb kk ((p4_ >>> ((3 : Int32) &&& 31)) % (5 : Int32))) 2 3 (by decide) (by decide) (bst (ky (upd fa kk (p4_ % (5 : Int32))) (upd fb kk ((p4_ >>> ((3 : Int32) &&& 31)) % (5 : Int32)))) (bst (ky (upd fa kk (p4_ % (5 : Int32))) (upd fb kk ((p4_ >>> ((3 : Int32) &&& 31)) % (5 : Int32)))) 0 1) (bst (ky (upd fa kk (p4_ % (5 : Int32))) (upd fb kk ((p4_ >>> ((3 : Int32) &&& 31)) % (5 : Int32)))) 2 3)) (bst_lt (bst_lt (by decide) (by decide)) (bst_lt (by decide) (by decide))) [oCq Z qa (.ref ah) (.ref ap) (.ref ar) (.ref ax) (.int (nd n6)), oArr Z ah kh .int (hA h6), oArr Z ap kp .int (iA p6), oArr Z ar kr .double (rA a6), oArr Z ax ks .double (rA b6)]) rfl rfl 3 rfl (by decide) (by decide) (cells' := 7) rfl (slots' := 29) rfl (by decide) (by decide) fun T vV K' N qQ => ?_
  obtain ⟨rfl, rfl⟩ := qQ
  refine k_static (pc := 366) N (y := (⟨"com/example/freshline/freshline/schedule/CandidateQueuePutPinLaw", "better", "([I[III)I"⟩ : MethodName)) (rest := []) [.ref lr, .ref ls, .int (nd (pk (ky (upd fa kk (p4_ % (5 : Int32))) (upd fb kk ((p4_ >>> ((3 : Int32) &&& 31)) % (5 : Int32)))) 0 1 (bst (ky (upd fa kk (p4_ % (5 : Int32))) (upd fb kk ((p4_ >>> ((3 : Int32) &&& 31)) % (5 : Int32)))) (bst (ky (upd fa kk (p4_ % (5 : Int32))) (upd fb kk ((p4_ >>> ((3 : Int32) &&& 31)) % (5 : Int32)))) 0 1) (bst (ky (upd fa kk (p4_ % (5 : Int32))) (upd fb kk ((p4_ >>> ((3 : Int32) &&& 31)) % (5 : Int32)))) 2 3)))), .int (nd (pk (ky (upd fa kk (p4_ % (5 : Int32))) (upd fb kk ((p4_ >>> ((3 : Int32) &&& 31)) % (5 : Int32)))) 2 3 (bst (ky (upd fa kk (p4_ % (5 : Int32))) (upd fb kk ((p4_ >>> ((3 : Int32) &&& 31)) % (5 : Int32)))) (bst (ky (upd fa kk (p4_ % (5 : Int32))) (upd fb kk ((p4_ >>> ((3 : Int32) &&& 31)) % (5 : Int32)))) 0 1) (bst (ky (upd fa kk (p4_ % (5 : Int32))) (upd fb kk ((p4_ >>> ((3 : Int32) &&& 31)) % (5 : Int32)))) 2 3))))] at_366 (hw _ (List.mem_of_getElem? (i := 69) rfl)) (hw _ (List.mem_of_getElem? (i := 70) rfl)) (hw _ (List.mem_of_getElem? (i := 3) rfl)) (hw _ (List.mem_of_getElem? (i := 71) rfl)) (by decide) pd___I_III_I rfl (c_better l Z a0 hw lr ls lrk lsk (upd fa kk (p4_ % (5 : Int32))) (upd fb kk ((p4_ >>> ((3 : Int32) &&& 31)) % (5 : Int32))) (pk (ky (upd fa kk (p4_ % (5 : Int32))) (upd fb kk ((p4_ >>> ((3 : Int32) &&& 31)) % (5 : Int32)))) 0 1 (bst (ky (upd fa kk (p4_ % (5 : Int32))) (upd fb kk ((p4_ >>> ((3 : Int32) &&& 31)) % (5 : Int32)))) (bst (ky (upd fa kk (p4_ % (5 : Int32))) (upd fb kk ((p4_ >>> ((3 : Int32) &&& 31)) % (5 : Int32)))) 0 1) (bst (ky (upd fa kk (p4_ % (5 : Int32))) (upd fb kk ((p4_ >>> ((3 : Int32) &&& 31)) % (5 : Int32)))) 2 3))) (pk (ky (upd fa kk (p4_ % (5 : Int32))) (upd fb kk ((p4_ >>> ((3 : Int32) &&& 31)) % (5 : Int32)))) 2 3 (bst (ky (upd fa kk (p4_ % (5 : Int32))) (upd fb kk ((p4_ >>> ((3 : Int32) &&& 31)) % (5 : Int32)))) (bst (ky (upd fa kk (p4_ % (5 : Int32))) (upd fb kk ((p4_ >>> ((3 : Int32) &&& 31)) % (5 : Int32)))) 0 1) (bst (ky (upd fa kk (p4_ % (5 : Int32))) (upd fb kk ((p4_ >>> ((3 : Int32) &&& 31)) % (5 : Int32)))) 2 3))) (pk_lt (ky (upd fa kk (p4_ % (5 : Int32))) (upd fb kk ((p4_ >>> ((3 : Int32) &&& 31)) % (5 : Int32)))) (by decide) (by decide)) (pk_lt (ky (upd fa kk (p4_ % (5 : Int32))) (upd fb kk ((p4_ >>> ((3 : Int32) &&& 31)) % (5 : Int32)))) (by decide) (by decide)) [oCq Z qa (.ref ah) (.ref ap) (.ref ar) (.ref ax) (.int (nd n6)), oArr Z ah kh .int (hA h6), oArr Z ap kp .int (iA p6), oArr Z ar kr .double (rA a6), oArr Z ax ks .double (rA b6)]) rfl rfl 0 rfl (by decide) (by decide) (cells' := 7) rfl (slots' := 29) rfl (by decide) (by decide) fun T vV K' N qQ => ?_
  obtain ⟨rfl, rfl⟩ := qQ
  refine k_istore (pc := 369) N at_369 (Ls' := #[.val (.int p0_), .val (.int p1_), .val (.int p2_), .val (.int p3_), .val (.int p4_), .val (.int p5_), .val (.int (p5_ &&& (3 : Int32))), .val (.int (nd kk)), .val (.ref lr), .val (.ref ls), .val (.int (nd x0)), .val (.int (nd x1)), .val (.int (nd x2)), .val (.int (nd x3)), .val (.ref qa), .val (.int (nd (bst (ky fa fb) (bst (ky fa fb) 0 1) (bst (ky fa fb) 2 3)))), .val (.int (1 : Int32)), .val (.int (nd (bst (ky (upd fa kk (p4_ % (5 : Int32))) (upd fb kk ((p4_ >>> ((3 : Int32) &&& 31)) % (5 : Int32)))) (bst (ky (upd fa kk (p4_ % (5 : Int32))) (upd fb kk ((p4_ >>> ((3 : Int32) &&& 31)) % (5 : Int32)))) 0 1) (bst (ky (upd fa kk (p4_ % (5 : Int32))) (upd fb kk ((p4_ >>> ((3 : Int32) &&& 31)) % (5 : Int32)))) 2 3)))), .val (.int (1 : Int32)), .val (.int (nd (bst (ky (upd fa kk (p4_ % (5 : Int32))) (upd fb kk ((p4_ >>> ((3 : Int32) &&& 31)) % (5 : Int32)))) (pk (ky (upd fa kk (p4_ % (5 : Int32))) (upd fb kk ((p4_ >>> ((3 : Int32) &&& 31)) % (5 : Int32)))) 0 1 (bst (ky (upd fa kk (p4_ % (5 : Int32))) (upd fb kk ((p4_ >>> ((3 : Int32) &&& 31)) % (5 : Int32)))) (bst (ky (upd fa kk (p4_ % (5 : Int32))) (upd fb kk ((p4_ >>> ((3 : Int32) &&& 31)) % (5 : Int32)))) 0 1) (bst (ky (upd fa kk (p4_ % (5 : Int32))) (upd fb kk ((p4_ >>> ((3 : Int32) &&& 31)) % (5 : Int32)))) 2 3))) (pk (ky (upd fa kk (p4_ % (5 : Int32))) (upd fb kk ((p4_ >>> ((3 : Int32) &&& 31)) % (5 : Int32)))) 2 3 (bst (ky (upd fa kk (p4_ % (5 : Int32))) (upd fb kk ((p4_ >>> ((3 : Int32) &&& 31)) % (5 : Int32)))) (bst (ky (upd fa kk (p4_ % (5 : Int32))) (upd fb kk ((p4_ >>> ((3 : Int32) &&& 31)) % (5 : Int32)))) 0 1) (bst (ky (upd fa kk (p4_ % (5 : Int32))) (upd fb kk ((p4_ >>> ((3 : Int32) &&& 31)) % (5 : Int32)))) 2 3)))))), .unset]) rfl ?_
  refine k_aload (pc := 371) N at_371 rfl rfl ?_
  replace N := ONow.sel (F := [oArr Z lr lrk .int (iA (upd fa kk (p4_ % (5 : Int32)))), oArr Z ls lsk .int (iA (upd fb kk ((p4_ >>> ((3 : Int32) &&& 31)) % (5 : Int32)))), oCq Z qa (.ref ah) (.ref ap) (.ref ar) (.ref ax) (.int (nd n6)), oArr Z ah kh .int (hA h6), oArr Z ap kp .int (iA p6), oArr Z ar kr .double (rA a6), oArr Z ax ks .double (rA b6)]) (F' := [oCq Z qa (.ref ah) (.ref ap) (.ref ar) (.ref ax) (.int (nd n6)), oArr Z ah kh .int (hA h6), oArr Z ap kp .int (iA p6), oArr Z ar kr .double (rA a6), oArr Z ax ks .double (rA b6), oArr Z lr lrk .int (iA (upd fa kk (p4_ % (5 : Int32)))), oArr Z ls lsk .int (iA (upd fb kk ((p4_ >>> ((3 : Int32) &&& 31)) % (5 : Int32))))]) (rest := []) N [2, 3, 4, 5, 6, 0, 1] (by decide) rfl
  simp only [List.append_nil] at N
  refine k_virtual (pc := 373) N (y := (⟨"com/example/freshline/freshline/schedule/CandidateQueue", "first", "()I"⟩ : MethodName)) (z := (⟨"com/example/freshline/freshline/schedule/CandidateQueue", "first", "()I"⟩ : MethodName)) (rest := []) [] (a := qa) at_373 (fun h N => N.exa (i := 0) rfl) (hw _ (List.mem_of_getElem? (i := 75) rfl)) (hw _ (List.mem_of_getElem? (i := 76) rfl)) (nf_self (hw _ (List.mem_of_getElem? (i := 78) rfl))) (hw _ (List.mem_of_getElem? (i := 78) rfl)) (hw _ (List.mem_of_getElem? (i := 77) rfl)) (hw _ (List.mem_of_getElem? (i := 10) rfl)) (hw _ (List.mem_of_getElem? (i := 79) rfl)) (by decide) pd___I rfl (c_first l Z a0 hw qa ah ap ar ax kh kp kr ks n6 (Nat.lt_succ_of_le hO6.le) h6 p6 a6 b6 [oArr Z lr lrk .int (iA (upd fa kk (p4_ % (5 : Int32)))), oArr Z ls lsk .int (iA (upd fb kk ((p4_ >>> ((3 : Int32) &&& 31)) % (5 : Int32))))]) rfl rfl 0 rfl (by decide) (by decide) (cells' := 7) rfl (slots' := 29) rfl (by decide) (by decide) fun T vV K' N qQ => ?_
  obtain ⟨rfl, rfl⟩ := qQ
  refine k_iload (pc := 376) N at_376 rfl ?_
  refine k_icmp_ne (pc := 378) N at_378 (pc' := 385) (by decide) (fun qQ => absurd qQ (fun z => z (fst_is hO6 hW6 (fun y hy _ => ⟨by rw [ea6]; exact hA5 y hy, by rw [eb6]; exact hB5 y hy⟩) (bst_lt (pk_lt _ (by decide) (by decide)) (pk_lt _ (by decide) (by decide))) (fun e => ((hP6 _ (bst_lt (pk_lt _ (by decide) (by decide)) (pk_lt _ (by decide) (by decide)))).mp e).elim (fun e => hq5 _ (bst_lt (pk_lt _ (by decide) (by decide)) (pk_lt _ (by decide) (by decide))) e) (second4 _).1) (fun y hy q => (second4 _).2 y hy (fun e => q ((hP6 y hy).mpr (Or.inr e))))))) (fun _ => ?_)
  refine k_iconst (pc := 381) N at_381 (v := (1 : Int32)) (by decide) ?_
  refine k_goto (pc := 382) N at_382 (pc' := 386) (by decide) ?_
  refine k_istore (pc := 386) N at_386 (Ls' := #[.val (.int p0_), .val (.int p1_), .val (.int p2_), .val (.int p3_), .val (.int p4_), .val (.int p5_), .val (.int (p5_ &&& (3 : Int32))), .val (.int (nd kk)), .val (.ref lr), .val (.ref ls), .val (.int (nd x0)), .val (.int (nd x1)), .val (.int (nd x2)), .val (.int (nd x3)), .val (.ref qa), .val (.int (nd (bst (ky fa fb) (bst (ky fa fb) 0 1) (bst (ky fa fb) 2 3)))), .val (.int (1 : Int32)), .val (.int (nd (bst (ky (upd fa kk (p4_ % (5 : Int32))) (upd fb kk ((p4_ >>> ((3 : Int32) &&& 31)) % (5 : Int32)))) (bst (ky (upd fa kk (p4_ % (5 : Int32))) (upd fb kk ((p4_ >>> ((3 : Int32) &&& 31)) % (5 : Int32)))) 0 1) (bst (ky (upd fa kk (p4_ % (5 : Int32))) (upd fb kk ((p4_ >>> ((3 : Int32) &&& 31)) % (5 : Int32)))) 2 3)))), .val (.int (1 : Int32)), .val (.int (nd (bst (ky (upd fa kk (p4_ % (5 : Int32))) (upd fb kk ((p4_ >>> ((3 : Int32) &&& 31)) % (5 : Int32)))) (pk (ky (upd fa kk (p4_ % (5 : Int32))) (upd fb kk ((p4_ >>> ((3 : Int32) &&& 31)) % (5 : Int32)))) 0 1 (bst (ky (upd fa kk (p4_ % (5 : Int32))) (upd fb kk ((p4_ >>> ((3 : Int32) &&& 31)) % (5 : Int32)))) (bst (ky (upd fa kk (p4_ % (5 : Int32))) (upd fb kk ((p4_ >>> ((3 : Int32) &&& 31)) % (5 : Int32)))) 0 1) (bst (ky (upd fa kk (p4_ % (5 : Int32))) (upd fb kk ((p4_ >>> ((3 : Int32) &&& 31)) % (5 : Int32)))) 2 3))) (pk (ky (upd fa kk (p4_ % (5 : Int32))) (upd fb kk ((p4_ >>> ((3 : Int32) &&& 31)) % (5 : Int32)))) 2 3 (bst (ky (upd fa kk (p4_ % (5 : Int32))) (upd fb kk ((p4_ >>> ((3 : Int32) &&& 31)) % (5 : Int32)))) (bst (ky (upd fa kk (p4_ % (5 : Int32))) (upd fb kk ((p4_ >>> ((3 : Int32) &&& 31)) % (5 : Int32)))) 0 1) (bst (ky (upd fa kk (p4_ % (5 : Int32))) (upd fb kk ((p4_ >>> ((3 : Int32) &&& 31)) % (5 : Int32)))) 2 3)))))), .val (.int (1 : Int32))]) rfl ?_
  refine k_iload (pc := 388) N at_388 rfl ?_
  refine k_if_eq (pc := 390) N at_390 (pc' := 407) (by decide) (fun qQ => absurd qQ (by decide)) (fun _ => ?_)
  refine k_iload (pc := 393) N at_393 rfl ?_
  refine k_if_eq (pc := 395) N at_395 (pc' := 407) (by decide) (fun qQ => absurd qQ (by decide)) (fun _ => ?_)
  refine k_iload (pc := 398) N at_398 rfl ?_
  refine k_if_eq (pc := 400) N at_400 (pc' := 407) (by decide) (fun qQ => absurd qQ (by decide)) (fun _ => ?_)
  refine k_iconst (pc := 403) N at_403 (v := (1 : Int32)) (by decide) ?_
  refine k_goto (pc := 404) N at_404 (pc' := 408) (by decide) ?_
  exact k_zreturn (pc := 408) N at_408 rfl (by decide) (by decide) rfl
set_option maxRecDepth 65536 in
set_option maxHeartbeats 40000000 in
theorem comes_1 {Post : Tables → Env → Array Value → State → Outcome → State → Prop} (hpost : ∀ tb e args s v u, (limb_1_1.after args s (.returned v) u = true ∧ limb_1_2.after args s (.returned v) u = true ∧ True) → FrameEnd s (.returned v) u (Jvm.fieldLocs frame_1_writes args s ++ Jvm.arrayLocs frame_1_arrays args s ++ Jvm.staticLocs frame_1_statics s) 24 128 → Post tb e args s (.returned v) u) :
    ArmFor flags0 classFile x code maxLocals ret World_1 tables_1 room_1 Calls_1 rest_1 Pre_1 Post := by
  intro l hfl _ _ p e ha hc hk s m args below hf hA hF happ hP
  obtain ⟨hcalls, hrest, hpre⟩ := hP
  obtain ⟨-, -, -, hnamed, -, -, -, hat⟩ := (Spec.applies_iff hf).mp happ
  obtain ⟨hg, hn⟩ := and_e (Cond.before_iff.mp (show (Jvm.Cond.and given_1 narrow_1).before args s = true from hpre))
  obtain ⟨g1, g2⟩ := and_e hg
  obtain ⟨g3, g4⟩ := and_e g2
  obtain ⟨g5, g6⟩ := and_e g4
  obtain ⟨g7, g8⟩ := and_e g6
  obtain ⟨g9, g10⟩ := and_e g8
  obtain ⟨g11, g12⟩ := and_e g10
  obtain ⟨w0, w1, w2, w3, w4, w5, rfl⟩ : ∃ w0 w1 w2 w3 w4 w5 : Value, args = #[w0, w1, w2, w3, w4, w5] := by
    have hs : args.size = 6 := by simpa [Cond.value, given_1] using g1
    obtain ⟨L⟩ := args
    match L, hs with
    | [w0, w1, w2, w3, w4, w5], _ => exact ⟨w0, w1, w2, w3, w4, w5, rfl⟩
  have hw := fun d (hd : d ∈ tables_1) => atoms_spec (ws := Jvm.Cond.code x code maxLocals ret :: tables_1) hat d (List.mem_cons_of_mem _ hd)
  have hfit : Fit s := fun {y c} hc i hi => by
    obtain ⟨ha, rfl⟩ := Array.getElem?_eq_some_iff.mp hc
    have q := List.all_eq_true.mp ((Array.all_eq_true_iff_forall_mem.mp hF) _ (Array.getElem_mem ha)) i (List.mem_range.mpr hi)
    simpa [Array.getElem?_eq_getElem hi] using q
  obtain ⟨i0, ei0⟩ := is_v g3
  obtain rfl : w0 = (.int i0) := Option.some.inj ei0
  obtain ⟨i1, ei1⟩ := is_v g5
  obtain rfl : w1 = (.int i1) := Option.some.inj ei1
  obtain ⟨i2, ei2⟩ := is_v g7
  obtain rfl : w2 = (.int i2) := Option.some.inj ei2
  obtain ⟨i3, ei3⟩ := is_v g9
  obtain rfl : w3 = (.int i3) := Option.some.inj ei3
  obtain ⟨i4, ei4⟩ := is_v g11
  obtain rfl : w4 = (.int i4) := Option.some.inj ei4
  obtain ⟨i5, ei5⟩ := is_v g12
  obtain rfl : w5 = (.int i5) := Option.some.inj ei5
  obtain ⟨n, o, h1, h2, h3, _, L, rfl, ⟨N, K', -, rfl⟩, hq⟩ := c_law l s _ hw i0 i1 i2 i3 i4 i5 tables_1 s.heap (OKnow.start s) p e ha hc hk s m _ below hf ((Spec.applies_iff_loose hf).mp happ).1 ⟨rfl, State.Warmed39.refl s, rfl⟩ trivial
  refine ⟨n, _, h1, h2, h3, hpost _ _ _ _ _ _ ⟨Cond.after_iff.mpr rfl, Cond.after_iff.mpr (eq_i res_at (Term.int_eval (1)) rfl), trivial⟩ ⟨hq.1, hq.2.1, (hq.2.2.sift fun y hy => Or.inr (N y hy)).mono (by decide) (by decide)⟩⟩
theorem main_1_1 : Claimed_1_1 := comes_1 fun _ _ _ _ _ _ h hF => ⟨h.1, hF⟩
theorem main_1_2 : Claimed_1_2 := comes_1 fun _ _ _ _ _ _ h hF => ⟨h.2.1, hF⟩
end Jvm.Pilot.@@N@@
namespace Jvm.Pilot.@@N@@
open Jvm Jvm.ClassFile Sem Op Lib Jvm.Free Jvm.Stand Jvm.Pilot.@@N@@.Jvm.D
/-! MADE BY PROGRAM (witnessworld.py) out of the Statement's table words and the real class files: 17 classes; the members and pool entries that the words name. The judged class is class 1, her method 6. -/
namespace start1
open Jvm.ClassFile
def u (s : String) : CpInfo := .utf8 (stringToUtf16 s)
/-- a pool by its gaps: so many unusable entries, then the entry; so many at the end -/
def gap : Nat → List CpInfo → List CpInfo
  | 0, r => r
  | n + 1, r => .unusable :: gap n r
def poolList (es : List (Nat × CpInfo)) (last : Nat) : List CpInfo := es.foldr (fun e r => gap e.1 (e.2 :: r)) (gap last [])
def pool (es : List (Nat × CpInfo)) (last : Nat) : Array CpInfo := ⟨poolList es last⟩
def fileOf (pool : Array CpInfo) (this : Nat) (attrs : Array Attribute := #[]) (ms : Array MethodInfo := #[]) (fl : Nat := 33) (sup : Nat := 0) (ifs : Array Nat := #[]) (fds : Array FieldInfo := #[]) : ClassFile where
  minorVersion := 0
  majorVersion := 65
  constantPool := pool
  accessFlags := fl
  thisClass := this
  superClass := sup
  interfaces := ifs
  fields := fds
  methods := ms
  attributes := attrs
def plain (name : String) (sup : Option ClassId) : Class where
  name := name
  kind := .ordinary
  loader := none
  accessFlags := 33
  super := sup
  interfaces := #[]
  cf := none
  fields := #[]
  methods := #[]
  instanceTypes := #[]
  staticTypes := #[]
  resolved := #[]
  callSites := []
  init := .initialized
  statics := none
  mirror := none

def pool0 : Array CpInfo := pool [(5, u "<init>"), (0, u "()V"), (1, .class_ 10), (1, u "java/lang/Object")] 113

def k0c0 : Code := { maxStack := 0, maxLocals := 1, code := object_method_1_code, exceptionTable := #[], attributes := #[] }
def k0m0 : Method := { name := "<init>", desc := "()V", sig := { parameters := [], returnType := none }, accessFlags := 1, code := some k0c0 }
/-- java/lang/Object -/
def k0 : Class := { plain "java/lang/Object" none with
  accessFlags := 33
  interfaces := #[]
  cf := some (fileOf pool0 8 #[] #[{ accessFlags := 1, nameIndex := 5, descriptorIndex := 6, attributes := #[] }] 33 0 #[] #[])
  fields := #[]
  methods := #[k0m0]
  instanceTypes := #[]
  staticTypes := #[]
  resolved := Array.replicate 124 none
  statics := none }

def pool1 : Array CpInfo := pool [(2, .class_ 4), (1, u "java/lang/Object"), (0, u "<init>"), (0, u "()V"), (0, .methodref 8 9), (0, .class_ 10), (0, .nameAndType 11 12), (0, u "com/example/freshline/freshline/schedule/CandidateQueuePutPinLaw"), (0, u "before"), (0, u "([I[III)Z"), (0, .methodref 8 14), (0, .nameAndType 15 16), (0, u "better"), (0, u "([I[III)I"), (0, .methodref 8 18), (0, .nameAndType 19 20), (0, u "rk"), (0, u "(I)I"), (0, .methodref 8 22), (0, .nameAndType 23 20), (0, u "sk"), (0, .class_ 25), (0, u "com/example/freshline/freshline/schedule/CandidateQueue"), (0, .methodref 24 27), (0, .nameAndType 5 28), (0, u "(I)V"), (0, .methodref 24 30), (0, .nameAndType 31 32), (0, u "put"), (0, u "(IDD)V"), (0, .methodref 24 34), (0, .nameAndType 35 36), (0, u "first"), (0, u "()I"), (0, .methodref 24 38), (0, .nameAndType 39 28), (0, u "remove"), (0, .methodref 8 41), (0, .nameAndType 42 43), (0, u "pick"), (0, u "([I[IIII)I"), (3, u "law"), (0, u "(IIIIII)Z")] 4

def k1m0 : Method := { name := "<init>", desc := "()V", sig := { parameters := [], returnType := none }, accessFlags := 1, code := none }
def k1c1 : Code := { maxStack := 2, maxLocals := 1, code := method_2_code, exceptionTable := #[], attributes := #[] }
def k1m1 : Method := { name := "rk", desc := "(I)I", sig := { parameters := [.int], returnType := some .int }, accessFlags := 10, code := some k1c1 }
def k1c2 : Code := { maxStack := 2, maxLocals := 1, code := method_3_code, exceptionTable := #[], attributes := #[] }
def k1m2 : Method := { name := "sk", desc := "(I)I", sig := { parameters := [.int], returnType := some .int }, accessFlags := 10, code := some k1c2 }
def k1c3 : Code := { maxStack := 3, maxLocals := 4, code := method_4_code, exceptionTable := #[], attributes := #[] }
def k1m3 : Method := { name := "before", desc := "([I[III)Z", sig := { parameters := [(.array .int), (.array .int), .int, .int], returnType := some .boolean }, accessFlags := 10, code := some k1c3 }
def k1c4 : Code := { maxStack := 4, maxLocals := 4, code := method_5_code, exceptionTable := #[], attributes := #[] }
def k1m4 : Method := { name := "better", desc := "([I[III)I", sig := { parameters := [(.array .int), (.array .int), .int, .int], returnType := some .int }, accessFlags := 10, code := some k1c4 }
def k1c5 : Code := { maxStack := 4, maxLocals := 5, code := method_6_code, exceptionTable := #[], attributes := #[] }
def k1m5 : Method := { name := "pick", desc := "([I[IIII)I", sig := { parameters := [(.array .int), (.array .int), .int, .int, .int], returnType := some .int }, accessFlags := 10, code := some k1c5 }
def k1c6 : Code := { maxStack := 8, maxLocals := 21, code := code, exceptionTable := #[], attributes := #[] }
def k1m6 : Method := { name := "law", desc := "(IIIIII)Z", sig := { parameters := [.int, .int, .int, .int, .int, .int], returnType := some .boolean }, accessFlags := 9, code := some k1c6 }
/-- com/example/freshline/freshline/schedule/CandidateQueuePutPinLaw -/
def k1 : Class := { plain "com/example/freshline/freshline/schedule/CandidateQueuePutPinLaw" (some 0) with
  accessFlags := 49
  interfaces := #[]
  cf := some (fileOf pool1 8 #[] #[{ accessFlags := 1, nameIndex := 5, descriptorIndex := 6, attributes := #[] }, { accessFlags := 10, nameIndex := 19, descriptorIndex := 20, attributes := #[] }, { accessFlags := 10, nameIndex := 23, descriptorIndex := 20, attributes := #[] }, { accessFlags := 10, nameIndex := 11, descriptorIndex := 12, attributes := #[] }, { accessFlags := 10, nameIndex := 15, descriptorIndex := 16, attributes := #[] }, { accessFlags := 10, nameIndex := 42, descriptorIndex := 43, attributes := #[] }, { accessFlags := 9, nameIndex := 47, descriptorIndex := 48, attributes := #[] }] 49 2 #[] #[])
  fields := #[]
  methods := #[k1m0, k1m1, k1m2, k1m3, k1m4, k1m5, k1m6]
  instanceTypes := #[]
  staticTypes := #[]
  resolved := Array.replicate 53 none
  statics := none }

def pool2 : Array CpInfo := pool [(1, .methodref 2 3), (0, .class_ 4), (0, .nameAndType 5 6), (0, u "java/lang/Object"), (0, u "<init>"), (0, u "()V"), (0, .fieldref 8 9), (0, .class_ 10), (0, .nameAndType 11 12), (0, u "com/example/freshline/freshline/schedule/CandidateQueue"), (0, u "heap"), (0, u "[I"), (0, .fieldref 8 14), (0, .nameAndType 15 12), (0, u "places"), (0, .fieldref 8 17), (0, .nameAndType 18 19), (0, u "ranks"), (0, u "[D"), (0, .fieldref 8 21), (0, .nameAndType 22 19), (0, u "staleSince"), (0, .methodref 24 25), (0, .class_ 26), (0, .nameAndType 27 28), (0, u "java/util/Arrays"), (0, u "fill"), (0, u "([II)V"), (0, .methodref 30 31), (0, .class_ 32), (0, .nameAndType 33 34), (0, u "java/lang/Double"), (0, u "compare"), (0, u "(DD)I"), (0, .fieldref 8 36), (0, .nameAndType 37 38), (0, u "size"), (0, u "I"), (0, .methodref 8 40), (0, .nameAndType 41 42), (0, u "siftUp"), (0, u "(I)I"), (0, .methodref 8 44), (0, .nameAndType 45 46), (0, u "siftDown"), (0, u "(I)V"), (0, .methodref 8 48), (0, .nameAndType 49 50), (0, u "precedes"), (0, u "(II)Z"), (0, .methodref 8 52), (0, .nameAndType 53 54), (0, u "move"), (0, u "(II)V"), (0, .methodref 8 56), (0, .nameAndType 49 57), (0, u "(DDIDDI)Z"), (0, u "NONE"), (5, u "put"), (0, u "(IDD)V"), (0, u "remove"), (0, u "first"), (0, u "()I")] 4

def k2c0 : Code := { maxStack := 2, maxLocals := 2, code := prog_52_method_1_code, exceptionTable := #[], attributes := #[] }
def k2m0 : Method := { name := "<init>", desc := "(I)V", sig := { parameters := [.int], returnType := none }, accessFlags := 0, code := some k2c0 }
def k2c1 : Code := { maxStack := 4, maxLocals := 13, code := prog_52_method_2_code, exceptionTable := #[], attributes := #[] }
def k2m1 : Method := { name := "precedes", desc := "(DDIDDI)Z", sig := { parameters := [.double, .double, .int, .double, .double, .int], returnType := some .boolean }, accessFlags := 8, code := some k2c1 }
def k2c2 : Code := { maxStack := 4, maxLocals := 7, code := prog_52_method_3_code, exceptionTable := #[], attributes := #[] }
def k2m2 : Method := { name := "put", desc := "(IDD)V", sig := { parameters := [.int, .double, .double], returnType := none }, accessFlags := 0, code := some k2c2 }
def k2c3 : Code := { maxStack := 3, maxLocals := 4, code := prog_52_method_4_code, exceptionTable := #[], attributes := #[] }
def k2m3 : Method := { name := "remove", desc := "(I)V", sig := { parameters := [.int], returnType := none }, accessFlags := 0, code := some k2c3 }
def k2c4 : Code := { maxStack := 2, maxLocals := 1, code := prog_52_method_5_code, exceptionTable := #[], attributes := #[] }
def k2m4 : Method := { name := "first", desc := "()I", sig := { parameters := [], returnType := some .int }, accessFlags := 0, code := some k2c4 }
def k2c5 : Code := { maxStack := 4, maxLocals := 5, code := prog_52_method_8_code, exceptionTable := #[], attributes := #[] }
def k2m5 : Method := { name := "siftUp", desc := "(I)I", sig := { parameters := [.int], returnType := some .int }, accessFlags := 2, code := some k2c5 }
def k2c6 : Code := { maxStack := 4, maxLocals := 5, code := prog_52_method_9_code, exceptionTable := #[], attributes := #[] }
def k2m6 : Method := { name := "siftDown", desc := "(I)V", sig := { parameters := [.int], returnType := none }, accessFlags := 2, code := some k2c6 }
def k2c7 : Code := { maxStack := 10, maxLocals := 3, code := prog_52_method_10_code, exceptionTable := #[], attributes := #[] }
def k2m7 : Method := { name := "precedes", desc := "(II)Z", sig := { parameters := [.int, .int], returnType := some .boolean }, accessFlags := 2, code := some k2c7 }
def k2c8 : Code := { maxStack := 3, maxLocals := 3, code := prog_52_method_11_code, exceptionTable := #[], attributes := #[] }
def k2m8 : Method := { name := "move", desc := "(II)V", sig := { parameters := [.int, .int], returnType := none }, accessFlags := 2, code := some k2c8 }
/-- com/example/freshline/freshline/schedule/CandidateQueue -/
def k2 : Class := { plain "com/example/freshline/freshline/schedule/CandidateQueue" (some 0) with
  accessFlags := 48
  interfaces := #[]
  cf := some (fileOf pool2 8 #[] #[{ accessFlags := 0, nameIndex := 5, descriptorIndex := 46, attributes := #[] }, { accessFlags := 8, nameIndex := 49, descriptorIndex := 57, attributes := #[] }, { accessFlags := 0, nameIndex := 64, descriptorIndex := 65, attributes := #[] }, { accessFlags := 0, nameIndex := 66, descriptorIndex := 46, attributes := #[] }, { accessFlags := 0, nameIndex := 67, descriptorIndex := 68, attributes := #[] }, { accessFlags := 2, nameIndex := 41, descriptorIndex := 42, attributes := #[] }, { accessFlags := 2, nameIndex := 45, descriptorIndex := 46, attributes := #[] }, { accessFlags := 2, nameIndex := 49, descriptorIndex := 50, attributes := #[] }, { accessFlags := 2, nameIndex := 53, descriptorIndex := 54, attributes := #[] }] 48 2 #[] #[{ accessFlags := 24, nameIndex := 58, descriptorIndex := 38, attributes := #[] }, { accessFlags := 18, nameIndex := 11, descriptorIndex := 12, attributes := #[] }, { accessFlags := 18, nameIndex := 15, descriptorIndex := 12, attributes := #[] }, { accessFlags := 18, nameIndex := 18, descriptorIndex := 19, attributes := #[] }, { accessFlags := 18, nameIndex := 22, descriptorIndex := 19, attributes := #[] }, { accessFlags := 2, nameIndex := 37, descriptorIndex := 38, attributes := #[] }])
  fields := #[{ name := "NONE", type := .int, accessFlags := 24, slot := 0, constantValue := 0 }, { name := "heap", type := (.array .int), accessFlags := 18, slot := 0, constantValue := 0 }, { name := "places", type := (.array .int), accessFlags := 18, slot := 1, constantValue := 0 }, { name := "ranks", type := (.array .double), accessFlags := 18, slot := 2, constantValue := 0 }, { name := "staleSince", type := (.array .double), accessFlags := 18, slot := 3, constantValue := 0 }, { name := "size", type := .int, accessFlags := 2, slot := 4, constantValue := 0 }]
  methods := #[k2m0, k2m1, k2m2, k2m3, k2m4, k2m5, k2m6, k2m7, k2m8]
  instanceTypes := #[(.array .int), (.array .int), (.array .double), (.array .double), .int]
  staticTypes := #[.int]
  resolved := Array.replicate 73 none
  statics := none }

def pool3 : Array CpInfo := pool [(2, .class_ 4), (1, u "java/lang/Object"), (0, u "<init>"), (0, u "()V"), (7, .class_ 16), (1, u "java/util/Arrays"), (57, .class_ 76), (1, u "java/util/Arrays$NaturalOrder"), (36, .class_ 115), (1, u "java/util/Arrays$LegacyMergeSort"), (1, u "Z"), (257, .class_ 376), (0, u "java/util/Arrays$ArrayList"), (68, u "$assertionsDisabled"), (269, u "MIN_ARRAY_SORT_GRAN"), (0, u "I"), (2, u "INSERTIONSORT_THRESHOLD"), (120, u "fill"), (4, u "([II)V"), (129, .class_ 976), (0, u "java/util/Arrays$ArrayItr")] 52

def k3m0 : Method := { name := "<init>", desc := "()V", sig := { parameters := [], returnType := none }, accessFlags := 2, code := none }
def k3c1 : Code := { maxStack := 3, maxLocals := 4, code := jdk_65_method_103_code, exceptionTable := #[], attributes := #[] }
def k3m1 : Method := { name := "fill", desc := "([II)V", sig := { parameters := [(.array .int), .int], returnType := none }, accessFlags := 9, code := some k3c1 }
/-- java/util/Arrays -/
def k3 : Class := { plain "java/util/Arrays" (some 0) with
  accessFlags := 49
  interfaces := #[]
  cf := some (fileOf pool3 14 #[.nestMembers #[975, 375, 113, 74]] #[{ accessFlags := 2, nameIndex := 5, descriptorIndex := 6, attributes := #[] }, { accessFlags := 9, nameIndex := 840, descriptorIndex := 845, attributes := #[] }] 49 2 #[] #[{ accessFlags := 26, nameIndex := 715, descriptorIndex := 716, attributes := #[] }, { accessFlags := 26, nameIndex := 719, descriptorIndex := 716, attributes := #[] }, { accessFlags := 4120, nameIndex := 445, descriptorIndex := 117, attributes := #[] }])
  fields := #[{ name := "MIN_ARRAY_SORT_GRAN", type := .int, accessFlags := 26, slot := 0, constantValue := 0 }, { name := "INSERTIONSORT_THRESHOLD", type := .int, accessFlags := 26, slot := 1, constantValue := 0 }, { name := "$assertionsDisabled", type := .boolean, accessFlags := 4120, slot := 2, constantValue := 0 }]
  methods := #[k3m0, k3m1]
  instanceTypes := #[]
  staticTypes := #[.int, .int, .boolean]
  resolved := Array.replicate 1029 none
  statics := none }

def pool4 : Array CpInfo := pool [(1, .class_ 2), (0, u "java/io/Serializable"), (0, .class_ 4), (0, u "java/lang/Object")] 2

/-- java/io/Serializable -/
def k4 : Class := { plain "java/io/Serializable" (some 0) with
  accessFlags := 1537
  interfaces := #[]
  cf := some (fileOf pool4 1 #[] #[] 1537 3 #[] #[])
  fields := #[]
  methods := #[]
  instanceTypes := #[]
  staticTypes := #[]
  resolved := Array.replicate 7 none
  statics := none }

def pool5 : Array CpInfo := pool [(2, .class_ 4), (1, u "java/lang/Object"), (0, u "<init>"), (0, u "()V"), (1, .class_ 10), (1, u "java/lang/Number"), (2, .class_ 14), (0, u "java/io/Serializable"), (0, u "serialVersionUID"), (0, u "J")] 20

def k5m0 : Method := { name := "<init>", desc := "()V", sig := { parameters := [], returnType := none }, accessFlags := 1, code := none }
/-- java/lang/Number -/
def k5 : Class := { plain "java/lang/Number" (some 0) with
  accessFlags := 1057
  interfaces := #[4]
  cf := some (fileOf pool5 8 #[] #[{ accessFlags := 1, nameIndex := 5, descriptorIndex := 6, attributes := #[] }] 1057 2 #[13] #[{ accessFlags := 26, nameIndex := 15, descriptorIndex := 16, attributes := #[] }])
  fields := #[{ name := "serialVersionUID", type := .long, accessFlags := 26, slot := 0, constantValue := 0 }]
  methods := #[k5m0]
  instanceTypes := #[]
  staticTypes := #[.long]
  resolved := Array.replicate 37 none
  statics := none }

def pool6 : Array CpInfo := pool [(1, .class_ 2), (0, u "java/lang/Comparable"), (0, .class_ 4), (0, u "java/lang/Object")] 7

/-- java/lang/Comparable -/
def k6 : Class := { plain "java/lang/Comparable" (some 0) with
  accessFlags := 1537
  interfaces := #[]
  cf := some (fileOf pool6 1 #[] #[] 1537 3 #[] #[])
  fields := #[]
  methods := #[]
  instanceTypes := #[]
  staticTypes := #[]
  resolved := Array.replicate 12 none
  statics := none }

def pool7 : Array CpInfo := pool [(1, .class_ 2), (0, u "java/lang/constant/Constable"), (0, .class_ 4), (0, u "java/lang/Object")] 6

/-- java/lang/constant/Constable -/
def k7 : Class := { plain "java/lang/constant/Constable" (some 0) with
  accessFlags := 1537
  interfaces := #[]
  cf := some (fileOf pool7 1 #[] #[] 1537 3 #[] #[])
  fields := #[]
  methods := #[]
  instanceTypes := #[]
  staticTypes := #[]
  resolved := Array.replicate 11 none
  statics := none }

def pool8 : Array CpInfo := pool [(1, .class_ 2), (0, u "java/lang/constant/ConstantDesc"), (0, .class_ 4), (0, u "java/lang/Object")] 32

/-- java/lang/constant/ConstantDesc -/
def k8 : Class := { plain "java/lang/constant/ConstantDesc" (some 0) with
  accessFlags := 1537
  interfaces := #[]
  cf := some (fileOf pool8 1 #[] #[] 1537 3 #[] #[])
  fields := #[]
  methods := #[]
  instanceTypes := #[]
  staticTypes := #[]
  resolved := Array.replicate 37 none
  statics := none }

def pool9 : Array CpInfo := pool [(1, .class_ 2), (0, u "java/lang/Double"), (11, u "(D)Z"), (31, .methodref 1 47), (0, .nameAndType 48 49), (0, u "doubleToLongBits"), (0, u "(D)J"), (64, .class_ 116), (1, u "java/lang/Number"), (3, u "value"), (0, u "D"), (0, .methodref 1 123), (0, .nameAndType 124 14), (0, u "isNaN"), (9, .methodref 1 135), (0, .nameAndType 136 49), (0, u "doubleToRawLongBits"), (4, u "compare"), (0, u "(DD)I"), (30, u "TYPE"), (0, u "Ljava/lang/Class;"), (0, .class_ 176), (0, u "java/lang/Comparable"), (0, .class_ 178), (0, u "java/lang/constant/Constable"), (0, .class_ 180), (0, u "java/lang/constant/ConstantDesc"), (0, u "POSITIVE_INFINITY"), (3, u "NEGATIVE_INFINITY"), (2, u "NaN"), (2, u "MAX_VALUE"), (0, u "MIN_NORMAL"), (0, u "MIN_VALUE"), (2, u "SIZE"), (0, u "I"), (1, u "PRECISION"), (1, u "MAX_EXPONENT"), (1, u "MIN_EXPONENT"), (1, u "BYTES"), (3, u "serialVersionUID"), (0, u "J")] 79

def k9c0 : Code := { maxStack := 4, maxLocals := 2, code := jdk_117_method_6_code, exceptionTable := #[], attributes := #[] }
def k9m0 : Method := { name := "isNaN", desc := "(D)Z", sig := { parameters := [.double], returnType := some .boolean }, accessFlags := 9, code := some k9c0 }
def k9c1 : Code := { maxStack := 2, maxLocals := 2, code := jdk_117_method_23_code, exceptionTable := #[], attributes := #[] }
def k9m1 : Method := { name := "doubleToLongBits", desc := "(D)J", sig := { parameters := [.double], returnType := some .long }, accessFlags := 9, code := some k9c1 }
def k9m2 : Method := { name := "doubleToRawLongBits", desc := "(D)J", sig := { parameters := [.double], returnType := some .long }, accessFlags := 265, code := none }
def k9c3 : Code := { maxStack := 4, maxLocals := 8, code := jdk_117_method_27_code, exceptionTable := #[], attributes := #[] }
def k9m3 : Method := { name := "compare", desc := "(DD)I", sig := { parameters := [.double, .double], returnType := some .int }, accessFlags := 9, code := some k9c3 }
/-- java/lang/Double -/
def k9 : Class := { plain "java/lang/Double" (some 5) with
  accessFlags := 49
  interfaces := #[6, 7, 8]
  cf := some (fileOf pool9 1 #[] #[{ accessFlags := 9, nameIndex := 124, descriptorIndex := 14, attributes := #[] }, { accessFlags := 9, nameIndex := 48, descriptorIndex := 49, attributes := #[] }, { accessFlags := 265, nameIndex := 136, descriptorIndex := 49, attributes := #[] }, { accessFlags := 9, nameIndex := 141, descriptorIndex := 142, attributes := #[] }] 49 114 #[175, 177, 179] #[{ accessFlags := 25, nameIndex := 181, descriptorIndex := 121, attributes := #[] }, { accessFlags := 25, nameIndex := 185, descriptorIndex := 121, attributes := #[] }, { accessFlags := 25, nameIndex := 188, descriptorIndex := 121, attributes := #[] }, { accessFlags := 25, nameIndex := 191, descriptorIndex := 121, attributes := #[] }, { accessFlags := 25, nameIndex := 192, descriptorIndex := 121, attributes := #[] }, { accessFlags := 25, nameIndex := 193, descriptorIndex := 121, attributes := #[] }, { accessFlags := 25, nameIndex := 196, descriptorIndex := 197, attributes := #[] }, { accessFlags := 25, nameIndex := 199, descriptorIndex := 197, attributes := #[] }, { accessFlags := 25, nameIndex := 201, descriptorIndex := 197, attributes := #[] }, { accessFlags := 25, nameIndex := 203, descriptorIndex := 197, attributes := #[] }, { accessFlags := 25, nameIndex := 205, descriptorIndex := 197, attributes := #[] }, { accessFlags := 25, nameIndex := 173, descriptorIndex := 174, attributes := #[] }, { accessFlags := 18, nameIndex := 120, descriptorIndex := 121, attributes := #[] }, { accessFlags := 26, nameIndex := 209, descriptorIndex := 210, attributes := #[] }])
  fields := #[{ name := "POSITIVE_INFINITY", type := .double, accessFlags := 25, slot := 0, constantValue := 0 }, { name := "NEGATIVE_INFINITY", type := .double, accessFlags := 25, slot := 1, constantValue := 0 }, { name := "NaN", type := .double, accessFlags := 25, slot := 2, constantValue := 0 }, { name := "MAX_VALUE", type := .double, accessFlags := 25, slot := 3, constantValue := 0 }, { name := "MIN_NORMAL", type := .double, accessFlags := 25, slot := 4, constantValue := 0 }, { name := "MIN_VALUE", type := .double, accessFlags := 25, slot := 5, constantValue := 0 }, { name := "SIZE", type := .int, accessFlags := 25, slot := 6, constantValue := 0 }, { name := "PRECISION", type := .int, accessFlags := 25, slot := 7, constantValue := 0 }, { name := "MAX_EXPONENT", type := .int, accessFlags := 25, slot := 8, constantValue := 0 }, { name := "MIN_EXPONENT", type := .int, accessFlags := 25, slot := 9, constantValue := 0 }, { name := "BYTES", type := .int, accessFlags := 25, slot := 10, constantValue := 0 }, { name := "TYPE", type := (.object "java/lang/Class"), accessFlags := 25, slot := 11, constantValue := 0 }, { name := "value", type := .double, accessFlags := 18, slot := 0, constantValue := 0 }, { name := "serialVersionUID", type := .long, accessFlags := 26, slot := 12, constantValue := 0 }]
  methods := #[k9m0, k9m1, k9m2, k9m3]
  instanceTypes := #[.double]
  staticTypes := #[.double, .double, .double, .double, .double, .double, .int, .int, .int, .int, .int, (.object "java/lang/Class"), .long]
  resolved := Array.replicate 290 none
  statics := none }

def pool10 : Array CpInfo := pool [(1, u "java/lang/Cloneable"), (0, .class_ 1), (0, u "java/lang/Object"), (0, .class_ 3)] 3

/-- java/lang/Cloneable -/
def k10 : Class := { plain "java/lang/Cloneable" (some 0) with
  accessFlags := 1537
  interfaces := #[]
  cf := some (fileOf pool10 2 #[] #[] 1537 4 #[] #[])
  fields := #[]
  methods := #[]
  instanceTypes := #[]
  staticTypes := #[]
  resolved := Array.replicate 8 none
  statics := none }

/-- the primitive byte -/
def k11 : Class := { plain "byte" none with kind := .primitive 'B', accessFlags := 0x411 }
/-- [B -/
def k12 : Class := { plain "[B" (some 0) with kind := .array 11 .byte, interfaces := #[10, 4], accessFlags := 1041 }

/-- the primitive double -/
def k13 : Class := { plain "double" none with kind := .primitive 'D', accessFlags := 0x411 }
/-- [D -/
def k14 : Class := { plain "[D" (some 0) with kind := .array 13 .double, interfaces := #[10, 4], accessFlags := 1041 }

/-- the primitive int -/
def k15 : Class := { plain "int" none with kind := .primitive 'I', accessFlags := 0x411 }
/-- [I -/
def k16 : Class := { plain "[I" (some 0) with kind := .array 15 .int, interfaces := #[10, 4], accessFlags := 1041 }

def heap : Heap := #[]
def classes : Array Class := #[k0, k1, k2, k3, k4, k5, k6, k7, k8, k9, k10, k11, k12, k13, k14, k15, k16]
def interned : List (Array UInt16 × Addr) := []
def slotsUsed : Nat := 0
def theMethod : MethodId := ⟨1, 6⟩
def args0 : Array Value := #[.int 5, .int 3, .int 1, .int 5, .int 2, .int 0]
def aboutOver (below : List Frame) : State where
  vm := { classes := classes, interned := interned.toArray }
  heap := heap
  slotsUsed := slotsUsed
  threads := #[{ frames := .invoking theMethod args0 :: below }]
def below0 : List Frame := [.native { method := ⟨0, 0⟩, args := #[] }]
def about1 : State := aboutOver below0
def p0 : Program := .bare "" "" ""
def e0 : Env := launch0.env 0 0 0
theorem w_frames : about1.frames = Frame.invoking theMethod args0 :: below0 := rfl
set_option maxRecDepth 65536 in
theorem w_args : argsFit about1.vm theMethod args0 = true := by decide +kernel
set_option maxRecDepth 65536 in
theorem w_heap : heapFits about1 = true := by decide +kernel
set_option maxRecDepth 65536 in
theorem w_runnable : about1.curStatus? = some .runnable := by decide +kernel
set_option maxRecDepth 65536 in
theorem w_alone : about1.alone = true := by decide +kernel
set_option maxRecDepth 65536 in
theorem w_named : about1.methodNamed? x = some theMethod := by decide +kernel
set_option maxRecDepth 65536 in
theorem w_hears : about1.hears theMethod below0 = true := by decide +kernel
set_option maxRecDepth 65536 in
theorem w_ripe : about1.ripe theMethod args0 below0 = true := by decide +kernel
theorem w_running : about1.status = .running := rfl
set_option maxRecDepth 65536 in
theorem w_room : about1.hasRoom e0.platform room_1 = true :=
  launch0.hasRoom_least _ room_1 (by decide +kernel) (by decide +kernel) (by decide +kernel) (by decide +kernel) (by decide +kernel) (by decide +kernel)
theorem allAtoms_all (ts : List Jvm.Cond) (a : Array Jvm.Value) (st : Jvm.State) : (allAtoms ts).before a st = ts.all (fun c => c.before a st) := by
  induction ts with
  | nil => rfl
  | cons c t ih =>
    show (Jvm.Cond.and c (allAtoms t)).before a st = _
    rw [Jvm.Cond.before_and, ih, List.all_cons]
def words1 : List Jvm.Cond := Jvm.Cond.code x code maxLocals ret :: tables_1
/-- a 'code' word, met by the world's own term for the bytes: nothing is compared byte by byte -/
theorem code_word {y : MethodName} {bytes : ByteArray} {mx : Nat} {rt : Option FieldType} {a : Array Value} {s : State} {m : MethodId} {meth : Method} {c : Code} (h1 : s.methodNamed? y = some m) (h2 : s.vm.method? m = some meth) (h3 : meth.code = some c) (h4 : c.code = bytes)
    (h5 : (c.maxLocals == mx && c.exceptionTable.isEmpty && decide (c.maxStack ≤ mostOperands) && decide (meth.sig.returnType = rt) && !meth.locks && decide (parseMethodDescriptor y.desc = some meth.sig)) = true) : (Jvm.Cond.code y bytes mx rt).before a s = true := by
  simp only [Bool.and_eq_true, beq_iff_eq, Bool.not_eq_true', decide_eq_true_eq] at h5
  obtain ⟨⟨⟨⟨⟨g1, g2⟩, g3⟩, g4⟩, g5⟩, g6⟩ := h5
  simp [Cond.before, Cond.holds, Cond.value, h1, h2, h3, h4, g1, g2, g3, g4, g5, g6]
def isCode : Jvm.Cond → Bool
  | .code _ _ _ _ => true
  | _ => false
theorem all_split {L : List Jvm.Cond} {P : Jvm.Cond → Bool} (h1 : L.all (fun c => isCode c || P c) = true) (h2 : ∀ c ∈ L.filter isCode, P c = true) : L.all P = true := by
  refine List.all_eq_true.mpr fun c hc => ?_
  have h := List.all_eq_true.mp h1 c hc
  rcases Bool.eq_false_or_eq_true (isCode c) with hi | hi
  · exact h2 c (List.mem_filter.mpr ⟨hc, hi⟩)
  · simpa [hi] using h
set_option maxRecDepth 65536 in
theorem w_c0 : (Jvm.Cond.code x code maxLocals ret).before args0 about1 = true := code_word (m := ⟨1, 6⟩) (meth := k1m6) (c := k1c6) (by decide +kernel) rfl rfl rfl (by decide +kernel)
set_option maxRecDepth 65536 in
theorem w_c1 : (Jvm.Cond.code ({ cls := "com/example/freshline/freshline/schedule/CandidateQueuePutPinLaw", name := "rk", desc := "(I)I" } : Jvm.MethodName) method_2_code (1 : Nat) (Option.some Jvm.ClassFile.FieldType.int)).before args0 about1 = true := code_word (m := ⟨1, 1⟩) (meth := k1m1) (c := k1c1) (by decide +kernel) rfl rfl rfl (by decide +kernel)
set_option maxRecDepth 65536 in
theorem w_c2 : (Jvm.Cond.code ({ cls := "com/example/freshline/freshline/schedule/CandidateQueuePutPinLaw", name := "sk", desc := "(I)I" } : Jvm.MethodName) method_3_code (1 : Nat) (Option.some Jvm.ClassFile.FieldType.int)).before args0 about1 = true := code_word (m := ⟨1, 2⟩) (meth := k1m2) (c := k1c2) (by decide +kernel) rfl rfl rfl (by decide +kernel)
set_option maxRecDepth 65536 in
theorem w_c3 : (Jvm.Cond.code ({ cls := "com/example/freshline/freshline/schedule/CandidateQueue", name := "<init>", desc := "(I)V" } : Jvm.MethodName) prog_52_method_1_code (2 : Nat) (Option.none : Option Jvm.ClassFile.FieldType)).before args0 about1 = true := code_word (m := ⟨2, 0⟩) (meth := k2m0) (c := k2c0) (by decide +kernel) rfl rfl rfl (by decide +kernel)
set_option maxRecDepth 65536 in
theorem w_c4 : (Jvm.Cond.code ({ cls := "java/lang/Object", name := "<init>", desc := "()V" } : Jvm.MethodName) object_method_1_code (1 : Nat) (Option.none : Option Jvm.ClassFile.FieldType)).before args0 about1 = true := code_word (m := ⟨0, 0⟩) (meth := k0m0) (c := k0c0) (by decide +kernel) rfl rfl rfl (by decide +kernel)
set_option maxRecDepth 65536 in
theorem w_c5 : (Jvm.Cond.code ({ cls := "java/util/Arrays", name := "fill", desc := "([II)V" } : Jvm.MethodName) jdk_65_method_103_code (4 : Nat) (Option.none : Option Jvm.ClassFile.FieldType)).before args0 about1 = true := code_word (m := ⟨3, 1⟩) (meth := k3m1) (c := k3c1) (by decide +kernel) rfl rfl rfl (by decide +kernel)
set_option maxRecDepth 65536 in
theorem w_c6 : (Jvm.Cond.code ({ cls := "com/example/freshline/freshline/schedule/CandidateQueue", name := "put", desc := "(IDD)V" } : Jvm.MethodName) prog_52_method_3_code (7 : Nat) (Option.none : Option Jvm.ClassFile.FieldType)).before args0 about1 = true := code_word (m := ⟨2, 2⟩) (meth := k2m2) (c := k2c2) (by decide +kernel) rfl rfl rfl (by decide +kernel)
set_option maxRecDepth 65536 in
theorem w_c7 : (Jvm.Cond.code ({ cls := "com/example/freshline/freshline/schedule/CandidateQueue", name := "siftUp", desc := "(I)I" } : Jvm.MethodName) prog_52_method_8_code (5 : Nat) (Option.some Jvm.ClassFile.FieldType.int)).before args0 about1 = true := code_word (m := ⟨2, 5⟩) (meth := k2m5) (c := k2c5) (by decide +kernel) rfl rfl rfl (by decide +kernel)
set_option maxRecDepth 65536 in
theorem w_c8 : (Jvm.Cond.code ({ cls := "com/example/freshline/freshline/schedule/CandidateQueue", name := "move", desc := "(II)V" } : Jvm.MethodName) prog_52_method_11_code (3 : Nat) (Option.none : Option Jvm.ClassFile.FieldType)).before args0 about1 = true := code_word (m := ⟨2, 8⟩) (meth := k2m8) (c := k2c8) (by decide +kernel) rfl rfl rfl (by decide +kernel)
set_option maxRecDepth 65536 in
theorem w_c9 : (Jvm.Cond.code ({ cls := "com/example/freshline/freshline/schedule/CandidateQueue", name := "siftDown", desc := "(I)V" } : Jvm.MethodName) prog_52_method_9_code (5 : Nat) (Option.none : Option Jvm.ClassFile.FieldType)).before args0 about1 = true := code_word (m := ⟨2, 6⟩) (meth := k2m6) (c := k2c6) (by decide +kernel) rfl rfl rfl (by decide +kernel)
set_option maxRecDepth 65536 in
theorem w_c10 : (Jvm.Cond.code ({ cls := "com/example/freshline/freshline/schedule/CandidateQueue", name := "precedes", desc := "(II)Z" } : Jvm.MethodName) prog_52_method_10_code (3 : Nat) (Option.some Jvm.ClassFile.FieldType.boolean)).before args0 about1 = true := code_word (m := ⟨2, 7⟩) (meth := k2m7) (c := k2c7) (by decide +kernel) rfl rfl rfl (by decide +kernel)
set_option maxRecDepth 65536 in
theorem w_c11 : (Jvm.Cond.code ({ cls := "com/example/freshline/freshline/schedule/CandidateQueue", name := "precedes", desc := "(DDIDDI)Z" } : Jvm.MethodName) prog_52_method_2_code (13 : Nat) (Option.some Jvm.ClassFile.FieldType.boolean)).before args0 about1 = true := code_word (m := ⟨2, 1⟩) (meth := k2m1) (c := k2c1) (by decide +kernel) rfl rfl rfl (by decide +kernel)
set_option maxRecDepth 65536 in
theorem w_c12 : (Jvm.Cond.code ({ cls := "java/lang/Double", name := "compare", desc := "(DD)I" } : Jvm.MethodName) jdk_117_method_27_code (8 : Nat) (Option.some Jvm.ClassFile.FieldType.int)).before args0 about1 = true := code_word (m := ⟨9, 3⟩) (meth := k9m3) (c := k9c3) (by decide +kernel) rfl rfl rfl (by decide +kernel)
set_option maxRecDepth 65536 in
theorem w_c13 : (Jvm.Cond.code ({ cls := "java/lang/Double", name := "doubleToLongBits", desc := "(D)J" } : Jvm.MethodName) jdk_117_method_23_code (2 : Nat) (Option.some Jvm.ClassFile.FieldType.long)).before args0 about1 = true := code_word (m := ⟨9, 1⟩) (meth := k9m1) (c := k9c1) (by decide +kernel) rfl rfl rfl (by decide +kernel)
set_option maxRecDepth 65536 in
theorem w_c14 : (Jvm.Cond.code ({ cls := "java/lang/Double", name := "isNaN", desc := "(D)Z" } : Jvm.MethodName) jdk_117_method_6_code (2 : Nat) (Option.some Jvm.ClassFile.FieldType.boolean)).before args0 about1 = true := code_word (m := ⟨9, 0⟩) (meth := k9m0) (c := k9c0) (by decide +kernel) rfl rfl rfl (by decide +kernel)
set_option maxRecDepth 65536 in
theorem w_c15 : (Jvm.Cond.code ({ cls := "com/example/freshline/freshline/schedule/CandidateQueuePutPinLaw", name := "better", desc := "([I[III)I" } : Jvm.MethodName) method_5_code (4 : Nat) (Option.some Jvm.ClassFile.FieldType.int)).before args0 about1 = true := code_word (m := ⟨1, 4⟩) (meth := k1m4) (c := k1c4) (by decide +kernel) rfl rfl rfl (by decide +kernel)
set_option maxRecDepth 65536 in
theorem w_c16 : (Jvm.Cond.code ({ cls := "com/example/freshline/freshline/schedule/CandidateQueuePutPinLaw", name := "before", desc := "([I[III)Z" } : Jvm.MethodName) method_4_code (4 : Nat) (Option.some Jvm.ClassFile.FieldType.boolean)).before args0 about1 = true := code_word (m := ⟨1, 3⟩) (meth := k1m3) (c := k1c3) (by decide +kernel) rfl rfl rfl (by decide +kernel)
set_option maxRecDepth 65536 in
theorem w_c17 : (Jvm.Cond.code ({ cls := "com/example/freshline/freshline/schedule/CandidateQueue", name := "first", desc := "()I" } : Jvm.MethodName) prog_52_method_5_code (1 : Nat) (Option.some Jvm.ClassFile.FieldType.int)).before args0 about1 = true := code_word (m := ⟨2, 4⟩) (meth := k2m4) (c := k2c4) (by decide +kernel) rfl rfl rfl (by decide +kernel)
set_option maxRecDepth 65536 in
theorem w_c18 : (Jvm.Cond.code ({ cls := "com/example/freshline/freshline/schedule/CandidateQueue", name := "remove", desc := "(I)V" } : Jvm.MethodName) prog_52_method_4_code (4 : Nat) (Option.none : Option Jvm.ClassFile.FieldType)).before args0 about1 = true := code_word (m := ⟨2, 3⟩) (meth := k2m3) (c := k2c3) (by decide +kernel) rfl rfl rfl (by decide +kernel)
set_option maxRecDepth 65536 in
theorem w_c19 : (Jvm.Cond.code ({ cls := "com/example/freshline/freshline/schedule/CandidateQueuePutPinLaw", name := "pick", desc := "([I[IIII)I" } : Jvm.MethodName) method_6_code (5 : Nat) (Option.some Jvm.ClassFile.FieldType.int)).before args0 about1 = true := code_word (m := ⟨1, 5⟩) (meth := k1m5) (c := k1c5) (by decide +kernel) rfl rfl rfl (by decide +kernel)
def codes1 : List Jvm.Cond := [Jvm.Cond.code x code maxLocals ret, Jvm.Cond.code ({ cls := "com/example/freshline/freshline/schedule/CandidateQueuePutPinLaw", name := "rk", desc := "(I)I" } : Jvm.MethodName) method_2_code (1 : Nat) (Option.some Jvm.ClassFile.FieldType.int), Jvm.Cond.code ({ cls := "com/example/freshline/freshline/schedule/CandidateQueuePutPinLaw", name := "sk", desc := "(I)I" } : Jvm.MethodName) method_3_code (1 : Nat) (Option.some Jvm.ClassFile.FieldType.int), Jvm.Cond.code ({ cls := "com/example/freshline/freshline/schedule/CandidateQueue", name := "<init>", desc := "(I)V" } : Jvm.MethodName) prog_52_method_1_code (2 : Nat) (Option.none : Option Jvm.ClassFile.FieldType), Jvm.Cond.code ({ cls := "java/lang/Object", name := "<init>", desc := "()V" } : Jvm.MethodName) object_method_1_code (1 : Nat) (Option.none : Option Jvm.ClassFile.FieldType), Jvm.Cond.code ({ cls := "java/util/Arrays", name := "fill", desc := "([II)V" } : Jvm.MethodName) jdk_65_method_103_code (4 : Nat) (Option.none : Option Jvm.ClassFile.FieldType), Jvm.Cond.code ({ cls := "com/example/freshline/freshline/schedule/CandidateQueue", name := "put", desc := "(IDD)V" } : Jvm.MethodName) prog_52_method_3_code (7 : Nat) (Option.none : Option Jvm.ClassFile.FieldType), Jvm.Cond.code ({ cls := "com/example/freshline/freshline/schedule/CandidateQueue", name := "siftUp", desc := "(I)I" } : Jvm.MethodName) prog_52_method_8_code (5 : Nat) (Option.some Jvm.ClassFile.FieldType.int), Jvm.Cond.code ({ cls := "com/example/freshline/freshline/schedule/CandidateQueue", name := "move", desc := "(II)V" } : Jvm.MethodName) prog_52_method_11_code (3 : Nat) (Option.none : Option Jvm.ClassFile.FieldType), Jvm.Cond.code ({ cls := "com/example/freshline/freshline/schedule/CandidateQueue", name := "siftDown", desc := "(I)V" } : Jvm.MethodName) prog_52_method_9_code (5 : Nat) (Option.none : Option Jvm.ClassFile.FieldType), Jvm.Cond.code ({ cls := "com/example/freshline/freshline/schedule/CandidateQueue", name := "precedes", desc := "(II)Z" } : Jvm.MethodName) prog_52_method_10_code (3 : Nat) (Option.some Jvm.ClassFile.FieldType.boolean), Jvm.Cond.code ({ cls := "com/example/freshline/freshline/schedule/CandidateQueue", name := "precedes", desc := "(DDIDDI)Z" } : Jvm.MethodName) prog_52_method_2_code (13 : Nat) (Option.some Jvm.ClassFile.FieldType.boolean), Jvm.Cond.code ({ cls := "java/lang/Double", name := "compare", desc := "(DD)I" } : Jvm.MethodName) jdk_117_method_27_code (8 : Nat) (Option.some Jvm.ClassFile.FieldType.int), Jvm.Cond.code ({ cls := "java/lang/Double", name := "doubleToLongBits", desc := "(D)J" } : Jvm.MethodName) jdk_117_method_23_code (2 : Nat) (Option.some Jvm.ClassFile.FieldType.long), Jvm.Cond.code ({ cls := "java/lang/Double", name := "isNaN", desc := "(D)Z" } : Jvm.MethodName) jdk_117_method_6_code (2 : Nat) (Option.some Jvm.ClassFile.FieldType.boolean), Jvm.Cond.code ({ cls := "com/example/freshline/freshline/schedule/CandidateQueuePutPinLaw", name := "better", desc := "([I[III)I" } : Jvm.MethodName) method_5_code (4 : Nat) (Option.some Jvm.ClassFile.FieldType.int), Jvm.Cond.code ({ cls := "com/example/freshline/freshline/schedule/CandidateQueuePutPinLaw", name := "before", desc := "([I[III)Z" } : Jvm.MethodName) method_4_code (4 : Nat) (Option.some Jvm.ClassFile.FieldType.boolean), Jvm.Cond.code ({ cls := "com/example/freshline/freshline/schedule/CandidateQueue", name := "first", desc := "()I" } : Jvm.MethodName) prog_52_method_5_code (1 : Nat) (Option.some Jvm.ClassFile.FieldType.int), Jvm.Cond.code ({ cls := "com/example/freshline/freshline/schedule/CandidateQueue", name := "remove", desc := "(I)V" } : Jvm.MethodName) prog_52_method_4_code (4 : Nat) (Option.none : Option Jvm.ClassFile.FieldType), Jvm.Cond.code ({ cls := "com/example/freshline/freshline/schedule/CandidateQueuePutPinLaw", name := "pick", desc := "([I[IIII)I" } : Jvm.MethodName) method_6_code (5 : Nat) (Option.some Jvm.ClassFile.FieldType.int)]
set_option maxRecDepth 65536 in
theorem codes_eq : words1.filter isCode = codes1 := rfl
theorem w_codes : ∀ c ∈ words1.filter isCode, c.before args0 about1 = true := by
  rw [codes_eq]
  intro c hc
  simp only [codes1, List.mem_cons, List.not_mem_nil, or_false] at hc
  rcases hc with rfl | rfl | rfl | rfl | rfl | rfl | rfl | rfl | rfl | rfl | rfl | rfl | rfl | rfl | rfl | rfl | rfl | rfl | rfl | rfl
  · exact w_c0
  · exact w_c1
  · exact w_c2
  · exact w_c3
  · exact w_c4
  · exact w_c5
  · exact w_c6
  · exact w_c7
  · exact w_c8
  · exact w_c9
  · exact w_c10
  · exact w_c11
  · exact w_c12
  · exact w_c13
  · exact w_c14
  · exact w_c15
  · exact w_c16
  · exact w_c17
  · exact w_c18
  · exact w_c19
set_option maxRecDepth 65536 in
theorem w_t1 : (words1.take 24).all (fun c => isCode c || c.before args0 about1) = true := by decide +kernel
set_option maxRecDepth 65536 in
theorem w_t2 : ((words1.drop 24).take 24).all (fun c => isCode c || c.before args0 about1) = true := by decide +kernel
set_option maxRecDepth 65536 in
theorem w_t3 : (((words1.drop 24).drop 24).take 24).all (fun c => isCode c || c.before args0 about1) = true := by decide +kernel
set_option maxRecDepth 65536 in
theorem w_t4 : (((words1.drop 24).drop 24).drop 24).all (fun c => isCode c || c.before args0 about1) = true := by decide +kernel
theorem w_tables : (allAtoms (Jvm.Cond.code x code maxLocals ret :: tables_1)).before args0 about1 = true := by
  rw [allAtoms_all]
  show words1.all (fun c => c.before args0 about1) = true
  refine all_split ?_ w_codes
  rw [← List.take_append_drop 24 words1, List.all_append, w_t1, ← List.take_append_drop 24 (words1.drop 24), List.all_append, w_t2, ← List.take_append_drop 24 ((words1.drop 24).drop 24), List.all_append, w_t3, w_t4]
  rfl
set_option maxRecDepth 65536 in
theorem w_case : (Jvm.Cond.and given_1 narrow_1).before args0 about1 = true := by decide +kernel
theorem w_applies : (headSpec (Jvm.Cond.code x code maxLocals ret :: tables_1) room_1).applies x e0.platform about1 = true :=
  (Spec.applies_iff w_frames).mpr ⟨w_running, w_runnable, w_alone, w_named, w_hears, w_ripe, w_room, w_tables⟩
theorem atStart : AtStart classFile x code maxLocals ret World_1 tables_1 room_1 Calls_1 rest_1 Pre_1 launch0 p0 e0 about1 theMethod args0 below0 :=
  ⟨lists_1, trivial, launch0.admits_env _ _ _, launch0.least_env, fairChoices_fair.cas, fairChoices_fair.clock, w_frames, w_args, w_heap, w_applies, trivial, trivial, w_case⟩
end start1
theorem witness_1 : WitnessClaimed_1 := ⟨start1.p0, start1.e0, start1.about1, start1.theMethod, start1.args0, start1.below0, start1.atStart⟩
end Jvm.Pilot.@@N@@
