import JvmDerived
import JvmDerived.Pilot.@@N@@Statement
import JvmDerived.Pilot.@@N@@Code
set_option linter.unusedVariables false
set_option linter.unusedSimpArgs false
namespace Jvm.Own7
open Sem ClassFile Op Lib Jvm.Stand Jvm.Free Jvm.LawKit Jvm.RoadKit
/-! What is known of the heap: a list of entries, each an address and what its cell satisfies; the addresses differ and are all new since the law began. -/
abbrev Ent : Type := Addr × (Cell → Prop)
abbrev FV : Type := String × String × String × Value
def key (Z : State) (f : FV) : Nat := RoadKit.slotOf Z f.1 f.2.1 f.2.2.1
def FldC (Z : State) (c : Cell) (f : FV) : Prop := ∃ (cf : ClassId) (k : Class) (i : Nat) (fd : Field), Z.fieldFound? f.1 f.2.1 f.2.2.1 = some (cf, k, i, fd) ∧ fd.isStatic = false ∧ c.vm ≠ .unknown ∧ c.vm.isStatics = false ∧ Z.vm.assignable c.cls cf = true ∧ c.slots[fd.slot]? = some f.2.2.2
def ExaC (Z : State) (C : String) (c : Cell) : Prop := ∃ k : Class, Z.vm.findClass C = some c.cls ∧ Z.vm.classes[c.cls]? = some k ∧ c.vm.isStatics = false ∧ (k.kind = .ordinary → c.slots.size = k.instanceTypes.size)
def oObj (Z : State) (a : Addr) (C : String) (fs : List FV) : Ent := (a, fun c => ExaC Z C c ∧ (fs.map (key Z)).Nodup ∧ ∀ f ∈ fs, FldC Z c f)
def oArr (Z : State) (a : Addr) (k : ClassId) (ty : FieldType) (vs : List Value) : Ent := (a, fun c => Z.isArrayOf c ty ∧ c.vm ≠ .unknown ∧ c.cls = k ∧ c.slots = vs.toArray ∧ vs.length < 2147483648)
def OKnow (Z : State) (h : Heap) (K : List Ent) : Prop := Ext Z.heap h ∧ (∀ e ∈ K, Z.heap.size ≤ e.1 ∧ ∃ c, h[e.1]? = some c ∧ e.2 c) ∧ (K.map Prod.fst).Nodup
section Kn
variable {Z : State} {h h' : Heap} {K K' F F' rest : List Ent} {a : Addr} {P P' : Cell → Prop} {sl i j : Nat} {v w : Value} {C O n d : String} {fs : List FV} {ty : FieldType} {vs : List Value} {k : ClassId}
theorem OKnow.start (Z : State) : OKnow Z Z.heap [] := ⟨⟨Nat.le_refl _, fun _ _ q => q⟩, fun _ q => absurd q (List.not_mem_nil), List.nodup_nil⟩
theorem OKnow.at (N : OKnow Z h K) (hi : K[i]? = some (a, P)) : Z.heap.size ≤ a ∧ ∃ c, h[a]? = some c ∧ P c := N.2.1 _ (List.mem_of_getElem? hi)
theorem nodup_ne {α : Type} {l : List α} (N : l.Nodup) {i j : Nat} {x y : α} (hi : l[i]? = some x) (hj : l[j]? = some y) (ne : i ≠ j) : x ≠ y := fun e => by
  subst e
  obtain ⟨hi1, hi2⟩ := List.getElem?_eq_some_iff.mp hi
  obtain ⟨hj1, hj2⟩ := List.getElem?_eq_some_iff.mp hj
  have q := List.pairwise_iff_getElem.mp N
  rcases Nat.lt_or_gt_of_ne ne with r | r
  · exact q i j hi1 hj1 r (hi2.trans hj2.symm)
  · exact q j i hj1 hi1 r (hj2.trans hi2.symm)
theorem map_set_same {α β : Type} {f : α → β} {l : List α} {i : Nat} {x y : α} (hi : l[i]? = some x) (e : f y = f x) : (l.set i y).map f = l.map f := by
  apply List.ext_getElem?
  intro j
  simp only [List.getElem?_map, List.getElem?_set]
  by_cases q : i = j
  · subst q
    obtain ⟨h1, h2⟩ := List.getElem?_eq_some_iff.mp hi
    simp [h1, h2, e]
  · simp [q]
theorem OKnow.upd (N : OKnow Z h K) (hi : K[i]? = some (a, P)) (W : Wr h h' a sl v) (hP : ∀ c : Cell, P c → sl < c.slots.size → P' (c.setSlot sl v)) : OKnow Z h' (K.set i (a, P')) := by
  obtain ⟨n1, n2, n3⟩ := N
  have hga : Z.heap.size ≤ a := (n2 _ (List.mem_of_getElem? hi)).1
  refine ⟨⟨by rw [W.size]; exact n1.1, fun x c hx => ?_⟩, fun e he => ?_, ?_⟩
  · have hlt : x < Z.heap.size := (Array.getElem?_eq_some_iff.mp hx).1
    obtain ⟨c', q1, -, -, -, q5, -⟩ := wr_at W (n1.2 _ _ hx)
    rw [q1, q5 (Nat.ne_of_lt (Nat.lt_of_lt_of_le hlt hga))]
  · obtain ⟨j, hj⟩ := List.mem_iff_getElem?.mp he
    rw [List.getElem?_set] at hj
    by_cases q : i = j
    · subst q
      have hl := (List.getElem?_eq_some_iff.mp hi).1
      simp [hl] at hj
      subst hj
      obtain ⟨c, c1, c2⟩ := (n2 _ (List.mem_of_getElem? hi)).2
      obtain ⟨c', q1, -, -, -, -, -, q7⟩ := wr_at W c1
      obtain ⟨c0, w1, w2, w3, w4⟩ := W
      have c1' : h[a]? = some c := c1
      cases c1'.symm.trans w1
      exact ⟨hga, c', q1, by rw [(q7 rfl).1]; exact hP c c2 w3⟩
    · simp [q] at hj
      obtain ⟨g1, c, c1, c2⟩ := n2 _ (List.mem_of_getElem? hj)
      have ne : a ≠ e.1 := nodup_ne n3 (i := i) (j := j) (by simp [hi]) (by simp [hj]) q
      obtain ⟨c', q1, -, -, -, q5, -⟩ := wr_at W c1
      exact ⟨g1, c, by rw [q1, q5 (Ne.symm ne)], c2⟩
  · rw [map_set_same (f := Prod.fst) (y := (a, P')) hi rfl]; exact n3
theorem fldC_slot {c : Cell} {f : FV} (F : FldC Z c f) : c.slots[key Z f]? = some f.2.2.2 := by
  obtain ⟨cf, k, i, fd, h1, -, -, -, -, h6⟩ := F
  have : key Z f = fd.slot := by simp [key, RoadKit.slotOf, h1]
  rw [this]; exact h6
theorem fldC_set {c : Cell} {f : FV} (F : FldC Z c f) {sl : Nat} {v : Value} (ne : key Z f ≠ sl) : FldC Z (c.setSlot sl v) f := by
  obtain ⟨cf, k, i, fd, h1, h2, h3, h4, h5, h6⟩ := F
  have q : key Z f = fd.slot := by simp [key, RoadKit.slotOf, h1]
  refine ⟨cf, k, i, fd, h1, h2, h3, h4, h5, ?_⟩
  show (c.slots.setIfInBounds sl v)[fd.slot]? = _
  rw [Array.getElem?_setIfInBounds_ne (by rw [← q]; exact Ne.symm ne)]; exact h6
theorem fldC_here {c : Cell} {O n d : String} {w v : Value} (F : FldC Z c (O, n, d, w)) : FldC Z (c.setSlot (RoadKit.slotOf Z O n d) v) (O, n, d, v) := by
  have g := fldC_slot F
  obtain ⟨cf, k, i, fd, h1, h2, h3, h4, h5, h6⟩ := F
  have q : RoadKit.slotOf Z O n d = fd.slot := by simp [RoadKit.slotOf, h1]
  refine ⟨cf, k, i, fd, h1, h2, h3, h4, h5, ?_⟩
  show (c.slots.setIfInBounds (RoadKit.slotOf Z O n d) v)[fd.slot]? = _
  rw [q, Array.getElem?_setIfInBounds_self_of_lt (Array.getElem?_eq_some_iff.mp h6).1]
theorem exaC_set {c : Cell} (E : ExaC Z C c) {sl : Nat} {v : Value} : ExaC Z C (c.setSlot sl v) := by
  obtain ⟨k, h1, h2, h3, h4⟩ := E
  exact ⟨k, h1, h2, h3, fun q => by rw [sz_set]; exact h4 q⟩
theorem OKnow.put (N : OKnow Z h K) (hi : K[i]? = some (oObj Z a C fs)) (hj : fs[j]? = some (O, n, d, w)) (W : Wr h h' a (RoadKit.slotOf Z O n d) v) : OKnow Z h' (K.set i (oObj Z a C (fs.set j (O, n, d, v)))) := by
  refine N.upd (P' := (oObj Z a C (fs.set j (O, n, d, v))).2) hi W fun c ⟨E, D, A⟩ hlt => ⟨exaC_set E, by rw [map_set_same (f := key Z) (y := (O, n, d, v)) hj rfl]; exact D, fun f hf => ?_⟩
  obtain ⟨x, hx⟩ := List.mem_iff_getElem?.mp hf
  rw [List.getElem?_set] at hx
  by_cases q : j = x
  · subst q
    simp [(List.getElem?_eq_some_iff.mp hj).1] at hx
    subst hx
    exact fldC_here (A _ (List.mem_of_getElem? hj))
  · simp [q] at hx
    have ne : key Z (O, n, d, w) ≠ key Z f := nodup_ne D (i := j) (j := x) (by simp [hj]) (by simp [hx]) q
    exact fldC_set (A _ (List.mem_of_getElem? hx)) (Ne.symm ne)
theorem OKnow.fld (N : OKnow Z h K) (hi : K[i]? = some (oObj Z a C fs)) (hj : fs[j]? = some (O, n, d, v)) : Fld Z h a O n d v := by
  obtain ⟨-, c, c1, -, -, A⟩ := N.at hi
  obtain ⟨cf, k, i, fd, h1, h2, h3, h4, h5, h6⟩ := A _ (List.mem_of_getElem? hj)
  exact ⟨c, cf, k, i, fd, c1, h1, h2, h3, h4, h5, h6⟩
theorem OKnow.exa (N : OKnow Z h K) (hi : K[i]? = some (oObj Z a C fs)) : Exa Z h a C := by
  obtain ⟨-, c, c1, ⟨k, h1, h2, h3, h4⟩, -⟩ := N.at hi
  exact ⟨c, k, c1, h1, h2, h3, h4⟩
theorem OKnow.arr (N : OKnow Z h K) (hi : K[i]? = some (oArr Z a k ty vs)) : ∃ c, Arr Z h a c ty ∧ c.cls = k ∧ c.slots = vs.toArray ∧ vs.length < 2147483648 := by
  obtain ⟨-, c, c1, h1, h2, h3, h4, h5⟩ := N.at hi
  exact ⟨c, ⟨c1, h1, h2⟩, h3, h4, h5⟩
theorem OKnow.putA (N : OKnow Z h K) (hi : K[i]? = some (oArr Z a k ty vs)) (W : Wr h h' a j v) : OKnow Z h' (K.set i (oArr Z a k ty (vs.set j v))) := by
  refine N.upd (P' := (oArr Z a k ty (vs.set j v)).2) hi W fun c ⟨h1, h2, h3, h4, h5⟩ hlt => ⟨?_, h2, h3, ?_, by rw [List.length_set]; exact h5⟩
  · exact h1
  · show c.slots.setIfInBounds j v = _
    rw [h4]; simp
theorem OKnow.cons (N : OKnow Z h K) (E : Ext h h') {c : Cell} (hc : h'[h.size]? = some c) (hP : P c) : OKnow Z h' ((h.size, P) :: K) := by
  obtain ⟨n1, n2, n3⟩ := N
  refine ⟨⟨Nat.le_trans n1.1 E.1, fun x c q => E.2 _ _ (n1.2 _ _ q)⟩, fun e he => ?_, ?_⟩
  · rcases List.mem_cons.mp he with rfl | he
    · exact ⟨n1.1, c, hc, hP⟩
    · obtain ⟨g, c, c1, c2⟩ := n2 e he
      exact ⟨g, c, E.2 _ _ c1, c2⟩
  · rw [List.map_cons, List.nodup_cons]
    refine ⟨fun q => ?_, n3⟩
    obtain ⟨e, he, q⟩ := List.mem_map.mp q
    obtain ⟨-, c, c1, -⟩ := n2 e he
    have := (Array.getElem?_eq_some_iff.mp c1).1
    have q' : e.1 = h.size := q
    exact absurd q' (Nat.ne_of_lt this)
theorem OKnow.sel (N : OKnow Z h (F ++ rest)) (is : List Nat) (hn : is.Nodup) (hF : is.map (fun i => F[i]?) = F'.map some) : OKnow Z h (F' ++ rest) := by
  obtain ⟨n1, n2, n3⟩ := N
  have mem : ∀ e ∈ F', ∃ i ∈ is, F[i]? = some e := fun e he => by
    have : some e ∈ F'.map some := List.mem_map.mpr ⟨e, he, rfl⟩
    rw [← hF] at this
    obtain ⟨i, h1, h2⟩ := List.mem_map.mp this
    exact ⟨i, h1, h2⟩
  rw [List.map_append, List.nodup_append] at n3
  refine ⟨n1, fun e he => ?_, ?_⟩
  · rcases List.mem_append.mp he with he | he
    · obtain ⟨i, -, h2⟩ := mem e he
      exact n2 e (List.mem_append_left _ (List.mem_of_getElem? h2))
    · exact n2 e (List.mem_append_right _ he)
  · rw [List.map_append, List.nodup_append]
    refine ⟨?_, n3.2.1, fun x hx y hy => ?_⟩
    · have hl : is.length = F'.length := by have := congrArg List.length hF; simpa using this
      refine List.pairwise_iff_getElem.mpr fun x y hx hy hxy => ?_
      have hx' : x < F'.length := by simpa using hx
      have hy' : y < F'.length := by simpa using hy
      have gx : F[is[x]'(by omega)]? = some F'[x] := by
        have := congrArg (fun l => l[x]?) hF
        simpa [hx', show x < is.length by omega] using this
      have gy : F[is[y]'(by omega)]? = some F'[y] := by
        have := congrArg (fun l => l[y]?) hF
        simpa [hy', show y < is.length by omega] using this
      have ne : is[x]'(by omega) ≠ is[y]'(by omega) := List.pairwise_iff_getElem.mp hn x y (by omega) (by omega) hxy
      have := nodup_ne n3.1 (i := is[x]'(by omega)) (j := is[y]'(by omega)) (x := F'[x].1) (y := F'[y].1) (by simp [gx]) (by simp [gy]) ne
      simpa using this
    · obtain ⟨e, he, rfl⟩ := List.mem_map.mp hx
      obtain ⟨i, -, h2⟩ := mem e he
      exact n3.2.2 _ (List.mem_map.mpr ⟨e, List.mem_of_getElem? h2, rfl⟩) y hy
theorem OKnow.drop (N : OKnow Z h K) (hi : K[i]? = some (a, P)) (Kp : Keep h h' [a]) : OKnow Z h' (K.eraseIdx i) := by
  obtain ⟨n1, n2, n3⟩ := N
  have ga := (n2 _ (List.mem_of_getElem? hi)).1
  refine ⟨⟨Nat.le_trans n1.1 Kp.1, fun x c q => Kp.2.1 _ _ (n1.2 _ _ q) fun w => ?_⟩, fun e he => ?_, ?_⟩
  · have := List.mem_singleton.mp w
    have hx := (Array.getElem?_eq_some_iff.mp q).1
    rw [this] at hx
    exact absurd hx (Nat.not_lt.mpr ga)
  · obtain ⟨j, hj, hje⟩ := List.mem_eraseIdx_iff_getElem?.mp he
    obtain ⟨g1, c, c1, c2⟩ := n2 _ (List.mem_of_getElem? hje)
    have ne : e.1 ≠ a := nodup_ne n3 (i := j) (j := i) (by simp [hje]) (by simp [hi]) hj
    exact ⟨g1, c, Kp.2.1 _ _ c1 (fun w => ne (List.mem_singleton.mp w)), c2⟩
  · exact List.Pairwise.sublist ((List.eraseIdx_sublist K i).map Prod.fst) n3
theorem OKnow.arv (N : OKnow Z h K) (hi : K[i]? = some (oArr Z a k ty vs)) {n : Int32} {dv : Value} (hn : n.toNatClampNeg = vs.length) (h0 : ¬ n < 0) (hf : ∀ v ∈ vs, fits ty v = true) : Arv Z h a k ty n vs dv := by
  obtain ⟨c, A, h1, h2, -⟩ := N.arr hi
  have hs : c.slots.size = vs.length := by rw [h2]; simp
  refine ⟨c, A, h1, by rw [hs, hn], h0, fun j hj => ?_, fun j hj => ?_⟩
  · rw [hs] at hj; rw [h2]; simp [hj]
  · rw [hs] at hj; simp only [List.getD_eq_getElem?_getD, List.getElem?_eq_getElem hj, Option.getD_some]; exact hf _ (List.getElem_mem hj)
/-- the fields of a new object: laid in the class, at their first values, their names different -/
def LaidL (Z : State) (a0 : Array Value) (C : String) : List FV → Prop
  | [] => True
  | f :: r => (Laid Z a0 C f.1 f.2.1 f.2.2.1 ∧ ∃ ty, parseFieldDescriptor f.2.2.1 = some ty ∧ f.2.2.2 = defaultValue ty) ∧ LaidL Z a0 C r
theorem LaidL.mem {a0 : Array Value} : ∀ (fs : List FV), LaidL Z a0 C fs → ∀ f ∈ fs, Laid Z a0 C f.1 f.2.1 f.2.2.1 ∧ ∃ ty, parseFieldDescriptor f.2.2.1 = some ty ∧ f.2.2.2 = defaultValue ty
  | [], _, _, q => nomatch q
  | _ :: r, L, f, q => (List.mem_cons.mp q).elim (fun e => e ▸ L.1) (LaidL.mem r L.2 f)
theorem LaidL.keys {a0 : Array Value} (L : LaidL Z a0 C fs) (hn : (fs.map fun f => f.2.1).Nodup) : (fs.map (key Z)).Nodup := by
  have M := LaidL.mem fs L
  refine List.pairwise_iff_getElem.mpr fun x y hx hy hxy => ?_
  have hx' : x < fs.length := by simpa using hx
  have hy' : y < fs.length := by simpa using hy
  have q := List.pairwise_iff_getElem.mp hn x y (by simpa using hx') (by simpa using hy') hxy
  simp only [List.getElem_map] at q ⊢
  obtain ⟨L1, t1, p1, -⟩ := M fs[x] (List.getElem_mem hx')
  obtain ⟨L2, t2, p2, -⟩ := M fs[y] (List.getElem_mem hy')
  exact RoadKit.slot_ne L1 L2 q p1 p2
end Kn
/-! Where a run stands, and where it must come. -/
def ONow (p : Program) (l : Launch) (e : Env) (R : Room) (s : State) (m : MethodId) (args : Array Value) (below : List Frame) (meth : Method) (c : Code) (Z : State) (own : String) (cd : ByteArray) (ml : Nat) (ret : Option FieldType) (nm : String) (T : State) (cells slots : Nat) (K : List Ent) : Prop :=
  ∃ locs, Stand p l e R s m args below meth c T locs cells slots ∧ Fr Z.heap.size locs ∧ OKnow Z T.heap K ∧ p.tables.exec = Jvm.exec ∧ Z.Warmed39 s.vm ∧ c.code = cd ∧ c.maxLocals = ml ∧ s.vm.findClass own = some m.cls ∧ meth.sig.returnType = ret ∧ meth.name = nm ∧ meth.locks = false
def OGo (p : Program) (e : Env) (below : List Frame) (Φ : Outcome → State → Prop) (T : State) (g : JFrame) : Prop := ∃ U o, Steps p.tables e below (T.setTop g) U ∧ U.status = .running ∧ Ended U below o ∧ Φ o U
def OPost (Z s : State) (Q : Option Value → List Ent → Prop) (rm : Room) (o : Outcome) (U : State) : Prop := ∃ v L, o = .returned v ∧ (Fr Z.heap.size L ∧ ∃ K', OKnow Z U.heap K' ∧ Q v K') ∧ FrameEnd s o U L rm.cells rm.slots
def OMeets (l : Launch) (y : MethodName) (bytes : ByteArray) (maxL : Nat) (ret : Option FieldType) (rm : Room) (Z : State) (as : List Value) (K : List Ent) (Q : Option Value → List Ent → Prop) : Prop :=
  ∀ (ws : List Cond) (h : Heap), OKnow Z h K → MetFree l y (head1 (Cond.code y bytes maxL ret :: ws) rm) (fun a U => a = as.toArray ∧ Z.Warmed39 U.vm ∧ U.heap = h) (fun _ _ _ _ _ => True) (fun _ U o U' => ∃ v L, o = .returned v ∧ (Fr Z.heap.size L ∧ ∃ K', OKnow Z U'.heap K' ∧ Q v K') ∧ FrameEnd U o U' L rm.cells rm.slots)
section St
variable {p : Program} {l : Launch} {e : Env} {R : Room} {s : State} {m : MethodId} {args : Array Value} {below : List Frame} {meth : Method} {c : Code} {Z : State} {own : String} {cd : ByteArray} {ml : Nat} {ret : Option FieldType} {nm : String} {T : State} {cells slots : Nat} {K : List Ent} {Φ : Outcome → State → Prop} {pc : Nat} {Ls : Array Slot} {st : List Value} {a0 : Array Value}
theorem OMeets.of_body {y : MethodName} {bytes : ByteArray} {maxL : Nat} {rm : Room} {as : List Value} {Q : Option Value → List Ent → Prop} (hpl : plainFor y = true) (Ls : Array Slot) (hL : ∀ m : MethodId, entryFrame m as.toArray maxL = mkF m 0 Ls [])
    (body : ∀ p e s m below meth c T, ONow p l e rm s m as.toArray below meth c Z y.cls bytes maxL ret y.name T 0 0 K → OGo p e below (OPost Z s Q rm) T (mkF m 0 Ls [])) : OMeets l y bytes maxL ret rm Z as K Q := fun ws h hK => by
  refine MetFree.of_bodySF hpl hisR ?_
  intro p e s m args below meth c s₁ Bd hml0 hP _
  obtain ⟨rfl, hZ, hh⟩ := hP
  have X0 : Stand p l e rm s m as.toArray below meth c s₁ [] 0 0 := Stand.of_body Bd
  have e0 : s₁.heap = h := by rw [← hh, Bd.state]; rfl
  rw [hL m]
  exact body p e s m below meth c s₁ ⟨[], X0, Fr.nil _, by rw [e0]; exact hK, Bd.exec, hZ, Bd.bytes, hml0, findClass_of_methodNamed Bd.named, Bd.returns, (name_of_methodNamed Bd.named Bd.method).1, Bd.notSynchronized⟩
theorem OMeets.weak {y : MethodName} {bytes : ByteArray} {maxL : Nat} {rm : Room} {as : List Value} {Q Q' : Option Value → List Ent → Prop} (M : OMeets l y bytes maxL ret rm Z as K Q) (hq : ∀ v K', Q v K' → Q' v K') : OMeets l y bytes maxL ret rm Z as K Q' := fun ws h hK => by
  intro p e ha hc hk s m args below hf happ hP hK2
  obtain ⟨n, o, h1, h2, h3, v, L, h4, ⟨h5, K', h6, h7⟩, h8⟩ := M ws h hK p e ha hc hk s m args below hf happ hP hK2
  exact ⟨n, o, h1, h2, h3, v, L, h4, ⟨h5, K', h6, hq v K' h7⟩, h8⟩
theorem OGo.weak {Φ' : Outcome → State → Prop} {g : JFrame} (G : OGo p e below Φ T g) (hq : ∀ o U, Φ o U → Φ' o U) : OGo p e below Φ' T g := by
  obtain ⟨U, o, h1, h2, h3, h4⟩ := G
  exact ⟨U, o, h1, h2, h3, hq o U h4⟩
theorem ONow.sel {F F' rest : List Ent} (N : ONow p l e R s m args below meth c Z own cd ml ret nm T cells slots (F ++ rest)) (is : List Nat) (hn : is.Nodup) (hF : is.map (fun i => F[i]?) = F'.map some) : ONow p l e R s m args below meth c Z own cd ml ret nm T cells slots (F' ++ rest) := by
  obtain ⟨locs, X, n1, n2, n3⟩ := N
  exact ⟨locs, X, n1, n2.sel is hn hF, n3⟩
theorem ONow.cast {K' : List Ent} (N : ONow p l e R s m args below meth c Z own cd ml ret nm T cells slots K) (q : K = K') : ONow p l e R s m args below meth c Z own cd ml ret nm T cells slots K' := q ▸ N
theorem ONow.more {c' s' : Nat} (N : ONow p l e R s m args below meth c Z own cd ml ret nm T cells slots K) (h1 : cells ≤ c') (h2 : slots ≤ s') : ONow p l e R s m args below meth c Z own cd ml ret nm T c' s' K := by
  obtain ⟨locs, X, n⟩ := N
  exact ⟨locs, X.more h1 h2, n⟩
theorem k_iload (N : ONow p l e R s m args below meth c Z own cd ml ret nm T cells slots K) {k : Nat} {v : Int32} (hd : decode cd pc = .ok (.iload k, 2)) (hl : Ls[k]? = some (.val (.int v))) (hr : OGo p e below Φ T (mkF m (pc + 2) Ls (.int v :: st))) : OGo p e below Φ T (mkF m pc Ls st) := by
  obtain ⟨_, X, -, -, hx, -, hc, -⟩ := N
  obtain ⟨U, o, h1, h2⟩ := hr
  exact ⟨U, o, XS.iload X.here hx rfl (hb hc hd) hl h1, h2⟩
theorem k_iload_n (N : ONow p l e R s m args below meth c Z own cd ml ret nm T cells slots K) {k : Fin 4} {v : Int32} (hd : decode cd pc = .ok (.iload_n k, 1)) (hl : Ls[k.val]? = some (.val (.int v))) (hr : OGo p e below Φ T (mkF m (pc + 1) Ls (.int v :: st))) : OGo p e below Φ T (mkF m pc Ls st) := by
  obtain ⟨_, X, -, -, hx, -, hc, -⟩ := N
  obtain ⟨U, o, h1, h2⟩ := hr
  exact ⟨U, o, XS.iloadN X.here hx rfl (hb hc hd) hl h1, h2⟩
theorem k_istore (N : ONow p l e R s m args below meth c Z own cd ml ret nm T cells slots K) {k : Nat} {v : Int32} {Ls' : Array Slot} (hd : decode cd pc = .ok (.istore k, 2)) (hl : storeLocals Ls k (.int v) = some Ls') (hr : OGo p e below Φ T (mkF m (pc + 2) Ls' st)) : OGo p e below Φ T (mkF m pc Ls (.int v :: st)) := by
  obtain ⟨_, X, -, -, hx, -, hc, -⟩ := N
  obtain ⟨U, o, h1, h2⟩ := hr
  exact ⟨U, o, XS.istore X.here hx rfl (hb hc hd) rfl hl h1, h2⟩
theorem k_istore_n (N : ONow p l e R s m args below meth c Z own cd ml ret nm T cells slots K) {k : Fin 4} {v : Int32} {Ls' : Array Slot} (hd : decode cd pc = .ok (.istore_n k, 1)) (hl : storeLocals Ls k.val (.int v) = some Ls') (hr : OGo p e below Φ T (mkF m (pc + 1) Ls' st)) : OGo p e below Φ T (mkF m pc Ls (.int v :: st)) := by
  obtain ⟨_, X, -, -, hx, -, hc, -⟩ := N
  obtain ⟨U, o, h1, h2⟩ := hr
  exact ⟨U, o, XS.istoreN X.here hx rfl (hb hc hd) rfl hl h1, h2⟩
theorem k_lload (N : ONow p l e R s m args below meth c Z own cd ml ret nm T cells slots K) {k : Nat} {v : Int64} (hd : decode cd pc = .ok (.lload k, 2)) (hl : Ls[k]? = some (.val (.long v))) (hr : OGo p e below Φ T (mkF m (pc + 2) Ls (.long v :: st))) : OGo p e below Φ T (mkF m pc Ls st) := by
  obtain ⟨_, X, -, -, hx, -, hc, -⟩ := N
  obtain ⟨U, o, h1, h2⟩ := hr
  exact ⟨U, o, XT.lload X.here hx rfl (hb hc hd) hl h1, h2⟩
theorem k_lload_n (N : ONow p l e R s m args below meth c Z own cd ml ret nm T cells slots K) {k : Fin 4} {v : Int64} (hd : decode cd pc = .ok (.lload_n k, 1)) (hl : Ls[k.val]? = some (.val (.long v))) (hr : OGo p e below Φ T (mkF m (pc + 1) Ls (.long v :: st))) : OGo p e below Φ T (mkF m pc Ls st) := by
  obtain ⟨_, X, -, -, hx, -, hc, -⟩ := N
  obtain ⟨U, o, h1, h2⟩ := hr
  exact ⟨U, o, XT.lloadN X.here hx rfl (hb hc hd) hl h1, h2⟩
theorem k_lstore (N : ONow p l e R s m args below meth c Z own cd ml ret nm T cells slots K) {k : Nat} {v : Int64} {Ls' : Array Slot} (hd : decode cd pc = .ok (.lstore k, 2)) (hl : storeLocals Ls k (.long v) = some Ls') (hr : OGo p e below Φ T (mkF m (pc + 2) Ls' st)) : OGo p e below Φ T (mkF m pc Ls (.long v :: st)) := by
  obtain ⟨_, X, -, -, hx, -, hc, -⟩ := N
  obtain ⟨U, o, h1, h2⟩ := hr
  exact ⟨U, o, XT.lstore X.here hx rfl (hb hc hd) rfl hl h1, h2⟩
theorem k_lstore_n (N : ONow p l e R s m args below meth c Z own cd ml ret nm T cells slots K) {k : Fin 4} {v : Int64} {Ls' : Array Slot} (hd : decode cd pc = .ok (.lstore_n k, 1)) (hl : storeLocals Ls k.val (.long v) = some Ls') (hr : OGo p e below Φ T (mkF m (pc + 1) Ls' st)) : OGo p e below Φ T (mkF m pc Ls (.long v :: st)) := by
  obtain ⟨_, X, -, -, hx, -, hc, -⟩ := N
  obtain ⟨U, o, h1, h2⟩ := hr
  exact ⟨U, o, XT.lstoreN X.here hx rfl (hb hc hd) rfl hl h1, h2⟩
theorem k_dload (N : ONow p l e R s m args below meth c Z own cd ml ret nm T cells slots K) {k : Nat} {v : UInt64} (hd : decode cd pc = .ok (.dload k, 2)) (hl : Ls[k]? = some (.val (.double v))) (hr : OGo p e below Φ T (mkF m (pc + 2) Ls (.double v :: st))) : OGo p e below Φ T (mkF m pc Ls st) := by
  obtain ⟨_, X, -, -, hx, -, hc, -⟩ := N
  obtain ⟨U, o, h1, h2⟩ := hr
  exact ⟨U, o, XS.dload X.here hx rfl (hb hc hd) hl h1, h2⟩
theorem k_dload_n (N : ONow p l e R s m args below meth c Z own cd ml ret nm T cells slots K) {k : Fin 4} {v : UInt64} (hd : decode cd pc = .ok (.dload_n k, 1)) (hl : Ls[k.val]? = some (.val (.double v))) (hr : OGo p e below Φ T (mkF m (pc + 1) Ls (.double v :: st))) : OGo p e below Φ T (mkF m pc Ls st) := by
  obtain ⟨_, X, -, -, hx, -, hc, -⟩ := N
  obtain ⟨U, o, h1, h2⟩ := hr
  exact ⟨U, o, XS.dloadN X.here hx rfl (hb hc hd) hl h1, h2⟩
theorem k_dstore (N : ONow p l e R s m args below meth c Z own cd ml ret nm T cells slots K) {k : Nat} {v : UInt64} {Ls' : Array Slot} (hd : decode cd pc = .ok (.dstore k, 2)) (hl : storeLocals Ls k (.double v) = some Ls') (hr : OGo p e below Φ T (mkF m (pc + 2) Ls' st)) : OGo p e below Φ T (mkF m pc Ls (.double v :: st)) := by
  obtain ⟨_, X, -, -, hx, -, hc, -⟩ := N
  obtain ⟨U, o, h1, h2⟩ := hr
  exact ⟨U, o, XS.dstore X.here hx rfl (hb hc hd) rfl hl h1, h2⟩
theorem k_dstore_n (N : ONow p l e R s m args below meth c Z own cd ml ret nm T cells slots K) {k : Fin 4} {v : UInt64} {Ls' : Array Slot} (hd : decode cd pc = .ok (.dstore_n k, 1)) (hl : storeLocals Ls k.val (.double v) = some Ls') (hr : OGo p e below Φ T (mkF m (pc + 1) Ls' st)) : OGo p e below Φ T (mkF m pc Ls (.double v :: st)) := by
  obtain ⟨_, X, -, -, hx, -, hc, -⟩ := N
  obtain ⟨U, o, h1, h2⟩ := hr
  exact ⟨U, o, XS.dstoreN X.here hx rfl (hb hc hd) rfl hl h1, h2⟩
theorem k_aload (N : ONow p l e R s m args below meth c Z own cd ml ret nm T cells slots K) {k : Nat} {v : Value} (hd : decode cd pc = .ok (.aload k, 2)) (hl : Ls[k]? = some (.val v)) (hv : v.isRef = true) (hr : OGo p e below Φ T (mkF m (pc + 2) Ls (v :: st))) : OGo p e below Φ T (mkF m pc Ls st) := by
  obtain ⟨_, X, -, -, hx, -, hc, -⟩ := N
  obtain ⟨U, o, h1, h2⟩ := hr
  exact ⟨U, o, XS.aload X.here hx rfl (hb hc hd) hl hv h1, h2⟩
theorem k_aload_n (N : ONow p l e R s m args below meth c Z own cd ml ret nm T cells slots K) {k : Fin 4} {v : Value} (hd : decode cd pc = .ok (.aload_n k, 1)) (hl : Ls[k.val]? = some (.val v)) (hv : v.isRef = true) (hr : OGo p e below Φ T (mkF m (pc + 1) Ls (v :: st))) : OGo p e below Φ T (mkF m pc Ls st) := by
  obtain ⟨_, X, -, -, hx, -, hc, -⟩ := N
  obtain ⟨U, o, h1, h2⟩ := hr
  exact ⟨U, o, XS.aloadN X.here hx rfl (hb hc hd) hl hv h1, h2⟩
theorem k_astore (N : ONow p l e R s m args below meth c Z own cd ml ret nm T cells slots K) {k : Nat} {v : Value} {Ls' : Array Slot} (hd : decode cd pc = .ok (.astore k, 2)) (hv : v.isRef = true) (hl : storeLocals Ls k v = some Ls') (hr : OGo p e below Φ T (mkF m (pc + 2) Ls' st)) : OGo p e below Φ T (mkF m pc Ls (v :: st)) := by
  obtain ⟨_, X, -, -, hx, -, hc, -⟩ := N
  obtain ⟨U, o, h1, h2⟩ := hr
  exact ⟨U, o, XS.astore X.here hx rfl (hb hc hd) rfl hv hl h1, h2⟩
theorem k_astore_n (N : ONow p l e R s m args below meth c Z own cd ml ret nm T cells slots K) {k : Fin 4} {v : Value} {Ls' : Array Slot} (hd : decode cd pc = .ok (.astore_n k, 1)) (hv : v.isRef = true) (hl : storeLocals Ls k.val v = some Ls') (hr : OGo p e below Φ T (mkF m (pc + 1) Ls' st)) : OGo p e below Φ T (mkF m pc Ls (v :: st)) := by
  obtain ⟨_, X, -, -, hx, -, hc, -⟩ := N
  obtain ⟨U, o, h1, h2⟩ := hr
  exact ⟨U, o, XS.astoreN X.here hx rfl (hb hc hd) rfl hv hl h1, h2⟩
theorem k_iconst (N : ONow p l e R s m args below meth c Z own cd ml ret nm T cells slots K) {i : Int} {v : Int32} (hd : decode cd pc = .ok (.iconst i, 1)) (hv : Int32.ofInt i = v) (hr : OGo p e below Φ T (mkF m (pc + 1) Ls (.int v :: st))) : OGo p e below Φ T (mkF m pc Ls st) := by
  subst hv
  obtain ⟨_, X, -, -, hx, -, hc, -⟩ := N
  obtain ⟨U, o, h1, h2⟩ := hr
  exact ⟨U, o, XS.iconst X.here hx rfl (hb hc hd) h1, h2⟩
theorem k_bipush (N : ONow p l e R s m args below meth c Z own cd ml ret nm T cells slots K) {i : Int} {v : Int32} (hd : decode cd pc = .ok (.bipush i, 2)) (hv : (Int8.ofInt i).toInt32 = v) (hr : OGo p e below Φ T (mkF m (pc + 2) Ls (.int v :: st))) : OGo p e below Φ T (mkF m pc Ls st) := by
  subst hv
  obtain ⟨_, X, -, -, hx, -, hc, -⟩ := N
  obtain ⟨U, o, h1, h2⟩ := hr
  exact ⟨U, o, XS.bipush X.here hx rfl (hb hc hd) h1, h2⟩
theorem k_sipush (N : ONow p l e R s m args below meth c Z own cd ml ret nm T cells slots K) {i : Int} {v : Int32} (hd : decode cd pc = .ok (.sipush i, 3)) (hv : (Int16.ofInt i).toInt32 = v) (hr : OGo p e below Φ T (mkF m (pc + 3) Ls (.int v :: st))) : OGo p e below Φ T (mkF m pc Ls st) := by
  subst hv
  obtain ⟨_, X, -, -, hx, -, hc, -⟩ := N
  obtain ⟨U, o, h1, h2⟩ := hr
  exact ⟨U, o, XS.sipush X.here hx rfl (hb hc hd) h1, h2⟩
theorem k_lconst (N : ONow p l e R s m args below meth c Z own cd ml ret nm T cells slots K) {k : Fin 2} {v : Int64} (hd : decode cd pc = .ok (.lconst k, 1)) (hv : Int64.ofNat k = v) (hr : OGo p e below Φ T (mkF m (pc + 1) Ls (.long v :: st))) : OGo p e below Φ T (mkF m pc Ls st) := by
  subst hv
  obtain ⟨_, X, -, -, hx, -, hc, -⟩ := N
  obtain ⟨U, o, h1, h2⟩ := hr
  exact ⟨U, o, XT.lconst X.here hx rfl (hb hc hd) h1, h2⟩
theorem k_dconst0 (N : ONow p l e R s m args below meth c Z own cd ml ret nm T cells slots K) {v : UInt64} (hd : decode cd pc = .ok (.dconst 0, 1)) (hv : FP.dconst0 = v) (hr : OGo p e below Φ T (mkF m (pc + 1) Ls (.double v :: st))) : OGo p e below Φ T (mkF m pc Ls st) := by
  obtain ⟨_, X, -, -, hx, -, hc, -⟩ := N
  obtain ⟨U, o, h1, h2⟩ := hr
  exact ⟨U, o, XS.dconst0 X.here hx rfl (hb hc hd) hv h1, h2⟩
theorem k_dconst1 (N : ONow p l e R s m args below meth c Z own cd ml ret nm T cells slots K) {v : UInt64} (hd : decode cd pc = .ok (.dconst 1, 1)) (hv : FP.dconst1 = v) (hr : OGo p e below Φ T (mkF m (pc + 1) Ls (.double v :: st))) : OGo p e below Φ T (mkF m pc Ls st) := by
  obtain ⟨_, X, -, -, hx, -, hc, -⟩ := N
  obtain ⟨U, o, h1, h2⟩ := hr
  exact ⟨U, o, XS.dconst1 X.here hx rfl (hb hc hd) hv h1, h2⟩
theorem k_null (N : ONow p l e R s m args below meth c Z own cd ml ret nm T cells slots K) (hd : decode cd pc = .ok (.aconst_null, 1)) (hr : OGo p e below Φ T (mkF m (pc + 1) Ls (.null :: st))) : OGo p e below Φ T (mkF m pc Ls st) := by
  obtain ⟨_, X, -, -, hx, -, hc, -⟩ := N
  obtain ⟨U, o, h1, h2⟩ := hr
  exact ⟨U, o, XS.aconstNull X.here hx rfl (hb hc hd) h1, h2⟩
theorem k_iadd (N : ONow p l e R s m args below meth c Z own cd ml ret nm T cells slots K) {x y : Int32} (hd : decode cd pc = .ok (.iadd, 1)) (hr : OGo p e below Φ T (mkF m (pc + 1) Ls (.int (x + y) :: st))) : OGo p e below Φ T (mkF m pc Ls (.int y :: .int x :: st)) := by
  obtain ⟨_, X, -, -, hx, -, hc, -⟩ := N
  obtain ⟨U, o, h1, h2⟩ := hr
  exact ⟨U, o, XS.iadd X.here hx rfl (hb hc hd) rfl h1, h2⟩
theorem k_isub (N : ONow p l e R s m args below meth c Z own cd ml ret nm T cells slots K) {x y : Int32} (hd : decode cd pc = .ok (.isub, 1)) (hr : OGo p e below Φ T (mkF m (pc + 1) Ls (.int (x - y) :: st))) : OGo p e below Φ T (mkF m pc Ls (.int y :: .int x :: st)) := by
  obtain ⟨_, X, -, -, hx, -, hc, -⟩ := N
  obtain ⟨U, o, h1, h2⟩ := hr
  exact ⟨U, o, XS.isub X.here hx rfl (hb hc hd) rfl h1, h2⟩
theorem k_imul (N : ONow p l e R s m args below meth c Z own cd ml ret nm T cells slots K) {x y : Int32} (hd : decode cd pc = .ok (.imul, 1)) (hr : OGo p e below Φ T (mkF m (pc + 1) Ls (.int (x * y) :: st))) : OGo p e below Φ T (mkF m pc Ls (.int y :: .int x :: st)) := by
  obtain ⟨_, X, -, -, hx, -, hc, -⟩ := N
  obtain ⟨U, o, h1, h2⟩ := hr
  exact ⟨U, o, XS.imul X.here hx rfl (hb hc hd) rfl h1, h2⟩
theorem k_iand (N : ONow p l e R s m args below meth c Z own cd ml ret nm T cells slots K) {x y : Int32} (hd : decode cd pc = .ok (.iand, 1)) (hr : OGo p e below Φ T (mkF m (pc + 1) Ls (.int (x &&& y) :: st))) : OGo p e below Φ T (mkF m pc Ls (.int y :: .int x :: st)) := by
  obtain ⟨_, X, -, -, hx, -, hc, -⟩ := N
  obtain ⟨U, o, h1, h2⟩ := hr
  exact ⟨U, o, XS.iand X.here hx rfl (hb hc hd) rfl h1, h2⟩
theorem k_ixor (N : ONow p l e R s m args below meth c Z own cd ml ret nm T cells slots K) {x y : Int32} (hd : decode cd pc = .ok (.ixor, 1)) (hr : OGo p e below Φ T (mkF m (pc + 1) Ls (.int (x ^^^ y) :: st))) : OGo p e below Φ T (mkF m pc Ls (.int y :: .int x :: st)) := by
  obtain ⟨_, X, -, -, hx, -, hc, -⟩ := N
  obtain ⟨U, o, h1, h2⟩ := hr
  exact ⟨U, o, XT.ixor X.here hx rfl (hb hc hd) rfl h1, h2⟩
theorem k_ior (N : ONow p l e R s m args below meth c Z own cd ml ret nm T cells slots K) {x y : Int32} (hd : decode cd pc = .ok (.ior, 1)) (hr : OGo p e below Φ T (mkF m (pc + 1) Ls (.int (x ||| y) :: st))) : OGo p e below Φ T (mkF m pc Ls (.int y :: .int x :: st)) := by
  obtain ⟨_, X, -, -, hx, -, hc, -⟩ := N
  obtain ⟨U, o, h1, h2⟩ := hr
  exact ⟨U, o, XT.ior X.here hx rfl (hb hc hd) rfl h1, h2⟩
theorem k_ishl (N : ONow p l e R s m args below meth c Z own cd ml ret nm T cells slots K) {x y : Int32} (hd : decode cd pc = .ok (.ishl, 1)) (hr : OGo p e below Φ T (mkF m (pc + 1) Ls (.int (x <<< (y &&& 31)) :: st))) : OGo p e below Φ T (mkF m pc Ls (.int y :: .int x :: st)) := by
  obtain ⟨_, X, -, -, hx, -, hc, -⟩ := N
  obtain ⟨U, o, h1, h2⟩ := hr
  exact ⟨U, o, XT.ishl X.here hx rfl (hb hc hd) rfl h1, h2⟩
theorem k_ishr (N : ONow p l e R s m args below meth c Z own cd ml ret nm T cells slots K) {x y : Int32} (hd : decode cd pc = .ok (.ishr, 1)) (hr : OGo p e below Φ T (mkF m (pc + 1) Ls (.int (x >>> (y &&& 31)) :: st))) : OGo p e below Φ T (mkF m pc Ls (.int y :: .int x :: st)) := by
  obtain ⟨_, X, -, -, hx, -, hc, -⟩ := N
  obtain ⟨U, o, h1, h2⟩ := hr
  exact ⟨U, o, XT.ishr X.here hx rfl (hb hc hd) rfl h1, h2⟩
theorem k_iushr (N : ONow p l e R s m args below meth c Z own cd ml ret nm T cells slots K) {x y : Int32} (hd : decode cd pc = .ok (.iushr, 1)) (hr : OGo p e below Φ T (mkF m (pc + 1) Ls (.int (XT.ushr x y) :: st))) : OGo p e below Φ T (mkF m pc Ls (.int y :: .int x :: st)) := by
  obtain ⟨_, X, -, -, hx, -, hc, -⟩ := N
  obtain ⟨U, o, h1, h2⟩ := hr
  exact ⟨U, o, XT.iushr X.here hx rfl (hb hc hd) rfl h1, h2⟩
theorem k_idiv (N : ONow p l e R s m args below meth c Z own cd ml ret nm T cells slots K) {x y : Int32} (hd : decode cd pc = .ok (.idiv, 1)) (hy : y ≠ 0) (hr : OGo p e below Φ T (mkF m (pc + 1) Ls (.int (x / y) :: st))) : OGo p e below Φ T (mkF m pc Ls (.int y :: .int x :: st)) := by
  obtain ⟨_, X, -, -, hx, -, hc, -⟩ := N
  obtain ⟨U, o, h1, h2⟩ := hr
  exact ⟨U, o, XS.idiv X.here hx rfl (hb hc hd) rfl hy h1, h2⟩
theorem k_irem (N : ONow p l e R s m args below meth c Z own cd ml ret nm T cells slots K) {x y : Int32} (hd : decode cd pc = .ok (.irem, 1)) (hy : y ≠ 0) (hr : OGo p e below Φ T (mkF m (pc + 1) Ls (.int (x % y) :: st))) : OGo p e below Φ T (mkF m pc Ls (.int y :: .int x :: st)) := by
  obtain ⟨_, X, -, -, hx, -, hc, -⟩ := N
  obtain ⟨U, o, h1, h2⟩ := hr
  exact ⟨U, o, iremM X hx rfl (hb hc hd) rfl hy h1, h2⟩
theorem k_ineg (N : ONow p l e R s m args below meth c Z own cd ml ret nm T cells slots K) {x : Int32} (hd : decode cd pc = .ok (.ineg, 1)) (hr : OGo p e below Φ T (mkF m (pc + 1) Ls (.int (-x) :: st))) : OGo p e below Φ T (mkF m pc Ls (.int x :: st)) := by
  obtain ⟨_, X, -, -, hx, -, hc, -⟩ := N
  obtain ⟨U, o, h1, h2⟩ := hr
  exact ⟨U, o, XS.ineg X.here hx rfl (hb hc hd) rfl h1, h2⟩
theorem k_ladd (N : ONow p l e R s m args below meth c Z own cd ml ret nm T cells slots K) {x y : Int64} (hd : decode cd pc = .ok (.ladd, 1)) (hr : OGo p e below Φ T (mkF m (pc + 1) Ls (.long (x + y) :: st))) : OGo p e below Φ T (mkF m pc Ls (.long y :: .long x :: st)) := by
  obtain ⟨_, X, -, -, hx, -, hc, -⟩ := N
  obtain ⟨U, o, h1, h2⟩ := hr
  exact ⟨U, o, XT.ladd X.here hx rfl (hb hc hd) rfl h1, h2⟩
theorem k_lsub (N : ONow p l e R s m args below meth c Z own cd ml ret nm T cells slots K) {x y : Int64} (hd : decode cd pc = .ok (.lsub, 1)) (hr : OGo p e below Φ T (mkF m (pc + 1) Ls (.long (x - y) :: st))) : OGo p e below Φ T (mkF m pc Ls (.long y :: .long x :: st)) := by
  obtain ⟨_, X, -, -, hx, -, hc, -⟩ := N
  obtain ⟨U, o, h1, h2⟩ := hr
  exact ⟨U, o, XT.lsub X.here hx rfl (hb hc hd) rfl h1, h2⟩
theorem k_lmul (N : ONow p l e R s m args below meth c Z own cd ml ret nm T cells slots K) {x y : Int64} (hd : decode cd pc = .ok (.lmul, 1)) (hr : OGo p e below Φ T (mkF m (pc + 1) Ls (.long (x * y) :: st))) : OGo p e below Φ T (mkF m pc Ls (.long y :: .long x :: st)) := by
  obtain ⟨_, X, -, -, hx, -, hc, -⟩ := N
  obtain ⟨U, o, h1, h2⟩ := hr
  exact ⟨U, o, XT.lmul X.here hx rfl (hb hc hd) rfl h1, h2⟩
theorem k_land (N : ONow p l e R s m args below meth c Z own cd ml ret nm T cells slots K) {x y : Int64} (hd : decode cd pc = .ok (.land, 1)) (hr : OGo p e below Φ T (mkF m (pc + 1) Ls (.long (x &&& y) :: st))) : OGo p e below Φ T (mkF m pc Ls (.long y :: .long x :: st)) := by
  obtain ⟨_, X, -, -, hx, -, hc, -⟩ := N
  obtain ⟨U, o, h1, h2⟩ := hr
  exact ⟨U, o, XT.land X.here hx rfl (hb hc hd) rfl h1, h2⟩
theorem k_lor (N : ONow p l e R s m args below meth c Z own cd ml ret nm T cells slots K) {x y : Int64} (hd : decode cd pc = .ok (.lor, 1)) (hr : OGo p e below Φ T (mkF m (pc + 1) Ls (.long (x ||| y) :: st))) : OGo p e below Φ T (mkF m pc Ls (.long y :: .long x :: st)) := by
  obtain ⟨_, X, -, -, hx, -, hc, -⟩ := N
  obtain ⟨U, o, h1, h2⟩ := hr
  exact ⟨U, o, XT.lor X.here hx rfl (hb hc hd) rfl h1, h2⟩
theorem k_lxor (N : ONow p l e R s m args below meth c Z own cd ml ret nm T cells slots K) {x y : Int64} (hd : decode cd pc = .ok (.lxor, 1)) (hr : OGo p e below Φ T (mkF m (pc + 1) Ls (.long (x ^^^ y) :: st))) : OGo p e below Φ T (mkF m pc Ls (.long y :: .long x :: st)) := by
  obtain ⟨_, X, -, -, hx, -, hc, -⟩ := N
  obtain ⟨U, o, h1, h2⟩ := hr
  exact ⟨U, o, XT.lxor X.here hx rfl (hb hc hd) rfl h1, h2⟩
theorem k_lshl (N : ONow p l e R s m args below meth c Z own cd ml ret nm T cells slots K) {x : Int64} {y : Int32} (hd : decode cd pc = .ok (.lshl, 1)) (hr : OGo p e below Φ T (mkF m (pc + 1) Ls (.long (x <<< (y.toInt64 &&& 63)) :: st))) : OGo p e below Φ T (mkF m pc Ls (.int y :: .long x :: st)) := by
  obtain ⟨_, X, -, -, hx, -, hc, -⟩ := N
  obtain ⟨U, o, h1, h2⟩ := hr
  exact ⟨U, o, XT.lshl X.here hx rfl (hb hc hd) rfl h1, h2⟩
theorem k_lshr (N : ONow p l e R s m args below meth c Z own cd ml ret nm T cells slots K) {x : Int64} {y : Int32} (hd : decode cd pc = .ok (.lshr, 1)) (hr : OGo p e below Φ T (mkF m (pc + 1) Ls (.long (x >>> (y.toInt64 &&& 63)) :: st))) : OGo p e below Φ T (mkF m pc Ls (.int y :: .long x :: st)) := by
  obtain ⟨_, X, -, -, hx, -, hc, -⟩ := N
  obtain ⟨U, o, h1, h2⟩ := hr
  exact ⟨U, o, XT.lshr X.here hx rfl (hb hc hd) rfl h1, h2⟩
theorem k_lushr (N : ONow p l e R s m args below meth c Z own cd ml ret nm T cells slots K) {x : Int64} {y : Int32} (hd : decode cd pc = .ok (.lushr, 1)) (hr : OGo p e below Φ T (mkF m (pc + 1) Ls (.long (XT.ushrL x y) :: st))) : OGo p e below Φ T (mkF m pc Ls (.int y :: .long x :: st)) := by
  obtain ⟨_, X, -, -, hx, -, hc, -⟩ := N
  obtain ⟨U, o, h1, h2⟩ := hr
  exact ⟨U, o, XT.lushr X.here hx rfl (hb hc hd) rfl h1, h2⟩
theorem k_lcmp (N : ONow p l e R s m args below meth c Z own cd ml ret nm T cells slots K) {x y : Int64} (hd : decode cd pc = .ok (.lcmp, 1)) (hr : OGo p e below Φ T (mkF m (pc + 1) Ls (.int (XT.cmpL x y) :: st))) : OGo p e below Φ T (mkF m pc Ls (.long y :: .long x :: st)) := by
  obtain ⟨_, X, -, -, hx, -, hc, -⟩ := N
  obtain ⟨U, o, h1, h2⟩ := hr
  exact ⟨U, o, XT.lcmp X.here hx rfl (hb hc hd) rfl h1, h2⟩
theorem k_i2l (N : ONow p l e R s m args below meth c Z own cd ml ret nm T cells slots K) {x : Int32} (hd : decode cd pc = .ok (.i2l, 1)) (hr : OGo p e below Φ T (mkF m (pc + 1) Ls (.long x.toInt64 :: st))) : OGo p e below Φ T (mkF m pc Ls (.int x :: st)) := by
  obtain ⟨_, X, -, -, hx, -, hc, -⟩ := N
  obtain ⟨U, o, h1, h2⟩ := hr
  exact ⟨U, o, XT.i2l X.here hx rfl (hb hc hd) rfl h1, h2⟩
theorem k_l2i (N : ONow p l e R s m args below meth c Z own cd ml ret nm T cells slots K) {x : Int64} (hd : decode cd pc = .ok (.l2i, 1)) (hr : OGo p e below Φ T (mkF m (pc + 1) Ls (.int x.toInt32 :: st))) : OGo p e below Φ T (mkF m pc Ls (.long x :: st)) := by
  obtain ⟨_, X, -, -, hx, -, hc, -⟩ := N
  obtain ⟨U, o, h1, h2⟩ := hr
  exact ⟨U, o, XT.l2i X.here hx rfl (hb hc hd) rfl h1, h2⟩
theorem k_i2b (N : ONow p l e R s m args below meth c Z own cd ml ret nm T cells slots K) {x : Int32} (hd : decode cd pc = .ok (.i2b, 1)) (hr : OGo p e below Φ T (mkF m (pc + 1) Ls (.int x.toInt8.toInt32 :: st))) : OGo p e below Φ T (mkF m pc Ls (.int x :: st)) := by
  obtain ⟨_, X, -, -, hx, -, hc, -⟩ := N
  obtain ⟨U, o, h1, h2⟩ := hr
  exact ⟨U, o, XT.i2b X.here hx rfl (hb hc hd) rfl h1, h2⟩
theorem k_i2c (N : ONow p l e R s m args below meth c Z own cd ml ret nm T cells slots K) {x : Int32} (hd : decode cd pc = .ok (.i2c, 1)) (hr : OGo p e below Φ T (mkF m (pc + 1) Ls (.int x.toUInt32.toUInt16.toUInt32.toInt32 :: st))) : OGo p e below Φ T (mkF m pc Ls (.int x :: st)) := by
  obtain ⟨_, X, -, -, hx, -, hc, -⟩ := N
  obtain ⟨U, o, h1, h2⟩ := hr
  exact ⟨U, o, XT.i2c X.here hx rfl (hb hc hd) rfl h1, h2⟩
theorem k_i2s (N : ONow p l e R s m args below meth c Z own cd ml ret nm T cells slots K) {x : Int32} (hd : decode cd pc = .ok (.i2s, 1)) (hr : OGo p e below Φ T (mkF m (pc + 1) Ls (.int x.toInt16.toInt32 :: st))) : OGo p e below Φ T (mkF m pc Ls (.int x :: st)) := by
  obtain ⟨_, X, -, -, hx, -, hc, -⟩ := N
  obtain ⟨U, o, h1, h2⟩ := hr
  exact ⟨U, o, XT.i2s X.here hx rfl (hb hc hd) rfl h1, h2⟩
theorem k_i2d (N : ONow p l e R s m args below meth c Z own cd ml ret nm T cells slots K) {x : Int32} (hd : decode cd pc = .ok (.i2d, 1)) (hr : OGo p e below Φ T (mkF m (pc + 1) Ls (.double (FP.i2d x) :: st))) : OGo p e below Φ T (mkF m pc Ls (.int x :: st)) := by
  obtain ⟨_, X, -, -, hx, -, hc, -⟩ := N
  obtain ⟨U, o, h1, h2⟩ := hr
  exact ⟨U, o, XS.i2dS X.here hx rfl (hb hc hd) rfl rfl h1, h2⟩
theorem k_l2d (N : ONow p l e R s m args below meth c Z own cd ml ret nm T cells slots K) {x : Int64} (hd : decode cd pc = .ok (.l2d, 1)) (hr : OGo p e below Φ T (mkF m (pc + 1) Ls (.double (FP.l2d x) :: st))) : OGo p e below Φ T (mkF m pc Ls (.long x :: st)) := by
  obtain ⟨_, X, -, -, hx, -, hc, -⟩ := N
  obtain ⟨U, o, h1, h2⟩ := hr
  exact ⟨U, o, XS.l2dS X.here hx rfl (hb hc hd) rfl rfl h1, h2⟩
theorem k_d2i (N : ONow p l e R s m args below meth c Z own cd ml ret nm T cells slots K) {x : UInt64} (hd : decode cd pc = .ok (.d2i, 1)) (hr : OGo p e below Φ T (mkF m (pc + 1) Ls (.int (FP.d2i x) :: st))) : OGo p e below Φ T (mkF m pc Ls (.double x :: st)) := by
  obtain ⟨_, X, -, -, hx, -, hc, -⟩ := N
  obtain ⟨U, o, h1, h2⟩ := hr
  exact ⟨U, o, XS.d2iS X.here hx rfl (hb hc hd) rfl rfl h1, h2⟩
theorem k_d2l (N : ONow p l e R s m args below meth c Z own cd ml ret nm T cells slots K) {x : UInt64} (hd : decode cd pc = .ok (.d2l, 1)) (hr : OGo p e below Φ T (mkF m (pc + 1) Ls (.long (FP.d2l x) :: st))) : OGo p e below Φ T (mkF m pc Ls (.double x :: st)) := by
  obtain ⟨_, X, -, -, hx, -, hc, -⟩ := N
  obtain ⟨U, o, h1, h2⟩ := hr
  exact ⟨U, o, XS.d2lS X.here hx rfl (hb hc hd) rfl rfl h1, h2⟩
theorem k_dneg (N : ONow p l e R s m args below meth c Z own cd ml ret nm T cells slots K) {x : UInt64} (hd : decode cd pc = .ok (.dneg, 1)) (hr : OGo p e below Φ T (mkF m (pc + 1) Ls (.double (FP.dneg x) :: st))) : OGo p e below Φ T (mkF m pc Ls (.double x :: st)) := by
  obtain ⟨_, X, -, -, hx, -, hc, -⟩ := N
  obtain ⟨U, o, h1, h2⟩ := hr
  exact ⟨U, o, XS.dnegS X.here hx rfl (hb hc hd) rfl rfl h1, h2⟩
theorem k_dadd (N : ONow p l e R s m args below meth c Z own cd ml ret nm T cells slots K) {x y v : UInt64} (hd : decode cd pc = .ok (.dadd, 1)) (hn : Jvm.Free.Fl.NoNaN64 (FP.dadd x y)) (hv : FP.dadd x y = v) (hr : OGo p e below Φ T (mkF m (pc + 1) Ls (.double v :: st))) : OGo p e below Φ T (mkF m pc Ls (.double y :: .double x :: st)) := by
  obtain ⟨_, X, -, -, hx, -, hc, -⟩ := N
  obtain ⟨U, o, h1, h2⟩ := hr
  exact ⟨U, o, XS.daddS X.here hx rfl (hb hc hd) rfl hn hv h1, h2⟩
theorem k_dsub (N : ONow p l e R s m args below meth c Z own cd ml ret nm T cells slots K) {x y v : UInt64} (hd : decode cd pc = .ok (.dsub, 1)) (hn : Jvm.Free.Fl.NoNaN64 (FP.dsub x y)) (hv : FP.dsub x y = v) (hr : OGo p e below Φ T (mkF m (pc + 1) Ls (.double v :: st))) : OGo p e below Φ T (mkF m pc Ls (.double y :: .double x :: st)) := by
  obtain ⟨_, X, -, -, hx, -, hc, -⟩ := N
  obtain ⟨U, o, h1, h2⟩ := hr
  exact ⟨U, o, XS.dsubS X.here hx rfl (hb hc hd) rfl hn hv h1, h2⟩
theorem k_dmul (N : ONow p l e R s m args below meth c Z own cd ml ret nm T cells slots K) {x y v : UInt64} (hd : decode cd pc = .ok (.dmul, 1)) (hn : Jvm.Free.Fl.NoNaN64 (FP.dmul x y)) (hv : FP.dmul x y = v) (hr : OGo p e below Φ T (mkF m (pc + 1) Ls (.double v :: st))) : OGo p e below Φ T (mkF m pc Ls (.double y :: .double x :: st)) := by
  obtain ⟨_, X, -, -, hx, -, hc, -⟩ := N
  obtain ⟨U, o, h1, h2⟩ := hr
  exact ⟨U, o, XS.dmulS X.here hx rfl (hb hc hd) rfl hn hv h1, h2⟩
theorem k_ddiv (N : ONow p l e R s m args below meth c Z own cd ml ret nm T cells slots K) {x y v : UInt64} (hd : decode cd pc = .ok (.ddiv, 1)) (hn : Jvm.Free.Fl.NoNaN64 (FP.ddiv x y)) (hv : FP.ddiv x y = v) (hr : OGo p e below Φ T (mkF m (pc + 1) Ls (.double v :: st))) : OGo p e below Φ T (mkF m pc Ls (.double y :: .double x :: st)) := by
  obtain ⟨_, X, -, -, hx, -, hc, -⟩ := N
  obtain ⟨U, o, h1, h2⟩ := hr
  exact ⟨U, o, XS.ddivS X.here hx rfl (hb hc hd) rfl hn hv h1, h2⟩
theorem k_dcmp (N : ONow p l e R s m args below meth c Z own cd ml ret nm T cells slots K) {k : CmpOp} {x y : UInt64} {v : Int32} (hd : decode cd pc = .ok (.dcmp k, 1)) (hv : cmpValue (FP.dcmp x y) k = v) (hr : OGo p e below Φ T (mkF m (pc + 1) Ls (.int v :: st))) : OGo p e below Φ T (mkF m pc Ls (.double y :: .double x :: st)) := by
  obtain ⟨_, X, -, -, hx, -, hc, -⟩ := N
  obtain ⟨U, o, h1, h2⟩ := hr
  exact ⟨U, o, XS.dcmpS X.here hx rfl (hb hc hd) rfl hv h1, h2⟩
theorem k_pop (N : ONow p l e R s m args below meth c Z own cd ml ret nm T cells slots K) {x : Value} (hd : decode cd pc = .ok (.pop, 1)) (hk1 : x.category = 1) (hr : OGo p e below Φ T (mkF m (pc + 1) Ls st)) : OGo p e below Φ T (mkF m pc Ls (x :: st)) := by
  obtain ⟨_, X, -, -, hx, -, hc, -⟩ := N
  obtain ⟨U, o, h1, h2⟩ := hr
  exact ⟨U, o, XT.pop X.here hx rfl (hb hc hd) rfl hk1 h1, h2⟩
theorem k_dup (N : ONow p l e R s m args below meth c Z own cd ml ret nm T cells slots K) {x : Value} (hd : decode cd pc = .ok (.dup, 1)) (hk1 : x.category = 1) (hr : OGo p e below Φ T (mkF m (pc + 1) Ls (x :: x :: st))) : OGo p e below Φ T (mkF m pc Ls (x :: st)) := by
  obtain ⟨_, X, -, -, hx, -, hc, -⟩ := N
  obtain ⟨U, o, h1, h2⟩ := hr
  exact ⟨U, o, XS.dup X.here hx rfl (hb hc hd) rfl hk1 h1, h2⟩
theorem k_dup_x1 (N : ONow p l e R s m args below meth c Z own cd ml ret nm T cells slots K) {x y : Value} (hd : decode cd pc = .ok (.dup_x1, 1)) (hk1 : x.category = 1) (hk2 : y.category = 1) (hr : OGo p e below Φ T (mkF m (pc + 1) Ls (x :: y :: x :: st))) : OGo p e below Φ T (mkF m pc Ls (x :: y :: st)) := by
  obtain ⟨_, X, -, -, hx, -, hc, -⟩ := N
  obtain ⟨U, o, h1, h2⟩ := hr
  exact ⟨U, o, XT.dupX1 X.here hx rfl (hb hc hd) rfl hk1 hk2 h1, h2⟩
theorem k_dup2 (N : ONow p l e R s m args below meth c Z own cd ml ret nm T cells slots K) {x y : Value} (hd : decode cd pc = .ok (.dup2, 1)) (hk1 : x.category = 1) (hk2 : y.category = 1) (hr : OGo p e below Φ T (mkF m (pc + 1) Ls (x :: y :: x :: y :: st))) : OGo p e below Φ T (mkF m pc Ls (x :: y :: st)) := by
  obtain ⟨_, X, -, -, hx, -, hc, -⟩ := N
  obtain ⟨U, o, h1, h2⟩ := hr
  exact ⟨U, o, XT.dup2 X.here hx rfl (hb hc hd) rfl hk1 hk2 h1, h2⟩
theorem k_iinc (N : ONow p l e R s m args below meth c Z own cd ml ret nm T cells slots K) {k : Nat} {i : Int} {x v : Int32} {Ls' : Array Slot} (hd : decode cd pc = .ok (.iinc k i, 3)) (hl : Ls[k]? = some (.val (.int x))) (hv : x + Int32.ofInt i = v) (hl' : storeLocals Ls k (.int v) = some Ls') (hr : OGo p e below Φ T (mkF m (pc + 3) Ls' st)) : OGo p e below Φ T (mkF m pc Ls st) := by
  subst hv
  obtain ⟨_, X, -, -, hx, -, hc, -⟩ := N
  obtain ⟨U, o, h1, h2⟩ := hr
  exact ⟨U, o, XS.iinc X.here hx rfl (hb hc hd) hl hl' h1, h2⟩
theorem k_goto (N : ONow p l e R s m args below meth c Z own cd ml ret nm T cells slots K) {i : Int} {pc' : Nat} (hd : decode cd pc = .ok (.goto i, 3)) (hp : 0 ≤ (pc : Int) + i ∧ ((pc : Int) + i).toNat = pc') (hr : OGo p e below Φ T (mkF m pc' Ls st)) : OGo p e below Φ T (mkF m pc Ls st) := by
  obtain ⟨_, X, -, -, hx, -, hc, -⟩ := N
  obtain ⟨U, o, h1, h2⟩ := hr
  exact ⟨U, o, XS.goto X.here hx rfl rfl (hb hc hd) hp.1 hp.2 h1, h2⟩
theorem k_if_eq (N : ONow p l e R s m args below meth c Z own cd ml ret nm T cells slots K) {x : Int32} {i : Int} {pc' : Nat} (hd : decode cd pc = .ok (.ifCond .eq i, 3)) (hp : 0 ≤ (pc : Int) + i ∧ ((pc : Int) + i).toNat = pc') (h1 : x = 0 → OGo p e below Φ T (mkF m pc' Ls st)) (h2 : ¬ x = 0 → OGo p e below Φ T (mkF m (pc + 3) Ls st)) : OGo p e below Φ T (mkF m pc Ls (.int x :: st)) := by
  obtain ⟨_, X, -, -, hx, -, hc, -⟩ := N
  by_cases q : x = 0
  · obtain ⟨U, o, g1, g2⟩ := h1 q
    exact ⟨U, o, XS.ifYes X.here hx rfl rfl (hb hc hd) rfl (XT.i0_eq_t q) hp.1 hp.2 g1, g2⟩
  · obtain ⟨U, o, g1, g2⟩ := h2 q
    exact ⟨U, o, XS.ifNo X.here hx rfl (hb hc hd) rfl (XT.i0_eq_f q) g1, g2⟩
theorem k_if_ne (N : ONow p l e R s m args below meth c Z own cd ml ret nm T cells slots K) {x : Int32} {i : Int} {pc' : Nat} (hd : decode cd pc = .ok (.ifCond .ne i, 3)) (hp : 0 ≤ (pc : Int) + i ∧ ((pc : Int) + i).toNat = pc') (h1 : ¬ x = 0 → OGo p e below Φ T (mkF m pc' Ls st)) (h2 : x = 0 → OGo p e below Φ T (mkF m (pc + 3) Ls st)) : OGo p e below Φ T (mkF m pc Ls (.int x :: st)) := by
  obtain ⟨_, X, -, -, hx, -, hc, -⟩ := N
  by_cases q : ¬ x = 0
  · obtain ⟨U, o, g1, g2⟩ := h1 q
    exact ⟨U, o, XS.ifYes X.here hx rfl rfl (hb hc hd) rfl (XT.i0_ne_t q) hp.1 hp.2 g1, g2⟩
  · obtain ⟨U, o, g1, g2⟩ := h2 (Decidable.not_not.mp q)
    exact ⟨U, o, XS.ifNo X.here hx rfl (hb hc hd) rfl (XT.i0_ne_f (Decidable.not_not.mp q)) g1, g2⟩
theorem k_if_lt (N : ONow p l e R s m args below meth c Z own cd ml ret nm T cells slots K) {x : Int32} {i : Int} {pc' : Nat} (hd : decode cd pc = .ok (.ifCond .lt i, 3)) (hp : 0 ≤ (pc : Int) + i ∧ ((pc : Int) + i).toNat = pc') (h1 : x < 0 → OGo p e below Φ T (mkF m pc' Ls st)) (h2 : ¬ x < 0 → OGo p e below Φ T (mkF m (pc + 3) Ls st)) : OGo p e below Φ T (mkF m pc Ls (.int x :: st)) := by
  obtain ⟨_, X, -, -, hx, -, hc, -⟩ := N
  by_cases q : x < 0
  · obtain ⟨U, o, g1, g2⟩ := h1 q
    exact ⟨U, o, XS.ifYes X.here hx rfl rfl (hb hc hd) rfl (XT.i0_lt_t q) hp.1 hp.2 g1, g2⟩
  · obtain ⟨U, o, g1, g2⟩ := h2 q
    exact ⟨U, o, XS.ifNo X.here hx rfl (hb hc hd) rfl (XT.i0_lt_f q) g1, g2⟩
theorem k_if_ge (N : ONow p l e R s m args below meth c Z own cd ml ret nm T cells slots K) {x : Int32} {i : Int} {pc' : Nat} (hd : decode cd pc = .ok (.ifCond .ge i, 3)) (hp : 0 ≤ (pc : Int) + i ∧ ((pc : Int) + i).toNat = pc') (h1 : ¬ x < 0 → OGo p e below Φ T (mkF m pc' Ls st)) (h2 : x < 0 → OGo p e below Φ T (mkF m (pc + 3) Ls st)) : OGo p e below Φ T (mkF m pc Ls (.int x :: st)) := by
  obtain ⟨_, X, -, -, hx, -, hc, -⟩ := N
  by_cases q : ¬ x < 0
  · obtain ⟨U, o, g1, g2⟩ := h1 q
    exact ⟨U, o, XS.ifYes X.here hx rfl rfl (hb hc hd) rfl (XT.i0_ge_t q) hp.1 hp.2 g1, g2⟩
  · obtain ⟨U, o, g1, g2⟩ := h2 (Decidable.not_not.mp q)
    exact ⟨U, o, XS.ifNo X.here hx rfl (hb hc hd) rfl (XT.i0_ge_f (Decidable.not_not.mp q)) g1, g2⟩
theorem k_if_gt (N : ONow p l e R s m args below meth c Z own cd ml ret nm T cells slots K) {x : Int32} {i : Int} {pc' : Nat} (hd : decode cd pc = .ok (.ifCond .gt i, 3)) (hp : 0 ≤ (pc : Int) + i ∧ ((pc : Int) + i).toNat = pc') (h1 : 0 < x → OGo p e below Φ T (mkF m pc' Ls st)) (h2 : ¬ 0 < x → OGo p e below Φ T (mkF m (pc + 3) Ls st)) : OGo p e below Φ T (mkF m pc Ls (.int x :: st)) := by
  obtain ⟨_, X, -, -, hx, -, hc, -⟩ := N
  by_cases q : 0 < x
  · obtain ⟨U, o, g1, g2⟩ := h1 q
    exact ⟨U, o, XS.ifYes X.here hx rfl rfl (hb hc hd) rfl (XT.i0_gt_t q) hp.1 hp.2 g1, g2⟩
  · obtain ⟨U, o, g1, g2⟩ := h2 q
    exact ⟨U, o, XS.ifNo X.here hx rfl (hb hc hd) rfl (XT.i0_gt_f q) g1, g2⟩
theorem k_if_le (N : ONow p l e R s m args below meth c Z own cd ml ret nm T cells slots K) {x : Int32} {i : Int} {pc' : Nat} (hd : decode cd pc = .ok (.ifCond .le i, 3)) (hp : 0 ≤ (pc : Int) + i ∧ ((pc : Int) + i).toNat = pc') (h1 : ¬ 0 < x → OGo p e below Φ T (mkF m pc' Ls st)) (h2 : 0 < x → OGo p e below Φ T (mkF m (pc + 3) Ls st)) : OGo p e below Φ T (mkF m pc Ls (.int x :: st)) := by
  obtain ⟨_, X, -, -, hx, -, hc, -⟩ := N
  by_cases q : ¬ 0 < x
  · obtain ⟨U, o, g1, g2⟩ := h1 q
    exact ⟨U, o, XS.ifYes X.here hx rfl rfl (hb hc hd) rfl (XT.i0_le_t q) hp.1 hp.2 g1, g2⟩
  · obtain ⟨U, o, g1, g2⟩ := h2 (Decidable.not_not.mp q)
    exact ⟨U, o, XS.ifNo X.here hx rfl (hb hc hd) rfl (XT.i0_le_f (Decidable.not_not.mp q)) g1, g2⟩
theorem k_icmp_eq (N : ONow p l e R s m args below meth c Z own cd ml ret nm T cells slots K) {x y : Int32} {i : Int} {pc' : Nat} (hd : decode cd pc = .ok (.if_icmp .eq i, 3)) (hp : 0 ≤ (pc : Int) + i ∧ ((pc : Int) + i).toNat = pc') (h1 : x = y → OGo p e below Φ T (mkF m pc' Ls st)) (h2 : ¬ x = y → OGo p e below Φ T (mkF m (pc + 3) Ls st)) : OGo p e below Φ T (mkF m pc Ls (.int y :: .int x :: st)) := by
  obtain ⟨_, X, -, -, hx, -, hc, -⟩ := N
  by_cases q : x = y
  · obtain ⟨U, o, g1, g2⟩ := h1 q
    exact ⟨U, o, XS.icmpYes X.here hx rfl rfl (hb hc hd) rfl (XT.ii_eq_t q) hp.1 hp.2 g1, g2⟩
  · obtain ⟨U, o, g1, g2⟩ := h2 q
    exact ⟨U, o, XS.icmpNo X.here hx rfl (hb hc hd) rfl (XT.ii_eq_f q) g1, g2⟩
theorem k_icmp_ne (N : ONow p l e R s m args below meth c Z own cd ml ret nm T cells slots K) {x y : Int32} {i : Int} {pc' : Nat} (hd : decode cd pc = .ok (.if_icmp .ne i, 3)) (hp : 0 ≤ (pc : Int) + i ∧ ((pc : Int) + i).toNat = pc') (h1 : ¬ x = y → OGo p e below Φ T (mkF m pc' Ls st)) (h2 : x = y → OGo p e below Φ T (mkF m (pc + 3) Ls st)) : OGo p e below Φ T (mkF m pc Ls (.int y :: .int x :: st)) := by
  obtain ⟨_, X, -, -, hx, -, hc, -⟩ := N
  by_cases q : ¬ x = y
  · obtain ⟨U, o, g1, g2⟩ := h1 q
    exact ⟨U, o, XS.icmpYes X.here hx rfl rfl (hb hc hd) rfl (XT.ii_ne_t q) hp.1 hp.2 g1, g2⟩
  · obtain ⟨U, o, g1, g2⟩ := h2 (Decidable.not_not.mp q)
    exact ⟨U, o, XS.icmpNo X.here hx rfl (hb hc hd) rfl (XT.ii_ne_f (Decidable.not_not.mp q)) g1, g2⟩
theorem k_icmp_lt (N : ONow p l e R s m args below meth c Z own cd ml ret nm T cells slots K) {x y : Int32} {i : Int} {pc' : Nat} (hd : decode cd pc = .ok (.if_icmp .lt i, 3)) (hp : 0 ≤ (pc : Int) + i ∧ ((pc : Int) + i).toNat = pc') (h1 : x < y → OGo p e below Φ T (mkF m pc' Ls st)) (h2 : ¬ x < y → OGo p e below Φ T (mkF m (pc + 3) Ls st)) : OGo p e below Φ T (mkF m pc Ls (.int y :: .int x :: st)) := by
  obtain ⟨_, X, -, -, hx, -, hc, -⟩ := N
  by_cases q : x < y
  · obtain ⟨U, o, g1, g2⟩ := h1 q
    exact ⟨U, o, XS.icmpYes X.here hx rfl rfl (hb hc hd) rfl (XT.ii_lt_t q) hp.1 hp.2 g1, g2⟩
  · obtain ⟨U, o, g1, g2⟩ := h2 q
    exact ⟨U, o, XS.icmpNo X.here hx rfl (hb hc hd) rfl (XT.ii_lt_f q) g1, g2⟩
theorem k_icmp_ge (N : ONow p l e R s m args below meth c Z own cd ml ret nm T cells slots K) {x y : Int32} {i : Int} {pc' : Nat} (hd : decode cd pc = .ok (.if_icmp .ge i, 3)) (hp : 0 ≤ (pc : Int) + i ∧ ((pc : Int) + i).toNat = pc') (h1 : ¬ x < y → OGo p e below Φ T (mkF m pc' Ls st)) (h2 : x < y → OGo p e below Φ T (mkF m (pc + 3) Ls st)) : OGo p e below Φ T (mkF m pc Ls (.int y :: .int x :: st)) := by
  obtain ⟨_, X, -, -, hx, -, hc, -⟩ := N
  by_cases q : ¬ x < y
  · obtain ⟨U, o, g1, g2⟩ := h1 q
    exact ⟨U, o, XS.icmpYes X.here hx rfl rfl (hb hc hd) rfl (XT.ii_ge_t q) hp.1 hp.2 g1, g2⟩
  · obtain ⟨U, o, g1, g2⟩ := h2 (Decidable.not_not.mp q)
    exact ⟨U, o, XS.icmpNo X.here hx rfl (hb hc hd) rfl (XT.ii_ge_f (Decidable.not_not.mp q)) g1, g2⟩
theorem k_icmp_gt (N : ONow p l e R s m args below meth c Z own cd ml ret nm T cells slots K) {x y : Int32} {i : Int} {pc' : Nat} (hd : decode cd pc = .ok (.if_icmp .gt i, 3)) (hp : 0 ≤ (pc : Int) + i ∧ ((pc : Int) + i).toNat = pc') (h1 : y < x → OGo p e below Φ T (mkF m pc' Ls st)) (h2 : ¬ y < x → OGo p e below Φ T (mkF m (pc + 3) Ls st)) : OGo p e below Φ T (mkF m pc Ls (.int y :: .int x :: st)) := by
  obtain ⟨_, X, -, -, hx, -, hc, -⟩ := N
  by_cases q : y < x
  · obtain ⟨U, o, g1, g2⟩ := h1 q
    exact ⟨U, o, XS.icmpYes X.here hx rfl rfl (hb hc hd) rfl (XT.ii_gt_t q) hp.1 hp.2 g1, g2⟩
  · obtain ⟨U, o, g1, g2⟩ := h2 q
    exact ⟨U, o, XS.icmpNo X.here hx rfl (hb hc hd) rfl (XT.ii_gt_f q) g1, g2⟩
theorem k_icmp_le (N : ONow p l e R s m args below meth c Z own cd ml ret nm T cells slots K) {x y : Int32} {i : Int} {pc' : Nat} (hd : decode cd pc = .ok (.if_icmp .le i, 3)) (hp : 0 ≤ (pc : Int) + i ∧ ((pc : Int) + i).toNat = pc') (h1 : ¬ y < x → OGo p e below Φ T (mkF m pc' Ls st)) (h2 : y < x → OGo p e below Φ T (mkF m (pc + 3) Ls st)) : OGo p e below Φ T (mkF m pc Ls (.int y :: .int x :: st)) := by
  obtain ⟨_, X, -, -, hx, -, hc, -⟩ := N
  by_cases q : ¬ y < x
  · obtain ⟨U, o, g1, g2⟩ := h1 q
    exact ⟨U, o, XS.icmpYes X.here hx rfl rfl (hb hc hd) rfl (XT.ii_le_t q) hp.1 hp.2 g1, g2⟩
  · obtain ⟨U, o, g1, g2⟩ := h2 (Decidable.not_not.mp q)
    exact ⟨U, o, XS.icmpNo X.here hx rfl (hb hc hd) rfl (XT.ii_le_f (Decidable.not_not.mp q)) g1, g2⟩
theorem k_ifnull_yes (N : ONow p l e R s m args below meth c Z own cd ml ret nm T cells slots K) {i : Int} {pc' : Nat} (hd : decode cd pc = .ok (.ifnull i, 3)) (hp : 0 ≤ (pc : Int) + i ∧ ((pc : Int) + i).toNat = pc') (hr : OGo p e below Φ T (mkF m pc' Ls st)) : OGo p e below Φ T (mkF m pc Ls (.null :: st)) := by
  obtain ⟨_, X, -, -, hx, -, hc, -⟩ := N
  obtain ⟨U, o, h1, h2⟩ := hr
  exact ⟨U, o, XS.ifnullYes X.here hx rfl rfl (hb hc hd) rfl hp.1 hp.2 h1, h2⟩
theorem k_ifnull_no (N : ONow p l e R s m args below meth c Z own cd ml ret nm T cells slots K) {b : Addr} {i : Int} (hd : decode cd pc = .ok (.ifnull i, 3)) (hr : OGo p e below Φ T (mkF m (pc + 3) Ls st)) : OGo p e below Φ T (mkF m pc Ls (.ref b :: st)) := by
  obtain ⟨_, X, -, -, hx, -, hc, -⟩ := N
  obtain ⟨U, o, h1, h2⟩ := hr
  exact ⟨U, o, XS.ifnullNo X.here hx rfl (hb hc hd) rfl h1, h2⟩
theorem k_ifnonnull_yes (N : ONow p l e R s m args below meth c Z own cd ml ret nm T cells slots K) {b : Addr} {i : Int} {pc' : Nat} (hd : decode cd pc = .ok (.ifnonnull i, 3)) (hp : 0 ≤ (pc : Int) + i ∧ ((pc : Int) + i).toNat = pc') (hr : OGo p e below Φ T (mkF m pc' Ls st)) : OGo p e below Φ T (mkF m pc Ls (.ref b :: st)) := by
  obtain ⟨_, X, -, -, hx, -, hc, -⟩ := N
  obtain ⟨U, o, h1, h2⟩ := hr
  exact ⟨U, o, XT.ifnonnullYes X.here hx rfl rfl (hb hc hd) rfl hp.1 hp.2 h1, h2⟩
theorem k_ifnonnull_no (N : ONow p l e R s m args below meth c Z own cd ml ret nm T cells slots K) {i : Int} (hd : decode cd pc = .ok (.ifnonnull i, 3)) (hr : OGo p e below Φ T (mkF m (pc + 3) Ls st)) : OGo p e below Φ T (mkF m pc Ls (.null :: st)) := by
  obtain ⟨_, X, -, -, hx, -, hc, -⟩ := N
  obtain ⟨U, o, h1, h2⟩ := hr
  exact ⟨U, o, XT.ifnonnullNo X.here hx rfl (hb hc hd) rfl h1, h2⟩
theorem k_acmp (N : ONow p l e R s m args below meth c Z own cd ml ret nm T cells slots K) {k : ACond} {x y : Value} {same : Bool} {i : Int} {pc' : Nat} (hd : decode cd pc = .ok (.if_acmp k i, 3)) (h1 : x.isRef = true) (h2 : y.isRef = true) (hq : decide (x = y) = same) (hp : 0 ≤ (pc : Int) + i ∧ pc' = if acV k same = true then ((pc : Int) + i).toNat else pc + 3) (hr : OGo p e below Φ T (mkF m pc' Ls st)) : OGo p e below Φ T (mkF m pc Ls (y :: x :: st)) := by
  obtain ⟨_, X, -, -, hx, -, hc, -⟩ := N
  obtain ⟨U, o, g1, g2⟩ := hr
  exact ⟨U, o, Jvm.RoadKit.acmp X hx rfl h1 h2 rfl (hb hc hd) rfl hq hp.1 hp.2 g1, g2⟩
theorem k_ldcI (N : ONow p l e R s m args below meth c Z own cd ml ret nm T cells slots K) {i : Nat} {v : Int32} (hd : decode cd pc = .ok (.ldc i, 2)) (w : (Cond.constant own i v).before a0 Z = true) (hr : OGo p e below Φ T (mkF m (pc + 2) Ls (.int v :: st))) : OGo p e below Φ T (mkF m pc Ls st) := by
  obtain ⟨_, X, -, -, hx, hZ, hc, -, ho, -⟩ := N
  obtain ⟨U, o, h1, h2⟩ := hr
  exact ⟨U, o, X.ldcInt hx ho (mv hZ w) (g := mkF m pc Ls st) rfl (hb hc hd) _ h1, h2⟩
theorem k_ldcJ (N : ONow p l e R s m args below meth c Z own cd ml ret nm T cells slots K) {i : Nat} {v : Int64} (hd : decode cd pc = .ok (.ldc2_w i, 3)) (w : (Cond.constantLong own i v).before a0 Z = true) (hr : OGo p e below Φ T (mkF m (pc + 3) Ls (.long v :: st))) : OGo p e below Φ T (mkF m pc Ls st) := by
  obtain ⟨_, X, -, -, hx, hZ, hc, -, ho, -⟩ := N
  obtain ⟨U, o, h1, h2⟩ := hr
  exact ⟨U, o, X.ldc2Long hx ho (mv hZ w) (g := mkF m pc Ls st) rfl (hb hc hd) _ h1, h2⟩
theorem k_ldcD (N : ONow p l e R s m args below meth c Z own cd ml ret nm T cells slots K) {i : Nat} {v : UInt64} (hd : decode cd pc = .ok (.ldc2_w i, 3)) (w : (Cond.constantDouble own i v).before a0 Z = true) (hr : OGo p e below Φ T (mkF m (pc + 3) Ls (.double v :: st))) : OGo p e below Φ T (mkF m pc Ls st) := by
  obtain ⟨_, X, -, -, hx, hZ, hc, -, ho, -⟩ := N
  obtain ⟨U, o, h1, h2⟩ := hr
  exact ⟨U, o, X.ldc2DoubleC hx ho (mv hZ w) (g := mkF m pc Ls st) rfl (hb hc hd) _ h1, h2⟩
theorem k_get (N : ONow p l e R s m args below meth c Z own cd ml ret nm T cells slots K) {R0 O n d host C : String} {idx : Nat} {a : Addr} {v : Value} {fs : List FV} (i j : Nat) (hd : decode cd pc = .ok (.getfield idx, 3)) (w : (Cond.fieldLink own idx R0 n d).before a0 Z = true ∨ (Cond.fieldLinkNest own idx R0 n d host).before a0 Z = true) (via : Via Z R0 O n d) (hi : K[i]? = some (oObj Z a C fs)) (hj : fs[j]? = some (O, n, d, v)) (hr : ∀ T', ONow p l e R s m args below meth c Z own cd ml ret nm T' cells slots K → OGo p e below Φ T' (mkF m (pc + 3) Ls (v :: st))) : OGo p e below Φ T (mkF m pc Ls (.ref a :: st)) := by
  obtain ⟨locs, X, n1, n2, hx, hZ, hc, hm, ho, r⟩ := N
  obtain ⟨T', X', e', stp⟩ := getF (host := host) X hx hZ ho w via rfl (n2.fld hi hj) (g := mkF m pc Ls (.ref a :: st)) rfl rfl (hb hc hd)
  obtain ⟨U, o, h1, h2⟩ := hr T' ⟨locs, X', n1, by rw [e']; exact n2, hx, hZ, hc, hm, ho, r⟩
  exact ⟨U, o, stp _ h1, h2⟩
theorem k_put (N : ONow p l e R s m args below meth c Z own cd ml ret nm T cells slots K) {R0 O n d host C : String} {idx kk : Nat} {a : Addr} {v old : Value} {fs : List FV} {ty : FieldType} {K' : List Ent} (i j : Nat) (hd : decode cd pc = .ok (.putfield idx, 3)) (w : (Cond.fieldLink own idx R0 n d).before a0 Z = true ∨ (Cond.fieldLinkNest own idx R0 n d host).before a0 Z = true) (via : Via Z R0 O n d) (hi : K[i]? = some (oObj Z a C fs)) (hj : fs[j]? = some (O, n, d, old))
    (L : (Cond.lays C O n d).before a0 Z = true ∨ ((Cond.laysFinal C O n d).before a0 Z = true ∧ own = O ∧ nm = "<init>")) (wi : (Cond.instantiable C kk).before a0 Z = true) (hty : parseFieldDescriptor d = some ty) (hn : narrow ty v = v) (hf : fits ty v = true) (hK : K.set i (oObj Z a C (fs.set j (O, n, d, v))) = K') (hr : ∀ T', ONow p l e R s m args below meth c Z own cd ml ret nm T' cells slots K' → OGo p e below Φ T' (mkF m (pc + 3) Ls st)) : OGo p e below Φ T (mkF m pc Ls (v :: .ref a :: st)) := by
  subst hK
  obtain ⟨locs, X, n1, n2, hx, hZ, hc, hm, ho, h5, hnm, h7⟩ := N
  obtain ⟨T', h', X', e', W, stp⟩ := putF (host := host) X hx hZ ho w via rfl (n2.fld hi hj) (n2.exa hi) (L.imp id fun q => ⟨q.1, q.2.1, hnm.trans q.2.2⟩) wi hty hn hf (g := mkF m pc Ls (v :: .ref a :: st)) rfl rfl (hb hc hd)
  subst e'
  obtain ⟨U, o, h1, h2⟩ := hr T' ⟨_, X', Fr.snoc X' n1 (n2.at hi).1, n2.put hi hj W, hx, hZ, hc, hm, ho, h5, hnm, h7⟩
  exact ⟨U, o, stp _ h1, h2⟩
theorem k_getS (N : ONow p l e R s m args below meth c Z own cd ml ret nm T cells slots K) {R0 O n d : String} {idx : Nat} {v : Value} (hd : decode cd pc = .ok (.getstatic idx, 3)) (w : (Cond.fieldLink own idx R0 n d).before a0 Z = true) (via : Via Z R0 O n d) (F : Sta Z Z.heap O n d v) (hr : ∀ T', ONow p l e R s m args below meth c Z own cd ml ret nm T' cells slots K → OGo p e below Φ T' (mkF m (pc + 3) Ls (v :: st))) : OGo p e below Φ T (mkF m pc Ls st) := by
  obtain ⟨locs, X, n1, n2, hx, hZ, hc, hm, ho, r⟩ := N
  obtain ⟨T', X', e', stp⟩ := getS (host := "") X hx hZ ho w via rfl (F.ext n2.1) (g := mkF m pc Ls st) rfl (hb hc hd)
  obtain ⟨U, o, h1, h2⟩ := hr T' ⟨locs, X', n1, by rw [e']; exact n2, hx, hZ, hc, hm, ho, r⟩
  exact ⟨U, o, stp _ h1, h2⟩
theorem k_getOld (N : ONow p l e R s m args below meth c Z own cd ml ret nm T cells slots K) {R0 O n d host : String} {idx : Nat} {a : Addr} {v : Value} (hd : decode cd pc = .ok (.getfield idx, 3)) (w : (Cond.fieldLink own idx R0 n d).before a0 Z = true ∨ (Cond.fieldLinkNest own idx R0 n d host).before a0 Z = true) (via : Via Z R0 O n d) (F : Fld Z Z.heap a O n d v) (hr : ∀ T', ONow p l e R s m args below meth c Z own cd ml ret nm T' cells slots K → OGo p e below Φ T' (mkF m (pc + 3) Ls (v :: st))) : OGo p e below Φ T (mkF m pc Ls (.ref a :: st)) := by
  obtain ⟨locs, X, n1, n2, hx, hZ, hc, hm, ho, r⟩ := N
  obtain ⟨T', X', e', stp⟩ := getF (host := host) X hx hZ ho w via rfl (F.ext n2.1) (g := mkF m pc Ls (.ref a :: st)) rfl rfl (hb hc hd)
  obtain ⟨U, o, h1, h2⟩ := hr T' ⟨locs, X', n1, by rw [e']; exact n2, hx, hZ, hc, hm, ho, r⟩
  exact ⟨U, o, stp _ h1, h2⟩
theorem k_new (N : ONow p l e R s m args below meth c Z own cd ml ret nm T cells slots K) {C : String} {idx n : Nat} {fs : List FV} (hd : decode cd pc = .ok (.new idx, 3)) (w : (Cond.classLink own idx C).before a0 Z = true) (wi : (Cond.instantiable C n).before a0 Z = true) (wz : (Cond.initialized C).before a0 Z = true) (L : LaidL Z a0 C fs) (hnd : (fs.map fun f => f.2.1).Nodup) (h1 : cells + 1 ≤ R.cells) (h2 : slots + n ≤ R.slots) (hr : ∀ T' a, ONow p l e R s m args below meth c Z own cd ml ret nm T' (cells + 1) (slots + n) (oObj Z a C fs :: K) → OGo p e below Φ T' (mkF m (pc + 3) Ls (.ref a :: st))) : OGo p e below Φ T (mkF m pc Ls st) := by
  obtain ⟨locs, X, n1, n2, hx, hZ, hc, hm, ho, r⟩ := N
  obtain ⟨T', h', X', e', E, A, D, -, stp⟩ := newO X hx hZ ho w wi wz rfl (g := mkF m pc Ls st) rfl (hb hc hd) h1 h2
  subst e'
  obtain ⟨cell, k, a1, a2, a3, a4, a5⟩ := A
  have M := LaidL.mem fs L
  have hP : (oObj Z T.heap.size C fs).2 cell := ⟨⟨k, a2, a3, a4, a5⟩, L.keys hnd, fun f hf => by
    obtain ⟨Lf, ty, p1, p2⟩ := M f hf
    obtain ⟨c2, cf, k2, i2, f2, g1, g2⟩ := D Lf p1
    cases a1.symm.trans g1
    rw [← p2] at g2
    exact ⟨cf, k2, i2, f2, g2⟩⟩
  obtain ⟨U, o, h1, h2⟩ := hr T' T.heap.size ⟨locs, X', n1, n2.cons E a1 hP, hx, hZ, hc, hm, ho, r⟩
  exact ⟨U, o, stp _ h1, h2⟩
theorem k_newarray (N : ONow p l e R s m args below meth c Z own cd ml ret nm T cells slots K) {aty : ArrayType} {n : Int32} {ty : FieldType} {vs : List Value} (cap : Nat) (hd : decode cd pc = .ok (.newarray aty, 2)) (ht : newarray.typeOf aty = ty) (w : (Cond.arrayClass ty).before a0 Z = true) (hn : ¬ n < 0) (hcap : n.toNatClampNeg ≤ cap) (hb0 : cap * 8 ≤ 536870912) (hv : List.replicate n.toNatClampNeg (defaultValue ty) = vs) (h1 : cells + 1 ≤ R.cells) (h2 : slots + cap ≤ R.slots) (hr : ∀ T' a k, ONow p l e R s m args below meth c Z own cd ml ret nm T' (cells + 1) (slots + cap) (oArr Z a k ty vs :: K) → OGo p e below Φ T' (mkF m (pc + 2) Ls (.ref a :: st))) : OGo p e below Φ T (mkF m pc Ls (.int n :: st)) := by
  subst ht hv
  obtain ⟨locs, X, n1, n2, hx, hZ, hc, hm, ho, r⟩ := N
  obtain ⟨T', h', cA, X', e', E, A, stp⟩ := newP X hx hZ w rfl (g := mkF m pc Ls (.int n :: st)) rfl (hb hc hd) rfl hn hcap hb0 h1 h2
  subst e'
  have hP : (oArr Z T.heap.size cA (newarray.typeOf aty) (List.replicate n.toNatClampNeg (defaultValue (newarray.typeOf aty)))).2 (newA cA (newarray.typeOf aty) n) := ⟨A.2.1, A.2.2, rfl, by simp [newA], by simp; omega⟩
  obtain ⟨U, o, h1, h2⟩ := hr T' T.heap.size cA ⟨locs, X', n1, n2.cons E A.1 hP, hx, hZ, hc, hm, ho, r⟩
  exact ⟨U, o, stp _ h1, h2⟩
theorem inb {j : Int32} {n : Nat} (h1 : ¬ j < 0) (h2 : j.toNatClampNeg < n) : ¬ (j < 0 ∨ n ≤ j.toNatClampNeg) := fun q => q.elim h1 fun r => absurd h2 (Nat.not_lt.mpr r)
theorem lt_of_some {α : Type} {l : List α} {i : Nat} {x : α} (h : l[i]? = some x) : i < l.length := (List.getElem?_eq_some_iff.mp h).1
theorem k_arraylength (N : ONow p l e R s m args below meth c Z own cd ml ret nm T cells slots K) {a : Addr} {k : ClassId} {ty : FieldType} {vs : List Value} {z : Int32} (i : Nat) (hd : decode cd pc = .ok (.arraylength, 1)) (hi : K[i]? = some (oArr Z a k ty vs)) (hz : vs.length.toInt32 = z) (hr : OGo p e below Φ T (mkF m (pc + 1) Ls (.int z :: st))) : OGo p e below Φ T (mkF m pc Ls (.ref a :: st)) := by
  subst hz
  obtain ⟨locs, X, n1, n2, hx, hZ, hc, hm, ho, r⟩ := N
  obtain ⟨cl, A, -, A2, A3⟩ := n2.arr hi
  obtain ⟨U, o, h1, h2⟩ := hr
  exact ⟨U, o, X.arraylength hx A.1 (State.isArrayOf_alike hZ.alike A.2.1) (g := mkF m pc Ls (.ref a :: st)) rfl rfl (hb hc hd) _ (by rw [A2]; simpa using h1), h2⟩
theorem k_iaload (N : ONow p l e R s m args below meth c Z own cd ml ret nm T cells slots K) {a : Addr} {k : ClassId} {vs : List Value} {j : Int32} {v : Value} (i jn : Nat) (hd : decode cd pc = .ok (.iaload, 1)) (hi : K[i]? = some (oArr Z a k .int vs)) (h0 : ¬ j < 0) (hjn : j.toNatClampNeg = jn) (hv : vs[jn]? = some v) (hr : OGo p e below Φ T (mkF m (pc + 1) Ls (v :: st))) : OGo p e below Φ T (mkF m pc Ls (.int j :: .ref a :: st)) := by
  subst hjn
  obtain ⟨locs, X, n1, n2, hx, hZ, hc, hm, ho, r⟩ := N
  obtain ⟨cl, A, -, A2, A3⟩ := n2.arr hi
  obtain ⟨U, o, h1, h2⟩ := hr
  exact ⟨U, o, X.iaload hx A.1 (State.isArrayOf_alike hZ.alike A.2.1) A.2.2 (inb h0 (by rw [A2]; simpa using lt_of_some hv)) (by rw [A2]; simpa using hv) (g := mkF m pc Ls (.int j :: .ref a :: st)) rfl rfl (hb hc hd) _ h1, h2⟩
theorem k_laload (N : ONow p l e R s m args below meth c Z own cd ml ret nm T cells slots K) {a : Addr} {k : ClassId} {vs : List Value} {j : Int32} {v : Value} (i jn : Nat) (hd : decode cd pc = .ok (.laload, 1)) (hi : K[i]? = some (oArr Z a k .long vs)) (h0 : ¬ j < 0) (hjn : j.toNatClampNeg = jn) (hv : vs[jn]? = some v) (hr : OGo p e below Φ T (mkF m (pc + 1) Ls (v :: st))) : OGo p e below Φ T (mkF m pc Ls (.int j :: .ref a :: st)) := by
  subst hjn
  obtain ⟨locs, X, n1, n2, hx, hZ, hc, hm, ho, r⟩ := N
  obtain ⟨cl, A, -, A2, A3⟩ := n2.arr hi
  obtain ⟨U, o, h1, h2⟩ := hr
  exact ⟨U, o, X.laload hx A.1 (State.isArrayOf_alike hZ.alike A.2.1) A.2.2 (inb h0 (by rw [A2]; simpa using lt_of_some hv)) (by rw [A2]; simpa using hv) (g := mkF m pc Ls (.int j :: .ref a :: st)) rfl rfl (hb hc hd) _ h1, h2⟩
theorem k_daload (N : ONow p l e R s m args below meth c Z own cd ml ret nm T cells slots K) {a : Addr} {k : ClassId} {vs : List Value} {j : Int32} {v : Value} (i jn : Nat) (hd : decode cd pc = .ok (.daload, 1)) (hi : K[i]? = some (oArr Z a k .double vs)) (h0 : ¬ j < 0) (hjn : j.toNatClampNeg = jn) (hv : vs[jn]? = some v) (hr : OGo p e below Φ T (mkF m (pc + 1) Ls (v :: st))) : OGo p e below Φ T (mkF m pc Ls (.int j :: .ref a :: st)) := by
  subst hjn
  obtain ⟨locs, X, n1, n2, hx, hZ, hc, hm, ho, r⟩ := N
  obtain ⟨cl, A, -, A2, A3⟩ := n2.arr hi
  obtain ⟨U, o, h1, h2⟩ := hr
  exact ⟨U, o, X.daload hx A.1 (State.isArrayOf_alike hZ.alike A.2.1) A.2.2 (inb h0 (by rw [A2]; simpa using lt_of_some hv)) (by rw [A2]; simpa using hv) (g := mkF m pc Ls (.int j :: .ref a :: st)) rfl rfl (hb hc hd) _ h1, h2⟩
theorem k_caload (N : ONow p l e R s m args below meth c Z own cd ml ret nm T cells slots K) {a : Addr} {k : ClassId} {vs : List Value} {j : Int32} {v : Value} (i jn : Nat) (hd : decode cd pc = .ok (.caload, 1)) (hi : K[i]? = some (oArr Z a k .char vs)) (h0 : ¬ j < 0) (hjn : j.toNatClampNeg = jn) (hv : vs[jn]? = some v) (hr : OGo p e below Φ T (mkF m (pc + 1) Ls (v :: st))) : OGo p e below Φ T (mkF m pc Ls (.int j :: .ref a :: st)) := by
  subst hjn
  obtain ⟨locs, X, n1, n2, hx, hZ, hc, hm, ho, r⟩ := N
  obtain ⟨cl, A, -, A2, A3⟩ := n2.arr hi
  obtain ⟨U, o, h1, h2⟩ := hr
  exact ⟨U, o, X.caload hx A.1 (State.isArrayOf_alike hZ.alike A.2.1) A.2.2 (inb h0 (by rw [A2]; simpa using lt_of_some hv)) (by rw [A2]; simpa using hv) (g := mkF m pc Ls (.int j :: .ref a :: st)) rfl rfl (hb hc hd) _ h1, h2⟩
theorem k_baloadB (N : ONow p l e R s m args below meth c Z own cd ml ret nm T cells slots K) {a : Addr} {k : ClassId} {vs : List Value} {j : Int32} {v : Value} (i jn : Nat) (hd : decode cd pc = .ok (.baload, 1)) (hi : K[i]? = some (oArr Z a k .byte vs)) (h0 : ¬ j < 0) (hjn : j.toNatClampNeg = jn) (hv : vs[jn]? = some v) (hr : OGo p e below Φ T (mkF m (pc + 1) Ls (v :: st))) : OGo p e below Φ T (mkF m pc Ls (.int j :: .ref a :: st)) := by
  subst hjn
  obtain ⟨locs, X, n1, n2, hx, hZ, hc, hm, ho, r⟩ := N
  obtain ⟨cl, A, -, A2, A3⟩ := n2.arr hi
  obtain ⟨U, o, h1, h2⟩ := hr
  exact ⟨U, o, X.baloadBytes hx A.1 (State.isArrayOf_alike hZ.alike A.2.1) A.2.2 (inb h0 (by rw [A2]; simpa using lt_of_some hv)) (by rw [A2]; simpa using hv) (g := mkF m pc Ls (.int j :: .ref a :: st)) rfl rfl (hb hc hd) _ h1, h2⟩
theorem k_baloadZ (N : ONow p l e R s m args below meth c Z own cd ml ret nm T cells slots K) {a : Addr} {k : ClassId} {vs : List Value} {j : Int32} {v : Value} (i jn : Nat) (hd : decode cd pc = .ok (.baload, 1)) (hi : K[i]? = some (oArr Z a k .boolean vs)) (h0 : ¬ j < 0) (hjn : j.toNatClampNeg = jn) (hv : vs[jn]? = some v) (hr : OGo p e below Φ T (mkF m (pc + 1) Ls (v :: st))) : OGo p e below Φ T (mkF m pc Ls (.int j :: .ref a :: st)) := by
  subst hjn
  obtain ⟨locs, X, n1, n2, hx, hZ, hc, hm, ho, r⟩ := N
  obtain ⟨cl, A, -, A2, A3⟩ := n2.arr hi
  obtain ⟨U, o, h1, h2⟩ := hr
  exact ⟨U, o, X.baloadBooleans hx A.1 (State.isArrayOf_alike hZ.alike A.2.1) A.2.2 (inb h0 (by rw [A2]; simpa using lt_of_some hv)) (by rw [A2]; simpa using hv) (g := mkF m pc Ls (.int j :: .ref a :: st)) rfl rfl (hb hc hd) _ h1, h2⟩
theorem k_aaload (N : ONow p l e R s m args below meth c Z own cd ml ret nm T cells slots K) {a : Addr} {k : ClassId} {ty : FieldType} {vs : List Value} {j : Int32} {v : Value} (i jn : Nat) (hd : decode cd pc = .ok (.aaload, 1)) (hi : K[i]? = some (oArr Z a k ty vs)) (hrt : ty.isReference = true) (h0 : ¬ j < 0) (hjn : j.toNatClampNeg = jn) (hv : vs[jn]? = some v) (hr : OGo p e below Φ T (mkF m (pc + 1) Ls (v :: st))) : OGo p e below Φ T (mkF m pc Ls (.int j :: .ref a :: st)) := by
  subst hjn
  obtain ⟨locs, X, n1, n2, hx, hZ, hc, hm, ho, r⟩ := N
  obtain ⟨cl, A, -, A2, A3⟩ := n2.arr hi
  obtain ⟨U, o, h1, h2⟩ := hr
  exact ⟨U, o, X.aaload hx A.1 (State.isArrayOf_alike hZ.alike A.2.1) hrt A.2.2 (inb h0 (by rw [A2]; simpa using lt_of_some hv)) (by rw [A2]; simpa using hv) (g := mkF m pc Ls (.int j :: .ref a :: st)) rfl rfl (hb hc hd) _ h1, h2⟩
theorem k_iastore (N : ONow p l e R s m args below meth c Z own cd ml ret nm T cells slots K) {a : Addr} {k : ClassId} {vs : List Value} {j : Int32} {x : Int32} {v : Value} {K' : List Ent} (i jn : Nat) (hd : decode cd pc = .ok (.iastore, 1)) (hi : K[i]? = some (oArr Z a k .int vs)) (h0 : ¬ j < 0) (hjn : j.toNatClampNeg = jn) (hlt : jn < vs.length) (hv : Value.int x = v) (hK : K.set i (oArr Z a k .int (vs.set jn v)) = K') (hr : ∀ T', ONow p l e R s m args below meth c Z own cd ml ret nm T' cells slots K' → OGo p e below Φ T' (mkF m (pc + 1) Ls st)) : OGo p e below Φ T (mkF m pc Ls (.int x :: .int j :: .ref a :: st)) := by
  subst hjn hv hK
  obtain ⟨locs, X, n1, n2, hx, hZ, hc, hm, ho, r⟩ := N
  obtain ⟨cl, A, -, A2, A3⟩ := n2.arr hi
  obtain ⟨T', h', X', e', W, stp⟩ := stI X hx hZ rfl A (inb h0 (by rw [A2]; simpa using hlt)) (g := mkF m pc Ls (.int x :: .int j :: .ref a :: st)) rfl rfl (hb hc hd)
  subst e'
  obtain ⟨U, o, h1, h2⟩ := hr T' ⟨_, X', Fr.snoc X' n1 (n2.at hi).1, n2.putA hi W, hx, hZ, hc, hm, ho, r⟩
  exact ⟨U, o, stp _ h1, h2⟩
theorem k_lastore (N : ONow p l e R s m args below meth c Z own cd ml ret nm T cells slots K) {a : Addr} {k : ClassId} {vs : List Value} {j : Int32} {x : Int64} {v : Value} {K' : List Ent} (i jn : Nat) (hd : decode cd pc = .ok (.lastore, 1)) (hi : K[i]? = some (oArr Z a k .long vs)) (h0 : ¬ j < 0) (hjn : j.toNatClampNeg = jn) (hlt : jn < vs.length) (hv : Value.long x = v) (hK : K.set i (oArr Z a k .long (vs.set jn v)) = K') (hr : ∀ T', ONow p l e R s m args below meth c Z own cd ml ret nm T' cells slots K' → OGo p e below Φ T' (mkF m (pc + 1) Ls st)) : OGo p e below Φ T (mkF m pc Ls (.long x :: .int j :: .ref a :: st)) := by
  subst hjn hv hK
  obtain ⟨locs, X, n1, n2, hx, hZ, hc, hm, ho, r⟩ := N
  obtain ⟨cl, A, -, A2, A3⟩ := n2.arr hi
  obtain ⟨T', h', X', e', W, stp⟩ := stJ X hx hZ rfl A (inb h0 (by rw [A2]; simpa using hlt)) (g := mkF m pc Ls (.long x :: .int j :: .ref a :: st)) rfl rfl (hb hc hd)
  subst e'
  obtain ⟨U, o, h1, h2⟩ := hr T' ⟨_, X', Fr.snoc X' n1 (n2.at hi).1, n2.putA hi W, hx, hZ, hc, hm, ho, r⟩
  exact ⟨U, o, stp _ h1, h2⟩
theorem k_dastore (N : ONow p l e R s m args below meth c Z own cd ml ret nm T cells slots K) {a : Addr} {k : ClassId} {vs : List Value} {j : Int32} {x : UInt64} {v : Value} {K' : List Ent} (i jn : Nat) (hd : decode cd pc = .ok (.dastore, 1)) (hi : K[i]? = some (oArr Z a k .double vs)) (h0 : ¬ j < 0) (hjn : j.toNatClampNeg = jn) (hlt : jn < vs.length) (hv : Value.double x = v) (hK : K.set i (oArr Z a k .double (vs.set jn v)) = K') (hr : ∀ T', ONow p l e R s m args below meth c Z own cd ml ret nm T' cells slots K' → OGo p e below Φ T' (mkF m (pc + 1) Ls st)) : OGo p e below Φ T (mkF m pc Ls (.double x :: .int j :: .ref a :: st)) := by
  subst hjn hv hK
  obtain ⟨locs, X, n1, n2, hx, hZ, hc, hm, ho, r⟩ := N
  obtain ⟨cl, A, -, A2, A3⟩ := n2.arr hi
  obtain ⟨T', h', X', e', W, stp⟩ := stD X hx hZ rfl A (inb h0 (by rw [A2]; simpa using hlt)) (g := mkF m pc Ls (.double x :: .int j :: .ref a :: st)) rfl rfl (hb hc hd)
  subst e'
  obtain ⟨U, o, h1, h2⟩ := hr T' ⟨_, X', Fr.snoc X' n1 (n2.at hi).1, n2.putA hi W, hx, hZ, hc, hm, ho, r⟩
  exact ⟨U, o, stp _ h1, h2⟩
theorem k_castore (N : ONow p l e R s m args below meth c Z own cd ml ret nm T cells slots K) {a : Addr} {k : ClassId} {vs : List Value} {j : Int32} {x : Int32} {v : Value} {K' : List Ent} (i jn : Nat) (hd : decode cd pc = .ok (.castore, 1)) (hi : K[i]? = some (oArr Z a k .char vs)) (h0 : ¬ j < 0) (hjn : j.toNatClampNeg = jn) (hlt : jn < vs.length) (hv : Value.int (nar .char x) = v) (hK : K.set i (oArr Z a k .char (vs.set jn v)) = K') (hr : ∀ T', ONow p l e R s m args below meth c Z own cd ml ret nm T' cells slots K' → OGo p e below Φ T' (mkF m (pc + 1) Ls st)) : OGo p e below Φ T (mkF m pc Ls (.int x :: .int j :: .ref a :: st)) := by
  subst hjn hv hK
  obtain ⟨locs, X, n1, n2, hx, hZ, hc, hm, ho, r⟩ := N
  obtain ⟨cl, A, -, A2, A3⟩ := n2.arr hi
  obtain ⟨T', h', X', e', W, stp⟩ := stC X hx hZ rfl A (inb h0 (by rw [A2]; simpa using hlt)) (g := mkF m pc Ls (.int x :: .int j :: .ref a :: st)) rfl rfl (hb hc hd)
  subst e'
  obtain ⟨U, o, h1, h2⟩ := hr T' ⟨_, X', Fr.snoc X' n1 (n2.at hi).1, n2.putA hi W, hx, hZ, hc, hm, ho, r⟩
  exact ⟨U, o, stp _ h1, h2⟩
theorem k_bastoreB (N : ONow p l e R s m args below meth c Z own cd ml ret nm T cells slots K) {a : Addr} {k : ClassId} {vs : List Value} {j : Int32} {x : Int32} {v : Value} {K' : List Ent} (i jn : Nat) (hd : decode cd pc = .ok (.bastore, 1)) (hi : K[i]? = some (oArr Z a k .byte vs)) (h0 : ¬ j < 0) (hjn : j.toNatClampNeg = jn) (hlt : jn < vs.length) (hv : Value.int (nar .byte x) = v) (hK : K.set i (oArr Z a k .byte (vs.set jn v)) = K') (hr : ∀ T', ONow p l e R s m args below meth c Z own cd ml ret nm T' cells slots K' → OGo p e below Φ T' (mkF m (pc + 1) Ls st)) : OGo p e below Φ T (mkF m pc Ls (.int x :: .int j :: .ref a :: st)) := by
  subst hjn hv hK
  obtain ⟨locs, X, n1, n2, hx, hZ, hc, hm, ho, r⟩ := N
  obtain ⟨cl, A, -, A2, A3⟩ := n2.arr hi
  obtain ⟨T', h', X', e', W, stp⟩ := stB X hx hZ rfl A (inb h0 (by rw [A2]; simpa using hlt)) (g := mkF m pc Ls (.int x :: .int j :: .ref a :: st)) rfl rfl (hb hc hd)
  subst e'
  obtain ⟨U, o, h1, h2⟩ := hr T' ⟨_, X', Fr.snoc X' n1 (n2.at hi).1, n2.putA hi W, hx, hZ, hc, hm, ho, r⟩
  exact ⟨U, o, stp _ h1, h2⟩
theorem k_bastoreZ (N : ONow p l e R s m args below meth c Z own cd ml ret nm T cells slots K) {a : Addr} {k : ClassId} {vs : List Value} {j : Int32} {x : Int32} {v : Value} {K' : List Ent} (i jn : Nat) (hd : decode cd pc = .ok (.bastore, 1)) (hi : K[i]? = some (oArr Z a k .boolean vs)) (h0 : ¬ j < 0) (hjn : j.toNatClampNeg = jn) (hlt : jn < vs.length) (hv : Value.int (nar .boolean x) = v) (hK : K.set i (oArr Z a k .boolean (vs.set jn v)) = K') (hr : ∀ T', ONow p l e R s m args below meth c Z own cd ml ret nm T' cells slots K' → OGo p e below Φ T' (mkF m (pc + 1) Ls st)) : OGo p e below Φ T (mkF m pc Ls (.int x :: .int j :: .ref a :: st)) := by
  subst hjn hv hK
  obtain ⟨locs, X, n1, n2, hx, hZ, hc, hm, ho, r⟩ := N
  obtain ⟨cl, A, -, A2, A3⟩ := n2.arr hi
  obtain ⟨T', h', X', e', W, stp⟩ := stZ X hx hZ rfl A (inb h0 (by rw [A2]; simpa using hlt)) (g := mkF m pc Ls (.int x :: .int j :: .ref a :: st)) rfl rfl (hb hc hd)
  subst e'
  obtain ⟨U, o, h1, h2⟩ := hr T' ⟨_, X', Fr.snoc X' n1 (n2.at hi).1, n2.putA hi W, hx, hZ, hc, hm, ho, r⟩
  exact ⟨U, o, stp _ h1, h2⟩
theorem initO_k (N : ONow p l e R s m args below meth c Z own cd ml ret nm T cells slots K) {idx : Nat} {a : Addr} (W : Nat) (hd : decode cd pc = .ok (.invokespecial idx, 3)) (w1 : (Cond.methodLink own idx Lib.objectInit).before a0 Z = true) (w2 : (Cond.instanceMethod Lib.objectInit).before a0 Z = true) (w3 : (Cond.code Lib.objectInit ⟨#[0xb1]⟩ 1 none).before a0 Z = true) (hls : Ls.size = ml) (hW : (st.map fun v => v.category).sum = W) (hf : 1 ≤ R.frames) (hlo : W + 12 ≤ R.locals) (hr : ∀ T', ONow p l e R s m args below meth c Z own cd ml ret nm T' cells slots K → OGo p e below Φ T' (mkF m (pc + 3) Ls st)) : OGo p e below Φ T (mkF m pc Ls (.ref a :: st)) := by
  obtain ⟨locs, X, n1, n2, hx, hZ, hc, hm, ho, r⟩ := N
  obtain ⟨T', X', e', stp⟩ := initO X hx hZ ho w1 w2 w3 rfl (g := mkF m pc Ls (.ref a :: st)) rfl (by rw [hm]; exact hls) rfl (hb hc hd) hf (W := W) (by show 2 * 0 + _ ≤ _; rw [Nat.zero_add]; exact Nat.le_of_eq hW) hlo
  obtain ⟨U, o, h1, h2⟩ := hr T' ⟨locs, X', n1, by rw [e']; exact n2, hx, hZ, hc, hm, ho, r⟩
  exact ⟨U, o, stp _ h1, h2⟩
theorem k_static (N : ONow p l e R s m args below meth c Z own cd ml ret nm T cells slots K) {y : MethodName} {bytes : ByteArray} {maxL : Nat} {rt : Option FieldType} {rm : Room} {Q : Option Value → List Ent → Prop} {idx : Nat} {rest : List Value} {ps : List FieldType} {rp : Option FieldType} {cells' slots' : Nat} (as : List Value) (hd : decode cd pc = .ok (.invokestatic idx, 3)) (w1 : (Cond.methodLink own idx y).before a0 Z = true) (w2 : (Cond.static y).before a0 Z = true) (w3 : (Cond.initialized y.cls).before a0 Z = true) (w4 : (Cond.code y bytes maxL rt).before a0 Z = true) (hy : y.cls ≠ "java/lang/invoke/MethodHandle" ∧ y.cls ≠ "java/lang/invoke/VarHandle") (hpd : parseMethodDescriptor y.desc = some ⟨ps, rp⟩) (hlen : as.length = ps.length) (hM : OMeets l y bytes maxL rt rm Z as K Q) (hst : st = as.reverse ++ rest) (hls : Ls.size = ml) (W : Nat) (hW : (rest.map fun v => v.category).sum = W) (hf : rm.frames + 1 ≤ R.frames) (hlo : W + (maxL + 11) + rm.locals ≤ R.locals) (hce : cells + rm.cells = cells') (hse : slots + rm.slots = slots') (hc1 : cells' ≤ R.cells) (hs1 : slots' ≤ R.slots) (hr : ∀ T' v K', ONow p l e R s m args below meth c Z own cd ml ret nm T' cells' slots' K' → Q v K' → OGo p e below Φ T' (mkF m (pc + 3) Ls (v.toList ++ rest))) : OGo p e below Φ T (mkF m pc Ls st) := by
  subst hce hse hst
  obtain ⟨locs, X, n1, n2, hx, hZ, hc, hm, ho, r⟩ := N
  have := Jvm.LawKit.callS X hx (y := y) ho (mvT hZ w1) (mvT hZ w2) (mvT hZ w3) (mvT hZ w4) hy (backOf (W := W) (Q := fun v h L => Fr Z.heap.size L ∧ ∃ K', OKnow Z h K' ∧ Q v K') (hM [] T.heap n2) hZ w4 w3 hf hlo) (g := mkF m pc Ls (as.reverse ++ rest)) rfl (by rw [hm]; exact hls) (argsL := as) (rest := rest) (lenOf hpd hlen) rfl (by show 2 * 0 + _ ≤ _; rw [Nat.zero_add]; exact Nat.le_of_eq hW) (hb hc hd) (fun _ _ => ⟨rfl, rfl, hc1, hs1⟩)
  obtain ⟨v, vm₁, ⟨T', L', k', n'⟩, -, X', ⟨Lc, ⟨q1, K', q2, q3⟩, e1, e2, e3⟩, stp⟩ := this
  dsimp only [Pt.U, Pt.locs, Pt.cells, Pt.slots] at X' e1 e2 e3 stp q2
  subst e1 e2 e3
  obtain ⟨U, o, h1, h2⟩ := hr T' v K' ⟨_, X', Fr.app n1 q1, q2, hx, hZ, hc, hm, ho, r⟩ q3
  exact ⟨U, o, stp _ h1, h2⟩
theorem k_special (N : ONow p l e R s m args below meth c Z own cd ml ret nm T cells slots K) {y : MethodName} {bytes : ByteArray} {maxL : Nat} {rm : Room} {Q : Option Value → List Ent → Prop} {idx : Nat} {rest : List Value} {ps : List FieldType} {rp : Option FieldType} {cells' slots' : Nat} (as : List Value) {a : Addr} (hd : decode cd pc = .ok (.invokespecial idx, 3)) (hy1 : y.name = "<init>") (w1 : (Cond.methodLink own idx y).before a0 Z = true) (w2 : (Cond.instanceMethod y).before a0 Z = true) (w3 : (Cond.initialized y.cls).before a0 Z = true) (w4 : (Cond.code y bytes maxL none).before a0 Z = true) (hy : y.cls ≠ "java/lang/invoke/MethodHandle" ∧ y.cls ≠ "java/lang/invoke/VarHandle") (hpd : parseMethodDescriptor y.desc = some ⟨ps, rp⟩) (hlen : as.length = ps.length) (hM : OMeets l y bytes maxL none rm Z (.ref a :: as) K Q) (hst : st = as.reverse ++ .ref a :: rest) (hls : Ls.size = ml) (W : Nat) (hW : (rest.map fun v => v.category).sum = W) (hf : rm.frames + 1 ≤ R.frames) (hlo : W + (maxL + 11) + rm.locals ≤ R.locals) (hce : cells + rm.cells = cells') (hse : slots + rm.slots = slots') (hc1 : cells' ≤ R.cells) (hs1 : slots' ≤ R.slots) (hr : ∀ T' v K', ONow p l e R s m args below meth c Z own cd ml ret nm T' cells' slots' K' → Q v K' → OGo p e below Φ T' (mkF m (pc + 3) Ls (v.toList ++ rest))) : OGo p e below Φ T (mkF m pc Ls st) := by
  subst hce hse hst
  obtain ⟨locs, X, n1, n2, hx, hZ, hc, hm, ho, r⟩ := N
  have := X.specialBack hx (y := y) hy1 ho (mvT hZ w1) (mvT hZ w2) (mvT hZ w4) hy (backOf (W := W) (Q := fun v h L => Fr Z.heap.size L ∧ ∃ K', OKnow Z h K' ∧ Q v K') (hM [] T.heap n2) hZ w4 w3 hf hlo) (g := mkF m pc Ls (as.reverse ++ .ref a :: rest)) rfl (by rw [hm]; exact hls) (Steps.refl _) (a := a) (argsL := as) (rest := rest) (lenOf hpd hlen) rfl (by show 2 * 0 + _ ≤ _; rw [Nat.zero_add]; exact Nat.le_of_eq hW) (hb hc hd) (fun _ _ => ⟨rfl, rfl, hc1, hs1⟩)
  obtain ⟨v, vm₁, ⟨T', L', k', n'⟩, -, X', ⟨Lc, ⟨q1, K', q2, q3⟩, e1, e2, e3⟩, stp⟩ := this
  dsimp only [Pt.U, Pt.locs, Pt.cells, Pt.slots] at X' e1 e2 e3 stp q2
  subst e1 e2 e3
  obtain ⟨U, o, h1, h2⟩ := hr T' v K' ⟨_, X', Fr.app n1 q1, q2, hx, hZ, hc, hm, ho, r⟩ q3
  exact ⟨U, o, stp.trans h1, h2⟩
theorem k_virtual (N : ONow p l e R s m args below meth c Z own cd ml ret nm T cells slots K) {y : MethodName} {bytes : ByteArray} {maxL : Nat} {rt : Option FieldType} {rm : Room} {Q : Option Value → List Ent → Prop} {idx : Nat} {rest : List Value} {ps : List FieldType} {rp : Option FieldType} {cells' slots' : Nat} {C : String} {z : MethodName} (as : List Value) {a : Addr} (hd : decode cd pc = .ok (.invokevirtual idx, 3)) (hE : ∀ h, OKnow Z h K → Exa Z h a C) (w1 : (Cond.methodLink own idx z).before a0 Z = true) (w2 : (Cond.declares z).before a0 Z = true) (nf : ∀ s' : State, Z.Warmed39 s'.vm → NotFace s' z) (w5 : (Cond.selects C z y).before a0 Z = true) (w6 : (Cond.instanceMethod y).before a0 Z = true) (w3 : (Cond.initialized y.cls).before a0 Z = true) (w4 : (Cond.code y bytes maxL rt).before a0 Z = true) (hy : z.cls ≠ "java/lang/invoke/MethodHandle" ∧ z.cls ≠ "java/lang/invoke/VarHandle") (hpd : parseMethodDescriptor z.desc = some ⟨ps, rp⟩) (hlen : as.length = ps.length) (hM : OMeets l y bytes maxL rt rm Z (.ref a :: as) K Q) (hst : st = as.reverse ++ .ref a :: rest) (hls : Ls.size = ml) (W : Nat) (hW : (rest.map fun v => v.category).sum = W) (hf : rm.frames + 1 ≤ R.frames) (hlo : W + (maxL + 11) + rm.locals ≤ R.locals) (hce : cells + rm.cells = cells') (hse : slots + rm.slots = slots') (hc1 : cells' ≤ R.cells) (hs1 : slots' ≤ R.slots) (hr : ∀ T' v K', ONow p l e R s m args below meth c Z own cd ml ret nm T' cells' slots' K' → Q v K' → OGo p e below Φ T' (mkF m (pc + 3) Ls (v.toList ++ rest))) : OGo p e below Φ T (mkF m pc Ls st) := by
  subst hce hse hst
  obtain ⟨locs, X, n1, n2, hx, hZ, hc, hm, ho, r⟩ := N
  obtain ⟨cq, kq, qa, qb, qc⟩ := isOf hZ rfl (hE _ n2)
  have := X.virtualBack hx (y := z) (z := y) ho (mvT hZ w1) (mvT hZ w2) (nf s hZ) (mvT hZ w5) (mvT hZ w6) hy (backOf (W := W) (Q := fun v h L => Fr Z.heap.size L ∧ ∃ K', OKnow Z h K' ∧ Q v K') (hM [] T.heap n2) hZ w4 w3 hf hlo) qa qc (g := mkF m pc Ls (as.reverse ++ .ref a :: rest)) rfl (by rw [hm]; exact hls) (Steps.refl _) (argsL := as) (rest := rest) (lenOf hpd hlen) rfl (by show 2 * 0 + _ ≤ _; rw [Nat.zero_add]; exact Nat.le_of_eq hW) (hb hc hd) (fun _ _ => ⟨rfl, rfl, hc1, hs1⟩)
  obtain ⟨v, vm₁, ⟨T', L', k', n'⟩, -, X', ⟨Lc, ⟨q1, K', q2, q3⟩, e1, e2, e3⟩, stp⟩ := this
  dsimp only [Pt.U, Pt.locs, Pt.cells, Pt.slots] at X' e1 e2 e3 stp q2
  subst e1 e2 e3
  obtain ⟨U, o, h1, h2⟩ := hr T' v K' ⟨_, X', Fr.app n1 q1, q2, hx, hZ, hc, hm, ho, r⟩ q3
  exact ⟨U, o, stp.trans h1, h2⟩
theorem nf_self {C : String} {y : MethodName} (w : (Cond.selects C y y).before a0 Z = true) : ∀ s' : State, Z.Warmed39 s'.vm → NotFace s' y := fun s' hZ => notFace_of_selects (args := #[]) (mvT hZ w)
theorem k_private (N : ONow p l e R s m args below meth c Z own cd ml ret nm T cells slots K) {y : MethodName} {bytes : ByteArray} {maxL : Nat} {rt : Option FieldType} {rm : Room} {Q : Option Value → List Ent → Prop} {idx : Nat} {rest : List Value} {ps : List FieldType} {rp : Option FieldType} {cells' slots' : Nat} {fs : List FV} {kk : Nat} (as : List Value) {a : Addr} (i : Nat) (hd : decode cd pc = .ok (.invokevirtual idx, 3)) (hi : K[i]? = some (oObj Z a y.cls fs)) (wi : (Cond.instantiable y.cls kk).before a0 Z = true) (w1 : (Cond.methodLink own idx y).before a0 Z = true) (w2 : (Cond.instanceMethod y).before a0 Z = true) (w5 : (Cond.privateMethod y).before a0 Z = true) (w3 : (Cond.initialized y.cls).before a0 Z = true) (w4 : (Cond.code y bytes maxL rt).before a0 Z = true) (hy : y.cls ≠ "java/lang/invoke/MethodHandle" ∧ y.cls ≠ "java/lang/invoke/VarHandle") (hpd : parseMethodDescriptor y.desc = some ⟨ps, rp⟩) (hlen : as.length = ps.length) (hM : OMeets l y bytes maxL rt rm Z (.ref a :: as) K Q) (hst : st = as.reverse ++ .ref a :: rest) (hls : Ls.size = ml) (W : Nat) (hW : (rest.map fun v => v.category).sum = W) (hf : rm.frames + 1 ≤ R.frames) (hlo : W + (maxL + 11) + rm.locals ≤ R.locals) (hce : cells + rm.cells = cells') (hse : slots + rm.slots = slots') (hc1 : cells' ≤ R.cells) (hs1 : slots' ≤ R.slots) (hr : ∀ T' v K', ONow p l e R s m args below meth c Z own cd ml ret nm T' cells' slots' K' → Q v K' → OGo p e below Φ T' (mkF m (pc + 3) Ls (v.toList ++ rest))) : OGo p e below Φ T (mkF m pc Ls st) := by
  subst hce hse hst
  obtain ⟨locs, X, n1, n2, hx, hZ, hc, hm, ho, r⟩ := N
  obtain ⟨cq, q1, q2⟩ := (n2.exa hi).cell
  have hpv := Cond.privateMethod_at (mvP (args := #[]) hZ w5)
  obtain ⟨ci, ki, i1, i2, -, i4, -⟩ := Cond.instantiable_spec (mv (args := args) hZ wi)
  have hsel : (Cond.selects y.cls y y).before args s = true := selects_self_of_private i1 i2 (by simp only [Bool.or_eq_false_iff] at i4; exact i4.1) hpv (mvT hZ w2) hy
  have := X.privateBack hx (y := y) ho (mvT hZ w1) (mvT hZ w2) hsel hpv (mvT hZ w4) hy (backOf (W := W) (Q := fun v h L => Fr Z.heap.size L ∧ ∃ K', OKnow Z h K' ∧ Q v K') (hM [] T.heap n2) hZ w4 w3 hf hlo) (g := mkF m pc Ls (as.reverse ++ .ref a :: rest)) rfl (by rw [hm]; exact hls) (Steps.refl _) (a := a) q1 q2 (argsL := as) (rest := rest) (lenOf hpd hlen) rfl (by show 2 * 0 + _ ≤ _; rw [Nat.zero_add]; exact Nat.le_of_eq hW) (hb hc hd) (fun _ _ => ⟨rfl, rfl, hc1, hs1⟩)
  obtain ⟨v, vm₁, ⟨T', L', k', n'⟩, -, X', ⟨Lc, ⟨q1, K', q2, q3⟩, e1, e2, e3⟩, stp⟩ := this
  dsimp only [Pt.U, Pt.locs, Pt.cells, Pt.slots] at X' e1 e2 e3 stp q2
  subst e1 e2 e3
  obtain ⟨U, o, h1, h2⟩ := hr T' v K' ⟨_, X', Fr.app n1 q1, q2, hx, hZ, hc, hm, ho, r⟩ q3
  exact ⟨U, o, stp.trans h1, h2⟩
theorem k_doubleBits (N : ONow p l e R s m args below meth c Z own cd ml ret nm T cells slots K) {idx : Nat} {b : UInt64} (W : Nat) (hd : decode cd pc = .ok (.invokestatic idx, 3)) (w1 : (Cond.methodLink own idx Jvm.Free.NT.doubleBitsN).before a0 Z = true) (w2 : (Cond.static Jvm.Free.NT.doubleBitsN).before a0 Z = true) (w3 : (Cond.initialized "java/lang/Double").before a0 Z = true) (w4 : (Cond.native Jvm.Free.NT.doubleBitsN).before a0 Z = true) (hls : Ls.size = ml) (hW : (st.map fun v => v.category).sum = W) (hf : 1 ≤ R.frames) (hlo : W + 15 ≤ R.locals) (hr : ∀ T', ONow p l e R s m args below meth c Z own cd ml ret nm T' cells slots K → OGo p e below Φ T' (mkF m (pc + 3) Ls (.long b.toInt64 :: st))) : OGo p e below Φ T (mkF m pc Ls (.double b :: st)) := by
  obtain ⟨locs, X, n1, n2, hx, hZ, hc, hm, ho, r⟩ := N
  obtain ⟨mk, methM, hnamed, hmethM, -, -, -, hsig⟩ := Cond.native_spec (mvT (args := args) hZ w4)
  obtain ⟨v, vm₁, B, hW₁, X', ⟨hB, hv⟩, stp⟩ := Stand.staticBack X hx (y := Jvm.Free.NT.doubleBitsN) ho (mvT hZ w1) (mvT hZ w2) (mvT hZ w3) hnamed hmethM hsig (by decide) (Jvm.Free.NT.DoubleBits.pays (mvT hZ w4) (mvT hZ w2) hf hlo) (g := mkF m pc Ls (.double b :: st)) rfl (by rw [hm]; exact hls) (Steps.refl _) (argsL := [.double b]) (rest := st) (lenOf (ps := [.double]) (r := some .long) (by decide +kernel) rfl) rfl (by show 2 * 0 + _ ≤ _; rw [Nat.zero_add]; exact Nat.le_of_eq hW) (hb hc hd) (fun _ _ => ⟨b, rfl⟩)
  have hv1 : v = some (.long b.toInt64) := hv b rfl
  subst hB hv1
  obtain ⟨U, o, h1, h2⟩ := hr _ ⟨locs, X', n1, n2, hx, hZ, hc, hm, ho, r⟩
  exact ⟨U, o, stp.trans h1, h2⟩
theorem exa_of_arr {h : Heap} {i : Nat} {a : Addr} {k : ClassId} {ty : FieldType} {vs : List Value} {ad : String} (n2 : OKnow Z h K) (hi : K[i]? = some (oArr Z a k ty vs)) (hk : Z.vm.findClass ad = some k) : Exa Z h a ad := by
  obtain ⟨c, A, h1, -, -⟩ := n2.arr hi
  obtain ⟨q0, kc, q1, comp, q2⟩ := A.2.1
  exact ⟨c, kc, A.1, by rw [h1]; exact hk, q1, A.plain, fun w => by rw [q2] at w; cases w⟩
theorem k_newarrayC (N : ONow p l e R s m args below meth c Z own cd ml ret nm T cells slots K) {aty : ArrayType} {n : Int32} {ty : FieldType} {vs : List Value} {ad : String} (cap : Nat) (hd : decode cd pc = .ok (.newarray aty, 2)) (ht : newarray.typeOf aty = ty) (had : "[" ++ ty.toString = ad) (w : (Cond.arrayClass ty).before a0 Z = true) (hn : ¬ n < 0) (hcap : n.toNatClampNeg ≤ cap) (hb0 : cap * 8 ≤ 536870912) (hv : List.replicate n.toNatClampNeg (defaultValue ty) = vs) (h1 : cells + 1 ≤ R.cells) (h2 : slots + cap ≤ R.slots) (hr : ∀ T' a k, Z.vm.findClass ad = some k → ONow p l e R s m args below meth c Z own cd ml ret nm T' (cells + 1) (slots + cap) (oArr Z a k ty vs :: K) → OGo p e below Φ T' (mkF m (pc + 2) Ls (.ref a :: st))) : OGo p e below Φ T (mkF m pc Ls (.int n :: st)) := by
  subst ht hv had
  obtain ⟨locs, X, n1, n2, hx, hZ, hc, hm, ho, r⟩ := N
  have hcb : componentBytes (newarray.typeOf aty) ≤ 8 := by cases aty <;> decide
  obtain ⟨cA, kA, comp, g1, g2, g3, X', stp⟩ := X.newarrayPrim hx (mvA hZ w) (g := mkF m pc Ls (.int n :: st)) rfl (hb hc hd) rfl hn (Nat.le_trans (Nat.mul_le_mul hcap hcb) hb0) h1 (by omega)
  rw [hZ.alike.findClass] at g1
  obtain ⟨kZ, z1, -⟩ := Vm.findClass_spec g1
  obtain ⟨k', z2, z3⟩ := hZ.alike.2.2 _ _ z1
  cases g2.symm.trans z2
  have kk : kZ.kind = .array comp (newarray.typeOf aty) := by rw [← g3, z3]
  have hN : (T.heap.push (newA cA (newarray.typeOf aty) n))[T.heap.size]? = some (newA cA (newarray.typeOf aty) n) := by simp
  have E : Ext T.heap (T.heap.push (newA cA (newarray.typeOf aty) n)) := ⟨by simp, fun a c h => by rw [Array.getElem?_push_lt (Array.getElem?_eq_some_iff.mp h).1]; exact (Array.getElem?_eq_getElem _).symm.trans h⟩
  have hP : (oArr Z T.heap.size cA (newarray.typeOf aty) (List.replicate n.toNatClampNeg (defaultValue (newarray.typeOf aty)))).2 (newA cA (newarray.typeOf aty) n) := ⟨⟨by simp [newA], kZ, z1, comp, kk⟩, by simp [newA], rfl, by simp [newA], by simp; omega⟩
  obtain ⟨U, o, h1, h2⟩ := hr _ T.heap.size cA g1 ⟨locs, X'.more (Nat.le_refl _) (by omega), n1, n2.cons E hN hP, hx, hZ, hc, hm, ho, r⟩
  exact ⟨U, o, stp _ h1, h2⟩
theorem k_clone (N : ONow p l e R s m args below meth c Z own cd ml ret nm T cells slots K) {idx : Nat} {a : Addr} {k : ClassId} {ty : FieldType} {vs : List Value} {ad : String} (i W cap : Nat) (hd : decode cd pc = .ok (.invokevirtual idx, 3)) (hi : K[i]? = some (oArr Z a k ty vs)) (hk : Z.vm.findClass ad = some k) (hf : ∀ v ∈ vs, fits ty v = true)
    (w1 : (Cond.methodLink own idx ⟨ad, "clone", "()Ljava/lang/Object;"⟩).before a0 Z = true) (w2 : (Cond.sameMethod ad "java/lang/Object" "clone" "()Ljava/lang/Object;").before a0 Z = true) (w3 : (Cond.native ⟨"java/lang/Object", "clone", "()Ljava/lang/Object;"⟩).before a0 Z = true) (w4 : (Cond.instanceMethod ⟨"java/lang/Object", "clone", "()Ljava/lang/Object;"⟩).before a0 Z = true) (w5 : (Cond.selects ad ⟨ad, "clone", "()Ljava/lang/Object;"⟩ ⟨"java/lang/Object", "clone", "()Ljava/lang/Object;"⟩).before a0 Z = true) (w6 : (Cond.castable ad "java/lang/Cloneable").before a0 Z = true)
    (hls : Ls.size = ml) (hW : (st.map fun v => v.category).sum = W) (hfr : 1 ≤ R.frames) (hlo : W + 14 ≤ R.locals) (hcap : vs.length ≤ cap) (h1 : cells + 1 ≤ R.cells) (h2 : slots + cap ≤ R.slots) (hr : ∀ T' b, ONow p l e R s m args below meth c Z own cd ml ret nm T' (cells + 1) (slots + cap) (oArr Z b k ty vs :: K) → OGo p e below Φ T' (mkF m (pc + 3) Ls (.ref b :: st))) : OGo p e below Φ T (mkF m pc Ls (.ref a :: st)) := by
  obtain ⟨locs, X, n1, n2, hx, hZ, hc, hm, ho, r⟩ := N
  obtain ⟨cl, A, A1, A2, A3⟩ := n2.arr hi
  have F : FitC Z cl := fun j v hv => by
    obtain ⟨q0, kc, q1, comp, q2⟩ := A.2.1
    have e : Z.slotType? cl.cls .none j = some ty := by simp [State.slotType?, q1, q2]
    have hm : v ∈ vs := by rw [A2] at hv; exact List.mem_of_getElem? (by simpa using hv)
    simp [State.fitsSlot, e, hf v hm]
  obtain ⟨T', h', X', e', E, B, -, stp⟩ := cloneA X hx hZ ho w1 w2 w3 w4 w5 w6 rfl A (exa_of_arr n2 hi hk) F (g := mkF m pc Ls (.ref a :: st)) rfl (by rw [hm]; exact hls) rfl (hb hc hd) hfr (W := W) (cap := cap) (by show 2 * 0 + _ ≤ _; rw [Nat.zero_add]; exact Nat.le_of_eq hW) hlo (by rw [A2]; simpa using hcap) h1 h2
  subst e'
  have hP : (oArr Z T.heap.size k ty vs).2 (cloneOf cl) := ⟨B.2.1, B.2.2, A1, A2, A3⟩
  obtain ⟨U, o, h1, h2⟩ := hr T' T.heap.size ⟨locs, X', n1, n2.cons E B.1 hP, hx, hZ, hc, hm, ho, r⟩
  exact ⟨U, o, stp _ h1, h2⟩
theorem k_checkcast (N : ONow p l e R s m args below meth c Z own cd ml ret nm T cells slots K) {idx : Nat} {a : Addr} {C : String} (hd : decode cd pc = .ok (.checkcast idx, 3)) (w : (Cond.classLink own idx C).before a0 Z = true) (hI : ∀ h, OKnow Z h K → Ins Z h a C true) (hr : ∀ T', ONow p l e R s m args below meth c Z own cd ml ret nm T' cells slots K → OGo p e below Φ T' (mkF m (pc + 3) Ls (.ref a :: st))) : OGo p e below Φ T (mkF m pc Ls (.ref a :: st)) := by
  obtain ⟨locs, X, n1, n2, hx, hZ, hc, hm, ho, r⟩ := N
  obtain ⟨T', X', e', stp⟩ := castY X hx hZ ho w rfl (hI _ n2) (g := mkF m pc Ls (.ref a :: st)) rfl rfl (hb hc hd)
  obtain ⟨U, o, h1, h2⟩ := hr T' ⟨locs, X', n1, by rw [e']; exact n2, hx, hZ, hc, hm, ho, r⟩
  exact ⟨U, o, stp _ h1, h2⟩
theorem k_absD (N : ONow p l e R s m args below meth c Z own cd ml ret nm T cells slots K) {idx : Nat} {x : UInt64} {bytes : ByteArray} (W : Nat) (hd : decode cd pc = .ok (.invokestatic idx, 3)) (hby : bytes = Jvm.Free.Fl.Abs.absDCode) (w1 : (Cond.methodLink own idx Jvm.Free.Fl.Abs.absDN).before a0 Z = true) (w2 : (Cond.static Jvm.Free.Fl.Abs.absDN).before a0 Z = true) (w3 : (Cond.initialized "java/lang/Math").before a0 Z = true) (w4 : (Cond.code Jvm.Free.Fl.Abs.absDN bytes 2 (some .double)).before a0 Z = true) (hn : Jvm.Free.Fl.NoNaN64 x) (hls : Ls.size = ml) (hW : (st.map fun v => v.category).sum = W) (hf : 1 ≤ R.frames) (hlo : W + 13 ≤ R.locals) (hc1 : cells ≤ R.cells) (hs1 : slots ≤ R.slots) (hr : ∀ T', ONow p l e R s m args below meth c Z own cd ml ret nm T' cells slots K → OGo p e below Φ T' (mkF m (pc + 3) Ls (.double (x &&& 0x7fffffffffffffff) :: st))) : OGo p e below Φ T (mkF m pc Ls (.double x :: st)) := by
  subst hby
  obtain ⟨locs, X, n1, n2, hx, hZ, hc, hm, ho, r⟩ := N
  obtain ⟨T', X', e', stp⟩ := natS X hx hZ ho w1 w2 w3 w4 (by decide) rfl (W := W) (F := fun a' => a' = #[.double x] ∧ Jvm.Free.Fl.NoNaN64 x) (val' := .double (x &&& 0x7fffffffffffffff)) (fun c4 => Jvm.Free.Fl.Abs.absD_pays x c4 hf hlo) (g := mkF m pc Ls (.double x :: st)) rfl (by rw [hm]; exact hls) (argsL := [.double x]) (rest := st) (lenOf (ps := [.double]) (r := some .double) (by decide +kernel) rfl) rfl (by show 2 * 0 + _ ≤ _; rw [Nat.zero_add]; exact Nat.le_of_eq hW) (hb hc hd) hc1 hs1 ⟨rfl, hn⟩ rfl
  obtain ⟨U, o, h1, h2⟩ := hr T' ⟨locs, X', n1, by rw [e']; exact n2, hx, hZ, hc, hm, ho, r⟩
  exact ⟨U, o, stp _ h1, h2⟩
theorem k_alenOld (N : ONow p l e R s m args below meth c Z own cd ml ret nm T cells slots K) {a : Addr} {cl : Cell} {ty : FieldType} {z : Int32} (hd : decode cd pc = .ok (.arraylength, 1)) (A : Arr Z Z.heap a cl ty) (hz : cl.slots.size.toInt32 = z) (hr : OGo p e below Φ T (mkF m (pc + 1) Ls (.int z :: st))) : OGo p e below Φ T (mkF m pc Ls (.ref a :: st)) := by
  subst hz
  obtain ⟨locs, X, n1, n2, hx, hZ, hc, hm, ho, r⟩ := N
  obtain ⟨U, o, h1, h2⟩ := hr
  exact ⟨U, o, X.arraylength hx (A.ext n2.1).1 (State.isArrayOf_alike hZ.alike A.2.1) (g := mkF m pc Ls (.ref a :: st)) rfl rfl (hb hc hd) _ h1, h2⟩
theorem k_aaloadOld (N : ONow p l e R s m args below meth c Z own cd ml ret nm T cells slots K) {a : Addr} {cl : Cell} {ty : FieldType} {j : Int32} {v : Value} (hd : decode cd pc = .ok (.aaload, 1)) (A : Arr Z Z.heap a cl ty) (hrt : ty.isReference = true) (hj : ¬ (j < 0 ∨ cl.slots.size ≤ j.toNatClampNeg)) (hv : cl.slots[j.toNatClampNeg]? = some v) (hr : OGo p e below Φ T (mkF m (pc + 1) Ls (v :: st))) : OGo p e below Φ T (mkF m pc Ls (.int j :: .ref a :: st)) := by
  obtain ⟨locs, X, n1, n2, hx, hZ, hc, hm, ho, r⟩ := N
  obtain ⟨U, o, h1, h2⟩ := hr
  exact ⟨U, o, X.aaload hx (A.ext n2.1).1 (State.isArrayOf_alike hZ.alike A.2.1) hrt A.2.2 hj hv (g := mkF m pc Ls (.int j :: .ref a :: st)) rfl rfl (hb hc hd) _ h1, h2⟩
theorem k_ldcWI (N : ONow p l e R s m args below meth c Z own cd ml ret nm T cells slots K) {i : Nat} {v : Int32} (hd : decode cd pc = .ok (.ldc_w i, 3)) (w : (Cond.constant own i v).before a0 Z = true) (hr : OGo p e below Φ T (mkF m (pc + 3) Ls (.int v :: st))) : OGo p e below Φ T (mkF m pc Ls st) := by
  obtain ⟨_, X, -, -, hx, hZ, hc, -, ho, -⟩ := N
  obtain ⟨U, o, h1, h2⟩ := hr
  exact ⟨U, o, X.ldcWInt hx ho (mv hZ w) (g := mkF m pc Ls st) rfl (hb hc hd) _ h1, h2⟩
theorem k_ireturn (N : ONow p l e R s m args below meth c Z own cd ml ret nm T cells slots K) {z : Int32} {Q : Option Value → List Ent → Prop} {rm : Room} (hd : decode cd pc = .ok (.ireturn, 1)) (hret : ret = some .int) (h1 : cells ≤ rm.cells) (h2 : slots ≤ rm.slots) (hq : Q (some (.int z)) K) : OGo p e below (OPost Z s Q rm) T (mkF m pc Ls (.int z :: st)) := by
  obtain ⟨locs, X, n1, n2, hx, hZ, hc, hm, ho, h5, hnm, h7⟩ := N
  rw [hret] at h5
  obtain ⟨fs, hr, hrun, hended, hW, hsame⟩ := X.leave (v := (some (.int z))) (fun h => by rw [h5] at h; cases h) h7
  exact ⟨_, _, retOut X hx h5 rfl (Or.inl ⟨rfl, Or.inl rfl, z, rfl⟩) (hb hc hd) hr, hrun, hended, _, _, rfl, ⟨n1, K, n2, hq⟩, ⟨_, rfl⟩, hW, hsame.mono h1 h2⟩
theorem k_zreturn (N : ONow p l e R s m args below meth c Z own cd ml ret nm T cells slots K) {z : Int32} {Q : Option Value → List Ent → Prop} {rm : Room} (hd : decode cd pc = .ok (.ireturn, 1)) (hret : ret = some .boolean) (h1 : cells ≤ rm.cells) (h2 : slots ≤ rm.slots) (hq : Q (some (.int (nar .boolean z))) K) : OGo p e below (OPost Z s Q rm) T (mkF m pc Ls (.int z :: st)) := by
  obtain ⟨locs, X, n1, n2, hx, hZ, hc, hm, ho, h5, hnm, h7⟩ := N
  rw [hret] at h5
  obtain ⟨fs, hr, hrun, hended, hW, hsame⟩ := X.leave (v := (some (.int (nar .boolean z)))) (fun h => by rw [h5] at h; cases h) h7
  exact ⟨_, _, retN X hx (t := .boolean) h5 (by simp) (hb hc hd) hr, hrun, hended, _, _, rfl, ⟨n1, K, n2, hq⟩, ⟨_, rfl⟩, hW, hsame.mono h1 h2⟩
theorem k_lreturn (N : ONow p l e R s m args below meth c Z own cd ml ret nm T cells slots K) {z : Int64} {Q : Option Value → List Ent → Prop} {rm : Room} (hd : decode cd pc = .ok (.lreturn, 1)) (hret : ret = some .long) (h1 : cells ≤ rm.cells) (h2 : slots ≤ rm.slots) (hq : Q (some (.long z)) K) : OGo p e below (OPost Z s Q rm) T (mkF m pc Ls (.long z :: st)) := by
  obtain ⟨locs, X, n1, n2, hx, hZ, hc, hm, ho, h5, hnm, h7⟩ := N
  rw [hret] at h5
  obtain ⟨fs, hr, hrun, hended, hW, hsame⟩ := X.leave (v := (some (.long z))) (fun h => by rw [h5] at h; cases h) h7
  exact ⟨_, _, retOut X hx h5 rfl (Or.inr (Or.inl ⟨rfl, rfl, z, rfl⟩)) (hb hc hd) hr, hrun, hended, _, _, rfl, ⟨n1, K, n2, hq⟩, ⟨_, rfl⟩, hW, hsame.mono h1 h2⟩
theorem k_dreturn (N : ONow p l e R s m args below meth c Z own cd ml ret nm T cells slots K) {z : UInt64} {Q : Option Value → List Ent → Prop} {rm : Room} (hd : decode cd pc = .ok (.dreturn, 1)) (hret : ret = some .double) (h1 : cells ≤ rm.cells) (h2 : slots ≤ rm.slots) (hq : Q (some (.double z)) K) : OGo p e below (OPost Z s Q rm) T (mkF m pc Ls (.double z :: st)) := by
  obtain ⟨locs, X, n1, n2, hx, hZ, hc, hm, ho, h5, hnm, h7⟩ := N
  rw [hret] at h5
  obtain ⟨fs, hr, hrun, hended, hW, hsame⟩ := X.leave (v := (some (.double z))) (fun h => by rw [h5] at h; cases h) h7
  exact ⟨_, _, retOut X hx h5 rfl (Or.inr (Or.inr (Or.inl ⟨rfl, rfl, z, rfl⟩))) (hb hc hd) hr, hrun, hended, _, _, rfl, ⟨n1, K, n2, hq⟩, ⟨_, rfl⟩, hW, hsame.mono h1 h2⟩
theorem nar_ref {t : FieldType} {w : Value} (h : w.isRef = true) : narrow t w = w := by cases t <;> cases w <;> first | rfl | cases h
theorem k_areturn (N : ONow p l e R s m args below meth c Z own cd ml ret nm T cells slots K) {w : Value} {t : FieldType} (ht : t.isReference = true) (hw : w.isRef = true) {Q : Option Value → List Ent → Prop} {rm : Room} (hd : decode cd pc = .ok (.areturn, 1)) (hret : ret = some t) (h1 : cells ≤ rm.cells) (h2 : slots ≤ rm.slots) (hq : Q (some w) K) : OGo p e below (OPost Z s Q rm) T (mkF m pc Ls (w :: st)) := by
  obtain ⟨locs, X, n1, n2, hx, hZ, hc, hm, ho, h5, hnm, h7⟩ := N
  rw [hret] at h5
  obtain ⟨fs, hr, hrun, hended, hW, hsame⟩ := X.leave (v := (some w)) (fun h => by rw [h5] at h; cases h) h7
  exact ⟨_, _, retOut X hx h5 (nar_ref hw) (Or.inr (Or.inr (Or.inr (Or.inr ⟨rfl, ht, hw⟩)))) (hb hc hd) hr, hrun, hended, _, _, rfl, ⟨n1, K, n2, hq⟩, ⟨_, rfl⟩, hW, hsame.mono h1 h2⟩
theorem k_return (N : ONow p l e R s m args below meth c Z own cd ml ret nm T cells slots K) {Q : Option Value → List Ent → Prop} {rm : Room} (hd : decode cd pc = .ok (.return_, 1)) (hret : ret = none) (h1 : cells ≤ rm.cells) (h2 : slots ≤ rm.slots) (hq : Q none K) : OGo p e below (OPost Z s Q rm) T (mkF m pc Ls []) := by
  obtain ⟨locs, X, n1, n2, hx, hZ, hc, hm, ho, h5, hnm, h7⟩ := N
  rw [hret] at h5
  obtain ⟨fs, hr, hrun, hended, hW, hsame⟩ := X.leave (v := none) (fun h => by rfl) h7
  exact ⟨_, _, X.returnOut hx h5 (hb hc hd) hr, hrun, hended, _, _, rfl, ⟨n1, K, n2, hq⟩, ⟨_, rfl⟩, hW, hsame.mono h1 h2⟩
end St
end Jvm.Own7
namespace Jvm.Own7F
open Jvm.FP.Core
/-! Laws of the rounded quotient, product and sum, by the values in units of the least double. -/
theorem signed_nonneg_iff {s : Bool} {m : Nat} : 0 < signed s m ↔ s = false ∧ 0 < m := by cases s <;> simp [signed] <;> omega
theorem ratio_le {s : Bool} {A B : Nat} {e e0 : Int} {V : Datum} (hB : 0 < B) (hV : FP.Core.fits b64 V) (hn : V ≠ .nan) (h0 : e0 ≤ b64.qmin) (h0e : e0 ≤ e)
    (h : signed s (inUnits A e e0) ≤ zval b64 V * ((2 ^ (b64.qmin - e0).toNat * B : Nat) : Int)) : zval b64 (roundRatio b64 s A B e) ≤ zval b64 V := by
  have le := zmag_roundRatio_le good_b64 (s := s) (A := A) hB hV hn h0 h0e
  have ge := zmag_roundRatio_ge good_b64 (s := s) (A := A) hB hV h0 h0e
  have hp : 0 < 2 ^ (b64.qmin - e0).toNat * B := Nat.mul_pos (Nat.two_pow_pos _) hB
  rw [Nat.mul_assoc] at le ge
  unfold zval at h ⊢
  rw [sgn_roundRatio]
  generalize 2 ^ (b64.qmin - e0).toNat * B = P at *
  generalize zmag b64 (roundRatio b64 s A B e) = r at *
  generalize inUnits A e e0 = a at *
  generalize zmag b64 V = v at *
  have e1 : ((v * P : Nat) : Int) = (v : Int) * (P : Int) := Int.natCast_mul v P
  generalize sgn V = t at *
  cases s <;> cases t <;> simp only [signed, if_true, Bool.false_eq_true, if_false] at h ⊢
  · have := le (by omega); omega
  · have hz : v * P = 0 := by rw [Int.neg_mul] at h; omega
    have hv : v = 0 := by rcases Nat.mul_eq_zero.mp hz with q | q <;> omega
    have := le (by rw [Int.neg_mul] at h; omega); omega
  · omega
  · have := ge (by rw [Int.neg_mul] at h; omega); omega
theorem ratio_neg (s : Bool) (A B : Nat) (e : Int) : zval b64 (roundRatio b64 (!s) A B e) = -zval b64 (roundRatio b64 s A B e) := by
  have : roundRatio b64 (!s) A B e = negate (roundRatio b64 s A B e) := by
    unfold roundRatio roundAt settle bound
    split
    · rfl
    · split <;> split <;> rfl
  rw [this, zval_negate]
theorem ratio_ge {s : Bool} {A B : Nat} {e e0 : Int} {V : Datum} (hB : 0 < B) (hV : FP.Core.fits b64 V) (hn : V ≠ .nan) (h0 : e0 ≤ b64.qmin) (h0e : e0 ≤ e)
    (h : zval b64 V * ((2 ^ (b64.qmin - e0).toNat * B : Nat) : Int) ≤ signed s (inUnits A e e0)) : zval b64 V ≤ zval b64 (roundRatio b64 s A B e) := by
  have q := ratio_le (s := !s) (A := A) (V := negate V) hB (negate_fits hV) (by cases V <;> first | exact absurd rfl hn | exact Datum.noConfusion) h0 h0e (by
    rw [zval_negate, Int.neg_mul]
    have : signed (!s) (inUnits A e e0) = -signed s (inUnits A e e0) := by cases s <;> simp [signed]
    rw [this]; omega)
  rw [zval_negate, ratio_neg] at q; omega
abbrev z (x : UInt64) : Int := zval b64 (val64 x)
def U : Nat := 2 ^ 1074
theorem qm : b64.qmin = -1074 := by decide
theorem fin_z {x : UInt64} (h : DFin x) : ∃ s c q, val64 x = .fin s c q ∧ -1074 ≤ q := by
  obtain ⟨s, c, q, e⟩ := h
  have f := val64_fits x
  rw [e] at f
  exact ⟨s, c, q, e, by have := f.2.1; rw [qm] at this; exact this⟩
theorem div_val {a b : UInt64} (ha : DFin a) (hb : DFin b) (hz : z b ≠ 0) : val64 (ddiv a b) = roundRatio b64 (sgn (val64 a) != sgn (val64 b)) (zmag b64 (val64 a)) (zmag b64 (val64 b)) 0 := by
  obtain ⟨s, c, q, e1, h1⟩ := fin_z ha
  obtain ⟨t, d, r, e2, h2⟩ := fin_z hb
  rw [val64_ddiv]
  unfold z zval at hz
  rw [e2] at hz
  simp only [sgn, zmag] at hz
  have hd : d ≠ 0 := fun q => hz (by subst q; cases t <;> simp [signed, inUnits])
  rw [e1, e2]
  simp only [quotient, hd, if_false, sgn, zmag, inUnits, qm]
  have p2 := Nat.two_pow_pos (r - -1074).toNat
  refine roundRatio_congr (by omega) (Nat.mul_pos (by omega) p2) ?_
  have x1 : c * (d * 2 ^ (r - -1074).toNat) * 2 ^ (q - r - 0).toNat = c * d * 2 ^ ((r - -1074).toNat + (q - r - 0).toNat) := by rw [Nat.pow_add]; ac_rfl
  have x2 : c * 2 ^ (q - -1074).toNat * d * 2 ^ (0 - (q - r)).toNat = c * d * 2 ^ ((q - -1074).toNat + (0 - (q - r)).toNat) := by rw [Nat.pow_add]; ac_rfl
  rw [x1, x2]
  congr 2; omega
theorem mul_val {a b : UInt64} (ha : DFin a) (hb : DFin b) : val64 (dmul a b) = roundRatio b64 (sgn (val64 a) != sgn (val64 b)) (zmag b64 (val64 a) * zmag b64 (val64 b)) 1 (-2148) := by
  obtain ⟨s, c, q, e1, h1⟩ := fin_z ha
  obtain ⟨t, d, r, e2, h2⟩ := fin_z hb
  rw [val64_dmul, e1, e2]
  simp only [exactProduct, round, sgn, zmag, inUnits, qm]
  refine roundRatio_congr (by decide) (by decide) ?_
  have x1 : c * d * 1 * 2 ^ (q + r - -2148).toNat = c * d * 2 ^ (q + r - -2148).toNat := by rw [Nat.mul_one]
  have x2 : c * 2 ^ (q - -1074).toNat * (d * 2 ^ (r - -1074).toNat) * 1 * 2 ^ (-2148 - (q + r)).toNat = c * d * 2 ^ ((q - -1074).toNat + (r - -1074).toNat + (-2148 - (q + r)).toNat) := by rw [Nat.pow_add, Nat.pow_add]; ac_rfl
  rw [x1, x2]
  congr 2; omega
theorem signed_mul' (s t : Bool) (m n : Nat) : signed (s != t) (m * n) = signed s m * signed t n := by
  cases s <;> cases t <;> simp [signed, Int.natCast_mul, Int.neg_mul, Int.mul_neg]
theorem signed_scale (s : Bool) (m n : Nat) : signed s (m * n) = signed s m * (n : Int) := by cases s <;> simp [signed, Int.natCast_mul, Int.neg_mul]
theorem U_pos : 0 < U := Nat.two_pow_pos _
/-- the quotient by a positive double -/
theorem div_le {a b V : UInt64} (ha : DFin a) (hb : DFin b) (hb0 : 0 < z b) (hV : val64 V ≠ .nan) (h : z a * (U : Int) ≤ z V * z b) : z (ddiv a b) ≤ z V := by
  have hb1 := signed_nonneg_iff.mp (show 0 < signed (sgn (val64 b)) (zmag b64 (val64 b)) from hb0)
  have e : z b = ((zmag b64 (val64 b) : Nat) : Int) := by show signed _ _ = _; rw [hb1.1]; simp [signed]
  show zval b64 (val64 (ddiv a b)) ≤ _
  rw [div_val ha hb (by omega), hb1.1, Bool.bne_false]
  refine ratio_le (e0 := -1074) hb1.2 (val64_fits V) hV (by rw [qm]; omega) (by omega) ?_
  rw [qm]
  simp only [inUnits, show (-1074 - -1074 : Int).toNat = 0 from rfl, show (0 - -1074 : Int).toNat = 1074 from rfl, Nat.pow_zero, Nat.one_mul]
  rw [signed_scale, ← e]; exact h
theorem div_ge {a b V : UInt64} (ha : DFin a) (hb : DFin b) (hb0 : 0 < z b) (hV : val64 V ≠ .nan) (h : z V * z b ≤ z a * (U : Int)) : z V ≤ z (ddiv a b) := by
  have hb1 := signed_nonneg_iff.mp (show 0 < signed (sgn (val64 b)) (zmag b64 (val64 b)) from hb0)
  have e : z b = ((zmag b64 (val64 b) : Nat) : Int) := by show signed _ _ = _; rw [hb1.1]; simp [signed]
  show _ ≤ zval b64 (val64 (ddiv a b))
  rw [div_val ha hb (by omega), hb1.1, Bool.bne_false]
  refine ratio_ge (e0 := -1074) hb1.2 (val64_fits V) hV (by rw [qm]; omega) (by omega) ?_
  rw [qm]
  simp only [inUnits, show (-1074 - -1074 : Int).toNat = 0 from rfl, show (0 - -1074 : Int).toNat = 1074 from rfl, Nat.pow_zero, Nat.one_mul]
  rw [signed_scale, ← e]; exact h
theorem z_l2d {a : Int64} (h : Small53 a) : z (l2d a) = a.toInt * (U : Int) := by
  have q := whole_zval good_b64 (val64_fits _) (l2d_whole h)
  rw [qm] at q; exact q
theorem z_i2d (x : Int32) : z (i2d x) = x.toInt * (U : Int) := by
  have h1 := Int32.toInt_lt x; have h2 := Int32.le_toInt x
  have e : x.toInt64.toInt = x.toInt := Int32.toInt_toInt64 x
  rw [i2d_l2d, z_l2d ⟨by rw [e]; omega, by rw [e]; omega⟩, e]
theorem mul_le {a b V : UInt64} (ha : DFin a) (hb : DFin b) (hV : val64 V ≠ .nan) (h : z a * z b ≤ z V * (U : Int)) : z (dmul a b) ≤ z V := by
  show zval b64 (val64 (dmul a b)) ≤ _
  rw [mul_val ha hb]
  refine ratio_le (e0 := -2148) (by decide) (val64_fits V) hV (by rw [qm]; omega) (by omega) ?_
  rw [qm]
  simp only [inUnits, show (-2148 - -2148 : Int).toNat = 0 from rfl, show (-1074 - -2148 : Int).toNat = 1074 from rfl, Nat.pow_zero, Nat.mul_one]
  rw [signed_mul']; exact h
theorem mul_ge {a b V : UInt64} (ha : DFin a) (hb : DFin b) (hV : val64 V ≠ .nan) (h : z V * (U : Int) ≤ z a * z b) : z V ≤ z (dmul a b) := by
  show _ ≤ zval b64 (val64 (dmul a b))
  rw [mul_val ha hb]
  refine ratio_ge (e0 := -2148) (by decide) (val64_fits V) hV (by rw [qm]; omega) (by omega) ?_
  rw [qm]
  simp only [inUnits, show (-2148 - -2148 : Int).toNat = 0 from rfl, show (-1074 - -2148 : Int).toNat = 1074 from rfl, Nat.pow_zero, Nat.mul_one]
  rw [signed_mul']; exact h
theorem add_le {a b V : UInt64} (ha : DFin a) (hb : DFin b) (hV : val64 V ≠ .nan) (h : z a + z b ≤ z V) : z (dadd a b) ≤ z V := by
  show zval b64 (val64 (dadd a b)) ≤ _
  rw [val64_dadd]; exact sum_le good_b64 ha hb (val64_fits a) (val64_fits b) (val64_fits V) hV h
theorem add_ge {a b V : UInt64} (ha : DFin a) (hb : DFin b) (hV : val64 V ≠ .nan) (h : z V ≤ z a + z b) : z V ≤ z (dadd a b) := by
  show _ ≤ zval b64 (val64 (dadd a b))
  rw [val64_dadd]; exact sum_ge good_b64 ha hb (val64_fits a) (val64_fits b) (val64_fits V) hV h
/-- the magnitudes of roundings are ordered as what was rounded -/
theorem mag_mono {s t : Bool} {A1 B1 A2 B2 : Nat} {e1 e2 e0 : Int} (hB1 : 0 < B1) (hB2 : 0 < B2) (h0 : e0 < b64.qmin) (h1 : e0 ≤ e1) (h2 : e0 ≤ e2)
    (h : inUnits A1 e1 e0 * B2 ≤ inUnits A2 e2 e0 * B1) : zmag b64 (roundRatio b64 s A1 B1 e1) ≤ zmag b64 (roundRatio b64 t A2 B2 e2) := by
  have f1 := roundRatio_fits good_b64 s A1 hB1 e1
  have f2 := roundRatio_fits good_b64 t A2 hB2 e2
  have le := zmag_roundRatio_le good_b64 (s := s) (A := A1) (V := roundRatio b64 t A2 B2 e2) hB1 f2 (by rcases roundRatio_cases b64 t A2 B2 e2 with ⟨c, q, e⟩ | e <;> rw [e] <;> exact Datum.noConfusion) (Int.le_of_lt h0) h1
  have ge := zmag_roundRatio_ge good_b64 (s := t) (A := A2) (V := roundRatio b64 s A1 B1 e1) hB2 f1 (Int.le_of_lt h0) h2
  refine Nat.le_of_not_lt fun lt => ?_
  have top1 := zmag_le_top good_b64 f1
  obtain ⟨c2, q2, r2⟩ : ∃ c2 q2, roundRatio b64 t A2 B2 e2 = .fin t c2 q2 := by
    rcases roundRatio_cases b64 t A2 B2 e2 with r2 | r2
    · exact r2
    · rw [r2] at lt; exact absurd (Nat.lt_of_lt_of_le lt top1) (Nat.lt_irrefl _)
  obtain ⟨c1, q1, r1⟩ : ∃ c1 q1, roundRatio b64 s A1 B1 e1 = .fin s c1 q1 := by
    rcases roundRatio_cases b64 s A1 B1 e1 with r1 | r1
    · exact r1
    have i1 := (roundRatio_inf good_b64 (s := s) (A := A1) hB1 h0 h1).mp r1
    have i2 : roundRatio b64 t A2 B2 e2 = .inf t := (roundRatio_inf good_b64 hB2 h0 h2).mpr (by
      generalize (2 ^ (b64.p + 1) - 1) * 2 ^ (b64.qmax - 1 - e0).toNat = W at *
      have x1 := Nat.mul_le_mul_right B2 i1
      have x2 := Nat.le_trans x1 h
      have x3 : W * B1 * B2 = W * B2 * B1 := by ac_rfl
      rw [x3] at x2
      exact Nat.le_of_mul_le_mul_right x2 hB1)
    rw [r2] at i2; cases i2
  have n1 := roundRatio_nearest good_b64 hB1 r1 (c' := c2) (q' := q2) (by rw [r2] at f2; exact f2.1) (by rw [r2] at f2; exact f2.2.1) (Int.le_of_lt h0) h1
  have n2 := roundRatio_nearest good_b64 hB2 r2 (c' := c1) (q' := q1) (by rw [r1] at f1; exact f1.1) (by rw [r1] at f1; exact f1.2.1) (Int.le_of_lt h0) h2
  have m1 : inUnits c1 q1 e0 = zmag b64 (roundRatio b64 s A1 B1 e1) * 2 ^ (b64.qmin - e0).toNat := by
    rw [r1]; exact inUnits_move c1 (Int.le_of_lt h0) (by rw [r1] at f1; exact f1.2.1)
  have m2 : inUnits c2 q2 e0 = zmag b64 (roundRatio b64 t A2 B2 e2) * 2 ^ (b64.qmin - e0).toNat := by
    rw [r2]; exact inUnits_move c2 (Int.le_of_lt h0) (by rw [r2] at f2; exact f2.2.1)
  unfold distance at n1 n2
  rw [m1, m2] at n1 n2
  have cong : inUnits A1 e1 e0 * B2 = inUnits A2 e2 e0 * B1 → zmag b64 (roundRatio b64 s A1 B1 e1) = zmag b64 (roundRatio b64 t A2 B2 e2) := fun q => by
    have u1 : roundRatio b64 s A1 B1 e1 = roundRatio b64 s (inUnits A1 e1 e0) B1 e0 := roundRatio_congr hB1 hB1 (by
      unfold inUnits; rw [show (e0 - e1).toNat = 0 by omega]; rw [Nat.pow_zero, Nat.mul_one]; ac_rfl)
    have u2 : roundRatio b64 t A2 B2 e2 = roundRatio b64 t (inUnits A2 e2 e0) B2 e0 := roundRatio_congr hB2 hB2 (by
      unfold inUnits; rw [show (e0 - e2).toNat = 0 by omega]; rw [Nat.pow_zero, Nat.mul_one]; ac_rfl)
    have u3 : roundRatio b64 s (inUnits A1 e1 e0) B1 e0 = roundRatio b64 s (inUnits A2 e2 e0) B2 e0 := roundRatio_congr hB1 hB2 (by rw [q])
    rw [u1, u2, u3]
    by_cases w0 : s = t
    · rw [w0]
    · have w : s = !t := by cases s <;> cases t <;> simp_all
      have := ratio_neg t (inUnits A2 e2 e0) B2 e0
      rw [w]
      have v : ∀ s', zmag b64 (roundRatio b64 s' (inUnits A2 e2 e0) B2 e0) = (zval b64 (roundRatio b64 s' (inUnits A2 e2 e0) B2 e0)).natAbs := fun s' => (natAbs_signed _ _).symm
      rw [v, v, this, Int.natAbs_neg]
  generalize 2 ^ (b64.qmin - e0).toNat = P at *
  generalize zmag b64 (roundRatio b64 s A1 B1 e1) = y1 at *
  generalize zmag b64 (roundRatio b64 t A2 B2 e2) = y2 at *
  generalize inUnits A1 e1 e0 = a1 at *
  generalize inUnits A2 e2 e0 = a2 at *
  have g1 : y2 * P * B1 < a1 := Nat.lt_of_not_le fun q => absurd (le q) (Nat.not_le.mpr lt)
  have g2 : a2 < y1 * P * B2 := Nat.lt_of_not_le fun q => absurd (ge q) (Nat.not_le.mpr lt)
  have g3 : a1 < y1 * P * B1 := by
    have x := Nat.mul_lt_mul_of_pos_right g2 hB1
    have : y1 * P * B2 * B1 = y1 * P * B1 * B2 := by ac_rfl
    rw [this] at x
    exact Nat.lt_of_mul_lt_mul_right (Nat.lt_of_le_of_lt h x)
  have g4 : y2 * P * B2 < a2 := by
    have x := Nat.mul_lt_mul_of_pos_right g1 hB2
    have : y2 * P * B1 * B2 = y2 * P * B2 * B1 := by ac_rfl
    rw [this] at x
    exact Nat.lt_of_mul_lt_mul_right (Nat.lt_of_lt_of_le x h)
  have k1 : (y1 * P + y2 * P) * B1 ≤ 2 * a1 := by rw [Nat.add_mul]; simp only [← Int.natCast_mul] at n1; omega
  have k2 : 2 * a2 ≤ (y1 * P + y2 * P) * B2 := by rw [Nat.add_mul]; simp only [← Int.natCast_mul] at n2; omega
  have k3 := Nat.mul_le_mul_right B2 k1
  have k4 := Nat.mul_le_mul_right B1 k2
  have k5 : (y1 * P + y2 * P) * B1 * B2 = (y1 * P + y2 * P) * B2 * B1 := by ac_rfl
  have k6 : a1 * B2 = a2 * B1 := by
    rw [k5] at k3
    have := Nat.le_trans k4 k3
    rw [Nat.mul_assoc, Nat.mul_assoc] at this
    omega
  exact absurd (cong k6) (Nat.ne_of_gt lt)
theorem ratio_mono {s t : Bool} {A1 B1 A2 B2 : Nat} {e1 e2 e0 : Int} (hB1 : 0 < B1) (hB2 : 0 < B2) (h0 : e0 < b64.qmin) (h1 : e0 ≤ e1) (h2 : e0 ≤ e2)
    (h : signed s (inUnits A1 e1 e0) * (B2 : Int) ≤ signed t (inUnits A2 e2 e0) * (B1 : Int)) : zval b64 (roundRatio b64 s A1 B1 e1) ≤ zval b64 (roundRatio b64 t A2 B2 e2) := by
  have p := mag_mono (s := s) (t := t) (A1 := A1) (A2 := A2) hB1 hB2 h0 h1 h2
  have q := mag_mono (s := t) (t := s) (A1 := A2) (A2 := A1) hB2 hB1 h0 h2 h1
  have zz : ∀ {s' : Bool} {A B : Nat} {e : Int}, 0 < B → e0 ≤ e → inUnits A e e0 = 0 → zmag b64 (roundRatio b64 s' A B e) = 0 := fun {s' A B e} hB he hz => by
    have hA : A = 0 := by
      unfold inUnits at hz
      rcases Nat.mul_eq_zero.mp hz with w | w
      · exact w
      · exact absurd w (Nat.ne_of_gt (Nat.two_pow_pos _))
    unfold roundRatio; rw [if_pos hA]; simp [zmag, inUnits]
  have z1 := zz (s' := s) (A := A1) hB1 h1
  have z2 := zz (s' := t) (A := A2) hB2 h2
  unfold zval
  rw [sgn_roundRatio, sgn_roundRatio]
  generalize zmag b64 (roundRatio b64 s A1 B1 e1) = y1 at *
  generalize zmag b64 (roundRatio b64 t A2 B2 e2) = y2 at *
  generalize inUnits A1 e1 e0 = a1 at *
  generalize inUnits A2 e2 e0 = a2 at *
  have x1 : ((a1 * B2 : Nat) : Int) = (a1 : Int) * (B2 : Int) := Int.natCast_mul _ _
  have x2 : ((a2 * B1 : Nat) : Int) = (a2 : Int) * (B1 : Int) := Int.natCast_mul _ _
  cases s <;> cases t <;> simp only [signed, if_true, Bool.false_eq_true, if_false] at h ⊢
  · have := p (by omega); omega
  · rw [Int.neg_mul] at h
    have w1 : a1 * B2 = 0 := by omega
    have w2 : a2 * B1 = 0 := by omega
    have v1 := z1 (by rcases Nat.mul_eq_zero.mp w1 with w | w <;> omega)
    have v2 := z2 (by rcases Nat.mul_eq_zero.mp w2 with w | w <;> omega)
    omega
  · omega
  · rw [Int.neg_mul, Int.neg_mul] at h
    have := q (by omega); omega
theorem div_mono {a b c d : UInt64} (ha : DFin a) (hb : DFin b) (hc : DFin c) (hd : DFin d) (hb0 : 0 < z b) (hd0 : 0 < z d) (h : z a * z d ≤ z c * z b) : z (ddiv a b) ≤ z (ddiv c d) := by
  have hb1 := signed_nonneg_iff.mp (show 0 < signed (sgn (val64 b)) (zmag b64 (val64 b)) from hb0)
  have hd1 := signed_nonneg_iff.mp (show 0 < signed (sgn (val64 d)) (zmag b64 (val64 d)) from hd0)
  have eb : z b = ((zmag b64 (val64 b) : Nat) : Int) := by show signed _ _ = _; rw [hb1.1]; simp [signed]
  have ed : z d = ((zmag b64 (val64 d) : Nat) : Int) := by show signed _ _ = _; rw [hd1.1]; simp [signed]
  show zval b64 (val64 (ddiv a b)) ≤ zval b64 (val64 (ddiv c d))
  rw [div_val ha hb (by omega), div_val hc hd (by omega), hb1.1, hd1.1, Bool.bne_false, Bool.bne_false]
  refine ratio_mono (e0 := -1075) hb1.2 hd1.2 (by rw [qm]; omega) (by omega) (by omega) ?_
  simp only [inUnits, signed_scale]
  rw [← eb, ← ed]
  have e1 : signed (sgn (val64 a)) (zmag b64 (val64 a)) = z a := rfl
  have e2 : signed (sgn (val64 c)) (zmag b64 (val64 c)) = z c := rfl
  rw [e1, e2, Int.mul_right_comm, Int.mul_right_comm (z c)]
  exact Int.mul_le_mul_of_nonneg_right h (Int.natCast_nonneg _)
theorem mul_mono {a b c : UInt64} (ha : DFin a) (hb : DFin b) (hc : DFin c) (h : z a * z b ≤ z a * z c) : z (dmul a b) ≤ z (dmul a c) := by
  show zval b64 (val64 (dmul a b)) ≤ zval b64 (val64 (dmul a c))
  rw [mul_val ha hb, mul_val ha hc]
  refine ratio_mono (e0 := -2148) (by decide) (by decide) (by rw [qm]; omega) (by omega) (by omega) ?_
  simp only [inUnits, show (-2148 - -2148 : Int).toNat = 0 from rfl, Nat.pow_zero, Nat.mul_one, signed_mul']
  have : ((1 : Nat) : Int) = 1 := rfl
  rw [this, Int.mul_one, Int.mul_one]; exact h
theorem add_val {a b : UInt64} (ha : DFin a) (hb : DFin b) : ∃ s, val64 (dadd a b) = roundRatio b64 s (z a + z b).natAbs 1 (-1074) ∧ signed s (z a + z b).natAbs = z a + z b := by
  obtain ⟨s, c, q, e1, h1⟩ := fin_z ha
  obtain ⟨t, d, r, e2, h2⟩ := fin_z hb
  have hz : z a + z b = sumUnits s c q t d r (-1074) := by
    unfold z zval; rw [e1, e2]; simp only [sgn, zmag, qm, sumUnits]
  have hm : sumUnits s c q t d r (-1074) = sumUnits s c q t d r (min q r) * ((2 ^ (min q r - -1074).toNat : Nat) : Int) := by
    unfold sumUnits
    rw [inUnits_move c (r := min q r) (by omega) (by omega), inUnits_move d (r := min q r) (by omega) (by omega), signed_mul, signed_mul, Int.add_mul]
  refine ⟨sumSign s t (sumUnits s c q t d r (min q r)), ?_, ?_⟩
  · rw [val64_dadd, e1, e2]
    simp only [exactSum, round]
    refine roundRatio_congr (by decide) (by decide) ?_
    rw [hz, hm, Int.natAbs_mul, Int.natAbs_natCast, Nat.mul_one, Nat.mul_one]
    rw [show (-1074 - min q r).toNat = 0 by omega, Nat.pow_zero, Nat.mul_one]
  · rw [hz, hm, Int.natAbs_mul, Int.natAbs_natCast, signed_mul]
    congr 1
    generalize sumUnits s c q t d r (min q r) = v
    unfold sumSign
    by_cases w : v = 0
    · subst w; simp [signed]
    · rw [if_neg w]
      by_cases w2 : v < 0
      · simp [w2, signed]; omega
      · simp [w2, signed]; omega
theorem add_mono {a b c : UInt64} (ha : DFin a) (hb : DFin b) (hc : DFin c) (h : z b ≤ z c) : z (dadd a b) ≤ z (dadd a c) := by
  obtain ⟨s, e1, s1⟩ := add_val ha hb
  obtain ⟨t, e2, s2⟩ := add_val ha hc
  show zval b64 (val64 (dadd a b)) ≤ zval b64 (val64 (dadd a c))
  rw [e1, e2]
  refine ratio_mono (e0 := -1075) (by decide) (by decide) (by rw [qm]; omega) (by omega) (by omega) ?_
  simp only [inUnits, show (-1074 - -1075 : Int).toNat = 1 from rfl, signed_scale, s1, s2]
  have : ((2 ^ 1 : Nat) : Int) = 2 := rfl
  have : ((1 : Nat) : Int) = 1 := rfl
  omega
/-- every v * 2^-t with v below 2^53 is a double -/
theorem grid {v : Nat} (hv : v < 9007199254740992) (t : Nat) (ht : t ≤ 1000) : ∃ V : UInt64, DFin V ∧ z V = ((v * 2 ^ (1074 - t) : Nat) : Int) := by
  by_cases h0 : v = 0
  · subst h0
    exact ⟨0, ⟨false, 0, _, val64_zero⟩, by rw [Nat.zero_mul]; exact zval64_zero⟩
  have e : (Int64.ofNat v).toInt = (v : Int) := by
    exact Int64.toInt_ofNat_of_lt (by omega)
  have w := l2d_whole (a := Int64.ofNat v) ⟨by rw [e]; omega, by rw [e]; omega⟩
  obtain ⟨s, c, q, e1, h1⟩ := fin_z (l2d_fin (Int64.ofNat v))
  have f := val64_fits (l2d (Int64.ofNat v))
  rw [e1] at f w
  rw [e] at w
  have w' : signed s (c * 2 ^ q.toNat) = (v : Int) * ((2 ^ (-q).toNat : Nat) : Int) := w
  have hs : s = false ∧ c * 2 ^ q.toNat = v * 2 ^ (-q).toNat := by
    have hp := Nat.two_pow_pos (-q).toNat
    have hpos : 0 < v * 2 ^ (-q).toNat := Nat.mul_pos (by omega) hp
    have e3 : ((v * 2 ^ (-q).toNat : Nat) : Int) = (v : Int) * ((2 ^ (-q).toNat : Nat) : Int) := Int.natCast_mul _ _
    rw [← e3] at w'
    generalize c * 2 ^ q.toNat = X at *
    generalize v * 2 ^ (-q).toNat = Y at *
    cases s <;> simp [signed] at w'
    · exact ⟨rfl, by omega⟩
    · omega
  obtain ⟨rfl, hc⟩ := hs
  have hq : -53 < q := by
    refine Int.lt_of_not_ge fun hq => ?_
    have c1 : c < 2 ^ 53 := f.1
    rw [show q.toNat = 0 by omega, Nat.pow_zero, Nat.mul_one] at hc
    have p2 : 2 ^ 53 ≤ 2 ^ (-q).toNat := Nat.pow_le_pow_right (by decide) (by omega)
    have := Nat.le_mul_of_pos_left (2 ^ (-q).toNat) (show 0 < v by omega)
    omega
  have hfit : FP.Core.fits b64 (.fin false c (q - t)) := by
    refine ⟨f.1, by rw [qm]; omega, by have := f.2.2.1; omega, ?_⟩
    rcases f.2.2.2 with w | w
    · rw [qm] at w; omega
    · exact Or.inr w
  refine ⟨of64 (.fin false c (q - t)), ⟨false, c, q - t, val64_of64 hfit⟩, ?_⟩
  show zval b64 (val64 _) = _
  rw [val64_of64 hfit]
  show signed false (inUnits c (q - t) b64.qmin) = _
  rw [qm]
  unfold inUnits
  simp only [signed, Bool.false_eq_true, if_false]
  congr 1
  have k1 : c * 2 ^ (q - t - -1074).toNat * 2 ^ (-q).toNat = c * 2 ^ q.toNat * 2 ^ (1074 - t) := by
    rw [Nat.mul_assoc, Nat.mul_assoc, ← Nat.pow_add, ← Nat.pow_add]; congr 2; omega
  rw [hc] at k1
  have k2 : v * 2 ^ (-q).toNat * 2 ^ (1074 - t) = v * 2 ^ (1074 - t) * 2 ^ (-q).toNat := by ac_rfl
  rw [k2] at k1
  exact Nat.eq_of_mul_eq_mul_right (Nat.two_pow_pos _) k1
theorem fne {x : UInt64} (h : DFin x) : val64 x ≠ .nan := by obtain ⟨s, c, q, e⟩ := h; rw [e]; exact Datum.noConfusion
theorem same_bits {a b : UInt64} (ha : DFin a) (hb : DFin b) (h : z a = z b) (h0 : z b ≠ 0) : a = b :=
  eq_bits (fun q => h0 q.zval) (dcmp_eq.mpr ⟨fne ha, fne hb, h⟩)
theorem alg1 {n u p q : Int} (hu : u = p * q) : n * u * u = n * q * (p * u) := by
  have : n * u * u = n * (p * q) * u := by rw [← hu]
  rw [this]; ac_rfl
theorem alg2 (v p d u : Int) : v * p * (d * u) = v * d * (p * u) := by ac_rfl
theorem U_split {t : Nat} (ht : t ≤ 1074) : (U : Int) = ((2 ^ (1074 - t) : Nat) : Int) * ((2 ^ t : Nat) : Int) := by
  rw [← Int.natCast_mul, ← Nat.pow_add, Nat.sub_add_cancel ht]; rfl
theorem idiv_le {n d : Int64} (hn : Small53 n) (hd : Small53 d) (h0 : 0 < d.toInt) {V : UInt64} (hV : val64 V ≠ .nan) {v : Int} (t : Nat) (ht : t ≤ 1074) (hz : z V = v * ((2 ^ (1074 - t) : Nat) : Int)) (h : n.toInt * ((2 ^ t : Nat) : Int) ≤ v * d.toInt) : z (ddiv (l2d n) (l2d d)) ≤ z V := by
  have hU : (0 : Int) < (U : Int) := Int.natCast_pos.mpr U_pos
  refine div_le (l2d_fin n) (l2d_fin d) (by rw [z_l2d hd]; exact Int.mul_pos h0 hU) hV ?_
  rw [z_l2d hn, z_l2d hd, hz]
  have e1 : n.toInt * (U : Int) * (U : Int) = n.toInt * ((2 ^ t : Nat) : Int) * (((2 ^ (1074 - t) : Nat) : Int) * (U : Int)) := alg1 (U_split ht)
  have e2 : v * ((2 ^ (1074 - t) : Nat) : Int) * (d.toInt * (U : Int)) = v * d.toInt * (((2 ^ (1074 - t) : Nat) : Int) * (U : Int)) := alg2 _ _ _ _
  rw [e1, e2]
  exact Int.mul_le_mul_of_nonneg_right h (Int.mul_nonneg (Int.natCast_nonneg _) (Int.natCast_nonneg _))
theorem idiv_ge {n d : Int64} (hn : Small53 n) (hd : Small53 d) (h0 : 0 < d.toInt) {V : UInt64} (hV : val64 V ≠ .nan) {v : Int} (t : Nat) (ht : t ≤ 1074) (hz : z V = v * ((2 ^ (1074 - t) : Nat) : Int)) (h : v * d.toInt ≤ n.toInt * ((2 ^ t : Nat) : Int)) : z V ≤ z (ddiv (l2d n) (l2d d)) := by
  have hU : (0 : Int) < (U : Int) := Int.natCast_pos.mpr U_pos
  refine div_ge (l2d_fin n) (l2d_fin d) (by rw [z_l2d hd]; exact Int.mul_pos h0 hU) hV ?_
  rw [z_l2d hn, z_l2d hd, hz]
  have e1 : n.toInt * (U : Int) * (U : Int) = n.toInt * ((2 ^ t : Nat) : Int) * (((2 ^ (1074 - t) : Nat) : Int) * (U : Int)) := alg1 (U_split ht)
  have e2 : v * ((2 ^ (1074 - t) : Nat) : Int) * (d.toInt * (U : Int)) = v * d.toInt * (((2 ^ (1074 - t) : Nat) : Int) * (U : Int)) := alg2 _ _ _ _
  rw [e1, e2]
  exact Int.mul_le_mul_of_nonneg_right h (Int.mul_nonneg (Int.natCast_nonneg _) (Int.natCast_nonneg _))
theorem idiv_mono {n d n' d' : Int64} (hn : Small53 n) (hd : Small53 d) (hn' : Small53 n') (hd' : Small53 d') (h0 : 0 < d.toInt) (h0' : 0 < d'.toInt) (h : n.toInt * d'.toInt ≤ n'.toInt * d.toInt) : z (ddiv (l2d n) (l2d d)) ≤ z (ddiv (l2d n') (l2d d')) := by
  have hU : (0 : Int) < (U : Int) := Int.natCast_pos.mpr U_pos
  refine div_mono (l2d_fin n) (l2d_fin d) (l2d_fin n') (l2d_fin d') (by rw [z_l2d hd]; exact Int.mul_pos h0 hU) (by rw [z_l2d hd']; exact Int.mul_pos h0' hU) ?_
  rw [z_l2d hn, z_l2d hd, z_l2d hn', z_l2d hd']
  have e1 : n.toInt * (U : Int) * (d'.toInt * (U : Int)) = n.toInt * d'.toInt * ((U : Int) * (U : Int)) := alg2 _ _ _ _
  have e2 : n'.toInt * (U : Int) * (d.toInt * (U : Int)) = n'.toInt * d.toInt * ((U : Int) * (U : Int)) := alg2 _ _ _ _
  rw [e1, e2]
  exact Int.mul_le_mul_of_nonneg_right h (Int.mul_nonneg (Int.natCast_nonneg _) (Int.natCast_nonneg _))
theorem cmp_z {x y : UInt64} (hx : val64 x ≠ .nan) (hy : val64 y ≠ .nan) (o : ClassFile.CmpOp) : Op.cmpValue (dcmp x y) o = if z x < z y then -1 else if z x = z y then 0 else 1 := by
  rw [dcmp_zval hx hy, compare_ite]
  by_cases h1 : z x < z y
  · simp [h1]; cases o <;> rfl
  · by_cases h2 : z x = z y
    · simp [h2]; cases o <;> rfl
    · simp [h1, h2]; cases o <;> rfl
theorem nn_val {x : UInt64} (h : Jvm.Free.Fl.NoNaN64 x) : val64 x ≠ .nan := Jvm.Free.Fl.val64_no.mp h
theorem cmp3_le {a b : Int} (h : a ≤ b) : ¬ (0 : Int32) < (if a < b then -1 else if a = b then 0 else 1) := by
  by_cases q : a < b
  · rw [if_pos q]; decide
  · rw [if_neg q, if_pos (by omega)]; decide
theorem cmp3_ge {a b : Int} (h : b ≤ a) : ¬ (if a < b then (-1 : Int32) else if a = b then 0 else 1) < 0 := by
  rw [if_neg (by omega)]
  by_cases q : a = b
  · rw [if_pos q]; decide
  · rw [if_neg q]; decide
end Jvm.Own7F
namespace Jvm.Pilot.@@N@@
open Jvm Jvm.ClassFile Sem Op Lib Jvm.Free Jvm.Stand Jvm.LawKit Jvm.RoadKit Bundle Jvm.Own7 Jvm.Own7F Jvm.FP Jvm.Free.Fl Jvm.Pilot.@@N@@.Jvm.D
theorem d4_0 : decode prog_5_method_52_code 0 = .ok (.iload_n 0, 1) := by decide +kernel
theorem d4_1 : decode prog_5_method_52_code 1 = .ok (.ifCond .lt 9, 3) := by decide +kernel
theorem d4_4 : decode prog_5_method_52_code 4 = .ok (.iload_n 0, 1) := by decide +kernel
theorem d4_5 : decode prog_5_method_52_code 5 = .ok (.bipush 31, 2) := by decide +kernel
theorem d4_7 : decode prog_5_method_52_code 7 = .ok (.if_icmp .le 17, 3) := by decide +kernel
theorem d4_24 : decode prog_5_method_52_code 24 = .ok (.iload_n 0, 1) := by decide +kernel
theorem d4_25 : decode prog_5_method_52_code 25 = .ok (.ireturn, 1) := by decide +kernel
theorem pn_com_example_tapflow_tapflow_MotionEvent : plainName "com/example/tapflow/tapflow/MotionEvent" = true := by first | (simp [plainName, overriddenIn]; done) | decide +kernel
theorem d5_0 : decode prog_5_method_53_code 0 = .ok (.dload_n 0, 1) := by decide +kernel
theorem d5_1 : decode prog_5_method_53_code 1 = .ok (.invokestatic 274, 3) := by decide +kernel
theorem d5_4 : decode prog_5_method_53_code 4 = .ok (.ldc2_w 278, 3) := by decide +kernel
theorem d5_7 : decode prog_5_method_53_code 7 = .ok (.dcmp .g, 1) := by decide +kernel
theorem d5_8 : decode prog_5_method_53_code 8 = .ok (.ifCond .gt 7, 3) := by decide +kernel
theorem d5_11 : decode prog_5_method_53_code 11 = .ok (.iconst 1, 1) := by decide +kernel
theorem d5_12 : decode prog_5_method_53_code 12 = .ok (.goto 4, 3) := by decide +kernel
theorem d5_16 : decode prog_5_method_53_code 16 = .ok (.ireturn, 1) := by decide +kernel
theorem d9_0 : decode prog_5_method_55_code 0 = .ok (.iload_n 0, 1) := by decide +kernel
theorem d9_1 : decode prog_5_method_55_code 1 = .ok (.sipush 255, 3) := by decide +kernel
theorem d9_4 : decode prog_5_method_55_code 4 = .ok (.iand, 1) := by decide +kernel
theorem d9_5 : decode prog_5_method_55_code 5 = .ok (.istore_n 1, 1) := by decide +kernel
theorem d9_6 : decode prog_5_method_55_code 6 = .ok (.iload_n 1, 1) := by decide +kernel
theorem d9_7 : decode prog_5_method_55_code 7 = .ok (.iconst 5, 1) := by decide +kernel
theorem d9_8 : decode prog_5_method_55_code 8 = .ok (.if_icmp .eq 9, 3) := by decide +kernel
theorem d9_11 : decode prog_5_method_55_code 11 = .ok (.iload_n 1, 1) := by decide +kernel
theorem d9_12 : decode prog_5_method_55_code 12 = .ok (.bipush 6, 2) := by decide +kernel
theorem d9_14 : decode prog_5_method_55_code 14 = .ok (.if_icmp .ne 7, 3) := by decide +kernel
theorem d9_21 : decode prog_5_method_55_code 21 = .ok (.iconst 0, 1) := by decide +kernel
theorem d9_22 : decode prog_5_method_55_code 22 = .ok (.ireturn, 1) := by decide +kernel
theorem d8_0 : decode prog_5_method_51_code 0 = .ok (.iload_n 0, 1) := by decide +kernel
theorem d8_1 : decode prog_5_method_51_code 1 = .ok (.sipush 255, 3) := by decide +kernel
theorem d8_4 : decode prog_5_method_51_code 4 = .ok (.iand, 1) := by decide +kernel
theorem d8_5 : decode prog_5_method_51_code 5 = .ok (.istore_n 1, 1) := by decide +kernel
theorem d8_6 : decode prog_5_method_51_code 6 = .ok (.iload_n 0, 1) := by decide +kernel
theorem d8_7 : decode prog_5_method_51_code 7 = .ok (.ldc_w 272, 3) := by decide +kernel
theorem d8_10 : decode prog_5_method_51_code 10 = .ok (.iand, 1) := by decide +kernel
theorem d8_11 : decode prog_5_method_51_code 11 = .ok (.ifCond .ne 7, 3) := by decide +kernel
theorem d8_14 : decode prog_5_method_51_code 14 = .ok (.iconst 1, 1) := by decide +kernel
theorem d8_15 : decode prog_5_method_51_code 15 = .ok (.goto 4, 3) := by decide +kernel
theorem d8_19 : decode prog_5_method_51_code 19 = .ok (.istore_n 2, 1) := by decide +kernel
theorem d8_20 : decode prog_5_method_51_code 20 = .ok (.iload_n 2, 1) := by decide +kernel
theorem d8_21 : decode prog_5_method_51_code 21 = .ok (.ifCond .eq 19, 3) := by decide +kernel
theorem d8_24 : decode prog_5_method_51_code 24 = .ok (.iload_n 1, 1) := by decide +kernel
theorem d8_25 : decode prog_5_method_51_code 25 = .ok (.getstatic 231, 3) := by decide +kernel
theorem d8_28 : decode prog_5_method_51_code 28 = .ok (.arraylength, 1) := by decide +kernel
theorem d8_29 : decode prog_5_method_51_code 29 = .ok (.if_icmp .ge 11, 3) := by decide +kernel
theorem d8_32 : decode prog_5_method_51_code 32 = .ok (.getstatic 231, 3) := by decide +kernel
theorem d8_35 : decode prog_5_method_51_code 35 = .ok (.iload_n 1, 1) := by decide +kernel
theorem d8_36 : decode prog_5_method_51_code 36 = .ok (.aaload, 1) := by decide +kernel
theorem d8_37 : decode prog_5_method_51_code 37 = .ok (.goto 4, 3) := by decide +kernel
theorem d8_41 : decode prog_5_method_51_code 41 = .ok (.areturn, 1) := by decide +kernel
theorem d7_0 : decode prog_5_method_8_code 0 = .ok (.iload_n 1, 1) := by decide +kernel
theorem d7_1 : decode prog_5_method_8_code 1 = .ok (.invokestatic 76, 3) := by decide +kernel
theorem pd__I_Ljava_lang_String_ : parseMethodDescriptor "(I)Ljava/lang/String;" = some ⟨[.int], some (.object "java/lang/String")⟩ := by decide +kernel
theorem d7_4 : decode prog_5_method_8_code 4 = .ok (.astore_n 2, 1) := by decide +kernel
theorem d7_5 : decode prog_5_method_8_code 5 = .ok (.aload_n 2, 1) := by decide +kernel
theorem d7_6 : decode prog_5_method_8_code 6 = .ok (.ifnonnull 17, 3) := by decide +kernel
theorem d7_23 : decode prog_5_method_8_code 23 = .ok (.iload_n 1, 1) := by decide +kernel
theorem d7_24 : decode prog_5_method_8_code 24 = .ok (.sipush 255, 3) := by decide +kernel
theorem d7_27 : decode prog_5_method_8_code 27 = .ok (.iand, 1) := by decide +kernel
theorem d7_28 : decode prog_5_method_8_code 28 = .ok (.istore_n 3, 1) := by decide +kernel
theorem d7_29 : decode prog_5_method_8_code 29 = .ok (.iload_n 1, 1) := by decide +kernel
theorem d7_30 : decode prog_5_method_8_code 30 = .ok (.ldc 75, 2) := by decide +kernel
theorem d7_32 : decode prog_5_method_8_code 32 = .ok (.iand, 1) := by decide +kernel
theorem d7_33 : decode prog_5_method_8_code 33 = .ok (.bipush 8, 2) := by decide +kernel
theorem d7_35 : decode prog_5_method_8_code 35 = .ok (.ishr, 1) := by decide +kernel
theorem d7_36 : decode prog_5_method_8_code 36 = .ok (.istore 4, 2) := by decide +kernel
theorem d7_38 : decode prog_5_method_8_code 38 = .ok (.aload_n 0, 1) := by decide +kernel
theorem d7_39 : decode prog_5_method_8_code 39 = .ok (.getfield 57, 3) := by decide +kernel
theorem d7_42 : decode prog_5_method_8_code 42 = .ok (.arraylength, 1) := by decide +kernel
theorem d7_43 : decode prog_5_method_8_code 43 = .ok (.istore 5, 2) := by decide +kernel
theorem d7_45 : decode prog_5_method_8_code 45 = .ok (.iload_n 3, 1) := by decide +kernel
theorem d7_46 : decode prog_5_method_8_code 46 = .ok (.invokestatic 82, 3) := by decide +kernel
theorem pd__I_Z : parseMethodDescriptor "(I)Z" = some ⟨[.int], some .boolean⟩ := by decide +kernel
theorem d7_49 : decode prog_5_method_8_code 49 = .ok (.ifCond .eq 24, 3) := by decide +kernel
theorem d7_73 : decode prog_5_method_8_code 73 = .ok (.iload 4, 2) := by decide +kernel
theorem d7_75 : decode prog_5_method_8_code 75 = .ok (.ifCond .ne 23, 3) := by decide +kernel
theorem d7_78 : decode prog_5_method_8_code 78 = .ok (.iload 5, 2) := by decide +kernel
theorem d7_80 : decode prog_5_method_8_code 80 = .ok (.iconst 1, 1) := by decide +kernel
theorem d7_81 : decode prog_5_method_8_code 81 = .ok (.if_icmp .eq 13, 3) := by decide +kernel
theorem d7_94 : decode prog_5_method_8_code 94 = .ok (.iconst 1, 1) := by decide +kernel
theorem d7_95 : decode prog_5_method_8_code 95 = .ok (.goto 4, 3) := by decide +kernel
theorem d7_99 : decode prog_5_method_8_code 99 = .ok (.istore 6, 2) := by decide +kernel
theorem d7_101 : decode prog_5_method_8_code 101 = .ok (.iload 6, 2) := by decide +kernel
theorem d7_103 : decode prog_5_method_8_code 103 = .ok (.ifCond .ne 21, 3) := by decide +kernel
theorem d7_124 : decode prog_5_method_8_code 124 = .ok (.aload_n 0, 1) := by decide +kernel
theorem d7_125 : decode prog_5_method_8_code 125 = .ok (.iload_n 1, 1) := by decide +kernel
theorem d7_126 : decode prog_5_method_8_code 126 = .ok (.putfield 72, 3) := by decide +kernel
theorem d7_129 : decode prog_5_method_8_code 129 = .ok (.return_, 1) := by decide +kernel
theorem d7_84 : decode prog_5_method_8_code 84 = .ok (.iload_n 3, 1) := by decide +kernel
theorem d7_85 : decode prog_5_method_8_code 85 = .ok (.iconst 2, 1) := by decide +kernel
theorem d7_86 : decode prog_5_method_8_code 86 = .ok (.if_icmp .eq 8, 3) := by decide +kernel
theorem d2_0 : decode prog_5_method_2_code 0 = .ok (.aload_n 0, 1) := by decide +kernel
theorem d2_1 : decode prog_5_method_2_code 1 = .ok (.invokespecial 9, 3) := by decide +kernel
theorem d2_4 : decode prog_5_method_2_code 4 = .ok (.aload_n 0, 1) := by decide +kernel
theorem d2_5 : decode prog_5_method_2_code 5 = .ok (.getstatic 14, 3) := by decide +kernel
theorem d2_8 : decode prog_5_method_2_code 8 = .ok (.putfield 18, 3) := by decide +kernel
theorem d2_11 : decode prog_5_method_2_code 11 = .ok (.aload_n 0, 1) := by decide +kernel
theorem d2_12 : decode prog_5_method_2_code 12 = .ok (.iconst (-1), 1) := by decide +kernel
theorem d2_13 : decode prog_5_method_2_code 13 = .ok (.putfield 21, 3) := by decide +kernel
theorem d2_16 : decode prog_5_method_2_code 16 = .ok (.aload 4, 2) := by decide +kernel
theorem d2_18 : decode prog_5_method_2_code 18 = .ok (.arraylength, 1) := by decide +kernel
theorem d2_19 : decode prog_5_method_2_code 19 = .ok (.ifCond .eq 21, 3) := by decide +kernel
theorem d2_22 : decode prog_5_method_2_code 22 = .ok (.aload 5, 2) := by decide +kernel
theorem d2_24 : decode prog_5_method_2_code 24 = .ok (.arraylength, 1) := by decide +kernel
theorem d2_25 : decode prog_5_method_2_code 25 = .ok (.aload 4, 2) := by decide +kernel
theorem d2_27 : decode prog_5_method_2_code 27 = .ok (.arraylength, 1) := by decide +kernel
theorem d2_28 : decode prog_5_method_2_code 28 = .ok (.if_icmp .ne 12, 3) := by decide +kernel
theorem d2_31 : decode prog_5_method_2_code 31 = .ok (.aload 6, 2) := by decide +kernel
theorem d2_33 : decode prog_5_method_2_code 33 = .ok (.arraylength, 1) := by decide +kernel
theorem d2_34 : decode prog_5_method_2_code 34 = .ok (.aload 4, 2) := by decide +kernel
theorem d2_36 : decode prog_5_method_2_code 36 = .ok (.arraylength, 1) := by decide +kernel
theorem d2_37 : decode prog_5_method_2_code 37 = .ok (.if_icmp .eq 13, 3) := by decide +kernel
theorem d2_50 : decode prog_5_method_2_code 50 = .ok (.iconst 0, 1) := by decide +kernel
theorem d2_51 : decode prog_5_method_2_code 51 = .ok (.istore 7, 2) := by decide +kernel
theorem d2_53 : decode prog_5_method_2_code 53 = .ok (.iload 7, 2) := by decide +kernel
theorem d2_55 : decode prog_5_method_2_code 55 = .ok (.aload 4, 2) := by decide +kernel
theorem d2_57 : decode prog_5_method_2_code 57 = .ok (.arraylength, 1) := by decide +kernel
theorem d2_58 : decode prog_5_method_2_code 58 = .ok (.if_icmp .ge 105, 3) := by decide +kernel
theorem d2_61 : decode prog_5_method_2_code 61 = .ok (.aload 4, 2) := by decide +kernel
theorem d2_63 : decode prog_5_method_2_code 63 = .ok (.iload 7, 2) := by decide +kernel
theorem d2_65 : decode prog_5_method_2_code 65 = .ok (.iaload, 1) := by decide +kernel
theorem d2_66 : decode prog_5_method_2_code 66 = .ok (.invokestatic 32, 3) := by decide +kernel
theorem pd__I_I : parseMethodDescriptor "(I)I" = some ⟨[.int], some .int⟩ := by decide +kernel
theorem d2_69 : decode prog_5_method_2_code 69 = .ok (.istore 8, 2) := by decide +kernel
theorem d2_71 : decode prog_5_method_2_code 71 = .ok (.iload 7, 2) := by decide +kernel
theorem d2_73 : decode prog_5_method_2_code 73 = .ok (.ifCond .le 37, 3) := by decide +kernel
theorem d2_110 : decode prog_5_method_2_code 110 = .ok (.aload 5, 2) := by decide +kernel
theorem d2_112 : decode prog_5_method_2_code 112 = .ok (.iload 7, 2) := by decide +kernel
theorem d2_114 : decode prog_5_method_2_code 114 = .ok (.daload, 1) := by decide +kernel
theorem d2_115 : decode prog_5_method_2_code 115 = .ok (.invokestatic 40, 3) := by decide +kernel
theorem pd__D_Z : parseMethodDescriptor "(D)Z" = some ⟨[.double], some .boolean⟩ := by decide +kernel
theorem d2_118 : decode prog_5_method_2_code 118 = .ok (.ifCond .eq 14, 3) := by decide +kernel
theorem d2_121 : decode prog_5_method_2_code 121 = .ok (.aload 6, 2) := by decide +kernel
theorem d2_123 : decode prog_5_method_2_code 123 = .ok (.iload 7, 2) := by decide +kernel
theorem d2_125 : decode prog_5_method_2_code 125 = .ok (.daload, 1) := by decide +kernel
theorem d2_126 : decode prog_5_method_2_code 126 = .ok (.invokestatic 40, 3) := by decide +kernel
theorem d2_129 : decode prog_5_method_2_code 129 = .ok (.ifCond .ne 28, 3) := by decide +kernel
theorem d2_157 : decode prog_5_method_2_code 157 = .ok (.iinc 7 1, 3) := by decide +kernel
theorem d2_160 : decode prog_5_method_2_code 160 = .ok (.goto (-107), 3) := by decide +kernel
theorem d2_163 : decode prog_5_method_2_code 163 = .ok (.aload_n 0, 1) := by decide +kernel
theorem d2_164 : decode prog_5_method_2_code 164 = .ok (.lload_n 1, 1) := by decide +kernel
theorem d2_165 : decode prog_5_method_2_code 165 = .ok (.putfield 47, 3) := by decide +kernel
theorem d2_168 : decode prog_5_method_2_code 168 = .ok (.aload_n 0, 1) := by decide +kernel
theorem d2_169 : decode prog_5_method_2_code 169 = .ok (.aload 4, 2) := by decide +kernel
theorem d2_171 : decode prog_5_method_2_code 171 = .ok (.invokevirtual 51, 3) := by decide +kernel
theorem d2_174 : decode prog_5_method_2_code 174 = .ok (.checkcast 52, 3) := by decide +kernel
theorem d2_177 : decode prog_5_method_2_code 177 = .ok (.putfield 57, 3) := by decide +kernel
theorem d2_180 : decode prog_5_method_2_code 180 = .ok (.aload_n 0, 1) := by decide +kernel
theorem d2_181 : decode prog_5_method_2_code 181 = .ok (.aload 5, 2) := by decide +kernel
theorem d2_183 : decode prog_5_method_2_code 183 = .ok (.invokevirtual 60, 3) := by decide +kernel
theorem d2_186 : decode prog_5_method_2_code 186 = .ok (.checkcast 61, 3) := by decide +kernel
theorem d2_189 : decode prog_5_method_2_code 189 = .ok (.putfield 62, 3) := by decide +kernel
theorem d2_192 : decode prog_5_method_2_code 192 = .ok (.aload_n 0, 1) := by decide +kernel
theorem d2_193 : decode prog_5_method_2_code 193 = .ok (.aload 6, 2) := by decide +kernel
theorem d2_195 : decode prog_5_method_2_code 195 = .ok (.invokevirtual 60, 3) := by decide +kernel
theorem d2_198 : decode prog_5_method_2_code 198 = .ok (.checkcast 61, 3) := by decide +kernel
theorem d2_201 : decode prog_5_method_2_code 201 = .ok (.putfield 65, 3) := by decide +kernel
theorem d2_204 : decode prog_5_method_2_code 204 = .ok (.aload_n 0, 1) := by decide +kernel
theorem d2_205 : decode prog_5_method_2_code 205 = .ok (.iload_n 3, 1) := by decide +kernel
theorem d2_206 : decode prog_5_method_2_code 206 = .ok (.invokevirtual 68, 3) := by decide +kernel
theorem pd__I_V : parseMethodDescriptor "(I)V" = some ⟨[.int], none⟩ := by decide +kernel
theorem d2_209 : decode prog_5_method_2_code 209 = .ok (.return_, 1) := by decide +kernel
theorem d2_76 : decode prog_5_method_2_code 76 = .ok (.iload 8, 2) := by decide +kernel
theorem d2_78 : decode prog_5_method_2_code 78 = .ok (.aload 4, 2) := by decide +kernel
theorem d2_80 : decode prog_5_method_2_code 80 = .ok (.iload 7, 2) := by decide +kernel
theorem d2_82 : decode prog_5_method_2_code 82 = .ok (.iconst 1, 1) := by decide +kernel
theorem d2_83 : decode prog_5_method_2_code 83 = .ok (.isub, 1) := by decide +kernel
theorem d2_84 : decode prog_5_method_2_code 84 = .ok (.iaload, 1) := by decide +kernel
theorem d2_85 : decode prog_5_method_2_code 85 = .ok (.if_icmp .gt 25, 3) := by decide +kernel
theorem d1_0 : decode jdk_29_method_69_code 0 = .ok (.iload_n 0, 1) := by decide +kernel
theorem d1_1 : decode jdk_29_method_69_code 1 = .ok (.iload_n 1, 1) := by decide +kernel
theorem d1_2 : decode jdk_29_method_69_code 2 = .ok (.if_icmp .gt 7, 3) := by decide +kernel
theorem d1_9 : decode jdk_29_method_69_code 9 = .ok (.iload_n 1, 1) := by decide +kernel
theorem d1_10 : decode jdk_29_method_69_code 10 = .ok (.ireturn, 1) := by decide +kernel
theorem d1_5 : decode jdk_29_method_69_code 5 = .ok (.iload_n 0, 1) := by decide +kernel
theorem d1_6 : decode jdk_29_method_69_code 6 = .ok (.goto 4, 3) := by decide +kernel
theorem d10_0 : decode prog_5_method_19_code 0 = .ok (.iconst 0, 1) := by decide +kernel
theorem d10_1 : decode prog_5_method_19_code 1 = .ok (.istore_n 1, 1) := by decide +kernel
theorem d10_2 : decode prog_5_method_19_code 2 = .ok (.aload_n 0, 1) := by decide +kernel
theorem d10_3 : decode prog_5_method_19_code 3 = .ok (.getfield 57, 3) := by decide +kernel
theorem d10_6 : decode prog_5_method_19_code 6 = .ok (.astore_n 2, 1) := by decide +kernel
theorem d10_7 : decode prog_5_method_19_code 7 = .ok (.aload_n 2, 1) := by decide +kernel
theorem d10_8 : decode prog_5_method_19_code 8 = .ok (.arraylength, 1) := by decide +kernel
theorem d10_9 : decode prog_5_method_19_code 9 = .ok (.istore_n 3, 1) := by decide +kernel
theorem d10_10 : decode prog_5_method_19_code 10 = .ok (.iconst 0, 1) := by decide +kernel
theorem d10_11 : decode prog_5_method_19_code 11 = .ok (.istore 4, 2) := by decide +kernel
theorem d10_13 : decode prog_5_method_19_code 13 = .ok (.iload 4, 2) := by decide +kernel
theorem d10_15 : decode prog_5_method_19_code 15 = .ok (.iload_n 3, 1) := by decide +kernel
theorem d10_16 : decode prog_5_method_19_code 16 = .ok (.if_icmp .ge 22, 3) := by decide +kernel
theorem d10_19 : decode prog_5_method_19_code 19 = .ok (.aload_n 2, 1) := by decide +kernel
theorem d10_20 : decode prog_5_method_19_code 20 = .ok (.iload 4, 2) := by decide +kernel
theorem d10_22 : decode prog_5_method_19_code 22 = .ok (.iaload, 1) := by decide +kernel
theorem d10_23 : decode prog_5_method_19_code 23 = .ok (.istore 5, 2) := by decide +kernel
theorem d10_25 : decode prog_5_method_19_code 25 = .ok (.iload_n 1, 1) := by decide +kernel
theorem d10_26 : decode prog_5_method_19_code 26 = .ok (.iconst 1, 1) := by decide +kernel
theorem d10_27 : decode prog_5_method_19_code 27 = .ok (.iload 5, 2) := by decide +kernel
theorem d10_29 : decode prog_5_method_19_code 29 = .ok (.ishl, 1) := by decide +kernel
theorem d10_30 : decode prog_5_method_19_code 30 = .ok (.ior, 1) := by decide +kernel
theorem d10_31 : decode prog_5_method_19_code 31 = .ok (.istore_n 1, 1) := by decide +kernel
theorem d10_32 : decode prog_5_method_19_code 32 = .ok (.iinc 4 1, 3) := by decide +kernel
theorem d10_35 : decode prog_5_method_19_code 35 = .ok (.goto (-22), 3) := by decide +kernel
theorem d10_38 : decode prog_5_method_19_code 38 = .ok (.iload_n 1, 1) := by decide +kernel
theorem d10_39 : decode prog_5_method_19_code 39 = .ok (.ireturn, 1) := by decide +kernel
theorem pd__JI_I_D_D_V : parseMethodDescriptor "(JI[I[D[D)V" = some ⟨[.long, .int, (.array .int), (.array .double), (.array .double)], none⟩ := by decide +kernel
theorem pd___I : parseMethodDescriptor "()I" = some ⟨[], some .int⟩ := by decide +kernel
theorem pd__II_I : parseMethodDescriptor "(II)I" = some ⟨[.int, .int], some .int⟩ := by decide +kernel
theorem pn_com_example_tapflow_tapflow_MotionEventGetPointerIdBitsPinLaw : plainName "com/example/tapflow/tapflow/MotionEventGetPointerIdBitsPinLaw" = true := by first | (simp [plainName, overriddenIn]; done) | decide +kernel
abbrev oMe (Z : State) (a : Addr) (f0 f1 f2 f3 f4 f5 f6 : Value) : Ent := oObj Z a "com/example/tapflow/tapflow/MotionEvent" [("com/example/tapflow/tapflow/MotionEvent", "levels", "[D", f0), ("com/example/tapflow/tapflow/MotionEvent", "placedAt", "I", f1), ("com/example/tapflow/tapflow/MotionEvent", "eventTimeNanos", "J", f2), ("com/example/tapflow/tapflow/MotionEvent", "pointerIds", "[I", f3), ("com/example/tapflow/tapflow/MotionEvent", "xs", "[D", f4), ("com/example/tapflow/tapflow/MotionEvent", "ys", "[D", f5), ("com/example/tapflow/tapflow/MotionEvent", "action", "I", f6)]
def Crd (x : UInt64) : Prop := NoNaN64 x ∧ ¬ 0 < cmpValue (FP.dcmp (x &&& 0x7fffffffffffffff) 6103021453049119613) .g
theorem Crd.i (x : Int32) : Crd (FP.i2d x) := by
  refine ⟨(i2d_fin x).noNaN, ?_⟩
  have f : FP.Core.DFin (FP.i2d x &&& 0x7fffffffffffffff) := fin64_core.mp (abs_fin (i2d_fin x))
  rw [cmp_z (fne f) (by decide +kernel)]
  refine cmp3_le ?_
  have h1 := Int32.toInt_lt x; have h2 := Int32.le_toInt x
  have b : z (2147483648 * 0 + 4746794007248502784 : UInt64) ≤ z (6103021453049119613 : UInt64) := by decide +kernel
  have e : x.toInt64.toInt = x.toInt := Int32.toInt_toInt64 x
  have m : z (4746794007248502784 : UInt64) = 2147483648 * (U : Int) := by decide +kernel
  have hU : (0 : Int) < (U : Int) := Int.natCast_pos.mpr U_pos
  have k : z (FP.i2d x &&& 0x7fffffffffffffff) ≤ 2147483648 * (U : Int) := by
    rw [i2d_w]
    by_cases q : x.toInt64 < 0
    · rw [abs_n ⟨by rw [e]; omega, by rw [e]; omega⟩ q]
      have e2 : (-x.toInt64).toInt = -x.toInt := by rw [FP.Core.int64_neg (by rw [e]; omega), e]
      rw [z_l2d ⟨by rw [e2]; omega, by rw [e2]; omega⟩, e2]
      exact Int.mul_le_mul_of_nonneg_right (by omega) (by omega)
    · rw [abs_w q, z_l2d ⟨by rw [e]; omega, by rw [e]; omega⟩, e]
      exact Int.mul_le_mul_of_nonneg_right (by omega) (by omega)
  rw [← m] at k
  exact Int.le_trans k b
theorem Crd.zero : Crd 0 := by refine ⟨by unfold NoNaN64; decide, ?_⟩; decide +kernel
theorem ints_fit (L : List Int32) : ∀ v ∈ L.map Value.int, fits .int v = true := fun v hv => by obtain ⟨x, -, rfl⟩ := List.mem_map.mp hv; rfl
theorem dbls_fit (L : List UInt64) : ∀ v ∈ L.map Value.double, fits .double v = true := fun v hv => by obtain ⟨x, -, rfl⟩ := List.mem_map.mp hv; rfl
def rm_c_chk : Room := { frames := 0, cells := 0, slots := 0, locals := 0 }
set_option maxRecDepth 65536 in
set_option maxHeartbeats 40000000 in
theorem c_chk (l : Launch) (Z : State) (a0 : Array Value) (hw : ∀ d ∈ tables_1, d.before a0 Z = true) (i : Int32) (h0 : ¬ i < 0) (h1 : ¬ (31 : Int32) < i) (rest : List Ent) :
    OMeets l (⟨"com/example/tapflow/tapflow/MotionEvent", "checkPointerId", "(I)I"⟩ : MethodName) prog_5_method_52_code 1 (some .int) rm_c_chk Z [.int i] rest (fun v K => v = some (.int i) ∧ rest = K) := by
  refine OMeets.of_body (plainFor_of_name pn_com_example_tapflow_tapflow_MotionEvent) #[.val (.int i)] (fun m => by first | (simp [entryFrame, mkF, argsToLocals, Value.category]; done) | rfl) fun pP eE sS mM bB hH cC T N => ?_
  refine k_iload_n (pc := 0) N d4_0 rfl ?_
  refine k_if_lt (pc := 1) N d4_1 (pc' := 10) (by decide) (fun qQ => absurd qQ h0) (fun _ => ?_)
  refine k_iload_n (pc := 4) N d4_4 rfl ?_
  refine k_bipush (pc := 5) N d4_5 (v := (31 : Int32)) (by decide) ?_
  refine k_icmp_le (pc := 7) N d4_7 (pc' := 24) (by decide) (fun _ => ?_) (fun qQ => absurd qQ h1)
  refine k_iload_n (pc := 24) N d4_24 rfl ?_
  exact k_ireturn (pc := 25) N d4_25 rfl (by decide) (by decide) ⟨rfl, rfl⟩
def rm_c_crd : Room := { frames := 1, cells := 0, slots := 0, locals := 13 }
set_option maxRecDepth 65536 in
set_option maxHeartbeats 40000000 in
theorem c_crd (l : Launch) (Z : State) (a0 : Array Value) (hw : ∀ d ∈ tables_1, d.before a0 Z = true) (d : UInt64) (h : Crd d) (rest : List Ent) :
    OMeets l (⟨"com/example/tapflow/tapflow/MotionEvent", "isCoordinate", "(D)Z"⟩ : MethodName) prog_5_method_53_code 2 (some .boolean) rm_c_crd Z [.double d] rest (fun v K => v = some (.int 1) ∧ rest = K) := by
  refine OMeets.of_body (plainFor_of_name pn_com_example_tapflow_tapflow_MotionEvent) #[.val (.double d), .second] (fun m => by first | (simp [entryFrame, mkF, argsToLocals, Value.category]; done) | rfl) fun pP eE sS mM bB hH cC T N => ?_
  refine k_dload_n (pc := 0) N d5_0 rfl ?_
  refine k_absD (pc := 1) N 0 d5_1 (by decide +kernel) (hw _ (List.mem_of_getElem? (i := 27) rfl)) (hw _ (List.mem_of_getElem? (i := 28) rfl)) (hw _ (List.mem_of_getElem? (i := 2) rfl)) (hw _ (List.mem_of_getElem? (i := 29) rfl)) h.1 rfl rfl (by decide) (by decide) (by decide) (by decide) fun T N => ?_
  refine k_ldcD (pc := 4) N d5_4 (hw _ (List.mem_of_getElem? (i := 30) rfl)) ?_
  refine k_dcmp (pc := 7) N d5_7 (v := (cmpValue (FP.dcmp (d &&& 0x7fffffffffffffff) (6103021453049119613 : UInt64)) .g)) rfl ?_
  refine k_if_gt (pc := 8) N d5_8 (pc' := 15) (by decide) (fun qQ => absurd qQ h.2) (fun _ => ?_)
  refine k_iconst (pc := 11) N d5_11 (v := (1 : Int32)) (by decide) ?_
  refine k_goto (pc := 12) N d5_12 (pc' := 16) (by decide) ?_
  exact k_zreturn (pc := 16) N d5_16 rfl (by decide) (by decide) ⟨rfl, rfl⟩
def rm_c_ptr2 : Room := { frames := 0, cells := 0, slots := 0, locals := 0 }
set_option maxRecDepth 65536 in
set_option maxHeartbeats 40000000 in
theorem c_ptr2 (l : Launch) (Z : State) (a0 : Array Value) (hw : ∀ d ∈ tables_1, d.before a0 Z = true) (u : Int32) (hu : u = 2) (rest : List Ent) :
    OMeets l (⟨"com/example/tapflow/tapflow/MotionEvent", "isPointerAction", "(I)Z"⟩ : MethodName) prog_5_method_55_code 2 (some .boolean) rm_c_ptr2 Z [.int u] rest (fun v K => v = some (.int 0) ∧ rest = K) := by
  refine OMeets.of_body (plainFor_of_name pn_com_example_tapflow_tapflow_MotionEvent) #[.val (.int u), .unset] (fun m => by first | (simp [entryFrame, mkF, argsToLocals, Value.category]; done) | rfl) fun pP eE sS mM bB hH cC T N => ?_
  refine k_iload_n (pc := 0) N d9_0 rfl ?_
  refine k_sipush (pc := 1) N d9_1 (v := (255 : Int32)) (by decide) ?_
  refine k_iand (pc := 4) N d9_4 ?_
  refine k_istore_n (pc := 5) N d9_5 (Ls' := #[.val (.int u), .val (.int (u &&& (255 : Int32)))]) rfl ?_
  refine k_iload_n (pc := 6) N d9_6 rfl ?_
  refine k_iconst (pc := 7) N d9_7 (v := (5 : Int32)) (by decide) ?_
  refine k_icmp_eq (pc := 8) N d9_8 (pc' := 17) (by decide) (fun qQ => absurd qQ (by subst hu; decide)) (fun _ => ?_)
  refine k_iload_n (pc := 11) N d9_11 rfl ?_
  refine k_bipush (pc := 12) N d9_12 (v := (6 : Int32)) (by decide) ?_
  refine k_icmp_ne (pc := 14) N d9_14 (pc' := 21) (by decide) (fun _ => ?_) (fun qQ => absurd qQ (by subst hu; decide))
  refine k_iconst (pc := 21) N d9_21 (v := (0 : Int32)) (by decide) ?_
  exact k_zreturn (pc := 22) N d9_22 rfl (by decide) (by decide) ⟨rfl, rfl⟩
def rm_c_name2 : Room := { frames := 0, cells := 0, slots := 0, locals := 0 }
set_option maxRecDepth 65536 in
set_option maxHeartbeats 40000000 in
theorem c_name2 (l : Launch) (Z : State) (a0 : Array Value) (hw : ∀ d ∈ tables_1, d.before a0 Z = true) (an sn : Addr) (ac : Cell) (SA : Sta Z Z.heap "com/example/tapflow/tapflow/MotionEvent" "ACTION_NAMES" "[Ljava/lang/String;" (.ref an)) (AA : Arr Z Z.heap an ac (.object "java/lang/String")) (A7 : ac.slots.size = 7) (AE : ac.slots[2]? = some (.ref sn)) (rest : List Ent) :
    OMeets l (⟨"com/example/tapflow/tapflow/MotionEvent", "name", "(I)Ljava/lang/String;"⟩ : MethodName) prog_5_method_51_code 3 (some (.object "java/lang/String")) rm_c_name2 Z [.int (2 : Int32)] rest (fun v K => v = some (.ref sn) ∧ rest = K) := by
  refine OMeets.of_body (plainFor_of_name pn_com_example_tapflow_tapflow_MotionEvent) #[.val (.int (2 : Int32)), .unset, .unset] (fun m => by first | (simp [entryFrame, mkF, argsToLocals, Value.category]; done) | rfl) fun pP eE sS mM bB hH cC T N => ?_
  refine k_iload_n (pc := 0) N d8_0 rfl ?_
  refine k_sipush (pc := 1) N d8_1 (v := (255 : Int32)) (by decide) ?_
  refine k_iand (pc := 4) N d8_4 ?_
  refine k_istore_n (pc := 5) N d8_5 (Ls' := #[.val (.int (2 : Int32)), .val (.int ((2 : Int32) &&& (255 : Int32))), .unset]) rfl ?_
  refine k_iload_n (pc := 6) N d8_6 rfl ?_
  refine k_ldcWI (pc := 7) N d8_7 (hw _ (List.mem_of_getElem? (i := 62) rfl)) ?_
  refine k_iand (pc := 10) N d8_10 ?_
  refine k_if_ne (pc := 11) N d8_11 (pc' := 18) (by decide) (fun qQ => absurd qQ (by decide)) (fun _ => ?_)
  refine k_iconst (pc := 14) N d8_14 (v := (1 : Int32)) (by decide) ?_
  refine k_goto (pc := 15) N d8_15 (pc' := 19) (by decide) ?_
  refine k_istore_n (pc := 19) N d8_19 (Ls' := #[.val (.int (2 : Int32)), .val (.int ((2 : Int32) &&& (255 : Int32))), .val (.int (1 : Int32))]) rfl ?_
  refine k_iload_n (pc := 20) N d8_20 rfl ?_
  refine k_if_eq (pc := 21) N d8_21 (pc' := 40) (by decide) (fun qQ => absurd qQ (by decide)) (fun _ => ?_)
  refine k_iload_n (pc := 24) N d8_24 rfl ?_
  refine k_getS (pc := 25) N d8_25 (hw _ (List.mem_of_getElem? (i := 63) rfl)) Via.refl SA fun T N => ?_
  refine k_alenOld (pc := 28) N d8_28 AA (z := (7 : Int32)) (by rw [A7]; rfl) ?_
  refine k_icmp_ge (pc := 29) N d8_29 (pc' := 40) (by decide) (fun qQ => absurd qQ (by decide)) (fun _ => ?_)
  refine k_getS (pc := 32) N d8_32 (hw _ (List.mem_of_getElem? (i := 63) rfl)) Via.refl SA fun T N => ?_
  refine k_iload_n (pc := 35) N d8_35 rfl ?_
  refine k_aaloadOld (pc := 36) N d8_36 AA rfl (by rw [A7]; decide) (v := .ref sn) AE ?_
  refine k_goto (pc := 37) N d8_37 (pc' := 41) (by decide) ?_
  exact k_areturn (pc := 41) N (t := (.object "java/lang/String")) rfl rfl d8_41 rfl (by decide) (by decide) ⟨rfl, rfl⟩
def rm_c_set2_1 : Room := { frames := 1, cells := 0, slots := 0, locals := 14 }
set_option maxRecDepth 65536 in
set_option maxHeartbeats 40000000 in
theorem c_set2_1 (l : Launch) (Z : State) (a0 : Array Value) (hw : ∀ d ∈ tables_1, d.before a0 Z = true) (an sn : Addr) (ac : Cell) (SA : Sta Z Z.heap "com/example/tapflow/tapflow/MotionEvent" "ACTION_NAMES" "[Ljava/lang/String;" (.ref an)) (AA : Arr Z Z.heap an ac (.object "java/lang/String")) (A7 : ac.slots.size = 7) (AE : ac.slots[2]? = some (.ref sn)) (a lv b xa ya : Addr) (pl ac0 : Int32) (t : Int64) (kI : ClassId) (i0 : Int32) (rest : List Ent) :
    OMeets l (⟨"com/example/tapflow/tapflow/MotionEvent", "setAction", "(I)V"⟩ : MethodName) prog_5_method_8_code 7 none rm_c_set2_1 Z [.ref a, .int (2 : Int32)] ((oMe Z a (.ref lv) (.int pl) (.long t) (.ref b) (.ref xa) (.ref ya) (.int ac0)) :: (oArr Z b kI .int [.int i0]) :: rest) (fun v K => v = none ∧ K = (oMe Z a (.ref lv) (.int pl) (.long t) (.ref b) (.ref xa) (.ref ya) (.int (2 : Int32))) :: (oArr Z b kI .int [.int i0]) :: rest) := by
  refine OMeets.of_body (plainFor_of_name pn_com_example_tapflow_tapflow_MotionEvent) #[.val (.ref a), .val (.int (2 : Int32)), .unset, .unset, .unset, .unset, .unset] (fun m => by first | (simp [entryFrame, mkF, argsToLocals, Value.category]; done) | rfl) fun pP eE sS mM bB hH cC T N => ?_
  refine k_iload_n (pc := 0) N d7_0 rfl ?_
  refine k_static (pc := 1) N (y := (⟨"com/example/tapflow/tapflow/MotionEvent", "name", "(I)Ljava/lang/String;"⟩ : MethodName)) (rest := []) [.int (2 : Int32)] d7_1 (hw _ (List.mem_of_getElem? (i := 59) rfl)) (hw _ (List.mem_of_getElem? (i := 60) rfl)) (hw _ (List.mem_of_getElem? (i := 8) rfl)) (hw _ (List.mem_of_getElem? (i := 61) rfl)) (by decide) pd__I_Ljava_lang_String_ rfl (c_name2 l Z a0 hw an sn ac SA AA A7 AE ((oMe Z a (.ref lv) (.int pl) (.long t) (.ref b) (.ref xa) (.ref ya) (.int ac0)) :: (oArr Z b kI .int [.int i0]) :: rest)) rfl rfl 0 rfl (by decide) (by decide) (cells' := 0) rfl (slots' := 0) rfl (by decide) (by decide) fun T vV K' N qQ => ?_
  obtain ⟨rfl, rfl⟩ := qQ
  refine k_astore_n (pc := 4) N d7_4 rfl (Ls' := #[.val (.ref a), .val (.int (2 : Int32)), .val (.ref sn), .unset, .unset, .unset, .unset]) rfl ?_
  refine k_aload_n (pc := 5) N d7_5 rfl rfl ?_
  refine k_ifnonnull_yes (pc := 6) N d7_6 (pc' := 23) (by decide) ?_
  refine k_iload_n (pc := 23) N d7_23 rfl ?_
  refine k_sipush (pc := 24) N d7_24 (v := (255 : Int32)) (by decide) ?_
  refine k_iand (pc := 27) N d7_27 ?_
  refine k_istore_n (pc := 28) N d7_28 (Ls' := #[.val (.ref a), .val (.int (2 : Int32)), .val (.ref sn), .val (.int ((2 : Int32) &&& (255 : Int32))), .unset, .unset, .unset]) rfl ?_
  refine k_iload_n (pc := 29) N d7_29 rfl ?_
  refine k_ldcI (pc := 30) N d7_30 (hw _ (List.mem_of_getElem? (i := 65) rfl)) ?_
  refine k_iand (pc := 32) N d7_32 ?_
  refine k_bipush (pc := 33) N d7_33 (v := (8 : Int32)) (by decide) ?_
  refine k_ishr (pc := 35) N d7_35 ?_
  refine k_istore (pc := 36) N d7_36 (Ls' := #[.val (.ref a), .val (.int (2 : Int32)), .val (.ref sn), .val (.int ((2 : Int32) &&& (255 : Int32))), .val (.int (((2 : Int32) &&& (65280 : Int32)) >>> ((8 : Int32) &&& 31))), .unset, .unset]) rfl ?_
  refine k_aload_n (pc := 38) N d7_38 rfl rfl ?_
  refine k_get (pc := 39) (host := "") N 0 3 d7_39 (Or.inl (hw _ (List.mem_of_getElem? (i := 42) rfl))) Via.refl rfl rfl fun T N => ?_
  refine k_arraylength (pc := 42) N 1 d7_42 rfl (z := (1 : Int32)) rfl ?_
  refine k_istore (pc := 43) N d7_43 (Ls' := #[.val (.ref a), .val (.int (2 : Int32)), .val (.ref sn), .val (.int ((2 : Int32) &&& (255 : Int32))), .val (.int (((2 : Int32) &&& (65280 : Int32)) >>> ((8 : Int32) &&& 31))), .val (.int (1 : Int32)), .unset]) rfl ?_
  refine k_iload_n (pc := 45) N d7_45 rfl ?_
  refine k_static (pc := 46) N (y := (⟨"com/example/tapflow/tapflow/MotionEvent", "isPointerAction", "(I)Z"⟩ : MethodName)) (rest := []) [.int ((2 : Int32) &&& (255 : Int32))] d7_46 (hw _ (List.mem_of_getElem? (i := 66) rfl)) (hw _ (List.mem_of_getElem? (i := 67) rfl)) (hw _ (List.mem_of_getElem? (i := 8) rfl)) (hw _ (List.mem_of_getElem? (i := 68) rfl)) (by decide) pd__I_Z rfl (c_ptr2 l Z a0 hw ((2 : Int32) &&& (255 : Int32)) (by decide) ((oMe Z a (.ref lv) (.int pl) (.long t) (.ref b) (.ref xa) (.ref ya) (.int ac0)) :: (oArr Z b kI .int [.int i0]) :: rest)) rfl rfl 0 rfl (by decide) (by decide) (cells' := 0) rfl (slots' := 0) rfl (by decide) (by decide) fun T vV K' N qQ => ?_
  obtain ⟨rfl, rfl⟩ := qQ
  refine k_if_eq (pc := 49) N d7_49 (pc' := 73) (by decide) (fun _ => ?_) (fun qQ => absurd qQ (by decide))
  refine k_iload (pc := 73) N d7_73 rfl ?_
  refine k_if_ne (pc := 75) N d7_75 (pc' := 98) (by decide) (fun qQ => absurd qQ (by decide)) (fun _ => ?_)
  refine k_iload (pc := 78) N d7_78 rfl ?_
  refine k_iconst (pc := 80) N d7_80 (v := (1 : Int32)) (by decide) ?_
  refine k_icmp_eq (pc := 81) N d7_81 (pc' := 94) (by decide) (fun _ => ?_) (fun qQ => absurd qQ (by decide))
  refine k_iconst (pc := 94) N d7_94 (v := (1 : Int32)) (by decide) ?_
  refine k_goto (pc := 95) N d7_95 (pc' := 99) (by decide) ?_
  refine k_istore (pc := 99) N d7_99 (Ls' := #[.val (.ref a), .val (.int (2 : Int32)), .val (.ref sn), .val (.int ((2 : Int32) &&& (255 : Int32))), .val (.int (((2 : Int32) &&& (65280 : Int32)) >>> ((8 : Int32) &&& 31))), .val (.int (1 : Int32)), .val (.int (1 : Int32))]) rfl ?_
  refine k_iload (pc := 101) N d7_101 rfl ?_
  refine k_if_ne (pc := 103) N d7_103 (pc' := 124) (by decide) (fun _ => ?_) (fun qQ => absurd qQ (by decide))
  refine k_aload_n (pc := 124) N d7_124 rfl rfl ?_
  refine k_iload_n (pc := 125) N d7_125 rfl ?_
  refine k_put (pc := 126) (host := "") N 0 6 d7_126 (Or.inl (hw _ (List.mem_of_getElem? (i := 69) rfl))) Via.refl rfl rfl (Or.inl (hw _ (List.mem_of_getElem? (i := 70) rfl))) (hw _ (List.mem_of_getElem? (i := 7) rfl)) (ty := .int) (by decide) rfl rfl (K' := ((oMe Z a (.ref lv) (.int pl) (.long t) (.ref b) (.ref xa) (.ref ya) (.int (2 : Int32))) :: (oArr Z b kI .int [.int i0]) :: rest)) rfl fun T N => ?_
  exact k_return (pc := 129) N d7_129 rfl (by decide) (by decide) ⟨rfl, rfl⟩
def rm_c_set2_2 : Room := { frames := 1, cells := 0, slots := 0, locals := 14 }
set_option maxRecDepth 65536 in
set_option maxHeartbeats 40000000 in
theorem c_set2_2 (l : Launch) (Z : State) (a0 : Array Value) (hw : ∀ d ∈ tables_1, d.before a0 Z = true) (an sn : Addr) (ac : Cell) (SA : Sta Z Z.heap "com/example/tapflow/tapflow/MotionEvent" "ACTION_NAMES" "[Ljava/lang/String;" (.ref an)) (AA : Arr Z Z.heap an ac (.object "java/lang/String")) (A7 : ac.slots.size = 7) (AE : ac.slots[2]? = some (.ref sn)) (a lv b xa ya : Addr) (pl ac0 : Int32) (t : Int64) (kI : ClassId) (i0 i1 : Int32) (rest : List Ent) :
    OMeets l (⟨"com/example/tapflow/tapflow/MotionEvent", "setAction", "(I)V"⟩ : MethodName) prog_5_method_8_code 7 none rm_c_set2_2 Z [.ref a, .int (2 : Int32)] ((oMe Z a (.ref lv) (.int pl) (.long t) (.ref b) (.ref xa) (.ref ya) (.int ac0)) :: (oArr Z b kI .int [.int i0, .int i1]) :: rest) (fun v K => v = none ∧ K = (oMe Z a (.ref lv) (.int pl) (.long t) (.ref b) (.ref xa) (.ref ya) (.int (2 : Int32))) :: (oArr Z b kI .int [.int i0, .int i1]) :: rest) := by
  refine OMeets.of_body (plainFor_of_name pn_com_example_tapflow_tapflow_MotionEvent) #[.val (.ref a), .val (.int (2 : Int32)), .unset, .unset, .unset, .unset, .unset] (fun m => by first | (simp [entryFrame, mkF, argsToLocals, Value.category]; done) | rfl) fun pP eE sS mM bB hH cC T N => ?_
  refine k_iload_n (pc := 0) N d7_0 rfl ?_
  refine k_static (pc := 1) N (y := (⟨"com/example/tapflow/tapflow/MotionEvent", "name", "(I)Ljava/lang/String;"⟩ : MethodName)) (rest := []) [.int (2 : Int32)] d7_1 (hw _ (List.mem_of_getElem? (i := 59) rfl)) (hw _ (List.mem_of_getElem? (i := 60) rfl)) (hw _ (List.mem_of_getElem? (i := 8) rfl)) (hw _ (List.mem_of_getElem? (i := 61) rfl)) (by decide) pd__I_Ljava_lang_String_ rfl (c_name2 l Z a0 hw an sn ac SA AA A7 AE ((oMe Z a (.ref lv) (.int pl) (.long t) (.ref b) (.ref xa) (.ref ya) (.int ac0)) :: (oArr Z b kI .int [.int i0, .int i1]) :: rest)) rfl rfl 0 rfl (by decide) (by decide) (cells' := 0) rfl (slots' := 0) rfl (by decide) (by decide) fun T vV K' N qQ => ?_
  obtain ⟨rfl, rfl⟩ := qQ
  refine k_astore_n (pc := 4) N d7_4 rfl (Ls' := #[.val (.ref a), .val (.int (2 : Int32)), .val (.ref sn), .unset, .unset, .unset, .unset]) rfl ?_
  refine k_aload_n (pc := 5) N d7_5 rfl rfl ?_
  refine k_ifnonnull_yes (pc := 6) N d7_6 (pc' := 23) (by decide) ?_
  refine k_iload_n (pc := 23) N d7_23 rfl ?_
  refine k_sipush (pc := 24) N d7_24 (v := (255 : Int32)) (by decide) ?_
  refine k_iand (pc := 27) N d7_27 ?_
  refine k_istore_n (pc := 28) N d7_28 (Ls' := #[.val (.ref a), .val (.int (2 : Int32)), .val (.ref sn), .val (.int ((2 : Int32) &&& (255 : Int32))), .unset, .unset, .unset]) rfl ?_
  refine k_iload_n (pc := 29) N d7_29 rfl ?_
  refine k_ldcI (pc := 30) N d7_30 (hw _ (List.mem_of_getElem? (i := 65) rfl)) ?_
  refine k_iand (pc := 32) N d7_32 ?_
  refine k_bipush (pc := 33) N d7_33 (v := (8 : Int32)) (by decide) ?_
  refine k_ishr (pc := 35) N d7_35 ?_
  refine k_istore (pc := 36) N d7_36 (Ls' := #[.val (.ref a), .val (.int (2 : Int32)), .val (.ref sn), .val (.int ((2 : Int32) &&& (255 : Int32))), .val (.int (((2 : Int32) &&& (65280 : Int32)) >>> ((8 : Int32) &&& 31))), .unset, .unset]) rfl ?_
  refine k_aload_n (pc := 38) N d7_38 rfl rfl ?_
  refine k_get (pc := 39) (host := "") N 0 3 d7_39 (Or.inl (hw _ (List.mem_of_getElem? (i := 42) rfl))) Via.refl rfl rfl fun T N => ?_
  refine k_arraylength (pc := 42) N 1 d7_42 rfl (z := (2 : Int32)) rfl ?_
  refine k_istore (pc := 43) N d7_43 (Ls' := #[.val (.ref a), .val (.int (2 : Int32)), .val (.ref sn), .val (.int ((2 : Int32) &&& (255 : Int32))), .val (.int (((2 : Int32) &&& (65280 : Int32)) >>> ((8 : Int32) &&& 31))), .val (.int (2 : Int32)), .unset]) rfl ?_
  refine k_iload_n (pc := 45) N d7_45 rfl ?_
  refine k_static (pc := 46) N (y := (⟨"com/example/tapflow/tapflow/MotionEvent", "isPointerAction", "(I)Z"⟩ : MethodName)) (rest := []) [.int ((2 : Int32) &&& (255 : Int32))] d7_46 (hw _ (List.mem_of_getElem? (i := 66) rfl)) (hw _ (List.mem_of_getElem? (i := 67) rfl)) (hw _ (List.mem_of_getElem? (i := 8) rfl)) (hw _ (List.mem_of_getElem? (i := 68) rfl)) (by decide) pd__I_Z rfl (c_ptr2 l Z a0 hw ((2 : Int32) &&& (255 : Int32)) (by decide) ((oMe Z a (.ref lv) (.int pl) (.long t) (.ref b) (.ref xa) (.ref ya) (.int ac0)) :: (oArr Z b kI .int [.int i0, .int i1]) :: rest)) rfl rfl 0 rfl (by decide) (by decide) (cells' := 0) rfl (slots' := 0) rfl (by decide) (by decide) fun T vV K' N qQ => ?_
  obtain ⟨rfl, rfl⟩ := qQ
  refine k_if_eq (pc := 49) N d7_49 (pc' := 73) (by decide) (fun _ => ?_) (fun qQ => absurd qQ (by decide))
  refine k_iload (pc := 73) N d7_73 rfl ?_
  refine k_if_ne (pc := 75) N d7_75 (pc' := 98) (by decide) (fun qQ => absurd qQ (by decide)) (fun _ => ?_)
  refine k_iload (pc := 78) N d7_78 rfl ?_
  refine k_iconst (pc := 80) N d7_80 (v := (1 : Int32)) (by decide) ?_
  refine k_icmp_eq (pc := 81) N d7_81 (pc' := 94) (by decide) (fun qQ => absurd qQ (by decide)) (fun _ => ?_)
  refine k_iload_n (pc := 84) N d7_84 rfl ?_
  refine k_iconst (pc := 85) N d7_85 (v := (2 : Int32)) (by decide) ?_
  refine k_icmp_eq (pc := 86) N d7_86 (pc' := 94) (by decide) (fun _ => ?_) (fun qQ => absurd qQ (by decide))
  refine k_iconst (pc := 94) N d7_94 (v := (1 : Int32)) (by decide) ?_
  refine k_goto (pc := 95) N d7_95 (pc' := 99) (by decide) ?_
  refine k_istore (pc := 99) N d7_99 (Ls' := #[.val (.ref a), .val (.int (2 : Int32)), .val (.ref sn), .val (.int ((2 : Int32) &&& (255 : Int32))), .val (.int (((2 : Int32) &&& (65280 : Int32)) >>> ((8 : Int32) &&& 31))), .val (.int (2 : Int32)), .val (.int (1 : Int32))]) rfl ?_
  refine k_iload (pc := 101) N d7_101 rfl ?_
  refine k_if_ne (pc := 103) N d7_103 (pc' := 124) (by decide) (fun _ => ?_) (fun qQ => absurd qQ (by decide))
  refine k_aload_n (pc := 124) N d7_124 rfl rfl ?_
  refine k_iload_n (pc := 125) N d7_125 rfl ?_
  refine k_put (pc := 126) (host := "") N 0 6 d7_126 (Or.inl (hw _ (List.mem_of_getElem? (i := 69) rfl))) Via.refl rfl rfl (Or.inl (hw _ (List.mem_of_getElem? (i := 70) rfl))) (hw _ (List.mem_of_getElem? (i := 7) rfl)) (ty := .int) (by decide) rfl rfl (K' := ((oMe Z a (.ref lv) (.int pl) (.long t) (.ref b) (.ref xa) (.ref ya) (.int (2 : Int32))) :: (oArr Z b kI .int [.int i0, .int i1]) :: rest)) rfl fun T N => ?_
  exact k_return (pc := 129) N d7_129 rfl (by decide) (by decide) ⟨rfl, rfl⟩
def rm_c_set2_3 : Room := { frames := 1, cells := 0, slots := 0, locals := 14 }
set_option maxRecDepth 65536 in
set_option maxHeartbeats 40000000 in
theorem c_set2_3 (l : Launch) (Z : State) (a0 : Array Value) (hw : ∀ d ∈ tables_1, d.before a0 Z = true) (an sn : Addr) (ac : Cell) (SA : Sta Z Z.heap "com/example/tapflow/tapflow/MotionEvent" "ACTION_NAMES" "[Ljava/lang/String;" (.ref an)) (AA : Arr Z Z.heap an ac (.object "java/lang/String")) (A7 : ac.slots.size = 7) (AE : ac.slots[2]? = some (.ref sn)) (a lv b xa ya : Addr) (pl ac0 : Int32) (t : Int64) (kI : ClassId) (i0 i1 i2 : Int32) (rest : List Ent) :
    OMeets l (⟨"com/example/tapflow/tapflow/MotionEvent", "setAction", "(I)V"⟩ : MethodName) prog_5_method_8_code 7 none rm_c_set2_3 Z [.ref a, .int (2 : Int32)] ((oMe Z a (.ref lv) (.int pl) (.long t) (.ref b) (.ref xa) (.ref ya) (.int ac0)) :: (oArr Z b kI .int [.int i0, .int i1, .int i2]) :: rest) (fun v K => v = none ∧ K = (oMe Z a (.ref lv) (.int pl) (.long t) (.ref b) (.ref xa) (.ref ya) (.int (2 : Int32))) :: (oArr Z b kI .int [.int i0, .int i1, .int i2]) :: rest) := by
  refine OMeets.of_body (plainFor_of_name pn_com_example_tapflow_tapflow_MotionEvent) #[.val (.ref a), .val (.int (2 : Int32)), .unset, .unset, .unset, .unset, .unset] (fun m => by first | (simp [entryFrame, mkF, argsToLocals, Value.category]; done) | rfl) fun pP eE sS mM bB hH cC T N => ?_
  refine k_iload_n (pc := 0) N d7_0 rfl ?_
  refine k_static (pc := 1) N (y := (⟨"com/example/tapflow/tapflow/MotionEvent", "name", "(I)Ljava/lang/String;"⟩ : MethodName)) (rest := []) [.int (2 : Int32)] d7_1 (hw _ (List.mem_of_getElem? (i := 59) rfl)) (hw _ (List.mem_of_getElem? (i := 60) rfl)) (hw _ (List.mem_of_getElem? (i := 8) rfl)) (hw _ (List.mem_of_getElem? (i := 61) rfl)) (by decide) pd__I_Ljava_lang_String_ rfl (c_name2 l Z a0 hw an sn ac SA AA A7 AE ((oMe Z a (.ref lv) (.int pl) (.long t) (.ref b) (.ref xa) (.ref ya) (.int ac0)) :: (oArr Z b kI .int [.int i0, .int i1, .int i2]) :: rest)) rfl rfl 0 rfl (by decide) (by decide) (cells' := 0) rfl (slots' := 0) rfl (by decide) (by decide) fun T vV K' N qQ => ?_
  obtain ⟨rfl, rfl⟩ := qQ
  refine k_astore_n (pc := 4) N d7_4 rfl (Ls' := #[.val (.ref a), .val (.int (2 : Int32)), .val (.ref sn), .unset, .unset, .unset, .unset]) rfl ?_
  refine k_aload_n (pc := 5) N d7_5 rfl rfl ?_
  refine k_ifnonnull_yes (pc := 6) N d7_6 (pc' := 23) (by decide) ?_
  refine k_iload_n (pc := 23) N d7_23 rfl ?_
  refine k_sipush (pc := 24) N d7_24 (v := (255 : Int32)) (by decide) ?_
  refine k_iand (pc := 27) N d7_27 ?_
  refine k_istore_n (pc := 28) N d7_28 (Ls' := #[.val (.ref a), .val (.int (2 : Int32)), .val (.ref sn), .val (.int ((2 : Int32) &&& (255 : Int32))), .unset, .unset, .unset]) rfl ?_
  refine k_iload_n (pc := 29) N d7_29 rfl ?_
  refine k_ldcI (pc := 30) N d7_30 (hw _ (List.mem_of_getElem? (i := 65) rfl)) ?_
  refine k_iand (pc := 32) N d7_32 ?_
  refine k_bipush (pc := 33) N d7_33 (v := (8 : Int32)) (by decide) ?_
  refine k_ishr (pc := 35) N d7_35 ?_
  refine k_istore (pc := 36) N d7_36 (Ls' := #[.val (.ref a), .val (.int (2 : Int32)), .val (.ref sn), .val (.int ((2 : Int32) &&& (255 : Int32))), .val (.int (((2 : Int32) &&& (65280 : Int32)) >>> ((8 : Int32) &&& 31))), .unset, .unset]) rfl ?_
  refine k_aload_n (pc := 38) N d7_38 rfl rfl ?_
  refine k_get (pc := 39) (host := "") N 0 3 d7_39 (Or.inl (hw _ (List.mem_of_getElem? (i := 42) rfl))) Via.refl rfl rfl fun T N => ?_
  refine k_arraylength (pc := 42) N 1 d7_42 rfl (z := (3 : Int32)) rfl ?_
  refine k_istore (pc := 43) N d7_43 (Ls' := #[.val (.ref a), .val (.int (2 : Int32)), .val (.ref sn), .val (.int ((2 : Int32) &&& (255 : Int32))), .val (.int (((2 : Int32) &&& (65280 : Int32)) >>> ((8 : Int32) &&& 31))), .val (.int (3 : Int32)), .unset]) rfl ?_
  refine k_iload_n (pc := 45) N d7_45 rfl ?_
  refine k_static (pc := 46) N (y := (⟨"com/example/tapflow/tapflow/MotionEvent", "isPointerAction", "(I)Z"⟩ : MethodName)) (rest := []) [.int ((2 : Int32) &&& (255 : Int32))] d7_46 (hw _ (List.mem_of_getElem? (i := 66) rfl)) (hw _ (List.mem_of_getElem? (i := 67) rfl)) (hw _ (List.mem_of_getElem? (i := 8) rfl)) (hw _ (List.mem_of_getElem? (i := 68) rfl)) (by decide) pd__I_Z rfl (c_ptr2 l Z a0 hw ((2 : Int32) &&& (255 : Int32)) (by decide) ((oMe Z a (.ref lv) (.int pl) (.long t) (.ref b) (.ref xa) (.ref ya) (.int ac0)) :: (oArr Z b kI .int [.int i0, .int i1, .int i2]) :: rest)) rfl rfl 0 rfl (by decide) (by decide) (cells' := 0) rfl (slots' := 0) rfl (by decide) (by decide) fun T vV K' N qQ => ?_
  obtain ⟨rfl, rfl⟩ := qQ
  refine k_if_eq (pc := 49) N d7_49 (pc' := 73) (by decide) (fun _ => ?_) (fun qQ => absurd qQ (by decide))
  refine k_iload (pc := 73) N d7_73 rfl ?_
  refine k_if_ne (pc := 75) N d7_75 (pc' := 98) (by decide) (fun qQ => absurd qQ (by decide)) (fun _ => ?_)
  refine k_iload (pc := 78) N d7_78 rfl ?_
  refine k_iconst (pc := 80) N d7_80 (v := (1 : Int32)) (by decide) ?_
  refine k_icmp_eq (pc := 81) N d7_81 (pc' := 94) (by decide) (fun qQ => absurd qQ (by decide)) (fun _ => ?_)
  refine k_iload_n (pc := 84) N d7_84 rfl ?_
  refine k_iconst (pc := 85) N d7_85 (v := (2 : Int32)) (by decide) ?_
  refine k_icmp_eq (pc := 86) N d7_86 (pc' := 94) (by decide) (fun _ => ?_) (fun qQ => absurd qQ (by decide))
  refine k_iconst (pc := 94) N d7_94 (v := (1 : Int32)) (by decide) ?_
  refine k_goto (pc := 95) N d7_95 (pc' := 99) (by decide) ?_
  refine k_istore (pc := 99) N d7_99 (Ls' := #[.val (.ref a), .val (.int (2 : Int32)), .val (.ref sn), .val (.int ((2 : Int32) &&& (255 : Int32))), .val (.int (((2 : Int32) &&& (65280 : Int32)) >>> ((8 : Int32) &&& 31))), .val (.int (3 : Int32)), .val (.int (1 : Int32))]) rfl ?_
  refine k_iload (pc := 101) N d7_101 rfl ?_
  refine k_if_ne (pc := 103) N d7_103 (pc' := 124) (by decide) (fun _ => ?_) (fun qQ => absurd qQ (by decide))
  refine k_aload_n (pc := 124) N d7_124 rfl rfl ?_
  refine k_iload_n (pc := 125) N d7_125 rfl ?_
  refine k_put (pc := 126) (host := "") N 0 6 d7_126 (Or.inl (hw _ (List.mem_of_getElem? (i := 69) rfl))) Via.refl rfl rfl (Or.inl (hw _ (List.mem_of_getElem? (i := 70) rfl))) (hw _ (List.mem_of_getElem? (i := 7) rfl)) (ty := .int) (by decide) rfl rfl (K' := ((oMe Z a (.ref lv) (.int pl) (.long t) (.ref b) (.ref xa) (.ref ya) (.int (2 : Int32))) :: (oArr Z b kI .int [.int i0, .int i1, .int i2]) :: rest)) rfl fun T N => ?_
  exact k_return (pc := 129) N d7_129 rfl (by decide) (by decide) ⟨rfl, rfl⟩
def rm_c_set2_4 : Room := { frames := 1, cells := 0, slots := 0, locals := 14 }
set_option maxRecDepth 65536 in
set_option maxHeartbeats 40000000 in
theorem c_set2_4 (l : Launch) (Z : State) (a0 : Array Value) (hw : ∀ d ∈ tables_1, d.before a0 Z = true) (an sn : Addr) (ac : Cell) (SA : Sta Z Z.heap "com/example/tapflow/tapflow/MotionEvent" "ACTION_NAMES" "[Ljava/lang/String;" (.ref an)) (AA : Arr Z Z.heap an ac (.object "java/lang/String")) (A7 : ac.slots.size = 7) (AE : ac.slots[2]? = some (.ref sn)) (a lv b xa ya : Addr) (pl ac0 : Int32) (t : Int64) (kI : ClassId) (i0 i1 i2 i3 : Int32) (rest : List Ent) :
    OMeets l (⟨"com/example/tapflow/tapflow/MotionEvent", "setAction", "(I)V"⟩ : MethodName) prog_5_method_8_code 7 none rm_c_set2_4 Z [.ref a, .int (2 : Int32)] ((oMe Z a (.ref lv) (.int pl) (.long t) (.ref b) (.ref xa) (.ref ya) (.int ac0)) :: (oArr Z b kI .int [.int i0, .int i1, .int i2, .int i3]) :: rest) (fun v K => v = none ∧ K = (oMe Z a (.ref lv) (.int pl) (.long t) (.ref b) (.ref xa) (.ref ya) (.int (2 : Int32))) :: (oArr Z b kI .int [.int i0, .int i1, .int i2, .int i3]) :: rest) := by
  refine OMeets.of_body (plainFor_of_name pn_com_example_tapflow_tapflow_MotionEvent) #[.val (.ref a), .val (.int (2 : Int32)), .unset, .unset, .unset, .unset, .unset] (fun m => by first | (simp [entryFrame, mkF, argsToLocals, Value.category]; done) | rfl) fun pP eE sS mM bB hH cC T N => ?_
  refine k_iload_n (pc := 0) N d7_0 rfl ?_
  refine k_static (pc := 1) N (y := (⟨"com/example/tapflow/tapflow/MotionEvent", "name", "(I)Ljava/lang/String;"⟩ : MethodName)) (rest := []) [.int (2 : Int32)] d7_1 (hw _ (List.mem_of_getElem? (i := 59) rfl)) (hw _ (List.mem_of_getElem? (i := 60) rfl)) (hw _ (List.mem_of_getElem? (i := 8) rfl)) (hw _ (List.mem_of_getElem? (i := 61) rfl)) (by decide) pd__I_Ljava_lang_String_ rfl (c_name2 l Z a0 hw an sn ac SA AA A7 AE ((oMe Z a (.ref lv) (.int pl) (.long t) (.ref b) (.ref xa) (.ref ya) (.int ac0)) :: (oArr Z b kI .int [.int i0, .int i1, .int i2, .int i3]) :: rest)) rfl rfl 0 rfl (by decide) (by decide) (cells' := 0) rfl (slots' := 0) rfl (by decide) (by decide) fun T vV K' N qQ => ?_
  obtain ⟨rfl, rfl⟩ := qQ
  refine k_astore_n (pc := 4) N d7_4 rfl (Ls' := #[.val (.ref a), .val (.int (2 : Int32)), .val (.ref sn), .unset, .unset, .unset, .unset]) rfl ?_
  refine k_aload_n (pc := 5) N d7_5 rfl rfl ?_
  refine k_ifnonnull_yes (pc := 6) N d7_6 (pc' := 23) (by decide) ?_
  refine k_iload_n (pc := 23) N d7_23 rfl ?_
  refine k_sipush (pc := 24) N d7_24 (v := (255 : Int32)) (by decide) ?_
  refine k_iand (pc := 27) N d7_27 ?_
  refine k_istore_n (pc := 28) N d7_28 (Ls' := #[.val (.ref a), .val (.int (2 : Int32)), .val (.ref sn), .val (.int ((2 : Int32) &&& (255 : Int32))), .unset, .unset, .unset]) rfl ?_
  refine k_iload_n (pc := 29) N d7_29 rfl ?_
  refine k_ldcI (pc := 30) N d7_30 (hw _ (List.mem_of_getElem? (i := 65) rfl)) ?_
  refine k_iand (pc := 32) N d7_32 ?_
  refine k_bipush (pc := 33) N d7_33 (v := (8 : Int32)) (by decide) ?_
  refine k_ishr (pc := 35) N d7_35 ?_
  refine k_istore (pc := 36) N d7_36 (Ls' := #[.val (.ref a), .val (.int (2 : Int32)), .val (.ref sn), .val (.int ((2 : Int32) &&& (255 : Int32))), .val (.int (((2 : Int32) &&& (65280 : Int32)) >>> ((8 : Int32) &&& 31))), .unset, .unset]) rfl ?_
  refine k_aload_n (pc := 38) N d7_38 rfl rfl ?_
  refine k_get (pc := 39) (host := "") N 0 3 d7_39 (Or.inl (hw _ (List.mem_of_getElem? (i := 42) rfl))) Via.refl rfl rfl fun T N => ?_
  refine k_arraylength (pc := 42) N 1 d7_42 rfl (z := (4 : Int32)) rfl ?_
  refine k_istore (pc := 43) N d7_43 (Ls' := #[.val (.ref a), .val (.int (2 : Int32)), .val (.ref sn), .val (.int ((2 : Int32) &&& (255 : Int32))), .val (.int (((2 : Int32) &&& (65280 : Int32)) >>> ((8 : Int32) &&& 31))), .val (.int (4 : Int32)), .unset]) rfl ?_
  refine k_iload_n (pc := 45) N d7_45 rfl ?_
  refine k_static (pc := 46) N (y := (⟨"com/example/tapflow/tapflow/MotionEvent", "isPointerAction", "(I)Z"⟩ : MethodName)) (rest := []) [.int ((2 : Int32) &&& (255 : Int32))] d7_46 (hw _ (List.mem_of_getElem? (i := 66) rfl)) (hw _ (List.mem_of_getElem? (i := 67) rfl)) (hw _ (List.mem_of_getElem? (i := 8) rfl)) (hw _ (List.mem_of_getElem? (i := 68) rfl)) (by decide) pd__I_Z rfl (c_ptr2 l Z a0 hw ((2 : Int32) &&& (255 : Int32)) (by decide) ((oMe Z a (.ref lv) (.int pl) (.long t) (.ref b) (.ref xa) (.ref ya) (.int ac0)) :: (oArr Z b kI .int [.int i0, .int i1, .int i2, .int i3]) :: rest)) rfl rfl 0 rfl (by decide) (by decide) (cells' := 0) rfl (slots' := 0) rfl (by decide) (by decide) fun T vV K' N qQ => ?_
  obtain ⟨rfl, rfl⟩ := qQ
  refine k_if_eq (pc := 49) N d7_49 (pc' := 73) (by decide) (fun _ => ?_) (fun qQ => absurd qQ (by decide))
  refine k_iload (pc := 73) N d7_73 rfl ?_
  refine k_if_ne (pc := 75) N d7_75 (pc' := 98) (by decide) (fun qQ => absurd qQ (by decide)) (fun _ => ?_)
  refine k_iload (pc := 78) N d7_78 rfl ?_
  refine k_iconst (pc := 80) N d7_80 (v := (1 : Int32)) (by decide) ?_
  refine k_icmp_eq (pc := 81) N d7_81 (pc' := 94) (by decide) (fun qQ => absurd qQ (by decide)) (fun _ => ?_)
  refine k_iload_n (pc := 84) N d7_84 rfl ?_
  refine k_iconst (pc := 85) N d7_85 (v := (2 : Int32)) (by decide) ?_
  refine k_icmp_eq (pc := 86) N d7_86 (pc' := 94) (by decide) (fun _ => ?_) (fun qQ => absurd qQ (by decide))
  refine k_iconst (pc := 94) N d7_94 (v := (1 : Int32)) (by decide) ?_
  refine k_goto (pc := 95) N d7_95 (pc' := 99) (by decide) ?_
  refine k_istore (pc := 99) N d7_99 (Ls' := #[.val (.ref a), .val (.int (2 : Int32)), .val (.ref sn), .val (.int ((2 : Int32) &&& (255 : Int32))), .val (.int (((2 : Int32) &&& (65280 : Int32)) >>> ((8 : Int32) &&& 31))), .val (.int (4 : Int32)), .val (.int (1 : Int32))]) rfl ?_
  refine k_iload (pc := 101) N d7_101 rfl ?_
  refine k_if_ne (pc := 103) N d7_103 (pc' := 124) (by decide) (fun _ => ?_) (fun qQ => absurd qQ (by decide))
  refine k_aload_n (pc := 124) N d7_124 rfl rfl ?_
  refine k_iload_n (pc := 125) N d7_125 rfl ?_
  refine k_put (pc := 126) (host := "") N 0 6 d7_126 (Or.inl (hw _ (List.mem_of_getElem? (i := 69) rfl))) Via.refl rfl rfl (Or.inl (hw _ (List.mem_of_getElem? (i := 70) rfl))) (hw _ (List.mem_of_getElem? (i := 7) rfl)) (ty := .int) (by decide) rfl rfl (K' := ((oMe Z a (.ref lv) (.int pl) (.long t) (.ref b) (.ref xa) (.ref ya) (.int (2 : Int32))) :: (oArr Z b kI .int [.int i0, .int i1, .int i2, .int i3]) :: rest)) rfl fun T N => ?_
  exact k_return (pc := 129) N d7_129 rfl (by decide) (by decide) ⟨rfl, rfl⟩
def rm_c_ptr0 : Room := { frames := 0, cells := 0, slots := 0, locals := 0 }
set_option maxRecDepth 65536 in
set_option maxHeartbeats 40000000 in
theorem c_ptr0 (l : Launch) (Z : State) (a0 : Array Value) (hw : ∀ d ∈ tables_1, d.before a0 Z = true) (u : Int32) (hu : u = 0) (rest : List Ent) :
    OMeets l (⟨"com/example/tapflow/tapflow/MotionEvent", "isPointerAction", "(I)Z"⟩ : MethodName) prog_5_method_55_code 2 (some .boolean) rm_c_ptr0 Z [.int u] rest (fun v K => v = some (.int 0) ∧ rest = K) := by
  refine OMeets.of_body (plainFor_of_name pn_com_example_tapflow_tapflow_MotionEvent) #[.val (.int u), .unset] (fun m => by first | (simp [entryFrame, mkF, argsToLocals, Value.category]; done) | rfl) fun pP eE sS mM bB hH cC T N => ?_
  refine k_iload_n (pc := 0) N d9_0 rfl ?_
  refine k_sipush (pc := 1) N d9_1 (v := (255 : Int32)) (by decide) ?_
  refine k_iand (pc := 4) N d9_4 ?_
  refine k_istore_n (pc := 5) N d9_5 (Ls' := #[.val (.int u), .val (.int (u &&& (255 : Int32)))]) rfl ?_
  refine k_iload_n (pc := 6) N d9_6 rfl ?_
  refine k_iconst (pc := 7) N d9_7 (v := (5 : Int32)) (by decide) ?_
  refine k_icmp_eq (pc := 8) N d9_8 (pc' := 17) (by decide) (fun qQ => absurd qQ (by subst hu; decide)) (fun _ => ?_)
  refine k_iload_n (pc := 11) N d9_11 rfl ?_
  refine k_bipush (pc := 12) N d9_12 (v := (6 : Int32)) (by decide) ?_
  refine k_icmp_ne (pc := 14) N d9_14 (pc' := 21) (by decide) (fun _ => ?_) (fun qQ => absurd qQ (by subst hu; decide))
  refine k_iconst (pc := 21) N d9_21 (v := (0 : Int32)) (by decide) ?_
  exact k_zreturn (pc := 22) N d9_22 rfl (by decide) (by decide) ⟨rfl, rfl⟩
def rm_c_name0 : Room := { frames := 0, cells := 0, slots := 0, locals := 0 }
set_option maxRecDepth 65536 in
set_option maxHeartbeats 40000000 in
theorem c_name0 (l : Launch) (Z : State) (a0 : Array Value) (hw : ∀ d ∈ tables_1, d.before a0 Z = true) (an sn : Addr) (ac : Cell) (SA : Sta Z Z.heap "com/example/tapflow/tapflow/MotionEvent" "ACTION_NAMES" "[Ljava/lang/String;" (.ref an)) (AA : Arr Z Z.heap an ac (.object "java/lang/String")) (A7 : ac.slots.size = 7) (AE : ac.slots[0]? = some (.ref sn)) (rest : List Ent) :
    OMeets l (⟨"com/example/tapflow/tapflow/MotionEvent", "name", "(I)Ljava/lang/String;"⟩ : MethodName) prog_5_method_51_code 3 (some (.object "java/lang/String")) rm_c_name0 Z [.int (0 : Int32)] rest (fun v K => v = some (.ref sn) ∧ rest = K) := by
  refine OMeets.of_body (plainFor_of_name pn_com_example_tapflow_tapflow_MotionEvent) #[.val (.int (0 : Int32)), .unset, .unset] (fun m => by first | (simp [entryFrame, mkF, argsToLocals, Value.category]; done) | rfl) fun pP eE sS mM bB hH cC T N => ?_
  refine k_iload_n (pc := 0) N d8_0 rfl ?_
  refine k_sipush (pc := 1) N d8_1 (v := (255 : Int32)) (by decide) ?_
  refine k_iand (pc := 4) N d8_4 ?_
  refine k_istore_n (pc := 5) N d8_5 (Ls' := #[.val (.int (0 : Int32)), .val (.int ((0 : Int32) &&& (255 : Int32))), .unset]) rfl ?_
  refine k_iload_n (pc := 6) N d8_6 rfl ?_
  refine k_ldcWI (pc := 7) N d8_7 (hw _ (List.mem_of_getElem? (i := 62) rfl)) ?_
  refine k_iand (pc := 10) N d8_10 ?_
  refine k_if_ne (pc := 11) N d8_11 (pc' := 18) (by decide) (fun qQ => absurd qQ (by decide)) (fun _ => ?_)
  refine k_iconst (pc := 14) N d8_14 (v := (1 : Int32)) (by decide) ?_
  refine k_goto (pc := 15) N d8_15 (pc' := 19) (by decide) ?_
  refine k_istore_n (pc := 19) N d8_19 (Ls' := #[.val (.int (0 : Int32)), .val (.int ((0 : Int32) &&& (255 : Int32))), .val (.int (1 : Int32))]) rfl ?_
  refine k_iload_n (pc := 20) N d8_20 rfl ?_
  refine k_if_eq (pc := 21) N d8_21 (pc' := 40) (by decide) (fun qQ => absurd qQ (by decide)) (fun _ => ?_)
  refine k_iload_n (pc := 24) N d8_24 rfl ?_
  refine k_getS (pc := 25) N d8_25 (hw _ (List.mem_of_getElem? (i := 63) rfl)) Via.refl SA fun T N => ?_
  refine k_alenOld (pc := 28) N d8_28 AA (z := (7 : Int32)) (by rw [A7]; rfl) ?_
  refine k_icmp_ge (pc := 29) N d8_29 (pc' := 40) (by decide) (fun qQ => absurd qQ (by decide)) (fun _ => ?_)
  refine k_getS (pc := 32) N d8_32 (hw _ (List.mem_of_getElem? (i := 63) rfl)) Via.refl SA fun T N => ?_
  refine k_iload_n (pc := 35) N d8_35 rfl ?_
  refine k_aaloadOld (pc := 36) N d8_36 AA rfl (by rw [A7]; decide) (v := .ref sn) AE ?_
  refine k_goto (pc := 37) N d8_37 (pc' := 41) (by decide) ?_
  exact k_areturn (pc := 41) N (t := (.object "java/lang/String")) rfl rfl d8_41 rfl (by decide) (by decide) ⟨rfl, rfl⟩
def rm_c_set0_1 : Room := { frames := 1, cells := 0, slots := 0, locals := 14 }
set_option maxRecDepth 65536 in
set_option maxHeartbeats 40000000 in
theorem c_set0_1 (l : Launch) (Z : State) (a0 : Array Value) (hw : ∀ d ∈ tables_1, d.before a0 Z = true) (an sn : Addr) (ac : Cell) (SA : Sta Z Z.heap "com/example/tapflow/tapflow/MotionEvent" "ACTION_NAMES" "[Ljava/lang/String;" (.ref an)) (AA : Arr Z Z.heap an ac (.object "java/lang/String")) (A7 : ac.slots.size = 7) (AE : ac.slots[0]? = some (.ref sn)) (a lv b xa ya : Addr) (pl ac0 : Int32) (t : Int64) (kI : ClassId) (i0 : Int32) (rest : List Ent) :
    OMeets l (⟨"com/example/tapflow/tapflow/MotionEvent", "setAction", "(I)V"⟩ : MethodName) prog_5_method_8_code 7 none rm_c_set0_1 Z [.ref a, .int (0 : Int32)] ((oMe Z a (.ref lv) (.int pl) (.long t) (.ref b) (.ref xa) (.ref ya) (.int ac0)) :: (oArr Z b kI .int [.int i0]) :: rest) (fun v K => v = none ∧ K = (oMe Z a (.ref lv) (.int pl) (.long t) (.ref b) (.ref xa) (.ref ya) (.int (0 : Int32))) :: (oArr Z b kI .int [.int i0]) :: rest) := by
  refine OMeets.of_body (plainFor_of_name pn_com_example_tapflow_tapflow_MotionEvent) #[.val (.ref a), .val (.int (0 : Int32)), .unset, .unset, .unset, .unset, .unset] (fun m => by first | (simp [entryFrame, mkF, argsToLocals, Value.category]; done) | rfl) fun pP eE sS mM bB hH cC T N => ?_
  refine k_iload_n (pc := 0) N d7_0 rfl ?_
  refine k_static (pc := 1) N (y := (⟨"com/example/tapflow/tapflow/MotionEvent", "name", "(I)Ljava/lang/String;"⟩ : MethodName)) (rest := []) [.int (0 : Int32)] d7_1 (hw _ (List.mem_of_getElem? (i := 59) rfl)) (hw _ (List.mem_of_getElem? (i := 60) rfl)) (hw _ (List.mem_of_getElem? (i := 8) rfl)) (hw _ (List.mem_of_getElem? (i := 61) rfl)) (by decide) pd__I_Ljava_lang_String_ rfl (c_name0 l Z a0 hw an sn ac SA AA A7 AE ((oMe Z a (.ref lv) (.int pl) (.long t) (.ref b) (.ref xa) (.ref ya) (.int ac0)) :: (oArr Z b kI .int [.int i0]) :: rest)) rfl rfl 0 rfl (by decide) (by decide) (cells' := 0) rfl (slots' := 0) rfl (by decide) (by decide) fun T vV K' N qQ => ?_
  obtain ⟨rfl, rfl⟩ := qQ
  refine k_astore_n (pc := 4) N d7_4 rfl (Ls' := #[.val (.ref a), .val (.int (0 : Int32)), .val (.ref sn), .unset, .unset, .unset, .unset]) rfl ?_
  refine k_aload_n (pc := 5) N d7_5 rfl rfl ?_
  refine k_ifnonnull_yes (pc := 6) N d7_6 (pc' := 23) (by decide) ?_
  refine k_iload_n (pc := 23) N d7_23 rfl ?_
  refine k_sipush (pc := 24) N d7_24 (v := (255 : Int32)) (by decide) ?_
  refine k_iand (pc := 27) N d7_27 ?_
  refine k_istore_n (pc := 28) N d7_28 (Ls' := #[.val (.ref a), .val (.int (0 : Int32)), .val (.ref sn), .val (.int ((0 : Int32) &&& (255 : Int32))), .unset, .unset, .unset]) rfl ?_
  refine k_iload_n (pc := 29) N d7_29 rfl ?_
  refine k_ldcI (pc := 30) N d7_30 (hw _ (List.mem_of_getElem? (i := 65) rfl)) ?_
  refine k_iand (pc := 32) N d7_32 ?_
  refine k_bipush (pc := 33) N d7_33 (v := (8 : Int32)) (by decide) ?_
  refine k_ishr (pc := 35) N d7_35 ?_
  refine k_istore (pc := 36) N d7_36 (Ls' := #[.val (.ref a), .val (.int (0 : Int32)), .val (.ref sn), .val (.int ((0 : Int32) &&& (255 : Int32))), .val (.int (((0 : Int32) &&& (65280 : Int32)) >>> ((8 : Int32) &&& 31))), .unset, .unset]) rfl ?_
  refine k_aload_n (pc := 38) N d7_38 rfl rfl ?_
  refine k_get (pc := 39) (host := "") N 0 3 d7_39 (Or.inl (hw _ (List.mem_of_getElem? (i := 42) rfl))) Via.refl rfl rfl fun T N => ?_
  refine k_arraylength (pc := 42) N 1 d7_42 rfl (z := (1 : Int32)) rfl ?_
  refine k_istore (pc := 43) N d7_43 (Ls' := #[.val (.ref a), .val (.int (0 : Int32)), .val (.ref sn), .val (.int ((0 : Int32) &&& (255 : Int32))), .val (.int (((0 : Int32) &&& (65280 : Int32)) >>> ((8 : Int32) &&& 31))), .val (.int (1 : Int32)), .unset]) rfl ?_
  refine k_iload_n (pc := 45) N d7_45 rfl ?_
  refine k_static (pc := 46) N (y := (⟨"com/example/tapflow/tapflow/MotionEvent", "isPointerAction", "(I)Z"⟩ : MethodName)) (rest := []) [.int ((0 : Int32) &&& (255 : Int32))] d7_46 (hw _ (List.mem_of_getElem? (i := 66) rfl)) (hw _ (List.mem_of_getElem? (i := 67) rfl)) (hw _ (List.mem_of_getElem? (i := 8) rfl)) (hw _ (List.mem_of_getElem? (i := 68) rfl)) (by decide) pd__I_Z rfl (c_ptr0 l Z a0 hw ((0 : Int32) &&& (255 : Int32)) (by decide) ((oMe Z a (.ref lv) (.int pl) (.long t) (.ref b) (.ref xa) (.ref ya) (.int ac0)) :: (oArr Z b kI .int [.int i0]) :: rest)) rfl rfl 0 rfl (by decide) (by decide) (cells' := 0) rfl (slots' := 0) rfl (by decide) (by decide) fun T vV K' N qQ => ?_
  obtain ⟨rfl, rfl⟩ := qQ
  refine k_if_eq (pc := 49) N d7_49 (pc' := 73) (by decide) (fun _ => ?_) (fun qQ => absurd qQ (by decide))
  refine k_iload (pc := 73) N d7_73 rfl ?_
  refine k_if_ne (pc := 75) N d7_75 (pc' := 98) (by decide) (fun qQ => absurd qQ (by decide)) (fun _ => ?_)
  refine k_iload (pc := 78) N d7_78 rfl ?_
  refine k_iconst (pc := 80) N d7_80 (v := (1 : Int32)) (by decide) ?_
  refine k_icmp_eq (pc := 81) N d7_81 (pc' := 94) (by decide) (fun _ => ?_) (fun qQ => absurd qQ (by decide))
  refine k_iconst (pc := 94) N d7_94 (v := (1 : Int32)) (by decide) ?_
  refine k_goto (pc := 95) N d7_95 (pc' := 99) (by decide) ?_
  refine k_istore (pc := 99) N d7_99 (Ls' := #[.val (.ref a), .val (.int (0 : Int32)), .val (.ref sn), .val (.int ((0 : Int32) &&& (255 : Int32))), .val (.int (((0 : Int32) &&& (65280 : Int32)) >>> ((8 : Int32) &&& 31))), .val (.int (1 : Int32)), .val (.int (1 : Int32))]) rfl ?_
  refine k_iload (pc := 101) N d7_101 rfl ?_
  refine k_if_ne (pc := 103) N d7_103 (pc' := 124) (by decide) (fun _ => ?_) (fun qQ => absurd qQ (by decide))
  refine k_aload_n (pc := 124) N d7_124 rfl rfl ?_
  refine k_iload_n (pc := 125) N d7_125 rfl ?_
  refine k_put (pc := 126) (host := "") N 0 6 d7_126 (Or.inl (hw _ (List.mem_of_getElem? (i := 69) rfl))) Via.refl rfl rfl (Or.inl (hw _ (List.mem_of_getElem? (i := 70) rfl))) (hw _ (List.mem_of_getElem? (i := 7) rfl)) (ty := .int) (by decide) rfl rfl (K' := ((oMe Z a (.ref lv) (.int pl) (.long t) (.ref b) (.ref xa) (.ref ya) (.int (0 : Int32))) :: (oArr Z b kI .int [.int i0]) :: rest)) rfl fun T N => ?_
  exact k_return (pc := 129) N d7_129 rfl (by decide) (by decide) ⟨rfl, rfl⟩
def rm_c_init2_1 : Room := { frames := 2, cells := 3, slots := 3, locals := 32 }
set_option maxRecDepth 65536 in
set_option maxHeartbeats 40000000 in
theorem c_init2_1 (l : Launch) (Z : State) (a0 : Array Value) (hw : ∀ d ∈ tables_1, d.before a0 Z = true) (an sn : Addr) (ac : Cell) (SA : Sta Z Z.heap "com/example/tapflow/tapflow/MotionEvent" "ACTION_NAMES" "[Ljava/lang/String;" (.ref an)) (AA : Arr Z Z.heap an ac (.object "java/lang/String")) (A7 : ac.slots.size = 7) (AE : ac.slots[2]? = some (.ref sn)) (lv : Addr) (SL : Sta Z Z.heap "com/example/tapflow/tapflow/MotionEvent" "NO_LEVELS" "[D" (.ref lv)) (a b xa ya : Addr) (t : Int64) (kI kD : ClassId) (hkI : Z.vm.findClass "[I" = some kI) (hkD : Z.vm.findClass "[D" = some kD) (i0 : Int32) (x0 y0 : UInt64) (g0 : ¬ i0 < 0) (u0 : ¬ (31 : Int32) < i0) (hx0 : Crd x0) (hy0 : Crd y0) (rest : List Ent) :
    OMeets l (⟨"com/example/tapflow/tapflow/MotionEvent", "<init>", "(JI[I[D[D)V"⟩ : MethodName) prog_5_method_2_code 9 none rm_c_init2_1 Z [.ref a, .long t, .int (2 : Int32), .ref b, .ref xa, .ref ya] ((oMe Z a .null (.int (0 : Int32)) (.long (0 : Int64)) .null .null .null (.int (0 : Int32))) :: (oArr Z b kI .int [.int i0]) :: (oArr Z xa kD .double [.double x0]) :: (oArr Z ya kD .double [.double y0]) :: rest) (fun v K => ∃ nb nx ny, v = none ∧ K = (oMe Z a (.ref lv) (.int (-1 : Int32)) (.long t) (.ref nb) (.ref nx) (.ref ny) (.int (2 : Int32))) :: (oArr Z nb kI .int [.int i0]) :: (oArr Z ny kD .double [.double y0]) :: (oArr Z nx kD .double [.double x0]) :: (oArr Z b kI .int [.int i0]) :: (oArr Z xa kD .double [.double x0]) :: (oArr Z ya kD .double [.double y0]) :: rest) := by
  refine OMeets.of_body (plainFor_of_name pn_com_example_tapflow_tapflow_MotionEvent) #[.val (.ref a), .val (.long t), .second, .val (.int (2 : Int32)), .val (.ref b), .val (.ref xa), .val (.ref ya), .unset, .unset] (fun m => by first | (simp [entryFrame, mkF, argsToLocals, Value.category]; done) | rfl) fun pP eE sS mM bB hH cC T N => ?_
  refine k_aload_n (pc := 0) N d2_0 rfl rfl ?_
  refine initO_k (pc := 1) N 0 d2_1 (hw _ (List.mem_of_getElem? (i := 12) rfl)) (hw _ (List.mem_of_getElem? (i := 13) rfl)) (hw _ (List.mem_of_getElem? (i := 14) rfl)) rfl rfl (by decide) (by decide) fun T N => ?_
  refine k_aload_n (pc := 4) N d2_4 rfl rfl ?_
  refine k_getS (pc := 5) N d2_5 (hw _ (List.mem_of_getElem? (i := 15) rfl)) Via.refl SL fun T N => ?_
  refine k_put (pc := 8) (host := "") N 0 0 d2_8 (Or.inl (hw _ (List.mem_of_getElem? (i := 17) rfl))) Via.refl rfl rfl (Or.inl (hw _ (List.mem_of_getElem? (i := 18) rfl))) (hw _ (List.mem_of_getElem? (i := 7) rfl)) (ty := (.array .double)) (by decide) rfl rfl (K' := ((oMe Z a (.ref lv) (.int (0 : Int32)) (.long (0 : Int64)) .null .null .null (.int (0 : Int32))) :: (oArr Z b kI .int [.int i0]) :: (oArr Z xa kD .double [.double x0]) :: (oArr Z ya kD .double [.double y0]) :: rest)) rfl fun T N => ?_
  refine k_aload_n (pc := 11) N d2_11 rfl rfl ?_
  refine k_iconst (pc := 12) N d2_12 (v := (-1 : Int32)) (by decide) ?_
  refine k_put (pc := 13) (host := "") N 0 1 d2_13 (Or.inl (hw _ (List.mem_of_getElem? (i := 19) rfl))) Via.refl rfl rfl (Or.inl (hw _ (List.mem_of_getElem? (i := 20) rfl))) (hw _ (List.mem_of_getElem? (i := 7) rfl)) (ty := .int) (by decide) rfl rfl (K' := ((oMe Z a (.ref lv) (.int (-1 : Int32)) (.long (0 : Int64)) .null .null .null (.int (0 : Int32))) :: (oArr Z b kI .int [.int i0]) :: (oArr Z xa kD .double [.double x0]) :: (oArr Z ya kD .double [.double y0]) :: rest)) rfl fun T N => ?_
  refine k_aload (pc := 16) N d2_16 rfl rfl ?_
  refine k_arraylength (pc := 18) N 1 d2_18 rfl (z := (1 : Int32)) rfl ?_
  refine k_if_eq (pc := 19) N d2_19 (pc' := 40) (by decide) (fun qQ => absurd qQ (by decide)) (fun _ => ?_)
  refine k_aload (pc := 22) N d2_22 rfl rfl ?_
  refine k_arraylength (pc := 24) N 2 d2_24 rfl (z := (1 : Int32)) rfl ?_
  refine k_aload (pc := 25) N d2_25 rfl rfl ?_
  refine k_arraylength (pc := 27) N 1 d2_27 rfl (z := (1 : Int32)) rfl ?_
  refine k_icmp_ne (pc := 28) N d2_28 (pc' := 40) (by decide) (fun qQ => absurd qQ (fun z => z rfl)) (fun _ => ?_)
  refine k_aload (pc := 31) N d2_31 rfl rfl ?_
  refine k_arraylength (pc := 33) N 3 d2_33 rfl (z := (1 : Int32)) rfl ?_
  refine k_aload (pc := 34) N d2_34 rfl rfl ?_
  refine k_arraylength (pc := 36) N 1 d2_36 rfl (z := (1 : Int32)) rfl ?_
  refine k_icmp_eq (pc := 37) N d2_37 (pc' := 50) (by decide) (fun _ => ?_) (fun qQ => absurd qQ (fun z => z rfl))
  refine k_iconst (pc := 50) N d2_50 (v := (0 : Int32)) (by decide) ?_
  refine k_istore (pc := 51) N d2_51 (Ls' := #[.val (.ref a), .val (.long t), .second, .val (.int (2 : Int32)), .val (.ref b), .val (.ref xa), .val (.ref ya), .val (.int (0 : Int32)), .unset]) rfl ?_
  refine k_iload (pc := 53) N d2_53 rfl ?_
  refine k_aload (pc := 55) N d2_55 rfl rfl ?_
  refine k_arraylength (pc := 57) N 1 d2_57 rfl (z := (1 : Int32)) rfl ?_
  refine k_icmp_ge (pc := 58) N d2_58 (pc' := 163) (by decide) (fun qQ => absurd qQ (by decide)) (fun _ => ?_)
  refine k_aload (pc := 61) N d2_61 rfl rfl ?_
  refine k_iload (pc := 63) N d2_63 rfl ?_
  refine k_iaload (pc := 65) N 1 0 d2_65 rfl (by decide) (by decide) (v := .int i0) rfl ?_
  refine k_static (pc := 66) N (y := (⟨"com/example/tapflow/tapflow/MotionEvent", "checkPointerId", "(I)I"⟩ : MethodName)) (rest := []) [.int i0] d2_66 (hw _ (List.mem_of_getElem? (i := 21) rfl)) (hw _ (List.mem_of_getElem? (i := 22) rfl)) (hw _ (List.mem_of_getElem? (i := 8) rfl)) (hw _ (List.mem_of_getElem? (i := 23) rfl)) (by decide) pd__I_I rfl (c_chk l Z a0 hw i0 g0 u0 ((oMe Z a (.ref lv) (.int (-1 : Int32)) (.long (0 : Int64)) .null .null .null (.int (0 : Int32))) :: (oArr Z b kI .int [.int i0]) :: (oArr Z xa kD .double [.double x0]) :: (oArr Z ya kD .double [.double y0]) :: rest)) rfl rfl 0 rfl (by decide) (by decide) (cells' := 0) rfl (slots' := 0) rfl (by decide) (by decide) fun T vV K' N qQ => ?_
  obtain ⟨rfl, rfl⟩ := qQ
  refine k_istore (pc := 69) N d2_69 (Ls' := #[.val (.ref a), .val (.long t), .second, .val (.int (2 : Int32)), .val (.ref b), .val (.ref xa), .val (.ref ya), .val (.int (0 : Int32)), .val (.int i0)]) rfl ?_
  refine k_iload (pc := 71) N d2_71 rfl ?_
  refine k_if_le (pc := 73) N d2_73 (pc' := 110) (by decide) (fun _ => ?_) (fun qQ => absurd qQ (by decide))
  refine k_aload (pc := 110) N d2_110 rfl rfl ?_
  refine k_iload (pc := 112) N d2_112 rfl ?_
  refine k_daload (pc := 114) N 2 0 d2_114 rfl (by decide) (by decide) (v := .double x0) rfl ?_
  refine k_static (pc := 115) N (y := (⟨"com/example/tapflow/tapflow/MotionEvent", "isCoordinate", "(D)Z"⟩ : MethodName)) (rest := []) [.double x0] d2_115 (hw _ (List.mem_of_getElem? (i := 24) rfl)) (hw _ (List.mem_of_getElem? (i := 25) rfl)) (hw _ (List.mem_of_getElem? (i := 8) rfl)) (hw _ (List.mem_of_getElem? (i := 26) rfl)) (by decide) pd__D_Z rfl (c_crd l Z a0 hw x0 hx0 ((oMe Z a (.ref lv) (.int (-1 : Int32)) (.long (0 : Int64)) .null .null .null (.int (0 : Int32))) :: (oArr Z b kI .int [.int i0]) :: (oArr Z xa kD .double [.double x0]) :: (oArr Z ya kD .double [.double y0]) :: rest)) rfl rfl 0 rfl (by decide) (by decide) (cells' := 0) rfl (slots' := 0) rfl (by decide) (by decide) fun T vV K' N qQ => ?_
  obtain ⟨rfl, rfl⟩ := qQ
  refine k_if_eq (pc := 118) N d2_118 (pc' := 132) (by decide) (fun qQ => absurd qQ (by decide)) (fun _ => ?_)
  refine k_aload (pc := 121) N d2_121 rfl rfl ?_
  refine k_iload (pc := 123) N d2_123 rfl ?_
  refine k_daload (pc := 125) N 3 0 d2_125 rfl (by decide) (by decide) (v := .double y0) rfl ?_
  refine k_static (pc := 126) N (y := (⟨"com/example/tapflow/tapflow/MotionEvent", "isCoordinate", "(D)Z"⟩ : MethodName)) (rest := []) [.double y0] d2_126 (hw _ (List.mem_of_getElem? (i := 24) rfl)) (hw _ (List.mem_of_getElem? (i := 25) rfl)) (hw _ (List.mem_of_getElem? (i := 8) rfl)) (hw _ (List.mem_of_getElem? (i := 26) rfl)) (by decide) pd__D_Z rfl (c_crd l Z a0 hw y0 hy0 ((oMe Z a (.ref lv) (.int (-1 : Int32)) (.long (0 : Int64)) .null .null .null (.int (0 : Int32))) :: (oArr Z b kI .int [.int i0]) :: (oArr Z xa kD .double [.double x0]) :: (oArr Z ya kD .double [.double y0]) :: rest)) rfl rfl 0 rfl (by decide) (by decide) (cells' := 0) rfl (slots' := 0) rfl (by decide) (by decide) fun T vV K' N qQ => ?_
  obtain ⟨rfl, rfl⟩ := qQ
  refine k_if_ne (pc := 129) N d2_129 (pc' := 157) (by decide) (fun _ => ?_) (fun qQ => absurd qQ (by decide))
  refine k_iinc (pc := 157) N d2_157 rfl (v := (1 : Int32)) (by decide) (Ls' := #[.val (.ref a), .val (.long t), .second, .val (.int (2 : Int32)), .val (.ref b), .val (.ref xa), .val (.ref ya), .val (.int (1 : Int32)), .val (.int i0)]) rfl ?_
  refine k_goto (pc := 160) N d2_160 (pc' := 53) (by decide) ?_
  refine k_iload (pc := 53) N d2_53 rfl ?_
  refine k_aload (pc := 55) N d2_55 rfl rfl ?_
  refine k_arraylength (pc := 57) N 1 d2_57 rfl (z := (1 : Int32)) rfl ?_
  refine k_icmp_ge (pc := 58) N d2_58 (pc' := 163) (by decide) (fun _ => ?_) (fun qQ => absurd qQ (by decide))
  refine k_aload_n (pc := 163) N d2_163 rfl rfl ?_
  refine k_lload_n (pc := 164) N d2_164 rfl ?_
  refine k_put (pc := 165) (host := "") N 0 2 d2_165 (Or.inl (hw _ (List.mem_of_getElem? (i := 31) rfl))) Via.refl rfl rfl (Or.inl (hw _ (List.mem_of_getElem? (i := 32) rfl))) (hw _ (List.mem_of_getElem? (i := 7) rfl)) (ty := .long) (by decide) rfl rfl (K' := ((oMe Z a (.ref lv) (.int (-1 : Int32)) (.long t) .null .null .null (.int (0 : Int32))) :: (oArr Z b kI .int [.int i0]) :: (oArr Z xa kD .double [.double x0]) :: (oArr Z ya kD .double [.double y0]) :: rest)) rfl fun T N => ?_
  refine k_aload_n (pc := 168) N d2_168 rfl rfl ?_
  refine k_aload (pc := 169) N d2_169 rfl rfl ?_
  refine k_clone (pc := 171) N 1 1 1 d2_171 rfl hkI (ints_fit [i0]) (hw _ (List.mem_of_getElem? (i := 33) rfl)) (hw _ (List.mem_of_getElem? (i := 34) rfl)) (hw _ (List.mem_of_getElem? (i := 38) rfl)) (hw _ (List.mem_of_getElem? (i := 36) rfl)) (hw _ (List.mem_of_getElem? (i := 37) rfl)) (hw _ (List.mem_of_getElem? (i := 39) rfl)) rfl rfl (by decide) (by decide) (Nat.le_of_ble_eq_true rfl) (by decide) (by decide) fun T nb N => ?_
  refine k_checkcast (pc := 174) N d2_174 (hw _ (List.mem_of_getElem? (i := 40) rfl)) (fun h N => Ins.self (exa_of_arr N (i := 0) rfl hkI)) fun T N => ?_
  refine k_put (pc := 177) (host := "") N 1 3 d2_177 (Or.inl (hw _ (List.mem_of_getElem? (i := 42) rfl))) Via.refl rfl rfl (Or.inr ⟨(hw _ (List.mem_of_getElem? (i := 43) rfl)), rfl, rfl⟩) (hw _ (List.mem_of_getElem? (i := 7) rfl)) (ty := (.array .int)) (by decide) rfl rfl (K' := ((oArr Z nb kI .int [.int i0]) :: (oMe Z a (.ref lv) (.int (-1 : Int32)) (.long t) (.ref nb) .null .null (.int (0 : Int32))) :: (oArr Z b kI .int [.int i0]) :: (oArr Z xa kD .double [.double x0]) :: (oArr Z ya kD .double [.double y0]) :: rest)) rfl fun T N => ?_
  refine k_aload_n (pc := 180) N d2_180 rfl rfl ?_
  refine k_aload (pc := 181) N d2_181 rfl rfl ?_
  refine k_clone (pc := 183) N 3 1 1 d2_183 rfl hkD (dbls_fit [x0]) (hw _ (List.mem_of_getElem? (i := 44) rfl)) (hw _ (List.mem_of_getElem? (i := 45) rfl)) (hw _ (List.mem_of_getElem? (i := 38) rfl)) (hw _ (List.mem_of_getElem? (i := 36) rfl)) (hw _ (List.mem_of_getElem? (i := 46) rfl)) (hw _ (List.mem_of_getElem? (i := 47) rfl)) rfl rfl (by decide) (by decide) (Nat.le_of_ble_eq_true rfl) (by decide) (by decide) fun T nx N => ?_
  refine k_checkcast (pc := 186) N d2_186 (hw _ (List.mem_of_getElem? (i := 48) rfl)) (fun h N => Ins.self (exa_of_arr N (i := 0) rfl hkD)) fun T N => ?_
  refine k_put (pc := 189) (host := "") N 2 4 d2_189 (Or.inl (hw _ (List.mem_of_getElem? (i := 50) rfl))) Via.refl rfl rfl (Or.inr ⟨(hw _ (List.mem_of_getElem? (i := 51) rfl)), rfl, rfl⟩) (hw _ (List.mem_of_getElem? (i := 7) rfl)) (ty := (.array .double)) (by decide) rfl rfl (K' := ((oArr Z nx kD .double [.double x0]) :: (oArr Z nb kI .int [.int i0]) :: (oMe Z a (.ref lv) (.int (-1 : Int32)) (.long t) (.ref nb) (.ref nx) .null (.int (0 : Int32))) :: (oArr Z b kI .int [.int i0]) :: (oArr Z xa kD .double [.double x0]) :: (oArr Z ya kD .double [.double y0]) :: rest)) rfl fun T N => ?_
  refine k_aload_n (pc := 192) N d2_192 rfl rfl ?_
  refine k_aload (pc := 193) N d2_193 rfl rfl ?_
  refine k_clone (pc := 195) N 5 1 1 d2_195 rfl hkD (dbls_fit [y0]) (hw _ (List.mem_of_getElem? (i := 44) rfl)) (hw _ (List.mem_of_getElem? (i := 45) rfl)) (hw _ (List.mem_of_getElem? (i := 38) rfl)) (hw _ (List.mem_of_getElem? (i := 36) rfl)) (hw _ (List.mem_of_getElem? (i := 46) rfl)) (hw _ (List.mem_of_getElem? (i := 47) rfl)) rfl rfl (by decide) (by decide) (Nat.le_of_ble_eq_true rfl) (by decide) (by decide) fun T ny N => ?_
  refine k_checkcast (pc := 198) N d2_198 (hw _ (List.mem_of_getElem? (i := 48) rfl)) (fun h N => Ins.self (exa_of_arr N (i := 0) rfl hkD)) fun T N => ?_
  refine k_put (pc := 201) (host := "") N 3 5 d2_201 (Or.inl (hw _ (List.mem_of_getElem? (i := 52) rfl))) Via.refl rfl rfl (Or.inr ⟨(hw _ (List.mem_of_getElem? (i := 53) rfl)), rfl, rfl⟩) (hw _ (List.mem_of_getElem? (i := 7) rfl)) (ty := (.array .double)) (by decide) rfl rfl (K' := ((oArr Z ny kD .double [.double y0]) :: (oArr Z nx kD .double [.double x0]) :: (oArr Z nb kI .int [.int i0]) :: (oMe Z a (.ref lv) (.int (-1 : Int32)) (.long t) (.ref nb) (.ref nx) (.ref ny) (.int (0 : Int32))) :: (oArr Z b kI .int [.int i0]) :: (oArr Z xa kD .double [.double x0]) :: (oArr Z ya kD .double [.double y0]) :: rest)) rfl fun T N => ?_
  refine k_aload_n (pc := 204) N d2_204 rfl rfl ?_
  refine k_iload_n (pc := 205) N d2_205 rfl ?_
  replace N := ONow.sel (F := [oArr Z ny kD .double [.double y0], oArr Z nx kD .double [.double x0], oArr Z nb kI .int [.int i0], oMe Z a (.ref lv) (.int (-1 : Int32)) (.long t) (.ref nb) (.ref nx) (.ref ny) (.int (0 : Int32)), oArr Z b kI .int [.int i0], oArr Z xa kD .double [.double x0], oArr Z ya kD .double [.double y0]]) (F' := [oMe Z a (.ref lv) (.int (-1 : Int32)) (.long t) (.ref nb) (.ref nx) (.ref ny) (.int (0 : Int32)), oArr Z nb kI .int [.int i0], oArr Z ny kD .double [.double y0], oArr Z nx kD .double [.double x0], oArr Z b kI .int [.int i0], oArr Z xa kD .double [.double x0], oArr Z ya kD .double [.double y0]]) (rest := rest) N [3, 2, 0, 1, 4, 5, 6] (by decide) rfl
  refine k_virtual (pc := 206) N (y := (⟨"com/example/tapflow/tapflow/MotionEvent", "setAction", "(I)V"⟩ : MethodName)) (z := (⟨"com/example/tapflow/tapflow/MotionEvent", "setAction", "(I)V"⟩ : MethodName)) (rest := []) [.int (2 : Int32)] (a := a) d2_206 (fun h N => N.exa (i := 0) rfl) (hw _ (List.mem_of_getElem? (i := 54) rfl)) (hw _ (List.mem_of_getElem? (i := 55) rfl)) (nf_self (hw _ (List.mem_of_getElem? (i := 57) rfl))) (hw _ (List.mem_of_getElem? (i := 57) rfl)) (hw _ (List.mem_of_getElem? (i := 56) rfl)) (hw _ (List.mem_of_getElem? (i := 8) rfl)) (hw _ (List.mem_of_getElem? (i := 58) rfl)) (by decide) pd__I_V rfl (c_set2_1 l Z a0 hw an sn ac SA AA A7 AE a lv nb nx ny (-1 : Int32) (0 : Int32) t kI i0 ((oArr Z ny kD .double [.double y0]) :: (oArr Z nx kD .double [.double x0]) :: (oArr Z b kI .int [.int i0]) :: (oArr Z xa kD .double [.double x0]) :: (oArr Z ya kD .double [.double y0]) :: rest)) rfl rfl 0 rfl (by decide) (by decide) (cells' := 3) rfl (slots' := 3) rfl (by decide) (by decide) fun T vV K' N qQ => ?_
  obtain ⟨rfl, rfl⟩ := qQ
  exact k_return (pc := 209) N d2_209 rfl (by decide) (by decide) ⟨nb, nx, ny, rfl, rfl⟩
def rm_c_init2_2 : Room := { frames := 2, cells := 3, slots := 6, locals := 32 }
set_option maxRecDepth 65536 in
set_option maxHeartbeats 40000000 in
theorem c_init2_2 (l : Launch) (Z : State) (a0 : Array Value) (hw : ∀ d ∈ tables_1, d.before a0 Z = true) (an sn : Addr) (ac : Cell) (SA : Sta Z Z.heap "com/example/tapflow/tapflow/MotionEvent" "ACTION_NAMES" "[Ljava/lang/String;" (.ref an)) (AA : Arr Z Z.heap an ac (.object "java/lang/String")) (A7 : ac.slots.size = 7) (AE : ac.slots[2]? = some (.ref sn)) (lv : Addr) (SL : Sta Z Z.heap "com/example/tapflow/tapflow/MotionEvent" "NO_LEVELS" "[D" (.ref lv)) (a b xa ya : Addr) (t : Int64) (kI kD : ClassId) (hkI : Z.vm.findClass "[I" = some kI) (hkD : Z.vm.findClass "[D" = some kD) (i0 i1 : Int32) (x0 x1 y0 y1 : UInt64) (g0 : ¬ i0 < 0) (u0 : ¬ (31 : Int32) < i0) (g1 : ¬ i1 < 0) (u1 : ¬ (31 : Int32) < i1) (m1 : i0 < i1) (hx0 : Crd x0) (hy0 : Crd y0) (hx1 : Crd x1) (hy1 : Crd y1) (rest : List Ent) :
    OMeets l (⟨"com/example/tapflow/tapflow/MotionEvent", "<init>", "(JI[I[D[D)V"⟩ : MethodName) prog_5_method_2_code 9 none rm_c_init2_2 Z [.ref a, .long t, .int (2 : Int32), .ref b, .ref xa, .ref ya] ((oMe Z a .null (.int (0 : Int32)) (.long (0 : Int64)) .null .null .null (.int (0 : Int32))) :: (oArr Z b kI .int [.int i0, .int i1]) :: (oArr Z xa kD .double [.double x0, .double x1]) :: (oArr Z ya kD .double [.double y0, .double y1]) :: rest) (fun v K => ∃ nb nx ny, v = none ∧ K = (oMe Z a (.ref lv) (.int (-1 : Int32)) (.long t) (.ref nb) (.ref nx) (.ref ny) (.int (2 : Int32))) :: (oArr Z nb kI .int [.int i0, .int i1]) :: (oArr Z ny kD .double [.double y0, .double y1]) :: (oArr Z nx kD .double [.double x0, .double x1]) :: (oArr Z b kI .int [.int i0, .int i1]) :: (oArr Z xa kD .double [.double x0, .double x1]) :: (oArr Z ya kD .double [.double y0, .double y1]) :: rest) := by
  refine OMeets.of_body (plainFor_of_name pn_com_example_tapflow_tapflow_MotionEvent) #[.val (.ref a), .val (.long t), .second, .val (.int (2 : Int32)), .val (.ref b), .val (.ref xa), .val (.ref ya), .unset, .unset] (fun m => by first | (simp [entryFrame, mkF, argsToLocals, Value.category]; done) | rfl) fun pP eE sS mM bB hH cC T N => ?_
  refine k_aload_n (pc := 0) N d2_0 rfl rfl ?_
  refine initO_k (pc := 1) N 0 d2_1 (hw _ (List.mem_of_getElem? (i := 12) rfl)) (hw _ (List.mem_of_getElem? (i := 13) rfl)) (hw _ (List.mem_of_getElem? (i := 14) rfl)) rfl rfl (by decide) (by decide) fun T N => ?_
  refine k_aload_n (pc := 4) N d2_4 rfl rfl ?_
  refine k_getS (pc := 5) N d2_5 (hw _ (List.mem_of_getElem? (i := 15) rfl)) Via.refl SL fun T N => ?_
  refine k_put (pc := 8) (host := "") N 0 0 d2_8 (Or.inl (hw _ (List.mem_of_getElem? (i := 17) rfl))) Via.refl rfl rfl (Or.inl (hw _ (List.mem_of_getElem? (i := 18) rfl))) (hw _ (List.mem_of_getElem? (i := 7) rfl)) (ty := (.array .double)) (by decide) rfl rfl (K' := ((oMe Z a (.ref lv) (.int (0 : Int32)) (.long (0 : Int64)) .null .null .null (.int (0 : Int32))) :: (oArr Z b kI .int [.int i0, .int i1]) :: (oArr Z xa kD .double [.double x0, .double x1]) :: (oArr Z ya kD .double [.double y0, .double y1]) :: rest)) rfl fun T N => ?_
  refine k_aload_n (pc := 11) N d2_11 rfl rfl ?_
  refine k_iconst (pc := 12) N d2_12 (v := (-1 : Int32)) (by decide) ?_
  refine k_put (pc := 13) (host := "") N 0 1 d2_13 (Or.inl (hw _ (List.mem_of_getElem? (i := 19) rfl))) Via.refl rfl rfl (Or.inl (hw _ (List.mem_of_getElem? (i := 20) rfl))) (hw _ (List.mem_of_getElem? (i := 7) rfl)) (ty := .int) (by decide) rfl rfl (K' := ((oMe Z a (.ref lv) (.int (-1 : Int32)) (.long (0 : Int64)) .null .null .null (.int (0 : Int32))) :: (oArr Z b kI .int [.int i0, .int i1]) :: (oArr Z xa kD .double [.double x0, .double x1]) :: (oArr Z ya kD .double [.double y0, .double y1]) :: rest)) rfl fun T N => ?_
  refine k_aload (pc := 16) N d2_16 rfl rfl ?_
  refine k_arraylength (pc := 18) N 1 d2_18 rfl (z := (2 : Int32)) rfl ?_
  refine k_if_eq (pc := 19) N d2_19 (pc' := 40) (by decide) (fun qQ => absurd qQ (by decide)) (fun _ => ?_)
  refine k_aload (pc := 22) N d2_22 rfl rfl ?_
  refine k_arraylength (pc := 24) N 2 d2_24 rfl (z := (2 : Int32)) rfl ?_
  refine k_aload (pc := 25) N d2_25 rfl rfl ?_
  refine k_arraylength (pc := 27) N 1 d2_27 rfl (z := (2 : Int32)) rfl ?_
  refine k_icmp_ne (pc := 28) N d2_28 (pc' := 40) (by decide) (fun qQ => absurd qQ (fun z => z rfl)) (fun _ => ?_)
  refine k_aload (pc := 31) N d2_31 rfl rfl ?_
  refine k_arraylength (pc := 33) N 3 d2_33 rfl (z := (2 : Int32)) rfl ?_
  refine k_aload (pc := 34) N d2_34 rfl rfl ?_
  refine k_arraylength (pc := 36) N 1 d2_36 rfl (z := (2 : Int32)) rfl ?_
  refine k_icmp_eq (pc := 37) N d2_37 (pc' := 50) (by decide) (fun _ => ?_) (fun qQ => absurd qQ (fun z => z rfl))
  refine k_iconst (pc := 50) N d2_50 (v := (0 : Int32)) (by decide) ?_
  refine k_istore (pc := 51) N d2_51 (Ls' := #[.val (.ref a), .val (.long t), .second, .val (.int (2 : Int32)), .val (.ref b), .val (.ref xa), .val (.ref ya), .val (.int (0 : Int32)), .unset]) rfl ?_
  refine k_iload (pc := 53) N d2_53 rfl ?_
  refine k_aload (pc := 55) N d2_55 rfl rfl ?_
  refine k_arraylength (pc := 57) N 1 d2_57 rfl (z := (2 : Int32)) rfl ?_
  refine k_icmp_ge (pc := 58) N d2_58 (pc' := 163) (by decide) (fun qQ => absurd qQ (by decide)) (fun _ => ?_)
  refine k_aload (pc := 61) N d2_61 rfl rfl ?_
  refine k_iload (pc := 63) N d2_63 rfl ?_
  refine k_iaload (pc := 65) N 1 0 d2_65 rfl (by decide) (by decide) (v := .int i0) rfl ?_
  refine k_static (pc := 66) N (y := (⟨"com/example/tapflow/tapflow/MotionEvent", "checkPointerId", "(I)I"⟩ : MethodName)) (rest := []) [.int i0] d2_66 (hw _ (List.mem_of_getElem? (i := 21) rfl)) (hw _ (List.mem_of_getElem? (i := 22) rfl)) (hw _ (List.mem_of_getElem? (i := 8) rfl)) (hw _ (List.mem_of_getElem? (i := 23) rfl)) (by decide) pd__I_I rfl (c_chk l Z a0 hw i0 g0 u0 ((oMe Z a (.ref lv) (.int (-1 : Int32)) (.long (0 : Int64)) .null .null .null (.int (0 : Int32))) :: (oArr Z b kI .int [.int i0, .int i1]) :: (oArr Z xa kD .double [.double x0, .double x1]) :: (oArr Z ya kD .double [.double y0, .double y1]) :: rest)) rfl rfl 0 rfl (by decide) (by decide) (cells' := 0) rfl (slots' := 0) rfl (by decide) (by decide) fun T vV K' N qQ => ?_
  obtain ⟨rfl, rfl⟩ := qQ
  refine k_istore (pc := 69) N d2_69 (Ls' := #[.val (.ref a), .val (.long t), .second, .val (.int (2 : Int32)), .val (.ref b), .val (.ref xa), .val (.ref ya), .val (.int (0 : Int32)), .val (.int i0)]) rfl ?_
  refine k_iload (pc := 71) N d2_71 rfl ?_
  refine k_if_le (pc := 73) N d2_73 (pc' := 110) (by decide) (fun _ => ?_) (fun qQ => absurd qQ (by decide))
  refine k_aload (pc := 110) N d2_110 rfl rfl ?_
  refine k_iload (pc := 112) N d2_112 rfl ?_
  refine k_daload (pc := 114) N 2 0 d2_114 rfl (by decide) (by decide) (v := .double x0) rfl ?_
  refine k_static (pc := 115) N (y := (⟨"com/example/tapflow/tapflow/MotionEvent", "isCoordinate", "(D)Z"⟩ : MethodName)) (rest := []) [.double x0] d2_115 (hw _ (List.mem_of_getElem? (i := 24) rfl)) (hw _ (List.mem_of_getElem? (i := 25) rfl)) (hw _ (List.mem_of_getElem? (i := 8) rfl)) (hw _ (List.mem_of_getElem? (i := 26) rfl)) (by decide) pd__D_Z rfl (c_crd l Z a0 hw x0 hx0 ((oMe Z a (.ref lv) (.int (-1 : Int32)) (.long (0 : Int64)) .null .null .null (.int (0 : Int32))) :: (oArr Z b kI .int [.int i0, .int i1]) :: (oArr Z xa kD .double [.double x0, .double x1]) :: (oArr Z ya kD .double [.double y0, .double y1]) :: rest)) rfl rfl 0 rfl (by decide) (by decide) (cells' := 0) rfl (slots' := 0) rfl (by decide) (by decide) fun T vV K' N qQ => ?_
  obtain ⟨rfl, rfl⟩ := qQ
  refine k_if_eq (pc := 118) N d2_118 (pc' := 132) (by decide) (fun qQ => absurd qQ (by decide)) (fun _ => ?_)
  refine k_aload (pc := 121) N d2_121 rfl rfl ?_
  refine k_iload (pc := 123) N d2_123 rfl ?_
  refine k_daload (pc := 125) N 3 0 d2_125 rfl (by decide) (by decide) (v := .double y0) rfl ?_
  refine k_static (pc := 126) N (y := (⟨"com/example/tapflow/tapflow/MotionEvent", "isCoordinate", "(D)Z"⟩ : MethodName)) (rest := []) [.double y0] d2_126 (hw _ (List.mem_of_getElem? (i := 24) rfl)) (hw _ (List.mem_of_getElem? (i := 25) rfl)) (hw _ (List.mem_of_getElem? (i := 8) rfl)) (hw _ (List.mem_of_getElem? (i := 26) rfl)) (by decide) pd__D_Z rfl (c_crd l Z a0 hw y0 hy0 ((oMe Z a (.ref lv) (.int (-1 : Int32)) (.long (0 : Int64)) .null .null .null (.int (0 : Int32))) :: (oArr Z b kI .int [.int i0, .int i1]) :: (oArr Z xa kD .double [.double x0, .double x1]) :: (oArr Z ya kD .double [.double y0, .double y1]) :: rest)) rfl rfl 0 rfl (by decide) (by decide) (cells' := 0) rfl (slots' := 0) rfl (by decide) (by decide) fun T vV K' N qQ => ?_
  obtain ⟨rfl, rfl⟩ := qQ
  refine k_if_ne (pc := 129) N d2_129 (pc' := 157) (by decide) (fun _ => ?_) (fun qQ => absurd qQ (by decide))
  refine k_iinc (pc := 157) N d2_157 rfl (v := (1 : Int32)) (by decide) (Ls' := #[.val (.ref a), .val (.long t), .second, .val (.int (2 : Int32)), .val (.ref b), .val (.ref xa), .val (.ref ya), .val (.int (1 : Int32)), .val (.int i0)]) rfl ?_
  refine k_goto (pc := 160) N d2_160 (pc' := 53) (by decide) ?_
  refine k_iload (pc := 53) N d2_53 rfl ?_
  refine k_aload (pc := 55) N d2_55 rfl rfl ?_
  refine k_arraylength (pc := 57) N 1 d2_57 rfl (z := (2 : Int32)) rfl ?_
  refine k_icmp_ge (pc := 58) N d2_58 (pc' := 163) (by decide) (fun qQ => absurd qQ (by decide)) (fun _ => ?_)
  refine k_aload (pc := 61) N d2_61 rfl rfl ?_
  refine k_iload (pc := 63) N d2_63 rfl ?_
  refine k_iaload (pc := 65) N 1 1 d2_65 rfl (by decide) (by decide) (v := .int i1) rfl ?_
  refine k_static (pc := 66) N (y := (⟨"com/example/tapflow/tapflow/MotionEvent", "checkPointerId", "(I)I"⟩ : MethodName)) (rest := []) [.int i1] d2_66 (hw _ (List.mem_of_getElem? (i := 21) rfl)) (hw _ (List.mem_of_getElem? (i := 22) rfl)) (hw _ (List.mem_of_getElem? (i := 8) rfl)) (hw _ (List.mem_of_getElem? (i := 23) rfl)) (by decide) pd__I_I rfl (c_chk l Z a0 hw i1 g1 u1 ((oMe Z a (.ref lv) (.int (-1 : Int32)) (.long (0 : Int64)) .null .null .null (.int (0 : Int32))) :: (oArr Z b kI .int [.int i0, .int i1]) :: (oArr Z xa kD .double [.double x0, .double x1]) :: (oArr Z ya kD .double [.double y0, .double y1]) :: rest)) rfl rfl 0 rfl (by decide) (by decide) (cells' := 0) rfl (slots' := 0) rfl (by decide) (by decide) fun T vV K' N qQ => ?_
  obtain ⟨rfl, rfl⟩ := qQ
  refine k_istore (pc := 69) N d2_69 (Ls' := #[.val (.ref a), .val (.long t), .second, .val (.int (2 : Int32)), .val (.ref b), .val (.ref xa), .val (.ref ya), .val (.int (1 : Int32)), .val (.int i1)]) rfl ?_
  refine k_iload (pc := 71) N d2_71 rfl ?_
  refine k_if_le (pc := 73) N d2_73 (pc' := 110) (by decide) (fun qQ => absurd qQ (by decide)) (fun _ => ?_)
  refine k_iload (pc := 76) N d2_76 rfl ?_
  refine k_aload (pc := 78) N d2_78 rfl rfl ?_
  refine k_iload (pc := 80) N d2_80 rfl ?_
  refine k_iconst (pc := 82) N d2_82 (v := (1 : Int32)) (by decide) ?_
  refine k_isub (pc := 83) N d2_83 ?_
  refine k_iaload (pc := 84) N 1 0 d2_84 rfl (by decide) (by decide) (v := .int i0) rfl ?_
  refine k_icmp_gt (pc := 85) N d2_85 (pc' := 110) (by decide) (fun _ => ?_) (fun qQ => absurd qQ (fun z => z m1))
  refine k_aload (pc := 110) N d2_110 rfl rfl ?_
  refine k_iload (pc := 112) N d2_112 rfl ?_
  refine k_daload (pc := 114) N 2 1 d2_114 rfl (by decide) (by decide) (v := .double x1) rfl ?_
  refine k_static (pc := 115) N (y := (⟨"com/example/tapflow/tapflow/MotionEvent", "isCoordinate", "(D)Z"⟩ : MethodName)) (rest := []) [.double x1] d2_115 (hw _ (List.mem_of_getElem? (i := 24) rfl)) (hw _ (List.mem_of_getElem? (i := 25) rfl)) (hw _ (List.mem_of_getElem? (i := 8) rfl)) (hw _ (List.mem_of_getElem? (i := 26) rfl)) (by decide) pd__D_Z rfl (c_crd l Z a0 hw x1 hx1 ((oMe Z a (.ref lv) (.int (-1 : Int32)) (.long (0 : Int64)) .null .null .null (.int (0 : Int32))) :: (oArr Z b kI .int [.int i0, .int i1]) :: (oArr Z xa kD .double [.double x0, .double x1]) :: (oArr Z ya kD .double [.double y0, .double y1]) :: rest)) rfl rfl 0 rfl (by decide) (by decide) (cells' := 0) rfl (slots' := 0) rfl (by decide) (by decide) fun T vV K' N qQ => ?_
  obtain ⟨rfl, rfl⟩ := qQ
  refine k_if_eq (pc := 118) N d2_118 (pc' := 132) (by decide) (fun qQ => absurd qQ (by decide)) (fun _ => ?_)
  refine k_aload (pc := 121) N d2_121 rfl rfl ?_
  refine k_iload (pc := 123) N d2_123 rfl ?_
  refine k_daload (pc := 125) N 3 1 d2_125 rfl (by decide) (by decide) (v := .double y1) rfl ?_
  refine k_static (pc := 126) N (y := (⟨"com/example/tapflow/tapflow/MotionEvent", "isCoordinate", "(D)Z"⟩ : MethodName)) (rest := []) [.double y1] d2_126 (hw _ (List.mem_of_getElem? (i := 24) rfl)) (hw _ (List.mem_of_getElem? (i := 25) rfl)) (hw _ (List.mem_of_getElem? (i := 8) rfl)) (hw _ (List.mem_of_getElem? (i := 26) rfl)) (by decide) pd__D_Z rfl (c_crd l Z a0 hw y1 hy1 ((oMe Z a (.ref lv) (.int (-1 : Int32)) (.long (0 : Int64)) .null .null .null (.int (0 : Int32))) :: (oArr Z b kI .int [.int i0, .int i1]) :: (oArr Z xa kD .double [.double x0, .double x1]) :: (oArr Z ya kD .double [.double y0, .double y1]) :: rest)) rfl rfl 0 rfl (by decide) (by decide) (cells' := 0) rfl (slots' := 0) rfl (by decide) (by decide) fun T vV K' N qQ => ?_
  obtain ⟨rfl, rfl⟩ := qQ
  refine k_if_ne (pc := 129) N d2_129 (pc' := 157) (by decide) (fun _ => ?_) (fun qQ => absurd qQ (by decide))
  refine k_iinc (pc := 157) N d2_157 rfl (v := (2 : Int32)) (by decide) (Ls' := #[.val (.ref a), .val (.long t), .second, .val (.int (2 : Int32)), .val (.ref b), .val (.ref xa), .val (.ref ya), .val (.int (2 : Int32)), .val (.int i1)]) rfl ?_
  refine k_goto (pc := 160) N d2_160 (pc' := 53) (by decide) ?_
  refine k_iload (pc := 53) N d2_53 rfl ?_
  refine k_aload (pc := 55) N d2_55 rfl rfl ?_
  refine k_arraylength (pc := 57) N 1 d2_57 rfl (z := (2 : Int32)) rfl ?_
  refine k_icmp_ge (pc := 58) N d2_58 (pc' := 163) (by decide) (fun _ => ?_) (fun qQ => absurd qQ (by decide))
  refine k_aload_n (pc := 163) N d2_163 rfl rfl ?_
  refine k_lload_n (pc := 164) N d2_164 rfl ?_
  refine k_put (pc := 165) (host := "") N 0 2 d2_165 (Or.inl (hw _ (List.mem_of_getElem? (i := 31) rfl))) Via.refl rfl rfl (Or.inl (hw _ (List.mem_of_getElem? (i := 32) rfl))) (hw _ (List.mem_of_getElem? (i := 7) rfl)) (ty := .long) (by decide) rfl rfl (K' := ((oMe Z a (.ref lv) (.int (-1 : Int32)) (.long t) .null .null .null (.int (0 : Int32))) :: (oArr Z b kI .int [.int i0, .int i1]) :: (oArr Z xa kD .double [.double x0, .double x1]) :: (oArr Z ya kD .double [.double y0, .double y1]) :: rest)) rfl fun T N => ?_
  refine k_aload_n (pc := 168) N d2_168 rfl rfl ?_
  refine k_aload (pc := 169) N d2_169 rfl rfl ?_
  refine k_clone (pc := 171) N 1 1 2 d2_171 rfl hkI (ints_fit [i0, i1]) (hw _ (List.mem_of_getElem? (i := 33) rfl)) (hw _ (List.mem_of_getElem? (i := 34) rfl)) (hw _ (List.mem_of_getElem? (i := 38) rfl)) (hw _ (List.mem_of_getElem? (i := 36) rfl)) (hw _ (List.mem_of_getElem? (i := 37) rfl)) (hw _ (List.mem_of_getElem? (i := 39) rfl)) rfl rfl (by decide) (by decide) (Nat.le_of_ble_eq_true rfl) (by decide) (by decide) fun T nb N => ?_
  refine k_checkcast (pc := 174) N d2_174 (hw _ (List.mem_of_getElem? (i := 40) rfl)) (fun h N => Ins.self (exa_of_arr N (i := 0) rfl hkI)) fun T N => ?_
  refine k_put (pc := 177) (host := "") N 1 3 d2_177 (Or.inl (hw _ (List.mem_of_getElem? (i := 42) rfl))) Via.refl rfl rfl (Or.inr ⟨(hw _ (List.mem_of_getElem? (i := 43) rfl)), rfl, rfl⟩) (hw _ (List.mem_of_getElem? (i := 7) rfl)) (ty := (.array .int)) (by decide) rfl rfl (K' := ((oArr Z nb kI .int [.int i0, .int i1]) :: (oMe Z a (.ref lv) (.int (-1 : Int32)) (.long t) (.ref nb) .null .null (.int (0 : Int32))) :: (oArr Z b kI .int [.int i0, .int i1]) :: (oArr Z xa kD .double [.double x0, .double x1]) :: (oArr Z ya kD .double [.double y0, .double y1]) :: rest)) rfl fun T N => ?_
  refine k_aload_n (pc := 180) N d2_180 rfl rfl ?_
  refine k_aload (pc := 181) N d2_181 rfl rfl ?_
  refine k_clone (pc := 183) N 3 1 2 d2_183 rfl hkD (dbls_fit [x0, x1]) (hw _ (List.mem_of_getElem? (i := 44) rfl)) (hw _ (List.mem_of_getElem? (i := 45) rfl)) (hw _ (List.mem_of_getElem? (i := 38) rfl)) (hw _ (List.mem_of_getElem? (i := 36) rfl)) (hw _ (List.mem_of_getElem? (i := 46) rfl)) (hw _ (List.mem_of_getElem? (i := 47) rfl)) rfl rfl (by decide) (by decide) (Nat.le_of_ble_eq_true rfl) (by decide) (by decide) fun T nx N => ?_
  refine k_checkcast (pc := 186) N d2_186 (hw _ (List.mem_of_getElem? (i := 48) rfl)) (fun h N => Ins.self (exa_of_arr N (i := 0) rfl hkD)) fun T N => ?_
  refine k_put (pc := 189) (host := "") N 2 4 d2_189 (Or.inl (hw _ (List.mem_of_getElem? (i := 50) rfl))) Via.refl rfl rfl (Or.inr ⟨(hw _ (List.mem_of_getElem? (i := 51) rfl)), rfl, rfl⟩) (hw _ (List.mem_of_getElem? (i := 7) rfl)) (ty := (.array .double)) (by decide) rfl rfl (K' := ((oArr Z nx kD .double [.double x0, .double x1]) :: (oArr Z nb kI .int [.int i0, .int i1]) :: (oMe Z a (.ref lv) (.int (-1 : Int32)) (.long t) (.ref nb) (.ref nx) .null (.int (0 : Int32))) :: (oArr Z b kI .int [.int i0, .int i1]) :: (oArr Z xa kD .double [.double x0, .double x1]) :: (oArr Z ya kD .double [.double y0, .double y1]) :: rest)) rfl fun T N => ?_
  refine k_aload_n (pc := 192) N d2_192 rfl rfl ?_
  refine k_aload (pc := 193) N d2_193 rfl rfl ?_
  refine k_clone (pc := 195) N 5 1 2 d2_195 rfl hkD (dbls_fit [y0, y1]) (hw _ (List.mem_of_getElem? (i := 44) rfl)) (hw _ (List.mem_of_getElem? (i := 45) rfl)) (hw _ (List.mem_of_getElem? (i := 38) rfl)) (hw _ (List.mem_of_getElem? (i := 36) rfl)) (hw _ (List.mem_of_getElem? (i := 46) rfl)) (hw _ (List.mem_of_getElem? (i := 47) rfl)) rfl rfl (by decide) (by decide) (Nat.le_of_ble_eq_true rfl) (by decide) (by decide) fun T ny N => ?_
  refine k_checkcast (pc := 198) N d2_198 (hw _ (List.mem_of_getElem? (i := 48) rfl)) (fun h N => Ins.self (exa_of_arr N (i := 0) rfl hkD)) fun T N => ?_
  refine k_put (pc := 201) (host := "") N 3 5 d2_201 (Or.inl (hw _ (List.mem_of_getElem? (i := 52) rfl))) Via.refl rfl rfl (Or.inr ⟨(hw _ (List.mem_of_getElem? (i := 53) rfl)), rfl, rfl⟩) (hw _ (List.mem_of_getElem? (i := 7) rfl)) (ty := (.array .double)) (by decide) rfl rfl (K' := ((oArr Z ny kD .double [.double y0, .double y1]) :: (oArr Z nx kD .double [.double x0, .double x1]) :: (oArr Z nb kI .int [.int i0, .int i1]) :: (oMe Z a (.ref lv) (.int (-1 : Int32)) (.long t) (.ref nb) (.ref nx) (.ref ny) (.int (0 : Int32))) :: (oArr Z b kI .int [.int i0, .int i1]) :: (oArr Z xa kD .double [.double x0, .double x1]) :: (oArr Z ya kD .double [.double y0, .double y1]) :: rest)) rfl fun T N => ?_
  refine k_aload_n (pc := 204) N d2_204 rfl rfl ?_
  refine k_iload_n (pc := 205) N d2_205 rfl ?_
  replace N := ONow.sel (F := [oArr Z ny kD .double [.double y0, .double y1], oArr Z nx kD .double [.double x0, .double x1], oArr Z nb kI .int [.int i0, .int i1], oMe Z a (.ref lv) (.int (-1 : Int32)) (.long t) (.ref nb) (.ref nx) (.ref ny) (.int (0 : Int32)), oArr Z b kI .int [.int i0, .int i1], oArr Z xa kD .double [.double x0, .double x1], oArr Z ya kD .double [.double y0, .double y1]]) (F' := [oMe Z a (.ref lv) (.int (-1 : Int32)) (.long t) (.ref nb) (.ref nx) (.ref ny) (.int (0 : Int32)), oArr Z nb kI .int [.int i0, .int i1], oArr Z ny kD .double [.double y0, .double y1], oArr Z nx kD .double [.double x0, .double x1], oArr Z b kI .int [.int i0, .int i1], oArr Z xa kD .double [.double x0, .double x1], oArr Z ya kD .double [.double y0, .double y1]]) (rest := rest) N [3, 2, 0, 1, 4, 5, 6] (by decide) rfl
  refine k_virtual (pc := 206) N (y := (⟨"com/example/tapflow/tapflow/MotionEvent", "setAction", "(I)V"⟩ : MethodName)) (z := (⟨"com/example/tapflow/tapflow/MotionEvent", "setAction", "(I)V"⟩ : MethodName)) (rest := []) [.int (2 : Int32)] (a := a) d2_206 (fun h N => N.exa (i := 0) rfl) (hw _ (List.mem_of_getElem? (i := 54) rfl)) (hw _ (List.mem_of_getElem? (i := 55) rfl)) (nf_self (hw _ (List.mem_of_getElem? (i := 57) rfl))) (hw _ (List.mem_of_getElem? (i := 57) rfl)) (hw _ (List.mem_of_getElem? (i := 56) rfl)) (hw _ (List.mem_of_getElem? (i := 8) rfl)) (hw _ (List.mem_of_getElem? (i := 58) rfl)) (by decide) pd__I_V rfl (c_set2_2 l Z a0 hw an sn ac SA AA A7 AE a lv nb nx ny (-1 : Int32) (0 : Int32) t kI i0 i1 ((oArr Z ny kD .double [.double y0, .double y1]) :: (oArr Z nx kD .double [.double x0, .double x1]) :: (oArr Z b kI .int [.int i0, .int i1]) :: (oArr Z xa kD .double [.double x0, .double x1]) :: (oArr Z ya kD .double [.double y0, .double y1]) :: rest)) rfl rfl 0 rfl (by decide) (by decide) (cells' := 3) rfl (slots' := 6) rfl (by decide) (by decide) fun T vV K' N qQ => ?_
  obtain ⟨rfl, rfl⟩ := qQ
  exact k_return (pc := 209) N d2_209 rfl (by decide) (by decide) ⟨nb, nx, ny, rfl, rfl⟩
def rm_c_init2_3 : Room := { frames := 2, cells := 3, slots := 9, locals := 32 }
set_option maxRecDepth 65536 in
set_option maxHeartbeats 40000000 in
theorem c_init2_3 (l : Launch) (Z : State) (a0 : Array Value) (hw : ∀ d ∈ tables_1, d.before a0 Z = true) (an sn : Addr) (ac : Cell) (SA : Sta Z Z.heap "com/example/tapflow/tapflow/MotionEvent" "ACTION_NAMES" "[Ljava/lang/String;" (.ref an)) (AA : Arr Z Z.heap an ac (.object "java/lang/String")) (A7 : ac.slots.size = 7) (AE : ac.slots[2]? = some (.ref sn)) (lv : Addr) (SL : Sta Z Z.heap "com/example/tapflow/tapflow/MotionEvent" "NO_LEVELS" "[D" (.ref lv)) (a b xa ya : Addr) (t : Int64) (kI kD : ClassId) (hkI : Z.vm.findClass "[I" = some kI) (hkD : Z.vm.findClass "[D" = some kD) (i0 i1 i2 : Int32) (x0 x1 x2 y0 y1 y2 : UInt64) (g0 : ¬ i0 < 0) (u0 : ¬ (31 : Int32) < i0) (g1 : ¬ i1 < 0) (u1 : ¬ (31 : Int32) < i1) (g2 : ¬ i2 < 0) (u2 : ¬ (31 : Int32) < i2) (m1 : i0 < i1) (m2 : i1 < i2) (hx0 : Crd x0) (hy0 : Crd y0) (hx1 : Crd x1) (hy1 : Crd y1) (hx2 : Crd x2) (hy2 : Crd y2) (rest : List Ent) :
    OMeets l (⟨"com/example/tapflow/tapflow/MotionEvent", "<init>", "(JI[I[D[D)V"⟩ : MethodName) prog_5_method_2_code 9 none rm_c_init2_3 Z [.ref a, .long t, .int (2 : Int32), .ref b, .ref xa, .ref ya] ((oMe Z a .null (.int (0 : Int32)) (.long (0 : Int64)) .null .null .null (.int (0 : Int32))) :: (oArr Z b kI .int [.int i0, .int i1, .int i2]) :: (oArr Z xa kD .double [.double x0, .double x1, .double x2]) :: (oArr Z ya kD .double [.double y0, .double y1, .double y2]) :: rest) (fun v K => ∃ nb nx ny, v = none ∧ K = (oMe Z a (.ref lv) (.int (-1 : Int32)) (.long t) (.ref nb) (.ref nx) (.ref ny) (.int (2 : Int32))) :: (oArr Z nb kI .int [.int i0, .int i1, .int i2]) :: (oArr Z ny kD .double [.double y0, .double y1, .double y2]) :: (oArr Z nx kD .double [.double x0, .double x1, .double x2]) :: (oArr Z b kI .int [.int i0, .int i1, .int i2]) :: (oArr Z xa kD .double [.double x0, .double x1, .double x2]) :: (oArr Z ya kD .double [.double y0, .double y1, .double y2]) :: rest) := by
  refine OMeets.of_body (plainFor_of_name pn_com_example_tapflow_tapflow_MotionEvent) #[.val (.ref a), .val (.long t), .second, .val (.int (2 : Int32)), .val (.ref b), .val (.ref xa), .val (.ref ya), .unset, .unset] (fun m => by first | (simp [entryFrame, mkF, argsToLocals, Value.category]; done) | rfl) fun pP eE sS mM bB hH cC T N => ?_
  refine k_aload_n (pc := 0) N d2_0 rfl rfl ?_
  refine initO_k (pc := 1) N 0 d2_1 (hw _ (List.mem_of_getElem? (i := 12) rfl)) (hw _ (List.mem_of_getElem? (i := 13) rfl)) (hw _ (List.mem_of_getElem? (i := 14) rfl)) rfl rfl (by decide) (by decide) fun T N => ?_
  refine k_aload_n (pc := 4) N d2_4 rfl rfl ?_
  refine k_getS (pc := 5) N d2_5 (hw _ (List.mem_of_getElem? (i := 15) rfl)) Via.refl SL fun T N => ?_
  refine k_put (pc := 8) (host := "") N 0 0 d2_8 (Or.inl (hw _ (List.mem_of_getElem? (i := 17) rfl))) Via.refl rfl rfl (Or.inl (hw _ (List.mem_of_getElem? (i := 18) rfl))) (hw _ (List.mem_of_getElem? (i := 7) rfl)) (ty := (.array .double)) (by decide) rfl rfl (K' := ((oMe Z a (.ref lv) (.int (0 : Int32)) (.long (0 : Int64)) .null .null .null (.int (0 : Int32))) :: (oArr Z b kI .int [.int i0, .int i1, .int i2]) :: (oArr Z xa kD .double [.double x0, .double x1, .double x2]) :: (oArr Z ya kD .double [.double y0, .double y1, .double y2]) :: rest)) rfl fun T N => ?_
  refine k_aload_n (pc := 11) N d2_11 rfl rfl ?_
  refine k_iconst (pc := 12) N d2_12 (v := (-1 : Int32)) (by decide) ?_
  refine k_put (pc := 13) (host := "") N 0 1 d2_13 (Or.inl (hw _ (List.mem_of_getElem? (i := 19) rfl))) Via.refl rfl rfl (Or.inl (hw _ (List.mem_of_getElem? (i := 20) rfl))) (hw _ (List.mem_of_getElem? (i := 7) rfl)) (ty := .int) (by decide) rfl rfl (K' := ((oMe Z a (.ref lv) (.int (-1 : Int32)) (.long (0 : Int64)) .null .null .null (.int (0 : Int32))) :: (oArr Z b kI .int [.int i0, .int i1, .int i2]) :: (oArr Z xa kD .double [.double x0, .double x1, .double x2]) :: (oArr Z ya kD .double [.double y0, .double y1, .double y2]) :: rest)) rfl fun T N => ?_
  refine k_aload (pc := 16) N d2_16 rfl rfl ?_
  refine k_arraylength (pc := 18) N 1 d2_18 rfl (z := (3 : Int32)) rfl ?_
  refine k_if_eq (pc := 19) N d2_19 (pc' := 40) (by decide) (fun qQ => absurd qQ (by decide)) (fun _ => ?_)
  refine k_aload (pc := 22) N d2_22 rfl rfl ?_
  refine k_arraylength (pc := 24) N 2 d2_24 rfl (z := (3 : Int32)) rfl ?_
  refine k_aload (pc := 25) N d2_25 rfl rfl ?_
  refine k_arraylength (pc := 27) N 1 d2_27 rfl (z := (3 : Int32)) rfl ?_
  refine k_icmp_ne (pc := 28) N d2_28 (pc' := 40) (by decide) (fun qQ => absurd qQ (fun z => z rfl)) (fun _ => ?_)
  refine k_aload (pc := 31) N d2_31 rfl rfl ?_
  refine k_arraylength (pc := 33) N 3 d2_33 rfl (z := (3 : Int32)) rfl ?_
  refine k_aload (pc := 34) N d2_34 rfl rfl ?_
  refine k_arraylength (pc := 36) N 1 d2_36 rfl (z := (3 : Int32)) rfl ?_
  refine k_icmp_eq (pc := 37) N d2_37 (pc' := 50) (by decide) (fun _ => ?_) (fun qQ => absurd qQ (fun z => z rfl))
  refine k_iconst (pc := 50) N d2_50 (v := (0 : Int32)) (by decide) ?_
  refine k_istore (pc := 51) N d2_51 (Ls' := #[.val (.ref a), .val (.long t), .second, .val (.int (2 : Int32)), .val (.ref b), .val (.ref xa), .val (.ref ya), .val (.int (0 : Int32)), .unset]) rfl ?_
  refine k_iload (pc := 53) N d2_53 rfl ?_
  refine k_aload (pc := 55) N d2_55 rfl rfl ?_
  refine k_arraylength (pc := 57) N 1 d2_57 rfl (z := (3 : Int32)) rfl ?_
  refine k_icmp_ge (pc := 58) N d2_58 (pc' := 163) (by decide) (fun qQ => absurd qQ (by decide)) (fun _ => ?_)
  refine k_aload (pc := 61) N d2_61 rfl rfl ?_
  refine k_iload (pc := 63) N d2_63 rfl ?_
  refine k_iaload (pc := 65) N 1 0 d2_65 rfl (by decide) (by decide) (v := .int i0) rfl ?_
  refine k_static (pc := 66) N (y := (⟨"com/example/tapflow/tapflow/MotionEvent", "checkPointerId", "(I)I"⟩ : MethodName)) (rest := []) [.int i0] d2_66 (hw _ (List.mem_of_getElem? (i := 21) rfl)) (hw _ (List.mem_of_getElem? (i := 22) rfl)) (hw _ (List.mem_of_getElem? (i := 8) rfl)) (hw _ (List.mem_of_getElem? (i := 23) rfl)) (by decide) pd__I_I rfl (c_chk l Z a0 hw i0 g0 u0 ((oMe Z a (.ref lv) (.int (-1 : Int32)) (.long (0 : Int64)) .null .null .null (.int (0 : Int32))) :: (oArr Z b kI .int [.int i0, .int i1, .int i2]) :: (oArr Z xa kD .double [.double x0, .double x1, .double x2]) :: (oArr Z ya kD .double [.double y0, .double y1, .double y2]) :: rest)) rfl rfl 0 rfl (by decide) (by decide) (cells' := 0) rfl (slots' := 0) rfl (by decide) (by decide) fun T vV K' N qQ => ?_
  obtain ⟨rfl, rfl⟩ := qQ
  refine k_istore (pc := 69) N d2_69 (Ls' := #[.val (.ref a), .val (.long t), .second, .val (.int (2 : Int32)), .val (.ref b), .val (.ref xa), .val (.ref ya), .val (.int (0 : Int32)), .val (.int i0)]) rfl ?_
  refine k_iload (pc := 71) N d2_71 rfl ?_
  refine k_if_le (pc := 73) N d2_73 (pc' := 110) (by decide) (fun _ => ?_) (fun qQ => absurd qQ (by decide))
  refine k_aload (pc := 110) N d2_110 rfl rfl ?_
  refine k_iload (pc := 112) N d2_112 rfl ?_
  refine k_daload (pc := 114) N 2 0 d2_114 rfl (by decide) (by decide) (v := .double x0) rfl ?_
  refine k_static (pc := 115) N (y := (⟨"com/example/tapflow/tapflow/MotionEvent", "isCoordinate", "(D)Z"⟩ : MethodName)) (rest := []) [.double x0] d2_115 (hw _ (List.mem_of_getElem? (i := 24) rfl)) (hw _ (List.mem_of_getElem? (i := 25) rfl)) (hw _ (List.mem_of_getElem? (i := 8) rfl)) (hw _ (List.mem_of_getElem? (i := 26) rfl)) (by decide) pd__D_Z rfl (c_crd l Z a0 hw x0 hx0 ((oMe Z a (.ref lv) (.int (-1 : Int32)) (.long (0 : Int64)) .null .null .null (.int (0 : Int32))) :: (oArr Z b kI .int [.int i0, .int i1, .int i2]) :: (oArr Z xa kD .double [.double x0, .double x1, .double x2]) :: (oArr Z ya kD .double [.double y0, .double y1, .double y2]) :: rest)) rfl rfl 0 rfl (by decide) (by decide) (cells' := 0) rfl (slots' := 0) rfl (by decide) (by decide) fun T vV K' N qQ => ?_
  obtain ⟨rfl, rfl⟩ := qQ
  refine k_if_eq (pc := 118) N d2_118 (pc' := 132) (by decide) (fun qQ => absurd qQ (by decide)) (fun _ => ?_)
  refine k_aload (pc := 121) N d2_121 rfl rfl ?_
  refine k_iload (pc := 123) N d2_123 rfl ?_
  refine k_daload (pc := 125) N 3 0 d2_125 rfl (by decide) (by decide) (v := .double y0) rfl ?_
  refine k_static (pc := 126) N (y := (⟨"com/example/tapflow/tapflow/MotionEvent", "isCoordinate", "(D)Z"⟩ : MethodName)) (rest := []) [.double y0] d2_126 (hw _ (List.mem_of_getElem? (i := 24) rfl)) (hw _ (List.mem_of_getElem? (i := 25) rfl)) (hw _ (List.mem_of_getElem? (i := 8) rfl)) (hw _ (List.mem_of_getElem? (i := 26) rfl)) (by decide) pd__D_Z rfl (c_crd l Z a0 hw y0 hy0 ((oMe Z a (.ref lv) (.int (-1 : Int32)) (.long (0 : Int64)) .null .null .null (.int (0 : Int32))) :: (oArr Z b kI .int [.int i0, .int i1, .int i2]) :: (oArr Z xa kD .double [.double x0, .double x1, .double x2]) :: (oArr Z ya kD .double [.double y0, .double y1, .double y2]) :: rest)) rfl rfl 0 rfl (by decide) (by decide) (cells' := 0) rfl (slots' := 0) rfl (by decide) (by decide) fun T vV K' N qQ => ?_
  obtain ⟨rfl, rfl⟩ := qQ
  refine k_if_ne (pc := 129) N d2_129 (pc' := 157) (by decide) (fun _ => ?_) (fun qQ => absurd qQ (by decide))
  refine k_iinc (pc := 157) N d2_157 rfl (v := (1 : Int32)) (by decide) (Ls' := #[.val (.ref a), .val (.long t), .second, .val (.int (2 : Int32)), .val (.ref b), .val (.ref xa), .val (.ref ya), .val (.int (1 : Int32)), .val (.int i0)]) rfl ?_
  refine k_goto (pc := 160) N d2_160 (pc' := 53) (by decide) ?_
  refine k_iload (pc := 53) N d2_53 rfl ?_
  refine k_aload (pc := 55) N d2_55 rfl rfl ?_
  refine k_arraylength (pc := 57) N 1 d2_57 rfl (z := (3 : Int32)) rfl ?_
  refine k_icmp_ge (pc := 58) N d2_58 (pc' := 163) (by decide) (fun qQ => absurd qQ (by decide)) (fun _ => ?_)
  refine k_aload (pc := 61) N d2_61 rfl rfl ?_
  refine k_iload (pc := 63) N d2_63 rfl ?_
  refine k_iaload (pc := 65) N 1 1 d2_65 rfl (by decide) (by decide) (v := .int i1) rfl ?_
  refine k_static (pc := 66) N (y := (⟨"com/example/tapflow/tapflow/MotionEvent", "checkPointerId", "(I)I"⟩ : MethodName)) (rest := []) [.int i1] d2_66 (hw _ (List.mem_of_getElem? (i := 21) rfl)) (hw _ (List.mem_of_getElem? (i := 22) rfl)) (hw _ (List.mem_of_getElem? (i := 8) rfl)) (hw _ (List.mem_of_getElem? (i := 23) rfl)) (by decide) pd__I_I rfl (c_chk l Z a0 hw i1 g1 u1 ((oMe Z a (.ref lv) (.int (-1 : Int32)) (.long (0 : Int64)) .null .null .null (.int (0 : Int32))) :: (oArr Z b kI .int [.int i0, .int i1, .int i2]) :: (oArr Z xa kD .double [.double x0, .double x1, .double x2]) :: (oArr Z ya kD .double [.double y0, .double y1, .double y2]) :: rest)) rfl rfl 0 rfl (by decide) (by decide) (cells' := 0) rfl (slots' := 0) rfl (by decide) (by decide) fun T vV K' N qQ => ?_
  obtain ⟨rfl, rfl⟩ := qQ
  refine k_istore (pc := 69) N d2_69 (Ls' := #[.val (.ref a), .val (.long t), .second, .val (.int (2 : Int32)), .val (.ref b), .val (.ref xa), .val (.ref ya), .val (.int (1 : Int32)), .val (.int i1)]) rfl ?_
  refine k_iload (pc := 71) N d2_71 rfl ?_
  refine k_if_le (pc := 73) N d2_73 (pc' := 110) (by decide) (fun qQ => absurd qQ (by decide)) (fun _ => ?_)
  refine k_iload (pc := 76) N d2_76 rfl ?_
  refine k_aload (pc := 78) N d2_78 rfl rfl ?_
  refine k_iload (pc := 80) N d2_80 rfl ?_
  refine k_iconst (pc := 82) N d2_82 (v := (1 : Int32)) (by decide) ?_
  refine k_isub (pc := 83) N d2_83 ?_
  refine k_iaload (pc := 84) N 1 0 d2_84 rfl (by decide) (by decide) (v := .int i0) rfl ?_
  refine k_icmp_gt (pc := 85) N d2_85 (pc' := 110) (by decide) (fun _ => ?_) (fun qQ => absurd qQ (fun z => z m1))
  refine k_aload (pc := 110) N d2_110 rfl rfl ?_
  refine k_iload (pc := 112) N d2_112 rfl ?_
  refine k_daload (pc := 114) N 2 1 d2_114 rfl (by decide) (by decide) (v := .double x1) rfl ?_
  refine k_static (pc := 115) N (y := (⟨"com/example/tapflow/tapflow/MotionEvent", "isCoordinate", "(D)Z"⟩ : MethodName)) (rest := []) [.double x1] d2_115 (hw _ (List.mem_of_getElem? (i := 24) rfl)) (hw _ (List.mem_of_getElem? (i := 25) rfl)) (hw _ (List.mem_of_getElem? (i := 8) rfl)) (hw _ (List.mem_of_getElem? (i := 26) rfl)) (by decide) pd__D_Z rfl (c_crd l Z a0 hw x1 hx1 ((oMe Z a (.ref lv) (.int (-1 : Int32)) (.long (0 : Int64)) .null .null .null (.int (0 : Int32))) :: (oArr Z b kI .int [.int i0, .int i1, .int i2]) :: (oArr Z xa kD .double [.double x0, .double x1, .double x2]) :: (oArr Z ya kD .double [.double y0, .double y1, .double y2]) :: rest)) rfl rfl 0 rfl (by decide) (by decide) (cells' := 0) rfl (slots' := 0) rfl (by decide) (by decide) fun T vV K' N qQ => ?_
  obtain ⟨rfl, rfl⟩ := qQ
  refine k_if_eq (pc := 118) N d2_118 (pc' := 132) (by decide) (fun qQ => absurd qQ (by decide)) (fun _ => ?_)
  refine k_aload (pc := 121) N d2_121 rfl rfl ?_
  refine k_iload (pc := 123) N d2_123 rfl ?_
  refine k_daload (pc := 125) N 3 1 d2_125 rfl (by decide) (by decide) (v := .double y1) rfl ?_
  refine k_static (pc := 126) N (y := (⟨"com/example/tapflow/tapflow/MotionEvent", "isCoordinate", "(D)Z"⟩ : MethodName)) (rest := []) [.double y1] d2_126 (hw _ (List.mem_of_getElem? (i := 24) rfl)) (hw _ (List.mem_of_getElem? (i := 25) rfl)) (hw _ (List.mem_of_getElem? (i := 8) rfl)) (hw _ (List.mem_of_getElem? (i := 26) rfl)) (by decide) pd__D_Z rfl (c_crd l Z a0 hw y1 hy1 ((oMe Z a (.ref lv) (.int (-1 : Int32)) (.long (0 : Int64)) .null .null .null (.int (0 : Int32))) :: (oArr Z b kI .int [.int i0, .int i1, .int i2]) :: (oArr Z xa kD .double [.double x0, .double x1, .double x2]) :: (oArr Z ya kD .double [.double y0, .double y1, .double y2]) :: rest)) rfl rfl 0 rfl (by decide) (by decide) (cells' := 0) rfl (slots' := 0) rfl (by decide) (by decide) fun T vV K' N qQ => ?_
  obtain ⟨rfl, rfl⟩ := qQ
  refine k_if_ne (pc := 129) N d2_129 (pc' := 157) (by decide) (fun _ => ?_) (fun qQ => absurd qQ (by decide))
  refine k_iinc (pc := 157) N d2_157 rfl (v := (2 : Int32)) (by decide) (Ls' := #[.val (.ref a), .val (.long t), .second, .val (.int (2 : Int32)), .val (.ref b), .val (.ref xa), .val (.ref ya), .val (.int (2 : Int32)), .val (.int i1)]) rfl ?_
  refine k_goto (pc := 160) N d2_160 (pc' := 53) (by decide) ?_
  refine k_iload (pc := 53) N d2_53 rfl ?_
  refine k_aload (pc := 55) N d2_55 rfl rfl ?_
  refine k_arraylength (pc := 57) N 1 d2_57 rfl (z := (3 : Int32)) rfl ?_
  refine k_icmp_ge (pc := 58) N d2_58 (pc' := 163) (by decide) (fun qQ => absurd qQ (by decide)) (fun _ => ?_)
  refine k_aload (pc := 61) N d2_61 rfl rfl ?_
  refine k_iload (pc := 63) N d2_63 rfl ?_
  refine k_iaload (pc := 65) N 1 2 d2_65 rfl (by decide) (by decide) (v := .int i2) rfl ?_
  refine k_static (pc := 66) N (y := (⟨"com/example/tapflow/tapflow/MotionEvent", "checkPointerId", "(I)I"⟩ : MethodName)) (rest := []) [.int i2] d2_66 (hw _ (List.mem_of_getElem? (i := 21) rfl)) (hw _ (List.mem_of_getElem? (i := 22) rfl)) (hw _ (List.mem_of_getElem? (i := 8) rfl)) (hw _ (List.mem_of_getElem? (i := 23) rfl)) (by decide) pd__I_I rfl (c_chk l Z a0 hw i2 g2 u2 ((oMe Z a (.ref lv) (.int (-1 : Int32)) (.long (0 : Int64)) .null .null .null (.int (0 : Int32))) :: (oArr Z b kI .int [.int i0, .int i1, .int i2]) :: (oArr Z xa kD .double [.double x0, .double x1, .double x2]) :: (oArr Z ya kD .double [.double y0, .double y1, .double y2]) :: rest)) rfl rfl 0 rfl (by decide) (by decide) (cells' := 0) rfl (slots' := 0) rfl (by decide) (by decide) fun T vV K' N qQ => ?_
  obtain ⟨rfl, rfl⟩ := qQ
  refine k_istore (pc := 69) N d2_69 (Ls' := #[.val (.ref a), .val (.long t), .second, .val (.int (2 : Int32)), .val (.ref b), .val (.ref xa), .val (.ref ya), .val (.int (2 : Int32)), .val (.int i2)]) rfl ?_
  refine k_iload (pc := 71) N d2_71 rfl ?_
  refine k_if_le (pc := 73) N d2_73 (pc' := 110) (by decide) (fun qQ => absurd qQ (by decide)) (fun _ => ?_)
  refine k_iload (pc := 76) N d2_76 rfl ?_
  refine k_aload (pc := 78) N d2_78 rfl rfl ?_
  refine k_iload (pc := 80) N d2_80 rfl ?_
  refine k_iconst (pc := 82) N d2_82 (v := (1 : Int32)) (by decide) ?_
  refine k_isub (pc := 83) N d2_83 ?_
  refine k_iaload (pc := 84) N 1 1 d2_84 rfl (by decide) (by decide) (v := .int i1) rfl ?_
  refine k_icmp_gt (pc := 85) N d2_85 (pc' := 110) (by decide) (fun _ => ?_) (fun qQ => absurd qQ (fun z => z m2))
  refine k_aload (pc := 110) N d2_110 rfl rfl ?_
  refine k_iload (pc := 112) N d2_112 rfl ?_
  refine k_daload (pc := 114) N 2 2 d2_114 rfl (by decide) (by decide) (v := .double x2) rfl ?_
  refine k_static (pc := 115) N (y := (⟨"com/example/tapflow/tapflow/MotionEvent", "isCoordinate", "(D)Z"⟩ : MethodName)) (rest := []) [.double x2] d2_115 (hw _ (List.mem_of_getElem? (i := 24) rfl)) (hw _ (List.mem_of_getElem? (i := 25) rfl)) (hw _ (List.mem_of_getElem? (i := 8) rfl)) (hw _ (List.mem_of_getElem? (i := 26) rfl)) (by decide) pd__D_Z rfl (c_crd l Z a0 hw x2 hx2 ((oMe Z a (.ref lv) (.int (-1 : Int32)) (.long (0 : Int64)) .null .null .null (.int (0 : Int32))) :: (oArr Z b kI .int [.int i0, .int i1, .int i2]) :: (oArr Z xa kD .double [.double x0, .double x1, .double x2]) :: (oArr Z ya kD .double [.double y0, .double y1, .double y2]) :: rest)) rfl rfl 0 rfl (by decide) (by decide) (cells' := 0) rfl (slots' := 0) rfl (by decide) (by decide) fun T vV K' N qQ => ?_
  obtain ⟨rfl, rfl⟩ := qQ
  refine k_if_eq (pc := 118) N d2_118 (pc' := 132) (by decide) (fun qQ => absurd qQ (by decide)) (fun _ => ?_)
  refine k_aload (pc := 121) N d2_121 rfl rfl ?_
  refine k_iload (pc := 123) N d2_123 rfl ?_
  refine k_daload (pc := 125) N 3 2 d2_125 rfl (by decide) (by decide) (v := .double y2) rfl ?_
  refine k_static (pc := 126) N (y := (⟨"com/example/tapflow/tapflow/MotionEvent", "isCoordinate", "(D)Z"⟩ : MethodName)) (rest := []) [.double y2] d2_126 (hw _ (List.mem_of_getElem? (i := 24) rfl)) (hw _ (List.mem_of_getElem? (i := 25) rfl)) (hw _ (List.mem_of_getElem? (i := 8) rfl)) (hw _ (List.mem_of_getElem? (i := 26) rfl)) (by decide) pd__D_Z rfl (c_crd l Z a0 hw y2 hy2 ((oMe Z a (.ref lv) (.int (-1 : Int32)) (.long (0 : Int64)) .null .null .null (.int (0 : Int32))) :: (oArr Z b kI .int [.int i0, .int i1, .int i2]) :: (oArr Z xa kD .double [.double x0, .double x1, .double x2]) :: (oArr Z ya kD .double [.double y0, .double y1, .double y2]) :: rest)) rfl rfl 0 rfl (by decide) (by decide) (cells' := 0) rfl (slots' := 0) rfl (by decide) (by decide) fun T vV K' N qQ => ?_
  obtain ⟨rfl, rfl⟩ := qQ
  refine k_if_ne (pc := 129) N d2_129 (pc' := 157) (by decide) (fun _ => ?_) (fun qQ => absurd qQ (by decide))
  refine k_iinc (pc := 157) N d2_157 rfl (v := (3 : Int32)) (by decide) (Ls' := #[.val (.ref a), .val (.long t), .second, .val (.int (2 : Int32)), .val (.ref b), .val (.ref xa), .val (.ref ya), .val (.int (3 : Int32)), .val (.int i2)]) rfl ?_
  refine k_goto (pc := 160) N d2_160 (pc' := 53) (by decide) ?_
  refine k_iload (pc := 53) N d2_53 rfl ?_
  refine k_aload (pc := 55) N d2_55 rfl rfl ?_
  refine k_arraylength (pc := 57) N 1 d2_57 rfl (z := (3 : Int32)) rfl ?_
  refine k_icmp_ge (pc := 58) N d2_58 (pc' := 163) (by decide) (fun _ => ?_) (fun qQ => absurd qQ (by decide))
  refine k_aload_n (pc := 163) N d2_163 rfl rfl ?_
  refine k_lload_n (pc := 164) N d2_164 rfl ?_
  refine k_put (pc := 165) (host := "") N 0 2 d2_165 (Or.inl (hw _ (List.mem_of_getElem? (i := 31) rfl))) Via.refl rfl rfl (Or.inl (hw _ (List.mem_of_getElem? (i := 32) rfl))) (hw _ (List.mem_of_getElem? (i := 7) rfl)) (ty := .long) (by decide) rfl rfl (K' := ((oMe Z a (.ref lv) (.int (-1 : Int32)) (.long t) .null .null .null (.int (0 : Int32))) :: (oArr Z b kI .int [.int i0, .int i1, .int i2]) :: (oArr Z xa kD .double [.double x0, .double x1, .double x2]) :: (oArr Z ya kD .double [.double y0, .double y1, .double y2]) :: rest)) rfl fun T N => ?_
  refine k_aload_n (pc := 168) N d2_168 rfl rfl ?_
  refine k_aload (pc := 169) N d2_169 rfl rfl ?_
  refine k_clone (pc := 171) N 1 1 3 d2_171 rfl hkI (ints_fit [i0, i1, i2]) (hw _ (List.mem_of_getElem? (i := 33) rfl)) (hw _ (List.mem_of_getElem? (i := 34) rfl)) (hw _ (List.mem_of_getElem? (i := 38) rfl)) (hw _ (List.mem_of_getElem? (i := 36) rfl)) (hw _ (List.mem_of_getElem? (i := 37) rfl)) (hw _ (List.mem_of_getElem? (i := 39) rfl)) rfl rfl (by decide) (by decide) (Nat.le_of_ble_eq_true rfl) (by decide) (by decide) fun T nb N => ?_
  refine k_checkcast (pc := 174) N d2_174 (hw _ (List.mem_of_getElem? (i := 40) rfl)) (fun h N => Ins.self (exa_of_arr N (i := 0) rfl hkI)) fun T N => ?_
  refine k_put (pc := 177) (host := "") N 1 3 d2_177 (Or.inl (hw _ (List.mem_of_getElem? (i := 42) rfl))) Via.refl rfl rfl (Or.inr ⟨(hw _ (List.mem_of_getElem? (i := 43) rfl)), rfl, rfl⟩) (hw _ (List.mem_of_getElem? (i := 7) rfl)) (ty := (.array .int)) (by decide) rfl rfl (K' := ((oArr Z nb kI .int [.int i0, .int i1, .int i2]) :: (oMe Z a (.ref lv) (.int (-1 : Int32)) (.long t) (.ref nb) .null .null (.int (0 : Int32))) :: (oArr Z b kI .int [.int i0, .int i1, .int i2]) :: (oArr Z xa kD .double [.double x0, .double x1, .double x2]) :: (oArr Z ya kD .double [.double y0, .double y1, .double y2]) :: rest)) rfl fun T N => ?_
  refine k_aload_n (pc := 180) N d2_180 rfl rfl ?_
  refine k_aload (pc := 181) N d2_181 rfl rfl ?_
  refine k_clone (pc := 183) N 3 1 3 d2_183 rfl hkD (dbls_fit [x0, x1, x2]) (hw _ (List.mem_of_getElem? (i := 44) rfl)) (hw _ (List.mem_of_getElem? (i := 45) rfl)) (hw _ (List.mem_of_getElem? (i := 38) rfl)) (hw _ (List.mem_of_getElem? (i := 36) rfl)) (hw _ (List.mem_of_getElem? (i := 46) rfl)) (hw _ (List.mem_of_getElem? (i := 47) rfl)) rfl rfl (by decide) (by decide) (Nat.le_of_ble_eq_true rfl) (by decide) (by decide) fun T nx N => ?_
  refine k_checkcast (pc := 186) N d2_186 (hw _ (List.mem_of_getElem? (i := 48) rfl)) (fun h N => Ins.self (exa_of_arr N (i := 0) rfl hkD)) fun T N => ?_
  refine k_put (pc := 189) (host := "") N 2 4 d2_189 (Or.inl (hw _ (List.mem_of_getElem? (i := 50) rfl))) Via.refl rfl rfl (Or.inr ⟨(hw _ (List.mem_of_getElem? (i := 51) rfl)), rfl, rfl⟩) (hw _ (List.mem_of_getElem? (i := 7) rfl)) (ty := (.array .double)) (by decide) rfl rfl (K' := ((oArr Z nx kD .double [.double x0, .double x1, .double x2]) :: (oArr Z nb kI .int [.int i0, .int i1, .int i2]) :: (oMe Z a (.ref lv) (.int (-1 : Int32)) (.long t) (.ref nb) (.ref nx) .null (.int (0 : Int32))) :: (oArr Z b kI .int [.int i0, .int i1, .int i2]) :: (oArr Z xa kD .double [.double x0, .double x1, .double x2]) :: (oArr Z ya kD .double [.double y0, .double y1, .double y2]) :: rest)) rfl fun T N => ?_
  refine k_aload_n (pc := 192) N d2_192 rfl rfl ?_
  refine k_aload (pc := 193) N d2_193 rfl rfl ?_
  refine k_clone (pc := 195) N 5 1 3 d2_195 rfl hkD (dbls_fit [y0, y1, y2]) (hw _ (List.mem_of_getElem? (i := 44) rfl)) (hw _ (List.mem_of_getElem? (i := 45) rfl)) (hw _ (List.mem_of_getElem? (i := 38) rfl)) (hw _ (List.mem_of_getElem? (i := 36) rfl)) (hw _ (List.mem_of_getElem? (i := 46) rfl)) (hw _ (List.mem_of_getElem? (i := 47) rfl)) rfl rfl (by decide) (by decide) (Nat.le_of_ble_eq_true rfl) (by decide) (by decide) fun T ny N => ?_
  refine k_checkcast (pc := 198) N d2_198 (hw _ (List.mem_of_getElem? (i := 48) rfl)) (fun h N => Ins.self (exa_of_arr N (i := 0) rfl hkD)) fun T N => ?_
  refine k_put (pc := 201) (host := "") N 3 5 d2_201 (Or.inl (hw _ (List.mem_of_getElem? (i := 52) rfl))) Via.refl rfl rfl (Or.inr ⟨(hw _ (List.mem_of_getElem? (i := 53) rfl)), rfl, rfl⟩) (hw _ (List.mem_of_getElem? (i := 7) rfl)) (ty := (.array .double)) (by decide) rfl rfl (K' := ((oArr Z ny kD .double [.double y0, .double y1, .double y2]) :: (oArr Z nx kD .double [.double x0, .double x1, .double x2]) :: (oArr Z nb kI .int [.int i0, .int i1, .int i2]) :: (oMe Z a (.ref lv) (.int (-1 : Int32)) (.long t) (.ref nb) (.ref nx) (.ref ny) (.int (0 : Int32))) :: (oArr Z b kI .int [.int i0, .int i1, .int i2]) :: (oArr Z xa kD .double [.double x0, .double x1, .double x2]) :: (oArr Z ya kD .double [.double y0, .double y1, .double y2]) :: rest)) rfl fun T N => ?_
  refine k_aload_n (pc := 204) N d2_204 rfl rfl ?_
  refine k_iload_n (pc := 205) N d2_205 rfl ?_
  replace N := ONow.sel (F := [oArr Z ny kD .double [.double y0, .double y1, .double y2], oArr Z nx kD .double [.double x0, .double x1, .double x2], oArr Z nb kI .int [.int i0, .int i1, .int i2], oMe Z a (.ref lv) (.int (-1 : Int32)) (.long t) (.ref nb) (.ref nx) (.ref ny) (.int (0 : Int32)), oArr Z b kI .int [.int i0, .int i1, .int i2], oArr Z xa kD .double [.double x0, .double x1, .double x2], oArr Z ya kD .double [.double y0, .double y1, .double y2]]) (F' := [oMe Z a (.ref lv) (.int (-1 : Int32)) (.long t) (.ref nb) (.ref nx) (.ref ny) (.int (0 : Int32)), oArr Z nb kI .int [.int i0, .int i1, .int i2], oArr Z ny kD .double [.double y0, .double y1, .double y2], oArr Z nx kD .double [.double x0, .double x1, .double x2], oArr Z b kI .int [.int i0, .int i1, .int i2], oArr Z xa kD .double [.double x0, .double x1, .double x2], oArr Z ya kD .double [.double y0, .double y1, .double y2]]) (rest := rest) N [3, 2, 0, 1, 4, 5, 6] (by decide) rfl
  refine k_virtual (pc := 206) N (y := (⟨"com/example/tapflow/tapflow/MotionEvent", "setAction", "(I)V"⟩ : MethodName)) (z := (⟨"com/example/tapflow/tapflow/MotionEvent", "setAction", "(I)V"⟩ : MethodName)) (rest := []) [.int (2 : Int32)] (a := a) d2_206 (fun h N => N.exa (i := 0) rfl) (hw _ (List.mem_of_getElem? (i := 54) rfl)) (hw _ (List.mem_of_getElem? (i := 55) rfl)) (nf_self (hw _ (List.mem_of_getElem? (i := 57) rfl))) (hw _ (List.mem_of_getElem? (i := 57) rfl)) (hw _ (List.mem_of_getElem? (i := 56) rfl)) (hw _ (List.mem_of_getElem? (i := 8) rfl)) (hw _ (List.mem_of_getElem? (i := 58) rfl)) (by decide) pd__I_V rfl (c_set2_3 l Z a0 hw an sn ac SA AA A7 AE a lv nb nx ny (-1 : Int32) (0 : Int32) t kI i0 i1 i2 ((oArr Z ny kD .double [.double y0, .double y1, .double y2]) :: (oArr Z nx kD .double [.double x0, .double x1, .double x2]) :: (oArr Z b kI .int [.int i0, .int i1, .int i2]) :: (oArr Z xa kD .double [.double x0, .double x1, .double x2]) :: (oArr Z ya kD .double [.double y0, .double y1, .double y2]) :: rest)) rfl rfl 0 rfl (by decide) (by decide) (cells' := 3) rfl (slots' := 9) rfl (by decide) (by decide) fun T vV K' N qQ => ?_
  obtain ⟨rfl, rfl⟩ := qQ
  exact k_return (pc := 209) N d2_209 rfl (by decide) (by decide) ⟨nb, nx, ny, rfl, rfl⟩
def rm_c_init0_1 : Room := { frames := 2, cells := 3, slots := 3, locals := 32 }
set_option maxRecDepth 65536 in
set_option maxHeartbeats 40000000 in
theorem c_init0_1 (l : Launch) (Z : State) (a0 : Array Value) (hw : ∀ d ∈ tables_1, d.before a0 Z = true) (an sn : Addr) (ac : Cell) (SA : Sta Z Z.heap "com/example/tapflow/tapflow/MotionEvent" "ACTION_NAMES" "[Ljava/lang/String;" (.ref an)) (AA : Arr Z Z.heap an ac (.object "java/lang/String")) (A7 : ac.slots.size = 7) (AE : ac.slots[0]? = some (.ref sn)) (lv : Addr) (SL : Sta Z Z.heap "com/example/tapflow/tapflow/MotionEvent" "NO_LEVELS" "[D" (.ref lv)) (a b xa ya : Addr) (t : Int64) (kI kD : ClassId) (hkI : Z.vm.findClass "[I" = some kI) (hkD : Z.vm.findClass "[D" = some kD) (i0 : Int32) (x0 y0 : UInt64) (g0 : ¬ i0 < 0) (u0 : ¬ (31 : Int32) < i0) (hx0 : Crd x0) (hy0 : Crd y0) (rest : List Ent) :
    OMeets l (⟨"com/example/tapflow/tapflow/MotionEvent", "<init>", "(JI[I[D[D)V"⟩ : MethodName) prog_5_method_2_code 9 none rm_c_init0_1 Z [.ref a, .long t, .int (0 : Int32), .ref b, .ref xa, .ref ya] ((oMe Z a .null (.int (0 : Int32)) (.long (0 : Int64)) .null .null .null (.int (0 : Int32))) :: (oArr Z b kI .int [.int i0]) :: (oArr Z xa kD .double [.double x0]) :: (oArr Z ya kD .double [.double y0]) :: rest) (fun v K => ∃ nb nx ny, v = none ∧ K = (oMe Z a (.ref lv) (.int (-1 : Int32)) (.long t) (.ref nb) (.ref nx) (.ref ny) (.int (0 : Int32))) :: (oArr Z nb kI .int [.int i0]) :: (oArr Z ny kD .double [.double y0]) :: (oArr Z nx kD .double [.double x0]) :: (oArr Z b kI .int [.int i0]) :: (oArr Z xa kD .double [.double x0]) :: (oArr Z ya kD .double [.double y0]) :: rest) := by
  refine OMeets.of_body (plainFor_of_name pn_com_example_tapflow_tapflow_MotionEvent) #[.val (.ref a), .val (.long t), .second, .val (.int (0 : Int32)), .val (.ref b), .val (.ref xa), .val (.ref ya), .unset, .unset] (fun m => by first | (simp [entryFrame, mkF, argsToLocals, Value.category]; done) | rfl) fun pP eE sS mM bB hH cC T N => ?_
  refine k_aload_n (pc := 0) N d2_0 rfl rfl ?_
  refine initO_k (pc := 1) N 0 d2_1 (hw _ (List.mem_of_getElem? (i := 12) rfl)) (hw _ (List.mem_of_getElem? (i := 13) rfl)) (hw _ (List.mem_of_getElem? (i := 14) rfl)) rfl rfl (by decide) (by decide) fun T N => ?_
  refine k_aload_n (pc := 4) N d2_4 rfl rfl ?_
  refine k_getS (pc := 5) N d2_5 (hw _ (List.mem_of_getElem? (i := 15) rfl)) Via.refl SL fun T N => ?_
  refine k_put (pc := 8) (host := "") N 0 0 d2_8 (Or.inl (hw _ (List.mem_of_getElem? (i := 17) rfl))) Via.refl rfl rfl (Or.inl (hw _ (List.mem_of_getElem? (i := 18) rfl))) (hw _ (List.mem_of_getElem? (i := 7) rfl)) (ty := (.array .double)) (by decide) rfl rfl (K' := ((oMe Z a (.ref lv) (.int (0 : Int32)) (.long (0 : Int64)) .null .null .null (.int (0 : Int32))) :: (oArr Z b kI .int [.int i0]) :: (oArr Z xa kD .double [.double x0]) :: (oArr Z ya kD .double [.double y0]) :: rest)) rfl fun T N => ?_
  refine k_aload_n (pc := 11) N d2_11 rfl rfl ?_
  refine k_iconst (pc := 12) N d2_12 (v := (-1 : Int32)) (by decide) ?_
  refine k_put (pc := 13) (host := "") N 0 1 d2_13 (Or.inl (hw _ (List.mem_of_getElem? (i := 19) rfl))) Via.refl rfl rfl (Or.inl (hw _ (List.mem_of_getElem? (i := 20) rfl))) (hw _ (List.mem_of_getElem? (i := 7) rfl)) (ty := .int) (by decide) rfl rfl (K' := ((oMe Z a (.ref lv) (.int (-1 : Int32)) (.long (0 : Int64)) .null .null .null (.int (0 : Int32))) :: (oArr Z b kI .int [.int i0]) :: (oArr Z xa kD .double [.double x0]) :: (oArr Z ya kD .double [.double y0]) :: rest)) rfl fun T N => ?_
  refine k_aload (pc := 16) N d2_16 rfl rfl ?_
  refine k_arraylength (pc := 18) N 1 d2_18 rfl (z := (1 : Int32)) rfl ?_
  refine k_if_eq (pc := 19) N d2_19 (pc' := 40) (by decide) (fun qQ => absurd qQ (by decide)) (fun _ => ?_)
  refine k_aload (pc := 22) N d2_22 rfl rfl ?_
  refine k_arraylength (pc := 24) N 2 d2_24 rfl (z := (1 : Int32)) rfl ?_
  refine k_aload (pc := 25) N d2_25 rfl rfl ?_
  refine k_arraylength (pc := 27) N 1 d2_27 rfl (z := (1 : Int32)) rfl ?_
  refine k_icmp_ne (pc := 28) N d2_28 (pc' := 40) (by decide) (fun qQ => absurd qQ (fun z => z rfl)) (fun _ => ?_)
  refine k_aload (pc := 31) N d2_31 rfl rfl ?_
  refine k_arraylength (pc := 33) N 3 d2_33 rfl (z := (1 : Int32)) rfl ?_
  refine k_aload (pc := 34) N d2_34 rfl rfl ?_
  refine k_arraylength (pc := 36) N 1 d2_36 rfl (z := (1 : Int32)) rfl ?_
  refine k_icmp_eq (pc := 37) N d2_37 (pc' := 50) (by decide) (fun _ => ?_) (fun qQ => absurd qQ (fun z => z rfl))
  refine k_iconst (pc := 50) N d2_50 (v := (0 : Int32)) (by decide) ?_
  refine k_istore (pc := 51) N d2_51 (Ls' := #[.val (.ref a), .val (.long t), .second, .val (.int (0 : Int32)), .val (.ref b), .val (.ref xa), .val (.ref ya), .val (.int (0 : Int32)), .unset]) rfl ?_
  refine k_iload (pc := 53) N d2_53 rfl ?_
  refine k_aload (pc := 55) N d2_55 rfl rfl ?_
  refine k_arraylength (pc := 57) N 1 d2_57 rfl (z := (1 : Int32)) rfl ?_
  refine k_icmp_ge (pc := 58) N d2_58 (pc' := 163) (by decide) (fun qQ => absurd qQ (by decide)) (fun _ => ?_)
  refine k_aload (pc := 61) N d2_61 rfl rfl ?_
  refine k_iload (pc := 63) N d2_63 rfl ?_
  refine k_iaload (pc := 65) N 1 0 d2_65 rfl (by decide) (by decide) (v := .int i0) rfl ?_
  refine k_static (pc := 66) N (y := (⟨"com/example/tapflow/tapflow/MotionEvent", "checkPointerId", "(I)I"⟩ : MethodName)) (rest := []) [.int i0] d2_66 (hw _ (List.mem_of_getElem? (i := 21) rfl)) (hw _ (List.mem_of_getElem? (i := 22) rfl)) (hw _ (List.mem_of_getElem? (i := 8) rfl)) (hw _ (List.mem_of_getElem? (i := 23) rfl)) (by decide) pd__I_I rfl (c_chk l Z a0 hw i0 g0 u0 ((oMe Z a (.ref lv) (.int (-1 : Int32)) (.long (0 : Int64)) .null .null .null (.int (0 : Int32))) :: (oArr Z b kI .int [.int i0]) :: (oArr Z xa kD .double [.double x0]) :: (oArr Z ya kD .double [.double y0]) :: rest)) rfl rfl 0 rfl (by decide) (by decide) (cells' := 0) rfl (slots' := 0) rfl (by decide) (by decide) fun T vV K' N qQ => ?_
  obtain ⟨rfl, rfl⟩ := qQ
  refine k_istore (pc := 69) N d2_69 (Ls' := #[.val (.ref a), .val (.long t), .second, .val (.int (0 : Int32)), .val (.ref b), .val (.ref xa), .val (.ref ya), .val (.int (0 : Int32)), .val (.int i0)]) rfl ?_
  refine k_iload (pc := 71) N d2_71 rfl ?_
  refine k_if_le (pc := 73) N d2_73 (pc' := 110) (by decide) (fun _ => ?_) (fun qQ => absurd qQ (by decide))
  refine k_aload (pc := 110) N d2_110 rfl rfl ?_
  refine k_iload (pc := 112) N d2_112 rfl ?_
  refine k_daload (pc := 114) N 2 0 d2_114 rfl (by decide) (by decide) (v := .double x0) rfl ?_
  refine k_static (pc := 115) N (y := (⟨"com/example/tapflow/tapflow/MotionEvent", "isCoordinate", "(D)Z"⟩ : MethodName)) (rest := []) [.double x0] d2_115 (hw _ (List.mem_of_getElem? (i := 24) rfl)) (hw _ (List.mem_of_getElem? (i := 25) rfl)) (hw _ (List.mem_of_getElem? (i := 8) rfl)) (hw _ (List.mem_of_getElem? (i := 26) rfl)) (by decide) pd__D_Z rfl (c_crd l Z a0 hw x0 hx0 ((oMe Z a (.ref lv) (.int (-1 : Int32)) (.long (0 : Int64)) .null .null .null (.int (0 : Int32))) :: (oArr Z b kI .int [.int i0]) :: (oArr Z xa kD .double [.double x0]) :: (oArr Z ya kD .double [.double y0]) :: rest)) rfl rfl 0 rfl (by decide) (by decide) (cells' := 0) rfl (slots' := 0) rfl (by decide) (by decide) fun T vV K' N qQ => ?_
  obtain ⟨rfl, rfl⟩ := qQ
  refine k_if_eq (pc := 118) N d2_118 (pc' := 132) (by decide) (fun qQ => absurd qQ (by decide)) (fun _ => ?_)
  refine k_aload (pc := 121) N d2_121 rfl rfl ?_
  refine k_iload (pc := 123) N d2_123 rfl ?_
  refine k_daload (pc := 125) N 3 0 d2_125 rfl (by decide) (by decide) (v := .double y0) rfl ?_
  refine k_static (pc := 126) N (y := (⟨"com/example/tapflow/tapflow/MotionEvent", "isCoordinate", "(D)Z"⟩ : MethodName)) (rest := []) [.double y0] d2_126 (hw _ (List.mem_of_getElem? (i := 24) rfl)) (hw _ (List.mem_of_getElem? (i := 25) rfl)) (hw _ (List.mem_of_getElem? (i := 8) rfl)) (hw _ (List.mem_of_getElem? (i := 26) rfl)) (by decide) pd__D_Z rfl (c_crd l Z a0 hw y0 hy0 ((oMe Z a (.ref lv) (.int (-1 : Int32)) (.long (0 : Int64)) .null .null .null (.int (0 : Int32))) :: (oArr Z b kI .int [.int i0]) :: (oArr Z xa kD .double [.double x0]) :: (oArr Z ya kD .double [.double y0]) :: rest)) rfl rfl 0 rfl (by decide) (by decide) (cells' := 0) rfl (slots' := 0) rfl (by decide) (by decide) fun T vV K' N qQ => ?_
  obtain ⟨rfl, rfl⟩ := qQ
  refine k_if_ne (pc := 129) N d2_129 (pc' := 157) (by decide) (fun _ => ?_) (fun qQ => absurd qQ (by decide))
  refine k_iinc (pc := 157) N d2_157 rfl (v := (1 : Int32)) (by decide) (Ls' := #[.val (.ref a), .val (.long t), .second, .val (.int (0 : Int32)), .val (.ref b), .val (.ref xa), .val (.ref ya), .val (.int (1 : Int32)), .val (.int i0)]) rfl ?_
  refine k_goto (pc := 160) N d2_160 (pc' := 53) (by decide) ?_
  refine k_iload (pc := 53) N d2_53 rfl ?_
  refine k_aload (pc := 55) N d2_55 rfl rfl ?_
  refine k_arraylength (pc := 57) N 1 d2_57 rfl (z := (1 : Int32)) rfl ?_
  refine k_icmp_ge (pc := 58) N d2_58 (pc' := 163) (by decide) (fun _ => ?_) (fun qQ => absurd qQ (by decide))
  refine k_aload_n (pc := 163) N d2_163 rfl rfl ?_
  refine k_lload_n (pc := 164) N d2_164 rfl ?_
  refine k_put (pc := 165) (host := "") N 0 2 d2_165 (Or.inl (hw _ (List.mem_of_getElem? (i := 31) rfl))) Via.refl rfl rfl (Or.inl (hw _ (List.mem_of_getElem? (i := 32) rfl))) (hw _ (List.mem_of_getElem? (i := 7) rfl)) (ty := .long) (by decide) rfl rfl (K' := ((oMe Z a (.ref lv) (.int (-1 : Int32)) (.long t) .null .null .null (.int (0 : Int32))) :: (oArr Z b kI .int [.int i0]) :: (oArr Z xa kD .double [.double x0]) :: (oArr Z ya kD .double [.double y0]) :: rest)) rfl fun T N => ?_
  refine k_aload_n (pc := 168) N d2_168 rfl rfl ?_
  refine k_aload (pc := 169) N d2_169 rfl rfl ?_
  refine k_clone (pc := 171) N 1 1 1 d2_171 rfl hkI (ints_fit [i0]) (hw _ (List.mem_of_getElem? (i := 33) rfl)) (hw _ (List.mem_of_getElem? (i := 34) rfl)) (hw _ (List.mem_of_getElem? (i := 38) rfl)) (hw _ (List.mem_of_getElem? (i := 36) rfl)) (hw _ (List.mem_of_getElem? (i := 37) rfl)) (hw _ (List.mem_of_getElem? (i := 39) rfl)) rfl rfl (by decide) (by decide) (Nat.le_of_ble_eq_true rfl) (by decide) (by decide) fun T nb N => ?_
  refine k_checkcast (pc := 174) N d2_174 (hw _ (List.mem_of_getElem? (i := 40) rfl)) (fun h N => Ins.self (exa_of_arr N (i := 0) rfl hkI)) fun T N => ?_
  refine k_put (pc := 177) (host := "") N 1 3 d2_177 (Or.inl (hw _ (List.mem_of_getElem? (i := 42) rfl))) Via.refl rfl rfl (Or.inr ⟨(hw _ (List.mem_of_getElem? (i := 43) rfl)), rfl, rfl⟩) (hw _ (List.mem_of_getElem? (i := 7) rfl)) (ty := (.array .int)) (by decide) rfl rfl (K' := ((oArr Z nb kI .int [.int i0]) :: (oMe Z a (.ref lv) (.int (-1 : Int32)) (.long t) (.ref nb) .null .null (.int (0 : Int32))) :: (oArr Z b kI .int [.int i0]) :: (oArr Z xa kD .double [.double x0]) :: (oArr Z ya kD .double [.double y0]) :: rest)) rfl fun T N => ?_
  refine k_aload_n (pc := 180) N d2_180 rfl rfl ?_
  refine k_aload (pc := 181) N d2_181 rfl rfl ?_
  refine k_clone (pc := 183) N 3 1 1 d2_183 rfl hkD (dbls_fit [x0]) (hw _ (List.mem_of_getElem? (i := 44) rfl)) (hw _ (List.mem_of_getElem? (i := 45) rfl)) (hw _ (List.mem_of_getElem? (i := 38) rfl)) (hw _ (List.mem_of_getElem? (i := 36) rfl)) (hw _ (List.mem_of_getElem? (i := 46) rfl)) (hw _ (List.mem_of_getElem? (i := 47) rfl)) rfl rfl (by decide) (by decide) (Nat.le_of_ble_eq_true rfl) (by decide) (by decide) fun T nx N => ?_
  refine k_checkcast (pc := 186) N d2_186 (hw _ (List.mem_of_getElem? (i := 48) rfl)) (fun h N => Ins.self (exa_of_arr N (i := 0) rfl hkD)) fun T N => ?_
  refine k_put (pc := 189) (host := "") N 2 4 d2_189 (Or.inl (hw _ (List.mem_of_getElem? (i := 50) rfl))) Via.refl rfl rfl (Or.inr ⟨(hw _ (List.mem_of_getElem? (i := 51) rfl)), rfl, rfl⟩) (hw _ (List.mem_of_getElem? (i := 7) rfl)) (ty := (.array .double)) (by decide) rfl rfl (K' := ((oArr Z nx kD .double [.double x0]) :: (oArr Z nb kI .int [.int i0]) :: (oMe Z a (.ref lv) (.int (-1 : Int32)) (.long t) (.ref nb) (.ref nx) .null (.int (0 : Int32))) :: (oArr Z b kI .int [.int i0]) :: (oArr Z xa kD .double [.double x0]) :: (oArr Z ya kD .double [.double y0]) :: rest)) rfl fun T N => ?_
  refine k_aload_n (pc := 192) N d2_192 rfl rfl ?_
  refine k_aload (pc := 193) N d2_193 rfl rfl ?_
  refine k_clone (pc := 195) N 5 1 1 d2_195 rfl hkD (dbls_fit [y0]) (hw _ (List.mem_of_getElem? (i := 44) rfl)) (hw _ (List.mem_of_getElem? (i := 45) rfl)) (hw _ (List.mem_of_getElem? (i := 38) rfl)) (hw _ (List.mem_of_getElem? (i := 36) rfl)) (hw _ (List.mem_of_getElem? (i := 46) rfl)) (hw _ (List.mem_of_getElem? (i := 47) rfl)) rfl rfl (by decide) (by decide) (Nat.le_of_ble_eq_true rfl) (by decide) (by decide) fun T ny N => ?_
  refine k_checkcast (pc := 198) N d2_198 (hw _ (List.mem_of_getElem? (i := 48) rfl)) (fun h N => Ins.self (exa_of_arr N (i := 0) rfl hkD)) fun T N => ?_
  refine k_put (pc := 201) (host := "") N 3 5 d2_201 (Or.inl (hw _ (List.mem_of_getElem? (i := 52) rfl))) Via.refl rfl rfl (Or.inr ⟨(hw _ (List.mem_of_getElem? (i := 53) rfl)), rfl, rfl⟩) (hw _ (List.mem_of_getElem? (i := 7) rfl)) (ty := (.array .double)) (by decide) rfl rfl (K' := ((oArr Z ny kD .double [.double y0]) :: (oArr Z nx kD .double [.double x0]) :: (oArr Z nb kI .int [.int i0]) :: (oMe Z a (.ref lv) (.int (-1 : Int32)) (.long t) (.ref nb) (.ref nx) (.ref ny) (.int (0 : Int32))) :: (oArr Z b kI .int [.int i0]) :: (oArr Z xa kD .double [.double x0]) :: (oArr Z ya kD .double [.double y0]) :: rest)) rfl fun T N => ?_
  refine k_aload_n (pc := 204) N d2_204 rfl rfl ?_
  refine k_iload_n (pc := 205) N d2_205 rfl ?_
  replace N := ONow.sel (F := [oArr Z ny kD .double [.double y0], oArr Z nx kD .double [.double x0], oArr Z nb kI .int [.int i0], oMe Z a (.ref lv) (.int (-1 : Int32)) (.long t) (.ref nb) (.ref nx) (.ref ny) (.int (0 : Int32)), oArr Z b kI .int [.int i0], oArr Z xa kD .double [.double x0], oArr Z ya kD .double [.double y0]]) (F' := [oMe Z a (.ref lv) (.int (-1 : Int32)) (.long t) (.ref nb) (.ref nx) (.ref ny) (.int (0 : Int32)), oArr Z nb kI .int [.int i0], oArr Z ny kD .double [.double y0], oArr Z nx kD .double [.double x0], oArr Z b kI .int [.int i0], oArr Z xa kD .double [.double x0], oArr Z ya kD .double [.double y0]]) (rest := rest) N [3, 2, 0, 1, 4, 5, 6] (by decide) rfl
  refine k_virtual (pc := 206) N (y := (⟨"com/example/tapflow/tapflow/MotionEvent", "setAction", "(I)V"⟩ : MethodName)) (z := (⟨"com/example/tapflow/tapflow/MotionEvent", "setAction", "(I)V"⟩ : MethodName)) (rest := []) [.int (0 : Int32)] (a := a) d2_206 (fun h N => N.exa (i := 0) rfl) (hw _ (List.mem_of_getElem? (i := 54) rfl)) (hw _ (List.mem_of_getElem? (i := 55) rfl)) (nf_self (hw _ (List.mem_of_getElem? (i := 57) rfl))) (hw _ (List.mem_of_getElem? (i := 57) rfl)) (hw _ (List.mem_of_getElem? (i := 56) rfl)) (hw _ (List.mem_of_getElem? (i := 8) rfl)) (hw _ (List.mem_of_getElem? (i := 58) rfl)) (by decide) pd__I_V rfl (c_set0_1 l Z a0 hw an sn ac SA AA A7 AE a lv nb nx ny (-1 : Int32) (0 : Int32) t kI i0 ((oArr Z ny kD .double [.double y0]) :: (oArr Z nx kD .double [.double x0]) :: (oArr Z b kI .int [.int i0]) :: (oArr Z xa kD .double [.double x0]) :: (oArr Z ya kD .double [.double y0]) :: rest)) rfl rfl 0 rfl (by decide) (by decide) (cells' := 3) rfl (slots' := 3) rfl (by decide) (by decide) fun T vV K' N qQ => ?_
  obtain ⟨rfl, rfl⟩ := qQ
  exact k_return (pc := 209) N d2_209 rfl (by decide) (by decide) ⟨nb, nx, ny, rfl, rfl⟩
theorem len_at {args : Array Value} {first s : State} {o : Option Outcome} {idx : List Nat} {t : Term} {an : Addr} {ac : Cell} {n : Int32} (e : t.eval args first o idx s = some (.ref an)) (w : s.arrayAt? an = some ac) (q : (Term.length t).eval args first o idx s = some (.int n)) (k : Nat) (hk : n.toInt = k) : ac.slots.size = k := by
  simp only [Term.eval, e, w, Option.bind_eq_bind, Option.bind_some] at q
  split at q
  · next h =>
    have q' := Value.int.inj (Option.some.inj q)
    rw [← q'] at hk
    have : (ac.slots.size.toInt32).toInt = ac.slots.size := by
      rw [Nat.toInt32, Int32.toInt_ofNat']
      have hs : (Int32.size : Int) = 4294967296 := rfl
      exact Int.bmod_eq_of_le (by omega) (by omega)
    omega
  · cases q
theorem elem_at {args : Array Value} {first s : State} {o : Option Outcome} {idx : List Nat} {t : Term} {an : Addr} {ac : Cell} {n : Int32} {v : Value} (e : t.eval args first o idx s = some (.ref an)) (w : s.arrayAt? an = some ac) (q : (Term.elem t (Term.int n)).eval args first o idx s = some v) : ac.slots[n.toNatClampNeg]? = some v := by
  simp only [Term.eval, e, w, Option.bind_eq_bind, Option.bind_some] at q
  split at q
  · cases q
  · exact q

theorem four (x : Int32) : x &&& 3 = 0 ∨ x &&& 3 = 1 ∨ x &&& 3 = 2 ∨ x &&& 3 = 3 := by
  have h : (x &&& 3).toBitVec.toNat < 4 := by
    simp only [Int32.toBitVec_and, BitVec.toNat_and]
    exact Nat.lt_succ_of_le Nat.and_le_right
  have e : ∀ y : Int32, y.toBitVec.toNat < 4 → y = 0 ∨ y = 1 ∨ y = 2 ∨ y = 3 := fun y hy => by
    have q : ∀ k : Int32, y.toBitVec.toNat = k.toBitVec.toNat → y = k := fun k w => Int32.toBitVec_inj.mp (BitVec.eq_of_toNat_eq w)
    have : y.toBitVec.toNat = 0 ∨ y.toBitVec.toNat = 1 ∨ y.toBitVec.toNat = 2 ∨ y.toBitVec.toNat = 3 := by omega
    rcases this with w | w | w | w
    · exact Or.inl (q 0 w)
    · exact Or.inr (Or.inl (q 1 w))
    · exact Or.inr (Or.inr (Or.inl (q 2 w)))
    · exact Or.inr (Or.inr (Or.inr (q 3 w)))
  exact e _ h
theorem msk (x : Int32) (M : Nat) (hM : M < 2147483648) (y : Int32) (hy : y.toBitVec.toNat = M) : 0 ≤ (x &&& y).toInt ∧ (x &&& y).toInt ≤ M := by
  have h : (x.toBitVec &&& y.toBitVec).toNat ≤ M := by
    rw [BitVec.toNat_and, hy]; exact Nat.and_le_right
  have e : (x &&& y).toInt = ((x.toBitVec &&& y.toBitVec).toNat : Int) := by
    show (x.toBitVec &&& y.toBitVec).toInt = _
    rw [BitVec.toInt_eq_toNat_cond, if_pos (by omega)]
  rw [e]; omega

theorem add_b {x y : Int32} {A B C D : Int} (hx : A ≤ x.toInt ∧ x.toInt ≤ B) (hy : C ≤ y.toInt ∧ y.toInt ≤ D) (h1 : -2147483648 ≤ A + C) (h2 : B + D < 2147483648) : (x + y).toInt = x.toInt + y.toInt := by
  rw [Int32.toInt_add]; exact Int.bmod_eq_of_le (by omega) (by omega)
theorem step_b {x y : Int32} {B D : Int} (hx : 0 ≤ x.toInt ∧ x.toInt ≤ B) (hy : 0 ≤ y.toInt ∧ y.toInt ≤ D) (h2 : B + D < 1000) : x.toInt < (x + 1 + y).toInt ∧ (x + 1 + y).toInt ≤ B + 1 + D := by
  have e1 : (x + 1).toInt = x.toInt + 1 := add_b (A := 0) (B := B) (C := 1) (D := 1) hx (by decide) (by omega) (by omega)
  have e2 : (x + 1 + y).toInt = (x + 1).toInt + y.toInt := add_b (A := 0) (B := B + 1) (C := 0) (D := D) (by omega) hy (by omega) (by omega)
  omega
theorem nlt {x : Int32} (h : 0 ≤ x.toInt) : ¬ x < 0 := by rw [Int32.lt_iff_toInt_lt]; have : (0 : Int32).toInt = 0 := rfl; omega
theorem n31 {x : Int32} (h : x.toInt ≤ 31) : ¬ (31 : Int32) < x := by rw [Int32.lt_iff_toInt_lt]; have : (31 : Int32).toInt = 31 := rfl; omega
theorem of_rng {x : Int32} (h0 : 0 ≤ x.toInt) (h1 : ¬ (31 : Int32) < x) : ∃ k : Nat, k < 32 ∧ x = Int32.ofNat k ∧ x.toInt = k := by
  rw [Int32.lt_iff_toInt_lt] at h1
  have e : (31 : Int32).toInt = 31 := rfl
  refine ⟨x.toInt.toNat, by omega, Int32.toInt_inj.mp ?_, by omega⟩
  have hs : (Int32.size : Int) = 4294967296 := rfl
  rw [Int32.toInt_ofNat', Int.bmod_eq_of_le (by omega) (by omega)]; omega
theorem bit1 : ∀ k < 32, ((0 : Int32) ||| ((1 : Int32) <<< (Int32.ofNat k &&& 31))) = ((1 : Int64) <<< ((Int32.ofNat k).toInt64 &&& 63)).toInt32 := by decide +kernel
theorem bit2 : ∀ j < 32, ∀ k < j, (((0 : Int32) ||| ((1 : Int32) <<< (Int32.ofNat k &&& 31))) ||| ((1 : Int32) <<< (Int32.ofNat j &&& 31))) = (((1 : Int64) <<< ((Int32.ofNat k).toInt64 &&& 63)) + ((1 : Int64) <<< ((Int32.ofNat j).toInt64 &&& 63))).toInt32 := by decide +kernel
theorem bit3 : ∀ i < 32, ∀ j < i, ∀ k < j, ((((0 : Int32) ||| ((1 : Int32) <<< (Int32.ofNat k &&& 31))) ||| ((1 : Int32) <<< (Int32.ofNat j &&& 31))) ||| ((1 : Int32) <<< (Int32.ofNat i &&& 31))) = ((((1 : Int64) <<< ((Int32.ofNat k).toInt64 &&& 63)) + ((1 : Int64) <<< ((Int32.ofNat j).toInt64 &&& 63))) + ((1 : Int64) <<< ((Int32.ofNat i).toInt64 &&& 63))).toInt32 := by decide +kernel
theorem law1 {a : Int32} (h0 : 0 ≤ a.toInt) (h1 : ¬ (31 : Int32) < a) : ((0 : Int32) ||| ((1 : Int32) <<< (a &&& 31))) = ((1 : Int64) <<< (a.toInt64 &&& 63)).toInt32 := by
  obtain ⟨k, hk, rfl, -⟩ := of_rng h0 h1; exact bit1 k hk
theorem law2 {a b : Int32} (h0 : 0 ≤ a.toInt) (h : a.toInt < b.toInt) (h1 : ¬ (31 : Int32) < b) (g0 : 0 ≤ b.toInt) (g1 : ¬ (31 : Int32) < a) : (((0 : Int32) ||| ((1 : Int32) <<< (a &&& 31))) ||| ((1 : Int32) <<< (b &&& 31))) = (((1 : Int64) <<< (a.toInt64 &&& 63)) + ((1 : Int64) <<< (b.toInt64 &&& 63))).toInt32 := by
  obtain ⟨k, hk, rfl, e1⟩ := of_rng h0 g1; obtain ⟨j, hj, rfl, e2⟩ := of_rng g0 h1; exact bit2 j hj k (by omega)
theorem law3 {a b c : Int32} (h0 : 0 ≤ a.toInt) (h : a.toInt < b.toInt) (h1 : ¬ (31 : Int32) < b) (g0 : 0 ≤ b.toInt) (g1 : ¬ (31 : Int32) < a) (h' : b.toInt < c.toInt) (f0 : 0 ≤ c.toInt) (f1 : ¬ (31 : Int32) < c) : ((((0 : Int32) ||| ((1 : Int32) <<< (a &&& 31))) ||| ((1 : Int32) <<< (b &&& 31))) ||| ((1 : Int32) <<< (c &&& 31))) = ((((1 : Int64) <<< (a.toInt64 &&& 63)) + ((1 : Int64) <<< (b.toInt64 &&& 63))) + ((1 : Int64) <<< (c.toInt64 &&& 63))).toInt32 := by
  obtain ⟨k, hk, rfl, e1⟩ := of_rng h0 g1; obtain ⟨j, hj, rfl, e2⟩ := of_rng g0 h1; obtain ⟨i, hi, rfl, e3⟩ := of_rng f0 f1; exact bit3 i hi j (by omega) k (by omega)
theorem Crd.one : Crd 4607182418800017408 := ⟨by unfold NoNaN64; decide, by decide +kernel⟩
theorem Crd.two : Crd 4611686018427387904 := ⟨by unfold NoNaN64; decide, by decide +kernel⟩
theorem Crd.three : Crd 4613937818241073152 := ⟨by unfold NoNaN64; decide, by decide +kernel⟩
def rm_c_min : Room := { frames := 0, cells := 0, slots := 0, locals := 0 }
set_option maxRecDepth 65536 in
set_option maxHeartbeats 40000000 in
theorem c_min (l : Launch) (Z : State) (a0 : Array Value) (hw : ∀ d ∈ tables_1, d.before a0 Z = true) (x y : Int32) (rest : List Ent) :
    OMeets l (⟨"java/lang/Math", "min", "(II)I"⟩ : MethodName) jdk_29_method_69_code 2 (some .int) rm_c_min Z [.int x, .int y] rest (fun v K => v = some (.int (if y < x then y else x)) ∧ rest = K) := by
  refine OMeets.of_body (Jvm.Free.JP.mathPlain rfl (by decide +kernel)) #[.val (.int x), .val (.int y)] (fun m => by first | (simp [entryFrame, mkF, argsToLocals, Value.category]; done) | rfl) fun pP eE sS mM bB hH cC T N => ?_
  refine k_iload_n (pc := 0) N d1_0 rfl ?_
  refine k_iload_n (pc := 1) N d1_1 rfl ?_
  refine k_icmp_gt (pc := 2) N d1_2 (pc' := 9) (by decide) (fun c2 => ?_) (fun c2 => ?_)
  · refine k_iload_n (pc := 9) N d1_9 rfl ?_
    exact k_ireturn (pc := 10) N d1_10 rfl (by decide) (by decide) ⟨by simp [c2], rfl⟩
  · refine k_iload_n (pc := 5) N d1_5 rfl ?_
    refine k_goto (pc := 6) N d1_6 (pc' := 10) (by decide) ?_
    exact k_ireturn (pc := 10) N d1_10 rfl (by decide) (by decide) ⟨by simp [c2], rfl⟩
def rm_c_bits1 : Room := { frames := 0, cells := 0, slots := 0, locals := 0 }
set_option maxRecDepth 65536 in
set_option maxHeartbeats 40000000 in
theorem c_bits1 (l : Launch) (Z : State) (a0 : Array Value) (hw : ∀ d ∈ tables_1, d.before a0 Z = true) (a lv b xa ya : Addr) (pl ac0 : Int32) (t : Int64) (kI : ClassId) (i0 : Int32) (rest : List Ent) :
    OMeets l (⟨"com/example/tapflow/tapflow/MotionEvent", "getPointerIdBits", "()I"⟩ : MethodName) prog_5_method_19_code 6 (some .int) rm_c_bits1 Z [.ref a] ((oMe Z a (.ref lv) (.int pl) (.long t) (.ref b) (.ref xa) (.ref ya) (.int ac0)) :: (oArr Z b kI .int [.int i0]) :: rest) (fun v K => v = some (.int ((0 : Int32) ||| ((1 : Int32) <<< (i0 &&& 31)))) ∧ K = (oMe Z a (.ref lv) (.int pl) (.long t) (.ref b) (.ref xa) (.ref ya) (.int ac0)) :: (oArr Z b kI .int [.int i0]) :: rest) := by
  refine OMeets.of_body (plainFor_of_name pn_com_example_tapflow_tapflow_MotionEvent) #[.val (.ref a), .unset, .unset, .unset, .unset, .unset] (fun m => by first | (simp [entryFrame, mkF, argsToLocals, Value.category]; done) | rfl) fun pP eE sS mM bB hH cC T N => ?_
  refine k_iconst (pc := 0) N d10_0 (v := (0 : Int32)) (by decide) ?_
  refine k_istore_n (pc := 1) N d10_1 (Ls' := #[.val (.ref a), .val (.int (0 : Int32)), .unset, .unset, .unset, .unset]) rfl ?_
  refine k_aload_n (pc := 2) N d10_2 rfl rfl ?_
  refine k_get (pc := 3) (host := "") N 0 3 d10_3 (Or.inl (hw _ (List.mem_of_getElem? (i := 42) rfl))) Via.refl rfl rfl fun T N => ?_
  refine k_astore_n (pc := 6) N d10_6 rfl (Ls' := #[.val (.ref a), .val (.int (0 : Int32)), .val (.ref b), .unset, .unset, .unset]) rfl ?_
  refine k_aload_n (pc := 7) N d10_7 rfl rfl ?_
  refine k_arraylength (pc := 8) N 1 d10_8 rfl (z := (1 : Int32)) rfl ?_
  refine k_istore_n (pc := 9) N d10_9 (Ls' := #[.val (.ref a), .val (.int (0 : Int32)), .val (.ref b), .val (.int (1 : Int32)), .unset, .unset]) rfl ?_
  refine k_iconst (pc := 10) N d10_10 (v := (0 : Int32)) (by decide) ?_
  refine k_istore (pc := 11) N d10_11 (Ls' := #[.val (.ref a), .val (.int (0 : Int32)), .val (.ref b), .val (.int (1 : Int32)), .val (.int (0 : Int32)), .unset]) rfl ?_
  refine k_iload (pc := 13) N d10_13 rfl ?_
  refine k_iload_n (pc := 15) N d10_15 rfl ?_
  refine k_icmp_ge (pc := 16) N d10_16 (pc' := 38) (by decide) (fun qQ => absurd qQ (by decide)) (fun _ => ?_)
  refine k_aload_n (pc := 19) N d10_19 rfl rfl ?_
  refine k_iload (pc := 20) N d10_20 rfl ?_
  refine k_iaload (pc := 22) N 1 0 d10_22 rfl (by decide) (by decide) (v := .int i0) rfl ?_
  refine k_istore (pc := 23) N d10_23 (Ls' := #[.val (.ref a), .val (.int (0 : Int32)), .val (.ref b), .val (.int (1 : Int32)), .val (.int (0 : Int32)), .val (.int i0)]) rfl ?_
  refine k_iload_n (pc := 25) N d10_25 rfl ?_
  refine k_iconst (pc := 26) N d10_26 (v := (1 : Int32)) (by decide) ?_
  refine k_iload (pc := 27) N d10_27 rfl ?_
  refine k_ishl (pc := 29) N d10_29 ?_
  refine k_ior (pc := 30) N d10_30 ?_
  refine k_istore_n (pc := 31) N d10_31 (Ls' := #[.val (.ref a), .val (.int ((0 : Int32) ||| ((1 : Int32) <<< (i0 &&& 31)))), .val (.ref b), .val (.int (1 : Int32)), .val (.int (0 : Int32)), .val (.int i0)]) rfl ?_
  refine k_iinc (pc := 32) N d10_32 rfl (v := (1 : Int32)) (by decide) (Ls' := #[.val (.ref a), .val (.int ((0 : Int32) ||| ((1 : Int32) <<< (i0 &&& 31)))), .val (.ref b), .val (.int (1 : Int32)), .val (.int (1 : Int32)), .val (.int i0)]) rfl ?_
  refine k_goto (pc := 35) N d10_35 (pc' := 13) (by decide) ?_
  refine k_iload (pc := 13) N d10_13 rfl ?_
  refine k_iload_n (pc := 15) N d10_15 rfl ?_
  refine k_icmp_ge (pc := 16) N d10_16 (pc' := 38) (by decide) (fun _ => ?_) (fun qQ => absurd qQ (by decide))
  refine k_iload_n (pc := 38) N d10_38 rfl ?_
  exact k_ireturn (pc := 39) N d10_39 rfl (by decide) (by decide) ⟨rfl, rfl⟩
def rm_c_bits2 : Room := { frames := 0, cells := 0, slots := 0, locals := 0 }
set_option maxRecDepth 65536 in
set_option maxHeartbeats 40000000 in
theorem c_bits2 (l : Launch) (Z : State) (a0 : Array Value) (hw : ∀ d ∈ tables_1, d.before a0 Z = true) (a lv b xa ya : Addr) (pl ac0 : Int32) (t : Int64) (kI : ClassId) (i0 i1 : Int32) (rest : List Ent) :
    OMeets l (⟨"com/example/tapflow/tapflow/MotionEvent", "getPointerIdBits", "()I"⟩ : MethodName) prog_5_method_19_code 6 (some .int) rm_c_bits2 Z [.ref a] ((oMe Z a (.ref lv) (.int pl) (.long t) (.ref b) (.ref xa) (.ref ya) (.int ac0)) :: (oArr Z b kI .int [.int i0, .int i1]) :: rest) (fun v K => v = some (.int (((0 : Int32) ||| ((1 : Int32) <<< (i0 &&& 31))) ||| ((1 : Int32) <<< (i1 &&& 31)))) ∧ K = (oMe Z a (.ref lv) (.int pl) (.long t) (.ref b) (.ref xa) (.ref ya) (.int ac0)) :: (oArr Z b kI .int [.int i0, .int i1]) :: rest) := by
  refine OMeets.of_body (plainFor_of_name pn_com_example_tapflow_tapflow_MotionEvent) #[.val (.ref a), .unset, .unset, .unset, .unset, .unset] (fun m => by first | (simp [entryFrame, mkF, argsToLocals, Value.category]; done) | rfl) fun pP eE sS mM bB hH cC T N => ?_
  refine k_iconst (pc := 0) N d10_0 (v := (0 : Int32)) (by decide) ?_
  refine k_istore_n (pc := 1) N d10_1 (Ls' := #[.val (.ref a), .val (.int (0 : Int32)), .unset, .unset, .unset, .unset]) rfl ?_
  refine k_aload_n (pc := 2) N d10_2 rfl rfl ?_
  refine k_get (pc := 3) (host := "") N 0 3 d10_3 (Or.inl (hw _ (List.mem_of_getElem? (i := 42) rfl))) Via.refl rfl rfl fun T N => ?_
  refine k_astore_n (pc := 6) N d10_6 rfl (Ls' := #[.val (.ref a), .val (.int (0 : Int32)), .val (.ref b), .unset, .unset, .unset]) rfl ?_
  refine k_aload_n (pc := 7) N d10_7 rfl rfl ?_
  refine k_arraylength (pc := 8) N 1 d10_8 rfl (z := (2 : Int32)) rfl ?_
  refine k_istore_n (pc := 9) N d10_9 (Ls' := #[.val (.ref a), .val (.int (0 : Int32)), .val (.ref b), .val (.int (2 : Int32)), .unset, .unset]) rfl ?_
  refine k_iconst (pc := 10) N d10_10 (v := (0 : Int32)) (by decide) ?_
  refine k_istore (pc := 11) N d10_11 (Ls' := #[.val (.ref a), .val (.int (0 : Int32)), .val (.ref b), .val (.int (2 : Int32)), .val (.int (0 : Int32)), .unset]) rfl ?_
  refine k_iload (pc := 13) N d10_13 rfl ?_
  refine k_iload_n (pc := 15) N d10_15 rfl ?_
  refine k_icmp_ge (pc := 16) N d10_16 (pc' := 38) (by decide) (fun qQ => absurd qQ (by decide)) (fun _ => ?_)
  refine k_aload_n (pc := 19) N d10_19 rfl rfl ?_
  refine k_iload (pc := 20) N d10_20 rfl ?_
  refine k_iaload (pc := 22) N 1 0 d10_22 rfl (by decide) (by decide) (v := .int i0) rfl ?_
  refine k_istore (pc := 23) N d10_23 (Ls' := #[.val (.ref a), .val (.int (0 : Int32)), .val (.ref b), .val (.int (2 : Int32)), .val (.int (0 : Int32)), .val (.int i0)]) rfl ?_
  refine k_iload_n (pc := 25) N d10_25 rfl ?_
  refine k_iconst (pc := 26) N d10_26 (v := (1 : Int32)) (by decide) ?_
  refine k_iload (pc := 27) N d10_27 rfl ?_
  refine k_ishl (pc := 29) N d10_29 ?_
  refine k_ior (pc := 30) N d10_30 ?_
  refine k_istore_n (pc := 31) N d10_31 (Ls' := #[.val (.ref a), .val (.int ((0 : Int32) ||| ((1 : Int32) <<< (i0 &&& 31)))), .val (.ref b), .val (.int (2 : Int32)), .val (.int (0 : Int32)), .val (.int i0)]) rfl ?_
  refine k_iinc (pc := 32) N d10_32 rfl (v := (1 : Int32)) (by decide) (Ls' := #[.val (.ref a), .val (.int ((0 : Int32) ||| ((1 : Int32) <<< (i0 &&& 31)))), .val (.ref b), .val (.int (2 : Int32)), .val (.int (1 : Int32)), .val (.int i0)]) rfl ?_
  refine k_goto (pc := 35) N d10_35 (pc' := 13) (by decide) ?_
  refine k_iload (pc := 13) N d10_13 rfl ?_
  refine k_iload_n (pc := 15) N d10_15 rfl ?_
  refine k_icmp_ge (pc := 16) N d10_16 (pc' := 38) (by decide) (fun qQ => absurd qQ (by decide)) (fun _ => ?_)
  refine k_aload_n (pc := 19) N d10_19 rfl rfl ?_
  refine k_iload (pc := 20) N d10_20 rfl ?_
  refine k_iaload (pc := 22) N 1 1 d10_22 rfl (by decide) (by decide) (v := .int i1) rfl ?_
  refine k_istore (pc := 23) N d10_23 (Ls' := #[.val (.ref a), .val (.int ((0 : Int32) ||| ((1 : Int32) <<< (i0 &&& 31)))), .val (.ref b), .val (.int (2 : Int32)), .val (.int (1 : Int32)), .val (.int i1)]) rfl ?_
  refine k_iload_n (pc := 25) N d10_25 rfl ?_
  refine k_iconst (pc := 26) N d10_26 (v := (1 : Int32)) (by decide) ?_
  refine k_iload (pc := 27) N d10_27 rfl ?_
  refine k_ishl (pc := 29) N d10_29 ?_
  refine k_ior (pc := 30) N d10_30 ?_
  refine k_istore_n (pc := 31) N d10_31 (Ls' := #[.val (.ref a), .val (.int (((0 : Int32) ||| ((1 : Int32) <<< (i0 &&& 31))) ||| ((1 : Int32) <<< (i1 &&& 31)))), .val (.ref b), .val (.int (2 : Int32)), .val (.int (1 : Int32)), .val (.int i1)]) rfl ?_
  refine k_iinc (pc := 32) N d10_32 rfl (v := (2 : Int32)) (by decide) (Ls' := #[.val (.ref a), .val (.int (((0 : Int32) ||| ((1 : Int32) <<< (i0 &&& 31))) ||| ((1 : Int32) <<< (i1 &&& 31)))), .val (.ref b), .val (.int (2 : Int32)), .val (.int (2 : Int32)), .val (.int i1)]) rfl ?_
  refine k_goto (pc := 35) N d10_35 (pc' := 13) (by decide) ?_
  refine k_iload (pc := 13) N d10_13 rfl ?_
  refine k_iload_n (pc := 15) N d10_15 rfl ?_
  refine k_icmp_ge (pc := 16) N d10_16 (pc' := 38) (by decide) (fun _ => ?_) (fun qQ => absurd qQ (by decide))
  refine k_iload_n (pc := 38) N d10_38 rfl ?_
  exact k_ireturn (pc := 39) N d10_39 rfl (by decide) (by decide) ⟨rfl, rfl⟩
def rm_c_bits3 : Room := { frames := 0, cells := 0, slots := 0, locals := 0 }
set_option maxRecDepth 65536 in
set_option maxHeartbeats 40000000 in
theorem c_bits3 (l : Launch) (Z : State) (a0 : Array Value) (hw : ∀ d ∈ tables_1, d.before a0 Z = true) (a lv b xa ya : Addr) (pl ac0 : Int32) (t : Int64) (kI : ClassId) (i0 i1 i2 : Int32) (rest : List Ent) :
    OMeets l (⟨"com/example/tapflow/tapflow/MotionEvent", "getPointerIdBits", "()I"⟩ : MethodName) prog_5_method_19_code 6 (some .int) rm_c_bits3 Z [.ref a] ((oMe Z a (.ref lv) (.int pl) (.long t) (.ref b) (.ref xa) (.ref ya) (.int ac0)) :: (oArr Z b kI .int [.int i0, .int i1, .int i2]) :: rest) (fun v K => v = some (.int ((((0 : Int32) ||| ((1 : Int32) <<< (i0 &&& 31))) ||| ((1 : Int32) <<< (i1 &&& 31))) ||| ((1 : Int32) <<< (i2 &&& 31)))) ∧ K = (oMe Z a (.ref lv) (.int pl) (.long t) (.ref b) (.ref xa) (.ref ya) (.int ac0)) :: (oArr Z b kI .int [.int i0, .int i1, .int i2]) :: rest) := by
  refine OMeets.of_body (plainFor_of_name pn_com_example_tapflow_tapflow_MotionEvent) #[.val (.ref a), .unset, .unset, .unset, .unset, .unset] (fun m => by first | (simp [entryFrame, mkF, argsToLocals, Value.category]; done) | rfl) fun pP eE sS mM bB hH cC T N => ?_
  refine k_iconst (pc := 0) N d10_0 (v := (0 : Int32)) (by decide) ?_
  refine k_istore_n (pc := 1) N d10_1 (Ls' := #[.val (.ref a), .val (.int (0 : Int32)), .unset, .unset, .unset, .unset]) rfl ?_
  refine k_aload_n (pc := 2) N d10_2 rfl rfl ?_
  refine k_get (pc := 3) (host := "") N 0 3 d10_3 (Or.inl (hw _ (List.mem_of_getElem? (i := 42) rfl))) Via.refl rfl rfl fun T N => ?_
  refine k_astore_n (pc := 6) N d10_6 rfl (Ls' := #[.val (.ref a), .val (.int (0 : Int32)), .val (.ref b), .unset, .unset, .unset]) rfl ?_
  refine k_aload_n (pc := 7) N d10_7 rfl rfl ?_
  refine k_arraylength (pc := 8) N 1 d10_8 rfl (z := (3 : Int32)) rfl ?_
  refine k_istore_n (pc := 9) N d10_9 (Ls' := #[.val (.ref a), .val (.int (0 : Int32)), .val (.ref b), .val (.int (3 : Int32)), .unset, .unset]) rfl ?_
  refine k_iconst (pc := 10) N d10_10 (v := (0 : Int32)) (by decide) ?_
  refine k_istore (pc := 11) N d10_11 (Ls' := #[.val (.ref a), .val (.int (0 : Int32)), .val (.ref b), .val (.int (3 : Int32)), .val (.int (0 : Int32)), .unset]) rfl ?_
  refine k_iload (pc := 13) N d10_13 rfl ?_
  refine k_iload_n (pc := 15) N d10_15 rfl ?_
  refine k_icmp_ge (pc := 16) N d10_16 (pc' := 38) (by decide) (fun qQ => absurd qQ (by decide)) (fun _ => ?_)
  refine k_aload_n (pc := 19) N d10_19 rfl rfl ?_
  refine k_iload (pc := 20) N d10_20 rfl ?_
  refine k_iaload (pc := 22) N 1 0 d10_22 rfl (by decide) (by decide) (v := .int i0) rfl ?_
  refine k_istore (pc := 23) N d10_23 (Ls' := #[.val (.ref a), .val (.int (0 : Int32)), .val (.ref b), .val (.int (3 : Int32)), .val (.int (0 : Int32)), .val (.int i0)]) rfl ?_
  refine k_iload_n (pc := 25) N d10_25 rfl ?_
  refine k_iconst (pc := 26) N d10_26 (v := (1 : Int32)) (by decide) ?_
  refine k_iload (pc := 27) N d10_27 rfl ?_
  refine k_ishl (pc := 29) N d10_29 ?_
  refine k_ior (pc := 30) N d10_30 ?_
  refine k_istore_n (pc := 31) N d10_31 (Ls' := #[.val (.ref a), .val (.int ((0 : Int32) ||| ((1 : Int32) <<< (i0 &&& 31)))), .val (.ref b), .val (.int (3 : Int32)), .val (.int (0 : Int32)), .val (.int i0)]) rfl ?_
  refine k_iinc (pc := 32) N d10_32 rfl (v := (1 : Int32)) (by decide) (Ls' := #[.val (.ref a), .val (.int ((0 : Int32) ||| ((1 : Int32) <<< (i0 &&& 31)))), .val (.ref b), .val (.int (3 : Int32)), .val (.int (1 : Int32)), .val (.int i0)]) rfl ?_
  refine k_goto (pc := 35) N d10_35 (pc' := 13) (by decide) ?_
  refine k_iload (pc := 13) N d10_13 rfl ?_
  refine k_iload_n (pc := 15) N d10_15 rfl ?_
  refine k_icmp_ge (pc := 16) N d10_16 (pc' := 38) (by decide) (fun qQ => absurd qQ (by decide)) (fun _ => ?_)
  refine k_aload_n (pc := 19) N d10_19 rfl rfl ?_
  refine k_iload (pc := 20) N d10_20 rfl ?_
  refine k_iaload (pc := 22) N 1 1 d10_22 rfl (by decide) (by decide) (v := .int i1) rfl ?_
  refine k_istore (pc := 23) N d10_23 (Ls' := #[.val (.ref a), .val (.int ((0 : Int32) ||| ((1 : Int32) <<< (i0 &&& 31)))), .val (.ref b), .val (.int (3 : Int32)), .val (.int (1 : Int32)), .val (.int i1)]) rfl ?_
  refine k_iload_n (pc := 25) N d10_25 rfl ?_
  refine k_iconst (pc := 26) N d10_26 (v := (1 : Int32)) (by decide) ?_
  refine k_iload (pc := 27) N d10_27 rfl ?_
  refine k_ishl (pc := 29) N d10_29 ?_
  refine k_ior (pc := 30) N d10_30 ?_
  refine k_istore_n (pc := 31) N d10_31 (Ls' := #[.val (.ref a), .val (.int (((0 : Int32) ||| ((1 : Int32) <<< (i0 &&& 31))) ||| ((1 : Int32) <<< (i1 &&& 31)))), .val (.ref b), .val (.int (3 : Int32)), .val (.int (1 : Int32)), .val (.int i1)]) rfl ?_
  refine k_iinc (pc := 32) N d10_32 rfl (v := (2 : Int32)) (by decide) (Ls' := #[.val (.ref a), .val (.int (((0 : Int32) ||| ((1 : Int32) <<< (i0 &&& 31))) ||| ((1 : Int32) <<< (i1 &&& 31)))), .val (.ref b), .val (.int (3 : Int32)), .val (.int (2 : Int32)), .val (.int i1)]) rfl ?_
  refine k_goto (pc := 35) N d10_35 (pc' := 13) (by decide) ?_
  refine k_iload (pc := 13) N d10_13 rfl ?_
  refine k_iload_n (pc := 15) N d10_15 rfl ?_
  refine k_icmp_ge (pc := 16) N d10_16 (pc' := 38) (by decide) (fun qQ => absurd qQ (by decide)) (fun _ => ?_)
  refine k_aload_n (pc := 19) N d10_19 rfl rfl ?_
  refine k_iload (pc := 20) N d10_20 rfl ?_
  refine k_iaload (pc := 22) N 1 2 d10_22 rfl (by decide) (by decide) (v := .int i2) rfl ?_
  refine k_istore (pc := 23) N d10_23 (Ls' := #[.val (.ref a), .val (.int (((0 : Int32) ||| ((1 : Int32) <<< (i0 &&& 31))) ||| ((1 : Int32) <<< (i1 &&& 31)))), .val (.ref b), .val (.int (3 : Int32)), .val (.int (2 : Int32)), .val (.int i2)]) rfl ?_
  refine k_iload_n (pc := 25) N d10_25 rfl ?_
  refine k_iconst (pc := 26) N d10_26 (v := (1 : Int32)) (by decide) ?_
  refine k_iload (pc := 27) N d10_27 rfl ?_
  refine k_ishl (pc := 29) N d10_29 ?_
  refine k_ior (pc := 30) N d10_30 ?_
  refine k_istore_n (pc := 31) N d10_31 (Ls' := #[.val (.ref a), .val (.int ((((0 : Int32) ||| ((1 : Int32) <<< (i0 &&& 31))) ||| ((1 : Int32) <<< (i1 &&& 31))) ||| ((1 : Int32) <<< (i2 &&& 31)))), .val (.ref b), .val (.int (3 : Int32)), .val (.int (2 : Int32)), .val (.int i2)]) rfl ?_
  refine k_iinc (pc := 32) N d10_32 rfl (v := (3 : Int32)) (by decide) (Ls' := #[.val (.ref a), .val (.int ((((0 : Int32) ||| ((1 : Int32) <<< (i0 &&& 31))) ||| ((1 : Int32) <<< (i1 &&& 31))) ||| ((1 : Int32) <<< (i2 &&& 31)))), .val (.ref b), .val (.int (3 : Int32)), .val (.int (3 : Int32)), .val (.int i2)]) rfl ?_
  refine k_goto (pc := 35) N d10_35 (pc' := 13) (by decide) ?_
  refine k_iload (pc := 13) N d10_13 rfl ?_
  refine k_iload_n (pc := 15) N d10_15 rfl ?_
  refine k_icmp_ge (pc := 16) N d10_16 (pc' := 38) (by decide) (fun _ => ?_) (fun qQ => absurd qQ (by decide))
  refine k_iload_n (pc := 38) N d10_38 rfl ?_
  exact k_ireturn (pc := 39) N d10_39 rfl (by decide) (by decide) ⟨rfl, rfl⟩
set_option maxRecDepth 65536 in
set_option maxHeartbeats 40000000 in
theorem c_law (l : Launch) (Z : State) (a0 : Array Value) (hw : ∀ d ∈ tables_1, d.before a0 Z = true) (t : Int64) (p1 p2 p3 p4 : Int32) (an sn2 sn0 : Addr) (ac : Cell) (SA : Sta Z Z.heap "com/example/tapflow/tapflow/MotionEvent" "ACTION_NAMES" "[Ljava/lang/String;" (.ref an)) (AA : Arr Z Z.heap an ac (.object "java/lang/String")) (A7 : ac.slots.size = 7) (AE2 : ac.slots[2]? = some (.ref sn2)) (AE0 : ac.slots[0]? = some (.ref sn0)) (lv : Addr) (SL : Sta Z Z.heap "com/example/tapflow/tapflow/MotionEvent" "NO_LEVELS" "[D" (.ref lv)) :
    OMeets l x code maxLocals ret room_1 Z [.int p1, .int p2, .int p3, .int p4, .long t] [] (fun v K => v = some (.int 1)) := by
  refine OMeets.of_body (plainFor_of_name pn_com_example_tapflow_tapflow_MotionEventGetPointerIdBitsPinLaw) #[.val (.int p1), .val (.int p2), .val (.int p3), .val (.int p4), .val (.long t), .second, .unset, .unset, .unset, .unset, .unset, .unset, .unset, .unset, .unset, .unset, .unset] (fun m => by first | (simp [entryFrame, mkF, argsToLocals, Value.category, maxLocals]; done) | rfl) fun pP eE sS mM bB hH cC T N => ?_
  refine k_iload_n (pc := 0) N at_0 rfl ?_
  refine k_bipush (pc := 1) N at_1 (v := (31 : Int32)) (by decide) ?_
  refine k_iand (pc := 3) N at_3 ?_
  generalize hd0 : (p1 &&& (31 : Int32)) = d0
  have z0 : 0 ≤ d0.toInt := by rw [← hd0]; exact (msk _ 31 (by decide) 31 rfl).1
  have t0 : d0.toInt ≤ 31 := by rw [← hd0]; exact (msk _ 31 (by decide) 31 rfl).2
  refine k_istore (pc := 4) N at_4 (Ls' := #[.val (.int p1), .val (.int p2), .val (.int p3), .val (.int p4), .val (.long t), .second, .val (.int d0), .unset, .unset, .unset, .unset, .unset, .unset, .unset, .unset, .unset, .unset]) rfl ?_
  refine k_iload (pc := 6) N at_6 rfl ?_
  refine k_iconst (pc := 8) N at_8 (v := (1 : Int32)) (by decide) ?_
  refine k_iadd (pc := 9) N at_9 ?_
  refine k_iload_n (pc := 10) N at_10 rfl ?_
  refine k_bipush (pc := 11) N at_11 (v := (31 : Int32)) (by decide) ?_
  refine k_iand (pc := 13) N at_13 ?_
  refine k_iadd (pc := 14) N at_14 ?_
  generalize hd1 : ((d0 + (1 : Int32)) + (p2 &&& (31 : Int32))) = d1
  have s1 : d0.toInt < d1.toInt ∧ d1.toInt ≤ 31 + 1 + 31 := by rw [← hd1]; exact step_b ⟨z0, t0⟩ (msk _ 31 (by decide) 31 rfl) (by decide)
  have l1 := s1.1
  have z1 : 0 ≤ d1.toInt := by omega
  refine k_istore (pc := 15) N at_15 (Ls' := #[.val (.int p1), .val (.int p2), .val (.int p3), .val (.int p4), .val (.long t), .second, .val (.int d0), .val (.int d1), .unset, .unset, .unset, .unset, .unset, .unset, .unset, .unset, .unset]) rfl ?_
  refine k_iload (pc := 17) N at_17 rfl ?_
  refine k_iconst (pc := 19) N at_19 (v := (1 : Int32)) (by decide) ?_
  refine k_iadd (pc := 20) N at_20 ?_
  refine k_iload_n (pc := 21) N at_21 rfl ?_
  refine k_bipush (pc := 22) N at_22 (v := (31 : Int32)) (by decide) ?_
  refine k_iand (pc := 24) N at_24 ?_
  refine k_iadd (pc := 25) N at_25 ?_
  generalize hd2 : ((d1 + (1 : Int32)) + (p3 &&& (31 : Int32))) = d2
  have s2 : d1.toInt < d2.toInt ∧ d2.toInt ≤ 63 + 1 + 31 := by rw [← hd2]; exact step_b ⟨z1, by omega⟩ (msk _ 31 (by decide) 31 rfl) (by decide)
  have l2 := s2.1
  have z2 : 0 ≤ d2.toInt := by omega
  refine k_istore (pc := 26) N at_26 (Ls' := #[.val (.int p1), .val (.int p2), .val (.int p3), .val (.int p4), .val (.long t), .second, .val (.int d0), .val (.int d1), .val (.int d2), .unset, .unset, .unset, .unset, .unset, .unset, .unset, .unset]) rfl ?_
  have J1 : ∀ T, ONow pP l eE room_1 sS mM ([.int p1, .int p2, .int p3, .int p4, .long t] : List Value).toArray bB hH cC Z x.cls code maxLocals ret x.name T 0 0 [] → OGo pP eE bB (OPost Z sS (fun v K => v = some (.int 1)) room_1) T (mkF mM 67 #[.val (.int p1), .val (.int p2), .val (.int p3), .val (.int p4), .val (.long t), .second, .val (.int d0), .val (.int d1), .val (.int d2), .val (.int (1 : Int32)), .unset, .unset, .unset, .unset, .unset, .unset, .unset] []) := by
    intro T N
    refine k_iload (pc := 67) N at_67 rfl ?_
    refine k_iconst (pc := 69) N at_69 (v := (1 : Int32)) (by decide) ?_
    refine k_icmp_ne (pc := 70) N at_70 (pc' := 85) (by decide) (fun qQ => absurd qQ (fun z => z rfl)) (fun _ => ?_)
    refine k_iload_n (pc := 73) N at_73 rfl ?_
    refine k_iconst (pc := 74) N at_74 (v := (2 : Int32)) (by decide) ?_
    refine k_ishr (pc := 75) N at_75 ?_
    refine k_iconst (pc := 76) N at_76 (v := (1 : Int32)) (by decide) ?_
    refine k_iand (pc := 77) N at_77 ?_
    refine k_if_eq (pc := 78) N at_78 (pc' := 85) (by decide) (fun c78 => ?_) (fun c78 => ?_)
    · refine k_iconst (pc := 85) N at_85 (v := (2 : Int32)) (by decide) ?_
      refine k_istore (pc := 86) N at_86 (Ls' := #[.val (.int p1), .val (.int p2), .val (.int p3), .val (.int p4), .val (.long t), .second, .val (.int d0), .val (.int d1), .val (.int d2), .val (.int (1 : Int32)), .val (.int (2 : Int32)), .unset, .unset, .unset, .unset, .unset, .unset]) rfl ?_
      refine k_iload (pc := 88) N at_88 rfl ?_
      refine k_iconst (pc := 90) N at_90 (v := (1 : Int32)) (by decide) ?_
      refine k_icmp_ne (pc := 91) N at_91 (pc' := 141) (by decide) (fun qQ => absurd qQ (fun z => z rfl)) (fun _ => ?_)
      refine k_iconst (pc := 94) N at_94 (v := (1 : Int32)) (by decide) ?_
      refine k_newarrayC (pc := 95) N 1 at_95 (ty := .int) rfl (ad := "[I") rfl (hw _ (List.mem_of_getElem? (i := 4) rfl)) (by decide) (by decide) (by decide) (vs := [.int (0 : Int32)]) rfl (by decide) (by decide) fun T a1 a1k hk_a1 N => ?_
      refine k_dup (pc := 97) N at_97 rfl ?_
      refine k_iconst (pc := 98) N at_98 (v := (0 : Int32)) (by decide) ?_
      refine k_iload (pc := 99) N at_99 rfl ?_
      refine k_iastore (pc := 101) N 0 0 at_101 rfl (by decide) (by decide) (Nat.le_of_ble_eq_true rfl) (v := .int d0) rfl (K' := [oArr Z a1 a1k .int [.int d0]]) rfl fun T N => ?_
      refine k_astore (pc := 102) N at_102 rfl (Ls' := #[.val (.int p1), .val (.int p2), .val (.int p3), .val (.int p4), .val (.long t), .second, .val (.int d0), .val (.int d1), .val (.int d2), .val (.int (1 : Int32)), .val (.int (2 : Int32)), .val (.ref a1), .unset, .unset, .unset, .unset, .unset]) rfl ?_
      refine k_iconst (pc := 104) N at_104 (v := (1 : Int32)) (by decide) ?_
      refine k_newarrayC (pc := 105) N 1 at_105 (ty := .double) rfl (ad := "[D") rfl (hw _ (List.mem_of_getElem? (i := 5) rfl)) (by decide) (by decide) (by decide) (vs := [.double (0 : UInt64)]) rfl (by decide) (by decide) fun T a2 a2k hk_a2 N => ?_
      refine k_dup (pc := 107) N at_107 rfl ?_
      refine k_iconst (pc := 108) N at_108 (v := (0 : Int32)) (by decide) ?_
      refine k_iload_n (pc := 109) N at_109 rfl ?_
      refine k_sipush (pc := 110) N at_110 (v := (255 : Int32)) (by decide) ?_
      refine k_iand (pc := 113) N at_113 ?_
      refine k_i2d (pc := 114) N at_114 ?_
      refine k_dastore (pc := 115) N 0 0 at_115 rfl (by decide) (by decide) (Nat.le_of_ble_eq_true rfl) (v := .double (FP.i2d (p2 &&& (255 : Int32)))) rfl (K' := [oArr Z a2 a2k .double [.double (FP.i2d (p2 &&& (255 : Int32)))], oArr Z a1 a1k .int [.int d0]]) rfl fun T N => ?_
      refine k_astore (pc := 116) N at_116 rfl (Ls' := #[.val (.int p1), .val (.int p2), .val (.int p3), .val (.int p4), .val (.long t), .second, .val (.int d0), .val (.int d1), .val (.int d2), .val (.int (1 : Int32)), .val (.int (2 : Int32)), .val (.ref a1), .val (.ref a2), .unset, .unset, .unset, .unset]) rfl ?_
      refine k_iconst (pc := 118) N at_118 (v := (1 : Int32)) (by decide) ?_
      refine k_newarrayC (pc := 119) N 1 at_119 (ty := .double) rfl (ad := "[D") rfl (hw _ (List.mem_of_getElem? (i := 5) rfl)) (by decide) (by decide) (by decide) (vs := [.double (0 : UInt64)]) rfl (by decide) (by decide) fun T a3 a3k hk_a3 N => ?_
      refine k_dup (pc := 121) N at_121 rfl ?_
      refine k_iconst (pc := 122) N at_122 (v := (0 : Int32)) (by decide) ?_
      refine k_iload_n (pc := 123) N at_123 rfl ?_
      refine k_sipush (pc := 124) N at_124 (v := (255 : Int32)) (by decide) ?_
      refine k_iand (pc := 127) N at_127 ?_
      refine k_i2d (pc := 128) N at_128 ?_
      refine k_dastore (pc := 129) N 0 0 at_129 rfl (by decide) (by decide) (Nat.le_of_ble_eq_true rfl) (v := .double (FP.i2d (p3 &&& (255 : Int32)))) rfl (K' := [oArr Z a3 a3k .double [.double (FP.i2d (p3 &&& (255 : Int32)))], oArr Z a2 a2k .double [.double (FP.i2d (p2 &&& (255 : Int32)))], oArr Z a1 a1k .int [.int d0]]) rfl fun T N => ?_
      refine k_astore (pc := 130) N at_130 rfl (Ls' := #[.val (.int p1), .val (.int p2), .val (.int p3), .val (.int p4), .val (.long t), .second, .val (.int d0), .val (.int d1), .val (.int d2), .val (.int (1 : Int32)), .val (.int (2 : Int32)), .val (.ref a1), .val (.ref a2), .val (.ref a3), .unset, .unset, .unset]) rfl ?_
      refine k_lconst (pc := 132) N at_132 (v := (1 : Int64)) (by decide) ?_
      refine k_iload (pc := 133) N at_133 rfl ?_
      refine k_lshl (pc := 135) N at_135 ?_
      refine k_lstore (pc := 136) N at_136 (Ls' := #[.val (.int p1), .val (.int p2), .val (.int p3), .val (.int p4), .val (.long t), .second, .val (.int d0), .val (.int d1), .val (.int d2), .val (.int (1 : Int32)), .val (.int (2 : Int32)), .val (.ref a1), .val (.ref a2), .val (.ref a3), .val (.long ((1 : Int64) <<< (d0.toInt64 &&& 63))), .second, .unset]) rfl ?_
      refine k_goto (pc := 138) N at_138 (pc' := 296) (by decide) ?_
      refine k_new (pc := 296) N at_296 (hw _ (List.mem_of_getElem? (i := 6) rfl)) (hw _ (List.mem_of_getElem? (i := 7) rfl)) (hw _ (List.mem_of_getElem? (i := 8) rfl)) (fs := [("com/example/tapflow/tapflow/MotionEvent", "levels", "[D", .null), ("com/example/tapflow/tapflow/MotionEvent", "placedAt", "I", .int (0 : Int32)), ("com/example/tapflow/tapflow/MotionEvent", "eventTimeNanos", "J", .long (0 : Int64)), ("com/example/tapflow/tapflow/MotionEvent", "pointerIds", "[I", .null), ("com/example/tapflow/tapflow/MotionEvent", "xs", "[D", .null), ("com/example/tapflow/tapflow/MotionEvent", "ys", "[D", .null), ("com/example/tapflow/tapflow/MotionEvent", "action", "I", .int (0 : Int32))]) ⟨⟨Or.inl (hw _ (List.mem_of_getElem? (i := 18) rfl)), (.array .double), by decide, rfl⟩, ⟨Or.inl (hw _ (List.mem_of_getElem? (i := 20) rfl)), .int, by decide, rfl⟩, ⟨Or.inl (hw _ (List.mem_of_getElem? (i := 32) rfl)), .long, by decide, rfl⟩, ⟨Or.inr (hw _ (List.mem_of_getElem? (i := 43) rfl)), (.array .int), by decide, rfl⟩, ⟨Or.inr (hw _ (List.mem_of_getElem? (i := 51) rfl)), (.array .double), by decide, rfl⟩, ⟨Or.inr (hw _ (List.mem_of_getElem? (i := 53) rfl)), (.array .double), by decide, rfl⟩, ⟨Or.inl (hw _ (List.mem_of_getElem? (i := 70) rfl)), .int, by decide, rfl⟩, trivial⟩ (by decide) (by decide) (by decide) fun T a4 N => ?_
      refine k_dup (pc := 299) N at_299 rfl ?_
      refine k_lload (pc := 300) N at_300 rfl ?_
      refine k_iload (pc := 302) N at_302 rfl ?_
      refine k_aload (pc := 304) N at_304 rfl rfl ?_
      refine k_aload (pc := 306) N at_306 rfl rfl ?_
      refine k_aload (pc := 308) N at_308 rfl rfl ?_
      obtain rfl : a2k = a3k := Option.some.inj (hk_a2.symm.trans hk_a3)
      replace N := ONow.sel (F := [oMe Z a4 .null (.int (0 : Int32)) (.long (0 : Int64)) .null .null .null (.int (0 : Int32)), oArr Z a3 a2k .double [.double (FP.i2d (p3 &&& (255 : Int32)))], oArr Z a2 a2k .double [.double (FP.i2d (p2 &&& (255 : Int32)))], oArr Z a1 a1k .int [.int d0]]) (F' := [oMe Z a4 .null (.int (0 : Int32)) (.long (0 : Int64)) .null .null .null (.int (0 : Int32)), oArr Z a1 a1k .int [.int d0], oArr Z a2 a2k .double [.double (FP.i2d (p2 &&& (255 : Int32)))], oArr Z a3 a2k .double [.double (FP.i2d (p3 &&& (255 : Int32)))]]) (rest := []) N [0, 3, 2, 1] (by decide) rfl
      simp only [List.append_nil] at N
      refine k_special (pc := 310) N (y := (⟨"com/example/tapflow/tapflow/MotionEvent", "<init>", "(JI[I[D[D)V"⟩ : MethodName)) (rest := [.ref a4]) [.long t, .int (2 : Int32), .ref a1, .ref a2, .ref a3] (a := a4) at_310 rfl (hw _ (List.mem_of_getElem? (i := 9) rfl)) (hw _ (List.mem_of_getElem? (i := 10) rfl)) (hw _ (List.mem_of_getElem? (i := 8) rfl)) (hw _ (List.mem_of_getElem? (i := 11) rfl)) (by decide) pd__JI_I_D_D_V rfl (c_init2_1 l Z a0 hw an sn2 ac SA AA A7 AE2 lv SL a4 a1 a2 a3 t a1k a2k hk_a1 hk_a2 d0 (FP.i2d (p2 &&& (255 : Int32))) (FP.i2d (p3 &&& (255 : Int32))) (nlt z0) (n31 t0)  (Crd.i _) (Crd.i _) []) rfl rfl 1 rfl (by decide) (by decide) (cells' := 7) rfl (slots' := 22) rfl (by decide) (by decide) fun T vV K' N qQ => ?_
      obtain ⟨nb, nx, ny, rfl, rfl⟩ := qQ
      refine k_astore (pc := 313) N at_313 rfl (Ls' := #[.val (.int p1), .val (.int p2), .val (.int p3), .val (.int p4), .val (.long t), .second, .val (.int d0), .val (.int d1), .val (.int d2), .val (.int (1 : Int32)), .val (.int (2 : Int32)), .val (.ref a1), .val (.ref a2), .val (.ref a3), .val (.long ((1 : Int64) <<< (d0.toInt64 &&& 63))), .second, .val (.ref a4)]) rfl ?_
      refine k_aload (pc := 315) N at_315 rfl rfl ?_
      refine k_virtual (pc := 317) N (y := (⟨"com/example/tapflow/tapflow/MotionEvent", "getPointerIdBits", "()I"⟩ : MethodName)) (z := (⟨"com/example/tapflow/tapflow/MotionEvent", "getPointerIdBits", "()I"⟩ : MethodName)) (rest := []) [] (a := a4) at_317 (fun h N => N.exa (i := 0) rfl) (hw _ (List.mem_of_getElem? (i := 71) rfl)) (hw _ (List.mem_of_getElem? (i := 72) rfl)) (nf_self (hw _ (List.mem_of_getElem? (i := 74) rfl))) (hw _ (List.mem_of_getElem? (i := 74) rfl)) (hw _ (List.mem_of_getElem? (i := 73) rfl)) (hw _ (List.mem_of_getElem? (i := 8) rfl)) (hw _ (List.mem_of_getElem? (i := 75) rfl)) (by decide) pd___I rfl (c_bits1 l Z a0 hw a4 lv nb nx ny (-1 : Int32) (2 : Int32) t a1k d0 [oArr Z ny a2k .double [.double (FP.i2d (p3 &&& (255 : Int32)))], oArr Z nx a2k .double [.double (FP.i2d (p2 &&& (255 : Int32)))], oArr Z a1 a1k .int [.int d0], oArr Z a2 a2k .double [.double (FP.i2d (p2 &&& (255 : Int32)))], oArr Z a3 a2k .double [.double (FP.i2d (p3 &&& (255 : Int32)))]]) rfl rfl 0 rfl (by decide) (by decide) (cells' := 7) rfl (slots' := 22) rfl (by decide) (by decide) fun T vV K' N qQ => ?_
      obtain ⟨rfl, rfl⟩ := qQ
      refine k_lload (pc := 320) N at_320 rfl ?_
      refine k_l2i (pc := 322) N at_322 ?_
      refine k_icmp_ne (pc := 323) N at_323 (pc' := 330) (by decide) (fun qQ => absurd qQ (fun z => z (law1 z0 (n31 t0)))) (fun _ => ?_)
      refine k_iconst (pc := 326) N at_326 (v := (1 : Int32)) (by decide) ?_
      refine k_goto (pc := 327) N at_327 (pc' := 331) (by decide) ?_
      exact k_zreturn (pc := 331) N at_331 rfl (by decide) (by decide) rfl
    · refine k_iconst (pc := 81) N at_81 (v := (0 : Int32)) (by decide) ?_
      refine k_goto (pc := 82) N at_82 (pc' := 86) (by decide) ?_
      refine k_istore (pc := 86) N at_86 (Ls' := #[.val (.int p1), .val (.int p2), .val (.int p3), .val (.int p4), .val (.long t), .second, .val (.int d0), .val (.int d1), .val (.int d2), .val (.int (1 : Int32)), .val (.int (0 : Int32)), .unset, .unset, .unset, .unset, .unset, .unset]) rfl ?_
      refine k_iload (pc := 88) N at_88 rfl ?_
      refine k_iconst (pc := 90) N at_90 (v := (1 : Int32)) (by decide) ?_
      refine k_icmp_ne (pc := 91) N at_91 (pc' := 141) (by decide) (fun qQ => absurd qQ (fun z => z rfl)) (fun _ => ?_)
      refine k_iconst (pc := 94) N at_94 (v := (1 : Int32)) (by decide) ?_
      refine k_newarrayC (pc := 95) N 1 at_95 (ty := .int) rfl (ad := "[I") rfl (hw _ (List.mem_of_getElem? (i := 4) rfl)) (by decide) (by decide) (by decide) (vs := [.int (0 : Int32)]) rfl (by decide) (by decide) fun T a5 a5k hk_a5 N => ?_
      refine k_dup (pc := 97) N at_97 rfl ?_
      refine k_iconst (pc := 98) N at_98 (v := (0 : Int32)) (by decide) ?_
      refine k_iload (pc := 99) N at_99 rfl ?_
      refine k_iastore (pc := 101) N 0 0 at_101 rfl (by decide) (by decide) (Nat.le_of_ble_eq_true rfl) (v := .int d0) rfl (K' := [oArr Z a5 a5k .int [.int d0]]) rfl fun T N => ?_
      refine k_astore (pc := 102) N at_102 rfl (Ls' := #[.val (.int p1), .val (.int p2), .val (.int p3), .val (.int p4), .val (.long t), .second, .val (.int d0), .val (.int d1), .val (.int d2), .val (.int (1 : Int32)), .val (.int (0 : Int32)), .val (.ref a5), .unset, .unset, .unset, .unset, .unset]) rfl ?_
      refine k_iconst (pc := 104) N at_104 (v := (1 : Int32)) (by decide) ?_
      refine k_newarrayC (pc := 105) N 1 at_105 (ty := .double) rfl (ad := "[D") rfl (hw _ (List.mem_of_getElem? (i := 5) rfl)) (by decide) (by decide) (by decide) (vs := [.double (0 : UInt64)]) rfl (by decide) (by decide) fun T a6 a6k hk_a6 N => ?_
      refine k_dup (pc := 107) N at_107 rfl ?_
      refine k_iconst (pc := 108) N at_108 (v := (0 : Int32)) (by decide) ?_
      refine k_iload_n (pc := 109) N at_109 rfl ?_
      refine k_sipush (pc := 110) N at_110 (v := (255 : Int32)) (by decide) ?_
      refine k_iand (pc := 113) N at_113 ?_
      refine k_i2d (pc := 114) N at_114 ?_
      refine k_dastore (pc := 115) N 0 0 at_115 rfl (by decide) (by decide) (Nat.le_of_ble_eq_true rfl) (v := .double (FP.i2d (p2 &&& (255 : Int32)))) rfl (K' := [oArr Z a6 a6k .double [.double (FP.i2d (p2 &&& (255 : Int32)))], oArr Z a5 a5k .int [.int d0]]) rfl fun T N => ?_
      refine k_astore (pc := 116) N at_116 rfl (Ls' := #[.val (.int p1), .val (.int p2), .val (.int p3), .val (.int p4), .val (.long t), .second, .val (.int d0), .val (.int d1), .val (.int d2), .val (.int (1 : Int32)), .val (.int (0 : Int32)), .val (.ref a5), .val (.ref a6), .unset, .unset, .unset, .unset]) rfl ?_
      refine k_iconst (pc := 118) N at_118 (v := (1 : Int32)) (by decide) ?_
      refine k_newarrayC (pc := 119) N 1 at_119 (ty := .double) rfl (ad := "[D") rfl (hw _ (List.mem_of_getElem? (i := 5) rfl)) (by decide) (by decide) (by decide) (vs := [.double (0 : UInt64)]) rfl (by decide) (by decide) fun T a7 a7k hk_a7 N => ?_
      refine k_dup (pc := 121) N at_121 rfl ?_
      refine k_iconst (pc := 122) N at_122 (v := (0 : Int32)) (by decide) ?_
      refine k_iload_n (pc := 123) N at_123 rfl ?_
      refine k_sipush (pc := 124) N at_124 (v := (255 : Int32)) (by decide) ?_
      refine k_iand (pc := 127) N at_127 ?_
      refine k_i2d (pc := 128) N at_128 ?_
      refine k_dastore (pc := 129) N 0 0 at_129 rfl (by decide) (by decide) (Nat.le_of_ble_eq_true rfl) (v := .double (FP.i2d (p3 &&& (255 : Int32)))) rfl (K' := [oArr Z a7 a7k .double [.double (FP.i2d (p3 &&& (255 : Int32)))], oArr Z a6 a6k .double [.double (FP.i2d (p2 &&& (255 : Int32)))], oArr Z a5 a5k .int [.int d0]]) rfl fun T N => ?_
      refine k_astore (pc := 130) N at_130 rfl (Ls' := #[.val (.int p1), .val (.int p2), .val (.int p3), .val (.int p4), .val (.long t), .second, .val (.int d0), .val (.int d1), .val (.int d2), .val (.int (1 : Int32)), .val (.int (0 : Int32)), .val (.ref a5), .val (.ref a6), .val (.ref a7), .unset, .unset, .unset]) rfl ?_
      refine k_lconst (pc := 132) N at_132 (v := (1 : Int64)) (by decide) ?_
      refine k_iload (pc := 133) N at_133 rfl ?_
      refine k_lshl (pc := 135) N at_135 ?_
      refine k_lstore (pc := 136) N at_136 (Ls' := #[.val (.int p1), .val (.int p2), .val (.int p3), .val (.int p4), .val (.long t), .second, .val (.int d0), .val (.int d1), .val (.int d2), .val (.int (1 : Int32)), .val (.int (0 : Int32)), .val (.ref a5), .val (.ref a6), .val (.ref a7), .val (.long ((1 : Int64) <<< (d0.toInt64 &&& 63))), .second, .unset]) rfl ?_
      refine k_goto (pc := 138) N at_138 (pc' := 296) (by decide) ?_
      refine k_new (pc := 296) N at_296 (hw _ (List.mem_of_getElem? (i := 6) rfl)) (hw _ (List.mem_of_getElem? (i := 7) rfl)) (hw _ (List.mem_of_getElem? (i := 8) rfl)) (fs := [("com/example/tapflow/tapflow/MotionEvent", "levels", "[D", .null), ("com/example/tapflow/tapflow/MotionEvent", "placedAt", "I", .int (0 : Int32)), ("com/example/tapflow/tapflow/MotionEvent", "eventTimeNanos", "J", .long (0 : Int64)), ("com/example/tapflow/tapflow/MotionEvent", "pointerIds", "[I", .null), ("com/example/tapflow/tapflow/MotionEvent", "xs", "[D", .null), ("com/example/tapflow/tapflow/MotionEvent", "ys", "[D", .null), ("com/example/tapflow/tapflow/MotionEvent", "action", "I", .int (0 : Int32))]) ⟨⟨Or.inl (hw _ (List.mem_of_getElem? (i := 18) rfl)), (.array .double), by decide, rfl⟩, ⟨Or.inl (hw _ (List.mem_of_getElem? (i := 20) rfl)), .int, by decide, rfl⟩, ⟨Or.inl (hw _ (List.mem_of_getElem? (i := 32) rfl)), .long, by decide, rfl⟩, ⟨Or.inr (hw _ (List.mem_of_getElem? (i := 43) rfl)), (.array .int), by decide, rfl⟩, ⟨Or.inr (hw _ (List.mem_of_getElem? (i := 51) rfl)), (.array .double), by decide, rfl⟩, ⟨Or.inr (hw _ (List.mem_of_getElem? (i := 53) rfl)), (.array .double), by decide, rfl⟩, ⟨Or.inl (hw _ (List.mem_of_getElem? (i := 70) rfl)), .int, by decide, rfl⟩, trivial⟩ (by decide) (by decide) (by decide) fun T a8 N => ?_
      refine k_dup (pc := 299) N at_299 rfl ?_
      refine k_lload (pc := 300) N at_300 rfl ?_
      refine k_iload (pc := 302) N at_302 rfl ?_
      refine k_aload (pc := 304) N at_304 rfl rfl ?_
      refine k_aload (pc := 306) N at_306 rfl rfl ?_
      refine k_aload (pc := 308) N at_308 rfl rfl ?_
      obtain rfl : a6k = a7k := Option.some.inj (hk_a6.symm.trans hk_a7)
      replace N := ONow.sel (F := [oMe Z a8 .null (.int (0 : Int32)) (.long (0 : Int64)) .null .null .null (.int (0 : Int32)), oArr Z a7 a6k .double [.double (FP.i2d (p3 &&& (255 : Int32)))], oArr Z a6 a6k .double [.double (FP.i2d (p2 &&& (255 : Int32)))], oArr Z a5 a5k .int [.int d0]]) (F' := [oMe Z a8 .null (.int (0 : Int32)) (.long (0 : Int64)) .null .null .null (.int (0 : Int32)), oArr Z a5 a5k .int [.int d0], oArr Z a6 a6k .double [.double (FP.i2d (p2 &&& (255 : Int32)))], oArr Z a7 a6k .double [.double (FP.i2d (p3 &&& (255 : Int32)))]]) (rest := []) N [0, 3, 2, 1] (by decide) rfl
      simp only [List.append_nil] at N
      refine k_special (pc := 310) N (y := (⟨"com/example/tapflow/tapflow/MotionEvent", "<init>", "(JI[I[D[D)V"⟩ : MethodName)) (rest := [.ref a8]) [.long t, .int (0 : Int32), .ref a5, .ref a6, .ref a7] (a := a8) at_310 rfl (hw _ (List.mem_of_getElem? (i := 9) rfl)) (hw _ (List.mem_of_getElem? (i := 10) rfl)) (hw _ (List.mem_of_getElem? (i := 8) rfl)) (hw _ (List.mem_of_getElem? (i := 11) rfl)) (by decide) pd__JI_I_D_D_V rfl (c_init0_1 l Z a0 hw an sn0 ac SA AA A7 AE0 lv SL a8 a5 a6 a7 t a5k a6k hk_a5 hk_a6 d0 (FP.i2d (p2 &&& (255 : Int32))) (FP.i2d (p3 &&& (255 : Int32))) (nlt z0) (n31 t0)  (Crd.i _) (Crd.i _) []) rfl rfl 1 rfl (by decide) (by decide) (cells' := 7) rfl (slots' := 22) rfl (by decide) (by decide) fun T vV K' N qQ => ?_
      obtain ⟨nb, nx, ny, rfl, rfl⟩ := qQ
      refine k_astore (pc := 313) N at_313 rfl (Ls' := #[.val (.int p1), .val (.int p2), .val (.int p3), .val (.int p4), .val (.long t), .second, .val (.int d0), .val (.int d1), .val (.int d2), .val (.int (1 : Int32)), .val (.int (0 : Int32)), .val (.ref a5), .val (.ref a6), .val (.ref a7), .val (.long ((1 : Int64) <<< (d0.toInt64 &&& 63))), .second, .val (.ref a8)]) rfl ?_
      refine k_aload (pc := 315) N at_315 rfl rfl ?_
      refine k_virtual (pc := 317) N (y := (⟨"com/example/tapflow/tapflow/MotionEvent", "getPointerIdBits", "()I"⟩ : MethodName)) (z := (⟨"com/example/tapflow/tapflow/MotionEvent", "getPointerIdBits", "()I"⟩ : MethodName)) (rest := []) [] (a := a8) at_317 (fun h N => N.exa (i := 0) rfl) (hw _ (List.mem_of_getElem? (i := 71) rfl)) (hw _ (List.mem_of_getElem? (i := 72) rfl)) (nf_self (hw _ (List.mem_of_getElem? (i := 74) rfl))) (hw _ (List.mem_of_getElem? (i := 74) rfl)) (hw _ (List.mem_of_getElem? (i := 73) rfl)) (hw _ (List.mem_of_getElem? (i := 8) rfl)) (hw _ (List.mem_of_getElem? (i := 75) rfl)) (by decide) pd___I rfl (c_bits1 l Z a0 hw a8 lv nb nx ny (-1 : Int32) (0 : Int32) t a5k d0 [oArr Z ny a6k .double [.double (FP.i2d (p3 &&& (255 : Int32)))], oArr Z nx a6k .double [.double (FP.i2d (p2 &&& (255 : Int32)))], oArr Z a5 a5k .int [.int d0], oArr Z a6 a6k .double [.double (FP.i2d (p2 &&& (255 : Int32)))], oArr Z a7 a6k .double [.double (FP.i2d (p3 &&& (255 : Int32)))]]) rfl rfl 0 rfl (by decide) (by decide) (cells' := 7) rfl (slots' := 22) rfl (by decide) (by decide) fun T vV K' N qQ => ?_
      obtain ⟨rfl, rfl⟩ := qQ
      refine k_lload (pc := 320) N at_320 rfl ?_
      refine k_l2i (pc := 322) N at_322 ?_
      refine k_icmp_ne (pc := 323) N at_323 (pc' := 330) (by decide) (fun qQ => absurd qQ (fun z => z (law1 z0 (n31 t0)))) (fun _ => ?_)
      refine k_iconst (pc := 326) N at_326 (v := (1 : Int32)) (by decide) ?_
      refine k_goto (pc := 327) N at_327 (pc' := 331) (by decide) ?_
      exact k_zreturn (pc := 331) N at_331 rfl (by decide) (by decide) rfl
  have J2 : ¬ (31 : Int32) < d1 → ∀ T, ONow pP l eE room_1 sS mM ([.int p1, .int p2, .int p3, .int p4, .long t] : List Value).toArray bB hH cC Z x.cls code maxLocals ret x.name T 0 0 [] → OGo pP eE bB (OPost Z sS (fun v K => v = some (.int 1)) room_1) T (mkF mM 67 #[.val (.int p1), .val (.int p2), .val (.int p3), .val (.int p4), .val (.long t), .second, .val (.int d0), .val (.int d1), .val (.int d2), .val (.int (2 : Int32)), .unset, .unset, .unset, .unset, .unset, .unset, .unset] []) := by
    intro r1 T N
    refine k_iload (pc := 67) N at_67 rfl ?_
    refine k_iconst (pc := 69) N at_69 (v := (1 : Int32)) (by decide) ?_
    refine k_icmp_ne (pc := 70) N at_70 (pc' := 85) (by decide) (fun _ => ?_) (fun qQ => absurd qQ (by decide))
    refine k_iconst (pc := 85) N at_85 (v := (2 : Int32)) (by decide) ?_
    refine k_istore (pc := 86) N at_86 (Ls' := #[.val (.int p1), .val (.int p2), .val (.int p3), .val (.int p4), .val (.long t), .second, .val (.int d0), .val (.int d1), .val (.int d2), .val (.int (2 : Int32)), .val (.int (2 : Int32)), .unset, .unset, .unset, .unset, .unset, .unset]) rfl ?_
    refine k_iload (pc := 88) N at_88 rfl ?_
    refine k_iconst (pc := 90) N at_90 (v := (1 : Int32)) (by decide) ?_
    refine k_icmp_ne (pc := 91) N at_91 (pc' := 141) (by decide) (fun _ => ?_) (fun qQ => absurd qQ (by decide))
    refine k_iload (pc := 141) N at_141 rfl ?_
    refine k_iconst (pc := 143) N at_143 (v := (2 : Int32)) (by decide) ?_
    refine k_icmp_ne (pc := 144) N at_144 (pc' := 212) (by decide) (fun qQ => absurd qQ (fun z => z rfl)) (fun _ => ?_)
    refine k_iconst (pc := 147) N at_147 (v := (2 : Int32)) (by decide) ?_
    refine k_newarrayC (pc := 148) N 2 at_148 (ty := .int) rfl (ad := "[I") rfl (hw _ (List.mem_of_getElem? (i := 4) rfl)) (by decide) (by decide) (by decide) (vs := [.int (0 : Int32), .int (0 : Int32)]) rfl (by decide) (by decide) fun T a9 a9k hk_a9 N => ?_
    refine k_dup (pc := 150) N at_150 rfl ?_
    refine k_iconst (pc := 151) N at_151 (v := (0 : Int32)) (by decide) ?_
    refine k_iload (pc := 152) N at_152 rfl ?_
    refine k_iastore (pc := 154) N 0 0 at_154 rfl (by decide) (by decide) (Nat.le_of_ble_eq_true rfl) (v := .int d0) rfl (K' := [oArr Z a9 a9k .int [.int d0, .int (0 : Int32)]]) rfl fun T N => ?_
    refine k_dup (pc := 155) N at_155 rfl ?_
    refine k_iconst (pc := 156) N at_156 (v := (1 : Int32)) (by decide) ?_
    refine k_iload (pc := 157) N at_157 rfl ?_
    refine k_iastore (pc := 159) N 0 1 at_159 rfl (by decide) (by decide) (Nat.le_of_ble_eq_true rfl) (v := .int d1) rfl (K' := [oArr Z a9 a9k .int [.int d0, .int d1]]) rfl fun T N => ?_
    refine k_astore (pc := 160) N at_160 rfl (Ls' := #[.val (.int p1), .val (.int p2), .val (.int p3), .val (.int p4), .val (.long t), .second, .val (.int d0), .val (.int d1), .val (.int d2), .val (.int (2 : Int32)), .val (.int (2 : Int32)), .val (.ref a9), .unset, .unset, .unset, .unset, .unset]) rfl ?_
    refine k_iconst (pc := 162) N at_162 (v := (2 : Int32)) (by decide) ?_
    refine k_newarrayC (pc := 163) N 2 at_163 (ty := .double) rfl (ad := "[D") rfl (hw _ (List.mem_of_getElem? (i := 5) rfl)) (by decide) (by decide) (by decide) (vs := [.double (0 : UInt64), .double (0 : UInt64)]) rfl (by decide) (by decide) fun T a10 a10k hk_a10 N => ?_
    refine k_dup (pc := 165) N at_165 rfl ?_
    refine k_iconst (pc := 166) N at_166 (v := (0 : Int32)) (by decide) ?_
    refine k_iload_n (pc := 167) N at_167 rfl ?_
    refine k_sipush (pc := 168) N at_168 (v := (255 : Int32)) (by decide) ?_
    refine k_iand (pc := 171) N at_171 ?_
    refine k_i2d (pc := 172) N at_172 ?_
    refine k_dastore (pc := 173) N 0 0 at_173 rfl (by decide) (by decide) (Nat.le_of_ble_eq_true rfl) (v := .double (FP.i2d (p2 &&& (255 : Int32)))) rfl (K' := [oArr Z a10 a10k .double [.double (FP.i2d (p2 &&& (255 : Int32))), .double (0 : UInt64)], oArr Z a9 a9k .int [.int d0, .int d1]]) rfl fun T N => ?_
    refine k_dup (pc := 174) N at_174 rfl ?_
    refine k_iconst (pc := 175) N at_175 (v := (1 : Int32)) (by decide) ?_
    refine k_dconst0 (pc := 176) N at_176 (v := (0 : UInt64)) rfl ?_
    refine k_dastore (pc := 177) N 0 1 at_177 rfl (by decide) (by decide) (Nat.le_of_ble_eq_true rfl) (v := .double (0 : UInt64)) rfl (K' := [oArr Z a10 a10k .double [.double (FP.i2d (p2 &&& (255 : Int32))), .double (0 : UInt64)], oArr Z a9 a9k .int [.int d0, .int d1]]) rfl fun T N => ?_
    refine k_astore (pc := 178) N at_178 rfl (Ls' := #[.val (.int p1), .val (.int p2), .val (.int p3), .val (.int p4), .val (.long t), .second, .val (.int d0), .val (.int d1), .val (.int d2), .val (.int (2 : Int32)), .val (.int (2 : Int32)), .val (.ref a9), .val (.ref a10), .unset, .unset, .unset, .unset]) rfl ?_
    refine k_iconst (pc := 180) N at_180 (v := (2 : Int32)) (by decide) ?_
    refine k_newarrayC (pc := 181) N 2 at_181 (ty := .double) rfl (ad := "[D") rfl (hw _ (List.mem_of_getElem? (i := 5) rfl)) (by decide) (by decide) (by decide) (vs := [.double (0 : UInt64), .double (0 : UInt64)]) rfl (by decide) (by decide) fun T a11 a11k hk_a11 N => ?_
    refine k_dup (pc := 183) N at_183 rfl ?_
    refine k_iconst (pc := 184) N at_184 (v := (0 : Int32)) (by decide) ?_
    refine k_iload_n (pc := 185) N at_185 rfl ?_
    refine k_sipush (pc := 186) N at_186 (v := (255 : Int32)) (by decide) ?_
    refine k_iand (pc := 189) N at_189 ?_
    refine k_i2d (pc := 190) N at_190 ?_
    refine k_dastore (pc := 191) N 0 0 at_191 rfl (by decide) (by decide) (Nat.le_of_ble_eq_true rfl) (v := .double (FP.i2d (p3 &&& (255 : Int32)))) rfl (K' := [oArr Z a11 a11k .double [.double (FP.i2d (p3 &&& (255 : Int32))), .double (0 : UInt64)], oArr Z a10 a10k .double [.double (FP.i2d (p2 &&& (255 : Int32))), .double (0 : UInt64)], oArr Z a9 a9k .int [.int d0, .int d1]]) rfl fun T N => ?_
    refine k_dup (pc := 192) N at_192 rfl ?_
    refine k_iconst (pc := 193) N at_193 (v := (1 : Int32)) (by decide) ?_
    refine k_dconst1 (pc := 194) N at_194 (v := (4607182418800017408 : UInt64)) rfl ?_
    refine k_dastore (pc := 195) N 0 1 at_195 rfl (by decide) (by decide) (Nat.le_of_ble_eq_true rfl) (v := .double (4607182418800017408 : UInt64)) rfl (K' := [oArr Z a11 a11k .double [.double (FP.i2d (p3 &&& (255 : Int32))), .double (4607182418800017408 : UInt64)], oArr Z a10 a10k .double [.double (FP.i2d (p2 &&& (255 : Int32))), .double (0 : UInt64)], oArr Z a9 a9k .int [.int d0, .int d1]]) rfl fun T N => ?_
    refine k_astore (pc := 196) N at_196 rfl (Ls' := #[.val (.int p1), .val (.int p2), .val (.int p3), .val (.int p4), .val (.long t), .second, .val (.int d0), .val (.int d1), .val (.int d2), .val (.int (2 : Int32)), .val (.int (2 : Int32)), .val (.ref a9), .val (.ref a10), .val (.ref a11), .unset, .unset, .unset]) rfl ?_
    refine k_lconst (pc := 198) N at_198 (v := (1 : Int64)) (by decide) ?_
    refine k_iload (pc := 199) N at_199 rfl ?_
    refine k_lshl (pc := 201) N at_201 ?_
    refine k_lconst (pc := 202) N at_202 (v := (1 : Int64)) (by decide) ?_
    refine k_iload (pc := 203) N at_203 rfl ?_
    refine k_lshl (pc := 205) N at_205 ?_
    refine k_ladd (pc := 206) N at_206 ?_
    refine k_lstore (pc := 207) N at_207 (Ls' := #[.val (.int p1), .val (.int p2), .val (.int p3), .val (.int p4), .val (.long t), .second, .val (.int d0), .val (.int d1), .val (.int d2), .val (.int (2 : Int32)), .val (.int (2 : Int32)), .val (.ref a9), .val (.ref a10), .val (.ref a11), .val (.long (((1 : Int64) <<< (d0.toInt64 &&& 63)) + ((1 : Int64) <<< (d1.toInt64 &&& 63)))), .second, .unset]) rfl ?_
    refine k_goto (pc := 209) N at_209 (pc' := 296) (by decide) ?_
    refine k_new (pc := 296) N at_296 (hw _ (List.mem_of_getElem? (i := 6) rfl)) (hw _ (List.mem_of_getElem? (i := 7) rfl)) (hw _ (List.mem_of_getElem? (i := 8) rfl)) (fs := [("com/example/tapflow/tapflow/MotionEvent", "levels", "[D", .null), ("com/example/tapflow/tapflow/MotionEvent", "placedAt", "I", .int (0 : Int32)), ("com/example/tapflow/tapflow/MotionEvent", "eventTimeNanos", "J", .long (0 : Int64)), ("com/example/tapflow/tapflow/MotionEvent", "pointerIds", "[I", .null), ("com/example/tapflow/tapflow/MotionEvent", "xs", "[D", .null), ("com/example/tapflow/tapflow/MotionEvent", "ys", "[D", .null), ("com/example/tapflow/tapflow/MotionEvent", "action", "I", .int (0 : Int32))]) ⟨⟨Or.inl (hw _ (List.mem_of_getElem? (i := 18) rfl)), (.array .double), by decide, rfl⟩, ⟨Or.inl (hw _ (List.mem_of_getElem? (i := 20) rfl)), .int, by decide, rfl⟩, ⟨Or.inl (hw _ (List.mem_of_getElem? (i := 32) rfl)), .long, by decide, rfl⟩, ⟨Or.inr (hw _ (List.mem_of_getElem? (i := 43) rfl)), (.array .int), by decide, rfl⟩, ⟨Or.inr (hw _ (List.mem_of_getElem? (i := 51) rfl)), (.array .double), by decide, rfl⟩, ⟨Or.inr (hw _ (List.mem_of_getElem? (i := 53) rfl)), (.array .double), by decide, rfl⟩, ⟨Or.inl (hw _ (List.mem_of_getElem? (i := 70) rfl)), .int, by decide, rfl⟩, trivial⟩ (by decide) (by decide) (by decide) fun T a12 N => ?_
    refine k_dup (pc := 299) N at_299 rfl ?_
    refine k_lload (pc := 300) N at_300 rfl ?_
    refine k_iload (pc := 302) N at_302 rfl ?_
    refine k_aload (pc := 304) N at_304 rfl rfl ?_
    refine k_aload (pc := 306) N at_306 rfl rfl ?_
    refine k_aload (pc := 308) N at_308 rfl rfl ?_
    obtain rfl : a10k = a11k := Option.some.inj (hk_a10.symm.trans hk_a11)
    replace N := ONow.sel (F := [oMe Z a12 .null (.int (0 : Int32)) (.long (0 : Int64)) .null .null .null (.int (0 : Int32)), oArr Z a11 a10k .double [.double (FP.i2d (p3 &&& (255 : Int32))), .double (4607182418800017408 : UInt64)], oArr Z a10 a10k .double [.double (FP.i2d (p2 &&& (255 : Int32))), .double (0 : UInt64)], oArr Z a9 a9k .int [.int d0, .int d1]]) (F' := [oMe Z a12 .null (.int (0 : Int32)) (.long (0 : Int64)) .null .null .null (.int (0 : Int32)), oArr Z a9 a9k .int [.int d0, .int d1], oArr Z a10 a10k .double [.double (FP.i2d (p2 &&& (255 : Int32))), .double (0 : UInt64)], oArr Z a11 a10k .double [.double (FP.i2d (p3 &&& (255 : Int32))), .double (4607182418800017408 : UInt64)]]) (rest := []) N [0, 3, 2, 1] (by decide) rfl
    simp only [List.append_nil] at N
    refine k_special (pc := 310) N (y := (⟨"com/example/tapflow/tapflow/MotionEvent", "<init>", "(JI[I[D[D)V"⟩ : MethodName)) (rest := [.ref a12]) [.long t, .int (2 : Int32), .ref a9, .ref a10, .ref a11] (a := a12) at_310 rfl (hw _ (List.mem_of_getElem? (i := 9) rfl)) (hw _ (List.mem_of_getElem? (i := 10) rfl)) (hw _ (List.mem_of_getElem? (i := 8) rfl)) (hw _ (List.mem_of_getElem? (i := 11) rfl)) (by decide) pd__JI_I_D_D_V rfl (c_init2_2 l Z a0 hw an sn2 ac SA AA A7 AE2 lv SL a12 a9 a10 a11 t a9k a10k hk_a9 hk_a10 d0 d1 (FP.i2d (p2 &&& (255 : Int32))) (0 : UInt64) (FP.i2d (p3 &&& (255 : Int32))) (4607182418800017408 : UInt64) (nlt z0) (n31 t0) (nlt z1) r1 (Int32.lt_iff_toInt_lt.mpr l1) (Crd.i _) (Crd.i _) Crd.zero Crd.one []) rfl rfl 1 rfl (by decide) (by decide) (cells' := 7) rfl (slots' := 28) rfl (by decide) (by decide) fun T vV K' N qQ => ?_
    obtain ⟨nb, nx, ny, rfl, rfl⟩ := qQ
    refine k_astore (pc := 313) N at_313 rfl (Ls' := #[.val (.int p1), .val (.int p2), .val (.int p3), .val (.int p4), .val (.long t), .second, .val (.int d0), .val (.int d1), .val (.int d2), .val (.int (2 : Int32)), .val (.int (2 : Int32)), .val (.ref a9), .val (.ref a10), .val (.ref a11), .val (.long (((1 : Int64) <<< (d0.toInt64 &&& 63)) + ((1 : Int64) <<< (d1.toInt64 &&& 63)))), .second, .val (.ref a12)]) rfl ?_
    refine k_aload (pc := 315) N at_315 rfl rfl ?_
    refine k_virtual (pc := 317) N (y := (⟨"com/example/tapflow/tapflow/MotionEvent", "getPointerIdBits", "()I"⟩ : MethodName)) (z := (⟨"com/example/tapflow/tapflow/MotionEvent", "getPointerIdBits", "()I"⟩ : MethodName)) (rest := []) [] (a := a12) at_317 (fun h N => N.exa (i := 0) rfl) (hw _ (List.mem_of_getElem? (i := 71) rfl)) (hw _ (List.mem_of_getElem? (i := 72) rfl)) (nf_self (hw _ (List.mem_of_getElem? (i := 74) rfl))) (hw _ (List.mem_of_getElem? (i := 74) rfl)) (hw _ (List.mem_of_getElem? (i := 73) rfl)) (hw _ (List.mem_of_getElem? (i := 8) rfl)) (hw _ (List.mem_of_getElem? (i := 75) rfl)) (by decide) pd___I rfl (c_bits2 l Z a0 hw a12 lv nb nx ny (-1 : Int32) (2 : Int32) t a9k d0 d1 [oArr Z ny a10k .double [.double (FP.i2d (p3 &&& (255 : Int32))), .double (4607182418800017408 : UInt64)], oArr Z nx a10k .double [.double (FP.i2d (p2 &&& (255 : Int32))), .double (0 : UInt64)], oArr Z a9 a9k .int [.int d0, .int d1], oArr Z a10 a10k .double [.double (FP.i2d (p2 &&& (255 : Int32))), .double (0 : UInt64)], oArr Z a11 a10k .double [.double (FP.i2d (p3 &&& (255 : Int32))), .double (4607182418800017408 : UInt64)]]) rfl rfl 0 rfl (by decide) (by decide) (cells' := 7) rfl (slots' := 28) rfl (by decide) (by decide) fun T vV K' N qQ => ?_
    obtain ⟨rfl, rfl⟩ := qQ
    refine k_lload (pc := 320) N at_320 rfl ?_
    refine k_l2i (pc := 322) N at_322 ?_
    refine k_icmp_ne (pc := 323) N at_323 (pc' := 330) (by decide) (fun qQ => absurd qQ (fun z => z (law2 z0 l1 r1 z1 (n31 t0)))) (fun _ => ?_)
    refine k_iconst (pc := 326) N at_326 (v := (1 : Int32)) (by decide) ?_
    refine k_goto (pc := 327) N at_327 (pc' := 331) (by decide) ?_
    exact k_zreturn (pc := 331) N at_331 rfl (by decide) (by decide) rfl
  have J3 : ¬ (31 : Int32) < d1 → ¬ (31 : Int32) < d2 → ∀ T, ONow pP l eE room_1 sS mM ([.int p1, .int p2, .int p3, .int p4, .long t] : List Value).toArray bB hH cC Z x.cls code maxLocals ret x.name T 0 0 [] → OGo pP eE bB (OPost Z sS (fun v K => v = some (.int 1)) room_1) T (mkF mM 67 #[.val (.int p1), .val (.int p2), .val (.int p3), .val (.int p4), .val (.long t), .second, .val (.int d0), .val (.int d1), .val (.int d2), .val (.int (3 : Int32)), .unset, .unset, .unset, .unset, .unset, .unset, .unset] []) := by
    intro r1 r2 T N
    refine k_iload (pc := 67) N at_67 rfl ?_
    refine k_iconst (pc := 69) N at_69 (v := (1 : Int32)) (by decide) ?_
    refine k_icmp_ne (pc := 70) N at_70 (pc' := 85) (by decide) (fun _ => ?_) (fun qQ => absurd qQ (by decide))
    refine k_iconst (pc := 85) N at_85 (v := (2 : Int32)) (by decide) ?_
    refine k_istore (pc := 86) N at_86 (Ls' := #[.val (.int p1), .val (.int p2), .val (.int p3), .val (.int p4), .val (.long t), .second, .val (.int d0), .val (.int d1), .val (.int d2), .val (.int (3 : Int32)), .val (.int (2 : Int32)), .unset, .unset, .unset, .unset, .unset, .unset]) rfl ?_
    refine k_iload (pc := 88) N at_88 rfl ?_
    refine k_iconst (pc := 90) N at_90 (v := (1 : Int32)) (by decide) ?_
    refine k_icmp_ne (pc := 91) N at_91 (pc' := 141) (by decide) (fun _ => ?_) (fun qQ => absurd qQ (by decide))
    refine k_iload (pc := 141) N at_141 rfl ?_
    refine k_iconst (pc := 143) N at_143 (v := (2 : Int32)) (by decide) ?_
    refine k_icmp_ne (pc := 144) N at_144 (pc' := 212) (by decide) (fun _ => ?_) (fun qQ => absurd qQ (by decide))
    refine k_iconst (pc := 212) N at_212 (v := (3 : Int32)) (by decide) ?_
    refine k_newarrayC (pc := 213) N 3 at_213 (ty := .int) rfl (ad := "[I") rfl (hw _ (List.mem_of_getElem? (i := 4) rfl)) (by decide) (by decide) (by decide) (vs := [.int (0 : Int32), .int (0 : Int32), .int (0 : Int32)]) rfl (by decide) (by decide) fun T a13 a13k hk_a13 N => ?_
    refine k_dup (pc := 215) N at_215 rfl ?_
    refine k_iconst (pc := 216) N at_216 (v := (0 : Int32)) (by decide) ?_
    refine k_iload (pc := 217) N at_217 rfl ?_
    refine k_iastore (pc := 219) N 0 0 at_219 rfl (by decide) (by decide) (Nat.le_of_ble_eq_true rfl) (v := .int d0) rfl (K' := [oArr Z a13 a13k .int [.int d0, .int (0 : Int32), .int (0 : Int32)]]) rfl fun T N => ?_
    refine k_dup (pc := 220) N at_220 rfl ?_
    refine k_iconst (pc := 221) N at_221 (v := (1 : Int32)) (by decide) ?_
    refine k_iload (pc := 222) N at_222 rfl ?_
    refine k_iastore (pc := 224) N 0 1 at_224 rfl (by decide) (by decide) (Nat.le_of_ble_eq_true rfl) (v := .int d1) rfl (K' := [oArr Z a13 a13k .int [.int d0, .int d1, .int (0 : Int32)]]) rfl fun T N => ?_
    refine k_dup (pc := 225) N at_225 rfl ?_
    refine k_iconst (pc := 226) N at_226 (v := (2 : Int32)) (by decide) ?_
    refine k_iload (pc := 227) N at_227 rfl ?_
    refine k_iastore (pc := 229) N 0 2 at_229 rfl (by decide) (by decide) (Nat.le_of_ble_eq_true rfl) (v := .int d2) rfl (K' := [oArr Z a13 a13k .int [.int d0, .int d1, .int d2]]) rfl fun T N => ?_
    refine k_astore (pc := 230) N at_230 rfl (Ls' := #[.val (.int p1), .val (.int p2), .val (.int p3), .val (.int p4), .val (.long t), .second, .val (.int d0), .val (.int d1), .val (.int d2), .val (.int (3 : Int32)), .val (.int (2 : Int32)), .val (.ref a13), .unset, .unset, .unset, .unset, .unset]) rfl ?_
    refine k_iconst (pc := 232) N at_232 (v := (3 : Int32)) (by decide) ?_
    refine k_newarrayC (pc := 233) N 3 at_233 (ty := .double) rfl (ad := "[D") rfl (hw _ (List.mem_of_getElem? (i := 5) rfl)) (by decide) (by decide) (by decide) (vs := [.double (0 : UInt64), .double (0 : UInt64), .double (0 : UInt64)]) rfl (by decide) (by decide) fun T a14 a14k hk_a14 N => ?_
    refine k_dup (pc := 235) N at_235 rfl ?_
    refine k_iconst (pc := 236) N at_236 (v := (0 : Int32)) (by decide) ?_
    refine k_iload_n (pc := 237) N at_237 rfl ?_
    refine k_sipush (pc := 238) N at_238 (v := (255 : Int32)) (by decide) ?_
    refine k_iand (pc := 241) N at_241 ?_
    refine k_i2d (pc := 242) N at_242 ?_
    refine k_dastore (pc := 243) N 0 0 at_243 rfl (by decide) (by decide) (Nat.le_of_ble_eq_true rfl) (v := .double (FP.i2d (p2 &&& (255 : Int32)))) rfl (K' := [oArr Z a14 a14k .double [.double (FP.i2d (p2 &&& (255 : Int32))), .double (0 : UInt64), .double (0 : UInt64)], oArr Z a13 a13k .int [.int d0, .int d1, .int d2]]) rfl fun T N => ?_
    refine k_dup (pc := 244) N at_244 rfl ?_
    refine k_iconst (pc := 245) N at_245 (v := (1 : Int32)) (by decide) ?_
    refine k_dconst0 (pc := 246) N at_246 (v := (0 : UInt64)) rfl ?_
    refine k_dastore (pc := 247) N 0 1 at_247 rfl (by decide) (by decide) (Nat.le_of_ble_eq_true rfl) (v := .double (0 : UInt64)) rfl (K' := [oArr Z a14 a14k .double [.double (FP.i2d (p2 &&& (255 : Int32))), .double (0 : UInt64), .double (0 : UInt64)], oArr Z a13 a13k .int [.int d0, .int d1, .int d2]]) rfl fun T N => ?_
    refine k_dup (pc := 248) N at_248 rfl ?_
    refine k_iconst (pc := 249) N at_249 (v := (2 : Int32)) (by decide) ?_
    refine k_ldcD (pc := 250) N at_250 (hw _ (List.mem_of_getElem? (i := 76) rfl)) ?_
    refine k_dastore (pc := 253) N 0 2 at_253 rfl (by decide) (by decide) (Nat.le_of_ble_eq_true rfl) (v := .double (4611686018427387904 : UInt64)) rfl (K' := [oArr Z a14 a14k .double [.double (FP.i2d (p2 &&& (255 : Int32))), .double (0 : UInt64), .double (4611686018427387904 : UInt64)], oArr Z a13 a13k .int [.int d0, .int d1, .int d2]]) rfl fun T N => ?_
    refine k_astore (pc := 254) N at_254 rfl (Ls' := #[.val (.int p1), .val (.int p2), .val (.int p3), .val (.int p4), .val (.long t), .second, .val (.int d0), .val (.int d1), .val (.int d2), .val (.int (3 : Int32)), .val (.int (2 : Int32)), .val (.ref a13), .val (.ref a14), .unset, .unset, .unset, .unset]) rfl ?_
    refine k_iconst (pc := 256) N at_256 (v := (3 : Int32)) (by decide) ?_
    refine k_newarrayC (pc := 257) N 3 at_257 (ty := .double) rfl (ad := "[D") rfl (hw _ (List.mem_of_getElem? (i := 5) rfl)) (by decide) (by decide) (by decide) (vs := [.double (0 : UInt64), .double (0 : UInt64), .double (0 : UInt64)]) rfl (by decide) (by decide) fun T a15 a15k hk_a15 N => ?_
    refine k_dup (pc := 259) N at_259 rfl ?_
    refine k_iconst (pc := 260) N at_260 (v := (0 : Int32)) (by decide) ?_
    refine k_iload_n (pc := 261) N at_261 rfl ?_
    refine k_sipush (pc := 262) N at_262 (v := (255 : Int32)) (by decide) ?_
    refine k_iand (pc := 265) N at_265 ?_
    refine k_i2d (pc := 266) N at_266 ?_
    refine k_dastore (pc := 267) N 0 0 at_267 rfl (by decide) (by decide) (Nat.le_of_ble_eq_true rfl) (v := .double (FP.i2d (p3 &&& (255 : Int32)))) rfl (K' := [oArr Z a15 a15k .double [.double (FP.i2d (p3 &&& (255 : Int32))), .double (0 : UInt64), .double (0 : UInt64)], oArr Z a14 a14k .double [.double (FP.i2d (p2 &&& (255 : Int32))), .double (0 : UInt64), .double (4611686018427387904 : UInt64)], oArr Z a13 a13k .int [.int d0, .int d1, .int d2]]) rfl fun T N => ?_
    refine k_dup (pc := 268) N at_268 rfl ?_
    refine k_iconst (pc := 269) N at_269 (v := (1 : Int32)) (by decide) ?_
    refine k_dconst1 (pc := 270) N at_270 (v := (4607182418800017408 : UInt64)) rfl ?_
    refine k_dastore (pc := 271) N 0 1 at_271 rfl (by decide) (by decide) (Nat.le_of_ble_eq_true rfl) (v := .double (4607182418800017408 : UInt64)) rfl (K' := [oArr Z a15 a15k .double [.double (FP.i2d (p3 &&& (255 : Int32))), .double (4607182418800017408 : UInt64), .double (0 : UInt64)], oArr Z a14 a14k .double [.double (FP.i2d (p2 &&& (255 : Int32))), .double (0 : UInt64), .double (4611686018427387904 : UInt64)], oArr Z a13 a13k .int [.int d0, .int d1, .int d2]]) rfl fun T N => ?_
    refine k_dup (pc := 272) N at_272 rfl ?_
    refine k_iconst (pc := 273) N at_273 (v := (2 : Int32)) (by decide) ?_
    refine k_ldcD (pc := 274) N at_274 (hw _ (List.mem_of_getElem? (i := 77) rfl)) ?_
    refine k_dastore (pc := 277) N 0 2 at_277 rfl (by decide) (by decide) (Nat.le_of_ble_eq_true rfl) (v := .double (4613937818241073152 : UInt64)) rfl (K' := [oArr Z a15 a15k .double [.double (FP.i2d (p3 &&& (255 : Int32))), .double (4607182418800017408 : UInt64), .double (4613937818241073152 : UInt64)], oArr Z a14 a14k .double [.double (FP.i2d (p2 &&& (255 : Int32))), .double (0 : UInt64), .double (4611686018427387904 : UInt64)], oArr Z a13 a13k .int [.int d0, .int d1, .int d2]]) rfl fun T N => ?_
    refine k_astore (pc := 278) N at_278 rfl (Ls' := #[.val (.int p1), .val (.int p2), .val (.int p3), .val (.int p4), .val (.long t), .second, .val (.int d0), .val (.int d1), .val (.int d2), .val (.int (3 : Int32)), .val (.int (2 : Int32)), .val (.ref a13), .val (.ref a14), .val (.ref a15), .unset, .unset, .unset]) rfl ?_
    refine k_lconst (pc := 280) N at_280 (v := (1 : Int64)) (by decide) ?_
    refine k_iload (pc := 281) N at_281 rfl ?_
    refine k_lshl (pc := 283) N at_283 ?_
    refine k_lconst (pc := 284) N at_284 (v := (1 : Int64)) (by decide) ?_
    refine k_iload (pc := 285) N at_285 rfl ?_
    refine k_lshl (pc := 287) N at_287 ?_
    refine k_ladd (pc := 288) N at_288 ?_
    refine k_lconst (pc := 289) N at_289 (v := (1 : Int64)) (by decide) ?_
    refine k_iload (pc := 290) N at_290 rfl ?_
    refine k_lshl (pc := 292) N at_292 ?_
    refine k_ladd (pc := 293) N at_293 ?_
    refine k_lstore (pc := 294) N at_294 (Ls' := #[.val (.int p1), .val (.int p2), .val (.int p3), .val (.int p4), .val (.long t), .second, .val (.int d0), .val (.int d1), .val (.int d2), .val (.int (3 : Int32)), .val (.int (2 : Int32)), .val (.ref a13), .val (.ref a14), .val (.ref a15), .val (.long ((((1 : Int64) <<< (d0.toInt64 &&& 63)) + ((1 : Int64) <<< (d1.toInt64 &&& 63))) + ((1 : Int64) <<< (d2.toInt64 &&& 63)))), .second, .unset]) rfl ?_
    refine k_new (pc := 296) N at_296 (hw _ (List.mem_of_getElem? (i := 6) rfl)) (hw _ (List.mem_of_getElem? (i := 7) rfl)) (hw _ (List.mem_of_getElem? (i := 8) rfl)) (fs := [("com/example/tapflow/tapflow/MotionEvent", "levels", "[D", .null), ("com/example/tapflow/tapflow/MotionEvent", "placedAt", "I", .int (0 : Int32)), ("com/example/tapflow/tapflow/MotionEvent", "eventTimeNanos", "J", .long (0 : Int64)), ("com/example/tapflow/tapflow/MotionEvent", "pointerIds", "[I", .null), ("com/example/tapflow/tapflow/MotionEvent", "xs", "[D", .null), ("com/example/tapflow/tapflow/MotionEvent", "ys", "[D", .null), ("com/example/tapflow/tapflow/MotionEvent", "action", "I", .int (0 : Int32))]) ⟨⟨Or.inl (hw _ (List.mem_of_getElem? (i := 18) rfl)), (.array .double), by decide, rfl⟩, ⟨Or.inl (hw _ (List.mem_of_getElem? (i := 20) rfl)), .int, by decide, rfl⟩, ⟨Or.inl (hw _ (List.mem_of_getElem? (i := 32) rfl)), .long, by decide, rfl⟩, ⟨Or.inr (hw _ (List.mem_of_getElem? (i := 43) rfl)), (.array .int), by decide, rfl⟩, ⟨Or.inr (hw _ (List.mem_of_getElem? (i := 51) rfl)), (.array .double), by decide, rfl⟩, ⟨Or.inr (hw _ (List.mem_of_getElem? (i := 53) rfl)), (.array .double), by decide, rfl⟩, ⟨Or.inl (hw _ (List.mem_of_getElem? (i := 70) rfl)), .int, by decide, rfl⟩, trivial⟩ (by decide) (by decide) (by decide) fun T a16 N => ?_
    refine k_dup (pc := 299) N at_299 rfl ?_
    refine k_lload (pc := 300) N at_300 rfl ?_
    refine k_iload (pc := 302) N at_302 rfl ?_
    refine k_aload (pc := 304) N at_304 rfl rfl ?_
    refine k_aload (pc := 306) N at_306 rfl rfl ?_
    refine k_aload (pc := 308) N at_308 rfl rfl ?_
    obtain rfl : a14k = a15k := Option.some.inj (hk_a14.symm.trans hk_a15)
    replace N := ONow.sel (F := [oMe Z a16 .null (.int (0 : Int32)) (.long (0 : Int64)) .null .null .null (.int (0 : Int32)), oArr Z a15 a14k .double [.double (FP.i2d (p3 &&& (255 : Int32))), .double (4607182418800017408 : UInt64), .double (4613937818241073152 : UInt64)], oArr Z a14 a14k .double [.double (FP.i2d (p2 &&& (255 : Int32))), .double (0 : UInt64), .double (4611686018427387904 : UInt64)], oArr Z a13 a13k .int [.int d0, .int d1, .int d2]]) (F' := [oMe Z a16 .null (.int (0 : Int32)) (.long (0 : Int64)) .null .null .null (.int (0 : Int32)), oArr Z a13 a13k .int [.int d0, .int d1, .int d2], oArr Z a14 a14k .double [.double (FP.i2d (p2 &&& (255 : Int32))), .double (0 : UInt64), .double (4611686018427387904 : UInt64)], oArr Z a15 a14k .double [.double (FP.i2d (p3 &&& (255 : Int32))), .double (4607182418800017408 : UInt64), .double (4613937818241073152 : UInt64)]]) (rest := []) N [0, 3, 2, 1] (by decide) rfl
    simp only [List.append_nil] at N
    refine k_special (pc := 310) N (y := (⟨"com/example/tapflow/tapflow/MotionEvent", "<init>", "(JI[I[D[D)V"⟩ : MethodName)) (rest := [.ref a16]) [.long t, .int (2 : Int32), .ref a13, .ref a14, .ref a15] (a := a16) at_310 rfl (hw _ (List.mem_of_getElem? (i := 9) rfl)) (hw _ (List.mem_of_getElem? (i := 10) rfl)) (hw _ (List.mem_of_getElem? (i := 8) rfl)) (hw _ (List.mem_of_getElem? (i := 11) rfl)) (by decide) pd__JI_I_D_D_V rfl (c_init2_3 l Z a0 hw an sn2 ac SA AA A7 AE2 lv SL a16 a13 a14 a15 t a13k a14k hk_a13 hk_a14 d0 d1 d2 (FP.i2d (p2 &&& (255 : Int32))) (0 : UInt64) (4611686018427387904 : UInt64) (FP.i2d (p3 &&& (255 : Int32))) (4607182418800017408 : UInt64) (4613937818241073152 : UInt64) (nlt z0) (n31 t0) (nlt z1) r1 (nlt z2) r2 (Int32.lt_iff_toInt_lt.mpr l1) (Int32.lt_iff_toInt_lt.mpr l2) (Crd.i _) (Crd.i _) Crd.zero Crd.one Crd.two Crd.three []) rfl rfl 1 rfl (by decide) (by decide) (cells' := 7) rfl (slots' := 34) rfl (by decide) (by decide) fun T vV K' N qQ => ?_
    obtain ⟨nb, nx, ny, rfl, rfl⟩ := qQ
    refine k_astore (pc := 313) N at_313 rfl (Ls' := #[.val (.int p1), .val (.int p2), .val (.int p3), .val (.int p4), .val (.long t), .second, .val (.int d0), .val (.int d1), .val (.int d2), .val (.int (3 : Int32)), .val (.int (2 : Int32)), .val (.ref a13), .val (.ref a14), .val (.ref a15), .val (.long ((((1 : Int64) <<< (d0.toInt64 &&& 63)) + ((1 : Int64) <<< (d1.toInt64 &&& 63))) + ((1 : Int64) <<< (d2.toInt64 &&& 63)))), .second, .val (.ref a16)]) rfl ?_
    refine k_aload (pc := 315) N at_315 rfl rfl ?_
    refine k_virtual (pc := 317) N (y := (⟨"com/example/tapflow/tapflow/MotionEvent", "getPointerIdBits", "()I"⟩ : MethodName)) (z := (⟨"com/example/tapflow/tapflow/MotionEvent", "getPointerIdBits", "()I"⟩ : MethodName)) (rest := []) [] (a := a16) at_317 (fun h N => N.exa (i := 0) rfl) (hw _ (List.mem_of_getElem? (i := 71) rfl)) (hw _ (List.mem_of_getElem? (i := 72) rfl)) (nf_self (hw _ (List.mem_of_getElem? (i := 74) rfl))) (hw _ (List.mem_of_getElem? (i := 74) rfl)) (hw _ (List.mem_of_getElem? (i := 73) rfl)) (hw _ (List.mem_of_getElem? (i := 8) rfl)) (hw _ (List.mem_of_getElem? (i := 75) rfl)) (by decide) pd___I rfl (c_bits3 l Z a0 hw a16 lv nb nx ny (-1 : Int32) (2 : Int32) t a13k d0 d1 d2 [oArr Z ny a14k .double [.double (FP.i2d (p3 &&& (255 : Int32))), .double (4607182418800017408 : UInt64), .double (4613937818241073152 : UInt64)], oArr Z nx a14k .double [.double (FP.i2d (p2 &&& (255 : Int32))), .double (0 : UInt64), .double (4611686018427387904 : UInt64)], oArr Z a13 a13k .int [.int d0, .int d1, .int d2], oArr Z a14 a14k .double [.double (FP.i2d (p2 &&& (255 : Int32))), .double (0 : UInt64), .double (4611686018427387904 : UInt64)], oArr Z a15 a14k .double [.double (FP.i2d (p3 &&& (255 : Int32))), .double (4607182418800017408 : UInt64), .double (4613937818241073152 : UInt64)]]) rfl rfl 0 rfl (by decide) (by decide) (cells' := 7) rfl (slots' := 34) rfl (by decide) (by decide) fun T vV K' N qQ => ?_
    obtain ⟨rfl, rfl⟩ := qQ
    refine k_lload (pc := 320) N at_320 rfl ?_
    refine k_l2i (pc := 322) N at_322 ?_
    refine k_icmp_ne (pc := 323) N at_323 (pc' := 330) (by decide) (fun qQ => absurd qQ (fun z => z (law3 z0 l1 r1 z1 (n31 t0) l2 z2 r2))) (fun _ => ?_)
    refine k_iconst (pc := 326) N at_326 (v := (1 : Int32)) (by decide) ?_
    refine k_goto (pc := 327) N at_327 (pc' := 331) (by decide) ?_
    exact k_zreturn (pc := 331) N at_331 rfl (by decide) (by decide) rfl
  refine k_iconst (pc := 28) N at_28 (v := (3 : Int32)) (by decide) ?_
  refine k_iconst (pc := 29) N at_29 (v := (1 : Int32)) (by decide) ?_
  refine k_iload_n (pc := 30) N at_30 rfl ?_
  refine k_iconst (pc := 31) N at_31 (v := (3 : Int32)) (by decide) ?_
  refine k_iand (pc := 32) N at_32 ?_
  refine k_iadd (pc := 33) N at_33 ?_
  refine k_static (pc := 34) N (y := (⟨"java/lang/Math", "min", "(II)I"⟩ : MethodName)) (rest := []) [.int (3 : Int32), .int ((1 : Int32) + (p4 &&& (3 : Int32)))] at_34 (hw _ (List.mem_of_getElem? (i := 0) rfl)) (hw _ (List.mem_of_getElem? (i := 1) rfl)) (hw _ (List.mem_of_getElem? (i := 2) rfl)) (hw _ (List.mem_of_getElem? (i := 3) rfl)) (by decide) pd__II_I rfl (c_min l Z a0 hw (3 : Int32) ((1 : Int32) + (p4 &&& (3 : Int32))) []) rfl rfl 0 rfl (by decide) (by decide) (cells' := 0) rfl (slots' := 0) rfl (by decide) (by decide) fun T vV K' N qQ => ?_
  obtain ⟨rfl, rfl⟩ := qQ
  rcases four p4 with hc | hc | hc | hc
  · rw [show (if ((1 : Int32) + (p4 &&& (3 : Int32))) < (3 : Int32) then ((1 : Int32) + (p4 &&& (3 : Int32))) else (3 : Int32)) = (1 : Int32) by rw [hc]; decide]
    refine k_istore (pc := 37) N at_37 (Ls' := #[.val (.int p1), .val (.int p2), .val (.int p3), .val (.int p4), .val (.long t), .second, .val (.int d0), .val (.int d1), .val (.int d2), .val (.int (1 : Int32)), .unset, .unset, .unset, .unset, .unset, .unset, .unset]) rfl ?_
    refine k_iload (pc := 39) N at_39 rfl ?_
    refine k_bipush (pc := 41) N at_41 (v := (31 : Int32)) (by decide) ?_
    refine k_icmp_le (pc := 43) N at_43 (pc' := 52) (by decide) (fun c43 => ?_) (fun c43 => ?_)
    · refine k_iload (pc := 52) N at_52 rfl ?_
      refine k_bipush (pc := 54) N at_54 (v := (31 : Int32)) (by decide) ?_
      refine k_icmp_le (pc := 56) N at_56 (pc' := 67) (by decide) (fun c56 => ?_) (fun c56 => ?_)
      · exact J1 _ N
      · refine k_iload (pc := 59) N at_59 rfl ?_
        refine k_iconst (pc := 61) N at_61 (v := (2 : Int32)) (by decide) ?_
        refine k_static (pc := 62) N (y := (⟨"java/lang/Math", "min", "(II)I"⟩ : MethodName)) (rest := []) [.int (1 : Int32), .int (2 : Int32)] at_62 (hw _ (List.mem_of_getElem? (i := 0) rfl)) (hw _ (List.mem_of_getElem? (i := 1) rfl)) (hw _ (List.mem_of_getElem? (i := 2) rfl)) (hw _ (List.mem_of_getElem? (i := 3) rfl)) (by decide) pd__II_I rfl (c_min l Z a0 hw (1 : Int32) (2 : Int32) []) rfl rfl 0 rfl (by decide) (by decide) (cells' := 0) rfl (slots' := 0) rfl (by decide) (by decide) fun T vV K' N qQ => ?_
        obtain ⟨rfl, rfl⟩ := qQ
        rw [show (if (2 : Int32) < (1 : Int32) then (2 : Int32) else (1 : Int32)) = (1 : Int32) by decide]
        refine k_istore (pc := 65) N at_65 (Ls' := #[.val (.int p1), .val (.int p2), .val (.int p3), .val (.int p4), .val (.long t), .second, .val (.int d0), .val (.int d1), .val (.int d2), .val (.int (1 : Int32)), .unset, .unset, .unset, .unset, .unset, .unset, .unset]) rfl ?_
        exact J1 _ N
    · refine k_iconst (pc := 46) N at_46 (v := (1 : Int32)) (by decide) ?_
      refine k_istore (pc := 47) N at_47 (Ls' := #[.val (.int p1), .val (.int p2), .val (.int p3), .val (.int p4), .val (.long t), .second, .val (.int d0), .val (.int d1), .val (.int d2), .val (.int (1 : Int32)), .unset, .unset, .unset, .unset, .unset, .unset, .unset]) rfl ?_
      refine k_goto (pc := 49) N at_49 (pc' := 67) (by decide) ?_
      exact J1 _ N
  · rw [show (if ((1 : Int32) + (p4 &&& (3 : Int32))) < (3 : Int32) then ((1 : Int32) + (p4 &&& (3 : Int32))) else (3 : Int32)) = (2 : Int32) by rw [hc]; decide]
    refine k_istore (pc := 37) N at_37 (Ls' := #[.val (.int p1), .val (.int p2), .val (.int p3), .val (.int p4), .val (.long t), .second, .val (.int d0), .val (.int d1), .val (.int d2), .val (.int (2 : Int32)), .unset, .unset, .unset, .unset, .unset, .unset, .unset]) rfl ?_
    refine k_iload (pc := 39) N at_39 rfl ?_
    refine k_bipush (pc := 41) N at_41 (v := (31 : Int32)) (by decide) ?_
    refine k_icmp_le (pc := 43) N at_43 (pc' := 52) (by decide) (fun c43 => ?_) (fun c43 => ?_)
    · refine k_iload (pc := 52) N at_52 rfl ?_
      refine k_bipush (pc := 54) N at_54 (v := (31 : Int32)) (by decide) ?_
      refine k_icmp_le (pc := 56) N at_56 (pc' := 67) (by decide) (fun c56 => ?_) (fun c56 => ?_)
      · exact J2 c43 _ N
      · refine k_iload (pc := 59) N at_59 rfl ?_
        refine k_iconst (pc := 61) N at_61 (v := (2 : Int32)) (by decide) ?_
        refine k_static (pc := 62) N (y := (⟨"java/lang/Math", "min", "(II)I"⟩ : MethodName)) (rest := []) [.int (2 : Int32), .int (2 : Int32)] at_62 (hw _ (List.mem_of_getElem? (i := 0) rfl)) (hw _ (List.mem_of_getElem? (i := 1) rfl)) (hw _ (List.mem_of_getElem? (i := 2) rfl)) (hw _ (List.mem_of_getElem? (i := 3) rfl)) (by decide) pd__II_I rfl (c_min l Z a0 hw (2 : Int32) (2 : Int32) []) rfl rfl 0 rfl (by decide) (by decide) (cells' := 0) rfl (slots' := 0) rfl (by decide) (by decide) fun T vV K' N qQ => ?_
        obtain ⟨rfl, rfl⟩ := qQ
        rw [show (if (2 : Int32) < (2 : Int32) then (2 : Int32) else (2 : Int32)) = (2 : Int32) by decide]
        refine k_istore (pc := 65) N at_65 (Ls' := #[.val (.int p1), .val (.int p2), .val (.int p3), .val (.int p4), .val (.long t), .second, .val (.int d0), .val (.int d1), .val (.int d2), .val (.int (2 : Int32)), .unset, .unset, .unset, .unset, .unset, .unset, .unset]) rfl ?_
        exact J2 c43 _ N
    · refine k_iconst (pc := 46) N at_46 (v := (1 : Int32)) (by decide) ?_
      refine k_istore (pc := 47) N at_47 (Ls' := #[.val (.int p1), .val (.int p2), .val (.int p3), .val (.int p4), .val (.long t), .second, .val (.int d0), .val (.int d1), .val (.int d2), .val (.int (1 : Int32)), .unset, .unset, .unset, .unset, .unset, .unset, .unset]) rfl ?_
      refine k_goto (pc := 49) N at_49 (pc' := 67) (by decide) ?_
      exact J1 _ N
  · rw [show (if ((1 : Int32) + (p4 &&& (3 : Int32))) < (3 : Int32) then ((1 : Int32) + (p4 &&& (3 : Int32))) else (3 : Int32)) = (3 : Int32) by rw [hc]; decide]
    refine k_istore (pc := 37) N at_37 (Ls' := #[.val (.int p1), .val (.int p2), .val (.int p3), .val (.int p4), .val (.long t), .second, .val (.int d0), .val (.int d1), .val (.int d2), .val (.int (3 : Int32)), .unset, .unset, .unset, .unset, .unset, .unset, .unset]) rfl ?_
    refine k_iload (pc := 39) N at_39 rfl ?_
    refine k_bipush (pc := 41) N at_41 (v := (31 : Int32)) (by decide) ?_
    refine k_icmp_le (pc := 43) N at_43 (pc' := 52) (by decide) (fun c43 => ?_) (fun c43 => ?_)
    · refine k_iload (pc := 52) N at_52 rfl ?_
      refine k_bipush (pc := 54) N at_54 (v := (31 : Int32)) (by decide) ?_
      refine k_icmp_le (pc := 56) N at_56 (pc' := 67) (by decide) (fun c56 => ?_) (fun c56 => ?_)
      · exact J3 c43 c56 _ N
      · refine k_iload (pc := 59) N at_59 rfl ?_
        refine k_iconst (pc := 61) N at_61 (v := (2 : Int32)) (by decide) ?_
        refine k_static (pc := 62) N (y := (⟨"java/lang/Math", "min", "(II)I"⟩ : MethodName)) (rest := []) [.int (3 : Int32), .int (2 : Int32)] at_62 (hw _ (List.mem_of_getElem? (i := 0) rfl)) (hw _ (List.mem_of_getElem? (i := 1) rfl)) (hw _ (List.mem_of_getElem? (i := 2) rfl)) (hw _ (List.mem_of_getElem? (i := 3) rfl)) (by decide) pd__II_I rfl (c_min l Z a0 hw (3 : Int32) (2 : Int32) []) rfl rfl 0 rfl (by decide) (by decide) (cells' := 0) rfl (slots' := 0) rfl (by decide) (by decide) fun T vV K' N qQ => ?_
        obtain ⟨rfl, rfl⟩ := qQ
        rw [show (if (2 : Int32) < (3 : Int32) then (2 : Int32) else (3 : Int32)) = (2 : Int32) by decide]
        refine k_istore (pc := 65) N at_65 (Ls' := #[.val (.int p1), .val (.int p2), .val (.int p3), .val (.int p4), .val (.long t), .second, .val (.int d0), .val (.int d1), .val (.int d2), .val (.int (2 : Int32)), .unset, .unset, .unset, .unset, .unset, .unset, .unset]) rfl ?_
        exact J2 c43 _ N
    · refine k_iconst (pc := 46) N at_46 (v := (1 : Int32)) (by decide) ?_
      refine k_istore (pc := 47) N at_47 (Ls' := #[.val (.int p1), .val (.int p2), .val (.int p3), .val (.int p4), .val (.long t), .second, .val (.int d0), .val (.int d1), .val (.int d2), .val (.int (1 : Int32)), .unset, .unset, .unset, .unset, .unset, .unset, .unset]) rfl ?_
      refine k_goto (pc := 49) N at_49 (pc' := 67) (by decide) ?_
      exact J1 _ N
  · rw [show (if ((1 : Int32) + (p4 &&& (3 : Int32))) < (3 : Int32) then ((1 : Int32) + (p4 &&& (3 : Int32))) else (3 : Int32)) = (3 : Int32) by rw [hc]; decide]
    refine k_istore (pc := 37) N at_37 (Ls' := #[.val (.int p1), .val (.int p2), .val (.int p3), .val (.int p4), .val (.long t), .second, .val (.int d0), .val (.int d1), .val (.int d2), .val (.int (3 : Int32)), .unset, .unset, .unset, .unset, .unset, .unset, .unset]) rfl ?_
    refine k_iload (pc := 39) N at_39 rfl ?_
    refine k_bipush (pc := 41) N at_41 (v := (31 : Int32)) (by decide) ?_
    refine k_icmp_le (pc := 43) N at_43 (pc' := 52) (by decide) (fun c43 => ?_) (fun c43 => ?_)
    · refine k_iload (pc := 52) N at_52 rfl ?_
      refine k_bipush (pc := 54) N at_54 (v := (31 : Int32)) (by decide) ?_
      refine k_icmp_le (pc := 56) N at_56 (pc' := 67) (by decide) (fun c56 => ?_) (fun c56 => ?_)
      · exact J3 c43 c56 _ N
      · refine k_iload (pc := 59) N at_59 rfl ?_
        refine k_iconst (pc := 61) N at_61 (v := (2 : Int32)) (by decide) ?_
        refine k_static (pc := 62) N (y := (⟨"java/lang/Math", "min", "(II)I"⟩ : MethodName)) (rest := []) [.int (3 : Int32), .int (2 : Int32)] at_62 (hw _ (List.mem_of_getElem? (i := 0) rfl)) (hw _ (List.mem_of_getElem? (i := 1) rfl)) (hw _ (List.mem_of_getElem? (i := 2) rfl)) (hw _ (List.mem_of_getElem? (i := 3) rfl)) (by decide) pd__II_I rfl (c_min l Z a0 hw (3 : Int32) (2 : Int32) []) rfl rfl 0 rfl (by decide) (by decide) (cells' := 0) rfl (slots' := 0) rfl (by decide) (by decide) fun T vV K' N qQ => ?_
        obtain ⟨rfl, rfl⟩ := qQ
        rw [show (if (2 : Int32) < (3 : Int32) then (2 : Int32) else (3 : Int32)) = (2 : Int32) by decide]
        refine k_istore (pc := 65) N at_65 (Ls' := #[.val (.int p1), .val (.int p2), .val (.int p3), .val (.int p4), .val (.long t), .second, .val (.int d0), .val (.int d1), .val (.int d2), .val (.int (2 : Int32)), .unset, .unset, .unset, .unset, .unset, .unset, .unset]) rfl ?_
        exact J2 c43 _ N
    · refine k_iconst (pc := 46) N at_46 (v := (1 : Int32)) (by decide) ?_
      refine k_istore (pc := 47) N at_47 (Ls' := #[.val (.int p1), .val (.int p2), .val (.int p3), .val (.int p4), .val (.long t), .second, .val (.int d0), .val (.int d1), .val (.int d2), .val (.int (1 : Int32)), .unset, .unset, .unset, .unset, .unset, .unset, .unset]) rfl ?_
      refine k_goto (pc := 49) N at_49 (pc' := 67) (by decide) ?_
      exact J1 _ N
set_option maxRecDepth 65536 in
set_option maxHeartbeats 40000000 in
theorem comes_1 {Post : Tables → Env → Array Value → State → Outcome → State → Prop} (hpost : ∀ tb e args s v u, (limb_1_1.after args s (.returned v) u = true ∧ limb_1_2.after args s (.returned v) u = true ∧ True) → FrameEnd s (.returned v) u (Jvm.fieldLocs frame_1_writes args s ++ Jvm.arrayLocs frame_1_arrays args s ++ Jvm.staticLocs frame_1_statics s) 24 192 → Post tb e args s (.returned v) u) :
    ArmFor flags0 classFile x code maxLocals ret World_1 tables_1 room_1 Calls_1 rest_1 Pre_1 Post := by
  intro l hfl _ _ p e ha hc hk s m args below hf hA hF happ hP
  obtain ⟨hcalls, hrest, hpre⟩ := hP
  obtain ⟨-, -, -, hnamed, -, -, -, hat⟩ := (Spec.applies_iff hf).mp happ
  obtain ⟨hg, hn⟩ := and_e (Cond.before_iff.mp (show (Jvm.Cond.and given_1 narrow_1).before args s = true from hpre))
  obtain ⟨g1, g2⟩ := and_e hg
  obtain ⟨g3, g4⟩ := and_e g2
  obtain ⟨g5, g6⟩ := and_e g4
  obtain ⟨g7, g8⟩ := and_e g6
  obtain ⟨g9, g10⟩ := and_e g8
  obtain ⟨w0, w1, w2, w3, w4, rfl⟩ : ∃ w0 w1 w2 w3 w4 : Value, args = #[w0, w1, w2, w3, w4] := by
    have hs : args.size = 5 := by simpa [Cond.value, given_1] using g1
    obtain ⟨L⟩ := args
    match L, hs with
    | [w0, w1, w2, w3, w4], _ => exact ⟨w0, w1, w2, w3, w4, rfl⟩
  have hw := fun d (hd : d ∈ tables_1) => atoms_spec (ws := Jvm.Cond.code x code maxLocals ret :: tables_1) hat d (List.mem_cons_of_mem _ hd)
  have hfit : Fit s := fun {y c} hc i hi => by
    obtain ⟨ha, rfl⟩ := Array.getElem?_eq_some_iff.mp hc
    have q := List.all_eq_true.mp ((Array.all_eq_true_iff_forall_mem.mp hF) _ (Array.getElem_mem ha)) i (List.mem_range.mpr hi)
    simpa [Array.getElem?_eq_getElem hi] using q
  obtain ⟨i0, ei0⟩ := is_v g3
  obtain rfl : w0 = (.int i0) := Option.some.inj ei0
  obtain ⟨i1, ei1⟩ := is_v g5
  obtain rfl : w1 = (.int i1) := Option.some.inj ei1
  obtain ⟨i2, ei2⟩ := is_v g7
  obtain rfl : w2 = (.int i2) := Option.some.inj ei2
  obtain ⟨i3, ei3⟩ := is_v g9
  obtain rfl : w3 = (.int i3) := Option.some.inj ei3
  obtain ⟨i4, ei4⟩ := isL_v g10
  obtain rfl : w4 = (.long i4) := Option.some.inj ei4
  obtain ⟨na, hn⟩ := and_e hn
  obtain ⟨nb, hn⟩ := and_e hn
  obtain ⟨nc, hn⟩ := and_e hn
  obtain ⟨nd, hn⟩ := and_e hn
  obtain ⟨ne, hn⟩ := and_e hn
  obtain ⟨nf, hn⟩ := and_e hn
  obtain ⟨vl, el, fl⟩ := static_fit hfit (args := #[.int i0, .int i1, .int i2, .int i3, .long i4]) (hw _ (List.mem_of_getElem? (i := 16) rfl)) (ty := .array .double) (by decide)
  obtain ⟨va, ea, fa⟩ := static_fit hfit (args := #[.int i0, .int i1, .int i2, .int i3, .long i4]) (hw _ (List.mem_of_getElem? (i := 64) rfl)) (ty := .array (.object "java/lang/String")) (by decide)
  obtain ⟨lv, rfl⟩ : ∃ lv, vl = .ref lv := by
    rcases ref_cases (fit_R fl rfl) with rfl | ⟨r, rfl⟩
    · simp [Cond.value, el] at na
    · exact ⟨r, rfl⟩
  obtain ⟨an, rfl⟩ : ∃ an, va = .ref an := by
    rcases ref_cases (fit_R fa rfl) with rfl | ⟨r, rfl⟩
    · simp [Cond.value, ea] at nc
    · exact ⟨r, rfl⟩
  have SL := Sta.start el (Or.inr ⟨(hw _ (List.mem_of_getElem? (i := 8) rfl)), (hw _ (List.mem_of_getElem? (i := 16) rfl))⟩)
  have SA := Sta.start ea (Or.inr ⟨(hw _ (List.mem_of_getElem? (i := 8) rfl)), (hw _ (List.mem_of_getElem? (i := 64) rfl))⟩)
  obtain ⟨ac, AA⟩ := Arr.start ea nc
  have q7 := eqv_i (Term.int_eval (7)) nd
  have w7 : s.arrayAt? an = some ac := AA.fin (Vm.Alike.refl _)
  have A7 : ac.slots.size = 7 := len_at ea w7 q7 7 rfl
  obtain ⟨sn2, AE2⟩ : ∃ sn, ac.slots[2]? = some (.ref sn) := by
    obtain ⟨sn, -, -, -, h, -⟩ := Cond.exactly_spec (Cond.before_iff.mpr ne)
    exact ⟨sn, elem_at (n := 2) ea w7 h⟩
  obtain ⟨sn0, AE0⟩ : ∃ sn, ac.slots[0]? = some (.ref sn) := by
    obtain ⟨sn, -, -, -, h, -⟩ := Cond.exactly_spec (Cond.before_iff.mpr nf)
    exact ⟨sn, elem_at (n := 0) ea w7 h⟩
  obtain ⟨n, o, h1, h2, h3, _, L, rfl, ⟨N, K', -, rfl⟩, hq⟩ := c_law l s _ hw i4 i0 i1 i2 i3 an sn2 sn0 ac SA AA A7 AE2 AE0 lv SL tables_1 s.heap (OKnow.start s) p e ha hc hk s m _ below hf ((Spec.applies_iff_loose hf).mp happ).1 ⟨rfl, State.Warmed39.refl s, rfl⟩ trivial
  refine ⟨n, _, h1, h2, h3, hpost _ _ _ _ _ _ ⟨Cond.after_iff.mpr rfl, Cond.after_iff.mpr (eq_i res_at (Term.int_eval (1)) rfl), trivial⟩ ⟨hq.1, hq.2.1, (hq.2.2.sift fun y hy => Or.inr (N y hy)).mono (by decide) (by decide)⟩⟩
theorem main_1_1 : Claimed_1_1 := comes_1 fun _ _ _ _ _ _ h hF => ⟨h.1, hF⟩
theorem main_1_2 : Claimed_1_2 := comes_1 fun _ _ _ _ _ _ h hF => ⟨h.2.1, hF⟩
end Jvm.Pilot.@@N@@
namespace Jvm.Pilot.@@N@@
open Jvm Jvm.ClassFile Sem Op Lib Jvm.Free Jvm.Stand Jvm.Pilot.@@N@@.Jvm.D
/-! MADE BY PROGRAM (witnessworld.py) out of the Statement's table words and the real class files: 18 classes; the members and pool entries that the words name. The judged class is class 1, her method 1. -/
namespace start1
open Jvm.ClassFile
def u (s : String) : CpInfo := .utf8 (stringToUtf16 s)
/-- a pool by its gaps: so many unusable entries, then the entry; so many at the end -/
def gap : Nat → List CpInfo → List CpInfo
  | 0, r => r
  | n + 1, r => .unusable :: gap n r
def poolList (es : List (Nat × CpInfo)) (last : Nat) : List CpInfo := es.foldr (fun e r => gap e.1 (e.2 :: r)) (gap last [])
def pool (es : List (Nat × CpInfo)) (last : Nat) : Array CpInfo := ⟨poolList es last⟩
def fileOf (pool : Array CpInfo) (this : Nat) (attrs : Array Attribute := #[]) (ms : Array MethodInfo := #[]) (fl : Nat := 33) (sup : Nat := 0) (ifs : Array Nat := #[]) (fds : Array FieldInfo := #[]) : ClassFile where
  minorVersion := 0
  majorVersion := 65
  constantPool := pool
  accessFlags := fl
  thisClass := this
  superClass := sup
  interfaces := ifs
  fields := fds
  methods := ms
  attributes := attrs
def plain (name : String) (sup : Option ClassId) : Class where
  name := name
  kind := .ordinary
  loader := none
  accessFlags := 33
  super := sup
  interfaces := #[]
  cf := none
  fields := #[]
  methods := #[]
  instanceTypes := #[]
  staticTypes := #[]
  resolved := #[]
  callSites := []
  init := .initialized
  statics := none
  mirror := none

def pool0 : Array CpInfo := pool [(5, u "<init>"), (0, u "()V"), (1, .class_ 10), (1, u "java/lang/Object"), (85, u "clone"), (0, u "()Ljava/lang/Object;")] 26

def k0c0 : Code := { maxStack := 0, maxLocals := 1, code := object_method_1_code, exceptionTable := #[], attributes := #[] }
def k0m0 : Method := { name := "<init>", desc := "()V", sig := { parameters := [], returnType := none }, accessFlags := 1, code := some k0c0 }
def k0m1 : Method := { name := "clone", desc := "()Ljava/lang/Object;", sig := { parameters := [], returnType := some (.object "java/lang/Object") }, accessFlags := 260, code := none }
/-- java/lang/Object -/
def k0 : Class := { plain "java/lang/Object" none with
  accessFlags := 33
  interfaces := #[]
  cf := some (fileOf pool0 8 #[] #[{ accessFlags := 1, nameIndex := 5, descriptorIndex := 6, attributes := #[] }, { accessFlags := 260, nameIndex := 96, descriptorIndex := 97, attributes := #[] }] 33 0 #[] #[])
  fields := #[]
  methods := #[k0m0, k0m1]
  instanceTypes := #[]
  staticTypes := #[]
  resolved := Array.replicate 124 none
  statics := none }

def pool1 : Array CpInfo := pool [(2, .class_ 4), (1, u "java/lang/Object"), (0, u "<init>"), (0, u "()V"), (0, .methodref 8 9), (0, .class_ 10), (0, .nameAndType 11 12), (0, u "java/lang/Math"), (0, u "min"), (0, u "(II)I"), (0, .class_ 14), (0, u "com/example/tapflow/tapflow/MotionEvent"), (0, .double 4611686018427387904), (1, .double 4613937818241073152), (1, .methodref 13 20), (0, .nameAndType 5 21), (0, u "(JI[I[D[D)V"), (0, .methodref 13 23), (0, .nameAndType 24 25), (0, u "getPointerIdBits"), (0, u "()I"), (0, .class_ 27), (0, u "com/example/tapflow/tapflow/MotionEventGetPointerIdBitsPinLaw"), (2, u "law"), (0, u "(IIIIJ)Z")] 7

def k1m0 : Method := { name := "<init>", desc := "()V", sig := { parameters := [], returnType := none }, accessFlags := 1, code := none }
def k1c1 : Code := { maxStack := 8, maxLocals := 17, code := code, exceptionTable := #[], attributes := #[] }
def k1m1 : Method := { name := "law", desc := "(IIIIJ)Z", sig := { parameters := [.int, .int, .int, .int, .long], returnType := some .boolean }, accessFlags := 9, code := some k1c1 }
/-- com/example/tapflow/tapflow/MotionEventGetPointerIdBitsPinLaw -/
def k1 : Class := { plain "com/example/tapflow/tapflow/MotionEventGetPointerIdBitsPinLaw" (some 0) with
  accessFlags := 49
  interfaces := #[]
  cf := some (fileOf pool1 26 #[] #[{ accessFlags := 1, nameIndex := 5, descriptorIndex := 6, attributes := #[] }, { accessFlags := 9, nameIndex := 30, descriptorIndex := 31, attributes := #[] }] 49 2 #[] #[])
  fields := #[]
  methods := #[k1m0, k1m1]
  instanceTypes := #[]
  staticTypes := #[]
  resolved := Array.replicate 39 none
  statics := none }

def pool2 : Array CpInfo := pool [(1, .class_ 2), (0, u "java/lang/Math"), (1, .class_ 6), (1, u "java/lang/Object"), (0, u "<init>"), (0, u "()V"), (5, u "(D)D"), (83, .class_ 100), (1, u "java/lang/Math$RandomNumberGeneratorHolder"), (23, u "abs"), (47, u "negativeZeroFloatBits"), (0, u "J"), (2, u "negativeZeroDoubleBits"), (24, u "min"), (43, u "$assertionsDisabled"), (0, u "Z"), (88, u "(II)I"), (2, u "twoToTheDoubleScaleDown"), (0, u "D"), (4, u "twoToTheDoubleScaleUp"), (9, u "E"), (3, u "PI"), (2, u "TAU"), (2, u "DEGREES_TO_RADIANS"), (0, u "RADIANS_TO_DEGREES")] 94

def k2m0 : Method := { name := "<init>", desc := "()V", sig := { parameters := [], returnType := none }, accessFlags := 2, code := none }
def k2c1 : Code := { maxStack := 4, maxLocals := 2, code := jdk_29_method_64_code, exceptionTable := #[], attributes := #[] }
def k2m1 : Method := { name := "abs", desc := "(D)D", sig := { parameters := [.double], returnType := some .double }, accessFlags := 9, code := some k2c1 }
def k2c2 : Code := { maxStack := 2, maxLocals := 2, code := jdk_29_method_69_code, exceptionTable := #[], attributes := #[] }
def k2m2 : Method := { name := "min", desc := "(II)I", sig := { parameters := [.int, .int], returnType := some .int }, accessFlags := 9, code := some k2c2 }
/-- java/lang/Math -/
def k2 : Class := { plain "java/lang/Math" (some 0) with
  accessFlags := 49
  interfaces := #[]
  cf := some (fileOf pool2 1 #[.nestMembers #[98]] #[{ accessFlags := 2, nameIndex := 7, descriptorIndex := 8, attributes := #[] }, { accessFlags := 9, nameIndex := 124, descriptorIndex := 14, attributes := #[] }, { accessFlags := 9, nameIndex := 201, descriptorIndex := 335, attributes := #[] }] 49 4 #[] #[{ accessFlags := 25, nameIndex := 354, descriptorIndex := 339, attributes := #[] }, { accessFlags := 25, nameIndex := 358, descriptorIndex := 339, attributes := #[] }, { accessFlags := 25, nameIndex := 361, descriptorIndex := 339, attributes := #[] }, { accessFlags := 26, nameIndex := 364, descriptorIndex := 339, attributes := #[] }, { accessFlags := 26, nameIndex := 365, descriptorIndex := 339, attributes := #[] }, { accessFlags := 26, nameIndex := 172, descriptorIndex := 173, attributes := #[] }, { accessFlags := 26, nameIndex := 176, descriptorIndex := 173, attributes := #[] }, { accessFlags := 8, nameIndex := 344, descriptorIndex := 339, attributes := #[] }, { accessFlags := 8, nameIndex := 338, descriptorIndex := 339, attributes := #[] }, { accessFlags := 4120, nameIndex := 245, descriptorIndex := 246, attributes := #[] }])
  fields := #[{ name := "E", type := .double, accessFlags := 25, slot := 0, constantValue := 0 }, { name := "PI", type := .double, accessFlags := 25, slot := 1, constantValue := 0 }, { name := "TAU", type := .double, accessFlags := 25, slot := 2, constantValue := 0 }, { name := "DEGREES_TO_RADIANS", type := .double, accessFlags := 26, slot := 3, constantValue := 0 }, { name := "RADIANS_TO_DEGREES", type := .double, accessFlags := 26, slot := 4, constantValue := 0 }, { name := "negativeZeroFloatBits", type := .long, accessFlags := 26, slot := 5, constantValue := 0 }, { name := "negativeZeroDoubleBits", type := .long, accessFlags := 26, slot := 6, constantValue := 0 }, { name := "twoToTheDoubleScaleUp", type := .double, accessFlags := 8, slot := 7, constantValue := 0 }, { name := "twoToTheDoubleScaleDown", type := .double, accessFlags := 8, slot := 8, constantValue := 0 }, { name := "$assertionsDisabled", type := .boolean, accessFlags := 4120, slot := 9, constantValue := 0 }]
  methods := #[k2m0, k2m1, k2m2]
  instanceTypes := #[]
  staticTypes := #[.double, .double, .double, .double, .double, .long, .long, .double, .double, .boolean]
  resolved := Array.replicate 460 none
  statics := none }

def pool3 : Array CpInfo := pool [(1, .class_ 2), (0, u "com/example/tapflow/tapflow/MotionEvent"), (4, u "<init>"), (0, u "(JI[I[D[D)V"), (0, .methodref 10 11), (0, .class_ 12), (0, .nameAndType 7 13), (0, u "java/lang/Object"), (0, u "()V"), (0, .fieldref 1 15), (0, .nameAndType 16 17), (0, u "NO_LEVELS"), (0, u "[D"), (0, .fieldref 1 19), (0, .nameAndType 20 17), (0, u "levels"), (0, .fieldref 1 22), (0, .nameAndType 23 24), (0, u "placedAt"), (0, u "I"), (7, .methodref 1 33), (0, .nameAndType 34 35), (0, u "checkPointerId"), (0, u "(I)I"), (4, .methodref 1 41), (0, .nameAndType 42 43), (0, u "isCoordinate"), (0, u "(D)Z"), (3, .fieldref 1 48), (0, .nameAndType 49 50), (0, u "eventTimeNanos"), (0, u "J"), (0, .methodref 52 53), (0, .class_ 54), (0, .nameAndType 55 56), (0, u "[I"), (0, u "clone"), (0, u "()Ljava/lang/Object;"), (0, .fieldref 1 58), (0, .nameAndType 59 54), (0, u "pointerIds"), (0, .methodref 61 53), (0, .class_ 17), (0, .fieldref 1 63), (0, .nameAndType 64 17), (0, u "xs"), (0, .fieldref 1 66), (0, .nameAndType 67 17), (0, u "ys"), (0, .methodref 1 69), (0, .nameAndType 70 71), (0, u "setAction"), (0, u "(I)V"), (0, .fieldref 1 73), (0, .nameAndType 74 24), (0, u "action"), (0, .integer 65280), (0, .methodref 1 77), (0, .nameAndType 78 79), (0, u "name"), (0, u "(I)Ljava/lang/String;"), (2, .methodref 1 83), (0, .nameAndType 84 85), (0, u "isPointerAction"), (0, u "(I)Z"), (5, u "offsetX"), (0, u "D"), (6, u "offsetY"), (5, u "levelCount"), (5, u "carriedX"), (2, u "carriedLowX"), (2, u "carriedPowerX"), (6, u "carriedY"), (2, u "carriedLowY"), (2, u "carriedPowerY"), (11, .class_ 144), (1, u "java/lang/Math"), (16, u "()I"), (8, u "getPointerIdBits"), (60, .fieldref 1 232), (0, .nameAndType 233 234), (0, u "ACTION_NAMES"), (0, u "[Ljava/lang/String;"), (37, .integer 4294901760), (1, .methodref 142 275), (0, .nameAndType 276 277), (0, u "abs"), (0, u "(D)D"), (0, .double 6103021453049119613), (16, u "ACTION_DOWN"), (2, u "ACTION_UP"), (1, u "ACTION_MOVE"), (1, u "ACTION_CANCEL"), (1, u "ACTION_POINTER_DOWN"), (1, u "ACTION_POINTER_UP"), (1, u "ACTION_MASK"), (1, u "ACTION_POINTER_INDEX_MASK"), (0, u "ACTION_POINTER_INDEX_SHIFT"), (1, u "MAX_POINTER_ID"), (1, u "MAX_COORDINATE"), (0, u "COORDINATE_RANGE"), (0, u "Ljava/lang/String;"), (2, u "SIGNIFICAND_BITS"), (1, u "SPLITTER"), (0, u "ZERO_MAGNITUDE"), (0, u "FROM_PIVOT_X"), (0, u "FROM_PIVOT_Y"), (0, u "ROUNDING_X"), (0, u "ROUNDING_Y"), (0, u "COS"), (1, u "SIN"), (0, u "DIVISOR_X"), (0, u "POWER_X"), (1, u "DIVISOR_Y"), (0, u "POWER_Y"), (1, u "CARRIED_INDEX"), (1, u "CARRIED_X"), (1, u "CARRIED_LOW_X"), (1, u "CARRIED_POWER_X"), (1, u "CARRIED_Y"), (1, u "CARRIED_LOW_Y"), (1, u "CARRIED_POWER_Y"), (1, u "LEVEL_SIZE"), (1, u "FIRST_LEVELS"), (0, u "NOT_PLACED"), (1, u "NOT_CARRIED")] 65

def k3c0 : Code := { maxStack := 7, maxLocals := 9, code := prog_5_method_2_code, exceptionTable := #[], attributes := #[] }
def k3m0 : Method := { name := "<init>", desc := "(JI[I[D[D)V", sig := { parameters := [.long, .int, (.array .int), (.array .double), (.array .double)], returnType := none }, accessFlags := 1, code := some k3c0 }
def k3c1 : Code := { maxStack := 5, maxLocals := 7, code := prog_5_method_8_code, exceptionTable := #[], attributes := #[] }
def k3m1 : Method := { name := "setAction", desc := "(I)V", sig := { parameters := [.int], returnType := none }, accessFlags := 1, code := some k3c1 }
def k3c2 : Code := { maxStack := 3, maxLocals := 6, code := prog_5_method_19_code, exceptionTable := #[], attributes := #[] }
def k3m2 : Method := { name := "getPointerIdBits", desc := "()I", sig := { parameters := [], returnType := some .int }, accessFlags := 1, code := some k3c2 }
def k3c3 : Code := { maxStack := 2, maxLocals := 3, code := prog_5_method_51_code, exceptionTable := #[], attributes := #[] }
def k3m3 : Method := { name := "name", desc := "(I)Ljava/lang/String;", sig := { parameters := [.int], returnType := some (.object "java/lang/String") }, accessFlags := 10, code := some k3c3 }
def k3c4 : Code := { maxStack := 3, maxLocals := 1, code := prog_5_method_52_code, exceptionTable := #[], attributes := #[] }
def k3m4 : Method := { name := "checkPointerId", desc := "(I)I", sig := { parameters := [.int], returnType := some .int }, accessFlags := 8, code := some k3c4 }
def k3c5 : Code := { maxStack := 4, maxLocals := 2, code := prog_5_method_53_code, exceptionTable := #[], attributes := #[] }
def k3m5 : Method := { name := "isCoordinate", desc := "(D)Z", sig := { parameters := [.double], returnType := some .boolean }, accessFlags := 9, code := some k3c5 }
def k3c6 : Code := { maxStack := 2, maxLocals := 2, code := prog_5_method_55_code, exceptionTable := #[], attributes := #[] }
def k3m6 : Method := { name := "isPointerAction", desc := "(I)Z", sig := { parameters := [.int], returnType := some .boolean }, accessFlags := 9, code := some k3c6 }
/-- com/example/tapflow/tapflow/MotionEvent -/
def k3 : Class := { plain "com/example/tapflow/tapflow/MotionEvent" (some 0) with
  accessFlags := 49
  interfaces := #[]
  cf := some (fileOf pool3 1 #[] #[{ accessFlags := 1, nameIndex := 7, descriptorIndex := 8, attributes := #[] }, { accessFlags := 1, nameIndex := 70, descriptorIndex := 71, attributes := #[] }, { accessFlags := 1, nameIndex := 170, descriptorIndex := 161, attributes := #[] }, { accessFlags := 10, nameIndex := 78, descriptorIndex := 79, attributes := #[] }, { accessFlags := 8, nameIndex := 34, descriptorIndex := 35, attributes := #[] }, { accessFlags := 9, nameIndex := 42, descriptorIndex := 43, attributes := #[] }, { accessFlags := 9, nameIndex := 84, descriptorIndex := 85, attributes := #[] }] 49 10 #[] #[{ accessFlags := 25, nameIndex := 295, descriptorIndex := 24, attributes := #[] }, { accessFlags := 25, nameIndex := 298, descriptorIndex := 24, attributes := #[] }, { accessFlags := 25, nameIndex := 300, descriptorIndex := 24, attributes := #[] }, { accessFlags := 25, nameIndex := 302, descriptorIndex := 24, attributes := #[] }, { accessFlags := 25, nameIndex := 304, descriptorIndex := 24, attributes := #[] }, { accessFlags := 25, nameIndex := 306, descriptorIndex := 24, attributes := #[] }, { accessFlags := 25, nameIndex := 308, descriptorIndex := 24, attributes := #[] }, { accessFlags := 25, nameIndex := 310, descriptorIndex := 24, attributes := #[] }, { accessFlags := 25, nameIndex := 311, descriptorIndex := 24, attributes := #[] }, { accessFlags := 25, nameIndex := 313, descriptorIndex := 24, attributes := #[] }, { accessFlags := 25, nameIndex := 315, descriptorIndex := 92, attributes := #[] }, { accessFlags := 26, nameIndex := 233, descriptorIndex := 234, attributes := #[] }, { accessFlags := 26, nameIndex := 316, descriptorIndex := 317, attributes := #[] }, { accessFlags := 26, nameIndex := 320, descriptorIndex := 24, attributes := #[] }, { accessFlags := 26, nameIndex := 322, descriptorIndex := 92, attributes := #[] }, { accessFlags := 26, nameIndex := 323, descriptorIndex := 24, attributes := #[] }, { accessFlags := 26, nameIndex := 324, descriptorIndex := 24, attributes := #[] }, { accessFlags := 26, nameIndex := 325, descriptorIndex := 24, attributes := #[] }, { accessFlags := 26, nameIndex := 326, descriptorIndex := 24, attributes := #[] }, { accessFlags := 26, nameIndex := 327, descriptorIndex := 24, attributes := #[] }, { accessFlags := 26, nameIndex := 328, descriptorIndex := 24, attributes := #[] }, { accessFlags := 26, nameIndex := 330, descriptorIndex := 24, attributes := #[] }, { accessFlags := 26, nameIndex := 331, descriptorIndex := 24, attributes := #[] }, { accessFlags := 26, nameIndex := 332, descriptorIndex := 24, attributes := #[] }, { accessFlags := 26, nameIndex := 334, descriptorIndex := 24, attributes := #[] }, { accessFlags := 26, nameIndex := 335, descriptorIndex := 24, attributes := #[] }, { accessFlags := 26, nameIndex := 337, descriptorIndex := 24, attributes := #[] }, { accessFlags := 26, nameIndex := 339, descriptorIndex := 24, attributes := #[] }, { accessFlags := 26, nameIndex := 341, descriptorIndex := 24, attributes := #[] }, { accessFlags := 26, nameIndex := 343, descriptorIndex := 24, attributes := #[] }, { accessFlags := 26, nameIndex := 345, descriptorIndex := 24, attributes := #[] }, { accessFlags := 26, nameIndex := 347, descriptorIndex := 24, attributes := #[] }, { accessFlags := 26, nameIndex := 349, descriptorIndex := 24, attributes := #[] }, { accessFlags := 26, nameIndex := 351, descriptorIndex := 24, attributes := #[] }, { accessFlags := 26, nameIndex := 353, descriptorIndex := 24, attributes := #[] }, { accessFlags := 26, nameIndex := 354, descriptorIndex := 24, attributes := #[] }, { accessFlags := 26, nameIndex := 356, descriptorIndex := 92, attributes := #[] }, { accessFlags := 24, nameIndex := 16, descriptorIndex := 17, attributes := #[] }, { accessFlags := 2, nameIndex := 49, descriptorIndex := 50, attributes := #[] }, { accessFlags := 18, nameIndex := 59, descriptorIndex := 54, attributes := #[] }, { accessFlags := 18, nameIndex := 64, descriptorIndex := 17, attributes := #[] }, { accessFlags := 18, nameIndex := 67, descriptorIndex := 17, attributes := #[] }, { accessFlags := 2, nameIndex := 20, descriptorIndex := 17, attributes := #[] }, { accessFlags := 2, nameIndex := 105, descriptorIndex := 24, attributes := #[] }, { accessFlags := 2, nameIndex := 23, descriptorIndex := 24, attributes := #[] }, { accessFlags := 2, nameIndex := 91, descriptorIndex := 92, attributes := #[] }, { accessFlags := 2, nameIndex := 99, descriptorIndex := 92, attributes := #[] }, { accessFlags := 2, nameIndex := 111, descriptorIndex := 92, attributes := #[] }, { accessFlags := 2, nameIndex := 114, descriptorIndex := 92, attributes := #[] }, { accessFlags := 2, nameIndex := 117, descriptorIndex := 24, attributes := #[] }, { accessFlags := 2, nameIndex := 124, descriptorIndex := 92, attributes := #[] }, { accessFlags := 2, nameIndex := 127, descriptorIndex := 92, attributes := #[] }, { accessFlags := 2, nameIndex := 130, descriptorIndex := 24, attributes := #[] }, { accessFlags := 2, nameIndex := 74, descriptorIndex := 24, attributes := #[] }])
  fields := #[{ name := "ACTION_DOWN", type := .int, accessFlags := 25, slot := 0, constantValue := 0 }, { name := "ACTION_UP", type := .int, accessFlags := 25, slot := 1, constantValue := 0 }, { name := "ACTION_MOVE", type := .int, accessFlags := 25, slot := 2, constantValue := 0 }, { name := "ACTION_CANCEL", type := .int, accessFlags := 25, slot := 3, constantValue := 0 }, { name := "ACTION_POINTER_DOWN", type := .int, accessFlags := 25, slot := 4, constantValue := 0 }, { name := "ACTION_POINTER_UP", type := .int, accessFlags := 25, slot := 5, constantValue := 0 }, { name := "ACTION_MASK", type := .int, accessFlags := 25, slot := 6, constantValue := 0 }, { name := "ACTION_POINTER_INDEX_MASK", type := .int, accessFlags := 25, slot := 7, constantValue := 0 }, { name := "ACTION_POINTER_INDEX_SHIFT", type := .int, accessFlags := 25, slot := 8, constantValue := 0 }, { name := "MAX_POINTER_ID", type := .int, accessFlags := 25, slot := 9, constantValue := 0 }, { name := "MAX_COORDINATE", type := .double, accessFlags := 25, slot := 10, constantValue := 0 }, { name := "ACTION_NAMES", type := (.array (.object "java/lang/String")), accessFlags := 26, slot := 11, constantValue := 0 }, { name := "COORDINATE_RANGE", type := (.object "java/lang/String"), accessFlags := 26, slot := 12, constantValue := 0 }, { name := "SIGNIFICAND_BITS", type := .int, accessFlags := 26, slot := 13, constantValue := 0 }, { name := "SPLITTER", type := .double, accessFlags := 26, slot := 14, constantValue := 0 }, { name := "ZERO_MAGNITUDE", type := .int, accessFlags := 26, slot := 15, constantValue := 0 }, { name := "FROM_PIVOT_X", type := .int, accessFlags := 26, slot := 16, constantValue := 0 }, { name := "FROM_PIVOT_Y", type := .int, accessFlags := 26, slot := 17, constantValue := 0 }, { name := "ROUNDING_X", type := .int, accessFlags := 26, slot := 18, constantValue := 0 }, { name := "ROUNDING_Y", type := .int, accessFlags := 26, slot := 19, constantValue := 0 }, { name := "COS", type := .int, accessFlags := 26, slot := 20, constantValue := 0 }, { name := "SIN", type := .int, accessFlags := 26, slot := 21, constantValue := 0 }, { name := "DIVISOR_X", type := .int, accessFlags := 26, slot := 22, constantValue := 0 }, { name := "POWER_X", type := .int, accessFlags := 26, slot := 23, constantValue := 0 }, { name := "DIVISOR_Y", type := .int, accessFlags := 26, slot := 24, constantValue := 0 }, { name := "POWER_Y", type := .int, accessFlags := 26, slot := 25, constantValue := 0 }, { name := "CARRIED_INDEX", type := .int, accessFlags := 26, slot := 26, constantValue := 0 }, { name := "CARRIED_X", type := .int, accessFlags := 26, slot := 27, constantValue := 0 }, { name := "CARRIED_LOW_X", type := .int, accessFlags := 26, slot := 28, constantValue := 0 }, { name := "CARRIED_POWER_X", type := .int, accessFlags := 26, slot := 29, constantValue := 0 }, { name := "CARRIED_Y", type := .int, accessFlags := 26, slot := 30, constantValue := 0 }, { name := "CARRIED_LOW_Y", type := .int, accessFlags := 26, slot := 31, constantValue := 0 }, { name := "CARRIED_POWER_Y", type := .int, accessFlags := 26, slot := 32, constantValue := 0 }, { name := "LEVEL_SIZE", type := .int, accessFlags := 26, slot := 33, constantValue := 0 }, { name := "FIRST_LEVELS", type := .int, accessFlags := 26, slot := 34, constantValue := 0 }, { name := "NOT_PLACED", type := .int, accessFlags := 26, slot := 35, constantValue := 0 }, { name := "NOT_CARRIED", type := .double, accessFlags := 26, slot := 36, constantValue := 0 }, { name := "NO_LEVELS", type := (.array .double), accessFlags := 24, slot := 37, constantValue := 0 }, { name := "eventTimeNanos", type := .long, accessFlags := 2, slot := 0, constantValue := 0 }, { name := "pointerIds", type := (.array .int), accessFlags := 18, slot := 1, constantValue := 0 }, { name := "xs", type := (.array .double), accessFlags := 18, slot := 2, constantValue := 0 }, { name := "ys", type := (.array .double), accessFlags := 18, slot := 3, constantValue := 0 }, { name := "levels", type := (.array .double), accessFlags := 2, slot := 4, constantValue := 0 }, { name := "levelCount", type := .int, accessFlags := 2, slot := 5, constantValue := 0 }, { name := "placedAt", type := .int, accessFlags := 2, slot := 6, constantValue := 0 }, { name := "offsetX", type := .double, accessFlags := 2, slot := 7, constantValue := 0 }, { name := "offsetY", type := .double, accessFlags := 2, slot := 8, constantValue := 0 }, { name := "carriedX", type := .double, accessFlags := 2, slot := 9, constantValue := 0 }, { name := "carriedLowX", type := .double, accessFlags := 2, slot := 10, constantValue := 0 }, { name := "carriedPowerX", type := .int, accessFlags := 2, slot := 11, constantValue := 0 }, { name := "carriedY", type := .double, accessFlags := 2, slot := 12, constantValue := 0 }, { name := "carriedLowY", type := .double, accessFlags := 2, slot := 13, constantValue := 0 }, { name := "carriedPowerY", type := .int, accessFlags := 2, slot := 14, constantValue := 0 }, { name := "action", type := .int, accessFlags := 2, slot := 15, constantValue := 0 }]
  methods := #[k3m0, k3m1, k3m2, k3m3, k3m4, k3m5, k3m6]
  instanceTypes := #[.long, (.array .int), (.array .double), (.array .double), (.array .double), .int, .int, .double, .double, .double, .double, .int, .double, .double, .int, .int]
  staticTypes := #[.int, .int, .int, .int, .int, .int, .int, .int, .int, .int, .double, (.array (.object "java/lang/String")), (.object "java/lang/String"), .int, .double, .int, .int, .int, .int, .int, .int, .int, .int, .int, .int, .int, .int, .int, .int, .int, .int, .int, .int, .int, .int, .int, .double, (.array .double)]
  resolved := Array.replicate 422 none
  statics := some 0 }

def pool4 : Array CpInfo := pool [(1, .class_ 2), (0, u "java/lang/Cloneable"), (0, .class_ 4), (0, u "java/lang/Object")] 2

/-- java/lang/Cloneable -/
def k4 : Class := { plain "java/lang/Cloneable" (some 0) with
  accessFlags := 1537
  interfaces := #[]
  cf := some (fileOf pool4 1 #[] #[] 1537 3 #[] #[])
  fields := #[]
  methods := #[]
  instanceTypes := #[]
  staticTypes := #[]
  resolved := Array.replicate 7 none
  statics := none }

def pool5 : Array CpInfo := pool [(1, .class_ 2), (0, u "java/io/Serializable"), (0, .class_ 4), (0, u "java/lang/Object")] 2

/-- java/io/Serializable -/
def k5 : Class := { plain "java/io/Serializable" (some 0) with
  accessFlags := 1537
  interfaces := #[]
  cf := some (fileOf pool5 1 #[] #[] 1537 3 #[] #[])
  fields := #[]
  methods := #[]
  instanceTypes := #[]
  staticTypes := #[]
  resolved := Array.replicate 7 none
  statics := none }

def pool6 : Array CpInfo := pool [(1, .class_ 2), (0, u "java/lang/Comparable"), (0, .class_ 4), (0, u "java/lang/Object")] 7

/-- java/lang/Comparable -/
def k6 : Class := { plain "java/lang/Comparable" (some 0) with
  accessFlags := 1537
  interfaces := #[]
  cf := some (fileOf pool6 1 #[] #[] 1537 3 #[] #[])
  fields := #[]
  methods := #[]
  instanceTypes := #[]
  staticTypes := #[]
  resolved := Array.replicate 12 none
  statics := none }

def pool7 : Array CpInfo := pool [(2, .class_ 4), (1, u "java/lang/CharSequence"), (42, .class_ 48), (0, u "java/lang/CharSequence$1CodePointIterator"), (10, .class_ 60), (0, u "java/lang/CharSequence$1CharIterator"), (5, .class_ 67), (0, u "java/lang/Object")] 63

/-- java/lang/CharSequence -/
def k7 : Class := { plain "java/lang/CharSequence" (some 0) with
  accessFlags := 1537
  interfaces := #[]
  cf := some (fileOf pool7 2 #[.nestMembers #[47, 59]] #[] 1537 66 #[] #[])
  fields := #[]
  methods := #[]
  instanceTypes := #[]
  staticTypes := #[]
  resolved := Array.replicate 131 none
  statics := none }

def pool8 : Array CpInfo := pool [(1, .class_ 2), (0, u "java/lang/constant/Constable"), (0, .class_ 4), (0, u "java/lang/Object")] 6

/-- java/lang/constant/Constable -/
def k8 : Class := { plain "java/lang/constant/Constable" (some 0) with
  accessFlags := 1537
  interfaces := #[]
  cf := some (fileOf pool8 1 #[] #[] 1537 3 #[] #[])
  fields := #[]
  methods := #[]
  instanceTypes := #[]
  staticTypes := #[]
  resolved := Array.replicate 11 none
  statics := none }

def pool9 : Array CpInfo := pool [(1, .class_ 2), (0, u "java/lang/constant/ConstantDesc"), (0, .class_ 4), (0, u "java/lang/Object")] 32

/-- java/lang/constant/ConstantDesc -/
def k9 : Class := { plain "java/lang/constant/ConstantDesc" (some 0) with
  accessFlags := 1537
  interfaces := #[]
  cf := some (fileOf pool9 1 #[] #[] 1537 3 #[] #[])
  fields := #[]
  methods := #[]
  instanceTypes := #[]
  staticTypes := #[]
  resolved := Array.replicate 37 none
  statics := none }

def pool10 : Array CpInfo := pool [(2, .class_ 4), (1, u "java/lang/Object"), (0, u "<init>"), (0, u "()V"), (3, .class_ 12), (1, u "java/lang/String"), (0, u "value"), (0, u "[B"), (2, u "coder"), (0, u "B"), (2, u "hash"), (0, u "I"), (2, u "hashIsZero"), (0, u "Z"), (13, u "COMPACT_STRINGS"), (534, .class_ 576), (0, u "java/lang/CharSequence"), (22, u "CASE_INSENSITIVE_ORDER"), (0, u "Ljava/util/Comparator;"), (500, u "serialPersistentFields"), (0, u "[Ljava/io/ObjectStreamField;"), (0, .class_ 1104), (0, u "java/lang/String$CaseInsensitiveComparator"), (1, .class_ 1107), (0, u "java/io/Serializable"), (0, .class_ 1109), (0, u "java/lang/Comparable"), (0, .class_ 1111), (0, u "java/lang/constant/Constable"), (0, .class_ 1113), (0, u "java/lang/constant/ConstantDesc"), (2, u "serialVersionUID"), (0, u "J"), (3, u "REPL"), (0, u "C"), (2, u "LATIN1"), (1, u "UTF16")] 323

def k10m0 : Method := { name := "<init>", desc := "()V", sig := { parameters := [], returnType := none }, accessFlags := 1, code := none }
/-- java/lang/String -/
def k10 : Class := { plain "java/lang/String" (some 0) with
  accessFlags := 49
  interfaces := #[5, 6, 7, 8, 9]
  cf := some (fileOf pool10 10 #[.nestMembers #[1103]] #[{ accessFlags := 1, nameIndex := 5, descriptorIndex := 6, attributes := #[] }] 49 2 #[1106, 1108, 575, 1110, 1112] #[{ accessFlags := 18, nameIndex := 13, descriptorIndex := 14, attributes := #[] }, { accessFlags := 18, nameIndex := 17, descriptorIndex := 18, attributes := #[] }, { accessFlags := 2, nameIndex := 21, descriptorIndex := 22, attributes := #[] }, { accessFlags := 2, nameIndex := 25, descriptorIndex := 26, attributes := #[] }, { accessFlags := 26, nameIndex := 1116, descriptorIndex := 1117, attributes := #[] }, { accessFlags := 24, nameIndex := 40, descriptorIndex := 26, attributes := #[] }, { accessFlags := 26, nameIndex := 1101, descriptorIndex := 1102, attributes := #[] }, { accessFlags := 26, nameIndex := 1121, descriptorIndex := 1122, attributes := #[] }, { accessFlags := 25, nameIndex := 599, descriptorIndex := 600, attributes := #[] }, { accessFlags := 24, nameIndex := 1125, descriptorIndex := 18, attributes := #[] }, { accessFlags := 24, nameIndex := 1127, descriptorIndex := 18, attributes := #[] }])
  fields := #[{ name := "value", type := (.array .byte), accessFlags := 18, slot := 0, constantValue := 0 }, { name := "coder", type := .byte, accessFlags := 18, slot := 1, constantValue := 0 }, { name := "hash", type := .int, accessFlags := 2, slot := 2, constantValue := 0 }, { name := "hashIsZero", type := .boolean, accessFlags := 2, slot := 3, constantValue := 0 }, { name := "serialVersionUID", type := .long, accessFlags := 26, slot := 0, constantValue := 0 }, { name := "COMPACT_STRINGS", type := .boolean, accessFlags := 24, slot := 1, constantValue := 0 }, { name := "serialPersistentFields", type := (.array (.object "java/io/ObjectStreamField")), accessFlags := 26, slot := 2, constantValue := 0 }, { name := "REPL", type := .char, accessFlags := 26, slot := 3, constantValue := 0 }, { name := "CASE_INSENSITIVE_ORDER", type := (.object "java/util/Comparator"), accessFlags := 25, slot := 4, constantValue := 0 }, { name := "LATIN1", type := .byte, accessFlags := 24, slot := 5, constantValue := 0 }, { name := "UTF16", type := .byte, accessFlags := 24, slot := 6, constantValue := 0 }]
  methods := #[k10m0]
  instanceTypes := #[(.array .byte), .byte, .int, .boolean]
  staticTypes := #[.long, .boolean, (.array (.object "java/io/ObjectStreamField")), .char, (.object "java/util/Comparator"), .byte, .byte]
  resolved := Array.replicate 1451 none
  statics := none }

/-- the primitive byte -/
def k11 : Class := { plain "byte" none with kind := .primitive 'B', accessFlags := 0x411 }
/-- [B -/
def k12 : Class := { plain "[B" (some 0) with kind := .array 11 .byte, interfaces := #[4, 5], accessFlags := 1041 }

/-- the primitive double -/
def k13 : Class := { plain "double" none with kind := .primitive 'D', accessFlags := 0x411 }
/-- [D -/
def k14 : Class := { plain "[D" (some 0) with kind := .array 13 .double, interfaces := #[4, 5], accessFlags := 1041 }

/-- the primitive int -/
def k15 : Class := { plain "int" none with kind := .primitive 'I', accessFlags := 0x411 }
/-- [I -/
def k16 : Class := { plain "[I" (some 0) with kind := .array 15 .int, interfaces := #[4, 5], accessFlags := 1041 }

/-- [Ljava/lang/String; -/
def k17 : Class := { plain "[Ljava/lang/String;" (some 0) with kind := .array 10 (.object "java/lang/String"), interfaces := #[4, 5], accessFlags := 1041 }

def heap : Heap := #[{ cls := 3, slots := #[.int 0, .int 0, .int 0, .int 0, .int 0, .int 0, .int 0, .int 0, .int 0, .int 0, .double 0, .ref 1, .null, .int 0, .double 0, .int 0, .int 0, .int 0, .int 0, .int 0, .int 0, .int 0, .int 0, .int 0, .int 0, .int 0, .int 0, .int 0, .int 0, .int 0, .int 0, .int 0, .int 0, .int 0, .int 0, .int 0, .double 0, .ref 3], vm := .statics 3 },
  { cls := 17, slots := #[.ref 2, .ref 2, .ref 2, .ref 2, .null, .ref 2, .ref 2], vm := .none },
  { cls := 10, slots := #[.null, .int 0, .int 0, .int 0], vm := .none },
  { cls := 14, slots := #[], vm := .none }]
def classes : Array Class := #[k0, k1, k2, k3, k4, k5, k6, k7, k8, k9, k10, k11, k12, k13, k14, k15, k16, k17]
def interned : List (Array UInt16 × Addr) := []
def slotsUsed : Nat := 49
def theMethod : MethodId := ⟨1, 1⟩
def args0 : Array Value := #[.int 5, .int 3, .int 0, .int 1, .long 5]
def aboutOver (below : List Frame) : State where
  vm := { classes := classes, interned := interned.toArray }
  heap := heap
  slotsUsed := slotsUsed
  threads := #[{ frames := .invoking theMethod args0 :: below }]
def below0 : List Frame := [.native { method := ⟨0, 0⟩, args := #[] }]
def about1 : State := aboutOver below0
def p0 : Program := .bare "" "" ""
def e0 : Env := launch0.env 0 0 0
theorem w_frames : about1.frames = Frame.invoking theMethod args0 :: below0 := rfl
set_option maxRecDepth 65536 in
theorem w_args : argsFit about1.vm theMethod args0 = true := by decide +kernel
set_option maxRecDepth 65536 in
theorem w_heap : heapFits about1 = true := by decide +kernel
set_option maxRecDepth 65536 in
theorem w_runnable : about1.curStatus? = some .runnable := by decide +kernel
set_option maxRecDepth 65536 in
theorem w_alone : about1.alone = true := by decide +kernel
set_option maxRecDepth 65536 in
theorem w_named : about1.methodNamed? x = some theMethod := by decide +kernel
set_option maxRecDepth 65536 in
theorem w_hears : about1.hears theMethod below0 = true := by decide +kernel
set_option maxRecDepth 65536 in
theorem w_ripe : about1.ripe theMethod args0 below0 = true := by decide +kernel
theorem w_running : about1.status = .running := rfl
set_option maxRecDepth 65536 in
theorem w_room : about1.hasRoom e0.platform room_1 = true :=
  launch0.hasRoom_least _ room_1 (by decide +kernel) (by decide +kernel) (by decide +kernel) (by decide +kernel) (by decide +kernel) (by decide +kernel)
theorem allAtoms_all (ts : List Jvm.Cond) (a : Array Jvm.Value) (st : Jvm.State) : (allAtoms ts).before a st = ts.all (fun c => c.before a st) := by
  induction ts with
  | nil => rfl
  | cons c t ih =>
    show (Jvm.Cond.and c (allAtoms t)).before a st = _
    rw [Jvm.Cond.before_and, ih, List.all_cons]
def words1 : List Jvm.Cond := Jvm.Cond.code x code maxLocals ret :: tables_1
/-- a 'code' word, met by the world's own term for the bytes: nothing is compared byte by byte -/
theorem code_word {y : MethodName} {bytes : ByteArray} {mx : Nat} {rt : Option FieldType} {a : Array Value} {s : State} {m : MethodId} {meth : Method} {c : Code} (h1 : s.methodNamed? y = some m) (h2 : s.vm.method? m = some meth) (h3 : meth.code = some c) (h4 : c.code = bytes)
    (h5 : (c.maxLocals == mx && c.exceptionTable.isEmpty && decide (c.maxStack ≤ mostOperands) && decide (meth.sig.returnType = rt) && !meth.locks && decide (parseMethodDescriptor y.desc = some meth.sig)) = true) : (Jvm.Cond.code y bytes mx rt).before a s = true := by
  simp only [Bool.and_eq_true, beq_iff_eq, Bool.not_eq_true', decide_eq_true_eq] at h5
  obtain ⟨⟨⟨⟨⟨g1, g2⟩, g3⟩, g4⟩, g5⟩, g6⟩ := h5
  simp [Cond.before, Cond.holds, Cond.value, h1, h2, h3, h4, g1, g2, g3, g4, g5, g6]
def isCode : Jvm.Cond → Bool
  | .code _ _ _ _ => true
  | _ => false
theorem all_split {L : List Jvm.Cond} {P : Jvm.Cond → Bool} (h1 : L.all (fun c => isCode c || P c) = true) (h2 : ∀ c ∈ L.filter isCode, P c = true) : L.all P = true := by
  refine List.all_eq_true.mpr fun c hc => ?_
  have h := List.all_eq_true.mp h1 c hc
  rcases Bool.eq_false_or_eq_true (isCode c) with hi | hi
  · exact h2 c (List.mem_filter.mpr ⟨hc, hi⟩)
  · simpa [hi] using h
set_option maxRecDepth 65536 in
theorem w_c0 : (Jvm.Cond.code x code maxLocals ret).before args0 about1 = true := code_word (m := ⟨1, 1⟩) (meth := k1m1) (c := k1c1) (by decide +kernel) rfl rfl rfl (by decide +kernel)
set_option maxRecDepth 65536 in
theorem w_c1 : (Jvm.Cond.code ({ cls := "java/lang/Math", name := "min", desc := "(II)I" } : Jvm.MethodName) jdk_29_method_69_code (2 : Nat) (Option.some Jvm.ClassFile.FieldType.int)).before args0 about1 = true := code_word (m := ⟨2, 2⟩) (meth := k2m2) (c := k2c2) (by decide +kernel) rfl rfl rfl (by decide +kernel)
set_option maxRecDepth 65536 in
theorem w_c2 : (Jvm.Cond.code ({ cls := "com/example/tapflow/tapflow/MotionEvent", name := "<init>", desc := "(JI[I[D[D)V" } : Jvm.MethodName) prog_5_method_2_code (9 : Nat) (Option.none : Option Jvm.ClassFile.FieldType)).before args0 about1 = true := code_word (m := ⟨3, 0⟩) (meth := k3m0) (c := k3c0) (by decide +kernel) rfl rfl rfl (by decide +kernel)
set_option maxRecDepth 65536 in
theorem w_c3 : (Jvm.Cond.code ({ cls := "java/lang/Object", name := "<init>", desc := "()V" } : Jvm.MethodName) object_method_1_code (1 : Nat) (Option.none : Option Jvm.ClassFile.FieldType)).before args0 about1 = true := code_word (m := ⟨0, 0⟩) (meth := k0m0) (c := k0c0) (by decide +kernel) rfl rfl rfl (by decide +kernel)
set_option maxRecDepth 65536 in
theorem w_c4 : (Jvm.Cond.code ({ cls := "com/example/tapflow/tapflow/MotionEvent", name := "checkPointerId", desc := "(I)I" } : Jvm.MethodName) prog_5_method_52_code (1 : Nat) (Option.some Jvm.ClassFile.FieldType.int)).before args0 about1 = true := code_word (m := ⟨3, 4⟩) (meth := k3m4) (c := k3c4) (by decide +kernel) rfl rfl rfl (by decide +kernel)
set_option maxRecDepth 65536 in
theorem w_c5 : (Jvm.Cond.code ({ cls := "com/example/tapflow/tapflow/MotionEvent", name := "isCoordinate", desc := "(D)Z" } : Jvm.MethodName) prog_5_method_53_code (2 : Nat) (Option.some Jvm.ClassFile.FieldType.boolean)).before args0 about1 = true := code_word (m := ⟨3, 5⟩) (meth := k3m5) (c := k3c5) (by decide +kernel) rfl rfl rfl (by decide +kernel)
set_option maxRecDepth 65536 in
theorem w_c6 : (Jvm.Cond.code ({ cls := "java/lang/Math", name := "abs", desc := "(D)D" } : Jvm.MethodName) jdk_29_method_64_code (2 : Nat) (Option.some Jvm.ClassFile.FieldType.double)).before args0 about1 = true := code_word (m := ⟨2, 1⟩) (meth := k2m1) (c := k2c1) (by decide +kernel) rfl rfl rfl (by decide +kernel)
set_option maxRecDepth 65536 in
theorem w_c7 : (Jvm.Cond.code ({ cls := "com/example/tapflow/tapflow/MotionEvent", name := "setAction", desc := "(I)V" } : Jvm.MethodName) prog_5_method_8_code (7 : Nat) (Option.none : Option Jvm.ClassFile.FieldType)).before args0 about1 = true := code_word (m := ⟨3, 1⟩) (meth := k3m1) (c := k3c1) (by decide +kernel) rfl rfl rfl (by decide +kernel)
set_option maxRecDepth 65536 in
theorem w_c8 : (Jvm.Cond.code ({ cls := "com/example/tapflow/tapflow/MotionEvent", name := "name", desc := "(I)Ljava/lang/String;" } : Jvm.MethodName) prog_5_method_51_code (3 : Nat) (Option.some (Jvm.ClassFile.FieldType.object "java/lang/String"))).before args0 about1 = true := code_word (m := ⟨3, 3⟩) (meth := k3m3) (c := k3c3) (by decide +kernel) rfl rfl rfl (by decide +kernel)
set_option maxRecDepth 65536 in
theorem w_c9 : (Jvm.Cond.code ({ cls := "com/example/tapflow/tapflow/MotionEvent", name := "isPointerAction", desc := "(I)Z" } : Jvm.MethodName) prog_5_method_55_code (2 : Nat) (Option.some Jvm.ClassFile.FieldType.boolean)).before args0 about1 = true := code_word (m := ⟨3, 6⟩) (meth := k3m6) (c := k3c6) (by decide +kernel) rfl rfl rfl (by decide +kernel)
set_option maxRecDepth 65536 in
theorem w_c10 : (Jvm.Cond.code ({ cls := "com/example/tapflow/tapflow/MotionEvent", name := "getPointerIdBits", desc := "()I" } : Jvm.MethodName) prog_5_method_19_code (6 : Nat) (Option.some Jvm.ClassFile.FieldType.int)).before args0 about1 = true := code_word (m := ⟨3, 2⟩) (meth := k3m2) (c := k3c2) (by decide +kernel) rfl rfl rfl (by decide +kernel)
def codes1 : List Jvm.Cond := [Jvm.Cond.code x code maxLocals ret, Jvm.Cond.code ({ cls := "java/lang/Math", name := "min", desc := "(II)I" } : Jvm.MethodName) jdk_29_method_69_code (2 : Nat) (Option.some Jvm.ClassFile.FieldType.int), Jvm.Cond.code ({ cls := "com/example/tapflow/tapflow/MotionEvent", name := "<init>", desc := "(JI[I[D[D)V" } : Jvm.MethodName) prog_5_method_2_code (9 : Nat) (Option.none : Option Jvm.ClassFile.FieldType), Jvm.Cond.code ({ cls := "java/lang/Object", name := "<init>", desc := "()V" } : Jvm.MethodName) object_method_1_code (1 : Nat) (Option.none : Option Jvm.ClassFile.FieldType), Jvm.Cond.code ({ cls := "com/example/tapflow/tapflow/MotionEvent", name := "checkPointerId", desc := "(I)I" } : Jvm.MethodName) prog_5_method_52_code (1 : Nat) (Option.some Jvm.ClassFile.FieldType.int), Jvm.Cond.code ({ cls := "com/example/tapflow/tapflow/MotionEvent", name := "isCoordinate", desc := "(D)Z" } : Jvm.MethodName) prog_5_method_53_code (2 : Nat) (Option.some Jvm.ClassFile.FieldType.boolean), Jvm.Cond.code ({ cls := "java/lang/Math", name := "abs", desc := "(D)D" } : Jvm.MethodName) jdk_29_method_64_code (2 : Nat) (Option.some Jvm.ClassFile.FieldType.double), Jvm.Cond.code ({ cls := "com/example/tapflow/tapflow/MotionEvent", name := "setAction", desc := "(I)V" } : Jvm.MethodName) prog_5_method_8_code (7 : Nat) (Option.none : Option Jvm.ClassFile.FieldType), Jvm.Cond.code ({ cls := "com/example/tapflow/tapflow/MotionEvent", name := "name", desc := "(I)Ljava/lang/String;" } : Jvm.MethodName) prog_5_method_51_code (3 : Nat) (Option.some (Jvm.ClassFile.FieldType.object "java/lang/String")), Jvm.Cond.code ({ cls := "com/example/tapflow/tapflow/MotionEvent", name := "isPointerAction", desc := "(I)Z" } : Jvm.MethodName) prog_5_method_55_code (2 : Nat) (Option.some Jvm.ClassFile.FieldType.boolean), Jvm.Cond.code ({ cls := "com/example/tapflow/tapflow/MotionEvent", name := "getPointerIdBits", desc := "()I" } : Jvm.MethodName) prog_5_method_19_code (6 : Nat) (Option.some Jvm.ClassFile.FieldType.int)]
set_option maxRecDepth 65536 in
theorem codes_eq : words1.filter isCode = codes1 := rfl
theorem w_codes : ∀ c ∈ words1.filter isCode, c.before args0 about1 = true := by
  rw [codes_eq]
  intro c hc
  simp only [codes1, List.mem_cons, List.not_mem_nil, or_false] at hc
  rcases hc with rfl | rfl | rfl | rfl | rfl | rfl | rfl | rfl | rfl | rfl | rfl
  · exact w_c0
  · exact w_c1
  · exact w_c2
  · exact w_c3
  · exact w_c4
  · exact w_c5
  · exact w_c6
  · exact w_c7
  · exact w_c8
  · exact w_c9
  · exact w_c10
set_option maxRecDepth 65536 in
theorem w_t1 : (words1.take 24).all (fun c => isCode c || c.before args0 about1) = true := by decide +kernel
set_option maxRecDepth 65536 in
theorem w_t2 : ((words1.drop 24).take 24).all (fun c => isCode c || c.before args0 about1) = true := by decide +kernel
set_option maxRecDepth 65536 in
theorem w_t3 : (((words1.drop 24).drop 24).take 24).all (fun c => isCode c || c.before args0 about1) = true := by decide +kernel
set_option maxRecDepth 65536 in
theorem w_t4 : (((words1.drop 24).drop 24).drop 24).all (fun c => isCode c || c.before args0 about1) = true := by decide +kernel
theorem w_tables : (allAtoms (Jvm.Cond.code x code maxLocals ret :: tables_1)).before args0 about1 = true := by
  rw [allAtoms_all]
  show words1.all (fun c => c.before args0 about1) = true
  refine all_split ?_ w_codes
  rw [← List.take_append_drop 24 words1, List.all_append, w_t1, ← List.take_append_drop 24 (words1.drop 24), List.all_append, w_t2, ← List.take_append_drop 24 ((words1.drop 24).drop 24), List.all_append, w_t3, w_t4]
  rfl
set_option maxRecDepth 65536 in
theorem w_case : (Jvm.Cond.and given_1 narrow_1).before args0 about1 = true := by decide +kernel
theorem w_applies : (headSpec (Jvm.Cond.code x code maxLocals ret :: tables_1) room_1).applies x e0.platform about1 = true :=
  (Spec.applies_iff w_frames).mpr ⟨w_running, w_runnable, w_alone, w_named, w_hears, w_ripe, w_room, w_tables⟩
theorem atStart : AtStart classFile x code maxLocals ret World_1 tables_1 room_1 Calls_1 rest_1 Pre_1 launch0 p0 e0 about1 theMethod args0 below0 :=
  ⟨lists_1, trivial, launch0.admits_env _ _ _, launch0.least_env, fairChoices_fair.cas, fairChoices_fair.clock, w_frames, w_args, w_heap, w_applies, trivial, trivial, w_case⟩
end start1
theorem witness_1 : WitnessClaimed_1 := ⟨start1.p0, start1.e0, start1.about1, start1.theMethod, start1.args0, start1.below0, start1.atStart⟩
end Jvm.Pilot.@@N@@
