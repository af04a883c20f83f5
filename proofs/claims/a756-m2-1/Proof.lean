import JvmDerived
import JvmDerived.Pilot.@@N@@Statement
import JvmDerived.Pilot.@@N@@Code
set_option linter.unusedVariables false
set_option linter.unusedSimpArgs false
namespace Jvm.Own7
open Sem ClassFile Op Lib Jvm.Stand Jvm.Free Jvm.LawKit Jvm.RoadKit
/-! What is known of the heap: a list of entries, each an address and what its cell satisfies; the addresses differ and are all new since the law began. -/
abbrev Ent : Type := Addr × (Cell → Prop)
abbrev FV : Type := String × String × String × Value
def key (Z : State) (f : FV) : Nat := RoadKit.slotOf Z f.1 f.2.1 f.2.2.1
def FldC (Z : State) (c : Cell) (f : FV) : Prop := ∃ (cf : ClassId) (k : Class) (i : Nat) (fd : Field), Z.fieldFound? f.1 f.2.1 f.2.2.1 = some (cf, k, i, fd) ∧ fd.isStatic = false ∧ c.vm ≠ .unknown ∧ c.vm.isStatics = false ∧ Z.vm.assignable c.cls cf = true ∧ c.slots[fd.slot]? = some f.2.2.2
def ExaC (Z : State) (C : String) (c : Cell) : Prop := ∃ k : Class, Z.vm.findClass C = some c.cls ∧ Z.vm.classes[c.cls]? = some k ∧ c.vm.isStatics = false ∧ (k.kind = .ordinary → c.slots.size = k.instanceTypes.size)
def oObj (Z : State) (a : Addr) (C : String) (fs : List FV) : Ent := (a, fun c => ExaC Z C c ∧ (fs.map (key Z)).Nodup ∧ ∀ f ∈ fs, FldC Z c f)
def oArr (Z : State) (a : Addr) (k : ClassId) (ty : FieldType) (vs : List Value) : Ent := (a, fun c => Z.isArrayOf c ty ∧ c.vm ≠ .unknown ∧ c.cls = k ∧ c.slots = vs.toArray ∧ vs.length < 2147483648)
def OKnow (Z : State) (h : Heap) (K : List Ent) : Prop := Ext Z.heap h ∧ (∀ e ∈ K, Z.heap.size ≤ e.1 ∧ ∃ c, h[e.1]? = some c ∧ e.2 c) ∧ (K.map Prod.fst).Nodup
section Kn
variable {Z : State} {h h' : Heap} {K K' F F' rest : List Ent} {a : Addr} {P P' : Cell → Prop} {sl i j : Nat} {v w : Value} {C O n d : String} {fs : List FV} {ty : FieldType} {vs : List Value} {k : ClassId}
theorem OKnow.start (Z : State) : OKnow Z Z.heap [] := ⟨⟨Nat.le_refl _, fun _ _ q => q⟩, fun _ q => absurd q (List.not_mem_nil), List.nodup_nil⟩
theorem OKnow.at (N : OKnow Z h K) (hi : K[i]? = some (a, P)) : Z.heap.size ≤ a ∧ ∃ c, h[a]? = some c ∧ P c := N.2.1 _ (List.mem_of_getElem? hi)
theorem nodup_ne {α : Type} {l : List α} (N : l.Nodup) {i j : Nat} {x y : α} (hi : l[i]? = some x) (hj : l[j]? = some y) (ne : i ≠ j) : x ≠ y := fun e => by
  subst e
  obtain ⟨hi1, hi2⟩ := List.getElem?_eq_some_iff.mp hi
  obtain ⟨hj1, hj2⟩ := List.getElem?_eq_some_iff.mp hj
  have q := List.pairwise_iff_getElem.mp N
  rcases Nat.lt_or_gt_of_ne ne with r | r
  · exact q i j hi1 hj1 r (hi2.trans hj2.symm)
  · exact q j i hj1 hi1 r (hj2.trans hi2.symm)
theorem map_set_same {α β : Type} {f : α → β} {l : List α} {i : Nat} {x y : α} (hi : l[i]? = some x) (e : f y = f x) : (l.set i y).map f = l.map f := by
  apply List.ext_getElem?
  intro j
  simp only [List.getElem?_map, List.getElem?_set]
  by_cases q : i = j
  · subst q
    obtain ⟨h1, h2⟩ := List.getElem?_eq_some_iff.mp hi
    simp [h1, h2, e]
  · simp [q]
theorem OKnow.upd (N : OKnow Z h K) (hi : K[i]? = some (a, P)) (W : Wr h h' a sl v) (hP : ∀ c : Cell, P c → sl < c.slots.size → P' (c.setSlot sl v)) : OKnow Z h' (K.set i (a, P')) := by
  obtain ⟨n1, n2, n3⟩ := N
  have hga : Z.heap.size ≤ a := (n2 _ (List.mem_of_getElem? hi)).1
  refine ⟨⟨by rw [W.size]; exact n1.1, fun x c hx => ?_⟩, fun e he => ?_, ?_⟩
  · have hlt : x < Z.heap.size := (Array.getElem?_eq_some_iff.mp hx).1
    obtain ⟨c', q1, -, -, -, q5, -⟩ := wr_at W (n1.2 _ _ hx)
    rw [q1, q5 (Nat.ne_of_lt (Nat.lt_of_lt_of_le hlt hga))]
  · obtain ⟨j, hj⟩ := List.mem_iff_getElem?.mp he
    rw [List.getElem?_set] at hj
    by_cases q : i = j
    · subst q
      have hl := (List.getElem?_eq_some_iff.mp hi).1
      simp [hl] at hj
      subst hj
      obtain ⟨c, c1, c2⟩ := (n2 _ (List.mem_of_getElem? hi)).2
      obtain ⟨c', q1, -, -, -, -, -, q7⟩ := wr_at W c1
      obtain ⟨c0, w1, w2, w3, w4⟩ := W
      have c1' : h[a]? = some c := c1
      cases c1'.symm.trans w1
      exact ⟨hga, c', q1, by rw [(q7 rfl).1]; exact hP c c2 w3⟩
    · simp [q] at hj
      obtain ⟨g1, c, c1, c2⟩ := n2 _ (List.mem_of_getElem? hj)
      have ne : a ≠ e.1 := nodup_ne n3 (i := i) (j := j) (by simp [hi]) (by simp [hj]) q
      obtain ⟨c', q1, -, -, -, q5, -⟩ := wr_at W c1
      exact ⟨g1, c, by rw [q1, q5 (Ne.symm ne)], c2⟩
  · rw [map_set_same (f := Prod.fst) (y := (a, P')) hi rfl]; exact n3
theorem fldC_slot {c : Cell} {f : FV} (F : FldC Z c f) : c.slots[key Z f]? = some f.2.2.2 := by
  obtain ⟨cf, k, i, fd, h1, -, -, -, -, h6⟩ := F
  have : key Z f = fd.slot := by simp [key, RoadKit.slotOf, h1]
  rw [this]; exact h6
theorem fldC_set {c : Cell} {f : FV} (F : FldC Z c f) {sl : Nat} {v : Value} (ne : key Z f ≠ sl) : FldC Z (c.setSlot sl v) f := by
  obtain ⟨cf, k, i, fd, h1, h2, h3, h4, h5, h6⟩ := F
  have q : key Z f = fd.slot := by simp [key, RoadKit.slotOf, h1]
  refine ⟨cf, k, i, fd, h1, h2, h3, h4, h5, ?_⟩
  show (c.slots.setIfInBounds sl v)[fd.slot]? = _
  rw [Array.getElem?_setIfInBounds_ne (by rw [← q]; exact Ne.symm ne)]; exact h6
theorem fldC_here {c : Cell} {O n d : String} {w v : Value} (F : FldC Z c (O, n, d, w)) : FldC Z (c.setSlot (RoadKit.slotOf Z O n d) v) (O, n, d, v) := by
  have g := fldC_slot F
  obtain ⟨cf, k, i, fd, h1, h2, h3, h4, h5, h6⟩ := F
  have q : RoadKit.slotOf Z O n d = fd.slot := by simp [RoadKit.slotOf, h1]
  refine ⟨cf, k, i, fd, h1, h2, h3, h4, h5, ?_⟩
  show (c.slots.setIfInBounds (RoadKit.slotOf Z O n d) v)[fd.slot]? = _
  rw [q, Array.getElem?_setIfInBounds_self_of_lt (Array.getElem?_eq_some_iff.mp h6).1]
theorem exaC_set {c : Cell} (E : ExaC Z C c) {sl : Nat} {v : Value} : ExaC Z C (c.setSlot sl v) := by
  obtain ⟨k, h1, h2, h3, h4⟩ := E
  exact ⟨k, h1, h2, h3, fun q => by rw [sz_set]; exact h4 q⟩
theorem OKnow.put (N : OKnow Z h K) (hi : K[i]? = some (oObj Z a C fs)) (hj : fs[j]? = some (O, n, d, w)) (W : Wr h h' a (RoadKit.slotOf Z O n d) v) : OKnow Z h' (K.set i (oObj Z a C (fs.set j (O, n, d, v)))) := by
  refine N.upd (P' := (oObj Z a C (fs.set j (O, n, d, v))).2) hi W fun c ⟨E, D, A⟩ hlt => ⟨exaC_set E, by rw [map_set_same (f := key Z) (y := (O, n, d, v)) hj rfl]; exact D, fun f hf => ?_⟩
  obtain ⟨x, hx⟩ := List.mem_iff_getElem?.mp hf
  rw [List.getElem?_set] at hx
  by_cases q : j = x
  · subst q
    simp [(List.getElem?_eq_some_iff.mp hj).1] at hx
    subst hx
    exact fldC_here (A _ (List.mem_of_getElem? hj))
  · simp [q] at hx
    have ne : key Z (O, n, d, w) ≠ key Z f := nodup_ne D (i := j) (j := x) (by simp [hj]) (by simp [hx]) q
    exact fldC_set (A _ (List.mem_of_getElem? hx)) (Ne.symm ne)
theorem OKnow.fld (N : OKnow Z h K) (hi : K[i]? = some (oObj Z a C fs)) (hj : fs[j]? = some (O, n, d, v)) : Fld Z h a O n d v := by
  obtain ⟨-, c, c1, -, -, A⟩ := N.at hi
  obtain ⟨cf, k, i, fd, h1, h2, h3, h4, h5, h6⟩ := A _ (List.mem_of_getElem? hj)
  exact ⟨c, cf, k, i, fd, c1, h1, h2, h3, h4, h5, h6⟩
theorem OKnow.exa (N : OKnow Z h K) (hi : K[i]? = some (oObj Z a C fs)) : Exa Z h a C := by
  obtain ⟨-, c, c1, ⟨k, h1, h2, h3, h4⟩, -⟩ := N.at hi
  exact ⟨c, k, c1, h1, h2, h3, h4⟩
theorem OKnow.arr (N : OKnow Z h K) (hi : K[i]? = some (oArr Z a k ty vs)) : ∃ c, Arr Z h a c ty ∧ c.cls = k ∧ c.slots = vs.toArray ∧ vs.length < 2147483648 := by
  obtain ⟨-, c, c1, h1, h2, h3, h4, h5⟩ := N.at hi
  exact ⟨c, ⟨c1, h1, h2⟩, h3, h4, h5⟩
theorem OKnow.putA (N : OKnow Z h K) (hi : K[i]? = some (oArr Z a k ty vs)) (W : Wr h h' a j v) : OKnow Z h' (K.set i (oArr Z a k ty (vs.set j v))) := by
  refine N.upd (P' := (oArr Z a k ty (vs.set j v)).2) hi W fun c ⟨h1, h2, h3, h4, h5⟩ hlt => ⟨?_, h2, h3, ?_, by rw [List.length_set]; exact h5⟩
  · exact h1
  · show c.slots.setIfInBounds j v = _
    rw [h4]; simp
theorem OKnow.cons (N : OKnow Z h K) (E : Ext h h') {c : Cell} (hc : h'[h.size]? = some c) (hP : P c) : OKnow Z h' ((h.size, P) :: K) := by
  obtain ⟨n1, n2, n3⟩ := N
  refine ⟨⟨Nat.le_trans n1.1 E.1, fun x c q => E.2 _ _ (n1.2 _ _ q)⟩, fun e he => ?_, ?_⟩
  · rcases List.mem_cons.mp he with rfl | he
    · exact ⟨n1.1, c, hc, hP⟩
    · obtain ⟨g, c, c1, c2⟩ := n2 e he
      exact ⟨g, c, E.2 _ _ c1, c2⟩
  · rw [List.map_cons, List.nodup_cons]
    refine ⟨fun q => ?_, n3⟩
    obtain ⟨e, he, q⟩ := List.mem_map.mp q
    obtain ⟨-, c, c1, -⟩ := n2 e he
    have := (Array.getElem?_eq_some_iff.mp c1).1
    have q' : e.1 = h.size := q
    exact absurd q' (Nat.ne_of_lt this)
theorem OKnow.sel (N : OKnow Z h (F ++ rest)) (is : List Nat) (hn : is.Nodup) (hF : is.map (fun i => F[i]?) = F'.map some) : OKnow Z h (F' ++ rest) := by
  obtain ⟨n1, n2, n3⟩ := N
  have mem : ∀ e ∈ F', ∃ i ∈ is, F[i]? = some e := fun e he => by
    have : some e ∈ F'.map some := List.mem_map.mpr ⟨e, he, rfl⟩
    rw [← hF] at this
    obtain ⟨i, h1, h2⟩ := List.mem_map.mp this
    exact ⟨i, h1, h2⟩
  rw [List.map_append, List.nodup_append] at n3
  refine ⟨n1, fun e he => ?_, ?_⟩
  · rcases List.mem_append.mp he with he | he
    · obtain ⟨i, -, h2⟩ := mem e he
      exact n2 e (List.mem_append_left _ (List.mem_of_getElem? h2))
    · exact n2 e (List.mem_append_right _ he)
  · rw [List.map_append, List.nodup_append]
    refine ⟨?_, n3.2.1, fun x hx y hy => ?_⟩
    · have hl : is.length = F'.length := by have := congrArg List.length hF; simpa using this
      refine List.pairwise_iff_getElem.mpr fun x y hx hy hxy => ?_
      have hx' : x < F'.length := by simpa using hx
      have hy' : y < F'.length := by simpa using hy
      have gx : F[is[x]'(by omega)]? = some F'[x] := by
        have := congrArg (fun l => l[x]?) hF
        simpa [hx', show x < is.length by omega] using this
      have gy : F[is[y]'(by omega)]? = some F'[y] := by
        have := congrArg (fun l => l[y]?) hF
        simpa [hy', show y < is.length by omega] using this
      have ne : is[x]'(by omega) ≠ is[y]'(by omega) := List.pairwise_iff_getElem.mp hn x y (by omega) (by omega) hxy
      have := nodup_ne n3.1 (i := is[x]'(by omega)) (j := is[y]'(by omega)) (x := F'[x].1) (y := F'[y].1) (by simp [gx]) (by simp [gy]) ne
      simpa using this
    · obtain ⟨e, he, rfl⟩ := List.mem_map.mp hx
      obtain ⟨i, -, h2⟩ := mem e he
      exact n3.2.2 _ (List.mem_map.mpr ⟨e, List.mem_of_getElem? h2, rfl⟩) y hy
theorem OKnow.drop (N : OKnow Z h K) (hi : K[i]? = some (a, P)) (Kp : Keep h h' [a]) : OKnow Z h' (K.eraseIdx i) := by
  obtain ⟨n1, n2, n3⟩ := N
  have ga := (n2 _ (List.mem_of_getElem? hi)).1
  refine ⟨⟨Nat.le_trans n1.1 Kp.1, fun x c q => Kp.2.1 _ _ (n1.2 _ _ q) fun w => ?_⟩, fun e he => ?_, ?_⟩
  · have := List.mem_singleton.mp w
    have hx := (Array.getElem?_eq_some_iff.mp q).1
    rw [this] at hx
    exact absurd hx (Nat.not_lt.mpr ga)
  · obtain ⟨j, hj, hje⟩ := List.mem_eraseIdx_iff_getElem?.mp he
    obtain ⟨g1, c, c1, c2⟩ := n2 _ (List.mem_of_getElem? hje)
    have ne : e.1 ≠ a := nodup_ne n3 (i := j) (j := i) (by simp [hje]) (by simp [hi]) hj
    exact ⟨g1, c, Kp.2.1 _ _ c1 (fun w => ne (List.mem_singleton.mp w)), c2⟩
  · exact List.Pairwise.sublist ((List.eraseIdx_sublist K i).map Prod.fst) n3
theorem OKnow.arv (N : OKnow Z h K) (hi : K[i]? = some (oArr Z a k ty vs)) {n : Int32} {dv : Value} (hn : n.toNatClampNeg = vs.length) (h0 : ¬ n < 0) (hf : ∀ v ∈ vs, fits ty v = true) : Arv Z h a k ty n vs dv := by
  obtain ⟨c, A, h1, h2, -⟩ := N.arr hi
  have hs : c.slots.size = vs.length := by rw [h2]; simp
  refine ⟨c, A, h1, by rw [hs, hn], h0, fun j hj => ?_, fun j hj => ?_⟩
  · rw [hs] at hj; rw [h2]; simp [hj]
  · rw [hs] at hj; simp only [List.getD_eq_getElem?_getD, List.getElem?_eq_getElem hj, Option.getD_some]; exact hf _ (List.getElem_mem hj)
/-- the fields of a new object: laid in the class, at their first values, their names different -/
def LaidL (Z : State) (a0 : Array Value) (C : String) : List FV → Prop
  | [] => True
  | f :: r => (Laid Z a0 C f.1 f.2.1 f.2.2.1 ∧ ∃ ty, parseFieldDescriptor f.2.2.1 = some ty ∧ f.2.2.2 = defaultValue ty) ∧ LaidL Z a0 C r
theorem LaidL.mem {a0 : Array Value} : ∀ (fs : List FV), LaidL Z a0 C fs → ∀ f ∈ fs, Laid Z a0 C f.1 f.2.1 f.2.2.1 ∧ ∃ ty, parseFieldDescriptor f.2.2.1 = some ty ∧ f.2.2.2 = defaultValue ty
  | [], _, _, q => nomatch q
  | _ :: r, L, f, q => (List.mem_cons.mp q).elim (fun e => e ▸ L.1) (LaidL.mem r L.2 f)
theorem LaidL.keys {a0 : Array Value} (L : LaidL Z a0 C fs) (hn : (fs.map fun f => f.2.1).Nodup) : (fs.map (key Z)).Nodup := by
  have M := LaidL.mem fs L
  refine List.pairwise_iff_getElem.mpr fun x y hx hy hxy => ?_
  have hx' : x < fs.length := by simpa using hx
  have hy' : y < fs.length := by simpa using hy
  have q := List.pairwise_iff_getElem.mp hn x y (by simpa using hx') (by simpa using hy') hxy
  simp only [List.getElem_map] at q ⊢
  obtain ⟨L1, t1, p1, -⟩ := M fs[x] (List.getElem_mem hx')
  obtain ⟨L2, t2, p2, -⟩ := M fs[y] (List.getElem_mem hy')
  exact RoadKit.slot_ne L1 L2 q p1 p2
end Kn
/-! Where a run stands, and where it must come. -/
def ONow (p : Program) (l : Launch) (e : Env) (R : Room) (s : State) (m : MethodId) (args : Array Value) (below : List Frame) (meth : Method) (c : Code) (Z : State) (own : String) (cd : ByteArray) (ml : Nat) (ret : Option FieldType) (nm : String) (T : State) (cells slots : Nat) (K : List Ent) : Prop :=
  ∃ locs, Stand p l e R s m args below meth c T locs cells slots ∧ Fr Z.heap.size locs ∧ OKnow Z T.heap K ∧ p.tables.exec = Jvm.exec ∧ Z.Warmed39 s.vm ∧ c.code = cd ∧ c.maxLocals = ml ∧ s.vm.findClass own = some m.cls ∧ meth.sig.returnType = ret ∧ meth.name = nm ∧ meth.locks = false
def OGo (p : Program) (e : Env) (below : List Frame) (Φ : Outcome → State → Prop) (T : State) (g : JFrame) : Prop := ∃ U o, Steps p.tables e below (T.setTop g) U ∧ U.status = .running ∧ Ended U below o ∧ Φ o U
def OPost (Z s : State) (Q : Option Value → List Ent → Prop) (rm : Room) (o : Outcome) (U : State) : Prop := ∃ v L, o = .returned v ∧ (Fr Z.heap.size L ∧ ∃ K', OKnow Z U.heap K' ∧ Q v K') ∧ FrameEnd s o U L rm.cells rm.slots
def OMeets (l : Launch) (y : MethodName) (bytes : ByteArray) (maxL : Nat) (ret : Option FieldType) (rm : Room) (Z : State) (as : List Value) (K : List Ent) (Q : Option Value → List Ent → Prop) : Prop :=
  ∀ (ws : List Cond) (h : Heap), OKnow Z h K → MetFree l y (head1 (Cond.code y bytes maxL ret :: ws) rm) (fun a U => a = as.toArray ∧ Z.Warmed39 U.vm ∧ U.heap = h) (fun _ _ _ _ _ => True) (fun _ U o U' => ∃ v L, o = .returned v ∧ (Fr Z.heap.size L ∧ ∃ K', OKnow Z U'.heap K' ∧ Q v K') ∧ FrameEnd U o U' L rm.cells rm.slots)
section St
variable {p : Program} {l : Launch} {e : Env} {R : Room} {s : State} {m : MethodId} {args : Array Value} {below : List Frame} {meth : Method} {c : Code} {Z : State} {own : String} {cd : ByteArray} {ml : Nat} {ret : Option FieldType} {nm : String} {T : State} {cells slots : Nat} {K : List Ent} {Φ : Outcome → State → Prop} {pc : Nat} {Ls : Array Slot} {st : List Value} {a0 : Array Value}
theorem OMeets.of_body {y : MethodName} {bytes : ByteArray} {maxL : Nat} {rm : Room} {as : List Value} {Q : Option Value → List Ent → Prop} (hpl : plainFor y = true) (Ls : Array Slot) (hL : ∀ m : MethodId, entryFrame m as.toArray maxL = mkF m 0 Ls [])
    (body : ∀ p e s m below meth c T, ONow p l e rm s m as.toArray below meth c Z y.cls bytes maxL ret y.name T 0 0 K → OGo p e below (OPost Z s Q rm) T (mkF m 0 Ls [])) : OMeets l y bytes maxL ret rm Z as K Q := fun ws h hK => by
  refine MetFree.of_bodySF hpl hisR ?_
  intro p e s m args below meth c s₁ Bd hml0 hP _
  obtain ⟨rfl, hZ, hh⟩ := hP
  have X0 : Stand p l e rm s m as.toArray below meth c s₁ [] 0 0 := Stand.of_body Bd
  have e0 : s₁.heap = h := by rw [← hh, Bd.state]; rfl
  rw [hL m]
  exact body p e s m below meth c s₁ ⟨[], X0, Fr.nil _, by rw [e0]; exact hK, Bd.exec, hZ, Bd.bytes, hml0, findClass_of_methodNamed Bd.named, Bd.returns, (name_of_methodNamed Bd.named Bd.method).1, Bd.notSynchronized⟩
theorem OMeets.weak {y : MethodName} {bytes : ByteArray} {maxL : Nat} {rm : Room} {as : List Value} {Q Q' : Option Value → List Ent → Prop} (M : OMeets l y bytes maxL ret rm Z as K Q) (hq : ∀ v K', Q v K' → Q' v K') : OMeets l y bytes maxL ret rm Z as K Q' := fun ws h hK => by
  intro p e ha hc hk s m args below hf happ hP hK2
  obtain ⟨n, o, h1, h2, h3, v, L, h4, ⟨h5, K', h6, h7⟩, h8⟩ := M ws h hK p e ha hc hk s m args below hf happ hP hK2
  exact ⟨n, o, h1, h2, h3, v, L, h4, ⟨h5, K', h6, hq v K' h7⟩, h8⟩
theorem OGo.weak {Φ' : Outcome → State → Prop} {g : JFrame} (G : OGo p e below Φ T g) (hq : ∀ o U, Φ o U → Φ' o U) : OGo p e below Φ' T g := by
  obtain ⟨U, o, h1, h2, h3, h4⟩ := G
  exact ⟨U, o, h1, h2, h3, hq o U h4⟩
theorem ONow.sel {F F' rest : List Ent} (N : ONow p l e R s m args below meth c Z own cd ml ret nm T cells slots (F ++ rest)) (is : List Nat) (hn : is.Nodup) (hF : is.map (fun i => F[i]?) = F'.map some) : ONow p l e R s m args below meth c Z own cd ml ret nm T cells slots (F' ++ rest) := by
  obtain ⟨locs, X, n1, n2, n3⟩ := N
  exact ⟨locs, X, n1, n2.sel is hn hF, n3⟩
theorem ONow.cast {K' : List Ent} (N : ONow p l e R s m args below meth c Z own cd ml ret nm T cells slots K) (q : K = K') : ONow p l e R s m args below meth c Z own cd ml ret nm T cells slots K' := q ▸ N
theorem ONow.more {c' s' : Nat} (N : ONow p l e R s m args below meth c Z own cd ml ret nm T cells slots K) (h1 : cells ≤ c') (h2 : slots ≤ s') : ONow p l e R s m args below meth c Z own cd ml ret nm T c' s' K := by
  obtain ⟨locs, X, n⟩ := N
  exact ⟨locs, X.more h1 h2, n⟩
theorem k_iload (N : ONow p l e R s m args below meth c Z own cd ml ret nm T cells slots K) {k : Nat} {v : Int32} (hd : decode cd pc = .ok (.iload k, 2)) (hl : Ls[k]? = some (.val (.int v))) (hr : OGo p e below Φ T (mkF m (pc + 2) Ls (.int v :: st))) : OGo p e below Φ T (mkF m pc Ls st) := by
  obtain ⟨_, X, -, -, hx, -, hc, -⟩ := N
  obtain ⟨U, o, h1, h2⟩ := hr
  exact ⟨U, o, XS.iload X.here hx rfl (hb hc hd) hl h1, h2⟩
theorem k_iload_n (N : ONow p l e R s m args below meth c Z own cd ml ret nm T cells slots K) {k : Fin 4} {v : Int32} (hd : decode cd pc = .ok (.iload_n k, 1)) (hl : Ls[k.val]? = some (.val (.int v))) (hr : OGo p e below Φ T (mkF m (pc + 1) Ls (.int v :: st))) : OGo p e below Φ T (mkF m pc Ls st) := by
  obtain ⟨_, X, -, -, hx, -, hc, -⟩ := N
  obtain ⟨U, o, h1, h2⟩ := hr
  exact ⟨U, o, XS.iloadN X.here hx rfl (hb hc hd) hl h1, h2⟩
theorem k_istore (N : ONow p l e R s m args below meth c Z own cd ml ret nm T cells slots K) {k : Nat} {v : Int32} {Ls' : Array Slot} (hd : decode cd pc = .ok (.istore k, 2)) (hl : storeLocals Ls k (.int v) = some Ls') (hr : OGo p e below Φ T (mkF m (pc + 2) Ls' st)) : OGo p e below Φ T (mkF m pc Ls (.int v :: st)) := by
  obtain ⟨_, X, -, -, hx, -, hc, -⟩ := N
  obtain ⟨U, o, h1, h2⟩ := hr
  exact ⟨U, o, XS.istore X.here hx rfl (hb hc hd) rfl hl h1, h2⟩
theorem k_istore_n (N : ONow p l e R s m args below meth c Z own cd ml ret nm T cells slots K) {k : Fin 4} {v : Int32} {Ls' : Array Slot} (hd : decode cd pc = .ok (.istore_n k, 1)) (hl : storeLocals Ls k.val (.int v) = some Ls') (hr : OGo p e below Φ T (mkF m (pc + 1) Ls' st)) : OGo p e below Φ T (mkF m pc Ls (.int v :: st)) := by
  obtain ⟨_, X, -, -, hx, -, hc, -⟩ := N
  obtain ⟨U, o, h1, h2⟩ := hr
  exact ⟨U, o, XS.istoreN X.here hx rfl (hb hc hd) rfl hl h1, h2⟩
theorem k_lload (N : ONow p l e R s m args below meth c Z own cd ml ret nm T cells slots K) {k : Nat} {v : Int64} (hd : decode cd pc = .ok (.lload k, 2)) (hl : Ls[k]? = some (.val (.long v))) (hr : OGo p e below Φ T (mkF m (pc + 2) Ls (.long v :: st))) : OGo p e below Φ T (mkF m pc Ls st) := by
  obtain ⟨_, X, -, -, hx, -, hc, -⟩ := N
  obtain ⟨U, o, h1, h2⟩ := hr
  exact ⟨U, o, XT.lload X.here hx rfl (hb hc hd) hl h1, h2⟩
theorem k_lload_n (N : ONow p l e R s m args below meth c Z own cd ml ret nm T cells slots K) {k : Fin 4} {v : Int64} (hd : decode cd pc = .ok (.lload_n k, 1)) (hl : Ls[k.val]? = some (.val (.long v))) (hr : OGo p e below Φ T (mkF m (pc + 1) Ls (.long v :: st))) : OGo p e below Φ T (mkF m pc Ls st) := by
  obtain ⟨_, X, -, -, hx, -, hc, -⟩ := N
  obtain ⟨U, o, h1, h2⟩ := hr
  exact ⟨U, o, XT.lloadN X.here hx rfl (hb hc hd) hl h1, h2⟩
theorem k_lstore (N : ONow p l e R s m args below meth c Z own cd ml ret nm T cells slots K) {k : Nat} {v : Int64} {Ls' : Array Slot} (hd : decode cd pc = .ok (.lstore k, 2)) (hl : storeLocals Ls k (.long v) = some Ls') (hr : OGo p e below Φ T (mkF m (pc + 2) Ls' st)) : OGo p e below Φ T (mkF m pc Ls (.long v :: st)) := by
  obtain ⟨_, X, -, -, hx, -, hc, -⟩ := N
  obtain ⟨U, o, h1, h2⟩ := hr
  exact ⟨U, o, XT.lstore X.here hx rfl (hb hc hd) rfl hl h1, h2⟩
theorem k_lstore_n (N : ONow p l e R s m args below meth c Z own cd ml ret nm T cells slots K) {k : Fin 4} {v : Int64} {Ls' : Array Slot} (hd : decode cd pc = .ok (.lstore_n k, 1)) (hl : storeLocals Ls k.val (.long v) = some Ls') (hr : OGo p e below Φ T (mkF m (pc + 1) Ls' st)) : OGo p e below Φ T (mkF m pc Ls (.long v :: st)) := by
  obtain ⟨_, X, -, -, hx, -, hc, -⟩ := N
  obtain ⟨U, o, h1, h2⟩ := hr
  exact ⟨U, o, XT.lstoreN X.here hx rfl (hb hc hd) rfl hl h1, h2⟩
theorem k_dload (N : ONow p l e R s m args below meth c Z own cd ml ret nm T cells slots K) {k : Nat} {v : UInt64} (hd : decode cd pc = .ok (.dload k, 2)) (hl : Ls[k]? = some (.val (.double v))) (hr : OGo p e below Φ T (mkF m (pc + 2) Ls (.double v :: st))) : OGo p e below Φ T (mkF m pc Ls st) := by
  obtain ⟨_, X, -, -, hx, -, hc, -⟩ := N
  obtain ⟨U, o, h1, h2⟩ := hr
  exact ⟨U, o, XS.dload X.here hx rfl (hb hc hd) hl h1, h2⟩
theorem k_dload_n (N : ONow p l e R s m args below meth c Z own cd ml ret nm T cells slots K) {k : Fin 4} {v : UInt64} (hd : decode cd pc = .ok (.dload_n k, 1)) (hl : Ls[k.val]? = some (.val (.double v))) (hr : OGo p e below Φ T (mkF m (pc + 1) Ls (.double v :: st))) : OGo p e below Φ T (mkF m pc Ls st) := by
  obtain ⟨_, X, -, -, hx, -, hc, -⟩ := N
  obtain ⟨U, o, h1, h2⟩ := hr
  exact ⟨U, o, XS.dloadN X.here hx rfl (hb hc hd) hl h1, h2⟩
theorem k_dstore (N : ONow p l e R s m args below meth c Z own cd ml ret nm T cells slots K) {k : Nat} {v : UInt64} {Ls' : Array Slot} (hd : decode cd pc = .ok (.dstore k, 2)) (hl : storeLocals Ls k (.double v) = some Ls') (hr : OGo p e below Φ T (mkF m (pc + 2) Ls' st)) : OGo p e below Φ T (mkF m pc Ls (.double v :: st)) := by
  obtain ⟨_, X, -, -, hx, -, hc, -⟩ := N
  obtain ⟨U, o, h1, h2⟩ := hr
  exact ⟨U, o, XS.dstore X.here hx rfl (hb hc hd) rfl hl h1, h2⟩
theorem k_dstore_n (N : ONow p l e R s m args below meth c Z own cd ml ret nm T cells slots K) {k : Fin 4} {v : UInt64} {Ls' : Array Slot} (hd : decode cd pc = .ok (.dstore_n k, 1)) (hl : storeLocals Ls k.val (.double v) = some Ls') (hr : OGo p e below Φ T (mkF m (pc + 1) Ls' st)) : OGo p e below Φ T (mkF m pc Ls (.double v :: st)) := by
  obtain ⟨_, X, -, -, hx, -, hc, -⟩ := N
  obtain ⟨U, o, h1, h2⟩ := hr
  exact ⟨U, o, XS.dstoreN X.here hx rfl (hb hc hd) rfl hl h1, h2⟩
theorem k_aload (N : ONow p l e R s m args below meth c Z own cd ml ret nm T cells slots K) {k : Nat} {v : Value} (hd : decode cd pc = .ok (.aload k, 2)) (hl : Ls[k]? = some (.val v)) (hv : v.isRef = true) (hr : OGo p e below Φ T (mkF m (pc + 2) Ls (v :: st))) : OGo p e below Φ T (mkF m pc Ls st) := by
  obtain ⟨_, X, -, -, hx, -, hc, -⟩ := N
  obtain ⟨U, o, h1, h2⟩ := hr
  exact ⟨U, o, XS.aload X.here hx rfl (hb hc hd) hl hv h1, h2⟩
theorem k_aload_n (N : ONow p l e R s m args below meth c Z own cd ml ret nm T cells slots K) {k : Fin 4} {v : Value} (hd : decode cd pc = .ok (.aload_n k, 1)) (hl : Ls[k.val]? = some (.val v)) (hv : v.isRef = true) (hr : OGo p e below Φ T (mkF m (pc + 1) Ls (v :: st))) : OGo p e below Φ T (mkF m pc Ls st) := by
  obtain ⟨_, X, -, -, hx, -, hc, -⟩ := N
  obtain ⟨U, o, h1, h2⟩ := hr
  exact ⟨U, o, XS.aloadN X.here hx rfl (hb hc hd) hl hv h1, h2⟩
theorem k_astore (N : ONow p l e R s m args below meth c Z own cd ml ret nm T cells slots K) {k : Nat} {v : Value} {Ls' : Array Slot} (hd : decode cd pc = .ok (.astore k, 2)) (hv : v.isRef = true) (hl : storeLocals Ls k v = some Ls') (hr : OGo p e below Φ T (mkF m (pc + 2) Ls' st)) : OGo p e below Φ T (mkF m pc Ls (v :: st)) := by
  obtain ⟨_, X, -, -, hx, -, hc, -⟩ := N
  obtain ⟨U, o, h1, h2⟩ := hr
  exact ⟨U, o, XS.astore X.here hx rfl (hb hc hd) rfl hv hl h1, h2⟩
theorem k_astore_n (N : ONow p l e R s m args below meth c Z own cd ml ret nm T cells slots K) {k : Fin 4} {v : Value} {Ls' : Array Slot} (hd : decode cd pc = .ok (.astore_n k, 1)) (hv : v.isRef = true) (hl : storeLocals Ls k.val v = some Ls') (hr : OGo p e below Φ T (mkF m (pc + 1) Ls' st)) : OGo p e below Φ T (mkF m pc Ls (v :: st)) := by
  obtain ⟨_, X, -, -, hx, -, hc, -⟩ := N
  obtain ⟨U, o, h1, h2⟩ := hr
  exact ⟨U, o, XS.astoreN X.here hx rfl (hb hc hd) rfl hv hl h1, h2⟩
theorem k_iconst (N : ONow p l e R s m args below meth c Z own cd ml ret nm T cells slots K) {i : Int} {v : Int32} (hd : decode cd pc = .ok (.iconst i, 1)) (hv : Int32.ofInt i = v) (hr : OGo p e below Φ T (mkF m (pc + 1) Ls (.int v :: st))) : OGo p e below Φ T (mkF m pc Ls st) := by
  subst hv
  obtain ⟨_, X, -, -, hx, -, hc, -⟩ := N
  obtain ⟨U, o, h1, h2⟩ := hr
  exact ⟨U, o, XS.iconst X.here hx rfl (hb hc hd) h1, h2⟩
theorem k_bipush (N : ONow p l e R s m args below meth c Z own cd ml ret nm T cells slots K) {i : Int} {v : Int32} (hd : decode cd pc = .ok (.bipush i, 2)) (hv : (Int8.ofInt i).toInt32 = v) (hr : OGo p e below Φ T (mkF m (pc + 2) Ls (.int v :: st))) : OGo p e below Φ T (mkF m pc Ls st) := by
  subst hv
  obtain ⟨_, X, -, -, hx, -, hc, -⟩ := N
  obtain ⟨U, o, h1, h2⟩ := hr
  exact ⟨U, o, XS.bipush X.here hx rfl (hb hc hd) h1, h2⟩
theorem k_sipush (N : ONow p l e R s m args below meth c Z own cd ml ret nm T cells slots K) {i : Int} {v : Int32} (hd : decode cd pc = .ok (.sipush i, 3)) (hv : (Int16.ofInt i).toInt32 = v) (hr : OGo p e below Φ T (mkF m (pc + 3) Ls (.int v :: st))) : OGo p e below Φ T (mkF m pc Ls st) := by
  subst hv
  obtain ⟨_, X, -, -, hx, -, hc, -⟩ := N
  obtain ⟨U, o, h1, h2⟩ := hr
  exact ⟨U, o, XS.sipush X.here hx rfl (hb hc hd) h1, h2⟩
theorem k_lconst (N : ONow p l e R s m args below meth c Z own cd ml ret nm T cells slots K) {k : Fin 2} {v : Int64} (hd : decode cd pc = .ok (.lconst k, 1)) (hv : Int64.ofNat k = v) (hr : OGo p e below Φ T (mkF m (pc + 1) Ls (.long v :: st))) : OGo p e below Φ T (mkF m pc Ls st) := by
  subst hv
  obtain ⟨_, X, -, -, hx, -, hc, -⟩ := N
  obtain ⟨U, o, h1, h2⟩ := hr
  exact ⟨U, o, XT.lconst X.here hx rfl (hb hc hd) h1, h2⟩
theorem k_dconst0 (N : ONow p l e R s m args below meth c Z own cd ml ret nm T cells slots K) {v : UInt64} (hd : decode cd pc = .ok (.dconst 0, 1)) (hv : FP.dconst0 = v) (hr : OGo p e below Φ T (mkF m (pc + 1) Ls (.double v :: st))) : OGo p e below Φ T (mkF m pc Ls st) := by
  obtain ⟨_, X, -, -, hx, -, hc, -⟩ := N
  obtain ⟨U, o, h1, h2⟩ := hr
  exact ⟨U, o, XS.dconst0 X.here hx rfl (hb hc hd) hv h1, h2⟩
theorem k_dconst1 (N : ONow p l e R s m args below meth c Z own cd ml ret nm T cells slots K) {v : UInt64} (hd : decode cd pc = .ok (.dconst 1, 1)) (hv : FP.dconst1 = v) (hr : OGo p e below Φ T (mkF m (pc + 1) Ls (.double v :: st))) : OGo p e below Φ T (mkF m pc Ls st) := by
  obtain ⟨_, X, -, -, hx, -, hc, -⟩ := N
  obtain ⟨U, o, h1, h2⟩ := hr
  exact ⟨U, o, XS.dconst1 X.here hx rfl (hb hc hd) hv h1, h2⟩
theorem k_null (N : ONow p l e R s m args below meth c Z own cd ml ret nm T cells slots K) (hd : decode cd pc = .ok (.aconst_null, 1)) (hr : OGo p e below Φ T (mkF m (pc + 1) Ls (.null :: st))) : OGo p e below Φ T (mkF m pc Ls st) := by
  obtain ⟨_, X, -, -, hx, -, hc, -⟩ := N
  obtain ⟨U, o, h1, h2⟩ := hr
  exact ⟨U, o, XS.aconstNull X.here hx rfl (hb hc hd) h1, h2⟩
theorem k_iadd (N : ONow p l e R s m args below meth c Z own cd ml ret nm T cells slots K) {x y : Int32} (hd : decode cd pc = .ok (.iadd, 1)) (hr : OGo p e below Φ T (mkF m (pc + 1) Ls (.int (x + y) :: st))) : OGo p e below Φ T (mkF m pc Ls (.int y :: .int x :: st)) := by
  obtain ⟨_, X, -, -, hx, -, hc, -⟩ := N
  obtain ⟨U, o, h1, h2⟩ := hr
  exact ⟨U, o, XS.iadd X.here hx rfl (hb hc hd) rfl h1, h2⟩
theorem k_isub (N : ONow p l e R s m args below meth c Z own cd ml ret nm T cells slots K) {x y : Int32} (hd : decode cd pc = .ok (.isub, 1)) (hr : OGo p e below Φ T (mkF m (pc + 1) Ls (.int (x - y) :: st))) : OGo p e below Φ T (mkF m pc Ls (.int y :: .int x :: st)) := by
  obtain ⟨_, X, -, -, hx, -, hc, -⟩ := N
  obtain ⟨U, o, h1, h2⟩ := hr
  exact ⟨U, o, XS.isub X.here hx rfl (hb hc hd) rfl h1, h2⟩
theorem k_imul (N : ONow p l e R s m args below meth c Z own cd ml ret nm T cells slots K) {x y : Int32} (hd : decode cd pc = .ok (.imul, 1)) (hr : OGo p e below Φ T (mkF m (pc + 1) Ls (.int (x * y) :: st))) : OGo p e below Φ T (mkF m pc Ls (.int y :: .int x :: st)) := by
  obtain ⟨_, X, -, -, hx, -, hc, -⟩ := N
  obtain ⟨U, o, h1, h2⟩ := hr
  exact ⟨U, o, XS.imul X.here hx rfl (hb hc hd) rfl h1, h2⟩
theorem k_iand (N : ONow p l e R s m args below meth c Z own cd ml ret nm T cells slots K) {x y : Int32} (hd : decode cd pc = .ok (.iand, 1)) (hr : OGo p e below Φ T (mkF m (pc + 1) Ls (.int (x &&& y) :: st))) : OGo p e below Φ T (mkF m pc Ls (.int y :: .int x :: st)) := by
  obtain ⟨_, X, -, -, hx, -, hc, -⟩ := N
  obtain ⟨U, o, h1, h2⟩ := hr
  exact ⟨U, o, XS.iand X.here hx rfl (hb hc hd) rfl h1, h2⟩
theorem k_ixor (N : ONow p l e R s m args below meth c Z own cd ml ret nm T cells slots K) {x y : Int32} (hd : decode cd pc = .ok (.ixor, 1)) (hr : OGo p e below Φ T (mkF m (pc + 1) Ls (.int (x ^^^ y) :: st))) : OGo p e below Φ T (mkF m pc Ls (.int y :: .int x :: st)) := by
  obtain ⟨_, X, -, -, hx, -, hc, -⟩ := N
  obtain ⟨U, o, h1, h2⟩ := hr
  exact ⟨U, o, XT.ixor X.here hx rfl (hb hc hd) rfl h1, h2⟩
theorem k_ior (N : ONow p l e R s m args below meth c Z own cd ml ret nm T cells slots K) {x y : Int32} (hd : decode cd pc = .ok (.ior, 1)) (hr : OGo p e below Φ T (mkF m (pc + 1) Ls (.int (x ||| y) :: st))) : OGo p e below Φ T (mkF m pc Ls (.int y :: .int x :: st)) := by
  obtain ⟨_, X, -, -, hx, -, hc, -⟩ := N
  obtain ⟨U, o, h1, h2⟩ := hr
  exact ⟨U, o, XT.ior X.here hx rfl (hb hc hd) rfl h1, h2⟩
theorem k_ishl (N : ONow p l e R s m args below meth c Z own cd ml ret nm T cells slots K) {x y : Int32} (hd : decode cd pc = .ok (.ishl, 1)) (hr : OGo p e below Φ T (mkF m (pc + 1) Ls (.int (x <<< (y &&& 31)) :: st))) : OGo p e below Φ T (mkF m pc Ls (.int y :: .int x :: st)) := by
  obtain ⟨_, X, -, -, hx, -, hc, -⟩ := N
  obtain ⟨U, o, h1, h2⟩ := hr
  exact ⟨U, o, XT.ishl X.here hx rfl (hb hc hd) rfl h1, h2⟩
theorem k_ishr (N : ONow p l e R s m args below meth c Z own cd ml ret nm T cells slots K) {x y : Int32} (hd : decode cd pc = .ok (.ishr, 1)) (hr : OGo p e below Φ T (mkF m (pc + 1) Ls (.int (x >>> (y &&& 31)) :: st))) : OGo p e below Φ T (mkF m pc Ls (.int y :: .int x :: st)) := by
  obtain ⟨_, X, -, -, hx, -, hc, -⟩ := N
  obtain ⟨U, o, h1, h2⟩ := hr
  exact ⟨U, o, XT.ishr X.here hx rfl (hb hc hd) rfl h1, h2⟩
theorem k_iushr (N : ONow p l e R s m args below meth c Z own cd ml ret nm T cells slots K) {x y : Int32} (hd : decode cd pc = .ok (.iushr, 1)) (hr : OGo p e below Φ T (mkF m (pc + 1) Ls (.int (XT.ushr x y) :: st))) : OGo p e below Φ T (mkF m pc Ls (.int y :: .int x :: st)) := by
  obtain ⟨_, X, -, -, hx, -, hc, -⟩ := N
  obtain ⟨U, o, h1, h2⟩ := hr
  exact ⟨U, o, XT.iushr X.here hx rfl (hb hc hd) rfl h1, h2⟩
theorem k_idiv (N : ONow p l e R s m args below meth c Z own cd ml ret nm T cells slots K) {x y : Int32} (hd : decode cd pc = .ok (.idiv, 1)) (hy : y ≠ 0) (hr : OGo p e below Φ T (mkF m (pc + 1) Ls (.int (x / y) :: st))) : OGo p e below Φ T (mkF m pc Ls (.int y :: .int x :: st)) := by
  obtain ⟨_, X, -, -, hx, -, hc, -⟩ := N
  obtain ⟨U, o, h1, h2⟩ := hr
  exact ⟨U, o, XS.idiv X.here hx rfl (hb hc hd) rfl hy h1, h2⟩
theorem k_irem (N : ONow p l e R s m args below meth c Z own cd ml ret nm T cells slots K) {x y : Int32} (hd : decode cd pc = .ok (.irem, 1)) (hy : y ≠ 0) (hr : OGo p e below Φ T (mkF m (pc + 1) Ls (.int (x % y) :: st))) : OGo p e below Φ T (mkF m pc Ls (.int y :: .int x :: st)) := by
  obtain ⟨_, X, -, -, hx, -, hc, -⟩ := N
  obtain ⟨U, o, h1, h2⟩ := hr
  exact ⟨U, o, iremM X hx rfl (hb hc hd) rfl hy h1, h2⟩
theorem k_ineg (N : ONow p l e R s m args below meth c Z own cd ml ret nm T cells slots K) {x : Int32} (hd : decode cd pc = .ok (.ineg, 1)) (hr : OGo p e below Φ T (mkF m (pc + 1) Ls (.int (-x) :: st))) : OGo p e below Φ T (mkF m pc Ls (.int x :: st)) := by
  obtain ⟨_, X, -, -, hx, -, hc, -⟩ := N
  obtain ⟨U, o, h1, h2⟩ := hr
  exact ⟨U, o, XS.ineg X.here hx rfl (hb hc hd) rfl h1, h2⟩
theorem k_ladd (N : ONow p l e R s m args below meth c Z own cd ml ret nm T cells slots K) {x y : Int64} (hd : decode cd pc = .ok (.ladd, 1)) (hr : OGo p e below Φ T (mkF m (pc + 1) Ls (.long (x + y) :: st))) : OGo p e below Φ T (mkF m pc Ls (.long y :: .long x :: st)) := by
  obtain ⟨_, X, -, -, hx, -, hc, -⟩ := N
  obtain ⟨U, o, h1, h2⟩ := hr
  exact ⟨U, o, XT.ladd X.here hx rfl (hb hc hd) rfl h1, h2⟩
theorem k_lsub (N : ONow p l e R s m args below meth c Z own cd ml ret nm T cells slots K) {x y : Int64} (hd : decode cd pc = .ok (.lsub, 1)) (hr : OGo p e below Φ T (mkF m (pc + 1) Ls (.long (x - y) :: st))) : OGo p e below Φ T (mkF m pc Ls (.long y :: .long x :: st)) := by
  obtain ⟨_, X, -, -, hx, -, hc, -⟩ := N
  obtain ⟨U, o, h1, h2⟩ := hr
  exact ⟨U, o, XT.lsub X.here hx rfl (hb hc hd) rfl h1, h2⟩
theorem k_lmul (N : ONow p l e R s m args below meth c Z own cd ml ret nm T cells slots K) {x y : Int64} (hd : decode cd pc = .ok (.lmul, 1)) (hr : OGo p e below Φ T (mkF m (pc + 1) Ls (.long (x * y) :: st))) : OGo p e below Φ T (mkF m pc Ls (.long y :: .long x :: st)) := by
  obtain ⟨_, X, -, -, hx, -, hc, -⟩ := N
  obtain ⟨U, o, h1, h2⟩ := hr
  exact ⟨U, o, XT.lmul X.here hx rfl (hb hc hd) rfl h1, h2⟩
theorem k_land (N : ONow p l e R s m args below meth c Z own cd ml ret nm T cells slots K) {x y : Int64} (hd : decode cd pc = .ok (.land, 1)) (hr : OGo p e below Φ T (mkF m (pc + 1) Ls (.long (x &&& y) :: st))) : OGo p e below Φ T (mkF m pc Ls (.long y :: .long x :: st)) := by
  obtain ⟨_, X, -, -, hx, -, hc, -⟩ := N
  obtain ⟨U, o, h1, h2⟩ := hr
  exact ⟨U, o, XT.land X.here hx rfl (hb hc hd) rfl h1, h2⟩
theorem k_lor (N : ONow p l e R s m args below meth c Z own cd ml ret nm T cells slots K) {x y : Int64} (hd : decode cd pc = .ok (.lor, 1)) (hr : OGo p e below Φ T (mkF m (pc + 1) Ls (.long (x ||| y) :: st))) : OGo p e below Φ T (mkF m pc Ls (.long y :: .long x :: st)) := by
  obtain ⟨_, X, -, -, hx, -, hc, -⟩ := N
  obtain ⟨U, o, h1, h2⟩ := hr
  exact ⟨U, o, XT.lor X.here hx rfl (hb hc hd) rfl h1, h2⟩
theorem k_lxor (N : ONow p l e R s m args below meth c Z own cd ml ret nm T cells slots K) {x y : Int64} (hd : decode cd pc = .ok (.lxor, 1)) (hr : OGo p e below Φ T (mkF m (pc + 1) Ls (.long (x ^^^ y) :: st))) : OGo p e below Φ T (mkF m pc Ls (.long y :: .long x :: st)) := by
  obtain ⟨_, X, -, -, hx, -, hc, -⟩ := N
  obtain ⟨U, o, h1, h2⟩ := hr
  exact ⟨U, o, XT.lxor X.here hx rfl (hb hc hd) rfl h1, h2⟩
theorem k_lshl (N : ONow p l e R s m args below meth c Z own cd ml ret nm T cells slots K) {x : Int64} {y : Int32} (hd : decode cd pc = .ok (.lshl, 1)) (hr : OGo p e below Φ T (mkF m (pc + 1) Ls (.long (x <<< (y.toInt64 &&& 63)) :: st))) : OGo p e below Φ T (mkF m pc Ls (.int y :: .long x :: st)) := by
  obtain ⟨_, X, -, -, hx, -, hc, -⟩ := N
  obtain ⟨U, o, h1, h2⟩ := hr
  exact ⟨U, o, XT.lshl X.here hx rfl (hb hc hd) rfl h1, h2⟩
theorem k_lshr (N : ONow p l e R s m args below meth c Z own cd ml ret nm T cells slots K) {x : Int64} {y : Int32} (hd : decode cd pc = .ok (.lshr, 1)) (hr : OGo p e below Φ T (mkF m (pc + 1) Ls (.long (x >>> (y.toInt64 &&& 63)) :: st))) : OGo p e below Φ T (mkF m pc Ls (.int y :: .long x :: st)) := by
  obtain ⟨_, X, -, -, hx, -, hc, -⟩ := N
  obtain ⟨U, o, h1, h2⟩ := hr
  exact ⟨U, o, XT.lshr X.here hx rfl (hb hc hd) rfl h1, h2⟩
theorem k_lushr (N : ONow p l e R s m args below meth c Z own cd ml ret nm T cells slots K) {x : Int64} {y : Int32} (hd : decode cd pc = .ok (.lushr, 1)) (hr : OGo p e below Φ T (mkF m (pc + 1) Ls (.long (XT.ushrL x y) :: st))) : OGo p e below Φ T (mkF m pc Ls (.int y :: .long x :: st)) := by
  obtain ⟨_, X, -, -, hx, -, hc, -⟩ := N
  obtain ⟨U, o, h1, h2⟩ := hr
  exact ⟨U, o, XT.lushr X.here hx rfl (hb hc hd) rfl h1, h2⟩
theorem k_lcmp (N : ONow p l e R s m args below meth c Z own cd ml ret nm T cells slots K) {x y : Int64} (hd : decode cd pc = .ok (.lcmp, 1)) (hr : OGo p e below Φ T (mkF m (pc + 1) Ls (.int (XT.cmpL x y) :: st))) : OGo p e below Φ T (mkF m pc Ls (.long y :: .long x :: st)) := by
  obtain ⟨_, X, -, -, hx, -, hc, -⟩ := N
  obtain ⟨U, o, h1, h2⟩ := hr
  exact ⟨U, o, XT.lcmp X.here hx rfl (hb hc hd) rfl h1, h2⟩
theorem k_i2l (N : ONow p l e R s m args below meth c Z own cd ml ret nm T cells slots K) {x : Int32} (hd : decode cd pc = .ok (.i2l, 1)) (hr : OGo p e below Φ T (mkF m (pc + 1) Ls (.long x.toInt64 :: st))) : OGo p e below Φ T (mkF m pc Ls (.int x :: st)) := by
  obtain ⟨_, X, -, -, hx, -, hc, -⟩ := N
  obtain ⟨U, o, h1, h2⟩ := hr
  exact ⟨U, o, XT.i2l X.here hx rfl (hb hc hd) rfl h1, h2⟩
theorem k_l2i (N : ONow p l e R s m args below meth c Z own cd ml ret nm T cells slots K) {x : Int64} (hd : decode cd pc = .ok (.l2i, 1)) (hr : OGo p e below Φ T (mkF m (pc + 1) Ls (.int x.toInt32 :: st))) : OGo p e below Φ T (mkF m pc Ls (.long x :: st)) := by
  obtain ⟨_, X, -, -, hx, -, hc, -⟩ := N
  obtain ⟨U, o, h1, h2⟩ := hr
  exact ⟨U, o, XT.l2i X.here hx rfl (hb hc hd) rfl h1, h2⟩
theorem k_i2b (N : ONow p l e R s m args below meth c Z own cd ml ret nm T cells slots K) {x : Int32} (hd : decode cd pc = .ok (.i2b, 1)) (hr : OGo p e below Φ T (mkF m (pc + 1) Ls (.int x.toInt8.toInt32 :: st))) : OGo p e below Φ T (mkF m pc Ls (.int x :: st)) := by
  obtain ⟨_, X, -, -, hx, -, hc, -⟩ := N
  obtain ⟨U, o, h1, h2⟩ := hr
  exact ⟨U, o, XT.i2b X.here hx rfl (hb hc hd) rfl h1, h2⟩
theorem k_i2c (N : ONow p l e R s m args below meth c Z own cd ml ret nm T cells slots K) {x : Int32} (hd : decode cd pc = .ok (.i2c, 1)) (hr : OGo p e below Φ T (mkF m (pc + 1) Ls (.int x.toUInt32.toUInt16.toUInt32.toInt32 :: st))) : OGo p e below Φ T (mkF m pc Ls (.int x :: st)) := by
  obtain ⟨_, X, -, -, hx, -, hc, -⟩ := N
  obtain ⟨U, o, h1, h2⟩ := hr
  exact ⟨U, o, XT.i2c X.here hx rfl (hb hc hd) rfl h1, h2⟩
theorem k_i2s (N : ONow p l e R s m args below meth c Z own cd ml ret nm T cells slots K) {x : Int32} (hd : decode cd pc = .ok (.i2s, 1)) (hr : OGo p e below Φ T (mkF m (pc + 1) Ls (.int x.toInt16.toInt32 :: st))) : OGo p e below Φ T (mkF m pc Ls (.int x :: st)) := by
  obtain ⟨_, X, -, -, hx, -, hc, -⟩ := N
  obtain ⟨U, o, h1, h2⟩ := hr
  exact ⟨U, o, XT.i2s X.here hx rfl (hb hc hd) rfl h1, h2⟩
theorem k_i2d (N : ONow p l e R s m args below meth c Z own cd ml ret nm T cells slots K) {x : Int32} (hd : decode cd pc = .ok (.i2d, 1)) (hr : OGo p e below Φ T (mkF m (pc + 1) Ls (.double (FP.i2d x) :: st))) : OGo p e below Φ T (mkF m pc Ls (.int x :: st)) := by
  obtain ⟨_, X, -, -, hx, -, hc, -⟩ := N
  obtain ⟨U, o, h1, h2⟩ := hr
  exact ⟨U, o, XS.i2dS X.here hx rfl (hb hc hd) rfl rfl h1, h2⟩
theorem k_l2d (N : ONow p l e R s m args below meth c Z own cd ml ret nm T cells slots K) {x : Int64} (hd : decode cd pc = .ok (.l2d, 1)) (hr : OGo p e below Φ T (mkF m (pc + 1) Ls (.double (FP.l2d x) :: st))) : OGo p e below Φ T (mkF m pc Ls (.long x :: st)) := by
  obtain ⟨_, X, -, -, hx, -, hc, -⟩ := N
  obtain ⟨U, o, h1, h2⟩ := hr
  exact ⟨U, o, XS.l2dS X.here hx rfl (hb hc hd) rfl rfl h1, h2⟩
theorem k_d2i (N : ONow p l e R s m args below meth c Z own cd ml ret nm T cells slots K) {x : UInt64} (hd : decode cd pc = .ok (.d2i, 1)) (hr : OGo p e below Φ T (mkF m (pc + 1) Ls (.int (FP.d2i x) :: st))) : OGo p e below Φ T (mkF m pc Ls (.double x :: st)) := by
  obtain ⟨_, X, -, -, hx, -, hc, -⟩ := N
  obtain ⟨U, o, h1, h2⟩ := hr
  exact ⟨U, o, XS.d2iS X.here hx rfl (hb hc hd) rfl rfl h1, h2⟩
theorem k_d2l (N : ONow p l e R s m args below meth c Z own cd ml ret nm T cells slots K) {x : UInt64} (hd : decode cd pc = .ok (.d2l, 1)) (hr : OGo p e below Φ T (mkF m (pc + 1) Ls (.long (FP.d2l x) :: st))) : OGo p e below Φ T (mkF m pc Ls (.double x :: st)) := by
  obtain ⟨_, X, -, -, hx, -, hc, -⟩ := N
  obtain ⟨U, o, h1, h2⟩ := hr
  exact ⟨U, o, XS.d2lS X.here hx rfl (hb hc hd) rfl rfl h1, h2⟩
theorem k_dneg (N : ONow p l e R s m args below meth c Z own cd ml ret nm T cells slots K) {x : UInt64} (hd : decode cd pc = .ok (.dneg, 1)) (hr : OGo p e below Φ T (mkF m (pc + 1) Ls (.double (FP.dneg x) :: st))) : OGo p e below Φ T (mkF m pc Ls (.double x :: st)) := by
  obtain ⟨_, X, -, -, hx, -, hc, -⟩ := N
  obtain ⟨U, o, h1, h2⟩ := hr
  exact ⟨U, o, XS.dnegS X.here hx rfl (hb hc hd) rfl rfl h1, h2⟩
theorem k_dadd (N : ONow p l e R s m args below meth c Z own cd ml ret nm T cells slots K) {x y v : UInt64} (hd : decode cd pc = .ok (.dadd, 1)) (hn : Jvm.Free.Fl.NoNaN64 (FP.dadd x y)) (hv : FP.dadd x y = v) (hr : OGo p e below Φ T (mkF m (pc + 1) Ls (.double v :: st))) : OGo p e below Φ T (mkF m pc Ls (.double y :: .double x :: st)) := by
  obtain ⟨_, X, -, -, hx, -, hc, -⟩ := N
  obtain ⟨U, o, h1, h2⟩ := hr
  exact ⟨U, o, XS.daddS X.here hx rfl (hb hc hd) rfl hn hv h1, h2⟩
theorem k_dsub (N : ONow p l e R s m args below meth c Z own cd ml ret nm T cells slots K) {x y v : UInt64} (hd : decode cd pc = .ok (.dsub, 1)) (hn : Jvm.Free.Fl.NoNaN64 (FP.dsub x y)) (hv : FP.dsub x y = v) (hr : OGo p e below Φ T (mkF m (pc + 1) Ls (.double v :: st))) : OGo p e below Φ T (mkF m pc Ls (.double y :: .double x :: st)) := by
  obtain ⟨_, X, -, -, hx, -, hc, -⟩ := N
  obtain ⟨U, o, h1, h2⟩ := hr
  exact ⟨U, o, XS.dsubS X.here hx rfl (hb hc hd) rfl hn hv h1, h2⟩
theorem k_dmul (N : ONow p l e R s m args below meth c Z own cd ml ret nm T cells slots K) {x y v : UInt64} (hd : decode cd pc = .ok (.dmul, 1)) (hn : Jvm.Free.Fl.NoNaN64 (FP.dmul x y)) (hv : FP.dmul x y = v) (hr : OGo p e below Φ T (mkF m (pc + 1) Ls (.double v :: st))) : OGo p e below Φ T (mkF m pc Ls (.double y :: .double x :: st)) := by
  obtain ⟨_, X, -, -, hx, -, hc, -⟩ := N
  obtain ⟨U, o, h1, h2⟩ := hr
  exact ⟨U, o, XS.dmulS X.here hx rfl (hb hc hd) rfl hn hv h1, h2⟩
theorem k_ddiv (N : ONow p l e R s m args below meth c Z own cd ml ret nm T cells slots K) {x y v : UInt64} (hd : decode cd pc = .ok (.ddiv, 1)) (hn : Jvm.Free.Fl.NoNaN64 (FP.ddiv x y)) (hv : FP.ddiv x y = v) (hr : OGo p e below Φ T (mkF m (pc + 1) Ls (.double v :: st))) : OGo p e below Φ T (mkF m pc Ls (.double y :: .double x :: st)) := by
  obtain ⟨_, X, -, -, hx, -, hc, -⟩ := N
  obtain ⟨U, o, h1, h2⟩ := hr
  exact ⟨U, o, XS.ddivS X.here hx rfl (hb hc hd) rfl hn hv h1, h2⟩
theorem k_dcmp (N : ONow p l e R s m args below meth c Z own cd ml ret nm T cells slots K) {k : CmpOp} {x y : UInt64} {v : Int32} (hd : decode cd pc = .ok (.dcmp k, 1)) (hv : cmpValue (FP.dcmp x y) k = v) (hr : OGo p e below Φ T (mkF m (pc + 1) Ls (.int v :: st))) : OGo p e below Φ T (mkF m pc Ls (.double y :: .double x :: st)) := by
  obtain ⟨_, X, -, -, hx, -, hc, -⟩ := N
  obtain ⟨U, o, h1, h2⟩ := hr
  exact ⟨U, o, XS.dcmpS X.here hx rfl (hb hc hd) rfl hv h1, h2⟩
theorem k_pop (N : ONow p l e R s m args below meth c Z own cd ml ret nm T cells slots K) {x : Value} (hd : decode cd pc = .ok (.pop, 1)) (hk1 : x.category = 1) (hr : OGo p e below Φ T (mkF m (pc + 1) Ls st)) : OGo p e below Φ T (mkF m pc Ls (x :: st)) := by
  obtain ⟨_, X, -, -, hx, -, hc, -⟩ := N
  obtain ⟨U, o, h1, h2⟩ := hr
  exact ⟨U, o, XT.pop X.here hx rfl (hb hc hd) rfl hk1 h1, h2⟩
theorem k_dup (N : ONow p l e R s m args below meth c Z own cd ml ret nm T cells slots K) {x : Value} (hd : decode cd pc = .ok (.dup, 1)) (hk1 : x.category = 1) (hr : OGo p e below Φ T (mkF m (pc + 1) Ls (x :: x :: st))) : OGo p e below Φ T (mkF m pc Ls (x :: st)) := by
  obtain ⟨_, X, -, -, hx, -, hc, -⟩ := N
  obtain ⟨U, o, h1, h2⟩ := hr
  exact ⟨U, o, XS.dup X.here hx rfl (hb hc hd) rfl hk1 h1, h2⟩
theorem k_dup_x1 (N : ONow p l e R s m args below meth c Z own cd ml ret nm T cells slots K) {x y : Value} (hd : decode cd pc = .ok (.dup_x1, 1)) (hk1 : x.category = 1) (hk2 : y.category = 1) (hr : OGo p e below Φ T (mkF m (pc + 1) Ls (x :: y :: x :: st))) : OGo p e below Φ T (mkF m pc Ls (x :: y :: st)) := by
  obtain ⟨_, X, -, -, hx, -, hc, -⟩ := N
  obtain ⟨U, o, h1, h2⟩ := hr
  exact ⟨U, o, XT.dupX1 X.here hx rfl (hb hc hd) rfl hk1 hk2 h1, h2⟩
theorem k_dup2 (N : ONow p l e R s m args below meth c Z own cd ml ret nm T cells slots K) {x y : Value} (hd : decode cd pc = .ok (.dup2, 1)) (hk1 : x.category = 1) (hk2 : y.category = 1) (hr : OGo p e below Φ T (mkF m (pc + 1) Ls (x :: y :: x :: y :: st))) : OGo p e below Φ T (mkF m pc Ls (x :: y :: st)) := by
  obtain ⟨_, X, -, -, hx, -, hc, -⟩ := N
  obtain ⟨U, o, h1, h2⟩ := hr
  exact ⟨U, o, XT.dup2 X.here hx rfl (hb hc hd) rfl hk1 hk2 h1, h2⟩
theorem k_iinc (N : ONow p l e R s m args below meth c Z own cd ml ret nm T cells slots K) {k : Nat} {i : Int} {x v : Int32} {Ls' : Array Slot} (hd : decode cd pc = .ok (.iinc k i, 3)) (hl : Ls[k]? = some (.val (.int x))) (hv : x + Int32.ofInt i = v) (hl' : storeLocals Ls k (.int v) = some Ls') (hr : OGo p e below Φ T (mkF m (pc + 3) Ls' st)) : OGo p e below Φ T (mkF m pc Ls st) := by
  subst hv
  obtain ⟨_, X, -, -, hx, -, hc, -⟩ := N
  obtain ⟨U, o, h1, h2⟩ := hr
  exact ⟨U, o, XS.iinc X.here hx rfl (hb hc hd) hl hl' h1, h2⟩
theorem k_goto (N : ONow p l e R s m args below meth c Z own cd ml ret nm T cells slots K) {i : Int} {pc' : Nat} (hd : decode cd pc = .ok (.goto i, 3)) (hp : 0 ≤ (pc : Int) + i ∧ ((pc : Int) + i).toNat = pc') (hr : OGo p e below Φ T (mkF m pc' Ls st)) : OGo p e below Φ T (mkF m pc Ls st) := by
  obtain ⟨_, X, -, -, hx, -, hc, -⟩ := N
  obtain ⟨U, o, h1, h2⟩ := hr
  exact ⟨U, o, XS.goto X.here hx rfl rfl (hb hc hd) hp.1 hp.2 h1, h2⟩
theorem k_if_eq (N : ONow p l e R s m args below meth c Z own cd ml ret nm T cells slots K) {x : Int32} {i : Int} {pc' : Nat} (hd : decode cd pc = .ok (.ifCond .eq i, 3)) (hp : 0 ≤ (pc : Int) + i ∧ ((pc : Int) + i).toNat = pc') (h1 : x = 0 → OGo p e below Φ T (mkF m pc' Ls st)) (h2 : ¬ x = 0 → OGo p e below Φ T (mkF m (pc + 3) Ls st)) : OGo p e below Φ T (mkF m pc Ls (.int x :: st)) := by
  obtain ⟨_, X, -, -, hx, -, hc, -⟩ := N
  by_cases q : x = 0
  · obtain ⟨U, o, g1, g2⟩ := h1 q
    exact ⟨U, o, XS.ifYes X.here hx rfl rfl (hb hc hd) rfl (XT.i0_eq_t q) hp.1 hp.2 g1, g2⟩
  · obtain ⟨U, o, g1, g2⟩ := h2 q
    exact ⟨U, o, XS.ifNo X.here hx rfl (hb hc hd) rfl (XT.i0_eq_f q) g1, g2⟩
theorem k_if_ne (N : ONow p l e R s m args below meth c Z own cd ml ret nm T cells slots K) {x : Int32} {i : Int} {pc' : Nat} (hd : decode cd pc = .ok (.ifCond .ne i, 3)) (hp : 0 ≤ (pc : Int) + i ∧ ((pc : Int) + i).toNat = pc') (h1 : ¬ x = 0 → OGo p e below Φ T (mkF m pc' Ls st)) (h2 : x = 0 → OGo p e below Φ T (mkF m (pc + 3) Ls st)) : OGo p e below Φ T (mkF m pc Ls (.int x :: st)) := by
  obtain ⟨_, X, -, -, hx, -, hc, -⟩ := N
  by_cases q : ¬ x = 0
  · obtain ⟨U, o, g1, g2⟩ := h1 q
    exact ⟨U, o, XS.ifYes X.here hx rfl rfl (hb hc hd) rfl (XT.i0_ne_t q) hp.1 hp.2 g1, g2⟩
  · obtain ⟨U, o, g1, g2⟩ := h2 (Decidable.not_not.mp q)
    exact ⟨U, o, XS.ifNo X.here hx rfl (hb hc hd) rfl (XT.i0_ne_f (Decidable.not_not.mp q)) g1, g2⟩
theorem k_if_lt (N : ONow p l e R s m args below meth c Z own cd ml ret nm T cells slots K) {x : Int32} {i : Int} {pc' : Nat} (hd : decode cd pc = .ok (.ifCond .lt i, 3)) (hp : 0 ≤ (pc : Int) + i ∧ ((pc : Int) + i).toNat = pc') (h1 : x < 0 → OGo p e below Φ T (mkF m pc' Ls st)) (h2 : ¬ x < 0 → OGo p e below Φ T (mkF m (pc + 3) Ls st)) : OGo p e below Φ T (mkF m pc Ls (.int x :: st)) := by
  obtain ⟨_, X, -, -, hx, -, hc, -⟩ := N
  by_cases q : x < 0
  · obtain ⟨U, o, g1, g2⟩ := h1 q
    exact ⟨U, o, XS.ifYes X.here hx rfl rfl (hb hc hd) rfl (XT.i0_lt_t q) hp.1 hp.2 g1, g2⟩
  · obtain ⟨U, o, g1, g2⟩ := h2 q
    exact ⟨U, o, XS.ifNo X.here hx rfl (hb hc hd) rfl (XT.i0_lt_f q) g1, g2⟩
theorem k_if_ge (N : ONow p l e R s m args below meth c Z own cd ml ret nm T cells slots K) {x : Int32} {i : Int} {pc' : Nat} (hd : decode cd pc = .ok (.ifCond .ge i, 3)) (hp : 0 ≤ (pc : Int) + i ∧ ((pc : Int) + i).toNat = pc') (h1 : ¬ x < 0 → OGo p e below Φ T (mkF m pc' Ls st)) (h2 : x < 0 → OGo p e below Φ T (mkF m (pc + 3) Ls st)) : OGo p e below Φ T (mkF m pc Ls (.int x :: st)) := by
  obtain ⟨_, X, -, -, hx, -, hc, -⟩ := N
  by_cases q : ¬ x < 0
  · obtain ⟨U, o, g1, g2⟩ := h1 q
    exact ⟨U, o, XS.ifYes X.here hx rfl rfl (hb hc hd) rfl (XT.i0_ge_t q) hp.1 hp.2 g1, g2⟩
  · obtain ⟨U, o, g1, g2⟩ := h2 (Decidable.not_not.mp q)
    exact ⟨U, o, XS.ifNo X.here hx rfl (hb hc hd) rfl (XT.i0_ge_f (Decidable.not_not.mp q)) g1, g2⟩
theorem k_if_gt (N : ONow p l e R s m args below meth c Z own cd ml ret nm T cells slots K) {x : Int32} {i : Int} {pc' : Nat} (hd : decode cd pc = .ok (.ifCond .gt i, 3)) (hp : 0 ≤ (pc : Int) + i ∧ ((pc : Int) + i).toNat = pc') (h1 : 0 < x → OGo p e below Φ T (mkF m pc' Ls st)) (h2 : ¬ 0 < x → OGo p e below Φ T (mkF m (pc + 3) Ls st)) : OGo p e below Φ T (mkF m pc Ls (.int x :: st)) := by
  obtain ⟨_, X, -, -, hx, -, hc, -⟩ := N
  by_cases q : 0 < x
  · obtain ⟨U, o, g1, g2⟩ := h1 q
    exact ⟨U, o, XS.ifYes X.here hx rfl rfl (hb hc hd) rfl (XT.i0_gt_t q) hp.1 hp.2 g1, g2⟩
  · obtain ⟨U, o, g1, g2⟩ := h2 q
    exact ⟨U, o, XS.ifNo X.here hx rfl (hb hc hd) rfl (XT.i0_gt_f q) g1, g2⟩
theorem k_if_le (N : ONow p l e R s m args below meth c Z own cd ml ret nm T cells slots K) {x : Int32} {i : Int} {pc' : Nat} (hd : decode cd pc = .ok (.ifCond .le i, 3)) (hp : 0 ≤ (pc : Int) + i ∧ ((pc : Int) + i).toNat = pc') (h1 : ¬ 0 < x → OGo p e below Φ T (mkF m pc' Ls st)) (h2 : 0 < x → OGo p e below Φ T (mkF m (pc + 3) Ls st)) : OGo p e below Φ T (mkF m pc Ls (.int x :: st)) := by
  obtain ⟨_, X, -, -, hx, -, hc, -⟩ := N
  by_cases q : ¬ 0 < x
  · obtain ⟨U, o, g1, g2⟩ := h1 q
    exact ⟨U, o, XS.ifYes X.here hx rfl rfl (hb hc hd) rfl (XT.i0_le_t q) hp.1 hp.2 g1, g2⟩
  · obtain ⟨U, o, g1, g2⟩ := h2 (Decidable.not_not.mp q)
    exact ⟨U, o, XS.ifNo X.here hx rfl (hb hc hd) rfl (XT.i0_le_f (Decidable.not_not.mp q)) g1, g2⟩
theorem k_icmp_eq (N : ONow p l e R s m args below meth c Z own cd ml ret nm T cells slots K) {x y : Int32} {i : Int} {pc' : Nat} (hd : decode cd pc = .ok (.if_icmp .eq i, 3)) (hp : 0 ≤ (pc : Int) + i ∧ ((pc : Int) + i).toNat = pc') (h1 : x = y → OGo p e below Φ T (mkF m pc' Ls st)) (h2 : ¬ x = y → OGo p e below Φ T (mkF m (pc + 3) Ls st)) : OGo p e below Φ T (mkF m pc Ls (.int y :: .int x :: st)) := by
  obtain ⟨_, X, -, -, hx, -, hc, -⟩ := N
  by_cases q : x = y
  · obtain ⟨U, o, g1, g2⟩ := h1 q
    exact ⟨U, o, XS.icmpYes X.here hx rfl rfl (hb hc hd) rfl (XT.ii_eq_t q) hp.1 hp.2 g1, g2⟩
  · obtain ⟨U, o, g1, g2⟩ := h2 q
    exact ⟨U, o, XS.icmpNo X.here hx rfl (hb hc hd) rfl (XT.ii_eq_f q) g1, g2⟩
theorem k_icmp_ne (N : ONow p l e R s m args below meth c Z own cd ml ret nm T cells slots K) {x y : Int32} {i : Int} {pc' : Nat} (hd : decode cd pc = .ok (.if_icmp .ne i, 3)) (hp : 0 ≤ (pc : Int) + i ∧ ((pc : Int) + i).toNat = pc') (h1 : ¬ x = y → OGo p e below Φ T (mkF m pc' Ls st)) (h2 : x = y → OGo p e below Φ T (mkF m (pc + 3) Ls st)) : OGo p e below Φ T (mkF m pc Ls (.int y :: .int x :: st)) := by
  obtain ⟨_, X, -, -, hx, -, hc, -⟩ := N
  by_cases q : ¬ x = y
  · obtain ⟨U, o, g1, g2⟩ := h1 q
    exact ⟨U, o, XS.icmpYes X.here hx rfl rfl (hb hc hd) rfl (XT.ii_ne_t q) hp.1 hp.2 g1, g2⟩
  · obtain ⟨U, o, g1, g2⟩ := h2 (Decidable.not_not.mp q)
    exact ⟨U, o, XS.icmpNo X.here hx rfl (hb hc hd) rfl (XT.ii_ne_f (Decidable.not_not.mp q)) g1, g2⟩
theorem k_icmp_lt (N : ONow p l e R s m args below meth c Z own cd ml ret nm T cells slots K) {x y : Int32} {i : Int} {pc' : Nat} (hd : decode cd pc = .ok (.if_icmp .lt i, 3)) (hp : 0 ≤ (pc : Int) + i ∧ ((pc : Int) + i).toNat = pc') (h1 : x < y → OGo p e below Φ T (mkF m pc' Ls st)) (h2 : ¬ x < y → OGo p e below Φ T (mkF m (pc + 3) Ls st)) : OGo p e below Φ T (mkF m pc Ls (.int y :: .int x :: st)) := by
  obtain ⟨_, X, -, -, hx, -, hc, -⟩ := N
  by_cases q : x < y
  · obtain ⟨U, o, g1, g2⟩ := h1 q
    exact ⟨U, o, XS.icmpYes X.here hx rfl rfl (hb hc hd) rfl (XT.ii_lt_t q) hp.1 hp.2 g1, g2⟩
  · obtain ⟨U, o, g1, g2⟩ := h2 q
    exact ⟨U, o, XS.icmpNo X.here hx rfl (hb hc hd) rfl (XT.ii_lt_f q) g1, g2⟩
theorem k_icmp_ge (N : ONow p l e R s m args below meth c Z own cd ml ret nm T cells slots K) {x y : Int32} {i : Int} {pc' : Nat} (hd : decode cd pc = .ok (.if_icmp .ge i, 3)) (hp : 0 ≤ (pc : Int) + i ∧ ((pc : Int) + i).toNat = pc') (h1 : ¬ x < y → OGo p e below Φ T (mkF m pc' Ls st)) (h2 : x < y → OGo p e below Φ T (mkF m (pc + 3) Ls st)) : OGo p e below Φ T (mkF m pc Ls (.int y :: .int x :: st)) := by
  obtain ⟨_, X, -, -, hx, -, hc, -⟩ := N
  by_cases q : ¬ x < y
  · obtain ⟨U, o, g1, g2⟩ := h1 q
    exact ⟨U, o, XS.icmpYes X.here hx rfl rfl (hb hc hd) rfl (XT.ii_ge_t q) hp.1 hp.2 g1, g2⟩
  · obtain ⟨U, o, g1, g2⟩ := h2 (Decidable.not_not.mp q)
    exact ⟨U, o, XS.icmpNo X.here hx rfl (hb hc hd) rfl (XT.ii_ge_f (Decidable.not_not.mp q)) g1, g2⟩
theorem k_icmp_gt (N : ONow p l e R s m args below meth c Z own cd ml ret nm T cells slots K) {x y : Int32} {i : Int} {pc' : Nat} (hd : decode cd pc = .ok (.if_icmp .gt i, 3)) (hp : 0 ≤ (pc : Int) + i ∧ ((pc : Int) + i).toNat = pc') (h1 : y < x → OGo p e below Φ T (mkF m pc' Ls st)) (h2 : ¬ y < x → OGo p e below Φ T (mkF m (pc + 3) Ls st)) : OGo p e below Φ T (mkF m pc Ls (.int y :: .int x :: st)) := by
  obtain ⟨_, X, -, -, hx, -, hc, -⟩ := N
  by_cases q : y < x
  · obtain ⟨U, o, g1, g2⟩ := h1 q
    exact ⟨U, o, XS.icmpYes X.here hx rfl rfl (hb hc hd) rfl (XT.ii_gt_t q) hp.1 hp.2 g1, g2⟩
  · obtain ⟨U, o, g1, g2⟩ := h2 q
    exact ⟨U, o, XS.icmpNo X.here hx rfl (hb hc hd) rfl (XT.ii_gt_f q) g1, g2⟩
theorem k_icmp_le (N : ONow p l e R s m args below meth c Z own cd ml ret nm T cells slots K) {x y : Int32} {i : Int} {pc' : Nat} (hd : decode cd pc = .ok (.if_icmp .le i, 3)) (hp : 0 ≤ (pc : Int) + i ∧ ((pc : Int) + i).toNat = pc') (h1 : ¬ y < x → OGo p e below Φ T (mkF m pc' Ls st)) (h2 : y < x → OGo p e below Φ T (mkF m (pc + 3) Ls st)) : OGo p e below Φ T (mkF m pc Ls (.int y :: .int x :: st)) := by
  obtain ⟨_, X, -, -, hx, -, hc, -⟩ := N
  by_cases q : ¬ y < x
  · obtain ⟨U, o, g1, g2⟩ := h1 q
    exact ⟨U, o, XS.icmpYes X.here hx rfl rfl (hb hc hd) rfl (XT.ii_le_t q) hp.1 hp.2 g1, g2⟩
  · obtain ⟨U, o, g1, g2⟩ := h2 (Decidable.not_not.mp q)
    exact ⟨U, o, XS.icmpNo X.here hx rfl (hb hc hd) rfl (XT.ii_le_f (Decidable.not_not.mp q)) g1, g2⟩
theorem k_ifnull_yes (N : ONow p l e R s m args below meth c Z own cd ml ret nm T cells slots K) {i : Int} {pc' : Nat} (hd : decode cd pc = .ok (.ifnull i, 3)) (hp : 0 ≤ (pc : Int) + i ∧ ((pc : Int) + i).toNat = pc') (hr : OGo p e below Φ T (mkF m pc' Ls st)) : OGo p e below Φ T (mkF m pc Ls (.null :: st)) := by
  obtain ⟨_, X, -, -, hx, -, hc, -⟩ := N
  obtain ⟨U, o, h1, h2⟩ := hr
  exact ⟨U, o, XS.ifnullYes X.here hx rfl rfl (hb hc hd) rfl hp.1 hp.2 h1, h2⟩
theorem k_ifnull_no (N : ONow p l e R s m args below meth c Z own cd ml ret nm T cells slots K) {b : Addr} {i : Int} (hd : decode cd pc = .ok (.ifnull i, 3)) (hr : OGo p e below Φ T (mkF m (pc + 3) Ls st)) : OGo p e below Φ T (mkF m pc Ls (.ref b :: st)) := by
  obtain ⟨_, X, -, -, hx, -, hc, -⟩ := N
  obtain ⟨U, o, h1, h2⟩ := hr
  exact ⟨U, o, XS.ifnullNo X.here hx rfl (hb hc hd) rfl h1, h2⟩
theorem k_ifnonnull_yes (N : ONow p l e R s m args below meth c Z own cd ml ret nm T cells slots K) {b : Addr} {i : Int} {pc' : Nat} (hd : decode cd pc = .ok (.ifnonnull i, 3)) (hp : 0 ≤ (pc : Int) + i ∧ ((pc : Int) + i).toNat = pc') (hr : OGo p e below Φ T (mkF m pc' Ls st)) : OGo p e below Φ T (mkF m pc Ls (.ref b :: st)) := by
  obtain ⟨_, X, -, -, hx, -, hc, -⟩ := N
  obtain ⟨U, o, h1, h2⟩ := hr
  exact ⟨U, o, XT.ifnonnullYes X.here hx rfl rfl (hb hc hd) rfl hp.1 hp.2 h1, h2⟩
theorem k_ifnonnull_no (N : ONow p l e R s m args below meth c Z own cd ml ret nm T cells slots K) {i : Int} (hd : decode cd pc = .ok (.ifnonnull i, 3)) (hr : OGo p e below Φ T (mkF m (pc + 3) Ls st)) : OGo p e below Φ T (mkF m pc Ls (.null :: st)) := by
  obtain ⟨_, X, -, -, hx, -, hc, -⟩ := N
  obtain ⟨U, o, h1, h2⟩ := hr
  exact ⟨U, o, XT.ifnonnullNo X.here hx rfl (hb hc hd) rfl h1, h2⟩
theorem k_acmp (N : ONow p l e R s m args below meth c Z own cd ml ret nm T cells slots K) {k : ACond} {x y : Value} {same : Bool} {i : Int} {pc' : Nat} (hd : decode cd pc = .ok (.if_acmp k i, 3)) (h1 : x.isRef = true) (h2 : y.isRef = true) (hq : decide (x = y) = same) (hp : 0 ≤ (pc : Int) + i ∧ pc' = if acV k same = true then ((pc : Int) + i).toNat else pc + 3) (hr : OGo p e below Φ T (mkF m pc' Ls st)) : OGo p e below Φ T (mkF m pc Ls (y :: x :: st)) := by
  obtain ⟨_, X, -, -, hx, -, hc, -⟩ := N
  obtain ⟨U, o, g1, g2⟩ := hr
  exact ⟨U, o, Jvm.RoadKit.acmp X hx rfl h1 h2 rfl (hb hc hd) rfl hq hp.1 hp.2 g1, g2⟩
theorem k_ldcI (N : ONow p l e R s m args below meth c Z own cd ml ret nm T cells slots K) {i : Nat} {v : Int32} (hd : decode cd pc = .ok (.ldc i, 2)) (w : (Cond.constant own i v).before a0 Z = true) (hr : OGo p e below Φ T (mkF m (pc + 2) Ls (.int v :: st))) : OGo p e below Φ T (mkF m pc Ls st) := by
  obtain ⟨_, X, -, -, hx, hZ, hc, -, ho, -⟩ := N
  obtain ⟨U, o, h1, h2⟩ := hr
  exact ⟨U, o, X.ldcInt hx ho (mv hZ w) (g := mkF m pc Ls st) rfl (hb hc hd) _ h1, h2⟩
theorem k_ldcJ (N : ONow p l e R s m args below meth c Z own cd ml ret nm T cells slots K) {i : Nat} {v : Int64} (hd : decode cd pc = .ok (.ldc2_w i, 3)) (w : (Cond.constantLong own i v).before a0 Z = true) (hr : OGo p e below Φ T (mkF m (pc + 3) Ls (.long v :: st))) : OGo p e below Φ T (mkF m pc Ls st) := by
  obtain ⟨_, X, -, -, hx, hZ, hc, -, ho, -⟩ := N
  obtain ⟨U, o, h1, h2⟩ := hr
  exact ⟨U, o, X.ldc2Long hx ho (mv hZ w) (g := mkF m pc Ls st) rfl (hb hc hd) _ h1, h2⟩
theorem k_ldcD (N : ONow p l e R s m args below meth c Z own cd ml ret nm T cells slots K) {i : Nat} {v : UInt64} (hd : decode cd pc = .ok (.ldc2_w i, 3)) (w : (Cond.constantDouble own i v).before a0 Z = true) (hr : OGo p e below Φ T (mkF m (pc + 3) Ls (.double v :: st))) : OGo p e below Φ T (mkF m pc Ls st) := by
  obtain ⟨_, X, -, -, hx, hZ, hc, -, ho, -⟩ := N
  obtain ⟨U, o, h1, h2⟩ := hr
  exact ⟨U, o, X.ldc2DoubleC hx ho (mv hZ w) (g := mkF m pc Ls st) rfl (hb hc hd) _ h1, h2⟩
theorem k_get (N : ONow p l e R s m args below meth c Z own cd ml ret nm T cells slots K) {R0 O n d host C : String} {idx : Nat} {a : Addr} {v : Value} {fs : List FV} (i j : Nat) (hd : decode cd pc = .ok (.getfield idx, 3)) (w : (Cond.fieldLink own idx R0 n d).before a0 Z = true ∨ (Cond.fieldLinkNest own idx R0 n d host).before a0 Z = true) (via : Via Z R0 O n d) (hi : K[i]? = some (oObj Z a C fs)) (hj : fs[j]? = some (O, n, d, v)) (hr : ∀ T', ONow p l e R s m args below meth c Z own cd ml ret nm T' cells slots K → OGo p e below Φ T' (mkF m (pc + 3) Ls (v :: st))) : OGo p e below Φ T (mkF m pc Ls (.ref a :: st)) := by
  obtain ⟨locs, X, n1, n2, hx, hZ, hc, hm, ho, r⟩ := N
  obtain ⟨T', X', e', stp⟩ := getF (host := host) X hx hZ ho w via rfl (n2.fld hi hj) (g := mkF m pc Ls (.ref a :: st)) rfl rfl (hb hc hd)
  obtain ⟨U, o, h1, h2⟩ := hr T' ⟨locs, X', n1, by rw [e']; exact n2, hx, hZ, hc, hm, ho, r⟩
  exact ⟨U, o, stp _ h1, h2⟩
theorem k_put (N : ONow p l e R s m args below meth c Z own cd ml ret nm T cells slots K) {R0 O n d host C : String} {idx kk : Nat} {a : Addr} {v old : Value} {fs : List FV} {ty : FieldType} {K' : List Ent} (i j : Nat) (hd : decode cd pc = .ok (.putfield idx, 3)) (w : (Cond.fieldLink own idx R0 n d).before a0 Z = true ∨ (Cond.fieldLinkNest own idx R0 n d host).before a0 Z = true) (via : Via Z R0 O n d) (hi : K[i]? = some (oObj Z a C fs)) (hj : fs[j]? = some (O, n, d, old))
    (L : (Cond.lays C O n d).before a0 Z = true ∨ ((Cond.laysFinal C O n d).before a0 Z = true ∧ own = O ∧ nm = "<init>")) (wi : (Cond.instantiable C kk).before a0 Z = true) (hty : parseFieldDescriptor d = some ty) (hn : narrow ty v = v) (hf : fits ty v = true) (hK : K.set i (oObj Z a C (fs.set j (O, n, d, v))) = K') (hr : ∀ T', ONow p l e R s m args below meth c Z own cd ml ret nm T' cells slots K' → OGo p e below Φ T' (mkF m (pc + 3) Ls st)) : OGo p e below Φ T (mkF m pc Ls (v :: .ref a :: st)) := by
  subst hK
  obtain ⟨locs, X, n1, n2, hx, hZ, hc, hm, ho, h5, hnm, h7⟩ := N
  obtain ⟨T', h', X', e', W, stp⟩ := putF (host := host) X hx hZ ho w via rfl (n2.fld hi hj) (n2.exa hi) (L.imp id fun q => ⟨q.1, q.2.1, hnm.trans q.2.2⟩) wi hty hn hf (g := mkF m pc Ls (v :: .ref a :: st)) rfl rfl (hb hc hd)
  subst e'
  obtain ⟨U, o, h1, h2⟩ := hr T' ⟨_, X', Fr.snoc X' n1 (n2.at hi).1, n2.put hi hj W, hx, hZ, hc, hm, ho, h5, hnm, h7⟩
  exact ⟨U, o, stp _ h1, h2⟩
theorem k_getS (N : ONow p l e R s m args below meth c Z own cd ml ret nm T cells slots K) {R0 O n d : String} {idx : Nat} {v : Value} (hd : decode cd pc = .ok (.getstatic idx, 3)) (w : (Cond.fieldLink own idx R0 n d).before a0 Z = true) (via : Via Z R0 O n d) (F : Sta Z Z.heap O n d v) (hr : ∀ T', ONow p l e R s m args below meth c Z own cd ml ret nm T' cells slots K → OGo p e below Φ T' (mkF m (pc + 3) Ls (v :: st))) : OGo p e below Φ T (mkF m pc Ls st) := by
  obtain ⟨locs, X, n1, n2, hx, hZ, hc, hm, ho, r⟩ := N
  obtain ⟨T', X', e', stp⟩ := getS (host := "") X hx hZ ho w via rfl (F.ext n2.1) (g := mkF m pc Ls st) rfl (hb hc hd)
  obtain ⟨U, o, h1, h2⟩ := hr T' ⟨locs, X', n1, by rw [e']; exact n2, hx, hZ, hc, hm, ho, r⟩
  exact ⟨U, o, stp _ h1, h2⟩
theorem k_getOld (N : ONow p l e R s m args below meth c Z own cd ml ret nm T cells slots K) {R0 O n d host : String} {idx : Nat} {a : Addr} {v : Value} (hd : decode cd pc = .ok (.getfield idx, 3)) (w : (Cond.fieldLink own idx R0 n d).before a0 Z = true ∨ (Cond.fieldLinkNest own idx R0 n d host).before a0 Z = true) (via : Via Z R0 O n d) (F : Fld Z Z.heap a O n d v) (hr : ∀ T', ONow p l e R s m args below meth c Z own cd ml ret nm T' cells slots K → OGo p e below Φ T' (mkF m (pc + 3) Ls (v :: st))) : OGo p e below Φ T (mkF m pc Ls (.ref a :: st)) := by
  obtain ⟨locs, X, n1, n2, hx, hZ, hc, hm, ho, r⟩ := N
  obtain ⟨T', X', e', stp⟩ := getF (host := host) X hx hZ ho w via rfl (F.ext n2.1) (g := mkF m pc Ls (.ref a :: st)) rfl rfl (hb hc hd)
  obtain ⟨U, o, h1, h2⟩ := hr T' ⟨locs, X', n1, by rw [e']; exact n2, hx, hZ, hc, hm, ho, r⟩
  exact ⟨U, o, stp _ h1, h2⟩
theorem k_new (N : ONow p l e R s m args below meth c Z own cd ml ret nm T cells slots K) {C : String} {idx n : Nat} {fs : List FV} (hd : decode cd pc = .ok (.new idx, 3)) (w : (Cond.classLink own idx C).before a0 Z = true) (wi : (Cond.instantiable C n).before a0 Z = true) (wz : (Cond.initialized C).before a0 Z = true) (L : LaidL Z a0 C fs) (hnd : (fs.map fun f => f.2.1).Nodup) (h1 : cells + 1 ≤ R.cells) (h2 : slots + n ≤ R.slots) (hr : ∀ T' a, ONow p l e R s m args below meth c Z own cd ml ret nm T' (cells + 1) (slots + n) (oObj Z a C fs :: K) → OGo p e below Φ T' (mkF m (pc + 3) Ls (.ref a :: st))) : OGo p e below Φ T (mkF m pc Ls st) := by
  obtain ⟨locs, X, n1, n2, hx, hZ, hc, hm, ho, r⟩ := N
  obtain ⟨T', h', X', e', E, A, D, -, stp⟩ := newO X hx hZ ho w wi wz rfl (g := mkF m pc Ls st) rfl (hb hc hd) h1 h2
  subst e'
  obtain ⟨cell, k, a1, a2, a3, a4, a5⟩ := A
  have M := LaidL.mem fs L
  have hP : (oObj Z T.heap.size C fs).2 cell := ⟨⟨k, a2, a3, a4, a5⟩, L.keys hnd, fun f hf => by
    obtain ⟨Lf, ty, p1, p2⟩ := M f hf
    obtain ⟨c2, cf, k2, i2, f2, g1, g2⟩ := D Lf p1
    cases a1.symm.trans g1
    rw [← p2] at g2
    exact ⟨cf, k2, i2, f2, g2⟩⟩
  obtain ⟨U, o, h1, h2⟩ := hr T' T.heap.size ⟨locs, X', n1, n2.cons E a1 hP, hx, hZ, hc, hm, ho, r⟩
  exact ⟨U, o, stp _ h1, h2⟩
theorem k_newarray (N : ONow p l e R s m args below meth c Z own cd ml ret nm T cells slots K) {aty : ArrayType} {n : Int32} {ty : FieldType} {vs : List Value} (cap : Nat) (hd : decode cd pc = .ok (.newarray aty, 2)) (ht : newarray.typeOf aty = ty) (w : (Cond.arrayClass ty).before a0 Z = true) (hn : ¬ n < 0) (hcap : n.toNatClampNeg ≤ cap) (hb0 : cap * 8 ≤ 536870912) (hv : List.replicate n.toNatClampNeg (defaultValue ty) = vs) (h1 : cells + 1 ≤ R.cells) (h2 : slots + cap ≤ R.slots) (hr : ∀ T' a k, ONow p l e R s m args below meth c Z own cd ml ret nm T' (cells + 1) (slots + cap) (oArr Z a k ty vs :: K) → OGo p e below Φ T' (mkF m (pc + 2) Ls (.ref a :: st))) : OGo p e below Φ T (mkF m pc Ls (.int n :: st)) := by
  subst ht hv
  obtain ⟨locs, X, n1, n2, hx, hZ, hc, hm, ho, r⟩ := N
  obtain ⟨T', h', cA, X', e', E, A, stp⟩ := newP X hx hZ w rfl (g := mkF m pc Ls (.int n :: st)) rfl (hb hc hd) rfl hn hcap hb0 h1 h2
  subst e'
  have hP : (oArr Z T.heap.size cA (newarray.typeOf aty) (List.replicate n.toNatClampNeg (defaultValue (newarray.typeOf aty)))).2 (newA cA (newarray.typeOf aty) n) := ⟨A.2.1, A.2.2, rfl, by simp [newA], by simp; omega⟩
  obtain ⟨U, o, h1, h2⟩ := hr T' T.heap.size cA ⟨locs, X', n1, n2.cons E A.1 hP, hx, hZ, hc, hm, ho, r⟩
  exact ⟨U, o, stp _ h1, h2⟩
theorem inb {j : Int32} {n : Nat} (h1 : ¬ j < 0) (h2 : j.toNatClampNeg < n) : ¬ (j < 0 ∨ n ≤ j.toNatClampNeg) := fun q => q.elim h1 fun r => absurd h2 (Nat.not_lt.mpr r)
theorem lt_of_some {α : Type} {l : List α} {i : Nat} {x : α} (h : l[i]? = some x) : i < l.length := (List.getElem?_eq_some_iff.mp h).1
theorem k_arraylength (N : ONow p l e R s m args below meth c Z own cd ml ret nm T cells slots K) {a : Addr} {k : ClassId} {ty : FieldType} {vs : List Value} {z : Int32} (i : Nat) (hd : decode cd pc = .ok (.arraylength, 1)) (hi : K[i]? = some (oArr Z a k ty vs)) (hz : vs.length.toInt32 = z) (hr : OGo p e below Φ T (mkF m (pc + 1) Ls (.int z :: st))) : OGo p e below Φ T (mkF m pc Ls (.ref a :: st)) := by
  subst hz
  obtain ⟨locs, X, n1, n2, hx, hZ, hc, hm, ho, r⟩ := N
  obtain ⟨cl, A, -, A2, A3⟩ := n2.arr hi
  obtain ⟨U, o, h1, h2⟩ := hr
  exact ⟨U, o, X.arraylength hx A.1 (State.isArrayOf_alike hZ.alike A.2.1) (g := mkF m pc Ls (.ref a :: st)) rfl rfl (hb hc hd) _ (by rw [A2]; simpa using h1), h2⟩
theorem k_iaload (N : ONow p l e R s m args below meth c Z own cd ml ret nm T cells slots K) {a : Addr} {k : ClassId} {vs : List Value} {j : Int32} {v : Value} (i jn : Nat) (hd : decode cd pc = .ok (.iaload, 1)) (hi : K[i]? = some (oArr Z a k .int vs)) (h0 : ¬ j < 0) (hjn : j.toNatClampNeg = jn) (hv : vs[jn]? = some v) (hr : OGo p e below Φ T (mkF m (pc + 1) Ls (v :: st))) : OGo p e below Φ T (mkF m pc Ls (.int j :: .ref a :: st)) := by
  subst hjn
  obtain ⟨locs, X, n1, n2, hx, hZ, hc, hm, ho, r⟩ := N
  obtain ⟨cl, A, -, A2, A3⟩ := n2.arr hi
  obtain ⟨U, o, h1, h2⟩ := hr
  exact ⟨U, o, X.iaload hx A.1 (State.isArrayOf_alike hZ.alike A.2.1) A.2.2 (inb h0 (by rw [A2]; simpa using lt_of_some hv)) (by rw [A2]; simpa using hv) (g := mkF m pc Ls (.int j :: .ref a :: st)) rfl rfl (hb hc hd) _ h1, h2⟩
theorem k_laload (N : ONow p l e R s m args below meth c Z own cd ml ret nm T cells slots K) {a : Addr} {k : ClassId} {vs : List Value} {j : Int32} {v : Value} (i jn : Nat) (hd : decode cd pc = .ok (.laload, 1)) (hi : K[i]? = some (oArr Z a k .long vs)) (h0 : ¬ j < 0) (hjn : j.toNatClampNeg = jn) (hv : vs[jn]? = some v) (hr : OGo p e below Φ T (mkF m (pc + 1) Ls (v :: st))) : OGo p e below Φ T (mkF m pc Ls (.int j :: .ref a :: st)) := by
  subst hjn
  obtain ⟨locs, X, n1, n2, hx, hZ, hc, hm, ho, r⟩ := N
  obtain ⟨cl, A, -, A2, A3⟩ := n2.arr hi
  obtain ⟨U, o, h1, h2⟩ := hr
  exact ⟨U, o, X.laload hx A.1 (State.isArrayOf_alike hZ.alike A.2.1) A.2.2 (inb h0 (by rw [A2]; simpa using lt_of_some hv)) (by rw [A2]; simpa using hv) (g := mkF m pc Ls (.int j :: .ref a :: st)) rfl rfl (hb hc hd) _ h1, h2⟩
theorem k_daload (N : ONow p l e R s m args below meth c Z own cd ml ret nm T cells slots K) {a : Addr} {k : ClassId} {vs : List Value} {j : Int32} {v : Value} (i jn : Nat) (hd : decode cd pc = .ok (.daload, 1)) (hi : K[i]? = some (oArr Z a k .double vs)) (h0 : ¬ j < 0) (hjn : j.toNatClampNeg = jn) (hv : vs[jn]? = some v) (hr : OGo p e below Φ T (mkF m (pc + 1) Ls (v :: st))) : OGo p e below Φ T (mkF m pc Ls (.int j :: .ref a :: st)) := by
  subst hjn
  obtain ⟨locs, X, n1, n2, hx, hZ, hc, hm, ho, r⟩ := N
  obtain ⟨cl, A, -, A2, A3⟩ := n2.arr hi
  obtain ⟨U, o, h1, h2⟩ := hr
  exact ⟨U, o, X.daload hx A.1 (State.isArrayOf_alike hZ.alike A.2.1) A.2.2 (inb h0 (by rw [A2]; simpa using lt_of_some hv)) (by rw [A2]; simpa using hv) (g := mkF m pc Ls (.int j :: .ref a :: st)) rfl rfl (hb hc hd) _ h1, h2⟩
theorem k_caload (N : ONow p l e R s m args below meth c Z own cd ml ret nm T cells slots K) {a : Addr} {k : ClassId} {vs : List Value} {j : Int32} {v : Value} (i jn : Nat) (hd : decode cd pc = .ok (.caload, 1)) (hi : K[i]? = some (oArr Z a k .char vs)) (h0 : ¬ j < 0) (hjn : j.toNatClampNeg = jn) (hv : vs[jn]? = some v) (hr : OGo p e below Φ T (mkF m (pc + 1) Ls (v :: st))) : OGo p e below Φ T (mkF m pc Ls (.int j :: .ref a :: st)) := by
  subst hjn
  obtain ⟨locs, X, n1, n2, hx, hZ, hc, hm, ho, r⟩ := N
  obtain ⟨cl, A, -, A2, A3⟩ := n2.arr hi
  obtain ⟨U, o, h1, h2⟩ := hr
  exact ⟨U, o, X.caload hx A.1 (State.isArrayOf_alike hZ.alike A.2.1) A.2.2 (inb h0 (by rw [A2]; simpa using lt_of_some hv)) (by rw [A2]; simpa using hv) (g := mkF m pc Ls (.int j :: .ref a :: st)) rfl rfl (hb hc hd) _ h1, h2⟩
theorem k_baloadB (N : ONow p l e R s m args below meth c Z own cd ml ret nm T cells slots K) {a : Addr} {k : ClassId} {vs : List Value} {j : Int32} {v : Value} (i jn : Nat) (hd : decode cd pc = .ok (.baload, 1)) (hi : K[i]? = some (oArr Z a k .byte vs)) (h0 : ¬ j < 0) (hjn : j.toNatClampNeg = jn) (hv : vs[jn]? = some v) (hr : OGo p e below Φ T (mkF m (pc + 1) Ls (v :: st))) : OGo p e below Φ T (mkF m pc Ls (.int j :: .ref a :: st)) := by
  subst hjn
  obtain ⟨locs, X, n1, n2, hx, hZ, hc, hm, ho, r⟩ := N
  obtain ⟨cl, A, -, A2, A3⟩ := n2.arr hi
  obtain ⟨U, o, h1, h2⟩ := hr
  exact ⟨U, o, X.baloadBytes hx A.1 (State.isArrayOf_alike hZ.alike A.2.1) A.2.2 (inb h0 (by rw [A2]; simpa using lt_of_some hv)) (by rw [A2]; simpa using hv) (g := mkF m pc Ls (.int j :: .ref a :: st)) rfl rfl (hb hc hd) _ h1, h2⟩
theorem k_baloadZ (N : ONow p l e R s m args below meth c Z own cd ml ret nm T cells slots K) {a : Addr} {k : ClassId} {vs : List Value} {j : Int32} {v : Value} (i jn : Nat) (hd : decode cd pc = .ok (.baload, 1)) (hi : K[i]? = some (oArr Z a k .boolean vs)) (h0 : ¬ j < 0) (hjn : j.toNatClampNeg = jn) (hv : vs[jn]? = some v) (hr : OGo p e below Φ T (mkF m (pc + 1) Ls (v :: st))) : OGo p e below Φ T (mkF m pc Ls (.int j :: .ref a :: st)) := by
  subst hjn
  obtain ⟨locs, X, n1, n2, hx, hZ, hc, hm, ho, r⟩ := N
  obtain ⟨cl, A, -, A2, A3⟩ := n2.arr hi
  obtain ⟨U, o, h1, h2⟩ := hr
  exact ⟨U, o, X.baloadBooleans hx A.1 (State.isArrayOf_alike hZ.alike A.2.1) A.2.2 (inb h0 (by rw [A2]; simpa using lt_of_some hv)) (by rw [A2]; simpa using hv) (g := mkF m pc Ls (.int j :: .ref a :: st)) rfl rfl (hb hc hd) _ h1, h2⟩
theorem k_aaload (N : ONow p l e R s m args below meth c Z own cd ml ret nm T cells slots K) {a : Addr} {k : ClassId} {ty : FieldType} {vs : List Value} {j : Int32} {v : Value} (i jn : Nat) (hd : decode cd pc = .ok (.aaload, 1)) (hi : K[i]? = some (oArr Z a k ty vs)) (hrt : ty.isReference = true) (h0 : ¬ j < 0) (hjn : j.toNatClampNeg = jn) (hv : vs[jn]? = some v) (hr : OGo p e below Φ T (mkF m (pc + 1) Ls (v :: st))) : OGo p e below Φ T (mkF m pc Ls (.int j :: .ref a :: st)) := by
  subst hjn
  obtain ⟨locs, X, n1, n2, hx, hZ, hc, hm, ho, r⟩ := N
  obtain ⟨cl, A, -, A2, A3⟩ := n2.arr hi
  obtain ⟨U, o, h1, h2⟩ := hr
  exact ⟨U, o, X.aaload hx A.1 (State.isArrayOf_alike hZ.alike A.2.1) hrt A.2.2 (inb h0 (by rw [A2]; simpa using lt_of_some hv)) (by rw [A2]; simpa using hv) (g := mkF m pc Ls (.int j :: .ref a :: st)) rfl rfl (hb hc hd) _ h1, h2⟩
theorem k_iastore (N : ONow p l e R s m args below meth c Z own cd ml ret nm T cells slots K) {a : Addr} {k : ClassId} {vs : List Value} {j : Int32} {x : Int32} {v : Value} {K' : List Ent} (i jn : Nat) (hd : decode cd pc = .ok (.iastore, 1)) (hi : K[i]? = some (oArr Z a k .int vs)) (h0 : ¬ j < 0) (hjn : j.toNatClampNeg = jn) (hlt : jn < vs.length) (hv : Value.int x = v) (hK : K.set i (oArr Z a k .int (vs.set jn v)) = K') (hr : ∀ T', ONow p l e R s m args below meth c Z own cd ml ret nm T' cells slots K' → OGo p e below Φ T' (mkF m (pc + 1) Ls st)) : OGo p e below Φ T (mkF m pc Ls (.int x :: .int j :: .ref a :: st)) := by
  subst hjn hv hK
  obtain ⟨locs, X, n1, n2, hx, hZ, hc, hm, ho, r⟩ := N
  obtain ⟨cl, A, -, A2, A3⟩ := n2.arr hi
  obtain ⟨T', h', X', e', W, stp⟩ := stI X hx hZ rfl A (inb h0 (by rw [A2]; simpa using hlt)) (g := mkF m pc Ls (.int x :: .int j :: .ref a :: st)) rfl rfl (hb hc hd)
  subst e'
  obtain ⟨U, o, h1, h2⟩ := hr T' ⟨_, X', Fr.snoc X' n1 (n2.at hi).1, n2.putA hi W, hx, hZ, hc, hm, ho, r⟩
  exact ⟨U, o, stp _ h1, h2⟩
theorem k_lastore (N : ONow p l e R s m args below meth c Z own cd ml ret nm T cells slots K) {a : Addr} {k : ClassId} {vs : List Value} {j : Int32} {x : Int64} {v : Value} {K' : List Ent} (i jn : Nat) (hd : decode cd pc = .ok (.lastore, 1)) (hi : K[i]? = some (oArr Z a k .long vs)) (h0 : ¬ j < 0) (hjn : j.toNatClampNeg = jn) (hlt : jn < vs.length) (hv : Value.long x = v) (hK : K.set i (oArr Z a k .long (vs.set jn v)) = K') (hr : ∀ T', ONow p l e R s m args below meth c Z own cd ml ret nm T' cells slots K' → OGo p e below Φ T' (mkF m (pc + 1) Ls st)) : OGo p e below Φ T (mkF m pc Ls (.long x :: .int j :: .ref a :: st)) := by
  subst hjn hv hK
  obtain ⟨locs, X, n1, n2, hx, hZ, hc, hm, ho, r⟩ := N
  obtain ⟨cl, A, -, A2, A3⟩ := n2.arr hi
  obtain ⟨T', h', X', e', W, stp⟩ := stJ X hx hZ rfl A (inb h0 (by rw [A2]; simpa using hlt)) (g := mkF m pc Ls (.long x :: .int j :: .ref a :: st)) rfl rfl (hb hc hd)
  subst e'
  obtain ⟨U, o, h1, h2⟩ := hr T' ⟨_, X', Fr.snoc X' n1 (n2.at hi).1, n2.putA hi W, hx, hZ, hc, hm, ho, r⟩
  exact ⟨U, o, stp _ h1, h2⟩
theorem k_dastore (N : ONow p l e R s m args below meth c Z own cd ml ret nm T cells slots K) {a : Addr} {k : ClassId} {vs : List Value} {j : Int32} {x : UInt64} {v : Value} {K' : List Ent} (i jn : Nat) (hd : decode cd pc = .ok (.dastore, 1)) (hi : K[i]? = some (oArr Z a k .double vs)) (h0 : ¬ j < 0) (hjn : j.toNatClampNeg = jn) (hlt : jn < vs.length) (hv : Value.double x = v) (hK : K.set i (oArr Z a k .double (vs.set jn v)) = K') (hr : ∀ T', ONow p l e R s m args below meth c Z own cd ml ret nm T' cells slots K' → OGo p e below Φ T' (mkF m (pc + 1) Ls st)) : OGo p e below Φ T (mkF m pc Ls (.double x :: .int j :: .ref a :: st)) := by
  subst hjn hv hK
  obtain ⟨locs, X, n1, n2, hx, hZ, hc, hm, ho, r⟩ := N
  obtain ⟨cl, A, -, A2, A3⟩ := n2.arr hi
  obtain ⟨T', h', X', e', W, stp⟩ := stD X hx hZ rfl A (inb h0 (by rw [A2]; simpa using hlt)) (g := mkF m pc Ls (.double x :: .int j :: .ref a :: st)) rfl rfl (hb hc hd)
  subst e'
  obtain ⟨U, o, h1, h2⟩ := hr T' ⟨_, X', Fr.snoc X' n1 (n2.at hi).1, n2.putA hi W, hx, hZ, hc, hm, ho, r⟩
  exact ⟨U, o, stp _ h1, h2⟩
theorem k_castore (N : ONow p l e R s m args below meth c Z own cd ml ret nm T cells slots K) {a : Addr} {k : ClassId} {vs : List Value} {j : Int32} {x : Int32} {v : Value} {K' : List Ent} (i jn : Nat) (hd : decode cd pc = .ok (.castore, 1)) (hi : K[i]? = some (oArr Z a k .char vs)) (h0 : ¬ j < 0) (hjn : j.toNatClampNeg = jn) (hlt : jn < vs.length) (hv : Value.int (nar .char x) = v) (hK : K.set i (oArr Z a k .char (vs.set jn v)) = K') (hr : ∀ T', ONow p l e R s m args below meth c Z own cd ml ret nm T' cells slots K' → OGo p e below Φ T' (mkF m (pc + 1) Ls st)) : OGo p e below Φ T (mkF m pc Ls (.int x :: .int j :: .ref a :: st)) := by
  subst hjn hv hK
  obtain ⟨locs, X, n1, n2, hx, hZ, hc, hm, ho, r⟩ := N
  obtain ⟨cl, A, -, A2, A3⟩ := n2.arr hi
  obtain ⟨T', h', X', e', W, stp⟩ := stC X hx hZ rfl A (inb h0 (by rw [A2]; simpa using hlt)) (g := mkF m pc Ls (.int x :: .int j :: .ref a :: st)) rfl rfl (hb hc hd)
  subst e'
  obtain ⟨U, o, h1, h2⟩ := hr T' ⟨_, X', Fr.snoc X' n1 (n2.at hi).1, n2.putA hi W, hx, hZ, hc, hm, ho, r⟩
  exact ⟨U, o, stp _ h1, h2⟩
theorem k_bastoreB (N : ONow p l e R s m args below meth c Z own cd ml ret nm T cells slots K) {a : Addr} {k : ClassId} {vs : List Value} {j : Int32} {x : Int32} {v : Value} {K' : List Ent} (i jn : Nat) (hd : decode cd pc = .ok (.bastore, 1)) (hi : K[i]? = some (oArr Z a k .byte vs)) (h0 : ¬ j < 0) (hjn : j.toNatClampNeg = jn) (hlt : jn < vs.length) (hv : Value.int (nar .byte x) = v) (hK : K.set i (oArr Z a k .byte (vs.set jn v)) = K') (hr : ∀ T', ONow p l e R s m args below meth c Z own cd ml ret nm T' cells slots K' → OGo p e below Φ T' (mkF m (pc + 1) Ls st)) : OGo p e below Φ T (mkF m pc Ls (.int x :: .int j :: .ref a :: st)) := by
  subst hjn hv hK
  obtain ⟨locs, X, n1, n2, hx, hZ, hc, hm, ho, r⟩ := N
  obtain ⟨cl, A, -, A2, A3⟩ := n2.arr hi
  obtain ⟨T', h', X', e', W, stp⟩ := stB X hx hZ rfl A (inb h0 (by rw [A2]; simpa using hlt)) (g := mkF m pc Ls (.int x :: .int j :: .ref a :: st)) rfl rfl (hb hc hd)
  subst e'
  obtain ⟨U, o, h1, h2⟩ := hr T' ⟨_, X', Fr.snoc X' n1 (n2.at hi).1, n2.putA hi W, hx, hZ, hc, hm, ho, r⟩
  exact ⟨U, o, stp _ h1, h2⟩
theorem k_bastoreZ (N : ONow p l e R s m args below meth c Z own cd ml ret nm T cells slots K) {a : Addr} {k : ClassId} {vs : List Value} {j : Int32} {x : Int32} {v : Value} {K' : List Ent} (i jn : Nat) (hd : decode cd pc = .ok (.bastore, 1)) (hi : K[i]? = some (oArr Z a k .boolean vs)) (h0 : ¬ j < 0) (hjn : j.toNatClampNeg = jn) (hlt : jn < vs.length) (hv : Value.int (nar .boolean x) = v) (hK : K.set i (oArr Z a k .boolean (vs.set jn v)) = K') (hr : ∀ T', ONow p l e R s m args below meth c Z own cd ml ret nm T' cells slots K' → OGo p e below Φ T' (mkF m (pc + 1) Ls st)) : OGo p e below Φ T (mkF m pc Ls (.int x :: .int j :: .ref a :: st)) := by
  subst hjn hv hK
  obtain ⟨locs, X, n1, n2, hx, hZ, hc, hm, ho, r⟩ := N
  obtain ⟨cl, A, -, A2, A3⟩ := n2.arr hi
  obtain ⟨T', h', X', e', W, stp⟩ := stZ X hx hZ rfl A (inb h0 (by rw [A2]; simpa using hlt)) (g := mkF m pc Ls (.int x :: .int j :: .ref a :: st)) rfl rfl (hb hc hd)
  subst e'
  obtain ⟨U, o, h1, h2⟩ := hr T' ⟨_, X', Fr.snoc X' n1 (n2.at hi).1, n2.putA hi W, hx, hZ, hc, hm, ho, r⟩
  exact ⟨U, o, stp _ h1, h2⟩
theorem initO_k (N : ONow p l e R s m args below meth c Z own cd ml ret nm T cells slots K) {idx : Nat} {a : Addr} (W : Nat) (hd : decode cd pc = .ok (.invokespecial idx, 3)) (w1 : (Cond.methodLink own idx Lib.objectInit).before a0 Z = true) (w2 : (Cond.instanceMethod Lib.objectInit).before a0 Z = true) (w3 : (Cond.code Lib.objectInit ⟨#[0xb1]⟩ 1 none).before a0 Z = true) (hls : Ls.size = ml) (hW : (st.map fun v => v.category).sum = W) (hf : 1 ≤ R.frames) (hlo : W + 12 ≤ R.locals) (hr : ∀ T', ONow p l e R s m args below meth c Z own cd ml ret nm T' cells slots K → OGo p e below Φ T' (mkF m (pc + 3) Ls st)) : OGo p e below Φ T (mkF m pc Ls (.ref a :: st)) := by
  obtain ⟨locs, X, n1, n2, hx, hZ, hc, hm, ho, r⟩ := N
  obtain ⟨T', X', e', stp⟩ := initO X hx hZ ho w1 w2 w3 rfl (g := mkF m pc Ls (.ref a :: st)) rfl (by rw [hm]; exact hls) rfl (hb hc hd) hf (W := W) (by show 2 * 0 + _ ≤ _; rw [Nat.zero_add]; exact Nat.le_of_eq hW) hlo
  obtain ⟨U, o, h1, h2⟩ := hr T' ⟨locs, X', n1, by rw [e']; exact n2, hx, hZ, hc, hm, ho, r⟩
  exact ⟨U, o, stp _ h1, h2⟩
theorem k_static (N : ONow p l e R s m args below meth c Z own cd ml ret nm T cells slots K) {y : MethodName} {bytes : ByteArray} {maxL : Nat} {rt : Option FieldType} {rm : Room} {Q : Option Value → List Ent → Prop} {idx : Nat} {rest : List Value} {ps : List FieldType} {rp : Option FieldType} {cells' slots' : Nat} (as : List Value) (hd : decode cd pc = .ok (.invokestatic idx, 3)) (w1 : (Cond.methodLink own idx y).before a0 Z = true) (w2 : (Cond.static y).before a0 Z = true) (w3 : (Cond.initialized y.cls).before a0 Z = true) (w4 : (Cond.code y bytes maxL rt).before a0 Z = true) (hy : y.cls ≠ "java/lang/invoke/MethodHandle" ∧ y.cls ≠ "java/lang/invoke/VarHandle") (hpd : parseMethodDescriptor y.desc = some ⟨ps, rp⟩) (hlen : as.length = ps.length) (hM : OMeets l y bytes maxL rt rm Z as K Q) (hst : st = as.reverse ++ rest) (hls : Ls.size = ml) (W : Nat) (hW : (rest.map fun v => v.category).sum = W) (hf : rm.frames + 1 ≤ R.frames) (hlo : W + (maxL + 11) + rm.locals ≤ R.locals) (hce : cells + rm.cells = cells') (hse : slots + rm.slots = slots') (hc1 : cells' ≤ R.cells) (hs1 : slots' ≤ R.slots) (hr : ∀ T' v K', ONow p l e R s m args below meth c Z own cd ml ret nm T' cells' slots' K' → Q v K' → OGo p e below Φ T' (mkF m (pc + 3) Ls (v.toList ++ rest))) : OGo p e below Φ T (mkF m pc Ls st) := by
  subst hce hse hst
  obtain ⟨locs, X, n1, n2, hx, hZ, hc, hm, ho, r⟩ := N
  have := Jvm.LawKit.callS X hx (y := y) ho (mvT hZ w1) (mvT hZ w2) (mvT hZ w3) (mvT hZ w4) hy (backOf (W := W) (Q := fun v h L => Fr Z.heap.size L ∧ ∃ K', OKnow Z h K' ∧ Q v K') (hM [] T.heap n2) hZ w4 w3 hf hlo) (g := mkF m pc Ls (as.reverse ++ rest)) rfl (by rw [hm]; exact hls) (argsL := as) (rest := rest) (lenOf hpd hlen) rfl (by show 2 * 0 + _ ≤ _; rw [Nat.zero_add]; exact Nat.le_of_eq hW) (hb hc hd) (fun _ _ => ⟨rfl, rfl, hc1, hs1⟩)
  obtain ⟨v, vm₁, ⟨T', L', k', n'⟩, -, X', ⟨Lc, ⟨q1, K', q2, q3⟩, e1, e2, e3⟩, stp⟩ := this
  dsimp only [Pt.U, Pt.locs, Pt.cells, Pt.slots] at X' e1 e2 e3 stp q2
  subst e1 e2 e3
  obtain ⟨U, o, h1, h2⟩ := hr T' v K' ⟨_, X', Fr.app n1 q1, q2, hx, hZ, hc, hm, ho, r⟩ q3
  exact ⟨U, o, stp _ h1, h2⟩
theorem k_special (N : ONow p l e R s m args below meth c Z own cd ml ret nm T cells slots K) {y : MethodName} {bytes : ByteArray} {maxL : Nat} {rm : Room} {Q : Option Value → List Ent → Prop} {idx : Nat} {rest : List Value} {ps : List FieldType} {rp : Option FieldType} {cells' slots' : Nat} (as : List Value) {a : Addr} (hd : decode cd pc = .ok (.invokespecial idx, 3)) (hy1 : y.name = "<init>") (w1 : (Cond.methodLink own idx y).before a0 Z = true) (w2 : (Cond.instanceMethod y).before a0 Z = true) (w3 : (Cond.initialized y.cls).before a0 Z = true) (w4 : (Cond.code y bytes maxL none).before a0 Z = true) (hy : y.cls ≠ "java/lang/invoke/MethodHandle" ∧ y.cls ≠ "java/lang/invoke/VarHandle") (hpd : parseMethodDescriptor y.desc = some ⟨ps, rp⟩) (hlen : as.length = ps.length) (hM : OMeets l y bytes maxL none rm Z (.ref a :: as) K Q) (hst : st = as.reverse ++ .ref a :: rest) (hls : Ls.size = ml) (W : Nat) (hW : (rest.map fun v => v.category).sum = W) (hf : rm.frames + 1 ≤ R.frames) (hlo : W + (maxL + 11) + rm.locals ≤ R.locals) (hce : cells + rm.cells = cells') (hse : slots + rm.slots = slots') (hc1 : cells' ≤ R.cells) (hs1 : slots' ≤ R.slots) (hr : ∀ T' v K', ONow p l e R s m args below meth c Z own cd ml ret nm T' cells' slots' K' → Q v K' → OGo p e below Φ T' (mkF m (pc + 3) Ls (v.toList ++ rest))) : OGo p e below Φ T (mkF m pc Ls st) := by
  subst hce hse hst
  obtain ⟨locs, X, n1, n2, hx, hZ, hc, hm, ho, r⟩ := N
  have := X.specialBack hx (y := y) hy1 ho (mvT hZ w1) (mvT hZ w2) (mvT hZ w4) hy (backOf (W := W) (Q := fun v h L => Fr Z.heap.size L ∧ ∃ K', OKnow Z h K' ∧ Q v K') (hM [] T.heap n2) hZ w4 w3 hf hlo) (g := mkF m pc Ls (as.reverse ++ .ref a :: rest)) rfl (by rw [hm]; exact hls) (Steps.refl _) (a := a) (argsL := as) (rest := rest) (lenOf hpd hlen) rfl (by show 2 * 0 + _ ≤ _; rw [Nat.zero_add]; exact Nat.le_of_eq hW) (hb hc hd) (fun _ _ => ⟨rfl, rfl, hc1, hs1⟩)
  obtain ⟨v, vm₁, ⟨T', L', k', n'⟩, -, X', ⟨Lc, ⟨q1, K', q2, q3⟩, e1, e2, e3⟩, stp⟩ := this
  dsimp only [Pt.U, Pt.locs, Pt.cells, Pt.slots] at X' e1 e2 e3 stp q2
  subst e1 e2 e3
  obtain ⟨U, o, h1, h2⟩ := hr T' v K' ⟨_, X', Fr.app n1 q1, q2, hx, hZ, hc, hm, ho, r⟩ q3
  exact ⟨U, o, stp.trans h1, h2⟩
theorem k_virtual (N : ONow p l e R s m args below meth c Z own cd ml ret nm T cells slots K) {y : MethodName} {bytes : ByteArray} {maxL : Nat} {rt : Option FieldType} {rm : Room} {Q : Option Value → List Ent → Prop} {idx : Nat} {rest : List Value} {ps : List FieldType} {rp : Option FieldType} {cells' slots' : Nat} {C : String} {z : MethodName} (as : List Value) {a : Addr} (hd : decode cd pc = .ok (.invokevirtual idx, 3)) (hE : ∀ h, OKnow Z h K → Exa Z h a C) (w1 : (Cond.methodLink own idx z).before a0 Z = true) (w2 : (Cond.declares z).before a0 Z = true) (nf : ∀ s' : State, Z.Warmed39 s'.vm → NotFace s' z) (w5 : (Cond.selects C z y).before a0 Z = true) (w6 : (Cond.instanceMethod y).before a0 Z = true) (w3 : (Cond.initialized y.cls).before a0 Z = true) (w4 : (Cond.code y bytes maxL rt).before a0 Z = true) (hy : z.cls ≠ "java/lang/invoke/MethodHandle" ∧ z.cls ≠ "java/lang/invoke/VarHandle") (hpd : parseMethodDescriptor z.desc = some ⟨ps, rp⟩) (hlen : as.length = ps.length) (hM : OMeets l y bytes maxL rt rm Z (.ref a :: as) K Q) (hst : st = as.reverse ++ .ref a :: rest) (hls : Ls.size = ml) (W : Nat) (hW : (rest.map fun v => v.category).sum = W) (hf : rm.frames + 1 ≤ R.frames) (hlo : W + (maxL + 11) + rm.locals ≤ R.locals) (hce : cells + rm.cells = cells') (hse : slots + rm.slots = slots') (hc1 : cells' ≤ R.cells) (hs1 : slots' ≤ R.slots) (hr : ∀ T' v K', ONow p l e R s m args below meth c Z own cd ml ret nm T' cells' slots' K' → Q v K' → OGo p e below Φ T' (mkF m (pc + 3) Ls (v.toList ++ rest))) : OGo p e below Φ T (mkF m pc Ls st) := by
  subst hce hse hst
  obtain ⟨locs, X, n1, n2, hx, hZ, hc, hm, ho, r⟩ := N
  obtain ⟨cq, kq, qa, qb, qc⟩ := isOf hZ rfl (hE _ n2)
  have := X.virtualBack hx (y := z) (z := y) ho (mvT hZ w1) (mvT hZ w2) (nf s hZ) (mvT hZ w5) (mvT hZ w6) hy (backOf (W := W) (Q := fun v h L => Fr Z.heap.size L ∧ ∃ K', OKnow Z h K' ∧ Q v K') (hM [] T.heap n2) hZ w4 w3 hf hlo) qa qc (g := mkF m pc Ls (as.reverse ++ .ref a :: rest)) rfl (by rw [hm]; exact hls) (Steps.refl _) (argsL := as) (rest := rest) (lenOf hpd hlen) rfl (by show 2 * 0 + _ ≤ _; rw [Nat.zero_add]; exact Nat.le_of_eq hW) (hb hc hd) (fun _ _ => ⟨rfl, rfl, hc1, hs1⟩)
  obtain ⟨v, vm₁, ⟨T', L', k', n'⟩, -, X', ⟨Lc, ⟨q1, K', q2, q3⟩, e1, e2, e3⟩, stp⟩ := this
  dsimp only [Pt.U, Pt.locs, Pt.cells, Pt.slots] at X' e1 e2 e3 stp q2
  subst e1 e2 e3
  obtain ⟨U, o, h1, h2⟩ := hr T' v K' ⟨_, X', Fr.app n1 q1, q2, hx, hZ, hc, hm, ho, r⟩ q3
  exact ⟨U, o, stp.trans h1, h2⟩
theorem nf_self {C : String} {y : MethodName} (w : (Cond.selects C y y).before a0 Z = true) : ∀ s' : State, Z.Warmed39 s'.vm → NotFace s' y := fun s' hZ => notFace_of_selects (args := #[]) (mvT hZ w)
theorem k_private (N : ONow p l e R s m args below meth c Z own cd ml ret nm T cells slots K) {y : MethodName} {bytes : ByteArray} {maxL : Nat} {rt : Option FieldType} {rm : Room} {Q : Option Value → List Ent → Prop} {idx : Nat} {rest : List Value} {ps : List FieldType} {rp : Option FieldType} {cells' slots' : Nat} {fs : List FV} {kk : Nat} (as : List Value) {a : Addr} (i : Nat) (hd : decode cd pc = .ok (.invokevirtual idx, 3)) (hi : K[i]? = some (oObj Z a y.cls fs)) (wi : (Cond.instantiable y.cls kk).before a0 Z = true) (w1 : (Cond.methodLink own idx y).before a0 Z = true) (w2 : (Cond.instanceMethod y).before a0 Z = true) (w5 : (Cond.privateMethod y).before a0 Z = true) (w3 : (Cond.initialized y.cls).before a0 Z = true) (w4 : (Cond.code y bytes maxL rt).before a0 Z = true) (hy : y.cls ≠ "java/lang/invoke/MethodHandle" ∧ y.cls ≠ "java/lang/invoke/VarHandle") (hpd : parseMethodDescriptor y.desc = some ⟨ps, rp⟩) (hlen : as.length = ps.length) (hM : OMeets l y bytes maxL rt rm Z (.ref a :: as) K Q) (hst : st = as.reverse ++ .ref a :: rest) (hls : Ls.size = ml) (W : Nat) (hW : (rest.map fun v => v.category).sum = W) (hf : rm.frames + 1 ≤ R.frames) (hlo : W + (maxL + 11) + rm.locals ≤ R.locals) (hce : cells + rm.cells = cells') (hse : slots + rm.slots = slots') (hc1 : cells' ≤ R.cells) (hs1 : slots' ≤ R.slots) (hr : ∀ T' v K', ONow p l e R s m args below meth c Z own cd ml ret nm T' cells' slots' K' → Q v K' → OGo p e below Φ T' (mkF m (pc + 3) Ls (v.toList ++ rest))) : OGo p e below Φ T (mkF m pc Ls st) := by
  subst hce hse hst
  obtain ⟨locs, X, n1, n2, hx, hZ, hc, hm, ho, r⟩ := N
  obtain ⟨cq, q1, q2⟩ := (n2.exa hi).cell
  have hpv := Cond.privateMethod_at (mvP (args := #[]) hZ w5)
  obtain ⟨ci, ki, i1, i2, -, i4, -⟩ := Cond.instantiable_spec (mv (args := args) hZ wi)
  have hsel : (Cond.selects y.cls y y).before args s = true := selects_self_of_private i1 i2 (by simp only [Bool.or_eq_false_iff] at i4; exact i4.1) hpv (mvT hZ w2) hy
  have := X.privateBack hx (y := y) ho (mvT hZ w1) (mvT hZ w2) hsel hpv (mvT hZ w4) hy (backOf (W := W) (Q := fun v h L => Fr Z.heap.size L ∧ ∃ K', OKnow Z h K' ∧ Q v K') (hM [] T.heap n2) hZ w4 w3 hf hlo) (g := mkF m pc Ls (as.reverse ++ .ref a :: rest)) rfl (by rw [hm]; exact hls) (Steps.refl _) (a := a) q1 q2 (argsL := as) (rest := rest) (lenOf hpd hlen) rfl (by show 2 * 0 + _ ≤ _; rw [Nat.zero_add]; exact Nat.le_of_eq hW) (hb hc hd) (fun _ _ => ⟨rfl, rfl, hc1, hs1⟩)
  obtain ⟨v, vm₁, ⟨T', L', k', n'⟩, -, X', ⟨Lc, ⟨q1, K', q2, q3⟩, e1, e2, e3⟩, stp⟩ := this
  dsimp only [Pt.U, Pt.locs, Pt.cells, Pt.slots] at X' e1 e2 e3 stp q2
  subst e1 e2 e3
  obtain ⟨U, o, h1, h2⟩ := hr T' v K' ⟨_, X', Fr.app n1 q1, q2, hx, hZ, hc, hm, ho, r⟩ q3
  exact ⟨U, o, stp.trans h1, h2⟩
theorem k_doubleBits (N : ONow p l e R s m args below meth c Z own cd ml ret nm T cells slots K) {idx : Nat} {b : UInt64} (W : Nat) (hd : decode cd pc = .ok (.invokestatic idx, 3)) (w1 : (Cond.methodLink own idx Jvm.Free.NT.doubleBitsN).before a0 Z = true) (w2 : (Cond.static Jvm.Free.NT.doubleBitsN).before a0 Z = true) (w3 : (Cond.initialized "java/lang/Double").before a0 Z = true) (w4 : (Cond.native Jvm.Free.NT.doubleBitsN).before a0 Z = true) (hls : Ls.size = ml) (hW : (st.map fun v => v.category).sum = W) (hf : 1 ≤ R.frames) (hlo : W + 15 ≤ R.locals) (hr : ∀ T', ONow p l e R s m args below meth c Z own cd ml ret nm T' cells slots K → OGo p e below Φ T' (mkF m (pc + 3) Ls (.long b.toInt64 :: st))) : OGo p e below Φ T (mkF m pc Ls (.double b :: st)) := by
  obtain ⟨locs, X, n1, n2, hx, hZ, hc, hm, ho, r⟩ := N
  obtain ⟨mk, methM, hnamed, hmethM, -, -, -, hsig⟩ := Cond.native_spec (mvT (args := args) hZ w4)
  obtain ⟨v, vm₁, B, hW₁, X', ⟨hB, hv⟩, stp⟩ := Stand.staticBack X hx (y := Jvm.Free.NT.doubleBitsN) ho (mvT hZ w1) (mvT hZ w2) (mvT hZ w3) hnamed hmethM hsig (by decide) (Jvm.Free.NT.DoubleBits.pays (mvT hZ w4) (mvT hZ w2) hf hlo) (g := mkF m pc Ls (.double b :: st)) rfl (by rw [hm]; exact hls) (Steps.refl _) (argsL := [.double b]) (rest := st) (lenOf (ps := [.double]) (r := some .long) (by decide +kernel) rfl) rfl (by show 2 * 0 + _ ≤ _; rw [Nat.zero_add]; exact Nat.le_of_eq hW) (hb hc hd) (fun _ _ => ⟨b, rfl⟩)
  have hv1 : v = some (.long b.toInt64) := hv b rfl
  subst hB hv1
  obtain ⟨U, o, h1, h2⟩ := hr _ ⟨locs, X', n1, n2, hx, hZ, hc, hm, ho, r⟩
  exact ⟨U, o, stp.trans h1, h2⟩
theorem exa_of_arr {h : Heap} {i : Nat} {a : Addr} {k : ClassId} {ty : FieldType} {vs : List Value} {ad : String} (n2 : OKnow Z h K) (hi : K[i]? = some (oArr Z a k ty vs)) (hk : Z.vm.findClass ad = some k) : Exa Z h a ad := by
  obtain ⟨c, A, h1, -, -⟩ := n2.arr hi
  obtain ⟨q0, kc, q1, comp, q2⟩ := A.2.1
  exact ⟨c, kc, A.1, by rw [h1]; exact hk, q1, A.plain, fun w => by rw [q2] at w; cases w⟩
theorem k_newarrayC (N : ONow p l e R s m args below meth c Z own cd ml ret nm T cells slots K) {aty : ArrayType} {n : Int32} {ty : FieldType} {vs : List Value} {ad : String} (cap : Nat) (hd : decode cd pc = .ok (.newarray aty, 2)) (ht : newarray.typeOf aty = ty) (had : "[" ++ ty.toString = ad) (w : (Cond.arrayClass ty).before a0 Z = true) (hn : ¬ n < 0) (hcap : n.toNatClampNeg ≤ cap) (hb0 : cap * 8 ≤ 536870912) (hv : List.replicate n.toNatClampNeg (defaultValue ty) = vs) (h1 : cells + 1 ≤ R.cells) (h2 : slots + cap ≤ R.slots) (hr : ∀ T' a k, Z.vm.findClass ad = some k → ONow p l e R s m args below meth c Z own cd ml ret nm T' (cells + 1) (slots + cap) (oArr Z a k ty vs :: K) → OGo p e below Φ T' (mkF m (pc + 2) Ls (.ref a :: st))) : OGo p e below Φ T (mkF m pc Ls (.int n :: st)) := by
  subst ht hv had
  obtain ⟨locs, X, n1, n2, hx, hZ, hc, hm, ho, r⟩ := N
  have hcb : componentBytes (newarray.typeOf aty) ≤ 8 := by cases aty <;> decide
  obtain ⟨cA, kA, comp, g1, g2, g3, X', stp⟩ := X.newarrayPrim hx (mvA hZ w) (g := mkF m pc Ls (.int n :: st)) rfl (hb hc hd) rfl hn (Nat.le_trans (Nat.mul_le_mul hcap hcb) hb0) h1 (by omega)
  rw [hZ.alike.findClass] at g1
  obtain ⟨kZ, z1, -⟩ := Vm.findClass_spec g1
  obtain ⟨k', z2, z3⟩ := hZ.alike.2.2 _ _ z1
  cases g2.symm.trans z2
  have kk : kZ.kind = .array comp (newarray.typeOf aty) := by rw [← g3, z3]
  have hN : (T.heap.push (newA cA (newarray.typeOf aty) n))[T.heap.size]? = some (newA cA (newarray.typeOf aty) n) := by simp
  have E : Ext T.heap (T.heap.push (newA cA (newarray.typeOf aty) n)) := ⟨by simp, fun a c h => by rw [Array.getElem?_push_lt (Array.getElem?_eq_some_iff.mp h).1]; exact (Array.getElem?_eq_getElem _).symm.trans h⟩
  have hP : (oArr Z T.heap.size cA (newarray.typeOf aty) (List.replicate n.toNatClampNeg (defaultValue (newarray.typeOf aty)))).2 (newA cA (newarray.typeOf aty) n) := ⟨⟨by simp [newA], kZ, z1, comp, kk⟩, by simp [newA], rfl, by simp [newA], by simp; omega⟩
  obtain ⟨U, o, h1, h2⟩ := hr _ T.heap.size cA g1 ⟨locs, X'.more (Nat.le_refl _) (by omega), n1, n2.cons E hN hP, hx, hZ, hc, hm, ho, r⟩
  exact ⟨U, o, stp _ h1, h2⟩
theorem k_clone (N : ONow p l e R s m args below meth c Z own cd ml ret nm T cells slots K) {idx : Nat} {a : Addr} {k : ClassId} {ty : FieldType} {vs : List Value} {ad : String} (i W cap : Nat) (hd : decode cd pc = .ok (.invokevirtual idx, 3)) (hi : K[i]? = some (oArr Z a k ty vs)) (hk : Z.vm.findClass ad = some k) (hf : ∀ v ∈ vs, fits ty v = true)
    (w1 : (Cond.methodLink own idx ⟨ad, "clone", "()Ljava/lang/Object;"⟩).before a0 Z = true) (w2 : (Cond.sameMethod ad "java/lang/Object" "clone" "()Ljava/lang/Object;").before a0 Z = true) (w3 : (Cond.native ⟨"java/lang/Object", "clone", "()Ljava/lang/Object;"⟩).before a0 Z = true) (w4 : (Cond.instanceMethod ⟨"java/lang/Object", "clone", "()Ljava/lang/Object;"⟩).before a0 Z = true) (w5 : (Cond.selects ad ⟨ad, "clone", "()Ljava/lang/Object;"⟩ ⟨"java/lang/Object", "clone", "()Ljava/lang/Object;"⟩).before a0 Z = true) (w6 : (Cond.castable ad "java/lang/Cloneable").before a0 Z = true)
    (hls : Ls.size = ml) (hW : (st.map fun v => v.category).sum = W) (hfr : 1 ≤ R.frames) (hlo : W + 14 ≤ R.locals) (hcap : vs.length ≤ cap) (h1 : cells + 1 ≤ R.cells) (h2 : slots + cap ≤ R.slots) (hr : ∀ T' b, ONow p l e R s m args below meth c Z own cd ml ret nm T' (cells + 1) (slots + cap) (oArr Z b k ty vs :: K) → OGo p e below Φ T' (mkF m (pc + 3) Ls (.ref b :: st))) : OGo p e below Φ T (mkF m pc Ls (.ref a :: st)) := by
  obtain ⟨locs, X, n1, n2, hx, hZ, hc, hm, ho, r⟩ := N
  obtain ⟨cl, A, A1, A2, A3⟩ := n2.arr hi
  have F : FitC Z cl := fun j v hv => by
    obtain ⟨q0, kc, q1, comp, q2⟩ := A.2.1
    have e : Z.slotType? cl.cls .none j = some ty := by simp [State.slotType?, q1, q2]
    have hm : v ∈ vs := by rw [A2] at hv; exact List.mem_of_getElem? (by simpa using hv)
    simp [State.fitsSlot, e, hf v hm]
  obtain ⟨T', h', X', e', E, B, -, stp⟩ := cloneA X hx hZ ho w1 w2 w3 w4 w5 w6 rfl A (exa_of_arr n2 hi hk) F (g := mkF m pc Ls (.ref a :: st)) rfl (by rw [hm]; exact hls) rfl (hb hc hd) hfr (W := W) (cap := cap) (by show 2 * 0 + _ ≤ _; rw [Nat.zero_add]; exact Nat.le_of_eq hW) hlo (by rw [A2]; simpa using hcap) h1 h2
  subst e'
  have hP : (oArr Z T.heap.size k ty vs).2 (cloneOf cl) := ⟨B.2.1, B.2.2, A1, A2, A3⟩
  obtain ⟨U, o, h1, h2⟩ := hr T' T.heap.size ⟨locs, X', n1, n2.cons E B.1 hP, hx, hZ, hc, hm, ho, r⟩
  exact ⟨U, o, stp _ h1, h2⟩
theorem k_checkcast (N : ONow p l e R s m args below meth c Z own cd ml ret nm T cells slots K) {idx : Nat} {a : Addr} {C : String} (hd : decode cd pc = .ok (.checkcast idx, 3)) (w : (Cond.classLink own idx C).before a0 Z = true) (hI : ∀ h, OKnow Z h K → Ins Z h a C true) (hr : ∀ T', ONow p l e R s m args below meth c Z own cd ml ret nm T' cells slots K → OGo p e below Φ T' (mkF m (pc + 3) Ls (.ref a :: st))) : OGo p e below Φ T (mkF m pc Ls (.ref a :: st)) := by
  obtain ⟨locs, X, n1, n2, hx, hZ, hc, hm, ho, r⟩ := N
  obtain ⟨T', X', e', stp⟩ := castY X hx hZ ho w rfl (hI _ n2) (g := mkF m pc Ls (.ref a :: st)) rfl rfl (hb hc hd)
  obtain ⟨U, o, h1, h2⟩ := hr T' ⟨locs, X', n1, by rw [e']; exact n2, hx, hZ, hc, hm, ho, r⟩
  exact ⟨U, o, stp _ h1, h2⟩
theorem k_absD (N : ONow p l e R s m args below meth c Z own cd ml ret nm T cells slots K) {idx : Nat} {x : UInt64} {bytes : ByteArray} (W : Nat) (hd : decode cd pc = .ok (.invokestatic idx, 3)) (hby : bytes = Jvm.Free.Fl.Abs.absDCode) (w1 : (Cond.methodLink own idx Jvm.Free.Fl.Abs.absDN).before a0 Z = true) (w2 : (Cond.static Jvm.Free.Fl.Abs.absDN).before a0 Z = true) (w3 : (Cond.initialized "java/lang/Math").before a0 Z = true) (w4 : (Cond.code Jvm.Free.Fl.Abs.absDN bytes 2 (some .double)).before a0 Z = true) (hn : Jvm.Free.Fl.NoNaN64 x) (hls : Ls.size = ml) (hW : (st.map fun v => v.category).sum = W) (hf : 1 ≤ R.frames) (hlo : W + 13 ≤ R.locals) (hc1 : cells ≤ R.cells) (hs1 : slots ≤ R.slots) (hr : ∀ T', ONow p l e R s m args below meth c Z own cd ml ret nm T' cells slots K → OGo p e below Φ T' (mkF m (pc + 3) Ls (.double (x &&& 0x7fffffffffffffff) :: st))) : OGo p e below Φ T (mkF m pc Ls (.double x :: st)) := by
  subst hby
  obtain ⟨locs, X, n1, n2, hx, hZ, hc, hm, ho, r⟩ := N
  obtain ⟨T', X', e', stp⟩ := natS X hx hZ ho w1 w2 w3 w4 (by decide) rfl (W := W) (F := fun a' => a' = #[.double x] ∧ Jvm.Free.Fl.NoNaN64 x) (val' := .double (x &&& 0x7fffffffffffffff)) (fun c4 => Jvm.Free.Fl.Abs.absD_pays x c4 hf hlo) (g := mkF m pc Ls (.double x :: st)) rfl (by rw [hm]; exact hls) (argsL := [.double x]) (rest := st) (lenOf (ps := [.double]) (r := some .double) (by decide +kernel) rfl) rfl (by show 2 * 0 + _ ≤ _; rw [Nat.zero_add]; exact Nat.le_of_eq hW) (hb hc hd) hc1 hs1 ⟨rfl, hn⟩ rfl
  obtain ⟨U, o, h1, h2⟩ := hr T' ⟨locs, X', n1, by rw [e']; exact n2, hx, hZ, hc, hm, ho, r⟩
  exact ⟨U, o, stp _ h1, h2⟩
theorem k_alenOld (N : ONow p l e R s m args below meth c Z own cd ml ret nm T cells slots K) {a : Addr} {cl : Cell} {ty : FieldType} {z : Int32} (hd : decode cd pc = .ok (.arraylength, 1)) (A : Arr Z Z.heap a cl ty) (hz : cl.slots.size.toInt32 = z) (hr : OGo p e below Φ T (mkF m (pc + 1) Ls (.int z :: st))) : OGo p e below Φ T (mkF m pc Ls (.ref a :: st)) := by
  subst hz
  obtain ⟨locs, X, n1, n2, hx, hZ, hc, hm, ho, r⟩ := N
  obtain ⟨U, o, h1, h2⟩ := hr
  exact ⟨U, o, X.arraylength hx (A.ext n2.1).1 (State.isArrayOf_alike hZ.alike A.2.1) (g := mkF m pc Ls (.ref a :: st)) rfl rfl (hb hc hd) _ h1, h2⟩
theorem k_aaloadOld (N : ONow p l e R s m args below meth c Z own cd ml ret nm T cells slots K) {a : Addr} {cl : Cell} {ty : FieldType} {j : Int32} {v : Value} (hd : decode cd pc = .ok (.aaload, 1)) (A : Arr Z Z.heap a cl ty) (hrt : ty.isReference = true) (hj : ¬ (j < 0 ∨ cl.slots.size ≤ j.toNatClampNeg)) (hv : cl.slots[j.toNatClampNeg]? = some v) (hr : OGo p e below Φ T (mkF m (pc + 1) Ls (v :: st))) : OGo p e below Φ T (mkF m pc Ls (.int j :: .ref a :: st)) := by
  obtain ⟨locs, X, n1, n2, hx, hZ, hc, hm, ho, r⟩ := N
  obtain ⟨U, o, h1, h2⟩ := hr
  exact ⟨U, o, X.aaload hx (A.ext n2.1).1 (State.isArrayOf_alike hZ.alike A.2.1) hrt A.2.2 hj hv (g := mkF m pc Ls (.int j :: .ref a :: st)) rfl rfl (hb hc hd) _ h1, h2⟩
theorem k_ldcWI (N : ONow p l e R s m args below meth c Z own cd ml ret nm T cells slots K) {i : Nat} {v : Int32} (hd : decode cd pc = .ok (.ldc_w i, 3)) (w : (Cond.constant own i v).before a0 Z = true) (hr : OGo p e below Φ T (mkF m (pc + 3) Ls (.int v :: st))) : OGo p e below Φ T (mkF m pc Ls st) := by
  obtain ⟨_, X, -, -, hx, hZ, hc, -, ho, -⟩ := N
  obtain ⟨U, o, h1, h2⟩ := hr
  exact ⟨U, o, X.ldcWInt hx ho (mv hZ w) (g := mkF m pc Ls st) rfl (hb hc hd) _ h1, h2⟩
theorem k_ireturn (N : ONow p l e R s m args below meth c Z own cd ml ret nm T cells slots K) {z : Int32} {Q : Option Value → List Ent → Prop} {rm : Room} (hd : decode cd pc = .ok (.ireturn, 1)) (hret : ret = some .int) (h1 : cells ≤ rm.cells) (h2 : slots ≤ rm.slots) (hq : Q (some (.int z)) K) : OGo p e below (OPost Z s Q rm) T (mkF m pc Ls (.int z :: st)) := by
  obtain ⟨locs, X, n1, n2, hx, hZ, hc, hm, ho, h5, hnm, h7⟩ := N
  rw [hret] at h5
  obtain ⟨fs, hr, hrun, hended, hW, hsame⟩ := X.leave (v := (some (.int z))) (fun h => by rw [h5] at h; cases h) h7
  exact ⟨_, _, retOut X hx h5 rfl (Or.inl ⟨rfl, Or.inl rfl, z, rfl⟩) (hb hc hd) hr, hrun, hended, _, _, rfl, ⟨n1, K, n2, hq⟩, ⟨_, rfl⟩, hW, hsame.mono h1 h2⟩
theorem k_zreturn (N : ONow p l e R s m args below meth c Z own cd ml ret nm T cells slots K) {z : Int32} {Q : Option Value → List Ent → Prop} {rm : Room} (hd : decode cd pc = .ok (.ireturn, 1)) (hret : ret = some .boolean) (h1 : cells ≤ rm.cells) (h2 : slots ≤ rm.slots) (hq : Q (some (.int (nar .boolean z))) K) : OGo p e below (OPost Z s Q rm) T (mkF m pc Ls (.int z :: st)) := by
  obtain ⟨locs, X, n1, n2, hx, hZ, hc, hm, ho, h5, hnm, h7⟩ := N
  rw [hret] at h5
  obtain ⟨fs, hr, hrun, hended, hW, hsame⟩ := X.leave (v := (some (.int (nar .boolean z)))) (fun h => by rw [h5] at h; cases h) h7
  exact ⟨_, _, retN X hx (t := .boolean) h5 (by simp) (hb hc hd) hr, hrun, hended, _, _, rfl, ⟨n1, K, n2, hq⟩, ⟨_, rfl⟩, hW, hsame.mono h1 h2⟩
theorem k_lreturn (N : ONow p l e R s m args below meth c Z own cd ml ret nm T cells slots K) {z : Int64} {Q : Option Value → List Ent → Prop} {rm : Room} (hd : decode cd pc = .ok (.lreturn, 1)) (hret : ret = some .long) (h1 : cells ≤ rm.cells) (h2 : slots ≤ rm.slots) (hq : Q (some (.long z)) K) : OGo p e below (OPost Z s Q rm) T (mkF m pc Ls (.long z :: st)) := by
  obtain ⟨locs, X, n1, n2, hx, hZ, hc, hm, ho, h5, hnm, h7⟩ := N
  rw [hret] at h5
  obtain ⟨fs, hr, hrun, hended, hW, hsame⟩ := X.leave (v := (some (.long z))) (fun h => by rw [h5] at h; cases h) h7
  exact ⟨_, _, retOut X hx h5 rfl (Or.inr (Or.inl ⟨rfl, rfl, z, rfl⟩)) (hb hc hd) hr, hrun, hended, _, _, rfl, ⟨n1, K, n2, hq⟩, ⟨_, rfl⟩, hW, hsame.mono h1 h2⟩
theorem k_dreturn (N : ONow p l e R s m args below meth c Z own cd ml ret nm T cells slots K) {z : UInt64} {Q : Option Value → List Ent → Prop} {rm : Room} (hd : decode cd pc = .ok (.dreturn, 1)) (hret : ret = some .double) (h1 : cells ≤ rm.cells) (h2 : slots ≤ rm.slots) (hq : Q (some (.double z)) K) : OGo p e below (OPost Z s Q rm) T (mkF m pc Ls (.double z :: st)) := by
  obtain ⟨locs, X, n1, n2, hx, hZ, hc, hm, ho, h5, hnm, h7⟩ := N
  rw [hret] at h5
  obtain ⟨fs, hr, hrun, hended, hW, hsame⟩ := X.leave (v := (some (.double z))) (fun h => by rw [h5] at h; cases h) h7
  exact ⟨_, _, retOut X hx h5 rfl (Or.inr (Or.inr (Or.inl ⟨rfl, rfl, z, rfl⟩))) (hb hc hd) hr, hrun, hended, _, _, rfl, ⟨n1, K, n2, hq⟩, ⟨_, rfl⟩, hW, hsame.mono h1 h2⟩
theorem nar_ref {t : FieldType} {w : Value} (h : w.isRef = true) : narrow t w = w := by cases t <;> cases w <;> first | rfl | cases h
theorem k_areturn (N : ONow p l e R s m args below meth c Z own cd ml ret nm T cells slots K) {w : Value} {t : FieldType} (ht : t.isReference = true) (hw : w.isRef = true) {Q : Option Value → List Ent → Prop} {rm : Room} (hd : decode cd pc = .ok (.areturn, 1)) (hret : ret = some t) (h1 : cells ≤ rm.cells) (h2 : slots ≤ rm.slots) (hq : Q (some w) K) : OGo p e below (OPost Z s Q rm) T (mkF m pc Ls (w :: st)) := by
  obtain ⟨locs, X, n1, n2, hx, hZ, hc, hm, ho, h5, hnm, h7⟩ := N
  rw [hret] at h5
  obtain ⟨fs, hr, hrun, hended, hW, hsame⟩ := X.leave (v := (some w)) (fun h => by rw [h5] at h; cases h) h7
  exact ⟨_, _, retOut X hx h5 (nar_ref hw) (Or.inr (Or.inr (Or.inr (Or.inr ⟨rfl, ht, hw⟩)))) (hb hc hd) hr, hrun, hended, _, _, rfl, ⟨n1, K, n2, hq⟩, ⟨_, rfl⟩, hW, hsame.mono h1 h2⟩
theorem k_return (N : ONow p l e R s m args below meth c Z own cd ml ret nm T cells slots K) {Q : Option Value → List Ent → Prop} {rm : Room} (hd : decode cd pc = .ok (.return_, 1)) (hret : ret = none) (h1 : cells ≤ rm.cells) (h2 : slots ≤ rm.slots) (hq : Q none K) : OGo p e below (OPost Z s Q rm) T (mkF m pc Ls []) := by
  obtain ⟨locs, X, n1, n2, hx, hZ, hc, hm, ho, h5, hnm, h7⟩ := N
  rw [hret] at h5
  obtain ⟨fs, hr, hrun, hended, hW, hsame⟩ := X.leave (v := none) (fun h => by rfl) h7
  exact ⟨_, _, X.returnOut hx h5 (hb hc hd) hr, hrun, hended, _, _, rfl, ⟨n1, K, n2, hq⟩, ⟨_, rfl⟩, hW, hsame.mono h1 h2⟩
end St
end Jvm.Own7
namespace Jvm.Own7
open Sem ClassFile Op Lib Jvm.Stand Jvm.Free Jvm.LawKit Jvm.RoadKit
section Wi
variable {p : Program} {l : Launch} {e : Env} {R : Room} {s : State} {m : MethodId} {args : Array Value} {below : List Frame} {meth : Method} {c : Code} {Z : State} {own : String} {cd : ByteArray} {ml : Nat} {ret : Option FieldType} {nm : String} {T : State} {cells slots : Nat} {K : List Ent} {Φ : Outcome → State → Prop} {pc : Nat} {Ls : Array Slot} {st : List Value} {a0 : Array Value}
def OPostV (Z s : State) (Q : Option Value → List Ent → Prop) (rm : Room) (o : Outcome) (U : State) : Prop := ∃ vm' : Vm, s.Since vm' U.heap.size ∧ OPost Z (s.setVm vm') Q rm o U
def OMeetsV (l : Launch) (y : MethodName) (bytes : ByteArray) (maxL : Nat) (ret : Option FieldType) (rm : Room) (Z : State) (as : List Value) (K : List Ent) (Q : Option Value → List Ent → Prop) : Prop :=
  ∀ (ws : List Cond) (h : Heap), OKnow Z h K → MetFree l y (head1 (Cond.code y bytes maxL ret :: ws) rm) (fun a U => a = as.toArray ∧ Z.Warmed39 U.vm ∧ U.heap = h) (fun _ _ _ _ _ => True) (fun _ U o U' => OPostV Z U Q rm o U')
theorem OMeetsV.of_body {y : MethodName} {bytes : ByteArray} {maxL : Nat} {rm : Room} {as : List Value} {Q : Option Value → List Ent → Prop} (hpl : plainFor y = true) (Ls : Array Slot) (hL : ∀ m : MethodId, entryFrame m as.toArray maxL = mkF m 0 Ls [])
    (body : ∀ p e s m below meth c T, ONow p l e rm s m as.toArray below meth c Z y.cls bytes maxL ret y.name T 0 0 K → OGo p e below (OPostV Z s Q rm) T (mkF m 0 Ls [])) : OMeetsV l y bytes maxL ret rm Z as K Q := fun ws h hK => by
  refine MetFree.of_bodySF hpl hisR ?_
  intro p e s m args below meth c s₁ Bd hml0 hP _
  obtain ⟨rfl, hZ, hh⟩ := hP
  have X0 : Stand p l e rm s m as.toArray below meth c s₁ [] 0 0 := Stand.of_body Bd
  have e0 : s₁.heap = h := by rw [← hh, Bd.state]; rfl
  rw [hL m]
  exact body p e s m below meth c s₁ ⟨[], X0, Fr.nil _, by rw [e0]; exact hK, Bd.exec, hZ, Bd.bytes, hml0, findClass_of_methodNamed Bd.named, Bd.returns, (name_of_methodNamed Bd.named Bd.method).1, Bd.notSynchronized⟩
theorem OGo.v {Q : Option Value → List Ent → Prop} {rm : Room} {g : JFrame} (G : OGo p e below (OPost Z s Q rm) T g) : OGo p e below (OPostV Z s Q rm) T g := G.weak fun o U h => ⟨s.vm, (State.WarmedH.refl s).since _, h⟩
theorem mvS {i : Nat} {text : String} (hZ : Z.Warmed39 s.vm) (w : (Cond.stringLink own i text).before a0 Z = true) : (Cond.stringLink own i text).before args s = true := (Cond.stringLink_warmed39 hZ w :)
theorem str_mv (hZ : Z.Warmed39 s.vm) (hA : ∀ d ∈ Bundle.stringAtoms, d.before a0 Z = true) : ∀ d ∈ Bundle.stringAtoms, d.before args s = true := fun d hd => by
  have q := hA d hd
  simp only [Bundle.stringAtoms, List.mem_cons, List.not_mem_nil, or_false] at hd
  rcases hd with rfl | rfl | rfl | rfl | rfl | rfl | rfl
  · exact mv hZ q
  · exact mv hZ q
  · exact mvA hZ q
  · exact mv hZ q
  · exact mv hZ q
  · exact mv hZ q
  · exact mv hZ q
theorem k_ldcS (N : ONow p l e R s m args below meth c Z own cd ml ret nm T cells slots K) {i n cells' slots' : Nat} {text : String} {Q : Option Value → List Ent → Prop} {rm : Room} (hd : decode cd pc = .ok (.ldc i, 2)) (w : (Cond.stringLink own i text).before a0 Z = true) (hA : ∀ d ∈ Bundle.stringAtoms, d.before a0 Z = true) (hn : 4 * text.toList.length ≤ n) (hbig : n ≤ 536870912) (hce : cells + 2 = cells') (hse : slots + (n + 4) = slots') (hc1 : cells' ≤ R.cells) (hs1 : slots' ≤ R.slots)
    (hr : ∀ T' vm' a, ONow p l e R (s.setVm vm') m args below meth c Z own cd ml ret nm T' cells' slots' K → OGo p e below (OPostV Z (s.setVm vm') Q rm) T' (mkF m (pc + 2) Ls (.ref a :: st))) : OGo p e below (OPostV Z s Q rm) T (mkF m pc Ls st) := by
  subst hce hse
  obtain ⟨locs, X, n1, n2, hx, hZ, hc, hm, ho, r⟩ := N
  obtain ⟨a, T', X', hS, -, hkeep, hint, stp⟩ := X.ldcStringCold hx ho (mvS hZ w) (str_mv hZ hA) (g := mkF m pc Ls st) rfl (hb hc hd) (n := n) hn hbig hc1 hs1
  have n2' : OKnow Z T'.heap K := by
    obtain ⟨⟨e1, e2⟩, k2, k3⟩ := n2
    refine ⟨⟨Nat.le_trans e1 hint.1, fun x y q => ?_⟩, fun en he => ?_, k3⟩
    · have hq := e2 x y q
      rw [hkeep x (Array.getElem?_eq_some_iff.mp hq).1]; exact hq
    · obtain ⟨g1, y, g2, g3⟩ := k2 en he
      exact ⟨g1, y, by rw [hkeep _ (Array.getElem?_eq_some_iff.mp g2).1]; exact g2, g3⟩
  obtain ⟨U, o, h1, h2, h3, vm', hS', hP⟩ := hr T' T'.vm a ⟨locs, X', n1, n2', hx, State.Warmed39.trans hZ hS.1, hc, hm, (by show T'.vm.findClass own = _; rw [hS.1.alike.findClass]; exact ho), r⟩
  exact ⟨U, o, stp _ h1, h2, h3, vm', hS.trans hS' h1.heap_le, hP⟩
theorem refField {locs : List Loc} {index : Nat} {O n d : String} {cf i : Nat} {k : Class} {f : Field} (X : Stand p l e R s m args below meth c T locs cells slots) (hZ : Z.Warmed39 s.vm) (ho : s.vm.findClass own = some m.cls) (w : (Cond.fieldRef own index O n d).before a0 Z = true) (hi : Z.fieldFound? O n d = some (cf, k, i, f)) : T.vm.fieldReady m.cls index cf f := by
  have hW : Z.Warmed39 T.vm := wtrans hZ X.warmed
  have w' := Cond.fieldRef_warmed39 hW w
  have ho' : (Z.setVm T.vm).vm.findClass own = some m.cls := by show T.vm.findClass own = _; rw [X.warmed.alike.findClass]; exact ho
  obtain ⟨c', k', i', f', h1, h2⟩ := Cond.fieldRef_spec ho' w'
  obtain ⟨k'', hi', -⟩ := State.fieldFound?_setVm (s := Z) hW.alike hi
  cases h1.symm.trans hi'
  exact h2
theorem k_getR (N : ONow p l e R s m args below meth c Z own cd ml ret nm T cells slots K) {O n d C : String} {idx : Nat} {a : Addr} {v : Value} {fs : List FV} (i j : Nat) (hd : decode cd pc = .ok (.getfield idx, 3)) (w : (Cond.fieldRef own idx O n d).before a0 Z = true) (hi : K[i]? = some (oObj Z a C fs)) (hj : fs[j]? = some (O, n, d, v)) (hr : OGo p e below Φ T (mkF m (pc + 3) Ls (v :: st))) : OGo p e below Φ T (mkF m pc Ls (.ref a :: st)) := by
  obtain ⟨locs, X, n1, n2, hx, hZ, hc, hm, ho, r⟩ := N
  obtain ⟨cell, cf, k, ii, f, h1, h2, h3, h4, -, -, h7⟩ := n2.fld hi hj
  have hrdy := refField X hZ ho w h2
  obtain ⟨U, o, q1, q2⟩ := hr
  refine ⟨U, o, ?_, q2⟩
  have hdg := hb hc hd
  jvm_step X.here [hx, hdg, getfield.wp_ready (e := e) (s := T) (f := mkF m pc Ls (.ref a :: st)) X.here.top hrdy h3 rfl h1 h4 h7]
  exact q1
theorem putR {locs : List Loc} {h : Heap} (X : Stand p l e R s m args below meth c T locs cells slots) (hx : p.tables.exec = Jvm.exec) (hZ : Z.Warmed39 s.vm) {own O n d C : String} {index kk : Nat} {ty : FieldType} (hown : s.vm.findClass own = some m.cls) (w : (Cond.fieldRef own index O n d).before a0 Z = true)
    (eT : T.heap = h) {a : Addr} {v old : Value} (F : Fld Z h a O n d old) (E : Exa Z h a C) (L : (Cond.lays C O n d).before a0 Z = true) (wi : (Cond.instantiable C kk).before a0 Z = true)
    (hty : parseFieldDescriptor d = some ty) (hn : narrow ty v = v) (hf : fits ty v = true) {g : JFrame} (hg : g.method = m) {rest : List Value} (hs : g.stack = v :: .ref a :: rest) (hd : decode c.code g.pc = .ok (.putfield index, 3)) :
    ∃ T' h', Stand p l e R s m args below meth c T' (locs ++ [⟨a, RoadKit.slotOf Z O n d⟩]) cells slots ∧ T'.heap = h' ∧ Wr h h' a (RoadKit.slotOf Z O n d) v ∧ ∀ target, Steps p.tables e below (T'.setTop { g with pc := g.pc + 3, stack := rest }) target → Steps p.tables e below (T.setTop g) target := by
  obtain ⟨cell, cf, k, i, f, h1, h2, h3, h4, h5, -, h7⟩ := F
  obtain ⟨cell', kc, e1, e2, e3, -⟩ := E
  cases h1.symm.trans e1
  obtain ⟨c1, k1, cf1, kf1, i1, f1, a1, a2, a3, -, -, a6, -⟩ := Laid.spec (Or.inl L)
  cases h2.symm.trans a3
  cases e2.symm.trans a1
  obtain ⟨c2, k2, i1, i2, i3, -⟩ := Cond.instantiable_spec wi
  cases e2.symm.trans i1
  cases a2.symm.trans i2
  have ht := (State.fieldFound?_type h2 hty).2
  have hfit : Z.fitsSlot cell.cls cell.vm f.slot v = true := by
    have q : Z.slotType? cell.cls cell.vm f.slot = some ty := by
      simp only [State.slotType?, a2, Option.bind_eq_bind, Option.bind_some, i3]
      cases hq : cell.vm <;> first | (rw [hq] at h5; exact Bool.noConfusion h5) | (rw [a6, ht])
    simp [State.fitsSlot, q, hf]
  have hfit' : T.fitsSlot cell.cls cell.vm f.slot v = true := by rw [← State.fitsSlot_setVm (wtrans hZ X.warmed).alike] at hfit; exact hfit
  have hfin : hasFlag f.accessFlags Acc.final = false := by
    obtain ⟨_, _, _, _, _, _, -, -, b3, -, b5, -⟩ := Cond.lays_spec L
    cases h2.symm.trans b3
    exact b5
  have hlt := (Array.getElem?_eq_some_iff.mp h7).1
  have es : RoadKit.slotOf Z O n d = f.slot := by simp [RoadKit.slotOf, h2]
  rw [es]
  obtain ⟨X', st⟩ := X.putfieldReady hx (refField X hZ hown w h2) h3 (Or.inl hfin) (by rw [eT]; exact h1) h4 hlt (by rw [ht]; exact hn) hfit' hg hs hd
  exact ⟨_, _, X', rfl, ⟨cell, h1, h5, hlt, by rw [← eT]; rfl⟩, st⟩
theorem k_putR (N : ONow p l e R s m args below meth c Z own cd ml ret nm T cells slots K) {O n d C : String} {idx kk : Nat} {a : Addr} {v old : Value} {fs : List FV} {ty : FieldType} {K' : List Ent} (i j : Nat) (hd : decode cd pc = .ok (.putfield idx, 3)) (w : (Cond.fieldRef own idx O n d).before a0 Z = true) (hi : K[i]? = some (oObj Z a C fs)) (hj : fs[j]? = some (O, n, d, old))
    (L : (Cond.lays C O n d).before a0 Z = true) (wi : (Cond.instantiable C kk).before a0 Z = true) (hty : parseFieldDescriptor d = some ty) (hn : narrow ty v = v) (hf : fits ty v = true) (hK : K.set i (oObj Z a C (fs.set j (O, n, d, v))) = K') (hr : ∀ T', ONow p l e R s m args below meth c Z own cd ml ret nm T' cells slots K' → OGo p e below Φ T' (mkF m (pc + 3) Ls st)) : OGo p e below Φ T (mkF m pc Ls (v :: .ref a :: st)) := by
  subst hK
  obtain ⟨locs, X, n1, n2, hx, hZ, hc, hm, ho, r⟩ := N
  obtain ⟨T', h', X', e', W, stp⟩ := putR X hx hZ ho w rfl (n2.fld hi hj) (n2.exa hi) L wi hty hn hf (g := mkF m pc Ls (v :: .ref a :: st)) rfl rfl (hb hc hd)
  subst e'
  obtain ⟨U, o, h1, h2⟩ := hr T' ⟨_, X', Fr.snoc X' n1 (n2.at hi).1, n2.put hi hj W, hx, hZ, hc, hm, ho, r⟩
  exact ⟨U, o, stp _ h1, h2⟩
theorem specialBackR {locs : List Loc} (X : Stand p l e R s m args below meth c T locs cells slots) (hexec : p.tables.exec = Jvm.exec) {own : String} {index : Nat} {y : MethodName} (hy1 : y.name = "<init>") (hZ : Z.Warmed39 s.vm)
    (hown : s.vm.findClass own = some m.cls) (hlink : (Cond.methodRef own index y).before a0 Z = true) (hinst : (Cond.instanceMethod y).before args s = true)
    {bytes : ByteArray} {maxL : Nat} (hcode : (Cond.code y bytes maxL none).before args s = true)
    (hy : y.cls ≠ "java/lang/invoke/MethodHandle" ∧ y.cls ≠ "java/lang/invoke/VarHandle")
    {W : Nat} {Pre : Pt → Array Value → Prop} {Post : Pt → Array Value → Option Value → Pt → Prop} (hK : Back l R p e below s args y 3 W Pre Post)
    {g : JFrame} (hg : g.method = m) (hsize : g.locals.size = c.maxLocals) {s₀ : State} (hcome : Steps p.tables e below s₀ (T.setTop g)) {a : Addr} {argsL rest : List Value}
    (hlen : ∀ sig, parseMethodDescriptor y.desc = some sig → argsL.length = sig.parameters.length) (hstack : g.stack = argsL.reverse ++ .ref a :: rest) (hW : 2 * g.monitorRoom + (rest.map fun v => v.category).sum ≤ W)
    (hdg : decode c.code g.pc = .ok (.invokespecial index, 3)) (hpre : ∀ vm₁, s.WarmedH vm₁ → Pre ⟨T.setVm vm₁, locs, cells, slots⟩ (.ref a :: argsL).toArray) :
    ∃ (v : Option Value) (vm₁ : Vm) (B : Pt), s.WarmedH vm₁ ∧ Stand p l e R s m args below meth c B.U B.locs B.cells B.slots ∧ Post ⟨T.setVm vm₁, locs, cells, slots⟩ (.ref a :: argsL).toArray v B ∧
      Steps p.tables e below s₀ (B.U.setTop { g with pc := g.pc + 3, stack := v.toList ++ rest }) := by
  obtain ⟨obj, methO, hnO, hmO, hstO, habO⟩ := Cond.instanceMethod_spec hinst
  obtain ⟨methO', cO, hmO', hcO, hbO, hlO, -, hlockO, -, hsigO⟩ := Cond.code_spec hnO hcode
  cases hmO.symm.trans hmO'
  obtain ⟨kO, hkO, hnameO⟩ := className_of_methodNamed hnO
  obtain ⟨hnameMO, hdescO⟩ := name_of_methodNamed hnO hmO
  have hW1 : s.WarmedH T.vm := X.warmed
  have hWZ : Z.Warmed39 T.vm := wtrans hZ hW1
  subst hg
  have hnZ : ∃ mz, Z.methodNamed? y = some mz := by
    cases hq : Z.methodNamed? y with
    | some mz => exact ⟨mz, rfl⟩
    | none =>
      have := State.methodNamed?_setVm (s := Z) hZ.alike (x := y)
      exact absurd (this.symm.trans hnO) (by rw [hq]; simp)
  obtain ⟨mz, hmz⟩ := hnZ
  have hl := Cond.methodRef_warmed39 hWZ hmz hy hlink
  have hown' : (Z.setVm T.vm).vm.findClass own = some g.method.cls := by show T.vm.findClass own = _; rw [hW1.alike.findClass]; exact hown
  obtain ⟨mm, c', hf, hrdy, hfc, hnr⟩ := Cond.methodRef_named e hown' hl
  have hnamed' : (Z.setVm T.vm).methodNamed? y = some obj := by
    have := State.methodNamed?_setVm (s := s) hW1.alike (x := y)
    exact this.trans hnO
  have hmo : mm = obj := Option.some.inj (hf.symm.trans (State.methodFound?_of_named hnamed' hy))
  subst hmo
  have hcls : c' = mm.cls := Option.some.inj (hfc.symm.trans (findClass_of_methodNamed hnamed'))
  subst hcls
  obtain ⟨kO₂, hkO₂, heO₂⟩ := hW1.alike.2.2 _ _ hkO
  have hmO₂ : T.vm.method? mm = some methO := by rw [hW1.alike.method?]; exact hmO
  have hfound : lookupSpecial T.vm mm.cls "<init>" methO.desc = .method mm := by
    rw [hW1.alike.lookupSpecial, hdescO, ← hy1]; exact lookupSpecial_of_named hnO hmO hstO
  obtain ⟨v, B, X', hpost, hsteps⟩ := hK g.method meth c ⟨T.setVm T.vm, locs, cells, slots⟩ { g with stack := rest } (.invokespecial index) mm (.ref a :: argsL).toArray X rfl hsize hdg hW (X.named hnO) (hpre T.vm hW1)
  refine ⟨v, T.vm, B, hW1, X', hpost, (hcome.trans ?_).trans hsteps⟩
  jvm_step X.here [hexec, hdg, invokespecial.wp_init (e := e) (s := T) (k := kO₂) (meth := methO) (m := mm) (a := a) (args := argsL) (rest := rest) (f := g) X.here.top hnr hrdy hkO₂ hmO₂ (by rw [hnameMO]; exact hy1) hstO habO hfound (hlen _ hsigO) hstack]
  intro acts
  rw [doInvoke_state]; exact Steps.refl _
theorem k_specialR (N : ONow p l e R s m args below meth c Z own cd ml ret nm T cells slots K) {y : MethodName} {bytes : ByteArray} {maxL : Nat} {rm : Room} {Q : Option Value → List Ent → Prop} {idx : Nat} {rest : List Value} {ps : List FieldType} {rp : Option FieldType} {cells' slots' : Nat} (as : List Value) {a : Addr} (hd : decode cd pc = .ok (.invokespecial idx, 3)) (hy1 : y.name = "<init>") (w1 : (Cond.methodRef own idx y).before a0 Z = true) (w2 : (Cond.instanceMethod y).before a0 Z = true) (w3 : (Cond.initialized y.cls).before a0 Z = true) (w4 : (Cond.code y bytes maxL none).before a0 Z = true) (hy : y.cls ≠ "java/lang/invoke/MethodHandle" ∧ y.cls ≠ "java/lang/invoke/VarHandle") (hpd : parseMethodDescriptor y.desc = some ⟨ps, rp⟩) (hlen : as.length = ps.length) (hM : OMeets l y bytes maxL none rm Z (.ref a :: as) K Q) (hst : st = as.reverse ++ .ref a :: rest) (hls : Ls.size = ml) (W : Nat) (hW : (rest.map fun v => v.category).sum = W) (hf : rm.frames + 1 ≤ R.frames) (hlo : W + (maxL + 11) + rm.locals ≤ R.locals) (hce : cells + rm.cells = cells') (hse : slots + rm.slots = slots') (hc1 : cells' ≤ R.cells) (hs1 : slots' ≤ R.slots) (hr : ∀ T' v K', ONow p l e R s m args below meth c Z own cd ml ret nm T' cells' slots' K' → Q v K' → OGo p e below Φ T' (mkF m (pc + 3) Ls (v.toList ++ rest))) : OGo p e below Φ T (mkF m pc Ls st) := by
  subst hce hse hst
  obtain ⟨locs, X, n1, n2, hx, hZ, hc, hm, ho, r⟩ := N
  have := specialBackR X hx (y := y) hy1 hZ ho w1 (mvT hZ w2) (mvT hZ w4) hy (backOf (W := W) (Q := fun v h L => Fr Z.heap.size L ∧ ∃ K', OKnow Z h K' ∧ Q v K') (hM [] T.heap n2) hZ w4 w3 hf hlo) (g := mkF m pc Ls (as.reverse ++ .ref a :: rest)) rfl (by rw [hm]; exact hls) (Steps.refl _) (a := a) (argsL := as) (rest := rest) (lenOf hpd hlen) rfl (by show 2 * 0 + _ ≤ _; rw [Nat.zero_add]; exact Nat.le_of_eq hW) (hb hc hd) (fun _ _ => ⟨rfl, rfl, hc1, hs1⟩)
  obtain ⟨v, vm₁, ⟨T', L', k', n'⟩, -, X', ⟨Lc, ⟨q1, K', q2, q3⟩, e1, e2, e3⟩, stp⟩ := this
  dsimp only [Pt.U, Pt.locs, Pt.cells, Pt.slots] at X' e1 e2 e3 stp q2
  subst e1 e2 e3
  obtain ⟨U, o, h1, h2⟩ := hr T' v K' ⟨_, X', Fr.app n1 q1, q2, hx, hZ, hc, hm, ho, r⟩ q3
  exact ⟨U, o, stp.trans h1, h2⟩
theorem k_anewarray (N : ONow p l e R s m args below meth c Z own cd ml ret nm T cells slots K) {C : String} {idx : Nat} {n : Int32} {vs : List Value} (cap : Nat) (hd : decode cd pc = .ok (.anewarray idx, 3)) (w1 : (Cond.classLink own idx C).before a0 Z = true) (w2 : (Cond.arrayOver (.object C)).before a0 Z = true) (hn : ¬ n < 0) (hcap : n.toNatClampNeg ≤ cap) (hb0 : cap * 8 ≤ 536870912) (hv : List.replicate n.toNatClampNeg Value.null = vs) (h1 : cells + 1 ≤ R.cells) (h2 : slots + cap ≤ R.slots) (hr : ∀ T' a k, Ovr Z k C → ONow p l e R s m args below meth c Z own cd ml ret nm T' (cells + 1) (slots + cap) (oArr Z a k (.object C) vs :: K) → OGo p e below Φ T' (mkF m (pc + 3) Ls (.ref a :: st))) : OGo p e below Φ T (mkF m pc Ls (.int n :: st)) := by
  subst hv
  obtain ⟨locs, X, n1, n2, hx, hZ, hc, hm, ho, r⟩ := N
  obtain ⟨T', h', cA, X', e', E, A, O, stp⟩ := newR X hx hZ ho w1 w2 rfl (g := mkF m pc Ls (.int n :: st)) rfl (hb hc hd) rfl hn hcap hb0 h1 h2
  subst e'
  have hP : (oArr Z T.heap.size cA (.object C) (List.replicate n.toNatClampNeg Value.null)).2 (newA cA (.object C) n) := ⟨A.2.1, A.2.2, rfl, by simp [newA, defaultValue], by simp; omega⟩
  obtain ⟨U, o, h1, h2⟩ := hr T' T.heap.size cA O ⟨locs, X', n1, n2.cons E A.1 hP, hx, hZ, hc, hm, ho, r⟩
  exact ⟨U, o, stp _ h1, h2⟩
theorem k_aastore (N : ONow p l e R s m args below meth c Z own cd ml ret nm T cells slots K) {C : String} {a y : Addr} {k : ClassId} {vs : List Value} {fs : List FV} {j : Int32} {K' : List Ent} (i iy jn : Nat) (hd : decode cd pc = .ok (.aastore, 1)) (hO : Ovr Z k C) (hi : K[i]? = some (oArr Z a k (.object C) vs)) (hy : K[iy]? = some (oObj Z y C fs)) (h0 : ¬ j < 0) (hjn : j.toNatClampNeg = jn) (hlt : jn < vs.length) (hK : K.set i (oArr Z a k (.object C) (vs.set jn (.ref y))) = K') (hr : ∀ T', ONow p l e R s m args below meth c Z own cd ml ret nm T' cells slots K' → OGo p e below Φ T' (mkF m (pc + 1) Ls st)) : OGo p e below Φ T (mkF m pc Ls (.ref y :: .int j :: .ref a :: st)) := by
  subst hjn hK
  obtain ⟨locs, X, n1, n2, hx, hZ, hc, hm, ho, r⟩ := N
  obtain ⟨cl, A, A1, A2, A3⟩ := n2.arr hi
  obtain ⟨T', h', X', e', W, stp⟩ := stR X hx hZ rfl A (inb h0 (by rw [A2]; simpa using hlt)) rfl (Sto.of A (by rw [A1]; exact hO) (Ins.self (n2.exa hy))) (g := mkF m pc Ls (.ref y :: .int j :: .ref a :: st)) rfl rfl (hb hc hd)
  subst e'
  obtain ⟨U, o, h1, h2⟩ := hr T' ⟨_, X', Fr.snoc X' n1 (n2.at hi).1, n2.putA hi W, hx, hZ, hc, hm, ho, r⟩
  exact ⟨U, o, stp _ h1, h2⟩
theorem k_minD (N : ONow p l e R s m args below meth c Z own cd ml ret nm T cells slots K) {idx : Nat} {x y v : UInt64} {bytes : ByteArray} (W : Nat) (hd : decode cd pc = .ok (.invokestatic idx, 3)) (hby : bytes = Jvm.Free.Fl.Abs.minDCode) (w1 : (Cond.methodLink own idx Jvm.Free.Fl.Abs.minDN).before a0 Z = true) (w2 : (Cond.static Jvm.Free.Fl.Abs.minDN).before a0 Z = true) (w3 : (Cond.initialized "java/lang/Math").before a0 Z = true) (w4 : (Cond.code Jvm.Free.Fl.Abs.minDN bytes 4 (some .double)).before a0 Z = true) (hnx : Jvm.Free.Fl.NoNaN64 x) (hny : Jvm.Free.Fl.NoNaN64 y) (hv : Jvm.Native.java_lang_Math.nans.pick64 false x y = v) (hls : Ls.size = ml) (hW : (st.map fun v => v.category).sum = W) (hf : 1 ≤ R.frames) (hlo : W + 15 ≤ R.locals) (hc1 : cells ≤ R.cells) (hs1 : slots ≤ R.slots) (hr : ∀ T', ONow p l e R s m args below meth c Z own cd ml ret nm T' cells slots K → OGo p e below Φ T' (mkF m (pc + 3) Ls (.double v :: st))) : OGo p e below Φ T (mkF m pc Ls (.double y :: .double x :: st)) := by
  subst hby hv
  obtain ⟨locs, X, n1, n2, hx, hZ, hc, hm, ho, r⟩ := N
  obtain ⟨T', X', e', stp⟩ := natS X hx hZ ho w1 w2 w3 w4 (by decide) rfl (W := W) (F := fun a' => a' = #[.double x, .double y] ∧ Jvm.Free.Fl.NoNaN64 x ∧ Jvm.Free.Fl.NoNaN64 y) (val' := .double (Jvm.Native.java_lang_Math.nans.pick64 false x y)) (fun c4 => Jvm.Free.Fl.Abs.minD_pays x y c4 hf hlo) (g := mkF m pc Ls (.double y :: .double x :: st)) rfl (by rw [hm]; exact hls) (argsL := [.double x, .double y]) (rest := st) (lenOf (ps := [.double, .double]) (r := some .double) (by decide +kernel) rfl) rfl (by show 2 * 0 + _ ≤ _; rw [Nat.zero_add]; exact Nat.le_of_eq hW) (hb hc hd) hc1 hs1 ⟨rfl, hnx, hny⟩ rfl
  obtain ⟨U, o, h1, h2⟩ := hr T' ⟨locs, X', n1, by rw [e']; exact n2, hx, hZ, hc, hm, ho, r⟩
  exact ⟨U, o, stp _ h1, h2⟩
theorem k_maxD (N : ONow p l e R s m args below meth c Z own cd ml ret nm T cells slots K) {idx : Nat} {x y v : UInt64} {bytes : ByteArray} (W : Nat) (hd : decode cd pc = .ok (.invokestatic idx, 3)) (hby : bytes = Jvm.Free.Fl.Abs.maxDCode) (w1 : (Cond.methodLink own idx Jvm.Free.Fl.Abs.maxDN).before a0 Z = true) (w2 : (Cond.static Jvm.Free.Fl.Abs.maxDN).before a0 Z = true) (w3 : (Cond.initialized "java/lang/Math").before a0 Z = true) (w4 : (Cond.code Jvm.Free.Fl.Abs.maxDN bytes 4 (some .double)).before a0 Z = true) (hnx : Jvm.Free.Fl.NoNaN64 x) (hny : Jvm.Free.Fl.NoNaN64 y) (hv : Jvm.Native.java_lang_Math.nans.pick64 true x y = v) (hls : Ls.size = ml) (hW : (st.map fun v => v.category).sum = W) (hf : 1 ≤ R.frames) (hlo : W + 15 ≤ R.locals) (hc1 : cells ≤ R.cells) (hs1 : slots ≤ R.slots) (hr : ∀ T', ONow p l e R s m args below meth c Z own cd ml ret nm T' cells slots K → OGo p e below Φ T' (mkF m (pc + 3) Ls (.double v :: st))) : OGo p e below Φ T (mkF m pc Ls (.double y :: .double x :: st)) := by
  subst hby hv
  obtain ⟨locs, X, n1, n2, hx, hZ, hc, hm, ho, r⟩ := N
  obtain ⟨T', X', e', stp⟩ := natS X hx hZ ho w1 w2 w3 w4 (by decide) rfl (W := W) (F := fun a' => a' = #[.double x, .double y] ∧ Jvm.Free.Fl.NoNaN64 x ∧ Jvm.Free.Fl.NoNaN64 y) (val' := .double (Jvm.Native.java_lang_Math.nans.pick64 true x y)) (fun c4 => Jvm.Free.Fl.Abs.maxD_pays x y c4 hf hlo) (g := mkF m pc Ls (.double y :: .double x :: st)) rfl (by rw [hm]; exact hls) (argsL := [.double x, .double y]) (rest := st) (lenOf (ps := [.double, .double]) (r := some .double) (by decide +kernel) rfl) rfl (by show 2 * 0 + _ ≤ _; rw [Nat.zero_add]; exact Nat.le_of_eq hW) (hb hc hd) hc1 hs1 ⟨rfl, hnx, hny⟩ rfl
  obtain ⟨U, o, h1, h2⟩ := hr T' ⟨locs, X', n1, by rw [e']; exact n2, hx, hZ, hc, hm, ho, r⟩
  exact ⟨U, o, stp _ h1, h2⟩
theorem k_lsw (N : ONow p l e R s m args below meth c Z own cd ml ret nm T cells slots K) {x : Int32} {df : Int} {prs : Array (Int × Int)} {len pc' : Nat} {a off : Int} (hd : decode cd pc = .ok (.lookupswitch df prs, len)) (hs : (prs.toList.zip (prs.toList.drop 1)).all (fun (a, next) => a.1 < next.1) = true) (hf : prs.find? (·.1 == x.toInt) = some (a, off)) (hp : 0 ≤ (pc : Int) + off) (hp' : ((pc : Int) + off).toNat = pc') (hr : OGo p e below Φ T (mkF m pc' Ls st)) : OGo p e below Φ T (mkF m pc Ls (.int x :: st)) := by
  subst hp'
  obtain ⟨_, X, -, -, hx, -, hc, -⟩ := N
  obtain ⟨U, o, h1, h2⟩ := hr
  exact ⟨U, o, X.lookupswitchHit hx (g := mkF m pc Ls (.int x :: st)) rfl rfl (hb hc hd) hs hf hp _ h1, h2⟩
theorem ONow.ne (N : ONow p l e R s m args below meth c Z own cd ml ret nm T cells slots K) {i j : Nat} {x y : Ent} (hi : K[i]? = some x) (hj : K[j]? = some y) (ne : i ≠ j) : x.1 ≠ y.1 := by
  obtain ⟨_, _, _, n2, _⟩ := N
  exact nodup_ne n2.2.2 (i := i) (j := j) (by simp [hi]) (by simp [hj]) ne
theorem ONow.acmp_ne (N : ONow p l e R s m args below meth c Z own cd ml ret nm T cells slots K) {i j : Nat} {x y : Ent} (hi : K[i]? = some x) (hj : K[j]? = some y) (ne : i ≠ j) : decide (Value.ref x.1 = Value.ref y.1) = false := decide_eq_false fun q => ONow.ne N hi hj ne (Value.ref.inj q)
end Wi
end Jvm.Own7
namespace Jvm.Own7F
open Jvm.FP.Core
/-! Laws of the rounded quotient, product and sum, by the values in units of the least double. -/
theorem signed_nonneg_iff {s : Bool} {m : Nat} : 0 < signed s m ↔ s = false ∧ 0 < m := by cases s <;> simp [signed] <;> omega
theorem ratio_le {s : Bool} {A B : Nat} {e e0 : Int} {V : Datum} (hB : 0 < B) (hV : FP.Core.fits b64 V) (hn : V ≠ .nan) (h0 : e0 ≤ b64.qmin) (h0e : e0 ≤ e)
    (h : signed s (inUnits A e e0) ≤ zval b64 V * ((2 ^ (b64.qmin - e0).toNat * B : Nat) : Int)) : zval b64 (roundRatio b64 s A B e) ≤ zval b64 V := by
  have le := zmag_roundRatio_le good_b64 (s := s) (A := A) hB hV hn h0 h0e
  have ge := zmag_roundRatio_ge good_b64 (s := s) (A := A) hB hV h0 h0e
  have hp : 0 < 2 ^ (b64.qmin - e0).toNat * B := Nat.mul_pos (Nat.two_pow_pos _) hB
  rw [Nat.mul_assoc] at le ge
  unfold zval at h ⊢
  rw [sgn_roundRatio]
  generalize 2 ^ (b64.qmin - e0).toNat * B = P at *
  generalize zmag b64 (roundRatio b64 s A B e) = r at *
  generalize inUnits A e e0 = a at *
  generalize zmag b64 V = v at *
  have e1 : ((v * P : Nat) : Int) = (v : Int) * (P : Int) := Int.natCast_mul v P
  generalize sgn V = t at *
  cases s <;> cases t <;> simp only [signed, if_true, Bool.false_eq_true, if_false] at h ⊢
  · have := le (by omega); omega
  · have hz : v * P = 0 := by rw [Int.neg_mul] at h; omega
    have hv : v = 0 := by rcases Nat.mul_eq_zero.mp hz with q | q <;> omega
    have := le (by rw [Int.neg_mul] at h; omega); omega
  · omega
  · have := ge (by rw [Int.neg_mul] at h; omega); omega
theorem ratio_neg (s : Bool) (A B : Nat) (e : Int) : zval b64 (roundRatio b64 (!s) A B e) = -zval b64 (roundRatio b64 s A B e) := by
  have : roundRatio b64 (!s) A B e = negate (roundRatio b64 s A B e) := by
    unfold roundRatio roundAt settle bound
    split
    · rfl
    · split <;> split <;> rfl
  rw [this, zval_negate]
theorem ratio_ge {s : Bool} {A B : Nat} {e e0 : Int} {V : Datum} (hB : 0 < B) (hV : FP.Core.fits b64 V) (hn : V ≠ .nan) (h0 : e0 ≤ b64.qmin) (h0e : e0 ≤ e)
    (h : zval b64 V * ((2 ^ (b64.qmin - e0).toNat * B : Nat) : Int) ≤ signed s (inUnits A e e0)) : zval b64 V ≤ zval b64 (roundRatio b64 s A B e) := by
  have q := ratio_le (s := !s) (A := A) (V := negate V) hB (negate_fits hV) (by cases V <;> first | exact absurd rfl hn | exact Datum.noConfusion) h0 h0e (by
    rw [zval_negate, Int.neg_mul]
    have : signed (!s) (inUnits A e e0) = -signed s (inUnits A e e0) := by cases s <;> simp [signed]
    rw [this]; omega)
  rw [zval_negate, ratio_neg] at q; omega
abbrev z (x : UInt64) : Int := zval b64 (val64 x)
def U : Nat := 2 ^ 1074
theorem qm : b64.qmin = -1074 := by decide
theorem fin_z {x : UInt64} (h : DFin x) : ∃ s c q, val64 x = .fin s c q ∧ -1074 ≤ q := by
  obtain ⟨s, c, q, e⟩ := h
  have f := val64_fits x
  rw [e] at f
  exact ⟨s, c, q, e, by have := f.2.1; rw [qm] at this; exact this⟩
theorem div_val {a b : UInt64} (ha : DFin a) (hb : DFin b) (hz : z b ≠ 0) : val64 (ddiv a b) = roundRatio b64 (sgn (val64 a) != sgn (val64 b)) (zmag b64 (val64 a)) (zmag b64 (val64 b)) 0 := by
  obtain ⟨s, c, q, e1, h1⟩ := fin_z ha
  obtain ⟨t, d, r, e2, h2⟩ := fin_z hb
  rw [val64_ddiv]
  unfold z zval at hz
  rw [e2] at hz
  simp only [sgn, zmag] at hz
  have hd : d ≠ 0 := fun q => hz (by subst q; cases t <;> simp [signed, inUnits])
  rw [e1, e2]
  simp only [quotient, hd, if_false, sgn, zmag, inUnits, qm]
  have p2 := Nat.two_pow_pos (r - -1074).toNat
  refine roundRatio_congr (by omega) (Nat.mul_pos (by omega) p2) ?_
  have x1 : c * (d * 2 ^ (r - -1074).toNat) * 2 ^ (q - r - 0).toNat = c * d * 2 ^ ((r - -1074).toNat + (q - r - 0).toNat) := by rw [Nat.pow_add]; ac_rfl
  have x2 : c * 2 ^ (q - -1074).toNat * d * 2 ^ (0 - (q - r)).toNat = c * d * 2 ^ ((q - -1074).toNat + (0 - (q - r)).toNat) := by rw [Nat.pow_add]; ac_rfl
  rw [x1, x2]
  congr 2; omega
theorem mul_val {a b : UInt64} (ha : DFin a) (hb : DFin b) : val64 (dmul a b) = roundRatio b64 (sgn (val64 a) != sgn (val64 b)) (zmag b64 (val64 a) * zmag b64 (val64 b)) 1 (-2148) := by
  obtain ⟨s, c, q, e1, h1⟩ := fin_z ha
  obtain ⟨t, d, r, e2, h2⟩ := fin_z hb
  rw [val64_dmul, e1, e2]
  simp only [exactProduct, round, sgn, zmag, inUnits, qm]
  refine roundRatio_congr (by decide) (by decide) ?_
  have x1 : c * d * 1 * 2 ^ (q + r - -2148).toNat = c * d * 2 ^ (q + r - -2148).toNat := by rw [Nat.mul_one]
  have x2 : c * 2 ^ (q - -1074).toNat * (d * 2 ^ (r - -1074).toNat) * 1 * 2 ^ (-2148 - (q + r)).toNat = c * d * 2 ^ ((q - -1074).toNat + (r - -1074).toNat + (-2148 - (q + r)).toNat) := by rw [Nat.pow_add, Nat.pow_add]; ac_rfl
  rw [x1, x2]
  congr 2; omega
theorem signed_mul' (s t : Bool) (m n : Nat) : signed (s != t) (m * n) = signed s m * signed t n := by
  cases s <;> cases t <;> simp [signed, Int.natCast_mul, Int.neg_mul, Int.mul_neg]
theorem signed_scale (s : Bool) (m n : Nat) : signed s (m * n) = signed s m * (n : Int) := by cases s <;> simp [signed, Int.natCast_mul, Int.neg_mul]
theorem U_pos : 0 < U := Nat.two_pow_pos _
/-- the quotient by a positive double -/
theorem div_le {a b V : UInt64} (ha : DFin a) (hb : DFin b) (hb0 : 0 < z b) (hV : val64 V ≠ .nan) (h : z a * (U : Int) ≤ z V * z b) : z (ddiv a b) ≤ z V := by
  have hb1 := signed_nonneg_iff.mp (show 0 < signed (sgn (val64 b)) (zmag b64 (val64 b)) from hb0)
  have e : z b = ((zmag b64 (val64 b) : Nat) : Int) := by show signed _ _ = _; rw [hb1.1]; simp [signed]
  show zval b64 (val64 (ddiv a b)) ≤ _
  rw [div_val ha hb (by omega), hb1.1, Bool.bne_false]
  refine ratio_le (e0 := -1074) hb1.2 (val64_fits V) hV (by rw [qm]; omega) (by omega) ?_
  rw [qm]
  simp only [inUnits, show (-1074 - -1074 : Int).toNat = 0 from rfl, show (0 - -1074 : Int).toNat = 1074 from rfl, Nat.pow_zero, Nat.one_mul]
  rw [signed_scale, ← e]; exact h
theorem div_ge {a b V : UInt64} (ha : DFin a) (hb : DFin b) (hb0 : 0 < z b) (hV : val64 V ≠ .nan) (h : z V * z b ≤ z a * (U : Int)) : z V ≤ z (ddiv a b) := by
  have hb1 := signed_nonneg_iff.mp (show 0 < signed (sgn (val64 b)) (zmag b64 (val64 b)) from hb0)
  have e : z b = ((zmag b64 (val64 b) : Nat) : Int) := by show signed _ _ = _; rw [hb1.1]; simp [signed]
  show _ ≤ zval b64 (val64 (ddiv a b))
  rw [div_val ha hb (by omega), hb1.1, Bool.bne_false]
  refine ratio_ge (e0 := -1074) hb1.2 (val64_fits V) hV (by rw [qm]; omega) (by omega) ?_
  rw [qm]
  simp only [inUnits, show (-1074 - -1074 : Int).toNat = 0 from rfl, show (0 - -1074 : Int).toNat = 1074 from rfl, Nat.pow_zero, Nat.one_mul]
  rw [signed_scale, ← e]; exact h
theorem z_l2d {a : Int64} (h : Small53 a) : z (l2d a) = a.toInt * (U : Int) := by
  have q := whole_zval good_b64 (val64_fits _) (l2d_whole h)
  rw [qm] at q; exact q
theorem z_i2d (x : Int32) : z (i2d x) = x.toInt * (U : Int) := by
  have h1 := Int32.toInt_lt x; have h2 := Int32.le_toInt x
  have e : x.toInt64.toInt = x.toInt := Int32.toInt_toInt64 x
  rw [i2d_l2d, z_l2d ⟨by rw [e]; omega, by rw [e]; omega⟩, e]
theorem mul_le {a b V : UInt64} (ha : DFin a) (hb : DFin b) (hV : val64 V ≠ .nan) (h : z a * z b ≤ z V * (U : Int)) : z (dmul a b) ≤ z V := by
  show zval b64 (val64 (dmul a b)) ≤ _
  rw [mul_val ha hb]
  refine ratio_le (e0 := -2148) (by decide) (val64_fits V) hV (by rw [qm]; omega) (by omega) ?_
  rw [qm]
  simp only [inUnits, show (-2148 - -2148 : Int).toNat = 0 from rfl, show (-1074 - -2148 : Int).toNat = 1074 from rfl, Nat.pow_zero, Nat.mul_one]
  rw [signed_mul']; exact h
theorem mul_ge {a b V : UInt64} (ha : DFin a) (hb : DFin b) (hV : val64 V ≠ .nan) (h : z V * (U : Int) ≤ z a * z b) : z V ≤ z (dmul a b) := by
  show _ ≤ zval b64 (val64 (dmul a b))
  rw [mul_val ha hb]
  refine ratio_ge (e0 := -2148) (by decide) (val64_fits V) hV (by rw [qm]; omega) (by omega) ?_
  rw [qm]
  simp only [inUnits, show (-2148 - -2148 : Int).toNat = 0 from rfl, show (-1074 - -2148 : Int).toNat = 1074 from rfl, Nat.pow_zero, Nat.mul_one]
  rw [signed_mul']; exact h
theorem add_le {a b V : UInt64} (ha : DFin a) (hb : DFin b) (hV : val64 V ≠ .nan) (h : z a + z b ≤ z V) : z (dadd a b) ≤ z V := by
  show zval b64 (val64 (dadd a b)) ≤ _
  rw [val64_dadd]; exact sum_le good_b64 ha hb (val64_fits a) (val64_fits b) (val64_fits V) hV h
theorem add_ge {a b V : UInt64} (ha : DFin a) (hb : DFin b) (hV : val64 V ≠ .nan) (h : z V ≤ z a + z b) : z V ≤ z (dadd a b) := by
  show _ ≤ zval b64 (val64 (dadd a b))
  rw [val64_dadd]; exact sum_ge good_b64 ha hb (val64_fits a) (val64_fits b) (val64_fits V) hV h
/-- the magnitudes of roundings are ordered as what was rounded -/
theorem mag_mono {s t : Bool} {A1 B1 A2 B2 : Nat} {e1 e2 e0 : Int} (hB1 : 0 < B1) (hB2 : 0 < B2) (h0 : e0 < b64.qmin) (h1 : e0 ≤ e1) (h2 : e0 ≤ e2)
    (h : inUnits A1 e1 e0 * B2 ≤ inUnits A2 e2 e0 * B1) : zmag b64 (roundRatio b64 s A1 B1 e1) ≤ zmag b64 (roundRatio b64 t A2 B2 e2) := by
  have f1 := roundRatio_fits good_b64 s A1 hB1 e1
  have f2 := roundRatio_fits good_b64 t A2 hB2 e2
  have le := zmag_roundRatio_le good_b64 (s := s) (A := A1) (V := roundRatio b64 t A2 B2 e2) hB1 f2 (by rcases roundRatio_cases b64 t A2 B2 e2 with ⟨c, q, e⟩ | e <;> rw [e] <;> exact Datum.noConfusion) (Int.le_of_lt h0) h1
  have ge := zmag_roundRatio_ge good_b64 (s := t) (A := A2) (V := roundRatio b64 s A1 B1 e1) hB2 f1 (Int.le_of_lt h0) h2
  refine Nat.le_of_not_lt fun lt => ?_
  have top1 := zmag_le_top good_b64 f1
  obtain ⟨c2, q2, r2⟩ : ∃ c2 q2, roundRatio b64 t A2 B2 e2 = .fin t c2 q2 := by
    rcases roundRatio_cases b64 t A2 B2 e2 with r2 | r2
    · exact r2
    · rw [r2] at lt; exact absurd (Nat.lt_of_lt_of_le lt top1) (Nat.lt_irrefl _)
  obtain ⟨c1, q1, r1⟩ : ∃ c1 q1, roundRatio b64 s A1 B1 e1 = .fin s c1 q1 := by
    rcases roundRatio_cases b64 s A1 B1 e1 with r1 | r1
    · exact r1
    have i1 := (roundRatio_inf good_b64 (s := s) (A := A1) hB1 h0 h1).mp r1
    have i2 : roundRatio b64 t A2 B2 e2 = .inf t := (roundRatio_inf good_b64 hB2 h0 h2).mpr (by
      generalize (2 ^ (b64.p + 1) - 1) * 2 ^ (b64.qmax - 1 - e0).toNat = W at *
      have x1 := Nat.mul_le_mul_right B2 i1
      have x2 := Nat.le_trans x1 h
      have x3 : W * B1 * B2 = W * B2 * B1 := by ac_rfl
      rw [x3] at x2
      exact Nat.le_of_mul_le_mul_right x2 hB1)
    rw [r2] at i2; cases i2
  have n1 := roundRatio_nearest good_b64 hB1 r1 (c' := c2) (q' := q2) (by rw [r2] at f2; exact f2.1) (by rw [r2] at f2; exact f2.2.1) (Int.le_of_lt h0) h1
  have n2 := roundRatio_nearest good_b64 hB2 r2 (c' := c1) (q' := q1) (by rw [r1] at f1; exact f1.1) (by rw [r1] at f1; exact f1.2.1) (Int.le_of_lt h0) h2
  have m1 : inUnits c1 q1 e0 = zmag b64 (roundRatio b64 s A1 B1 e1) * 2 ^ (b64.qmin - e0).toNat := by
    rw [r1]; exact inUnits_move c1 (Int.le_of_lt h0) (by rw [r1] at f1; exact f1.2.1)
  have m2 : inUnits c2 q2 e0 = zmag b64 (roundRatio b64 t A2 B2 e2) * 2 ^ (b64.qmin - e0).toNat := by
    rw [r2]; exact inUnits_move c2 (Int.le_of_lt h0) (by rw [r2] at f2; exact f2.2.1)
  unfold distance at n1 n2
  rw [m1, m2] at n1 n2
  have cong : inUnits A1 e1 e0 * B2 = inUnits A2 e2 e0 * B1 → zmag b64 (roundRatio b64 s A1 B1 e1) = zmag b64 (roundRatio b64 t A2 B2 e2) := fun q => by
    have u1 : roundRatio b64 s A1 B1 e1 = roundRatio b64 s (inUnits A1 e1 e0) B1 e0 := roundRatio_congr hB1 hB1 (by
      unfold inUnits; rw [show (e0 - e1).toNat = 0 by omega]; rw [Nat.pow_zero, Nat.mul_one]; ac_rfl)
    have u2 : roundRatio b64 t A2 B2 e2 = roundRatio b64 t (inUnits A2 e2 e0) B2 e0 := roundRatio_congr hB2 hB2 (by
      unfold inUnits; rw [show (e0 - e2).toNat = 0 by omega]; rw [Nat.pow_zero, Nat.mul_one]; ac_rfl)
    have u3 : roundRatio b64 s (inUnits A1 e1 e0) B1 e0 = roundRatio b64 s (inUnits A2 e2 e0) B2 e0 := roundRatio_congr hB1 hB2 (by rw [q])
    rw [u1, u2, u3]
    by_cases w0 : s = t
    · rw [w0]
    · have w : s = !t := by cases s <;> cases t <;> simp_all
      have := ratio_neg t (inUnits A2 e2 e0) B2 e0
      rw [w]
      have v : ∀ s', zmag b64 (roundRatio b64 s' (inUnits A2 e2 e0) B2 e0) = (zval b64 (roundRatio b64 s' (inUnits A2 e2 e0) B2 e0)).natAbs := fun s' => (natAbs_signed _ _).symm
      rw [v, v, this, Int.natAbs_neg]
  generalize 2 ^ (b64.qmin - e0).toNat = P at *
  generalize zmag b64 (roundRatio b64 s A1 B1 e1) = y1 at *
  generalize zmag b64 (roundRatio b64 t A2 B2 e2) = y2 at *
  generalize inUnits A1 e1 e0 = a1 at *
  generalize inUnits A2 e2 e0 = a2 at *
  have g1 : y2 * P * B1 < a1 := Nat.lt_of_not_le fun q => absurd (le q) (Nat.not_le.mpr lt)
  have g2 : a2 < y1 * P * B2 := Nat.lt_of_not_le fun q => absurd (ge q) (Nat.not_le.mpr lt)
  have g3 : a1 < y1 * P * B1 := by
    have x := Nat.mul_lt_mul_of_pos_right g2 hB1
    have : y1 * P * B2 * B1 = y1 * P * B1 * B2 := by ac_rfl
    rw [this] at x
    exact Nat.lt_of_mul_lt_mul_right (Nat.lt_of_le_of_lt h x)
  have g4 : y2 * P * B2 < a2 := by
    have x := Nat.mul_lt_mul_of_pos_right g1 hB2
    have : y2 * P * B1 * B2 = y2 * P * B2 * B1 := by ac_rfl
    rw [this] at x
    exact Nat.lt_of_mul_lt_mul_right (Nat.lt_of_lt_of_le x h)
  have k1 : (y1 * P + y2 * P) * B1 ≤ 2 * a1 := by rw [Nat.add_mul]; simp only [← Int.natCast_mul] at n1; omega
  have k2 : 2 * a2 ≤ (y1 * P + y2 * P) * B2 := by rw [Nat.add_mul]; simp only [← Int.natCast_mul] at n2; omega
  have k3 := Nat.mul_le_mul_right B2 k1
  have k4 := Nat.mul_le_mul_right B1 k2
  have k5 : (y1 * P + y2 * P) * B1 * B2 = (y1 * P + y2 * P) * B2 * B1 := by ac_rfl
  have k6 : a1 * B2 = a2 * B1 := by
    rw [k5] at k3
    have := Nat.le_trans k4 k3
    rw [Nat.mul_assoc, Nat.mul_assoc] at this
    omega
  exact absurd (cong k6) (Nat.ne_of_gt lt)
theorem ratio_mono {s t : Bool} {A1 B1 A2 B2 : Nat} {e1 e2 e0 : Int} (hB1 : 0 < B1) (hB2 : 0 < B2) (h0 : e0 < b64.qmin) (h1 : e0 ≤ e1) (h2 : e0 ≤ e2)
    (h : signed s (inUnits A1 e1 e0) * (B2 : Int) ≤ signed t (inUnits A2 e2 e0) * (B1 : Int)) : zval b64 (roundRatio b64 s A1 B1 e1) ≤ zval b64 (roundRatio b64 t A2 B2 e2) := by
  have p := mag_mono (s := s) (t := t) (A1 := A1) (A2 := A2) hB1 hB2 h0 h1 h2
  have q := mag_mono (s := t) (t := s) (A1 := A2) (A2 := A1) hB2 hB1 h0 h2 h1
  have zz : ∀ {s' : Bool} {A B : Nat} {e : Int}, 0 < B → e0 ≤ e → inUnits A e e0 = 0 → zmag b64 (roundRatio b64 s' A B e) = 0 := fun {s' A B e} hB he hz => by
    have hA : A = 0 := by
      unfold inUnits at hz
      rcases Nat.mul_eq_zero.mp hz with w | w
      · exact w
      · exact absurd w (Nat.ne_of_gt (Nat.two_pow_pos _))
    unfold roundRatio; rw [if_pos hA]; simp [zmag, inUnits]
  have z1 := zz (s' := s) (A := A1) hB1 h1
  have z2 := zz (s' := t) (A := A2) hB2 h2
  unfold zval
  rw [sgn_roundRatio, sgn_roundRatio]
  generalize zmag b64 (roundRatio b64 s A1 B1 e1) = y1 at *
  generalize zmag b64 (roundRatio b64 t A2 B2 e2) = y2 at *
  generalize inUnits A1 e1 e0 = a1 at *
  generalize inUnits A2 e2 e0 = a2 at *
  have x1 : ((a1 * B2 : Nat) : Int) = (a1 : Int) * (B2 : Int) := Int.natCast_mul _ _
  have x2 : ((a2 * B1 : Nat) : Int) = (a2 : Int) * (B1 : Int) := Int.natCast_mul _ _
  cases s <;> cases t <;> simp only [signed, if_true, Bool.false_eq_true, if_false] at h ⊢
  · have := p (by omega); omega
  · rw [Int.neg_mul] at h
    have w1 : a1 * B2 = 0 := by omega
    have w2 : a2 * B1 = 0 := by omega
    have v1 := z1 (by rcases Nat.mul_eq_zero.mp w1 with w | w <;> omega)
    have v2 := z2 (by rcases Nat.mul_eq_zero.mp w2 with w | w <;> omega)
    omega
  · omega
  · rw [Int.neg_mul, Int.neg_mul] at h
    have := q (by omega); omega
theorem div_mono {a b c d : UInt64} (ha : DFin a) (hb : DFin b) (hc : DFin c) (hd : DFin d) (hb0 : 0 < z b) (hd0 : 0 < z d) (h : z a * z d ≤ z c * z b) : z (ddiv a b) ≤ z (ddiv c d) := by
  have hb1 := signed_nonneg_iff.mp (show 0 < signed (sgn (val64 b)) (zmag b64 (val64 b)) from hb0)
  have hd1 := signed_nonneg_iff.mp (show 0 < signed (sgn (val64 d)) (zmag b64 (val64 d)) from hd0)
  have eb : z b = ((zmag b64 (val64 b) : Nat) : Int) := by show signed _ _ = _; rw [hb1.1]; simp [signed]
  have ed : z d = ((zmag b64 (val64 d) : Nat) : Int) := by show signed _ _ = _; rw [hd1.1]; simp [signed]
  show zval b64 (val64 (ddiv a b)) ≤ zval b64 (val64 (ddiv c d))
  rw [div_val ha hb (by omega), div_val hc hd (by omega), hb1.1, hd1.1, Bool.bne_false, Bool.bne_false]
  refine ratio_mono (e0 := -1075) hb1.2 hd1.2 (by rw [qm]; omega) (by omega) (by omega) ?_
  simp only [inUnits, signed_scale]
  rw [← eb, ← ed]
  have e1 : signed (sgn (val64 a)) (zmag b64 (val64 a)) = z a := rfl
  have e2 : signed (sgn (val64 c)) (zmag b64 (val64 c)) = z c := rfl
  rw [e1, e2, Int.mul_right_comm, Int.mul_right_comm (z c)]
  exact Int.mul_le_mul_of_nonneg_right h (Int.natCast_nonneg _)
theorem mul_mono {a b c : UInt64} (ha : DFin a) (hb : DFin b) (hc : DFin c) (h : z a * z b ≤ z a * z c) : z (dmul a b) ≤ z (dmul a c) := by
  show zval b64 (val64 (dmul a b)) ≤ zval b64 (val64 (dmul a c))
  rw [mul_val ha hb, mul_val ha hc]
  refine ratio_mono (e0 := -2148) (by decide) (by decide) (by rw [qm]; omega) (by omega) (by omega) ?_
  simp only [inUnits, show (-2148 - -2148 : Int).toNat = 0 from rfl, Nat.pow_zero, Nat.mul_one, signed_mul']
  have : ((1 : Nat) : Int) = 1 := rfl
  rw [this, Int.mul_one, Int.mul_one]; exact h
theorem add_val {a b : UInt64} (ha : DFin a) (hb : DFin b) : ∃ s, val64 (dadd a b) = roundRatio b64 s (z a + z b).natAbs 1 (-1074) ∧ signed s (z a + z b).natAbs = z a + z b := by
  obtain ⟨s, c, q, e1, h1⟩ := fin_z ha
  obtain ⟨t, d, r, e2, h2⟩ := fin_z hb
  have hz : z a + z b = sumUnits s c q t d r (-1074) := by
    unfold z zval; rw [e1, e2]; simp only [sgn, zmag, qm, sumUnits]
  have hm : sumUnits s c q t d r (-1074) = sumUnits s c q t d r (min q r) * ((2 ^ (min q r - -1074).toNat : Nat) : Int) := by
    unfold sumUnits
    rw [inUnits_move c (r := min q r) (by omega) (by omega), inUnits_move d (r := min q r) (by omega) (by omega), signed_mul, signed_mul, Int.add_mul]
  refine ⟨sumSign s t (sumUnits s c q t d r (min q r)), ?_, ?_⟩
  · rw [val64_dadd, e1, e2]
    simp only [exactSum, round]
    refine roundRatio_congr (by decide) (by decide) ?_
    rw [hz, hm, Int.natAbs_mul, Int.natAbs_natCast, Nat.mul_one, Nat.mul_one]
    rw [show (-1074 - min q r).toNat = 0 by omega, Nat.pow_zero, Nat.mul_one]
  · rw [hz, hm, Int.natAbs_mul, Int.natAbs_natCast, signed_mul]
    congr 1
    generalize sumUnits s c q t d r (min q r) = v
    unfold sumSign
    by_cases w : v = 0
    · subst w; simp [signed]
    · rw [if_neg w]
      by_cases w2 : v < 0
      · simp [w2, signed]; omega
      · simp [w2, signed]; omega
theorem add_mono {a b c : UInt64} (ha : DFin a) (hb : DFin b) (hc : DFin c) (h : z b ≤ z c) : z (dadd a b) ≤ z (dadd a c) := by
  obtain ⟨s, e1, s1⟩ := add_val ha hb
  obtain ⟨t, e2, s2⟩ := add_val ha hc
  show zval b64 (val64 (dadd a b)) ≤ zval b64 (val64 (dadd a c))
  rw [e1, e2]
  refine ratio_mono (e0 := -1075) (by decide) (by decide) (by rw [qm]; omega) (by omega) (by omega) ?_
  simp only [inUnits, show (-1074 - -1075 : Int).toNat = 1 from rfl, signed_scale, s1, s2]
  have : ((2 ^ 1 : Nat) : Int) = 2 := rfl
  have : ((1 : Nat) : Int) = 1 := rfl
  omega
/-- every v * 2^-t with v below 2^53 is a double -/
theorem grid {v : Nat} (hv : v < 9007199254740992) (t : Nat) (ht : t ≤ 1000) : ∃ V : UInt64, DFin V ∧ z V = ((v * 2 ^ (1074 - t) : Nat) : Int) := by
  by_cases h0 : v = 0
  · subst h0
    exact ⟨0, ⟨false, 0, _, val64_zero⟩, by rw [Nat.zero_mul]; exact zval64_zero⟩
  have e : (Int64.ofNat v).toInt = (v : Int) := by
    exact Int64.toInt_ofNat_of_lt (by omega)
  have w := l2d_whole (a := Int64.ofNat v) ⟨by rw [e]; omega, by rw [e]; omega⟩
  obtain ⟨s, c, q, e1, h1⟩ := fin_z (l2d_fin (Int64.ofNat v))
  have f := val64_fits (l2d (Int64.ofNat v))
  rw [e1] at f w
  rw [e] at w
  have w' : signed s (c * 2 ^ q.toNat) = (v : Int) * ((2 ^ (-q).toNat : Nat) : Int) := w
  have hs : s = false ∧ c * 2 ^ q.toNat = v * 2 ^ (-q).toNat := by
    have hp := Nat.two_pow_pos (-q).toNat
    have hpos : 0 < v * 2 ^ (-q).toNat := Nat.mul_pos (by omega) hp
    have e3 : ((v * 2 ^ (-q).toNat : Nat) : Int) = (v : Int) * ((2 ^ (-q).toNat : Nat) : Int) := Int.natCast_mul _ _
    rw [← e3] at w'
    generalize c * 2 ^ q.toNat = X at *
    generalize v * 2 ^ (-q).toNat = Y at *
    cases s <;> simp [signed] at w'
    · exact ⟨rfl, by omega⟩
    · omega
  obtain ⟨rfl, hc⟩ := hs
  have hq : -53 < q := by
    refine Int.lt_of_not_ge fun hq => ?_
    have c1 : c < 2 ^ 53 := f.1
    rw [show q.toNat = 0 by omega, Nat.pow_zero, Nat.mul_one] at hc
    have p2 : 2 ^ 53 ≤ 2 ^ (-q).toNat := Nat.pow_le_pow_right (by decide) (by omega)
    have := Nat.le_mul_of_pos_left (2 ^ (-q).toNat) (show 0 < v by omega)
    omega
  have hfit : FP.Core.fits b64 (.fin false c (q - t)) := by
    refine ⟨f.1, by rw [qm]; omega, by have := f.2.2.1; omega, ?_⟩
    rcases f.2.2.2 with w | w
    · rw [qm] at w; omega
    · exact Or.inr w
  refine ⟨of64 (.fin false c (q - t)), ⟨false, c, q - t, val64_of64 hfit⟩, ?_⟩
  show zval b64 (val64 _) = _
  rw [val64_of64 hfit]
  show signed false (inUnits c (q - t) b64.qmin) = _
  rw [qm]
  unfold inUnits
  simp only [signed, Bool.false_eq_true, if_false]
  congr 1
  have k1 : c * 2 ^ (q - t - -1074).toNat * 2 ^ (-q).toNat = c * 2 ^ q.toNat * 2 ^ (1074 - t) := by
    rw [Nat.mul_assoc, Nat.mul_assoc, ← Nat.pow_add, ← Nat.pow_add]; congr 2; omega
  rw [hc] at k1
  have k2 : v * 2 ^ (-q).toNat * 2 ^ (1074 - t) = v * 2 ^ (1074 - t) * 2 ^ (-q).toNat := by ac_rfl
  rw [k2] at k1
  exact Nat.eq_of_mul_eq_mul_right (Nat.two_pow_pos _) k1
theorem fne {x : UInt64} (h : DFin x) : val64 x ≠ .nan := by obtain ⟨s, c, q, e⟩ := h; rw [e]; exact Datum.noConfusion
theorem same_bits {a b : UInt64} (ha : DFin a) (hb : DFin b) (h : z a = z b) (h0 : z b ≠ 0) : a = b :=
  eq_bits (fun q => h0 q.zval) (dcmp_eq.mpr ⟨fne ha, fne hb, h⟩)
theorem alg1 {n u p q : Int} (hu : u = p * q) : n * u * u = n * q * (p * u) := by
  have : n * u * u = n * (p * q) * u := by rw [← hu]
  rw [this]; ac_rfl
theorem alg2 (v p d u : Int) : v * p * (d * u) = v * d * (p * u) := by ac_rfl
theorem U_split {t : Nat} (ht : t ≤ 1074) : (U : Int) = ((2 ^ (1074 - t) : Nat) : Int) * ((2 ^ t : Nat) : Int) := by
  rw [← Int.natCast_mul, ← Nat.pow_add, Nat.sub_add_cancel ht]; rfl
theorem idiv_le {n d : Int64} (hn : Small53 n) (hd : Small53 d) (h0 : 0 < d.toInt) {V : UInt64} (hV : val64 V ≠ .nan) {v : Int} (t : Nat) (ht : t ≤ 1074) (hz : z V = v * ((2 ^ (1074 - t) : Nat) : Int)) (h : n.toInt * ((2 ^ t : Nat) : Int) ≤ v * d.toInt) : z (ddiv (l2d n) (l2d d)) ≤ z V := by
  have hU : (0 : Int) < (U : Int) := Int.natCast_pos.mpr U_pos
  refine div_le (l2d_fin n) (l2d_fin d) (by rw [z_l2d hd]; exact Int.mul_pos h0 hU) hV ?_
  rw [z_l2d hn, z_l2d hd, hz]
  have e1 : n.toInt * (U : Int) * (U : Int) = n.toInt * ((2 ^ t : Nat) : Int) * (((2 ^ (1074 - t) : Nat) : Int) * (U : Int)) := alg1 (U_split ht)
  have e2 : v * ((2 ^ (1074 - t) : Nat) : Int) * (d.toInt * (U : Int)) = v * d.toInt * (((2 ^ (1074 - t) : Nat) : Int) * (U : Int)) := alg2 _ _ _ _
  rw [e1, e2]
  exact Int.mul_le_mul_of_nonneg_right h (Int.mul_nonneg (Int.natCast_nonneg _) (Int.natCast_nonneg _))
theorem idiv_ge {n d : Int64} (hn : Small53 n) (hd : Small53 d) (h0 : 0 < d.toInt) {V : UInt64} (hV : val64 V ≠ .nan) {v : Int} (t : Nat) (ht : t ≤ 1074) (hz : z V = v * ((2 ^ (1074 - t) : Nat) : Int)) (h : v * d.toInt ≤ n.toInt * ((2 ^ t : Nat) : Int)) : z V ≤ z (ddiv (l2d n) (l2d d)) := by
  have hU : (0 : Int) < (U : Int) := Int.natCast_pos.mpr U_pos
  refine div_ge (l2d_fin n) (l2d_fin d) (by rw [z_l2d hd]; exact Int.mul_pos h0 hU) hV ?_
  rw [z_l2d hn, z_l2d hd, hz]
  have e1 : n.toInt * (U : Int) * (U : Int) = n.toInt * ((2 ^ t : Nat) : Int) * (((2 ^ (1074 - t) : Nat) : Int) * (U : Int)) := alg1 (U_split ht)
  have e2 : v * ((2 ^ (1074 - t) : Nat) : Int) * (d.toInt * (U : Int)) = v * d.toInt * (((2 ^ (1074 - t) : Nat) : Int) * (U : Int)) := alg2 _ _ _ _
  rw [e1, e2]
  exact Int.mul_le_mul_of_nonneg_right h (Int.mul_nonneg (Int.natCast_nonneg _) (Int.natCast_nonneg _))
theorem idiv_mono {n d n' d' : Int64} (hn : Small53 n) (hd : Small53 d) (hn' : Small53 n') (hd' : Small53 d') (h0 : 0 < d.toInt) (h0' : 0 < d'.toInt) (h : n.toInt * d'.toInt ≤ n'.toInt * d.toInt) : z (ddiv (l2d n) (l2d d)) ≤ z (ddiv (l2d n') (l2d d')) := by
  have hU : (0 : Int) < (U : Int) := Int.natCast_pos.mpr U_pos
  refine div_mono (l2d_fin n) (l2d_fin d) (l2d_fin n') (l2d_fin d') (by rw [z_l2d hd]; exact Int.mul_pos h0 hU) (by rw [z_l2d hd']; exact Int.mul_pos h0' hU) ?_
  rw [z_l2d hn, z_l2d hd, z_l2d hn', z_l2d hd']
  have e1 : n.toInt * (U : Int) * (d'.toInt * (U : Int)) = n.toInt * d'.toInt * ((U : Int) * (U : Int)) := alg2 _ _ _ _
  have e2 : n'.toInt * (U : Int) * (d.toInt * (U : Int)) = n'.toInt * d.toInt * ((U : Int) * (U : Int)) := alg2 _ _ _ _
  rw [e1, e2]
  exact Int.mul_le_mul_of_nonneg_right h (Int.mul_nonneg (Int.natCast_nonneg _) (Int.natCast_nonneg _))
theorem cmp_z {x y : UInt64} (hx : val64 x ≠ .nan) (hy : val64 y ≠ .nan) (o : ClassFile.CmpOp) : Op.cmpValue (dcmp x y) o = if z x < z y then -1 else if z x = z y then 0 else 1 := by
  rw [dcmp_zval hx hy, compare_ite]
  by_cases h1 : z x < z y
  · simp [h1]; cases o <;> rfl
  · by_cases h2 : z x = z y
    · simp [h2]; cases o <;> rfl
    · simp [h1, h2]; cases o <;> rfl
theorem nn_val {x : UInt64} (h : Jvm.Free.Fl.NoNaN64 x) : val64 x ≠ .nan := Jvm.Free.Fl.val64_no.mp h
theorem cmp3_le {a b : Int} (h : a ≤ b) : ¬ (0 : Int32) < (if a < b then -1 else if a = b then 0 else 1) := by
  by_cases q : a < b
  · rw [if_pos q]; decide
  · rw [if_neg q, if_pos (by omega)]; decide
theorem cmp3_ge {a b : Int} (h : b ≤ a) : ¬ (if a < b then (-1 : Int32) else if a = b then 0 else 1) < 0 := by
  rw [if_neg (by omega)]
  by_cases q : a = b
  · rw [if_pos q]; decide
  · rw [if_neg q]; decide
end Jvm.Own7F
namespace Jvm.Pilot.@@N@@
open Jvm Jvm.ClassFile Sem Op Lib Jvm.Free Jvm.Stand Jvm.LawKit Jvm.RoadKit Bundle Jvm.Own7 Jvm.Own7F Jvm.FP Jvm.Free.Fl Jvm.Pilot.@@N@@.Jvm.D
theorem d4_0 : decode prog_5_method_52_code 0 = .ok (.iload_n 0, 1) := by decide +kernel
theorem d4_1 : decode prog_5_method_52_code 1 = .ok (.ifCond .lt 9, 3) := by decide +kernel
theorem d4_4 : decode prog_5_method_52_code 4 = .ok (.iload_n 0, 1) := by decide +kernel
theorem d4_5 : decode prog_5_method_52_code 5 = .ok (.bipush 31, 2) := by decide +kernel
theorem d4_7 : decode prog_5_method_52_code 7 = .ok (.if_icmp .le 17, 3) := by decide +kernel
theorem d4_24 : decode prog_5_method_52_code 24 = .ok (.iload_n 0, 1) := by decide +kernel
theorem d4_25 : decode prog_5_method_52_code 25 = .ok (.ireturn, 1) := by decide +kernel
theorem pn_com_example_tapflow_tapflow_MotionEvent : plainName "com/example/tapflow/tapflow/MotionEvent" = true := by first | (simp [plainName, overriddenIn]; done) | decide +kernel
theorem d5_0 : decode prog_5_method_53_code 0 = .ok (.dload_n 0, 1) := by decide +kernel
theorem d5_1 : decode prog_5_method_53_code 1 = .ok (.invokestatic 274, 3) := by decide +kernel
theorem d5_4 : decode prog_5_method_53_code 4 = .ok (.ldc2_w 278, 3) := by decide +kernel
theorem d5_7 : decode prog_5_method_53_code 7 = .ok (.dcmp .g, 1) := by decide +kernel
theorem d5_8 : decode prog_5_method_53_code 8 = .ok (.ifCond .gt 7, 3) := by decide +kernel
theorem d5_11 : decode prog_5_method_53_code 11 = .ok (.iconst 1, 1) := by decide +kernel
theorem d5_12 : decode prog_5_method_53_code 12 = .ok (.goto 4, 3) := by decide +kernel
theorem d5_16 : decode prog_5_method_53_code 16 = .ok (.ireturn, 1) := by decide +kernel
theorem d9_0 : decode prog_5_method_55_code 0 = .ok (.iload_n 0, 1) := by decide +kernel
theorem d9_1 : decode prog_5_method_55_code 1 = .ok (.sipush 255, 3) := by decide +kernel
theorem d9_4 : decode prog_5_method_55_code 4 = .ok (.iand, 1) := by decide +kernel
theorem d9_5 : decode prog_5_method_55_code 5 = .ok (.istore_n 1, 1) := by decide +kernel
theorem d9_6 : decode prog_5_method_55_code 6 = .ok (.iload_n 1, 1) := by decide +kernel
theorem d9_7 : decode prog_5_method_55_code 7 = .ok (.iconst 5, 1) := by decide +kernel
theorem d9_8 : decode prog_5_method_55_code 8 = .ok (.if_icmp .eq 9, 3) := by decide +kernel
theorem d9_11 : decode prog_5_method_55_code 11 = .ok (.iload_n 1, 1) := by decide +kernel
theorem d9_12 : decode prog_5_method_55_code 12 = .ok (.bipush 6, 2) := by decide +kernel
theorem d9_14 : decode prog_5_method_55_code 14 = .ok (.if_icmp .ne 7, 3) := by decide +kernel
theorem d9_21 : decode prog_5_method_55_code 21 = .ok (.iconst 0, 1) := by decide +kernel
theorem d9_22 : decode prog_5_method_55_code 22 = .ok (.ireturn, 1) := by decide +kernel
theorem d8_0 : decode prog_5_method_51_code 0 = .ok (.iload_n 0, 1) := by decide +kernel
theorem d8_1 : decode prog_5_method_51_code 1 = .ok (.sipush 255, 3) := by decide +kernel
theorem d8_4 : decode prog_5_method_51_code 4 = .ok (.iand, 1) := by decide +kernel
theorem d8_5 : decode prog_5_method_51_code 5 = .ok (.istore_n 1, 1) := by decide +kernel
theorem d8_6 : decode prog_5_method_51_code 6 = .ok (.iload_n 0, 1) := by decide +kernel
theorem d8_7 : decode prog_5_method_51_code 7 = .ok (.ldc_w 272, 3) := by decide +kernel
theorem d8_10 : decode prog_5_method_51_code 10 = .ok (.iand, 1) := by decide +kernel
theorem d8_11 : decode prog_5_method_51_code 11 = .ok (.ifCond .ne 7, 3) := by decide +kernel
theorem d8_14 : decode prog_5_method_51_code 14 = .ok (.iconst 1, 1) := by decide +kernel
theorem d8_15 : decode prog_5_method_51_code 15 = .ok (.goto 4, 3) := by decide +kernel
theorem d8_19 : decode prog_5_method_51_code 19 = .ok (.istore_n 2, 1) := by decide +kernel
theorem d8_20 : decode prog_5_method_51_code 20 = .ok (.iload_n 2, 1) := by decide +kernel
theorem d8_21 : decode prog_5_method_51_code 21 = .ok (.ifCond .eq 19, 3) := by decide +kernel
theorem d8_24 : decode prog_5_method_51_code 24 = .ok (.iload_n 1, 1) := by decide +kernel
theorem d8_25 : decode prog_5_method_51_code 25 = .ok (.getstatic 231, 3) := by decide +kernel
theorem d8_28 : decode prog_5_method_51_code 28 = .ok (.arraylength, 1) := by decide +kernel
theorem d8_29 : decode prog_5_method_51_code 29 = .ok (.if_icmp .ge 11, 3) := by decide +kernel
theorem d8_32 : decode prog_5_method_51_code 32 = .ok (.getstatic 231, 3) := by decide +kernel
theorem d8_35 : decode prog_5_method_51_code 35 = .ok (.iload_n 1, 1) := by decide +kernel
theorem d8_36 : decode prog_5_method_51_code 36 = .ok (.aaload, 1) := by decide +kernel
theorem d8_37 : decode prog_5_method_51_code 37 = .ok (.goto 4, 3) := by decide +kernel
theorem d8_41 : decode prog_5_method_51_code 41 = .ok (.areturn, 1) := by decide +kernel
theorem d7_0 : decode prog_5_method_8_code 0 = .ok (.iload_n 1, 1) := by decide +kernel
theorem d7_1 : decode prog_5_method_8_code 1 = .ok (.invokestatic 76, 3) := by decide +kernel
theorem pd__I_Ljava_lang_String_ : parseMethodDescriptor "(I)Ljava/lang/String;" = some ⟨[.int], some (.object "java/lang/String")⟩ := by decide +kernel
theorem d7_4 : decode prog_5_method_8_code 4 = .ok (.astore_n 2, 1) := by decide +kernel
theorem d7_5 : decode prog_5_method_8_code 5 = .ok (.aload_n 2, 1) := by decide +kernel
theorem d7_6 : decode prog_5_method_8_code 6 = .ok (.ifnonnull 17, 3) := by decide +kernel
theorem d7_23 : decode prog_5_method_8_code 23 = .ok (.iload_n 1, 1) := by decide +kernel
theorem d7_24 : decode prog_5_method_8_code 24 = .ok (.sipush 255, 3) := by decide +kernel
theorem d7_27 : decode prog_5_method_8_code 27 = .ok (.iand, 1) := by decide +kernel
theorem d7_28 : decode prog_5_method_8_code 28 = .ok (.istore_n 3, 1) := by decide +kernel
theorem d7_29 : decode prog_5_method_8_code 29 = .ok (.iload_n 1, 1) := by decide +kernel
theorem d7_30 : decode prog_5_method_8_code 30 = .ok (.ldc 75, 2) := by decide +kernel
theorem d7_32 : decode prog_5_method_8_code 32 = .ok (.iand, 1) := by decide +kernel
theorem d7_33 : decode prog_5_method_8_code 33 = .ok (.bipush 8, 2) := by decide +kernel
theorem d7_35 : decode prog_5_method_8_code 35 = .ok (.ishr, 1) := by decide +kernel
theorem d7_36 : decode prog_5_method_8_code 36 = .ok (.istore 4, 2) := by decide +kernel
theorem d7_38 : decode prog_5_method_8_code 38 = .ok (.aload_n 0, 1) := by decide +kernel
theorem d7_39 : decode prog_5_method_8_code 39 = .ok (.getfield 57, 3) := by decide +kernel
theorem d7_42 : decode prog_5_method_8_code 42 = .ok (.arraylength, 1) := by decide +kernel
theorem d7_43 : decode prog_5_method_8_code 43 = .ok (.istore 5, 2) := by decide +kernel
theorem d7_45 : decode prog_5_method_8_code 45 = .ok (.iload_n 3, 1) := by decide +kernel
theorem d7_46 : decode prog_5_method_8_code 46 = .ok (.invokestatic 82, 3) := by decide +kernel
theorem pd__I_Z : parseMethodDescriptor "(I)Z" = some ⟨[.int], some .boolean⟩ := by decide +kernel
theorem d7_49 : decode prog_5_method_8_code 49 = .ok (.ifCond .eq 24, 3) := by decide +kernel
theorem d7_73 : decode prog_5_method_8_code 73 = .ok (.iload 4, 2) := by decide +kernel
theorem d7_75 : decode prog_5_method_8_code 75 = .ok (.ifCond .ne 23, 3) := by decide +kernel
theorem d7_78 : decode prog_5_method_8_code 78 = .ok (.iload 5, 2) := by decide +kernel
theorem d7_80 : decode prog_5_method_8_code 80 = .ok (.iconst 1, 1) := by decide +kernel
theorem d7_81 : decode prog_5_method_8_code 81 = .ok (.if_icmp .eq 13, 3) := by decide +kernel
theorem d7_94 : decode prog_5_method_8_code 94 = .ok (.iconst 1, 1) := by decide +kernel
theorem d7_95 : decode prog_5_method_8_code 95 = .ok (.goto 4, 3) := by decide +kernel
theorem d7_99 : decode prog_5_method_8_code 99 = .ok (.istore 6, 2) := by decide +kernel
theorem d7_101 : decode prog_5_method_8_code 101 = .ok (.iload 6, 2) := by decide +kernel
theorem d7_103 : decode prog_5_method_8_code 103 = .ok (.ifCond .ne 21, 3) := by decide +kernel
theorem d7_124 : decode prog_5_method_8_code 124 = .ok (.aload_n 0, 1) := by decide +kernel
theorem d7_125 : decode prog_5_method_8_code 125 = .ok (.iload_n 1, 1) := by decide +kernel
theorem d7_126 : decode prog_5_method_8_code 126 = .ok (.putfield 72, 3) := by decide +kernel
theorem d7_129 : decode prog_5_method_8_code 129 = .ok (.return_, 1) := by decide +kernel
theorem d7_84 : decode prog_5_method_8_code 84 = .ok (.iload_n 3, 1) := by decide +kernel
theorem d7_85 : decode prog_5_method_8_code 85 = .ok (.iconst 2, 1) := by decide +kernel
theorem d7_86 : decode prog_5_method_8_code 86 = .ok (.if_icmp .eq 8, 3) := by decide +kernel
theorem d3_0 : decode prog_5_method_2_code 0 = .ok (.aload_n 0, 1) := by decide +kernel
theorem d3_1 : decode prog_5_method_2_code 1 = .ok (.invokespecial 9, 3) := by decide +kernel
theorem d3_4 : decode prog_5_method_2_code 4 = .ok (.aload_n 0, 1) := by decide +kernel
theorem d3_5 : decode prog_5_method_2_code 5 = .ok (.getstatic 14, 3) := by decide +kernel
theorem d3_8 : decode prog_5_method_2_code 8 = .ok (.putfield 18, 3) := by decide +kernel
theorem d3_11 : decode prog_5_method_2_code 11 = .ok (.aload_n 0, 1) := by decide +kernel
theorem d3_12 : decode prog_5_method_2_code 12 = .ok (.iconst (-1), 1) := by decide +kernel
theorem d3_13 : decode prog_5_method_2_code 13 = .ok (.putfield 21, 3) := by decide +kernel
theorem d3_16 : decode prog_5_method_2_code 16 = .ok (.aload 4, 2) := by decide +kernel
theorem d3_18 : decode prog_5_method_2_code 18 = .ok (.arraylength, 1) := by decide +kernel
theorem d3_19 : decode prog_5_method_2_code 19 = .ok (.ifCond .eq 21, 3) := by decide +kernel
theorem d3_22 : decode prog_5_method_2_code 22 = .ok (.aload 5, 2) := by decide +kernel
theorem d3_24 : decode prog_5_method_2_code 24 = .ok (.arraylength, 1) := by decide +kernel
theorem d3_25 : decode prog_5_method_2_code 25 = .ok (.aload 4, 2) := by decide +kernel
theorem d3_27 : decode prog_5_method_2_code 27 = .ok (.arraylength, 1) := by decide +kernel
theorem d3_28 : decode prog_5_method_2_code 28 = .ok (.if_icmp .ne 12, 3) := by decide +kernel
theorem d3_31 : decode prog_5_method_2_code 31 = .ok (.aload 6, 2) := by decide +kernel
theorem d3_33 : decode prog_5_method_2_code 33 = .ok (.arraylength, 1) := by decide +kernel
theorem d3_34 : decode prog_5_method_2_code 34 = .ok (.aload 4, 2) := by decide +kernel
theorem d3_36 : decode prog_5_method_2_code 36 = .ok (.arraylength, 1) := by decide +kernel
theorem d3_37 : decode prog_5_method_2_code 37 = .ok (.if_icmp .eq 13, 3) := by decide +kernel
theorem d3_50 : decode prog_5_method_2_code 50 = .ok (.iconst 0, 1) := by decide +kernel
theorem d3_51 : decode prog_5_method_2_code 51 = .ok (.istore 7, 2) := by decide +kernel
theorem d3_53 : decode prog_5_method_2_code 53 = .ok (.iload 7, 2) := by decide +kernel
theorem d3_55 : decode prog_5_method_2_code 55 = .ok (.aload 4, 2) := by decide +kernel
theorem d3_57 : decode prog_5_method_2_code 57 = .ok (.arraylength, 1) := by decide +kernel
theorem d3_58 : decode prog_5_method_2_code 58 = .ok (.if_icmp .ge 105, 3) := by decide +kernel
theorem d3_61 : decode prog_5_method_2_code 61 = .ok (.aload 4, 2) := by decide +kernel
theorem d3_63 : decode prog_5_method_2_code 63 = .ok (.iload 7, 2) := by decide +kernel
theorem d3_65 : decode prog_5_method_2_code 65 = .ok (.iaload, 1) := by decide +kernel
theorem d3_66 : decode prog_5_method_2_code 66 = .ok (.invokestatic 32, 3) := by decide +kernel
theorem pd__I_I : parseMethodDescriptor "(I)I" = some ⟨[.int], some .int⟩ := by decide +kernel
theorem d3_69 : decode prog_5_method_2_code 69 = .ok (.istore 8, 2) := by decide +kernel
theorem d3_71 : decode prog_5_method_2_code 71 = .ok (.iload 7, 2) := by decide +kernel
theorem d3_73 : decode prog_5_method_2_code 73 = .ok (.ifCond .le 37, 3) := by decide +kernel
theorem d3_110 : decode prog_5_method_2_code 110 = .ok (.aload 5, 2) := by decide +kernel
theorem d3_112 : decode prog_5_method_2_code 112 = .ok (.iload 7, 2) := by decide +kernel
theorem d3_114 : decode prog_5_method_2_code 114 = .ok (.daload, 1) := by decide +kernel
theorem d3_115 : decode prog_5_method_2_code 115 = .ok (.invokestatic 40, 3) := by decide +kernel
theorem pd__D_Z : parseMethodDescriptor "(D)Z" = some ⟨[.double], some .boolean⟩ := by decide +kernel
theorem d3_118 : decode prog_5_method_2_code 118 = .ok (.ifCond .eq 14, 3) := by decide +kernel
theorem d3_121 : decode prog_5_method_2_code 121 = .ok (.aload 6, 2) := by decide +kernel
theorem d3_123 : decode prog_5_method_2_code 123 = .ok (.iload 7, 2) := by decide +kernel
theorem d3_125 : decode prog_5_method_2_code 125 = .ok (.daload, 1) := by decide +kernel
theorem d3_126 : decode prog_5_method_2_code 126 = .ok (.invokestatic 40, 3) := by decide +kernel
theorem d3_129 : decode prog_5_method_2_code 129 = .ok (.ifCond .ne 28, 3) := by decide +kernel
theorem d3_157 : decode prog_5_method_2_code 157 = .ok (.iinc 7 1, 3) := by decide +kernel
theorem d3_160 : decode prog_5_method_2_code 160 = .ok (.goto (-107), 3) := by decide +kernel
theorem d3_76 : decode prog_5_method_2_code 76 = .ok (.iload 8, 2) := by decide +kernel
theorem d3_78 : decode prog_5_method_2_code 78 = .ok (.aload 4, 2) := by decide +kernel
theorem d3_80 : decode prog_5_method_2_code 80 = .ok (.iload 7, 2) := by decide +kernel
theorem d3_82 : decode prog_5_method_2_code 82 = .ok (.iconst 1, 1) := by decide +kernel
theorem d3_83 : decode prog_5_method_2_code 83 = .ok (.isub, 1) := by decide +kernel
theorem d3_84 : decode prog_5_method_2_code 84 = .ok (.iaload, 1) := by decide +kernel
theorem d3_85 : decode prog_5_method_2_code 85 = .ok (.if_icmp .gt 25, 3) := by decide +kernel
theorem d3_163 : decode prog_5_method_2_code 163 = .ok (.aload_n 0, 1) := by decide +kernel
theorem d3_164 : decode prog_5_method_2_code 164 = .ok (.lload_n 1, 1) := by decide +kernel
theorem d3_165 : decode prog_5_method_2_code 165 = .ok (.putfield 47, 3) := by decide +kernel
theorem d3_168 : decode prog_5_method_2_code 168 = .ok (.aload_n 0, 1) := by decide +kernel
theorem d3_169 : decode prog_5_method_2_code 169 = .ok (.aload 4, 2) := by decide +kernel
theorem d3_171 : decode prog_5_method_2_code 171 = .ok (.invokevirtual 51, 3) := by decide +kernel
theorem d3_174 : decode prog_5_method_2_code 174 = .ok (.checkcast 52, 3) := by decide +kernel
theorem d3_177 : decode prog_5_method_2_code 177 = .ok (.putfield 57, 3) := by decide +kernel
theorem d3_180 : decode prog_5_method_2_code 180 = .ok (.aload_n 0, 1) := by decide +kernel
theorem d3_181 : decode prog_5_method_2_code 181 = .ok (.aload 5, 2) := by decide +kernel
theorem d3_183 : decode prog_5_method_2_code 183 = .ok (.invokevirtual 60, 3) := by decide +kernel
theorem d3_186 : decode prog_5_method_2_code 186 = .ok (.checkcast 61, 3) := by decide +kernel
theorem d3_189 : decode prog_5_method_2_code 189 = .ok (.putfield 62, 3) := by decide +kernel
theorem d3_192 : decode prog_5_method_2_code 192 = .ok (.aload_n 0, 1) := by decide +kernel
theorem d3_193 : decode prog_5_method_2_code 193 = .ok (.aload 6, 2) := by decide +kernel
theorem d3_195 : decode prog_5_method_2_code 195 = .ok (.invokevirtual 60, 3) := by decide +kernel
theorem d3_198 : decode prog_5_method_2_code 198 = .ok (.checkcast 61, 3) := by decide +kernel
theorem d3_201 : decode prog_5_method_2_code 201 = .ok (.putfield 65, 3) := by decide +kernel
theorem d3_204 : decode prog_5_method_2_code 204 = .ok (.aload_n 0, 1) := by decide +kernel
theorem d3_205 : decode prog_5_method_2_code 205 = .ok (.iload_n 3, 1) := by decide +kernel
theorem d3_206 : decode prog_5_method_2_code 206 = .ok (.invokevirtual 68, 3) := by decide +kernel
theorem pd__I_V : parseMethodDescriptor "(I)V" = some ⟨[.int], none⟩ := by decide +kernel
theorem d3_209 : decode prog_5_method_2_code 209 = .ok (.return_, 1) := by decide +kernel
theorem d11_0 : decode prog_5_method_6_code 0 = .ok (.aload_n 0, 1) := by decide +kernel
theorem d11_1 : decode prog_5_method_6_code 1 = .ok (.getfield 72, 3) := by decide +kernel
theorem d11_4 : decode prog_5_method_6_code 4 = .ok (.sipush 255, 3) := by decide +kernel
theorem d11_7 : decode prog_5_method_6_code 7 = .ok (.iand, 1) := by decide +kernel
theorem d11_8 : decode prog_5_method_6_code 8 = .ok (.ireturn, 1) := by decide +kernel
theorem d13_0 : decode prog_5_method_3_code 0 = .ok (.aload_n 0, 1) := by decide +kernel
theorem d13_1 : decode prog_5_method_3_code 1 = .ok (.getfield 47, 3) := by decide +kernel
theorem d13_4 : decode prog_5_method_3_code 4 = .ok (.lreturn, 1) := by decide +kernel
theorem d14_0 : decode prog_5_method_9_code 0 = .ok (.aload_n 0, 1) := by decide +kernel
theorem d14_1 : decode prog_5_method_9_code 1 = .ok (.getfield 57, 3) := by decide +kernel
theorem d14_4 : decode prog_5_method_9_code 4 = .ok (.arraylength, 1) := by decide +kernel
theorem d14_5 : decode prog_5_method_9_code 5 = .ok (.ireturn, 1) := by decide +kernel
theorem d15_0 : decode prog_5_method_10_code 0 = .ok (.aload_n 0, 1) := by decide +kernel
theorem d15_1 : decode prog_5_method_10_code 1 = .ok (.getfield 57, 3) := by decide +kernel
theorem d15_4 : decode prog_5_method_10_code 4 = .ok (.iload_n 1, 1) := by decide +kernel
theorem d15_5 : decode prog_5_method_10_code 5 = .ok (.iaload, 1) := by decide +kernel
theorem d15_6 : decode prog_5_method_10_code 6 = .ok (.ireturn, 1) := by decide +kernel
theorem d19_0 : decode prog_5_method_15_code 0 = .ok (.aload_n 0, 1) := by decide +kernel
theorem d19_1 : decode prog_5_method_15_code 1 = .ok (.getfield 103, 3) := by decide +kernel
theorem d19_4 : decode prog_5_method_15_code 4 = .ok (.ifCond .ne 20, 3) := by decide +kernel
theorem d19_7 : decode prog_5_method_15_code 7 = .ok (.aload_n 0, 1) := by decide +kernel
theorem d19_8 : decode prog_5_method_15_code 8 = .ok (.getfield 21, 3) := by decide +kernel
theorem d19_11 : decode prog_5_method_15_code 11 = .ok (.iconst (-1), 1) := by decide +kernel
theorem d19_12 : decode prog_5_method_15_code 12 = .ok (.if_icmp .ne 12, 3) := by decide +kernel
theorem d19_15 : decode prog_5_method_15_code 15 = .ok (.aload_n 0, 1) := by decide +kernel
theorem d19_16 : decode prog_5_method_15_code 16 = .ok (.getfield 62, 3) := by decide +kernel
theorem d19_19 : decode prog_5_method_15_code 19 = .ok (.iload_n 1, 1) := by decide +kernel
theorem d19_20 : decode prog_5_method_15_code 20 = .ok (.daload, 1) := by decide +kernel
theorem d19_21 : decode prog_5_method_15_code 21 = .ok (.dload_n 2, 1) := by decide +kernel
theorem d19_22 : decode prog_5_method_15_code 22 = .ok (.dadd, 1) := by decide +kernel
theorem d19_23 : decode prog_5_method_15_code 23 = .ok (.dreturn, 1) := by decide +kernel
theorem d18_0 : decode prog_5_method_11_code 0 = .ok (.aload_n 0, 1) := by decide +kernel
theorem d18_1 : decode prog_5_method_11_code 1 = .ok (.iload_n 1, 1) := by decide +kernel
theorem d18_2 : decode prog_5_method_11_code 2 = .ok (.aload_n 0, 1) := by decide +kernel
theorem d18_3 : decode prog_5_method_11_code 3 = .ok (.getfield 89, 3) := by decide +kernel
theorem d18_6 : decode prog_5_method_11_code 6 = .ok (.invokevirtual 93, 3) := by decide +kernel
theorem pd__ID_D : parseMethodDescriptor "(ID)D" = some ⟨[.int, .double], some .double⟩ := by decide +kernel
theorem d18_9 : decode prog_5_method_11_code 9 = .ok (.dreturn, 1) := by decide +kernel
theorem d21_0 : decode prog_5_method_16_code 0 = .ok (.aload_n 0, 1) := by decide +kernel
theorem d21_1 : decode prog_5_method_16_code 1 = .ok (.getfield 103, 3) := by decide +kernel
theorem d21_4 : decode prog_5_method_16_code 4 = .ok (.ifCond .ne 20, 3) := by decide +kernel
theorem d21_7 : decode prog_5_method_16_code 7 = .ok (.aload_n 0, 1) := by decide +kernel
theorem d21_8 : decode prog_5_method_16_code 8 = .ok (.getfield 21, 3) := by decide +kernel
theorem d21_11 : decode prog_5_method_16_code 11 = .ok (.iconst (-1), 1) := by decide +kernel
theorem d21_12 : decode prog_5_method_16_code 12 = .ok (.if_icmp .ne 12, 3) := by decide +kernel
theorem d21_15 : decode prog_5_method_16_code 15 = .ok (.aload_n 0, 1) := by decide +kernel
theorem d21_16 : decode prog_5_method_16_code 16 = .ok (.getfield 65, 3) := by decide +kernel
theorem d21_19 : decode prog_5_method_16_code 19 = .ok (.iload_n 1, 1) := by decide +kernel
theorem d21_20 : decode prog_5_method_16_code 20 = .ok (.daload, 1) := by decide +kernel
theorem d21_21 : decode prog_5_method_16_code 21 = .ok (.dload_n 2, 1) := by decide +kernel
theorem d21_22 : decode prog_5_method_16_code 22 = .ok (.dadd, 1) := by decide +kernel
theorem d21_23 : decode prog_5_method_16_code 23 = .ok (.dreturn, 1) := by decide +kernel
theorem d20_0 : decode prog_5_method_12_code 0 = .ok (.aload_n 0, 1) := by decide +kernel
theorem d20_1 : decode prog_5_method_12_code 1 = .ok (.iload_n 1, 1) := by decide +kernel
theorem d20_2 : decode prog_5_method_12_code 2 = .ok (.aload_n 0, 1) := by decide +kernel
theorem d20_3 : decode prog_5_method_12_code 3 = .ok (.getfield 97, 3) := by decide +kernel
theorem d20_6 : decode prog_5_method_12_code 6 = .ok (.invokevirtual 100, 3) := by decide +kernel
theorem d20_9 : decode prog_5_method_12_code 9 = .ok (.dreturn, 1) := by decide +kernel
theorem d17_0 : decode prog_16_method_1_code 0 = .ok (.aload_n 0, 1) := by decide +kernel
theorem d17_1 : decode prog_16_method_1_code 1 = .ok (.invokespecial 3, 3) := by decide +kernel
theorem d17_4 : decode prog_16_method_1_code 4 = .ok (.aload_n 0, 1) := by decide +kernel
theorem d17_5 : decode prog_16_method_1_code 5 = .ok (.bipush 64, 2) := by decide +kernel
theorem d17_7 : decode prog_16_method_1_code 7 = .ok (.newarray .long, 2) := by decide +kernel
theorem d17_9 : decode prog_16_method_1_code 9 = .ok (.putfield 9, 3) := by decide +kernel
theorem d17_12 : decode prog_16_method_1_code 12 = .ok (.aload_n 0, 1) := by decide +kernel
theorem d17_13 : decode prog_16_method_1_code 13 = .ok (.bipush 64, 2) := by decide +kernel
theorem d17_15 : decode prog_16_method_1_code 15 = .ok (.newarray .double, 2) := by decide +kernel
theorem d17_17 : decode prog_16_method_1_code 17 = .ok (.putfield 15, 3) := by decide +kernel
theorem d17_20 : decode prog_16_method_1_code 20 = .ok (.aload_n 0, 1) := by decide +kernel
theorem d17_21 : decode prog_16_method_1_code 21 = .ok (.bipush 64, 2) := by decide +kernel
theorem d17_23 : decode prog_16_method_1_code 23 = .ok (.newarray .double, 2) := by decide +kernel
theorem d17_25 : decode prog_16_method_1_code 25 = .ok (.putfield 19, 3) := by decide +kernel
theorem d17_28 : decode prog_16_method_1_code 28 = .ok (.return_, 1) := by decide +kernel
theorem pn_com_example_tapflow_tapflow_VelocityTracker_Positions : plainName "com/example/tapflow/tapflow/VelocityTracker$Positions" = true := by first | (simp [plainName, overriddenIn]; done) | decide +kernel
theorem d23_0 : decode jdk_29_method_69_code 0 = .ok (.iload_n 0, 1) := by decide +kernel
theorem d23_1 : decode jdk_29_method_69_code 1 = .ok (.iload_n 1, 1) := by decide +kernel
theorem d23_2 : decode jdk_29_method_69_code 2 = .ok (.if_icmp .gt 7, 3) := by decide +kernel
theorem d23_9 : decode jdk_29_method_69_code 9 = .ok (.iload_n 1, 1) := by decide +kernel
theorem d23_10 : decode jdk_29_method_69_code 10 = .ok (.ireturn, 1) := by decide +kernel
theorem d23_5 : decode jdk_29_method_69_code 5 = .ok (.iload_n 0, 1) := by decide +kernel
theorem d23_6 : decode jdk_29_method_69_code 6 = .ok (.goto 4, 3) := by decide +kernel
theorem d22_0 : decode prog_16_method_2_code 0 = .ok (.aload_n 0, 1) := by decide +kernel
theorem d22_1 : decode prog_16_method_2_code 1 = .ok (.getfield 9, 3) := by decide +kernel
theorem d22_4 : decode prog_16_method_2_code 4 = .ok (.aload_n 0, 1) := by decide +kernel
theorem d22_5 : decode prog_16_method_2_code 5 = .ok (.getfield 22, 3) := by decide +kernel
theorem d22_8 : decode prog_16_method_2_code 8 = .ok (.lload_n 1, 1) := by decide +kernel
theorem d22_9 : decode prog_16_method_2_code 9 = .ok (.lastore, 1) := by decide +kernel
theorem d22_10 : decode prog_16_method_2_code 10 = .ok (.aload_n 0, 1) := by decide +kernel
theorem d22_11 : decode prog_16_method_2_code 11 = .ok (.getfield 15, 3) := by decide +kernel
theorem d22_14 : decode prog_16_method_2_code 14 = .ok (.aload_n 0, 1) := by decide +kernel
theorem d22_15 : decode prog_16_method_2_code 15 = .ok (.getfield 22, 3) := by decide +kernel
theorem d22_18 : decode prog_16_method_2_code 18 = .ok (.dload_n 3, 1) := by decide +kernel
theorem d22_19 : decode prog_16_method_2_code 19 = .ok (.dastore, 1) := by decide +kernel
theorem d22_20 : decode prog_16_method_2_code 20 = .ok (.aload_n 0, 1) := by decide +kernel
theorem d22_21 : decode prog_16_method_2_code 21 = .ok (.getfield 19, 3) := by decide +kernel
theorem d22_24 : decode prog_16_method_2_code 24 = .ok (.aload_n 0, 1) := by decide +kernel
theorem d22_25 : decode prog_16_method_2_code 25 = .ok (.getfield 22, 3) := by decide +kernel
theorem d22_28 : decode prog_16_method_2_code 28 = .ok (.dload 5, 2) := by decide +kernel
theorem d22_30 : decode prog_16_method_2_code 30 = .ok (.dastore, 1) := by decide +kernel
theorem d22_31 : decode prog_16_method_2_code 31 = .ok (.aload_n 0, 1) := by decide +kernel
theorem d22_32 : decode prog_16_method_2_code 32 = .ok (.aload_n 0, 1) := by decide +kernel
theorem d22_33 : decode prog_16_method_2_code 33 = .ok (.getfield 22, 3) := by decide +kernel
theorem d22_36 : decode prog_16_method_2_code 36 = .ok (.iconst 1, 1) := by decide +kernel
theorem d22_37 : decode prog_16_method_2_code 37 = .ok (.iadd, 1) := by decide +kernel
theorem d22_38 : decode prog_16_method_2_code 38 = .ok (.bipush 64, 2) := by decide +kernel
theorem d22_40 : decode prog_16_method_2_code 40 = .ok (.irem, 1) := by decide +kernel
theorem d22_41 : decode prog_16_method_2_code 41 = .ok (.putfield 22, 3) := by decide +kernel
theorem d22_44 : decode prog_16_method_2_code 44 = .ok (.aload_n 0, 1) := by decide +kernel
theorem d22_45 : decode prog_16_method_2_code 45 = .ok (.aload_n 0, 1) := by decide +kernel
theorem d22_46 : decode prog_16_method_2_code 46 = .ok (.getfield 26, 3) := by decide +kernel
theorem d22_49 : decode prog_16_method_2_code 49 = .ok (.iconst 1, 1) := by decide +kernel
theorem d22_50 : decode prog_16_method_2_code 50 = .ok (.iadd, 1) := by decide +kernel
theorem d22_51 : decode prog_16_method_2_code 51 = .ok (.bipush 64, 2) := by decide +kernel
theorem d22_53 : decode prog_16_method_2_code 53 = .ok (.invokestatic 29, 3) := by decide +kernel
theorem pd__II_I : parseMethodDescriptor "(II)I" = some ⟨[.int, .int], some .int⟩ := by decide +kernel
theorem d22_56 : decode prog_16_method_2_code 56 = .ok (.putfield 26, 3) := by decide +kernel
theorem d22_59 : decode prog_16_method_2_code 59 = .ok (.return_, 1) := by decide +kernel
theorem d1_0 : decode prog_15_method_1_code 0 = .ok (.aload_n 0, 1) := by decide +kernel
theorem d1_1 : decode prog_15_method_1_code 1 = .ok (.invokespecial 3, 3) := by decide +kernel
theorem d1_4 : decode prog_15_method_1_code 4 = .ok (.aload_n 0, 1) := by decide +kernel
theorem d1_5 : decode prog_15_method_1_code 5 = .ok (.bipush 32, 2) := by decide +kernel
theorem d1_7 : decode prog_15_method_1_code 7 = .ok (.anewarray 11, 3) := by decide +kernel
theorem d1_10 : decode prog_15_method_1_code 10 = .ok (.putfield 13, 3) := by decide +kernel
theorem d1_13 : decode prog_15_method_1_code 13 = .ok (.aload_n 0, 1) := by decide +kernel
theorem d1_14 : decode prog_15_method_1_code 14 = .ok (.bipush 32, 2) := by decide +kernel
theorem d1_16 : decode prog_15_method_1_code 16 = .ok (.newarray .double, 2) := by decide +kernel
theorem d1_18 : decode prog_15_method_1_code 18 = .ok (.putfield 17, 3) := by decide +kernel
theorem d1_21 : decode prog_15_method_1_code 21 = .ok (.aload_n 0, 1) := by decide +kernel
theorem d1_22 : decode prog_15_method_1_code 22 = .ok (.bipush 32, 2) := by decide +kernel
theorem d1_24 : decode prog_15_method_1_code 24 = .ok (.newarray .double, 2) := by decide +kernel
theorem d1_26 : decode prog_15_method_1_code 26 = .ok (.putfield 21, 3) := by decide +kernel
theorem d1_29 : decode prog_15_method_1_code 29 = .ok (.return_, 1) := by decide +kernel
theorem pn_com_example_tapflow_tapflow_VelocityTracker : plainName "com/example/tapflow/tapflow/VelocityTracker" = true := by first | (simp [plainName, overriddenIn]; done) | decide +kernel
theorem d16_0 : decode prog_15_method_9_code 0 = .ok (.aload_n 0, 1) := by decide +kernel
theorem d16_1 : decode prog_15_method_9_code 1 = .ok (.getfield 13, 3) := by decide +kernel
theorem d16_4 : decode prog_15_method_9_code 4 = .ok (.iload_n 1, 1) := by decide +kernel
theorem d16_5 : decode prog_15_method_9_code 5 = .ok (.aaload, 1) := by decide +kernel
theorem d16_6 : decode prog_15_method_9_code 6 = .ok (.ifnonnull 16, 3) := by decide +kernel
theorem d16_9 : decode prog_15_method_9_code 9 = .ok (.aload_n 0, 1) := by decide +kernel
theorem d16_10 : decode prog_15_method_9_code 10 = .ok (.getfield 13, 3) := by decide +kernel
theorem d16_13 : decode prog_15_method_9_code 13 = .ok (.iload_n 1, 1) := by decide +kernel
theorem d16_14 : decode prog_15_method_9_code 14 = .ok (.new 11, 3) := by decide +kernel
theorem d16_17 : decode prog_15_method_9_code 17 = .ok (.dup, 1) := by decide +kernel
theorem d16_18 : decode prog_15_method_9_code 18 = .ok (.invokespecial 110, 3) := by decide +kernel
theorem pd___V : parseMethodDescriptor "()V" = some ⟨[], none⟩ := by decide +kernel
theorem d16_21 : decode prog_15_method_9_code 21 = .ok (.aastore, 1) := by decide +kernel
theorem d16_22 : decode prog_15_method_9_code 22 = .ok (.aload_n 0, 1) := by decide +kernel
theorem d16_23 : decode prog_15_method_9_code 23 = .ok (.getfield 13, 3) := by decide +kernel
theorem d16_26 : decode prog_15_method_9_code 26 = .ok (.iload_n 1, 1) := by decide +kernel
theorem d16_27 : decode prog_15_method_9_code 27 = .ok (.aaload, 1) := by decide +kernel
theorem d16_28 : decode prog_15_method_9_code 28 = .ok (.areturn, 1) := by decide +kernel
theorem d12_0 : decode prog_15_method_8_code 0 = .ok (.aload_n 1, 1) := by decide +kernel
theorem d12_1 : decode prog_15_method_8_code 1 = .ok (.invokevirtual 50, 3) := by decide +kernel
theorem pd___J : parseMethodDescriptor "()J" = some ⟨[], some .long⟩ := by decide +kernel
theorem d12_4 : decode prog_15_method_8_code 4 = .ok (.lstore_n 2, 1) := by decide +kernel
theorem d12_5 : decode prog_15_method_8_code 5 = .ok (.iconst 0, 1) := by decide +kernel
theorem d12_6 : decode prog_15_method_8_code 6 = .ok (.istore 4, 2) := by decide +kernel
theorem d12_8 : decode prog_15_method_8_code 8 = .ok (.iload 4, 2) := by decide +kernel
theorem d12_10 : decode prog_15_method_8_code 10 = .ok (.aload_n 1, 1) := by decide +kernel
theorem d12_11 : decode prog_15_method_8_code 11 = .ok (.invokevirtual 96, 3) := by decide +kernel
theorem pd___I : parseMethodDescriptor "()I" = some ⟨[], some .int⟩ := by decide +kernel
theorem d12_14 : decode prog_15_method_8_code 14 = .ok (.if_icmp .ge 35, 3) := by decide +kernel
theorem d12_17 : decode prog_15_method_8_code 17 = .ok (.aload_n 0, 1) := by decide +kernel
theorem d12_18 : decode prog_15_method_8_code 18 = .ok (.aload_n 1, 1) := by decide +kernel
theorem d12_19 : decode prog_15_method_8_code 19 = .ok (.iload 4, 2) := by decide +kernel
theorem d12_21 : decode prog_15_method_8_code 21 = .ok (.invokevirtual 38, 3) := by decide +kernel
theorem d12_24 : decode prog_15_method_8_code 24 = .ok (.invokevirtual 42, 3) := by decide +kernel
theorem pd__I_Lcom_example_tapflow_tapflow_VelocityTracker_Positions_ : parseMethodDescriptor "(I)Lcom/example/tapflow/tapflow/VelocityTracker$Positions;" = some ⟨[.int], some (.object "com/example/tapflow/tapflow/VelocityTracker$Positions")⟩ := by decide +kernel
theorem d12_27 : decode prog_15_method_8_code 27 = .ok (.lload_n 2, 1) := by decide +kernel
theorem d12_28 : decode prog_15_method_8_code 28 = .ok (.aload_n 1, 1) := by decide +kernel
theorem d12_29 : decode prog_15_method_8_code 29 = .ok (.iload 4, 2) := by decide +kernel
theorem d12_31 : decode prog_15_method_8_code 31 = .ok (.invokevirtual 99, 3) := by decide +kernel
theorem pd__I_D : parseMethodDescriptor "(I)D" = some ⟨[.int], some .double⟩ := by decide +kernel
theorem d12_34 : decode prog_15_method_8_code 34 = .ok (.aload_n 1, 1) := by decide +kernel
theorem d12_35 : decode prog_15_method_8_code 35 = .ok (.iload 4, 2) := by decide +kernel
theorem d12_37 : decode prog_15_method_8_code 37 = .ok (.invokevirtual 103, 3) := by decide +kernel
theorem d12_40 : decode prog_15_method_8_code 40 = .ok (.invokevirtual 106, 3) := by decide +kernel
theorem pd__JDD_V : parseMethodDescriptor "(JDD)V" = some ⟨[.long, .double, .double], none⟩ := by decide +kernel
theorem d12_43 : decode prog_15_method_8_code 43 = .ok (.iinc 4 1, 3) := by decide +kernel
theorem d12_46 : decode prog_15_method_8_code 46 = .ok (.goto (-38), 3) := by decide +kernel
theorem d12_49 : decode prog_15_method_8_code 49 = .ok (.return_, 1) := by decide +kernel
theorem d10_0 : decode prog_15_method_2_code 0 = .ok (.aload_n 1, 1) := by decide +kernel
theorem d10_1 : decode prog_15_method_2_code 1 = .ok (.invokevirtual 24, 3) := by decide +kernel
theorem d10_4 : decode prog_15_method_2_code 4 = .ok (.lookupswitch 80 #[(0, 36), (2, 72), (5, 48)], 36) := by decide +kernel
theorem d10_76 : decode prog_15_method_2_code 76 = .ok (.aload_n 0, 1) := by decide +kernel
theorem d10_77 : decode prog_15_method_2_code 77 = .ok (.aload_n 1, 1) := by decide +kernel
theorem d10_78 : decode prog_15_method_2_code 78 = .ok (.invokevirtual 31, 3) := by decide +kernel
theorem pd__Lcom_example_tapflow_tapflow_MotionEvent__V : parseMethodDescriptor "(Lcom/example/tapflow/tapflow/MotionEvent;)V" = some ⟨[(.object "com/example/tapflow/tapflow/MotionEvent")], none⟩ := by decide +kernel
theorem d10_81 : decode prog_15_method_2_code 81 = .ok (.goto 3, 3) := by decide +kernel
theorem d10_84 : decode prog_15_method_2_code 84 = .ok (.aload_n 0, 1) := by decide +kernel
theorem d10_85 : decode prog_15_method_2_code 85 = .ok (.aload_n 1, 1) := by decide +kernel
theorem d10_86 : decode prog_15_method_2_code 86 = .ok (.invokevirtual 50, 3) := by decide +kernel
theorem d10_89 : decode prog_15_method_2_code 89 = .ok (.putfield 54, 3) := by decide +kernel
theorem d10_92 : decode prog_15_method_2_code 92 = .ok (.return_, 1) := by decide +kernel
theorem d28_0 : decode jdk_29_method_50_code 0 = .ok (.iload_n 0, 1) := by decide +kernel
theorem d28_1 : decode jdk_29_method_50_code 1 = .ok (.iload_n 1, 1) := by decide +kernel
theorem d28_2 : decode jdk_29_method_50_code 2 = .ok (.irem, 1) := by decide +kernel
theorem d28_3 : decode jdk_29_method_50_code 3 = .ok (.istore_n 2, 1) := by decide +kernel
theorem d28_4 : decode jdk_29_method_50_code 4 = .ok (.iload_n 0, 1) := by decide +kernel
theorem d28_5 : decode jdk_29_method_50_code 5 = .ok (.iload_n 1, 1) := by decide +kernel
theorem d28_6 : decode jdk_29_method_50_code 6 = .ok (.ixor, 1) := by decide +kernel
theorem d28_7 : decode jdk_29_method_50_code 7 = .ok (.ifCond .ge 11, 3) := by decide +kernel
theorem d28_18 : decode jdk_29_method_50_code 18 = .ok (.iload_n 2, 1) := by decide +kernel
theorem d28_19 : decode jdk_29_method_50_code 19 = .ok (.ireturn, 1) := by decide +kernel
theorem d27_0 : decode prog_16_method_3_code 0 = .ok (.aload_n 0, 1) := by decide +kernel
theorem d27_1 : decode prog_16_method_3_code 1 = .ok (.getfield 22, 3) := by decide +kernel
theorem d27_4 : decode prog_16_method_3_code 4 = .ok (.iconst 1, 1) := by decide +kernel
theorem d27_5 : decode prog_16_method_3_code 5 = .ok (.isub, 1) := by decide +kernel
theorem d27_6 : decode prog_16_method_3_code 6 = .ok (.iload_n 1, 1) := by decide +kernel
theorem d27_7 : decode prog_16_method_3_code 7 = .ok (.isub, 1) := by decide +kernel
theorem d27_8 : decode prog_16_method_3_code 8 = .ok (.bipush 64, 2) := by decide +kernel
theorem d27_10 : decode prog_16_method_3_code 10 = .ok (.invokestatic 35, 3) := by decide +kernel
theorem d27_13 : decode prog_16_method_3_code 13 = .ok (.ireturn, 1) := by decide +kernel
theorem d26_0 : decode prog_15_method_10_code 0 = .ok (.aload_n 1, 1) := by decide +kernel
theorem d26_1 : decode prog_15_method_10_code 1 = .ok (.iconst 0, 1) := by decide +kernel
theorem d26_2 : decode prog_15_method_10_code 2 = .ok (.invokevirtual 111, 3) := by decide +kernel
theorem d26_5 : decode prog_15_method_10_code 5 = .ok (.istore_n 2, 1) := by decide +kernel
theorem d26_6 : decode prog_15_method_10_code 6 = .ok (.iconst 0, 1) := by decide +kernel
theorem d26_7 : decode prog_15_method_10_code 7 = .ok (.istore_n 3, 1) := by decide +kernel
theorem d26_8 : decode prog_15_method_10_code 8 = .ok (.dconst 0, 1) := by decide +kernel
theorem d26_9 : decode prog_15_method_10_code 9 = .ok (.dstore 4, 2) := by decide +kernel
theorem d26_11 : decode prog_15_method_10_code 11 = .ok (.dconst 0, 1) := by decide +kernel
theorem d26_12 : decode prog_15_method_10_code 12 = .ok (.dstore 6, 2) := by decide +kernel
theorem d26_14 : decode prog_15_method_10_code 14 = .ok (.dconst 0, 1) := by decide +kernel
theorem d26_15 : decode prog_15_method_10_code 15 = .ok (.dstore 8, 2) := by decide +kernel
theorem d26_17 : decode prog_15_method_10_code 17 = .ok (.dconst 0, 1) := by decide +kernel
theorem d26_18 : decode prog_15_method_10_code 18 = .ok (.dstore 10, 2) := by decide +kernel
theorem d26_20 : decode prog_15_method_10_code 20 = .ok (.dconst 0, 1) := by decide +kernel
theorem d26_21 : decode prog_15_method_10_code 21 = .ok (.dstore 12, 2) := by decide +kernel
theorem d26_23 : decode prog_15_method_10_code 23 = .ok (.dconst 0, 1) := by decide +kernel
theorem d26_24 : decode prog_15_method_10_code 24 = .ok (.dstore 14, 2) := by decide +kernel
theorem d26_26 : decode prog_15_method_10_code 26 = .ok (.iconst 0, 1) := by decide +kernel
theorem d26_27 : decode prog_15_method_10_code 27 = .ok (.istore 16, 2) := by decide +kernel
theorem d26_29 : decode prog_15_method_10_code 29 = .ok (.iload 16, 2) := by decide +kernel
theorem d26_31 : decode prog_15_method_10_code 31 = .ok (.aload_n 1, 1) := by decide +kernel
theorem d26_32 : decode prog_15_method_10_code 32 = .ok (.getfield 46, 3) := by decide +kernel
theorem d26_35 : decode prog_15_method_10_code 35 = .ok (.if_icmp .ge 143, 3) := by decide +kernel
theorem d26_38 : decode prog_15_method_10_code 38 = .ok (.aload_n 1, 1) := by decide +kernel
theorem d26_39 : decode prog_15_method_10_code 39 = .ok (.iload 16, 2) := by decide +kernel
theorem d26_41 : decode prog_15_method_10_code 41 = .ok (.invokevirtual 111, 3) := by decide +kernel
theorem d26_44 : decode prog_15_method_10_code 44 = .ok (.istore 17, 2) := by decide +kernel
theorem d26_46 : decode prog_15_method_10_code 46 = .ok (.aload_n 0, 1) := by decide +kernel
theorem d26_47 : decode prog_15_method_10_code 47 = .ok (.getfield 54, 3) := by decide +kernel
theorem d26_50 : decode prog_15_method_10_code 50 = .ok (.aload_n 1, 1) := by decide +kernel
theorem d26_51 : decode prog_15_method_10_code 51 = .ok (.getfield 114, 3) := by decide +kernel
theorem d26_54 : decode prog_15_method_10_code 54 = .ok (.iload 17, 2) := by decide +kernel
theorem d26_56 : decode prog_15_method_10_code 56 = .ok (.laload, 1) := by decide +kernel
theorem d26_57 : decode prog_15_method_10_code 57 = .ok (.lsub, 1) := by decide +kernel
theorem d26_58 : decode prog_15_method_10_code 58 = .ok (.ldc2_w 118, 3) := by decide +kernel
theorem d26_61 : decode prog_15_method_10_code 61 = .ok (.lcmp, 1) := by decide +kernel
theorem d26_62 : decode prog_15_method_10_code 62 = .ok (.ifCond .gt 110, 3) := by decide +kernel
theorem d26_65 : decode prog_15_method_10_code 65 = .ok (.aload_n 1, 1) := by decide +kernel
theorem d26_66 : decode prog_15_method_10_code 66 = .ok (.getfield 114, 3) := by decide +kernel
theorem d26_69 : decode prog_15_method_10_code 69 = .ok (.iload 17, 2) := by decide +kernel
theorem d26_71 : decode prog_15_method_10_code 71 = .ok (.laload, 1) := by decide +kernel
theorem d26_72 : decode prog_15_method_10_code 72 = .ok (.aload_n 1, 1) := by decide +kernel
theorem d26_73 : decode prog_15_method_10_code 73 = .ok (.getfield 114, 3) := by decide +kernel
theorem d26_76 : decode prog_15_method_10_code 76 = .ok (.iload_n 2, 1) := by decide +kernel
theorem d26_77 : decode prog_15_method_10_code 77 = .ok (.laload, 1) := by decide +kernel
theorem d26_78 : decode prog_15_method_10_code 78 = .ok (.lsub, 1) := by decide +kernel
theorem d26_79 : decode prog_15_method_10_code 79 = .ok (.l2d, 1) := by decide +kernel
theorem d26_80 : decode prog_15_method_10_code 80 = .ok (.ldc2_w 120, 3) := by decide +kernel
theorem d26_83 : decode prog_15_method_10_code 83 = .ok (.ddiv, 1) := by decide +kernel
theorem d26_84 : decode prog_15_method_10_code 84 = .ok (.dstore 18, 2) := by decide +kernel
theorem d26_86 : decode prog_15_method_10_code 86 = .ok (.aload_n 1, 1) := by decide +kernel
theorem d26_87 : decode prog_15_method_10_code 87 = .ok (.getfield 122, 3) := by decide +kernel
theorem d26_90 : decode prog_15_method_10_code 90 = .ok (.iload 17, 2) := by decide +kernel
theorem d26_92 : decode prog_15_method_10_code 92 = .ok (.daload, 1) := by decide +kernel
theorem d26_93 : decode prog_15_method_10_code 93 = .ok (.aload_n 1, 1) := by decide +kernel
theorem d26_94 : decode prog_15_method_10_code 94 = .ok (.getfield 122, 3) := by decide +kernel
theorem d26_97 : decode prog_15_method_10_code 97 = .ok (.iload_n 2, 1) := by decide +kernel
theorem d26_98 : decode prog_15_method_10_code 98 = .ok (.daload, 1) := by decide +kernel
theorem d26_99 : decode prog_15_method_10_code 99 = .ok (.dsub, 1) := by decide +kernel
theorem d26_100 : decode prog_15_method_10_code 100 = .ok (.dstore 20, 2) := by decide +kernel
theorem d26_102 : decode prog_15_method_10_code 102 = .ok (.aload_n 1, 1) := by decide +kernel
theorem d26_103 : decode prog_15_method_10_code 103 = .ok (.getfield 125, 3) := by decide +kernel
theorem d26_106 : decode prog_15_method_10_code 106 = .ok (.iload 17, 2) := by decide +kernel
theorem d26_108 : decode prog_15_method_10_code 108 = .ok (.daload, 1) := by decide +kernel
theorem d26_109 : decode prog_15_method_10_code 109 = .ok (.aload_n 1, 1) := by decide +kernel
theorem d26_110 : decode prog_15_method_10_code 110 = .ok (.getfield 125, 3) := by decide +kernel
theorem d26_113 : decode prog_15_method_10_code 113 = .ok (.iload_n 2, 1) := by decide +kernel
theorem d26_114 : decode prog_15_method_10_code 114 = .ok (.daload, 1) := by decide +kernel
theorem d26_115 : decode prog_15_method_10_code 115 = .ok (.dsub, 1) := by decide +kernel
theorem d26_116 : decode prog_15_method_10_code 116 = .ok (.dstore 22, 2) := by decide +kernel
theorem d26_118 : decode prog_15_method_10_code 118 = .ok (.iinc 3 1, 3) := by decide +kernel
theorem d26_121 : decode prog_15_method_10_code 121 = .ok (.dload 4, 2) := by decide +kernel
theorem d26_123 : decode prog_15_method_10_code 123 = .ok (.dload 18, 2) := by decide +kernel
theorem d26_125 : decode prog_15_method_10_code 125 = .ok (.dadd, 1) := by decide +kernel
theorem d26_126 : decode prog_15_method_10_code 126 = .ok (.dstore 4, 2) := by decide +kernel
theorem d26_128 : decode prog_15_method_10_code 128 = .ok (.dload 6, 2) := by decide +kernel
theorem d26_130 : decode prog_15_method_10_code 130 = .ok (.dload 20, 2) := by decide +kernel
theorem d26_132 : decode prog_15_method_10_code 132 = .ok (.dadd, 1) := by decide +kernel
theorem d26_133 : decode prog_15_method_10_code 133 = .ok (.dstore 6, 2) := by decide +kernel
theorem d26_135 : decode prog_15_method_10_code 135 = .ok (.dload 8, 2) := by decide +kernel
theorem d26_137 : decode prog_15_method_10_code 137 = .ok (.dload 22, 2) := by decide +kernel
theorem d26_139 : decode prog_15_method_10_code 139 = .ok (.dadd, 1) := by decide +kernel
theorem d26_140 : decode prog_15_method_10_code 140 = .ok (.dstore 8, 2) := by decide +kernel
theorem d26_142 : decode prog_15_method_10_code 142 = .ok (.dload 10, 2) := by decide +kernel
theorem d26_144 : decode prog_15_method_10_code 144 = .ok (.dload 18, 2) := by decide +kernel
theorem d26_146 : decode prog_15_method_10_code 146 = .ok (.dload 18, 2) := by decide +kernel
theorem d26_148 : decode prog_15_method_10_code 148 = .ok (.dmul, 1) := by decide +kernel
theorem d26_149 : decode prog_15_method_10_code 149 = .ok (.dadd, 1) := by decide +kernel
theorem d26_150 : decode prog_15_method_10_code 150 = .ok (.dstore 10, 2) := by decide +kernel
theorem d26_152 : decode prog_15_method_10_code 152 = .ok (.dload 12, 2) := by decide +kernel
theorem d26_154 : decode prog_15_method_10_code 154 = .ok (.dload 18, 2) := by decide +kernel
theorem d26_156 : decode prog_15_method_10_code 156 = .ok (.dload 20, 2) := by decide +kernel
theorem d26_158 : decode prog_15_method_10_code 158 = .ok (.dmul, 1) := by decide +kernel
theorem d26_159 : decode prog_15_method_10_code 159 = .ok (.dadd, 1) := by decide +kernel
theorem d26_160 : decode prog_15_method_10_code 160 = .ok (.dstore 12, 2) := by decide +kernel
theorem d26_162 : decode prog_15_method_10_code 162 = .ok (.dload 14, 2) := by decide +kernel
theorem d26_164 : decode prog_15_method_10_code 164 = .ok (.dload 18, 2) := by decide +kernel
theorem d26_166 : decode prog_15_method_10_code 166 = .ok (.dload 22, 2) := by decide +kernel
theorem d26_168 : decode prog_15_method_10_code 168 = .ok (.dmul, 1) := by decide +kernel
theorem d26_169 : decode prog_15_method_10_code 169 = .ok (.dadd, 1) := by decide +kernel
theorem d26_170 : decode prog_15_method_10_code 170 = .ok (.dstore 14, 2) := by decide +kernel
theorem d26_172 : decode prog_15_method_10_code 172 = .ok (.iinc 16 1, 3) := by decide +kernel
theorem d26_175 : decode prog_15_method_10_code 175 = .ok (.goto (-146), 3) := by decide +kernel
theorem d26_178 : decode prog_15_method_10_code 178 = .ok (.iload_n 3, 1) := by decide +kernel
theorem d26_179 : decode prog_15_method_10_code 179 = .ok (.i2d, 1) := by decide +kernel
theorem d26_180 : decode prog_15_method_10_code 180 = .ok (.dload 10, 2) := by decide +kernel
theorem d26_182 : decode prog_15_method_10_code 182 = .ok (.dmul, 1) := by decide +kernel
theorem d26_183 : decode prog_15_method_10_code 183 = .ok (.dload 4, 2) := by decide +kernel
theorem d26_185 : decode prog_15_method_10_code 185 = .ok (.dload 4, 2) := by decide +kernel
theorem d26_187 : decode prog_15_method_10_code 187 = .ok (.dmul, 1) := by decide +kernel
theorem d26_188 : decode prog_15_method_10_code 188 = .ok (.dsub, 1) := by decide +kernel
theorem d26_189 : decode prog_15_method_10_code 189 = .ok (.dstore 16, 2) := by decide +kernel
theorem d26_191 : decode prog_15_method_10_code 191 = .ok (.dload 16, 2) := by decide +kernel
theorem d26_193 : decode prog_15_method_10_code 193 = .ok (.dconst 0, 1) := by decide +kernel
theorem d26_194 : decode prog_15_method_10_code 194 = .ok (.dcmp .l, 1) := by decide +kernel
theorem d26_195 : decode prog_15_method_10_code 195 = .ok (.ifCond .gt 5, 3) := by decide +kernel
theorem d26_200 : decode prog_15_method_10_code 200 = .ok (.aload_n 1, 1) := by decide +kernel
theorem d26_201 : decode prog_15_method_10_code 201 = .ok (.iload_n 3, 1) := by decide +kernel
theorem d26_202 : decode prog_15_method_10_code 202 = .ok (.i2d, 1) := by decide +kernel
theorem d26_203 : decode prog_15_method_10_code 203 = .ok (.dload 12, 2) := by decide +kernel
theorem d26_205 : decode prog_15_method_10_code 205 = .ok (.dmul, 1) := by decide +kernel
theorem d26_206 : decode prog_15_method_10_code 206 = .ok (.dload 4, 2) := by decide +kernel
theorem d26_208 : decode prog_15_method_10_code 208 = .ok (.dload 6, 2) := by decide +kernel
theorem d26_210 : decode prog_15_method_10_code 210 = .ok (.dmul, 1) := by decide +kernel
theorem d26_211 : decode prog_15_method_10_code 211 = .ok (.dsub, 1) := by decide +kernel
theorem d26_212 : decode prog_15_method_10_code 212 = .ok (.dload 16, 2) := by decide +kernel
theorem d26_214 : decode prog_15_method_10_code 214 = .ok (.ddiv, 1) := by decide +kernel
theorem d26_215 : decode prog_15_method_10_code 215 = .ok (.putfield 82, 3) := by decide +kernel
theorem d26_218 : decode prog_15_method_10_code 218 = .ok (.aload_n 1, 1) := by decide +kernel
theorem d26_219 : decode prog_15_method_10_code 219 = .ok (.iload_n 3, 1) := by decide +kernel
theorem d26_220 : decode prog_15_method_10_code 220 = .ok (.i2d, 1) := by decide +kernel
theorem d26_221 : decode prog_15_method_10_code 221 = .ok (.dload 14, 2) := by decide +kernel
theorem d26_223 : decode prog_15_method_10_code 223 = .ok (.dmul, 1) := by decide +kernel
theorem d26_224 : decode prog_15_method_10_code 224 = .ok (.dload 4, 2) := by decide +kernel
theorem d26_226 : decode prog_15_method_10_code 226 = .ok (.dload 8, 2) := by decide +kernel
theorem d26_228 : decode prog_15_method_10_code 228 = .ok (.dmul, 1) := by decide +kernel
theorem d26_229 : decode prog_15_method_10_code 229 = .ok (.dsub, 1) := by decide +kernel
theorem d26_230 : decode prog_15_method_10_code 230 = .ok (.dload 16, 2) := by decide +kernel
theorem d26_232 : decode prog_15_method_10_code 232 = .ok (.ddiv, 1) := by decide +kernel
theorem d26_233 : decode prog_15_method_10_code 233 = .ok (.putfield 90, 3) := by decide +kernel
theorem d26_236 : decode prog_15_method_10_code 236 = .ok (.iconst 1, 1) := by decide +kernel
theorem d26_237 : decode prog_15_method_10_code 237 = .ok (.ireturn, 1) := by decide +kernel
theorem d26_198 : decode prog_15_method_10_code 198 = .ok (.iconst 0, 1) := by decide +kernel
theorem d26_199 : decode prog_15_method_10_code 199 = .ok (.ireturn, 1) := by decide +kernel
theorem d29_0 : decode prog_15_method_11_code 0 = .ok (.dload_n 2, 1) := by decide +kernel
theorem d29_1 : decode prog_15_method_11_code 1 = .ok (.dneg, 1) := by decide +kernel
theorem d29_2 : decode prog_15_method_11_code 2 = .ok (.dload_n 2, 1) := by decide +kernel
theorem d29_3 : decode prog_15_method_11_code 3 = .ok (.dload_n 0, 1) := by decide +kernel
theorem d29_4 : decode prog_15_method_11_code 4 = .ok (.invokestatic 128, 3) := by decide +kernel
theorem d29_7 : decode prog_15_method_11_code 7 = .ok (.invokestatic 133, 3) := by decide +kernel
theorem d29_10 : decode prog_15_method_11_code 10 = .ok (.dreturn, 1) := by decide +kernel
theorem d25_0 : decode prog_15_method_5_code 0 = .ok (.iload_n 1, 1) := by decide +kernel
theorem d25_1 : decode prog_15_method_5_code 1 = .ok (.ifCond .gt 17, 3) := by decide +kernel
theorem d25_18 : decode prog_15_method_5_code 18 = .ok (.dload_n 2, 1) := by decide +kernel
theorem d25_19 : decode prog_15_method_5_code 19 = .ok (.dconst 0, 1) := by decide +kernel
theorem d25_20 : decode prog_15_method_5_code 20 = .ok (.dcmp .l, 1) := by decide +kernel
theorem d25_21 : decode prog_15_method_5_code 21 = .ok (.ifCond .gt 17, 3) := by decide +kernel
theorem d25_38 : decode prog_15_method_5_code 38 = .ok (.iconst 0, 1) := by decide +kernel
theorem d25_39 : decode prog_15_method_5_code 39 = .ok (.istore 4, 2) := by decide +kernel
theorem d25_41 : decode prog_15_method_5_code 41 = .ok (.iload 4, 2) := by decide +kernel
theorem d25_43 : decode prog_15_method_5_code 43 = .ok (.bipush 32, 2) := by decide +kernel
theorem d25_45 : decode prog_15_method_5_code 45 = .ok (.if_icmp .ge 89, 3) := by decide +kernel
theorem d25_134 : decode prog_15_method_5_code 134 = .ok (.return_, 1) := by decide +kernel
theorem d25_48 : decode prog_15_method_5_code 48 = .ok (.aload_n 0, 1) := by decide +kernel
theorem d25_49 : decode prog_15_method_5_code 49 = .ok (.getfield 13, 3) := by decide +kernel
theorem d25_52 : decode prog_15_method_5_code 52 = .ok (.iload 4, 2) := by decide +kernel
theorem d25_54 : decode prog_15_method_5_code 54 = .ok (.aaload, 1) := by decide +kernel
theorem d25_55 : decode prog_15_method_5_code 55 = .ok (.astore 5, 2) := by decide +kernel
theorem d25_57 : decode prog_15_method_5_code 57 = .ok (.aload 5, 2) := by decide +kernel
theorem d25_59 : decode prog_15_method_5_code 59 = .ok (.ifnull 12, 3) := by decide +kernel
theorem d25_62 : decode prog_15_method_5_code 62 = .ok (.aload_n 0, 1) := by decide +kernel
theorem d25_63 : decode prog_15_method_5_code 63 = .ok (.aload 5, 2) := by decide +kernel
theorem d25_65 : decode prog_15_method_5_code 65 = .ok (.invokevirtual 78, 3) := by decide +kernel
theorem pd__Lcom_example_tapflow_tapflow_VelocityTracker_Positions__Z : parseMethodDescriptor "(Lcom/example/tapflow/tapflow/VelocityTracker$Positions;)Z" = some ⟨[(.object "com/example/tapflow/tapflow/VelocityTracker$Positions")], some .boolean⟩ := by decide +kernel
theorem d25_68 : decode prog_15_method_5_code 68 = .ok (.ifCond .ne 22, 3) := by decide +kernel
theorem d25_90 : decode prog_15_method_5_code 90 = .ok (.aload_n 0, 1) := by decide +kernel
theorem d25_91 : decode prog_15_method_5_code 91 = .ok (.getfield 17, 3) := by decide +kernel
theorem d25_94 : decode prog_15_method_5_code 94 = .ok (.iload 4, 2) := by decide +kernel
theorem d25_96 : decode prog_15_method_5_code 96 = .ok (.aload 5, 2) := by decide +kernel
theorem d25_98 : decode prog_15_method_5_code 98 = .ok (.getfield 82, 3) := by decide +kernel
theorem d25_101 : decode prog_15_method_5_code 101 = .ok (.iload_n 1, 1) := by decide +kernel
theorem d25_102 : decode prog_15_method_5_code 102 = .ok (.i2d, 1) := by decide +kernel
theorem d25_103 : decode prog_15_method_5_code 103 = .ok (.dmul, 1) := by decide +kernel
theorem d25_104 : decode prog_15_method_5_code 104 = .ok (.dload_n 2, 1) := by decide +kernel
theorem d25_105 : decode prog_15_method_5_code 105 = .ok (.invokestatic 86, 3) := by decide +kernel
theorem pd__DD_D : parseMethodDescriptor "(DD)D" = some ⟨[.double, .double], some .double⟩ := by decide +kernel
theorem d25_108 : decode prog_15_method_5_code 108 = .ok (.dastore, 1) := by decide +kernel
theorem d25_109 : decode prog_15_method_5_code 109 = .ok (.aload_n 0, 1) := by decide +kernel
theorem d25_110 : decode prog_15_method_5_code 110 = .ok (.getfield 21, 3) := by decide +kernel
theorem d25_113 : decode prog_15_method_5_code 113 = .ok (.iload 4, 2) := by decide +kernel
theorem d25_115 : decode prog_15_method_5_code 115 = .ok (.aload 5, 2) := by decide +kernel
theorem d25_117 : decode prog_15_method_5_code 117 = .ok (.getfield 90, 3) := by decide +kernel
theorem d25_120 : decode prog_15_method_5_code 120 = .ok (.iload_n 1, 1) := by decide +kernel
theorem d25_121 : decode prog_15_method_5_code 121 = .ok (.i2d, 1) := by decide +kernel
theorem d25_122 : decode prog_15_method_5_code 122 = .ok (.dmul, 1) := by decide +kernel
theorem d25_123 : decode prog_15_method_5_code 123 = .ok (.dload_n 2, 1) := by decide +kernel
theorem d25_124 : decode prog_15_method_5_code 124 = .ok (.invokestatic 86, 3) := by decide +kernel
theorem d25_127 : decode prog_15_method_5_code 127 = .ok (.dastore, 1) := by decide +kernel
theorem d25_128 : decode prog_15_method_5_code 128 = .ok (.iinc 4 1, 3) := by decide +kernel
theorem d25_131 : decode prog_15_method_5_code 131 = .ok (.goto (-90), 3) := by decide +kernel
theorem d25_71 : decode prog_15_method_5_code 71 = .ok (.aload_n 0, 1) := by decide +kernel
theorem d25_72 : decode prog_15_method_5_code 72 = .ok (.getfield 17, 3) := by decide +kernel
theorem d25_75 : decode prog_15_method_5_code 75 = .ok (.iload 4, 2) := by decide +kernel
theorem d25_77 : decode prog_15_method_5_code 77 = .ok (.dconst 0, 1) := by decide +kernel
theorem d25_78 : decode prog_15_method_5_code 78 = .ok (.dastore, 1) := by decide +kernel
theorem d25_79 : decode prog_15_method_5_code 79 = .ok (.aload_n 0, 1) := by decide +kernel
theorem d25_80 : decode prog_15_method_5_code 80 = .ok (.getfield 21, 3) := by decide +kernel
theorem d25_83 : decode prog_15_method_5_code 83 = .ok (.iload 4, 2) := by decide +kernel
theorem d25_85 : decode prog_15_method_5_code 85 = .ok (.dconst 0, 1) := by decide +kernel
theorem d25_86 : decode prog_15_method_5_code 86 = .ok (.dastore, 1) := by decide +kernel
theorem d25_87 : decode prog_15_method_5_code 87 = .ok (.goto 41, 3) := by decide +kernel
theorem d24_0 : decode prog_15_method_4_code 0 = .ok (.aload_n 0, 1) := by decide +kernel
theorem d24_1 : decode prog_15_method_4_code 1 = .ok (.iload_n 1, 1) := by decide +kernel
theorem d24_2 : decode prog_15_method_4_code 2 = .ok (.ldc2_w 60, 3) := by decide +kernel
theorem d24_5 : decode prog_15_method_4_code 5 = .ok (.invokevirtual 62, 3) := by decide +kernel
theorem pd__ID_V : parseMethodDescriptor "(ID)V" = some ⟨[.int, .double], none⟩ := by decide +kernel
theorem d24_8 : decode prog_15_method_4_code 8 = .ok (.return_, 1) := by decide +kernel
theorem d32_0 : decode prog_15_method_3_code 0 = .ok (.aload_n 0, 1) := by decide +kernel
theorem d32_1 : decode prog_15_method_3_code 1 = .ok (.getfield 13, 3) := by decide +kernel
theorem d32_4 : decode prog_15_method_3_code 4 = .ok (.astore_n 1, 1) := by decide +kernel
theorem d32_5 : decode prog_15_method_3_code 5 = .ok (.aload_n 1, 1) := by decide +kernel
theorem d32_6 : decode prog_15_method_3_code 6 = .ok (.arraylength, 1) := by decide +kernel
theorem d32_7 : decode prog_15_method_3_code 7 = .ok (.istore_n 2, 1) := by decide +kernel
theorem d32_8 : decode prog_15_method_3_code 8 = .ok (.iconst 0, 1) := by decide +kernel
theorem d32_9 : decode prog_15_method_3_code 9 = .ok (.istore_n 3, 1) := by decide +kernel
theorem d32_10 : decode prog_15_method_3_code 10 = .ok (.iload_n 3, 1) := by decide +kernel
theorem d32_11 : decode prog_15_method_3_code 11 = .ok (.iload_n 2, 1) := by decide +kernel
theorem d32_12 : decode prog_15_method_3_code 12 = .ok (.if_icmp .ge 25, 3) := by decide +kernel
theorem d32_37 : decode prog_15_method_3_code 37 = .ok (.return_, 1) := by decide +kernel
theorem d32_15 : decode prog_15_method_3_code 15 = .ok (.aload_n 1, 1) := by decide +kernel
theorem d32_16 : decode prog_15_method_3_code 16 = .ok (.iload_n 3, 1) := by decide +kernel
theorem d32_17 : decode prog_15_method_3_code 17 = .ok (.aaload, 1) := by decide +kernel
theorem d32_18 : decode prog_15_method_3_code 18 = .ok (.astore 4, 2) := by decide +kernel
theorem d32_20 : decode prog_15_method_3_code 20 = .ok (.aload 4, 2) := by decide +kernel
theorem d32_22 : decode prog_15_method_3_code 22 = .ok (.ifnull 9, 3) := by decide +kernel
theorem d32_25 : decode prog_15_method_3_code 25 = .ok (.aload 4, 2) := by decide +kernel
theorem d32_27 : decode prog_15_method_3_code 27 = .ok (.iconst 0, 1) := by decide +kernel
theorem d32_28 : decode prog_15_method_3_code 28 = .ok (.putfield 46, 3) := by decide +kernel
theorem d32_31 : decode prog_15_method_3_code 31 = .ok (.iinc 3 1, 3) := by decide +kernel
theorem d32_34 : decode prog_15_method_3_code 34 = .ok (.goto (-24), 3) := by decide +kernel
theorem d33_0 : decode prog_15_method_6_code 0 = .ok (.aload_n 0, 1) := by decide +kernel
theorem d33_1 : decode prog_15_method_6_code 1 = .ok (.getfield 17, 3) := by decide +kernel
theorem d33_4 : decode prog_15_method_6_code 4 = .ok (.iload_n 1, 1) := by decide +kernel
theorem d33_5 : decode prog_15_method_6_code 5 = .ok (.invokestatic 93, 3) := by decide +kernel
theorem d33_8 : decode prog_15_method_6_code 8 = .ok (.daload, 1) := by decide +kernel
theorem d33_9 : decode prog_15_method_6_code 9 = .ok (.dreturn, 1) := by decide +kernel
theorem d34_0 : decode prog_15_method_7_code 0 = .ok (.aload_n 0, 1) := by decide +kernel
theorem d34_1 : decode prog_15_method_7_code 1 = .ok (.getfield 21, 3) := by decide +kernel
theorem d34_4 : decode prog_15_method_7_code 4 = .ok (.iload_n 1, 1) := by decide +kernel
theorem d34_5 : decode prog_15_method_7_code 5 = .ok (.invokestatic 93, 3) := by decide +kernel
theorem d34_8 : decode prog_15_method_7_code 8 = .ok (.daload, 1) := by decide +kernel
theorem d34_9 : decode prog_15_method_7_code 9 = .ok (.dreturn, 1) := by decide +kernel
theorem d35_0 : decode prog_5_method_4_code 0 = .ok (.aload_n 0, 1) := by decide +kernel
theorem d35_1 : decode prog_5_method_4_code 1 = .ok (.lload_n 1, 1) := by decide +kernel
theorem d35_2 : decode prog_5_method_4_code 2 = .ok (.putfield 47, 3) := by decide +kernel
theorem d35_5 : decode prog_5_method_4_code 5 = .ok (.return_, 1) := by decide +kernel
theorem pd__JI_I_D_D_V : parseMethodDescriptor "(JI[I[D[D)V" = some ⟨[.long, .int, (.array .int), (.array .double), (.array .double)], none⟩ := by decide +kernel
theorem pd__J_V : parseMethodDescriptor "(J)V" = some ⟨[.long], none⟩ := by decide +kernel
theorem pn_com_example_tapflow_tapflow_VelocityTrackerClearPinLaw : plainName "com/example/tapflow/tapflow/VelocityTrackerClearPinLaw" = true := by first | (simp [plainName, overriddenIn]; done) | decide +kernel
abbrev oMe (Z : State) (a : Addr) (f0 f1 f2 f3 f4 f5 f6 f7 f8 f9 : Value) : Ent := oObj Z a "com/example/tapflow/tapflow/MotionEvent" [("com/example/tapflow/tapflow/MotionEvent", "levels", "[D", f0), ("com/example/tapflow/tapflow/MotionEvent", "placedAt", "I", f1), ("com/example/tapflow/tapflow/MotionEvent", "eventTimeNanos", "J", f2), ("com/example/tapflow/tapflow/MotionEvent", "pointerIds", "[I", f3), ("com/example/tapflow/tapflow/MotionEvent", "xs", "[D", f4), ("com/example/tapflow/tapflow/MotionEvent", "ys", "[D", f5), ("com/example/tapflow/tapflow/MotionEvent", "action", "I", f6), ("com/example/tapflow/tapflow/MotionEvent", "offsetX", "D", f7), ("com/example/tapflow/tapflow/MotionEvent", "offsetY", "D", f8), ("com/example/tapflow/tapflow/MotionEvent", "levelCount", "I", f9)]
def Crd (x : UInt64) : Prop := NoNaN64 x ∧ ¬ 0 < cmpValue (FP.dcmp (x &&& 0x7fffffffffffffff) 6103021453049119613) .g
theorem Crd.i (x : Int32) : Crd (FP.i2d x) := by
  refine ⟨(i2d_fin x).noNaN, ?_⟩
  have f : FP.Core.DFin (FP.i2d x &&& 0x7fffffffffffffff) := fin64_core.mp (abs_fin (i2d_fin x))
  rw [cmp_z (fne f) (by decide +kernel)]
  refine cmp3_le ?_
  have h1 := Int32.toInt_lt x; have h2 := Int32.le_toInt x
  have b : z (2147483648 * 0 + 4746794007248502784 : UInt64) ≤ z (6103021453049119613 : UInt64) := by decide +kernel
  have e : x.toInt64.toInt = x.toInt := Int32.toInt_toInt64 x
  have m : z (4746794007248502784 : UInt64) = 2147483648 * (U : Int) := by decide +kernel
  have hU : (0 : Int) < (U : Int) := Int.natCast_pos.mpr U_pos
  have k : z (FP.i2d x &&& 0x7fffffffffffffff) ≤ 2147483648 * (U : Int) := by
    rw [i2d_w]
    by_cases q : x.toInt64 < 0
    · rw [abs_n ⟨by rw [e]; omega, by rw [e]; omega⟩ q]
      have e2 : (-x.toInt64).toInt = -x.toInt := by rw [FP.Core.int64_neg (by rw [e]; omega), e]
      rw [z_l2d ⟨by rw [e2]; omega, by rw [e2]; omega⟩, e2]
      exact Int.mul_le_mul_of_nonneg_right (by omega) (by omega)
    · rw [abs_w q, z_l2d ⟨by rw [e]; omega, by rw [e]; omega⟩, e]
      exact Int.mul_le_mul_of_nonneg_right (by omega) (by omega)
  rw [← m] at k
  exact Int.le_trans k b
theorem Crd.zero : Crd 0 := by refine ⟨by unfold NoNaN64; decide, ?_⟩; decide +kernel
theorem ints_fit (L : List Int32) : ∀ v ∈ L.map Value.int, fits .int v = true := fun v hv => by obtain ⟨x, -, rfl⟩ := List.mem_map.mp hv; rfl
theorem dbls_fit (L : List UInt64) : ∀ v ∈ L.map Value.double, fits .double v = true := fun v hv => by obtain ⟨x, -, rfl⟩ := List.mem_map.mp hv; rfl
set_option maxRecDepth 65536 in
theorem ef_c_chk (m : MethodId) (z0 : Int32) : entryFrame m ([.int z0] : List Value).toArray 1 = mkF m 0 #[.val (.int z0)] [] := by first | (simp [entryFrame, mkF, argsToLocals, Value.category]; done) | rfl
def rm_c_chk : Room := { frames := 0, cells := 0, slots := 0, locals := 0 }
set_option maxRecDepth 65536 in
set_option maxHeartbeats 40000000 in
theorem c_chk (l : Launch) (Z : State) (a0 : Array Value) (hw : ∀ d ∈ tables_1, d.before a0 Z = true) (i : Int32) (h0 : ¬ i < 0) (h1 : ¬ (31 : Int32) < i) (rest : List Ent) :
    OMeets l (⟨"com/example/tapflow/tapflow/MotionEvent", "checkPointerId", "(I)I"⟩ : MethodName) prog_5_method_52_code 1 (some .int) rm_c_chk Z [.int i] rest (fun v K => v = some (.int i) ∧ rest = K) := by
  refine OMeets.of_body (plainFor_of_name pn_com_example_tapflow_tapflow_MotionEvent) #[.val (.int i)] (fun m => ef_c_chk m i) fun pP eE sS mM bB hH cC T N => ?_
  refine k_iload_n (pc := 0) N d4_0 rfl ?_
  refine k_if_lt (pc := 1) N d4_1 (pc' := 10) (by decide) (fun qQ => absurd qQ h0) (fun _ => ?_)
  refine k_iload_n (pc := 4) N d4_4 rfl ?_
  refine k_bipush (pc := 5) N d4_5 (v := (31 : Int32)) (by decide) ?_
  refine k_icmp_le (pc := 7) N d4_7 (pc' := 24) (by decide) (fun _ => ?_) (fun qQ => absurd qQ h1)
  refine k_iload_n (pc := 24) N d4_24 rfl ?_
  exact k_ireturn (pc := 25) N d4_25 rfl (by decide) (by decide) ⟨rfl, rfl⟩
set_option maxRecDepth 65536 in
theorem ef_c_crd (m : MethodId) (z0 : UInt64) : entryFrame m ([.double z0] : List Value).toArray 2 = mkF m 0 #[.val (.double z0), .second] [] := by first | (simp [entryFrame, mkF, argsToLocals, Value.category]; done) | rfl
def rm_c_crd : Room := { frames := 1, cells := 0, slots := 0, locals := 13 }
set_option maxRecDepth 65536 in
set_option maxHeartbeats 40000000 in
theorem c_crd (l : Launch) (Z : State) (a0 : Array Value) (hw : ∀ d ∈ tables_1, d.before a0 Z = true) (d : UInt64) (h : Crd d) (rest : List Ent) :
    OMeets l (⟨"com/example/tapflow/tapflow/MotionEvent", "isCoordinate", "(D)Z"⟩ : MethodName) prog_5_method_53_code 2 (some .boolean) rm_c_crd Z [.double d] rest (fun v K => v = some (.int 1) ∧ rest = K) := by
  refine OMeets.of_body (plainFor_of_name pn_com_example_tapflow_tapflow_MotionEvent) #[.val (.double d), .second] (fun m => ef_c_crd m d) fun pP eE sS mM bB hH cC T N => ?_
  refine k_dload_n (pc := 0) N d5_0 rfl ?_
  refine k_absD (pc := 1) N 0 d5_1 (by decide +kernel) (hw _ (List.mem_of_getElem? (i := 38) rfl)) (hw _ (List.mem_of_getElem? (i := 39) rfl)) (hw _ (List.mem_of_getElem? (i := 40) rfl)) (hw _ (List.mem_of_getElem? (i := 41) rfl)) h.1 rfl rfl (by decide) (by decide) (by decide) (by decide) fun T N => ?_
  refine k_ldcD (pc := 4) N d5_4 (hw _ (List.mem_of_getElem? (i := 42) rfl)) ?_
  refine k_dcmp (pc := 7) N d5_7 (v := (cmpValue (FP.dcmp (d &&& 0x7fffffffffffffff) (6103021453049119613 : UInt64)) .g)) rfl ?_
  refine k_if_gt (pc := 8) N d5_8 (pc' := 15) (by decide) (fun qQ => absurd qQ h.2) (fun _ => ?_)
  refine k_iconst (pc := 11) N d5_11 (v := (1 : Int32)) (by decide) ?_
  refine k_goto (pc := 12) N d5_12 (pc' := 16) (by decide) ?_
  exact k_zreturn (pc := 16) N d5_16 rfl (by decide) (by decide) ⟨rfl, rfl⟩
set_option maxRecDepth 65536 in
theorem ef_c_ptr2 (m : MethodId) (z0 : Int32) : entryFrame m ([.int z0] : List Value).toArray 2 = mkF m 0 #[.val (.int z0), .unset] [] := by first | (simp [entryFrame, mkF, argsToLocals, Value.category]; done) | rfl
def rm_c_ptr2 : Room := { frames := 0, cells := 0, slots := 0, locals := 0 }
set_option maxRecDepth 65536 in
set_option maxHeartbeats 40000000 in
theorem c_ptr2 (l : Launch) (Z : State) (a0 : Array Value) (hw : ∀ d ∈ tables_1, d.before a0 Z = true) (u : Int32) (hu : u = 2) (rest : List Ent) :
    OMeets l (⟨"com/example/tapflow/tapflow/MotionEvent", "isPointerAction", "(I)Z"⟩ : MethodName) prog_5_method_55_code 2 (some .boolean) rm_c_ptr2 Z [.int u] rest (fun v K => v = some (.int 0) ∧ rest = K) := by
  refine OMeets.of_body (plainFor_of_name pn_com_example_tapflow_tapflow_MotionEvent) #[.val (.int u), .unset] (fun m => ef_c_ptr2 m u) fun pP eE sS mM bB hH cC T N => ?_
  refine k_iload_n (pc := 0) N d9_0 rfl ?_
  refine k_sipush (pc := 1) N d9_1 (v := (255 : Int32)) (by decide) ?_
  refine k_iand (pc := 4) N d9_4 ?_
  refine k_istore_n (pc := 5) N d9_5 (Ls' := #[.val (.int u), .val (.int (u &&& (255 : Int32)))]) rfl ?_
  refine k_iload_n (pc := 6) N d9_6 rfl ?_
  refine k_iconst (pc := 7) N d9_7 (v := (5 : Int32)) (by decide) ?_
  refine k_icmp_eq (pc := 8) N d9_8 (pc' := 17) (by decide) (fun qQ => absurd qQ (by subst hu; decide)) (fun _ => ?_)
  refine k_iload_n (pc := 11) N d9_11 rfl ?_
  refine k_bipush (pc := 12) N d9_12 (v := (6 : Int32)) (by decide) ?_
  refine k_icmp_ne (pc := 14) N d9_14 (pc' := 21) (by decide) (fun _ => ?_) (fun qQ => absurd qQ (by subst hu; decide))
  refine k_iconst (pc := 21) N d9_21 (v := (0 : Int32)) (by decide) ?_
  exact k_zreturn (pc := 22) N d9_22 rfl (by decide) (by decide) ⟨rfl, rfl⟩
set_option maxRecDepth 65536 in
theorem ef_c_name2 (m : MethodId) (z0 : Int32) : entryFrame m ([.int z0] : List Value).toArray 3 = mkF m 0 #[.val (.int z0), .unset, .unset] [] := by first | (simp [entryFrame, mkF, argsToLocals, Value.category]; done) | rfl
def rm_c_name2 : Room := { frames := 0, cells := 0, slots := 0, locals := 0 }
set_option maxRecDepth 65536 in
set_option maxHeartbeats 40000000 in
theorem c_name2 (l : Launch) (Z : State) (a0 : Array Value) (hw : ∀ d ∈ tables_1, d.before a0 Z = true) (an sn : Addr) (ac : Cell) (SA : Sta Z Z.heap "com/example/tapflow/tapflow/MotionEvent" "ACTION_NAMES" "[Ljava/lang/String;" (.ref an)) (AA : Arr Z Z.heap an ac (.object "java/lang/String")) (A7 : ac.slots.size = 7) (AE : ac.slots[2]? = some (.ref sn)) (rest : List Ent) :
    OMeets l (⟨"com/example/tapflow/tapflow/MotionEvent", "name", "(I)Ljava/lang/String;"⟩ : MethodName) prog_5_method_51_code 3 (some (.object "java/lang/String")) rm_c_name2 Z [.int (2 : Int32)] rest (fun v K => v = some (.ref sn) ∧ rest = K) := by
  refine OMeets.of_body (plainFor_of_name pn_com_example_tapflow_tapflow_MotionEvent) #[.val (.int (2 : Int32)), .unset, .unset] (fun m => ef_c_name2 m (2 : Int32)) fun pP eE sS mM bB hH cC T N => ?_
  refine k_iload_n (pc := 0) N d8_0 rfl ?_
  refine k_sipush (pc := 1) N d8_1 (v := (255 : Int32)) (by decide) ?_
  refine k_iand (pc := 4) N d8_4 ?_
  refine k_istore_n (pc := 5) N d8_5 (Ls' := #[.val (.int (2 : Int32)), .val (.int ((2 : Int32) &&& (255 : Int32))), .unset]) rfl ?_
  refine k_iload_n (pc := 6) N d8_6 rfl ?_
  refine k_ldcWI (pc := 7) N d8_7 (hw _ (List.mem_of_getElem? (i := 74) rfl)) ?_
  refine k_iand (pc := 10) N d8_10 ?_
  refine k_if_ne (pc := 11) N d8_11 (pc' := 18) (by decide) (fun qQ => absurd qQ (by decide)) (fun _ => ?_)
  refine k_iconst (pc := 14) N d8_14 (v := (1 : Int32)) (by decide) ?_
  refine k_goto (pc := 15) N d8_15 (pc' := 19) (by decide) ?_
  refine k_istore_n (pc := 19) N d8_19 (Ls' := #[.val (.int (2 : Int32)), .val (.int ((2 : Int32) &&& (255 : Int32))), .val (.int (1 : Int32))]) rfl ?_
  refine k_iload_n (pc := 20) N d8_20 rfl ?_
  refine k_if_eq (pc := 21) N d8_21 (pc' := 40) (by decide) (fun qQ => absurd qQ (by decide)) (fun _ => ?_)
  refine k_iload_n (pc := 24) N d8_24 rfl ?_
  refine k_getS (pc := 25) N d8_25 (hw _ (List.mem_of_getElem? (i := 75) rfl)) Via.refl SA fun T N => ?_
  refine k_alenOld (pc := 28) N d8_28 AA (z := (7 : Int32)) (by rw [A7]; rfl) ?_
  refine k_icmp_ge (pc := 29) N d8_29 (pc' := 40) (by decide) (fun qQ => absurd qQ (by decide)) (fun _ => ?_)
  refine k_getS (pc := 32) N d8_32 (hw _ (List.mem_of_getElem? (i := 75) rfl)) Via.refl SA fun T N => ?_
  refine k_iload_n (pc := 35) N d8_35 rfl ?_
  refine k_aaloadOld (pc := 36) N d8_36 AA rfl (by rw [A7]; decide) (v := .ref sn) AE ?_
  refine k_goto (pc := 37) N d8_37 (pc' := 41) (by decide) ?_
  exact k_areturn (pc := 41) N (t := (.object "java/lang/String")) rfl rfl d8_41 rfl (by decide) (by decide) ⟨rfl, rfl⟩
set_option maxRecDepth 65536 in
theorem ef_c_set2_1 (m : MethodId) (z0 : Addr) (z1 : Int32) : entryFrame m ([.ref z0, .int z1] : List Value).toArray 7 = mkF m 0 #[.val (.ref z0), .val (.int z1), .unset, .unset, .unset, .unset, .unset] [] := by first | (simp [entryFrame, mkF, argsToLocals, Value.category]; done) | rfl
def rm_c_set2_1 : Room := { frames := 1, cells := 0, slots := 0, locals := 14 }
set_option maxRecDepth 65536 in
set_option maxHeartbeats 40000000 in
theorem c_set2_1 (l : Launch) (Z : State) (a0 : Array Value) (hw : ∀ d ∈ tables_1, d.before a0 Z = true) (an sn : Addr) (ac : Cell) (SA : Sta Z Z.heap "com/example/tapflow/tapflow/MotionEvent" "ACTION_NAMES" "[Ljava/lang/String;" (.ref an)) (AA : Arr Z Z.heap an ac (.object "java/lang/String")) (A7 : ac.slots.size = 7) (AE : ac.slots[2]? = some (.ref sn)) (a lv b xa ya : Addr) (pl ac0 : Int32) (t : Int64) (kI : ClassId) (i0 : Int32) (rest : List Ent) :
    OMeets l (⟨"com/example/tapflow/tapflow/MotionEvent", "setAction", "(I)V"⟩ : MethodName) prog_5_method_8_code 7 none rm_c_set2_1 Z [.ref a, .int (2 : Int32)] ((oMe Z a (.ref lv) (.int pl) (.long t) (.ref b) (.ref xa) (.ref ya) (.int ac0) (.double (0 : UInt64)) (.double (0 : UInt64)) (.int (0 : Int32))) :: (oArr Z b kI .int [.int i0]) :: rest) (fun v K => v = none ∧ K = (oMe Z a (.ref lv) (.int pl) (.long t) (.ref b) (.ref xa) (.ref ya) (.int (2 : Int32)) (.double (0 : UInt64)) (.double (0 : UInt64)) (.int (0 : Int32))) :: (oArr Z b kI .int [.int i0]) :: rest) := by
  refine OMeets.of_body (plainFor_of_name pn_com_example_tapflow_tapflow_MotionEvent) #[.val (.ref a), .val (.int (2 : Int32)), .unset, .unset, .unset, .unset, .unset] (fun m => ef_c_set2_1 m a (2 : Int32)) fun pP eE sS mM bB hH cC T N => ?_
  refine k_iload_n (pc := 0) N d7_0 rfl ?_
  refine k_static (pc := 1) N (y := (⟨"com/example/tapflow/tapflow/MotionEvent", "name", "(I)Ljava/lang/String;"⟩ : MethodName)) (rest := []) [.int (2 : Int32)] d7_1 (hw _ (List.mem_of_getElem? (i := 71) rfl)) (hw _ (List.mem_of_getElem? (i := 72) rfl)) (hw _ (List.mem_of_getElem? (i := 21) rfl)) (hw _ (List.mem_of_getElem? (i := 73) rfl)) (by decide) pd__I_Ljava_lang_String_ rfl (c_name2 l Z a0 hw an sn ac SA AA A7 AE ((oMe Z a (.ref lv) (.int pl) (.long t) (.ref b) (.ref xa) (.ref ya) (.int ac0) (.double (0 : UInt64)) (.double (0 : UInt64)) (.int (0 : Int32))) :: (oArr Z b kI .int [.int i0]) :: rest)) rfl rfl 0 rfl (by decide) (by decide) (cells' := 0) rfl (slots' := 0) rfl (by decide) (by decide) fun T vV K' N qQ => ?_
  obtain ⟨rfl, rfl⟩ := qQ
  refine k_astore_n (pc := 4) N d7_4 rfl (Ls' := #[.val (.ref a), .val (.int (2 : Int32)), .val (.ref sn), .unset, .unset, .unset, .unset]) rfl ?_
  refine k_aload_n (pc := 5) N d7_5 rfl rfl ?_
  refine k_ifnonnull_yes (pc := 6) N d7_6 (pc' := 23) (by decide) ?_
  refine k_iload_n (pc := 23) N d7_23 rfl ?_
  refine k_sipush (pc := 24) N d7_24 (v := (255 : Int32)) (by decide) ?_
  refine k_iand (pc := 27) N d7_27 ?_
  refine k_istore_n (pc := 28) N d7_28 (Ls' := #[.val (.ref a), .val (.int (2 : Int32)), .val (.ref sn), .val (.int ((2 : Int32) &&& (255 : Int32))), .unset, .unset, .unset]) rfl ?_
  refine k_iload_n (pc := 29) N d7_29 rfl ?_
  refine k_ldcI (pc := 30) N d7_30 (hw _ (List.mem_of_getElem? (i := 77) rfl)) ?_
  refine k_iand (pc := 32) N d7_32 ?_
  refine k_bipush (pc := 33) N d7_33 (v := (8 : Int32)) (by decide) ?_
  refine k_ishr (pc := 35) N d7_35 ?_
  refine k_istore (pc := 36) N d7_36 (Ls' := #[.val (.ref a), .val (.int (2 : Int32)), .val (.ref sn), .val (.int ((2 : Int32) &&& (255 : Int32))), .val (.int (((2 : Int32) &&& (65280 : Int32)) >>> ((8 : Int32) &&& 31))), .unset, .unset]) rfl ?_
  refine k_aload_n (pc := 38) N d7_38 rfl rfl ?_
  refine k_get (pc := 39) (host := "") N 0 3 d7_39 (Or.inl (hw _ (List.mem_of_getElem? (i := 54) rfl))) Via.refl rfl rfl fun T N => ?_
  refine k_arraylength (pc := 42) N 1 d7_42 rfl (z := (1 : Int32)) rfl ?_
  refine k_istore (pc := 43) N d7_43 (Ls' := #[.val (.ref a), .val (.int (2 : Int32)), .val (.ref sn), .val (.int ((2 : Int32) &&& (255 : Int32))), .val (.int (((2 : Int32) &&& (65280 : Int32)) >>> ((8 : Int32) &&& 31))), .val (.int (1 : Int32)), .unset]) rfl ?_
  refine k_iload_n (pc := 45) N d7_45 rfl ?_
  refine k_static (pc := 46) N (y := (⟨"com/example/tapflow/tapflow/MotionEvent", "isPointerAction", "(I)Z"⟩ : MethodName)) (rest := []) [.int ((2 : Int32) &&& (255 : Int32))] d7_46 (hw _ (List.mem_of_getElem? (i := 78) rfl)) (hw _ (List.mem_of_getElem? (i := 79) rfl)) (hw _ (List.mem_of_getElem? (i := 21) rfl)) (hw _ (List.mem_of_getElem? (i := 80) rfl)) (by decide) pd__I_Z rfl (c_ptr2 l Z a0 hw ((2 : Int32) &&& (255 : Int32)) (by decide) ((oMe Z a (.ref lv) (.int pl) (.long t) (.ref b) (.ref xa) (.ref ya) (.int ac0) (.double (0 : UInt64)) (.double (0 : UInt64)) (.int (0 : Int32))) :: (oArr Z b kI .int [.int i0]) :: rest)) rfl rfl 0 rfl (by decide) (by decide) (cells' := 0) rfl (slots' := 0) rfl (by decide) (by decide) fun T vV K' N qQ => ?_
  obtain ⟨rfl, rfl⟩ := qQ
  refine k_if_eq (pc := 49) N d7_49 (pc' := 73) (by decide) (fun _ => ?_) (fun qQ => absurd qQ (by decide))
  refine k_iload (pc := 73) N d7_73 rfl ?_
  refine k_if_ne (pc := 75) N d7_75 (pc' := 98) (by decide) (fun qQ => absurd qQ (by decide)) (fun _ => ?_)
  refine k_iload (pc := 78) N d7_78 rfl ?_
  refine k_iconst (pc := 80) N d7_80 (v := (1 : Int32)) (by decide) ?_
  refine k_icmp_eq (pc := 81) N d7_81 (pc' := 94) (by decide) (fun _ => ?_) (fun qQ => absurd qQ (by decide))
  refine k_iconst (pc := 94) N d7_94 (v := (1 : Int32)) (by decide) ?_
  refine k_goto (pc := 95) N d7_95 (pc' := 99) (by decide) ?_
  refine k_istore (pc := 99) N d7_99 (Ls' := #[.val (.ref a), .val (.int (2 : Int32)), .val (.ref sn), .val (.int ((2 : Int32) &&& (255 : Int32))), .val (.int (((2 : Int32) &&& (65280 : Int32)) >>> ((8 : Int32) &&& 31))), .val (.int (1 : Int32)), .val (.int (1 : Int32))]) rfl ?_
  refine k_iload (pc := 101) N d7_101 rfl ?_
  refine k_if_ne (pc := 103) N d7_103 (pc' := 124) (by decide) (fun _ => ?_) (fun qQ => absurd qQ (by decide))
  refine k_aload_n (pc := 124) N d7_124 rfl rfl ?_
  refine k_iload_n (pc := 125) N d7_125 rfl ?_
  refine k_put (pc := 126) (host := "") N 0 6 d7_126 (Or.inl (hw _ (List.mem_of_getElem? (i := 81) rfl))) Via.refl rfl rfl (Or.inl (hw _ (List.mem_of_getElem? (i := 82) rfl))) (hw _ (List.mem_of_getElem? (i := 20) rfl)) (ty := .int) (by decide) rfl rfl (K' := ((oMe Z a (.ref lv) (.int pl) (.long t) (.ref b) (.ref xa) (.ref ya) (.int (2 : Int32)) (.double (0 : UInt64)) (.double (0 : UInt64)) (.int (0 : Int32))) :: (oArr Z b kI .int [.int i0]) :: rest)) rfl fun T N => ?_
  exact k_return (pc := 129) N d7_129 rfl (by decide) (by decide) ⟨rfl, rfl⟩
set_option maxRecDepth 65536 in
theorem ef_c_set2_2 (m : MethodId) (z0 : Addr) (z1 : Int32) : entryFrame m ([.ref z0, .int z1] : List Value).toArray 7 = mkF m 0 #[.val (.ref z0), .val (.int z1), .unset, .unset, .unset, .unset, .unset] [] := by first | (simp [entryFrame, mkF, argsToLocals, Value.category]; done) | rfl
def rm_c_set2_2 : Room := { frames := 1, cells := 0, slots := 0, locals := 14 }
set_option maxRecDepth 65536 in
set_option maxHeartbeats 40000000 in
theorem c_set2_2 (l : Launch) (Z : State) (a0 : Array Value) (hw : ∀ d ∈ tables_1, d.before a0 Z = true) (an sn : Addr) (ac : Cell) (SA : Sta Z Z.heap "com/example/tapflow/tapflow/MotionEvent" "ACTION_NAMES" "[Ljava/lang/String;" (.ref an)) (AA : Arr Z Z.heap an ac (.object "java/lang/String")) (A7 : ac.slots.size = 7) (AE : ac.slots[2]? = some (.ref sn)) (a lv b xa ya : Addr) (pl ac0 : Int32) (t : Int64) (kI : ClassId) (i0 i1 : Int32) (rest : List Ent) :
    OMeets l (⟨"com/example/tapflow/tapflow/MotionEvent", "setAction", "(I)V"⟩ : MethodName) prog_5_method_8_code 7 none rm_c_set2_2 Z [.ref a, .int (2 : Int32)] ((oMe Z a (.ref lv) (.int pl) (.long t) (.ref b) (.ref xa) (.ref ya) (.int ac0) (.double (0 : UInt64)) (.double (0 : UInt64)) (.int (0 : Int32))) :: (oArr Z b kI .int [.int i0, .int i1]) :: rest) (fun v K => v = none ∧ K = (oMe Z a (.ref lv) (.int pl) (.long t) (.ref b) (.ref xa) (.ref ya) (.int (2 : Int32)) (.double (0 : UInt64)) (.double (0 : UInt64)) (.int (0 : Int32))) :: (oArr Z b kI .int [.int i0, .int i1]) :: rest) := by
  refine OMeets.of_body (plainFor_of_name pn_com_example_tapflow_tapflow_MotionEvent) #[.val (.ref a), .val (.int (2 : Int32)), .unset, .unset, .unset, .unset, .unset] (fun m => ef_c_set2_2 m a (2 : Int32)) fun pP eE sS mM bB hH cC T N => ?_
  refine k_iload_n (pc := 0) N d7_0 rfl ?_
  refine k_static (pc := 1) N (y := (⟨"com/example/tapflow/tapflow/MotionEvent", "name", "(I)Ljava/lang/String;"⟩ : MethodName)) (rest := []) [.int (2 : Int32)] d7_1 (hw _ (List.mem_of_getElem? (i := 71) rfl)) (hw _ (List.mem_of_getElem? (i := 72) rfl)) (hw _ (List.mem_of_getElem? (i := 21) rfl)) (hw _ (List.mem_of_getElem? (i := 73) rfl)) (by decide) pd__I_Ljava_lang_String_ rfl (c_name2 l Z a0 hw an sn ac SA AA A7 AE ((oMe Z a (.ref lv) (.int pl) (.long t) (.ref b) (.ref xa) (.ref ya) (.int ac0) (.double (0 : UInt64)) (.double (0 : UInt64)) (.int (0 : Int32))) :: (oArr Z b kI .int [.int i0, .int i1]) :: rest)) rfl rfl 0 rfl (by decide) (by decide) (cells' := 0) rfl (slots' := 0) rfl (by decide) (by decide) fun T vV K' N qQ => ?_
  obtain ⟨rfl, rfl⟩ := qQ
  refine k_astore_n (pc := 4) N d7_4 rfl (Ls' := #[.val (.ref a), .val (.int (2 : Int32)), .val (.ref sn), .unset, .unset, .unset, .unset]) rfl ?_
  refine k_aload_n (pc := 5) N d7_5 rfl rfl ?_
  refine k_ifnonnull_yes (pc := 6) N d7_6 (pc' := 23) (by decide) ?_
  refine k_iload_n (pc := 23) N d7_23 rfl ?_
  refine k_sipush (pc := 24) N d7_24 (v := (255 : Int32)) (by decide) ?_
  refine k_iand (pc := 27) N d7_27 ?_
  refine k_istore_n (pc := 28) N d7_28 (Ls' := #[.val (.ref a), .val (.int (2 : Int32)), .val (.ref sn), .val (.int ((2 : Int32) &&& (255 : Int32))), .unset, .unset, .unset]) rfl ?_
  refine k_iload_n (pc := 29) N d7_29 rfl ?_
  refine k_ldcI (pc := 30) N d7_30 (hw _ (List.mem_of_getElem? (i := 77) rfl)) ?_
  refine k_iand (pc := 32) N d7_32 ?_
  refine k_bipush (pc := 33) N d7_33 (v := (8 : Int32)) (by decide) ?_
  refine k_ishr (pc := 35) N d7_35 ?_
  refine k_istore (pc := 36) N d7_36 (Ls' := #[.val (.ref a), .val (.int (2 : Int32)), .val (.ref sn), .val (.int ((2 : Int32) &&& (255 : Int32))), .val (.int (((2 : Int32) &&& (65280 : Int32)) >>> ((8 : Int32) &&& 31))), .unset, .unset]) rfl ?_
  refine k_aload_n (pc := 38) N d7_38 rfl rfl ?_
  refine k_get (pc := 39) (host := "") N 0 3 d7_39 (Or.inl (hw _ (List.mem_of_getElem? (i := 54) rfl))) Via.refl rfl rfl fun T N => ?_
  refine k_arraylength (pc := 42) N 1 d7_42 rfl (z := (2 : Int32)) rfl ?_
  refine k_istore (pc := 43) N d7_43 (Ls' := #[.val (.ref a), .val (.int (2 : Int32)), .val (.ref sn), .val (.int ((2 : Int32) &&& (255 : Int32))), .val (.int (((2 : Int32) &&& (65280 : Int32)) >>> ((8 : Int32) &&& 31))), .val (.int (2 : Int32)), .unset]) rfl ?_
  refine k_iload_n (pc := 45) N d7_45 rfl ?_
  refine k_static (pc := 46) N (y := (⟨"com/example/tapflow/tapflow/MotionEvent", "isPointerAction", "(I)Z"⟩ : MethodName)) (rest := []) [.int ((2 : Int32) &&& (255 : Int32))] d7_46 (hw _ (List.mem_of_getElem? (i := 78) rfl)) (hw _ (List.mem_of_getElem? (i := 79) rfl)) (hw _ (List.mem_of_getElem? (i := 21) rfl)) (hw _ (List.mem_of_getElem? (i := 80) rfl)) (by decide) pd__I_Z rfl (c_ptr2 l Z a0 hw ((2 : Int32) &&& (255 : Int32)) (by decide) ((oMe Z a (.ref lv) (.int pl) (.long t) (.ref b) (.ref xa) (.ref ya) (.int ac0) (.double (0 : UInt64)) (.double (0 : UInt64)) (.int (0 : Int32))) :: (oArr Z b kI .int [.int i0, .int i1]) :: rest)) rfl rfl 0 rfl (by decide) (by decide) (cells' := 0) rfl (slots' := 0) rfl (by decide) (by decide) fun T vV K' N qQ => ?_
  obtain ⟨rfl, rfl⟩ := qQ
  refine k_if_eq (pc := 49) N d7_49 (pc' := 73) (by decide) (fun _ => ?_) (fun qQ => absurd qQ (by decide))
  refine k_iload (pc := 73) N d7_73 rfl ?_
  refine k_if_ne (pc := 75) N d7_75 (pc' := 98) (by decide) (fun qQ => absurd qQ (by decide)) (fun _ => ?_)
  refine k_iload (pc := 78) N d7_78 rfl ?_
  refine k_iconst (pc := 80) N d7_80 (v := (1 : Int32)) (by decide) ?_
  refine k_icmp_eq (pc := 81) N d7_81 (pc' := 94) (by decide) (fun qQ => absurd qQ (by decide)) (fun _ => ?_)
  refine k_iload_n (pc := 84) N d7_84 rfl ?_
  refine k_iconst (pc := 85) N d7_85 (v := (2 : Int32)) (by decide) ?_
  refine k_icmp_eq (pc := 86) N d7_86 (pc' := 94) (by decide) (fun _ => ?_) (fun qQ => absurd qQ (by decide))
  refine k_iconst (pc := 94) N d7_94 (v := (1 : Int32)) (by decide) ?_
  refine k_goto (pc := 95) N d7_95 (pc' := 99) (by decide) ?_
  refine k_istore (pc := 99) N d7_99 (Ls' := #[.val (.ref a), .val (.int (2 : Int32)), .val (.ref sn), .val (.int ((2 : Int32) &&& (255 : Int32))), .val (.int (((2 : Int32) &&& (65280 : Int32)) >>> ((8 : Int32) &&& 31))), .val (.int (2 : Int32)), .val (.int (1 : Int32))]) rfl ?_
  refine k_iload (pc := 101) N d7_101 rfl ?_
  refine k_if_ne (pc := 103) N d7_103 (pc' := 124) (by decide) (fun _ => ?_) (fun qQ => absurd qQ (by decide))
  refine k_aload_n (pc := 124) N d7_124 rfl rfl ?_
  refine k_iload_n (pc := 125) N d7_125 rfl ?_
  refine k_put (pc := 126) (host := "") N 0 6 d7_126 (Or.inl (hw _ (List.mem_of_getElem? (i := 81) rfl))) Via.refl rfl rfl (Or.inl (hw _ (List.mem_of_getElem? (i := 82) rfl))) (hw _ (List.mem_of_getElem? (i := 20) rfl)) (ty := .int) (by decide) rfl rfl (K' := ((oMe Z a (.ref lv) (.int pl) (.long t) (.ref b) (.ref xa) (.ref ya) (.int (2 : Int32)) (.double (0 : UInt64)) (.double (0 : UInt64)) (.int (0 : Int32))) :: (oArr Z b kI .int [.int i0, .int i1]) :: rest)) rfl fun T N => ?_
  exact k_return (pc := 129) N d7_129 rfl (by decide) (by decide) ⟨rfl, rfl⟩
set_option maxRecDepth 65536 in
theorem ef_c_set2_3 (m : MethodId) (z0 : Addr) (z1 : Int32) : entryFrame m ([.ref z0, .int z1] : List Value).toArray 7 = mkF m 0 #[.val (.ref z0), .val (.int z1), .unset, .unset, .unset, .unset, .unset] [] := by first | (simp [entryFrame, mkF, argsToLocals, Value.category]; done) | rfl
def rm_c_set2_3 : Room := { frames := 1, cells := 0, slots := 0, locals := 14 }
set_option maxRecDepth 65536 in
set_option maxHeartbeats 40000000 in
theorem c_set2_3 (l : Launch) (Z : State) (a0 : Array Value) (hw : ∀ d ∈ tables_1, d.before a0 Z = true) (an sn : Addr) (ac : Cell) (SA : Sta Z Z.heap "com/example/tapflow/tapflow/MotionEvent" "ACTION_NAMES" "[Ljava/lang/String;" (.ref an)) (AA : Arr Z Z.heap an ac (.object "java/lang/String")) (A7 : ac.slots.size = 7) (AE : ac.slots[2]? = some (.ref sn)) (a lv b xa ya : Addr) (pl ac0 : Int32) (t : Int64) (kI : ClassId) (i0 i1 i2 : Int32) (rest : List Ent) :
    OMeets l (⟨"com/example/tapflow/tapflow/MotionEvent", "setAction", "(I)V"⟩ : MethodName) prog_5_method_8_code 7 none rm_c_set2_3 Z [.ref a, .int (2 : Int32)] ((oMe Z a (.ref lv) (.int pl) (.long t) (.ref b) (.ref xa) (.ref ya) (.int ac0) (.double (0 : UInt64)) (.double (0 : UInt64)) (.int (0 : Int32))) :: (oArr Z b kI .int [.int i0, .int i1, .int i2]) :: rest) (fun v K => v = none ∧ K = (oMe Z a (.ref lv) (.int pl) (.long t) (.ref b) (.ref xa) (.ref ya) (.int (2 : Int32)) (.double (0 : UInt64)) (.double (0 : UInt64)) (.int (0 : Int32))) :: (oArr Z b kI .int [.int i0, .int i1, .int i2]) :: rest) := by
  refine OMeets.of_body (plainFor_of_name pn_com_example_tapflow_tapflow_MotionEvent) #[.val (.ref a), .val (.int (2 : Int32)), .unset, .unset, .unset, .unset, .unset] (fun m => ef_c_set2_3 m a (2 : Int32)) fun pP eE sS mM bB hH cC T N => ?_
  refine k_iload_n (pc := 0) N d7_0 rfl ?_
  refine k_static (pc := 1) N (y := (⟨"com/example/tapflow/tapflow/MotionEvent", "name", "(I)Ljava/lang/String;"⟩ : MethodName)) (rest := []) [.int (2 : Int32)] d7_1 (hw _ (List.mem_of_getElem? (i := 71) rfl)) (hw _ (List.mem_of_getElem? (i := 72) rfl)) (hw _ (List.mem_of_getElem? (i := 21) rfl)) (hw _ (List.mem_of_getElem? (i := 73) rfl)) (by decide) pd__I_Ljava_lang_String_ rfl (c_name2 l Z a0 hw an sn ac SA AA A7 AE ((oMe Z a (.ref lv) (.int pl) (.long t) (.ref b) (.ref xa) (.ref ya) (.int ac0) (.double (0 : UInt64)) (.double (0 : UInt64)) (.int (0 : Int32))) :: (oArr Z b kI .int [.int i0, .int i1, .int i2]) :: rest)) rfl rfl 0 rfl (by decide) (by decide) (cells' := 0) rfl (slots' := 0) rfl (by decide) (by decide) fun T vV K' N qQ => ?_
  obtain ⟨rfl, rfl⟩ := qQ
  refine k_astore_n (pc := 4) N d7_4 rfl (Ls' := #[.val (.ref a), .val (.int (2 : Int32)), .val (.ref sn), .unset, .unset, .unset, .unset]) rfl ?_
  refine k_aload_n (pc := 5) N d7_5 rfl rfl ?_
  refine k_ifnonnull_yes (pc := 6) N d7_6 (pc' := 23) (by decide) ?_
  refine k_iload_n (pc := 23) N d7_23 rfl ?_
  refine k_sipush (pc := 24) N d7_24 (v := (255 : Int32)) (by decide) ?_
  refine k_iand (pc := 27) N d7_27 ?_
  refine k_istore_n (pc := 28) N d7_28 (Ls' := #[.val (.ref a), .val (.int (2 : Int32)), .val (.ref sn), .val (.int ((2 : Int32) &&& (255 : Int32))), .unset, .unset, .unset]) rfl ?_
  refine k_iload_n (pc := 29) N d7_29 rfl ?_
  refine k_ldcI (pc := 30) N d7_30 (hw _ (List.mem_of_getElem? (i := 77) rfl)) ?_
  refine k_iand (pc := 32) N d7_32 ?_
  refine k_bipush (pc := 33) N d7_33 (v := (8 : Int32)) (by decide) ?_
  refine k_ishr (pc := 35) N d7_35 ?_
  refine k_istore (pc := 36) N d7_36 (Ls' := #[.val (.ref a), .val (.int (2 : Int32)), .val (.ref sn), .val (.int ((2 : Int32) &&& (255 : Int32))), .val (.int (((2 : Int32) &&& (65280 : Int32)) >>> ((8 : Int32) &&& 31))), .unset, .unset]) rfl ?_
  refine k_aload_n (pc := 38) N d7_38 rfl rfl ?_
  refine k_get (pc := 39) (host := "") N 0 3 d7_39 (Or.inl (hw _ (List.mem_of_getElem? (i := 54) rfl))) Via.refl rfl rfl fun T N => ?_
  refine k_arraylength (pc := 42) N 1 d7_42 rfl (z := (3 : Int32)) rfl ?_
  refine k_istore (pc := 43) N d7_43 (Ls' := #[.val (.ref a), .val (.int (2 : Int32)), .val (.ref sn), .val (.int ((2 : Int32) &&& (255 : Int32))), .val (.int (((2 : Int32) &&& (65280 : Int32)) >>> ((8 : Int32) &&& 31))), .val (.int (3 : Int32)), .unset]) rfl ?_
  refine k_iload_n (pc := 45) N d7_45 rfl ?_
  refine k_static (pc := 46) N (y := (⟨"com/example/tapflow/tapflow/MotionEvent", "isPointerAction", "(I)Z"⟩ : MethodName)) (rest := []) [.int ((2 : Int32) &&& (255 : Int32))] d7_46 (hw _ (List.mem_of_getElem? (i := 78) rfl)) (hw _ (List.mem_of_getElem? (i := 79) rfl)) (hw _ (List.mem_of_getElem? (i := 21) rfl)) (hw _ (List.mem_of_getElem? (i := 80) rfl)) (by decide) pd__I_Z rfl (c_ptr2 l Z a0 hw ((2 : Int32) &&& (255 : Int32)) (by decide) ((oMe Z a (.ref lv) (.int pl) (.long t) (.ref b) (.ref xa) (.ref ya) (.int ac0) (.double (0 : UInt64)) (.double (0 : UInt64)) (.int (0 : Int32))) :: (oArr Z b kI .int [.int i0, .int i1, .int i2]) :: rest)) rfl rfl 0 rfl (by decide) (by decide) (cells' := 0) rfl (slots' := 0) rfl (by decide) (by decide) fun T vV K' N qQ => ?_
  obtain ⟨rfl, rfl⟩ := qQ
  refine k_if_eq (pc := 49) N d7_49 (pc' := 73) (by decide) (fun _ => ?_) (fun qQ => absurd qQ (by decide))
  refine k_iload (pc := 73) N d7_73 rfl ?_
  refine k_if_ne (pc := 75) N d7_75 (pc' := 98) (by decide) (fun qQ => absurd qQ (by decide)) (fun _ => ?_)
  refine k_iload (pc := 78) N d7_78 rfl ?_
  refine k_iconst (pc := 80) N d7_80 (v := (1 : Int32)) (by decide) ?_
  refine k_icmp_eq (pc := 81) N d7_81 (pc' := 94) (by decide) (fun qQ => absurd qQ (by decide)) (fun _ => ?_)
  refine k_iload_n (pc := 84) N d7_84 rfl ?_
  refine k_iconst (pc := 85) N d7_85 (v := (2 : Int32)) (by decide) ?_
  refine k_icmp_eq (pc := 86) N d7_86 (pc' := 94) (by decide) (fun _ => ?_) (fun qQ => absurd qQ (by decide))
  refine k_iconst (pc := 94) N d7_94 (v := (1 : Int32)) (by decide) ?_
  refine k_goto (pc := 95) N d7_95 (pc' := 99) (by decide) ?_
  refine k_istore (pc := 99) N d7_99 (Ls' := #[.val (.ref a), .val (.int (2 : Int32)), .val (.ref sn), .val (.int ((2 : Int32) &&& (255 : Int32))), .val (.int (((2 : Int32) &&& (65280 : Int32)) >>> ((8 : Int32) &&& 31))), .val (.int (3 : Int32)), .val (.int (1 : Int32))]) rfl ?_
  refine k_iload (pc := 101) N d7_101 rfl ?_
  refine k_if_ne (pc := 103) N d7_103 (pc' := 124) (by decide) (fun _ => ?_) (fun qQ => absurd qQ (by decide))
  refine k_aload_n (pc := 124) N d7_124 rfl rfl ?_
  refine k_iload_n (pc := 125) N d7_125 rfl ?_
  refine k_put (pc := 126) (host := "") N 0 6 d7_126 (Or.inl (hw _ (List.mem_of_getElem? (i := 81) rfl))) Via.refl rfl rfl (Or.inl (hw _ (List.mem_of_getElem? (i := 82) rfl))) (hw _ (List.mem_of_getElem? (i := 20) rfl)) (ty := .int) (by decide) rfl rfl (K' := ((oMe Z a (.ref lv) (.int pl) (.long t) (.ref b) (.ref xa) (.ref ya) (.int (2 : Int32)) (.double (0 : UInt64)) (.double (0 : UInt64)) (.int (0 : Int32))) :: (oArr Z b kI .int [.int i0, .int i1, .int i2]) :: rest)) rfl fun T N => ?_
  exact k_return (pc := 129) N d7_129 rfl (by decide) (by decide) ⟨rfl, rfl⟩
set_option maxRecDepth 65536 in
theorem ef_c_set2_4 (m : MethodId) (z0 : Addr) (z1 : Int32) : entryFrame m ([.ref z0, .int z1] : List Value).toArray 7 = mkF m 0 #[.val (.ref z0), .val (.int z1), .unset, .unset, .unset, .unset, .unset] [] := by first | (simp [entryFrame, mkF, argsToLocals, Value.category]; done) | rfl
def rm_c_set2_4 : Room := { frames := 1, cells := 0, slots := 0, locals := 14 }
set_option maxRecDepth 65536 in
set_option maxHeartbeats 40000000 in
theorem c_set2_4 (l : Launch) (Z : State) (a0 : Array Value) (hw : ∀ d ∈ tables_1, d.before a0 Z = true) (an sn : Addr) (ac : Cell) (SA : Sta Z Z.heap "com/example/tapflow/tapflow/MotionEvent" "ACTION_NAMES" "[Ljava/lang/String;" (.ref an)) (AA : Arr Z Z.heap an ac (.object "java/lang/String")) (A7 : ac.slots.size = 7) (AE : ac.slots[2]? = some (.ref sn)) (a lv b xa ya : Addr) (pl ac0 : Int32) (t : Int64) (kI : ClassId) (i0 i1 i2 i3 : Int32) (rest : List Ent) :
    OMeets l (⟨"com/example/tapflow/tapflow/MotionEvent", "setAction", "(I)V"⟩ : MethodName) prog_5_method_8_code 7 none rm_c_set2_4 Z [.ref a, .int (2 : Int32)] ((oMe Z a (.ref lv) (.int pl) (.long t) (.ref b) (.ref xa) (.ref ya) (.int ac0) (.double (0 : UInt64)) (.double (0 : UInt64)) (.int (0 : Int32))) :: (oArr Z b kI .int [.int i0, .int i1, .int i2, .int i3]) :: rest) (fun v K => v = none ∧ K = (oMe Z a (.ref lv) (.int pl) (.long t) (.ref b) (.ref xa) (.ref ya) (.int (2 : Int32)) (.double (0 : UInt64)) (.double (0 : UInt64)) (.int (0 : Int32))) :: (oArr Z b kI .int [.int i0, .int i1, .int i2, .int i3]) :: rest) := by
  refine OMeets.of_body (plainFor_of_name pn_com_example_tapflow_tapflow_MotionEvent) #[.val (.ref a), .val (.int (2 : Int32)), .unset, .unset, .unset, .unset, .unset] (fun m => ef_c_set2_4 m a (2 : Int32)) fun pP eE sS mM bB hH cC T N => ?_
  refine k_iload_n (pc := 0) N d7_0 rfl ?_
  refine k_static (pc := 1) N (y := (⟨"com/example/tapflow/tapflow/MotionEvent", "name", "(I)Ljava/lang/String;"⟩ : MethodName)) (rest := []) [.int (2 : Int32)] d7_1 (hw _ (List.mem_of_getElem? (i := 71) rfl)) (hw _ (List.mem_of_getElem? (i := 72) rfl)) (hw _ (List.mem_of_getElem? (i := 21) rfl)) (hw _ (List.mem_of_getElem? (i := 73) rfl)) (by decide) pd__I_Ljava_lang_String_ rfl (c_name2 l Z a0 hw an sn ac SA AA A7 AE ((oMe Z a (.ref lv) (.int pl) (.long t) (.ref b) (.ref xa) (.ref ya) (.int ac0) (.double (0 : UInt64)) (.double (0 : UInt64)) (.int (0 : Int32))) :: (oArr Z b kI .int [.int i0, .int i1, .int i2, .int i3]) :: rest)) rfl rfl 0 rfl (by decide) (by decide) (cells' := 0) rfl (slots' := 0) rfl (by decide) (by decide) fun T vV K' N qQ => ?_
  obtain ⟨rfl, rfl⟩ := qQ
  refine k_astore_n (pc := 4) N d7_4 rfl (Ls' := #[.val (.ref a), .val (.int (2 : Int32)), .val (.ref sn), .unset, .unset, .unset, .unset]) rfl ?_
  refine k_aload_n (pc := 5) N d7_5 rfl rfl ?_
  refine k_ifnonnull_yes (pc := 6) N d7_6 (pc' := 23) (by decide) ?_
  refine k_iload_n (pc := 23) N d7_23 rfl ?_
  refine k_sipush (pc := 24) N d7_24 (v := (255 : Int32)) (by decide) ?_
  refine k_iand (pc := 27) N d7_27 ?_
  refine k_istore_n (pc := 28) N d7_28 (Ls' := #[.val (.ref a), .val (.int (2 : Int32)), .val (.ref sn), .val (.int ((2 : Int32) &&& (255 : Int32))), .unset, .unset, .unset]) rfl ?_
  refine k_iload_n (pc := 29) N d7_29 rfl ?_
  refine k_ldcI (pc := 30) N d7_30 (hw _ (List.mem_of_getElem? (i := 77) rfl)) ?_
  refine k_iand (pc := 32) N d7_32 ?_
  refine k_bipush (pc := 33) N d7_33 (v := (8 : Int32)) (by decide) ?_
  refine k_ishr (pc := 35) N d7_35 ?_
  refine k_istore (pc := 36) N d7_36 (Ls' := #[.val (.ref a), .val (.int (2 : Int32)), .val (.ref sn), .val (.int ((2 : Int32) &&& (255 : Int32))), .val (.int (((2 : Int32) &&& (65280 : Int32)) >>> ((8 : Int32) &&& 31))), .unset, .unset]) rfl ?_
  refine k_aload_n (pc := 38) N d7_38 rfl rfl ?_
  refine k_get (pc := 39) (host := "") N 0 3 d7_39 (Or.inl (hw _ (List.mem_of_getElem? (i := 54) rfl))) Via.refl rfl rfl fun T N => ?_
  refine k_arraylength (pc := 42) N 1 d7_42 rfl (z := (4 : Int32)) rfl ?_
  refine k_istore (pc := 43) N d7_43 (Ls' := #[.val (.ref a), .val (.int (2 : Int32)), .val (.ref sn), .val (.int ((2 : Int32) &&& (255 : Int32))), .val (.int (((2 : Int32) &&& (65280 : Int32)) >>> ((8 : Int32) &&& 31))), .val (.int (4 : Int32)), .unset]) rfl ?_
  refine k_iload_n (pc := 45) N d7_45 rfl ?_
  refine k_static (pc := 46) N (y := (⟨"com/example/tapflow/tapflow/MotionEvent", "isPointerAction", "(I)Z"⟩ : MethodName)) (rest := []) [.int ((2 : Int32) &&& (255 : Int32))] d7_46 (hw _ (List.mem_of_getElem? (i := 78) rfl)) (hw _ (List.mem_of_getElem? (i := 79) rfl)) (hw _ (List.mem_of_getElem? (i := 21) rfl)) (hw _ (List.mem_of_getElem? (i := 80) rfl)) (by decide) pd__I_Z rfl (c_ptr2 l Z a0 hw ((2 : Int32) &&& (255 : Int32)) (by decide) ((oMe Z a (.ref lv) (.int pl) (.long t) (.ref b) (.ref xa) (.ref ya) (.int ac0) (.double (0 : UInt64)) (.double (0 : UInt64)) (.int (0 : Int32))) :: (oArr Z b kI .int [.int i0, .int i1, .int i2, .int i3]) :: rest)) rfl rfl 0 rfl (by decide) (by decide) (cells' := 0) rfl (slots' := 0) rfl (by decide) (by decide) fun T vV K' N qQ => ?_
  obtain ⟨rfl, rfl⟩ := qQ
  refine k_if_eq (pc := 49) N d7_49 (pc' := 73) (by decide) (fun _ => ?_) (fun qQ => absurd qQ (by decide))
  refine k_iload (pc := 73) N d7_73 rfl ?_
  refine k_if_ne (pc := 75) N d7_75 (pc' := 98) (by decide) (fun qQ => absurd qQ (by decide)) (fun _ => ?_)
  refine k_iload (pc := 78) N d7_78 rfl ?_
  refine k_iconst (pc := 80) N d7_80 (v := (1 : Int32)) (by decide) ?_
  refine k_icmp_eq (pc := 81) N d7_81 (pc' := 94) (by decide) (fun qQ => absurd qQ (by decide)) (fun _ => ?_)
  refine k_iload_n (pc := 84) N d7_84 rfl ?_
  refine k_iconst (pc := 85) N d7_85 (v := (2 : Int32)) (by decide) ?_
  refine k_icmp_eq (pc := 86) N d7_86 (pc' := 94) (by decide) (fun _ => ?_) (fun qQ => absurd qQ (by decide))
  refine k_iconst (pc := 94) N d7_94 (v := (1 : Int32)) (by decide) ?_
  refine k_goto (pc := 95) N d7_95 (pc' := 99) (by decide) ?_
  refine k_istore (pc := 99) N d7_99 (Ls' := #[.val (.ref a), .val (.int (2 : Int32)), .val (.ref sn), .val (.int ((2 : Int32) &&& (255 : Int32))), .val (.int (((2 : Int32) &&& (65280 : Int32)) >>> ((8 : Int32) &&& 31))), .val (.int (4 : Int32)), .val (.int (1 : Int32))]) rfl ?_
  refine k_iload (pc := 101) N d7_101 rfl ?_
  refine k_if_ne (pc := 103) N d7_103 (pc' := 124) (by decide) (fun _ => ?_) (fun qQ => absurd qQ (by decide))
  refine k_aload_n (pc := 124) N d7_124 rfl rfl ?_
  refine k_iload_n (pc := 125) N d7_125 rfl ?_
  refine k_put (pc := 126) (host := "") N 0 6 d7_126 (Or.inl (hw _ (List.mem_of_getElem? (i := 81) rfl))) Via.refl rfl rfl (Or.inl (hw _ (List.mem_of_getElem? (i := 82) rfl))) (hw _ (List.mem_of_getElem? (i := 20) rfl)) (ty := .int) (by decide) rfl rfl (K' := ((oMe Z a (.ref lv) (.int pl) (.long t) (.ref b) (.ref xa) (.ref ya) (.int (2 : Int32)) (.double (0 : UInt64)) (.double (0 : UInt64)) (.int (0 : Int32))) :: (oArr Z b kI .int [.int i0, .int i1, .int i2, .int i3]) :: rest)) rfl fun T N => ?_
  exact k_return (pc := 129) N d7_129 rfl (by decide) (by decide) ⟨rfl, rfl⟩
set_option maxRecDepth 65536 in
theorem ef_c_init2_2 (m : MethodId) (z0 : Addr) (z1 : Int64) (z2 : Int32) (z3 : Addr) (z4 : Addr) (z5 : Addr) : entryFrame m ([.ref z0, .long z1, .int z2, .ref z3, .ref z4, .ref z5] : List Value).toArray 9 = mkF m 0 #[.val (.ref z0), .val (.long z1), .second, .val (.int z2), .val (.ref z3), .val (.ref z4), .val (.ref z5), .unset, .unset] [] := by first | (simp [entryFrame, mkF, argsToLocals, Value.category]; done) | rfl
def rm_c_init2_2 : Room := { frames := 2, cells := 3, slots := 6, locals := 32 }
set_option maxRecDepth 65536 in
set_option maxHeartbeats 40000000 in
theorem c_init2_2 (l : Launch) (Z : State) (a0 : Array Value) (hw : ∀ d ∈ tables_1, d.before a0 Z = true) (an sn : Addr) (ac : Cell) (SA : Sta Z Z.heap "com/example/tapflow/tapflow/MotionEvent" "ACTION_NAMES" "[Ljava/lang/String;" (.ref an)) (AA : Arr Z Z.heap an ac (.object "java/lang/String")) (A7 : ac.slots.size = 7) (AE : ac.slots[2]? = some (.ref sn)) (lv : Addr) (SL : Sta Z Z.heap "com/example/tapflow/tapflow/MotionEvent" "NO_LEVELS" "[D" (.ref lv)) (a b xa ya : Addr) (t : Int64) (kI kD : ClassId) (hkI : Z.vm.findClass "[I" = some kI) (hkD : Z.vm.findClass "[D" = some kD) (i0 i1 : Int32) (x0 x1 y0 y1 : UInt64) (g0 : ¬ i0 < 0) (u0 : ¬ (31 : Int32) < i0) (g1 : ¬ i1 < 0) (u1 : ¬ (31 : Int32) < i1) (m1 : i0 < i1) (hx0 : Crd x0) (hy0 : Crd y0) (hx1 : Crd x1) (hy1 : Crd y1) (rest : List Ent) :
    OMeets l (⟨"com/example/tapflow/tapflow/MotionEvent", "<init>", "(JI[I[D[D)V"⟩ : MethodName) prog_5_method_2_code 9 none rm_c_init2_2 Z [.ref a, .long t, .int (2 : Int32), .ref b, .ref xa, .ref ya] ((oMe Z a .null (.int (0 : Int32)) (.long (0 : Int64)) .null .null .null (.int (0 : Int32)) (.double (0 : UInt64)) (.double (0 : UInt64)) (.int (0 : Int32))) :: (oArr Z b kI .int [.int i0, .int i1]) :: (oArr Z xa kD .double [.double x0, .double x1]) :: (oArr Z ya kD .double [.double y0, .double y1]) :: rest) (fun v K => ∃ nb nx ny, v = none ∧ K = (oMe Z a (.ref lv) (.int (-1 : Int32)) (.long t) (.ref nb) (.ref nx) (.ref ny) (.int (2 : Int32)) (.double (0 : UInt64)) (.double (0 : UInt64)) (.int (0 : Int32))) :: (oArr Z nb kI .int [.int i0, .int i1]) :: (oArr Z ny kD .double [.double y0, .double y1]) :: (oArr Z nx kD .double [.double x0, .double x1]) :: (oArr Z b kI .int [.int i0, .int i1]) :: (oArr Z xa kD .double [.double x0, .double x1]) :: (oArr Z ya kD .double [.double y0, .double y1]) :: rest) := by
  refine OMeets.of_body (plainFor_of_name pn_com_example_tapflow_tapflow_MotionEvent) #[.val (.ref a), .val (.long t), .second, .val (.int (2 : Int32)), .val (.ref b), .val (.ref xa), .val (.ref ya), .unset, .unset] (fun m => ef_c_init2_2 m a t (2 : Int32) b xa ya) fun pP eE sS mM bB hH cC T N => ?_
  refine k_aload_n (pc := 0) N d3_0 rfl rfl ?_
  refine initO_k (pc := 1) N 0 d3_1 (hw _ (List.mem_of_getElem? (i := 25) rfl)) (hw _ (List.mem_of_getElem? (i := 9) rfl)) (hw _ (List.mem_of_getElem? (i := 10) rfl)) rfl rfl (by decide) (by decide) fun T N => ?_
  refine k_aload_n (pc := 4) N d3_4 rfl rfl ?_
  refine k_getS (pc := 5) N d3_5 (hw _ (List.mem_of_getElem? (i := 26) rfl)) Via.refl SL fun T N => ?_
  refine k_put (pc := 8) (host := "") N 0 0 d3_8 (Or.inl (hw _ (List.mem_of_getElem? (i := 28) rfl))) Via.refl rfl rfl (Or.inl (hw _ (List.mem_of_getElem? (i := 29) rfl))) (hw _ (List.mem_of_getElem? (i := 20) rfl)) (ty := (.array .double)) (by decide) rfl rfl (K' := ((oMe Z a (.ref lv) (.int (0 : Int32)) (.long (0 : Int64)) .null .null .null (.int (0 : Int32)) (.double (0 : UInt64)) (.double (0 : UInt64)) (.int (0 : Int32))) :: (oArr Z b kI .int [.int i0, .int i1]) :: (oArr Z xa kD .double [.double x0, .double x1]) :: (oArr Z ya kD .double [.double y0, .double y1]) :: rest)) rfl fun T N => ?_
  refine k_aload_n (pc := 11) N d3_11 rfl rfl ?_
  refine k_iconst (pc := 12) N d3_12 (v := (-1 : Int32)) (by decide) ?_
  refine k_put (pc := 13) (host := "") N 0 1 d3_13 (Or.inl (hw _ (List.mem_of_getElem? (i := 30) rfl))) Via.refl rfl rfl (Or.inl (hw _ (List.mem_of_getElem? (i := 31) rfl))) (hw _ (List.mem_of_getElem? (i := 20) rfl)) (ty := .int) (by decide) rfl rfl (K' := ((oMe Z a (.ref lv) (.int (-1 : Int32)) (.long (0 : Int64)) .null .null .null (.int (0 : Int32)) (.double (0 : UInt64)) (.double (0 : UInt64)) (.int (0 : Int32))) :: (oArr Z b kI .int [.int i0, .int i1]) :: (oArr Z xa kD .double [.double x0, .double x1]) :: (oArr Z ya kD .double [.double y0, .double y1]) :: rest)) rfl fun T N => ?_
  refine k_aload (pc := 16) N d3_16 rfl rfl ?_
  refine k_arraylength (pc := 18) N 1 d3_18 rfl (z := (2 : Int32)) rfl ?_
  refine k_if_eq (pc := 19) N d3_19 (pc' := 40) (by decide) (fun qQ => absurd qQ (by decide)) (fun _ => ?_)
  refine k_aload (pc := 22) N d3_22 rfl rfl ?_
  refine k_arraylength (pc := 24) N 2 d3_24 rfl (z := (2 : Int32)) rfl ?_
  refine k_aload (pc := 25) N d3_25 rfl rfl ?_
  refine k_arraylength (pc := 27) N 1 d3_27 rfl (z := (2 : Int32)) rfl ?_
  refine k_icmp_ne (pc := 28) N d3_28 (pc' := 40) (by decide) (fun qQ => absurd qQ (fun z => z rfl)) (fun _ => ?_)
  refine k_aload (pc := 31) N d3_31 rfl rfl ?_
  refine k_arraylength (pc := 33) N 3 d3_33 rfl (z := (2 : Int32)) rfl ?_
  refine k_aload (pc := 34) N d3_34 rfl rfl ?_
  refine k_arraylength (pc := 36) N 1 d3_36 rfl (z := (2 : Int32)) rfl ?_
  refine k_icmp_eq (pc := 37) N d3_37 (pc' := 50) (by decide) (fun _ => ?_) (fun qQ => absurd qQ (fun z => z rfl))
  refine k_iconst (pc := 50) N d3_50 (v := (0 : Int32)) (by decide) ?_
  refine k_istore (pc := 51) N d3_51 (Ls' := #[.val (.ref a), .val (.long t), .second, .val (.int (2 : Int32)), .val (.ref b), .val (.ref xa), .val (.ref ya), .val (.int (0 : Int32)), .unset]) rfl ?_
  refine k_iload (pc := 53) N d3_53 rfl ?_
  refine k_aload (pc := 55) N d3_55 rfl rfl ?_
  refine k_arraylength (pc := 57) N 1 d3_57 rfl (z := (2 : Int32)) rfl ?_
  refine k_icmp_ge (pc := 58) N d3_58 (pc' := 163) (by decide) (fun qQ => absurd qQ (by decide)) (fun _ => ?_)
  refine k_aload (pc := 61) N d3_61 rfl rfl ?_
  refine k_iload (pc := 63) N d3_63 rfl ?_
  refine k_iaload (pc := 65) N 1 0 d3_65 rfl (by decide) (by decide) (v := .int i0) rfl ?_
  refine k_static (pc := 66) N (y := (⟨"com/example/tapflow/tapflow/MotionEvent", "checkPointerId", "(I)I"⟩ : MethodName)) (rest := []) [.int i0] d3_66 (hw _ (List.mem_of_getElem? (i := 32) rfl)) (hw _ (List.mem_of_getElem? (i := 33) rfl)) (hw _ (List.mem_of_getElem? (i := 21) rfl)) (hw _ (List.mem_of_getElem? (i := 34) rfl)) (by decide) pd__I_I rfl (c_chk l Z a0 hw i0 g0 u0 ((oMe Z a (.ref lv) (.int (-1 : Int32)) (.long (0 : Int64)) .null .null .null (.int (0 : Int32)) (.double (0 : UInt64)) (.double (0 : UInt64)) (.int (0 : Int32))) :: (oArr Z b kI .int [.int i0, .int i1]) :: (oArr Z xa kD .double [.double x0, .double x1]) :: (oArr Z ya kD .double [.double y0, .double y1]) :: rest)) rfl rfl 0 rfl (by decide) (by decide) (cells' := 0) rfl (slots' := 0) rfl (by decide) (by decide) fun T vV K' N qQ => ?_
  obtain ⟨rfl, rfl⟩ := qQ
  refine k_istore (pc := 69) N d3_69 (Ls' := #[.val (.ref a), .val (.long t), .second, .val (.int (2 : Int32)), .val (.ref b), .val (.ref xa), .val (.ref ya), .val (.int (0 : Int32)), .val (.int i0)]) rfl ?_
  refine k_iload (pc := 71) N d3_71 rfl ?_
  refine k_if_le (pc := 73) N d3_73 (pc' := 110) (by decide) (fun _ => ?_) (fun qQ => absurd qQ (by decide))
  refine k_aload (pc := 110) N d3_110 rfl rfl ?_
  refine k_iload (pc := 112) N d3_112 rfl ?_
  refine k_daload (pc := 114) N 2 0 d3_114 rfl (by decide) (by decide) (v := .double x0) rfl ?_
  refine k_static (pc := 115) N (y := (⟨"com/example/tapflow/tapflow/MotionEvent", "isCoordinate", "(D)Z"⟩ : MethodName)) (rest := []) [.double x0] d3_115 (hw _ (List.mem_of_getElem? (i := 35) rfl)) (hw _ (List.mem_of_getElem? (i := 36) rfl)) (hw _ (List.mem_of_getElem? (i := 21) rfl)) (hw _ (List.mem_of_getElem? (i := 37) rfl)) (by decide) pd__D_Z rfl (c_crd l Z a0 hw x0 hx0 ((oMe Z a (.ref lv) (.int (-1 : Int32)) (.long (0 : Int64)) .null .null .null (.int (0 : Int32)) (.double (0 : UInt64)) (.double (0 : UInt64)) (.int (0 : Int32))) :: (oArr Z b kI .int [.int i0, .int i1]) :: (oArr Z xa kD .double [.double x0, .double x1]) :: (oArr Z ya kD .double [.double y0, .double y1]) :: rest)) rfl rfl 0 rfl (by decide) (by decide) (cells' := 0) rfl (slots' := 0) rfl (by decide) (by decide) fun T vV K' N qQ => ?_
  obtain ⟨rfl, rfl⟩ := qQ
  refine k_if_eq (pc := 118) N d3_118 (pc' := 132) (by decide) (fun qQ => absurd qQ (by decide)) (fun _ => ?_)
  refine k_aload (pc := 121) N d3_121 rfl rfl ?_
  refine k_iload (pc := 123) N d3_123 rfl ?_
  refine k_daload (pc := 125) N 3 0 d3_125 rfl (by decide) (by decide) (v := .double y0) rfl ?_
  refine k_static (pc := 126) N (y := (⟨"com/example/tapflow/tapflow/MotionEvent", "isCoordinate", "(D)Z"⟩ : MethodName)) (rest := []) [.double y0] d3_126 (hw _ (List.mem_of_getElem? (i := 35) rfl)) (hw _ (List.mem_of_getElem? (i := 36) rfl)) (hw _ (List.mem_of_getElem? (i := 21) rfl)) (hw _ (List.mem_of_getElem? (i := 37) rfl)) (by decide) pd__D_Z rfl (c_crd l Z a0 hw y0 hy0 ((oMe Z a (.ref lv) (.int (-1 : Int32)) (.long (0 : Int64)) .null .null .null (.int (0 : Int32)) (.double (0 : UInt64)) (.double (0 : UInt64)) (.int (0 : Int32))) :: (oArr Z b kI .int [.int i0, .int i1]) :: (oArr Z xa kD .double [.double x0, .double x1]) :: (oArr Z ya kD .double [.double y0, .double y1]) :: rest)) rfl rfl 0 rfl (by decide) (by decide) (cells' := 0) rfl (slots' := 0) rfl (by decide) (by decide) fun T vV K' N qQ => ?_
  obtain ⟨rfl, rfl⟩ := qQ
  refine k_if_ne (pc := 129) N d3_129 (pc' := 157) (by decide) (fun _ => ?_) (fun qQ => absurd qQ (by decide))
  refine k_iinc (pc := 157) N d3_157 rfl (v := (1 : Int32)) (by decide) (Ls' := #[.val (.ref a), .val (.long t), .second, .val (.int (2 : Int32)), .val (.ref b), .val (.ref xa), .val (.ref ya), .val (.int (1 : Int32)), .val (.int i0)]) rfl ?_
  refine k_goto (pc := 160) N d3_160 (pc' := 53) (by decide) ?_
  refine k_iload (pc := 53) N d3_53 rfl ?_
  refine k_aload (pc := 55) N d3_55 rfl rfl ?_
  refine k_arraylength (pc := 57) N 1 d3_57 rfl (z := (2 : Int32)) rfl ?_
  refine k_icmp_ge (pc := 58) N d3_58 (pc' := 163) (by decide) (fun qQ => absurd qQ (by decide)) (fun _ => ?_)
  refine k_aload (pc := 61) N d3_61 rfl rfl ?_
  refine k_iload (pc := 63) N d3_63 rfl ?_
  refine k_iaload (pc := 65) N 1 1 d3_65 rfl (by decide) (by decide) (v := .int i1) rfl ?_
  refine k_static (pc := 66) N (y := (⟨"com/example/tapflow/tapflow/MotionEvent", "checkPointerId", "(I)I"⟩ : MethodName)) (rest := []) [.int i1] d3_66 (hw _ (List.mem_of_getElem? (i := 32) rfl)) (hw _ (List.mem_of_getElem? (i := 33) rfl)) (hw _ (List.mem_of_getElem? (i := 21) rfl)) (hw _ (List.mem_of_getElem? (i := 34) rfl)) (by decide) pd__I_I rfl (c_chk l Z a0 hw i1 g1 u1 ((oMe Z a (.ref lv) (.int (-1 : Int32)) (.long (0 : Int64)) .null .null .null (.int (0 : Int32)) (.double (0 : UInt64)) (.double (0 : UInt64)) (.int (0 : Int32))) :: (oArr Z b kI .int [.int i0, .int i1]) :: (oArr Z xa kD .double [.double x0, .double x1]) :: (oArr Z ya kD .double [.double y0, .double y1]) :: rest)) rfl rfl 0 rfl (by decide) (by decide) (cells' := 0) rfl (slots' := 0) rfl (by decide) (by decide) fun T vV K' N qQ => ?_
  obtain ⟨rfl, rfl⟩ := qQ
  refine k_istore (pc := 69) N d3_69 (Ls' := #[.val (.ref a), .val (.long t), .second, .val (.int (2 : Int32)), .val (.ref b), .val (.ref xa), .val (.ref ya), .val (.int (1 : Int32)), .val (.int i1)]) rfl ?_
  refine k_iload (pc := 71) N d3_71 rfl ?_
  refine k_if_le (pc := 73) N d3_73 (pc' := 110) (by decide) (fun qQ => absurd qQ (by decide)) (fun _ => ?_)
  refine k_iload (pc := 76) N d3_76 rfl ?_
  refine k_aload (pc := 78) N d3_78 rfl rfl ?_
  refine k_iload (pc := 80) N d3_80 rfl ?_
  refine k_iconst (pc := 82) N d3_82 (v := (1 : Int32)) (by decide) ?_
  refine k_isub (pc := 83) N d3_83 ?_
  refine k_iaload (pc := 84) N 1 0 d3_84 rfl (by decide) (by decide) (v := .int i0) rfl ?_
  refine k_icmp_gt (pc := 85) N d3_85 (pc' := 110) (by decide) (fun _ => ?_) (fun qQ => absurd qQ (fun z => z m1))
  refine k_aload (pc := 110) N d3_110 rfl rfl ?_
  refine k_iload (pc := 112) N d3_112 rfl ?_
  refine k_daload (pc := 114) N 2 1 d3_114 rfl (by decide) (by decide) (v := .double x1) rfl ?_
  refine k_static (pc := 115) N (y := (⟨"com/example/tapflow/tapflow/MotionEvent", "isCoordinate", "(D)Z"⟩ : MethodName)) (rest := []) [.double x1] d3_115 (hw _ (List.mem_of_getElem? (i := 35) rfl)) (hw _ (List.mem_of_getElem? (i := 36) rfl)) (hw _ (List.mem_of_getElem? (i := 21) rfl)) (hw _ (List.mem_of_getElem? (i := 37) rfl)) (by decide) pd__D_Z rfl (c_crd l Z a0 hw x1 hx1 ((oMe Z a (.ref lv) (.int (-1 : Int32)) (.long (0 : Int64)) .null .null .null (.int (0 : Int32)) (.double (0 : UInt64)) (.double (0 : UInt64)) (.int (0 : Int32))) :: (oArr Z b kI .int [.int i0, .int i1]) :: (oArr Z xa kD .double [.double x0, .double x1]) :: (oArr Z ya kD .double [.double y0, .double y1]) :: rest)) rfl rfl 0 rfl (by decide) (by decide) (cells' := 0) rfl (slots' := 0) rfl (by decide) (by decide) fun T vV K' N qQ => ?_
  obtain ⟨rfl, rfl⟩ := qQ
  refine k_if_eq (pc := 118) N d3_118 (pc' := 132) (by decide) (fun qQ => absurd qQ (by decide)) (fun _ => ?_)
  refine k_aload (pc := 121) N d3_121 rfl rfl ?_
  refine k_iload (pc := 123) N d3_123 rfl ?_
  refine k_daload (pc := 125) N 3 1 d3_125 rfl (by decide) (by decide) (v := .double y1) rfl ?_
  refine k_static (pc := 126) N (y := (⟨"com/example/tapflow/tapflow/MotionEvent", "isCoordinate", "(D)Z"⟩ : MethodName)) (rest := []) [.double y1] d3_126 (hw _ (List.mem_of_getElem? (i := 35) rfl)) (hw _ (List.mem_of_getElem? (i := 36) rfl)) (hw _ (List.mem_of_getElem? (i := 21) rfl)) (hw _ (List.mem_of_getElem? (i := 37) rfl)) (by decide) pd__D_Z rfl (c_crd l Z a0 hw y1 hy1 ((oMe Z a (.ref lv) (.int (-1 : Int32)) (.long (0 : Int64)) .null .null .null (.int (0 : Int32)) (.double (0 : UInt64)) (.double (0 : UInt64)) (.int (0 : Int32))) :: (oArr Z b kI .int [.int i0, .int i1]) :: (oArr Z xa kD .double [.double x0, .double x1]) :: (oArr Z ya kD .double [.double y0, .double y1]) :: rest)) rfl rfl 0 rfl (by decide) (by decide) (cells' := 0) rfl (slots' := 0) rfl (by decide) (by decide) fun T vV K' N qQ => ?_
  obtain ⟨rfl, rfl⟩ := qQ
  refine k_if_ne (pc := 129) N d3_129 (pc' := 157) (by decide) (fun _ => ?_) (fun qQ => absurd qQ (by decide))
  refine k_iinc (pc := 157) N d3_157 rfl (v := (2 : Int32)) (by decide) (Ls' := #[.val (.ref a), .val (.long t), .second, .val (.int (2 : Int32)), .val (.ref b), .val (.ref xa), .val (.ref ya), .val (.int (2 : Int32)), .val (.int i1)]) rfl ?_
  refine k_goto (pc := 160) N d3_160 (pc' := 53) (by decide) ?_
  refine k_iload (pc := 53) N d3_53 rfl ?_
  refine k_aload (pc := 55) N d3_55 rfl rfl ?_
  refine k_arraylength (pc := 57) N 1 d3_57 rfl (z := (2 : Int32)) rfl ?_
  refine k_icmp_ge (pc := 58) N d3_58 (pc' := 163) (by decide) (fun _ => ?_) (fun qQ => absurd qQ (by decide))
  refine k_aload_n (pc := 163) N d3_163 rfl rfl ?_
  refine k_lload_n (pc := 164) N d3_164 rfl ?_
  refine k_put (pc := 165) (host := "") N 0 2 d3_165 (Or.inl (hw _ (List.mem_of_getElem? (i := 43) rfl))) Via.refl rfl rfl (Or.inl (hw _ (List.mem_of_getElem? (i := 44) rfl))) (hw _ (List.mem_of_getElem? (i := 20) rfl)) (ty := .long) (by decide) rfl rfl (K' := ((oMe Z a (.ref lv) (.int (-1 : Int32)) (.long t) .null .null .null (.int (0 : Int32)) (.double (0 : UInt64)) (.double (0 : UInt64)) (.int (0 : Int32))) :: (oArr Z b kI .int [.int i0, .int i1]) :: (oArr Z xa kD .double [.double x0, .double x1]) :: (oArr Z ya kD .double [.double y0, .double y1]) :: rest)) rfl fun T N => ?_
  refine k_aload_n (pc := 168) N d3_168 rfl rfl ?_
  refine k_aload (pc := 169) N d3_169 rfl rfl ?_
  refine k_clone (pc := 171) N 1 1 2 d3_171 rfl hkI (ints_fit [i0, i1]) (hw _ (List.mem_of_getElem? (i := 45) rfl)) (hw _ (List.mem_of_getElem? (i := 46) rfl)) (hw _ (List.mem_of_getElem? (i := 50) rfl)) (hw _ (List.mem_of_getElem? (i := 48) rfl)) (hw _ (List.mem_of_getElem? (i := 49) rfl)) (hw _ (List.mem_of_getElem? (i := 51) rfl)) rfl rfl (by decide) (by decide) (Nat.le_of_ble_eq_true rfl) (by decide) (by decide) fun T nb N => ?_
  refine k_checkcast (pc := 174) N d3_174 (hw _ (List.mem_of_getElem? (i := 52) rfl)) (fun h N => Ins.self (exa_of_arr N (i := 0) rfl hkI)) fun T N => ?_
  refine k_put (pc := 177) (host := "") N 1 3 d3_177 (Or.inl (hw _ (List.mem_of_getElem? (i := 54) rfl))) Via.refl rfl rfl (Or.inr ⟨(hw _ (List.mem_of_getElem? (i := 55) rfl)), rfl, rfl⟩) (hw _ (List.mem_of_getElem? (i := 20) rfl)) (ty := (.array .int)) (by decide) rfl rfl (K' := ((oArr Z nb kI .int [.int i0, .int i1]) :: (oMe Z a (.ref lv) (.int (-1 : Int32)) (.long t) (.ref nb) .null .null (.int (0 : Int32)) (.double (0 : UInt64)) (.double (0 : UInt64)) (.int (0 : Int32))) :: (oArr Z b kI .int [.int i0, .int i1]) :: (oArr Z xa kD .double [.double x0, .double x1]) :: (oArr Z ya kD .double [.double y0, .double y1]) :: rest)) rfl fun T N => ?_
  refine k_aload_n (pc := 180) N d3_180 rfl rfl ?_
  refine k_aload (pc := 181) N d3_181 rfl rfl ?_
  refine k_clone (pc := 183) N 3 1 2 d3_183 rfl hkD (dbls_fit [x0, x1]) (hw _ (List.mem_of_getElem? (i := 56) rfl)) (hw _ (List.mem_of_getElem? (i := 57) rfl)) (hw _ (List.mem_of_getElem? (i := 50) rfl)) (hw _ (List.mem_of_getElem? (i := 48) rfl)) (hw _ (List.mem_of_getElem? (i := 58) rfl)) (hw _ (List.mem_of_getElem? (i := 59) rfl)) rfl rfl (by decide) (by decide) (Nat.le_of_ble_eq_true rfl) (by decide) (by decide) fun T nx N => ?_
  refine k_checkcast (pc := 186) N d3_186 (hw _ (List.mem_of_getElem? (i := 60) rfl)) (fun h N => Ins.self (exa_of_arr N (i := 0) rfl hkD)) fun T N => ?_
  refine k_put (pc := 189) (host := "") N 2 4 d3_189 (Or.inl (hw _ (List.mem_of_getElem? (i := 62) rfl))) Via.refl rfl rfl (Or.inr ⟨(hw _ (List.mem_of_getElem? (i := 63) rfl)), rfl, rfl⟩) (hw _ (List.mem_of_getElem? (i := 20) rfl)) (ty := (.array .double)) (by decide) rfl rfl (K' := ((oArr Z nx kD .double [.double x0, .double x1]) :: (oArr Z nb kI .int [.int i0, .int i1]) :: (oMe Z a (.ref lv) (.int (-1 : Int32)) (.long t) (.ref nb) (.ref nx) .null (.int (0 : Int32)) (.double (0 : UInt64)) (.double (0 : UInt64)) (.int (0 : Int32))) :: (oArr Z b kI .int [.int i0, .int i1]) :: (oArr Z xa kD .double [.double x0, .double x1]) :: (oArr Z ya kD .double [.double y0, .double y1]) :: rest)) rfl fun T N => ?_
  refine k_aload_n (pc := 192) N d3_192 rfl rfl ?_
  refine k_aload (pc := 193) N d3_193 rfl rfl ?_
  refine k_clone (pc := 195) N 5 1 2 d3_195 rfl hkD (dbls_fit [y0, y1]) (hw _ (List.mem_of_getElem? (i := 56) rfl)) (hw _ (List.mem_of_getElem? (i := 57) rfl)) (hw _ (List.mem_of_getElem? (i := 50) rfl)) (hw _ (List.mem_of_getElem? (i := 48) rfl)) (hw _ (List.mem_of_getElem? (i := 58) rfl)) (hw _ (List.mem_of_getElem? (i := 59) rfl)) rfl rfl (by decide) (by decide) (Nat.le_of_ble_eq_true rfl) (by decide) (by decide) fun T ny N => ?_
  refine k_checkcast (pc := 198) N d3_198 (hw _ (List.mem_of_getElem? (i := 60) rfl)) (fun h N => Ins.self (exa_of_arr N (i := 0) rfl hkD)) fun T N => ?_
  refine k_put (pc := 201) (host := "") N 3 5 d3_201 (Or.inl (hw _ (List.mem_of_getElem? (i := 64) rfl))) Via.refl rfl rfl (Or.inr ⟨(hw _ (List.mem_of_getElem? (i := 65) rfl)), rfl, rfl⟩) (hw _ (List.mem_of_getElem? (i := 20) rfl)) (ty := (.array .double)) (by decide) rfl rfl (K' := ((oArr Z ny kD .double [.double y0, .double y1]) :: (oArr Z nx kD .double [.double x0, .double x1]) :: (oArr Z nb kI .int [.int i0, .int i1]) :: (oMe Z a (.ref lv) (.int (-1 : Int32)) (.long t) (.ref nb) (.ref nx) (.ref ny) (.int (0 : Int32)) (.double (0 : UInt64)) (.double (0 : UInt64)) (.int (0 : Int32))) :: (oArr Z b kI .int [.int i0, .int i1]) :: (oArr Z xa kD .double [.double x0, .double x1]) :: (oArr Z ya kD .double [.double y0, .double y1]) :: rest)) rfl fun T N => ?_
  refine k_aload_n (pc := 204) N d3_204 rfl rfl ?_
  refine k_iload_n (pc := 205) N d3_205 rfl ?_
  replace N := ONow.sel (F := [oArr Z ny kD .double [.double y0, .double y1], oArr Z nx kD .double [.double x0, .double x1], oArr Z nb kI .int [.int i0, .int i1], oMe Z a (.ref lv) (.int (-1 : Int32)) (.long t) (.ref nb) (.ref nx) (.ref ny) (.int (0 : Int32)) (.double (0 : UInt64)) (.double (0 : UInt64)) (.int (0 : Int32)), oArr Z b kI .int [.int i0, .int i1], oArr Z xa kD .double [.double x0, .double x1], oArr Z ya kD .double [.double y0, .double y1]]) (F' := [oMe Z a (.ref lv) (.int (-1 : Int32)) (.long t) (.ref nb) (.ref nx) (.ref ny) (.int (0 : Int32)) (.double (0 : UInt64)) (.double (0 : UInt64)) (.int (0 : Int32)), oArr Z nb kI .int [.int i0, .int i1], oArr Z ny kD .double [.double y0, .double y1], oArr Z nx kD .double [.double x0, .double x1], oArr Z b kI .int [.int i0, .int i1], oArr Z xa kD .double [.double x0, .double x1], oArr Z ya kD .double [.double y0, .double y1]]) (rest := rest) N [3, 2, 0, 1, 4, 5, 6] (by decide) rfl
  refine k_virtual (pc := 206) N (y := (⟨"com/example/tapflow/tapflow/MotionEvent", "setAction", "(I)V"⟩ : MethodName)) (z := (⟨"com/example/tapflow/tapflow/MotionEvent", "setAction", "(I)V"⟩ : MethodName)) (rest := []) [.int (2 : Int32)] (a := a) d3_206 (fun h N => N.exa (i := 0) rfl) (hw _ (List.mem_of_getElem? (i := 66) rfl)) (hw _ (List.mem_of_getElem? (i := 67) rfl)) (nf_self (hw _ (List.mem_of_getElem? (i := 69) rfl))) (hw _ (List.mem_of_getElem? (i := 69) rfl)) (hw _ (List.mem_of_getElem? (i := 68) rfl)) (hw _ (List.mem_of_getElem? (i := 21) rfl)) (hw _ (List.mem_of_getElem? (i := 70) rfl)) (by decide) pd__I_V rfl (c_set2_2 l Z a0 hw an sn ac SA AA A7 AE a lv nb nx ny (-1 : Int32) (0 : Int32) t kI i0 i1 ((oArr Z ny kD .double [.double y0, .double y1]) :: (oArr Z nx kD .double [.double x0, .double x1]) :: (oArr Z b kI .int [.int i0, .int i1]) :: (oArr Z xa kD .double [.double x0, .double x1]) :: (oArr Z ya kD .double [.double y0, .double y1]) :: rest)) rfl rfl 0 rfl (by decide) (by decide) (cells' := 3) rfl (slots' := 6) rfl (by decide) (by decide) fun T vV K' N qQ => ?_
  obtain ⟨rfl, rfl⟩ := qQ
  exact k_return (pc := 209) N d3_209 rfl (by decide) (by decide) ⟨nb, nx, ny, rfl, rfl⟩
theorem len_at {args : Array Value} {first s : State} {o : Option Outcome} {idx : List Nat} {t : Term} {an : Addr} {ac : Cell} {n : Int32} (e : t.eval args first o idx s = some (.ref an)) (w : s.arrayAt? an = some ac) (q : (Term.length t).eval args first o idx s = some (.int n)) (k : Nat) (hk : n.toInt = k) : ac.slots.size = k := by
  simp only [Term.eval, e, w, Option.bind_eq_bind, Option.bind_some] at q
  split at q
  · next h =>
    have q' := Value.int.inj (Option.some.inj q)
    rw [← q'] at hk
    have : (ac.slots.size.toInt32).toInt = ac.slots.size := by
      rw [Nat.toInt32, Int32.toInt_ofNat']
      have hs : (Int32.size : Int) = 4294967296 := rfl
      exact Int.bmod_eq_of_le (by omega) (by omega)
    omega
  · cases q
theorem elem_at {args : Array Value} {first s : State} {o : Option Outcome} {idx : List Nat} {t : Term} {an : Addr} {ac : Cell} {n : Int32} {v : Value} (e : t.eval args first o idx s = some (.ref an)) (w : s.arrayAt? an = some ac) (q : (Term.elem t (Term.int n)).eval args first o idx s = some v) : ac.slots[n.toNatClampNeg]? = some v := by
  simp only [Term.eval, e, w, Option.bind_eq_bind, Option.bind_some] at q
  split at q
  · cases q
  · exact q

abbrev oVt (Z : State) (a : Addr) (f0 f1 f2 f3 : Value) : Ent := oObj Z a "com/example/tapflow/tapflow/VelocityTracker" [("com/example/tapflow/tapflow/VelocityTracker", "positions", "[Lcom/example/tapflow/tapflow/VelocityTracker$Positions;", f0), ("com/example/tapflow/tapflow/VelocityTracker", "xVelocities", "[D", f1), ("com/example/tapflow/tapflow/VelocityTracker", "yVelocities", "[D", f2), ("com/example/tapflow/tapflow/VelocityTracker", "latestNanos", "J", f3)]
abbrev oPo (Z : State) (a : Addr) (f0 f1 f2 f3 f4 f5 f6 : Value) : Ent := oObj Z a "com/example/tapflow/tapflow/VelocityTracker$Positions" [("com/example/tapflow/tapflow/VelocityTracker$Positions", "times", "[J", f0), ("com/example/tapflow/tapflow/VelocityTracker$Positions", "xs", "[D", f1), ("com/example/tapflow/tapflow/VelocityTracker$Positions", "ys", "[D", f2), ("com/example/tapflow/tapflow/VelocityTracker$Positions", "count", "I", f3), ("com/example/tapflow/tapflow/VelocityTracker$Positions", "next", "I", f4), ("com/example/tapflow/tapflow/VelocityTracker$Positions", "xSlope", "D", f5), ("com/example/tapflow/tapflow/VelocityTracker$Positions", "ySlope", "D", f6)]
def nd (n : Nat) : Int32 := Int32.ofNat n
def upd {α : Type} (f : Nat → α) (i : Nat) (v : α) : Nat → α := fun j => if j = i then v else f j
theorem upd_here {α : Type} (f : Nat → α) (i : Nat) (v : α) : upd f i v i = v := by simp [upd]
theorem upd_ne {α : Type} (f : Nat → α) {i j : Nat} (v : α) (h : j ≠ i) : upd f i v j = f j := by simp [upd, h]
theorem nd_int : ∀ j : Nat, j < 65 → (nd j).toInt = j := by decide
theorem nd_nn : ∀ j : Nat, j < 65 → ¬ nd j < 0 := by decide
theorem nd_nat : ∀ j : Nat, j < 65 → (nd j).toNatClampNeg = j := by decide
theorem nd_succ : ∀ j : Nat, j < 64 → nd j + 1 = nd (j + 1) := by decide
theorem nd_lt32 : ∀ j : Nat, j < 33 → (nd j < 32 ↔ j < 32) := by decide
theorem nd_31 : ∀ j : Nat, j < 32 → ¬ (31 : Int32) < nd j := by decide
def aF {α : Type} (n : Nat) (f : Nat → α) : List α := (List.range n).map f
theorem aF_len {α : Type} {n : Nat} {f : Nat → α} : (aF n f).length = n := by simp [aF]
theorem aF_get {α : Type} {n : Nat} {f : Nat → α} {j : Nat} (h : j < n) : (aF n f)[j]? = some (f j) := by simp [aF, h]
theorem aF_set {α β : Type} {n : Nat} (F : β → α) (f : Nat → β) {j : Nat} (v : β) : (aF n fun i => F (f i)).set j (F v) = aF n fun i => F (upd f j v i) := by
  apply List.ext_getElem?
  intro i
  by_cases hi : i < n
  · rw [aF_get hi, List.getElem?_set]
    by_cases e : j = i
    · subst e; rw [if_pos rfl, if_pos (by rw [aF_len]; exact hi), upd_here]
    · rw [if_neg e, aF_get hi, upd_ne _ _ (Ne.symm e)]
  · rw [List.getElem?_eq_none (by rw [List.length_set, aF_len]; omega), List.getElem?_eq_none (by rw [aF_len]; omega)]
theorem aF_rep {α : Type} {n : Nat} (v : α) : List.replicate n v = aF n fun _ => v := by
  apply List.ext_getElem?
  intro i
  by_cases hi : i < n
  · rw [aF_get hi]; simp [hi]
  · rw [List.getElem?_eq_none (by simp; omega), List.getElem?_eq_none (by rw [aF_len]; omega)]

abbrev dA (n : Nat) (f : Nat → UInt64) : List Value := aF n fun i => Value.double (f i)
abbrev lA (n : Nat) (f : Nat → Int64) : List Value := aF n fun i => Value.long (f i)
abbrev vA (n : Nat) (f : Nat → Value) : List Value := aF n fun i => f i
theorem dA_len {n : Nat} {f : Nat → UInt64} : (dA n f).length = n := aF_len
theorem lA_len {n : Nat} {f : Nat → Int64} : (lA n f).length = n := aF_len
theorem vA_len {n : Nat} {f : Nat → Value} : (vA n f).length = n := aF_len
theorem set_dA {n j : Nat} {f : Nat → UInt64} {v : UInt64} : (dA n f).set j (Value.double v) = dA n (upd f j v) := aF_set Value.double f v
theorem set_lA {n j : Nat} {f : Nat → Int64} {v : Int64} : (lA n f).set j (Value.long v) = lA n (upd f j v) := aF_set Value.long f v
theorem set_vA {n j : Nat} {f : Nat → Value} {v : Value} : (vA n f).set j v = vA n (upd f j v) := aF_set (fun x => x) f v
abbrev zd : Nat → UInt64 := fun _ => 0
abbrev zl : Nat → Int64 := fun _ => 0
abbrev zn : Nat → Value := fun _ => Value.null
open FP.Core (DInt dadd_int dsub_int dmul_int i2d_int l2d_int dcmp_int dint_unique)
theorem dint_fin {i : Int} {a : UInt64} (h : DInt i a) : FP.Core.DFin a := by
  unfold DInt at h
  cases hv : FP.Core.val64 a with
  | fin s c q => exact ⟨s, c, q, hv⟩
  | inf s => rw [hv] at h; exact h.elim
  | nan => rw [hv] at h; exact h.elim
theorem dnn {i : Int} {a : UInt64} (h : DInt i a) : NoNaN64 a := val64_no.mpr (fne (dint_fin h))
theorem di0 : DInt 0 (0 : UInt64) := by
  have h := l2d_int (a := 0) (by decide)
  rwa [show FP.Core.l2d 0 = (0 : UInt64) by decide +kernel] at h
theorem di1 : DInt 1 (4607182418800017408 : UInt64) := by
  have h := l2d_int (a := 1) (by decide)
  rwa [show FP.Core.l2d 1 = (4607182418800017408 : UInt64) by decide +kernel] at h
theorem dim1 : DInt (-1) (13830554455654793216 : UInt64) := by
  have h := l2d_int (a := -1) (by decide)
  rwa [show FP.Core.l2d (-1) = (13830554455654793216 : UInt64) by decide +kernel] at h
theorem D_add {i j k : Int} {a b : UInt64} (ha : DInt i a) (hb : DInt j b) (e : i + j = k) (h : k.natAbs ≤ 9007199254740992) : DInt k (FP.dadd a b) := by subst e; exact dadd_int ha hb h
theorem D_sub {i j k : Int} {a b : UInt64} (ha : DInt i a) (hb : DInt j b) (e : i - j = k) (h : k.natAbs ≤ 9007199254740992) : DInt k (FP.dsub a b) := by subst e; exact dsub_int ha hb h
theorem D_mul {i j k : Int} {a b : UInt64} (ha : DInt i a) (hb : DInt j b) (e : i * j = k) (h : k.natAbs ≤ 9007199254740992) : DInt k (FP.dmul a b) := by subst e; exact dmul_int ha hb h
theorem div1 {i : Int} {a s : UInt64} (ha : DInt i a) (hs : DInt 1 s) : FP.ddiv a s = a := by
  have e : s = 4607182418800017408 := dint_unique (by decide) hs di1
  subst e
  exact FP.Core.ddiv_one (fne (dint_fin ha))
theorem div1n {i : Int} {a s : UInt64} (ha : DInt i a) (hs : DInt 1 s) : NoNaN64 (FP.ddiv a s) := by rw [div1 ha hs]; exact dnn ha
theorem cmp_same {i : Int} {a b : UInt64} (ha : DInt i a) (hb : DInt i b) (o : CmpOp) : cmpValue (FP.dcmp a b) o = 0 := by
  rw [show FP.dcmp a b = _ from dcmp_int ha hb, show compare i i = Ordering.eq by simp [compare, compareOfLessAndEq]]; rfl
theorem cmp_10 {a : UInt64} (ha : DInt 1 a) (o : CmpOp) : cmpValue (FP.dcmp a 0) o = 1 := by
  rw [show FP.dcmp a 0 = _ from dcmp_int ha di0]; rfl
theorem tq0 : FP.ddiv (FP.l2d 0) 4696837146684686336 = 0 := by decide +kernel
theorem tq0n : NoNaN64 (FP.ddiv (FP.l2d 0) 4696837146684686336) := by unfold NoNaN64; decide +kernel
theorem tqm : FP.ddiv (FP.l2d (-1000000)) 4696837146684686336 = 13830554455654793216 := by decide +kernel
theorem tqmn : NoNaN64 (FP.ddiv (FP.l2d (-1000000)) 4696837146684686336) := by unfold NoNaN64; decide +kernel
theorem inf_gt {i : Int} {a : UInt64} (h : DInt i a) (o : CmpOp) : cmpValue (FP.dcmp 9218868437227405312 a) o = 1 := by
  obtain ⟨s, c, q, e⟩ := dint_fin h
  have f : FP.Core.val64 9218868437227405312 = .inf false := by decide +kernel
  rw [show FP.dcmp 9218868437227405312 a = some .gt by show FP.Core.order (FP.Core.val64 9218868437227405312) (FP.Core.val64 a) = _; rw [f, e]; rfl]; rfl
theorem ninf_lt {i : Int} {a : UInt64} (h : DInt i a) (o : CmpOp) : cmpValue (FP.dcmp 18442240474082181120 a) o = -1 := by
  obtain ⟨s, c, q, e⟩ := dint_fin h
  have f : FP.Core.val64 18442240474082181120 = .inf true := by decide +kernel
  rw [show FP.dcmp 18442240474082181120 a = some .lt by show FP.Core.order (FP.Core.val64 18442240474082181120) (FP.Core.val64 a) = _; rw [f, e]; rfl]; rfl
theorem inv_step {g : Nat → UInt64} {a id : Nat} {v : UInt64} {D : Int} (h : a < id → DInt D (g a)) (hv : id = a → DInt D v) : a < id + 1 → DInt D (upd g id v a) := fun q => by
  by_cases e : id = a
  · rw [e, upd_here]; exact hv e
  · rw [upd_ne _ _ (Ne.symm e)]; exact h (by omega)
theorem z_step {c : Int32} {a id : Nat} (h : a < id → c = 0) (ne : id ≠ a) : a < id + 1 → c = 0 := fun q => h (by omega)

theorem four (x : Int32) : x &&& 3 = 0 ∨ x &&& 3 = 1 ∨ x &&& 3 = 2 ∨ x &&& 3 = 3 := by
  have h : (x &&& 3).toBitVec.toNat < 4 := by
    simp only [Int32.toBitVec_and, BitVec.toNat_and]
    exact Nat.lt_succ_of_le Nat.and_le_right
  have e : ∀ y : Int32, y.toBitVec.toNat < 4 → y = 0 ∨ y = 1 ∨ y = 2 ∨ y = 3 := fun y hy => by
    have q : ∀ k : Int32, y.toBitVec.toNat = k.toBitVec.toNat → y = k := fun k w => Int32.toBitVec_inj.mp (BitVec.eq_of_toNat_eq w)
    have : y.toBitVec.toNat = 0 ∨ y.toBitVec.toNat = 1 ∨ y.toBitVec.toNat = 2 ∨ y.toBitVec.toNat = 3 := by omega
    rcases this with w | w | w | w
    · exact Or.inl (q 0 w)
    · exact Or.inr (Or.inl (q 1 w))
    · exact Or.inr (Or.inr (Or.inl (q 2 w)))
    · exact Or.inr (Or.inr (Or.inr (q 3 w)))
  exact e _ h
theorem msk (x : Int32) (M : Nat) (hM : M < 2147483648) (y : Int32) (hy : y.toBitVec.toNat = M) : 0 ≤ (x &&& y).toInt ∧ (x &&& y).toInt ≤ M := by
  have h : (x.toBitVec &&& y.toBitVec).toNat ≤ M := by
    rw [BitVec.toNat_and, hy]; exact Nat.and_le_right
  have e : (x &&& y).toInt = ((x.toBitVec &&& y.toBitVec).toNat : Int) := by
    show (x.toBitVec &&& y.toBitVec).toInt = _
    rw [BitVec.toInt_eq_toNat_cond, if_pos (by omega)]
  rw [e]; omega

theorem b53_32 (x : Int32) : B53 x.toInt64 := by
  have h1 := Int32.toInt_lt x; have h2 := Int32.le_toInt x
  have e : x.toInt64.toInt = x.toInt := Int32.toInt_toInt64 x
  unfold B53
  rw [e]; omega
theorem add0 (x : Int32) : FP.dadd (FP.i2d x) 0 = FP.i2d x := by
  rw [show (0 : UInt64) = FP.l2d 0 by decide +kernel, i2d_w, dadd_w ⟨by have h1 := Int32.toInt_lt x; have h2 := Int32.le_toInt x; rw [Int32.toInt_toInt64]; omega, by have h1 := Int32.toInt_lt x; have h2 := Int32.le_toInt x; rw [Int32.toInt_toInt64]; omega⟩ ⟨by decide, by decide⟩, Int64.add_zero]
theorem add0n (x : Int32) : NoNaN64 (FP.dadd (FP.i2d x) 0) := by rw [add0]; exact (i2d_fin x).noNaN
set_option maxRecDepth 65536 in
theorem ef_c_gam (m : MethodId) (z0 : Addr) : entryFrame m ([.ref z0] : List Value).toArray 1 = mkF m 0 #[.val (.ref z0)] [] := by first | (simp [entryFrame, mkF, argsToLocals, Value.category]; done) | rfl
def rm_c_gam : Room := { frames := 0, cells := 0, slots := 0, locals := 0 }
set_option maxRecDepth 65536 in
set_option maxHeartbeats 40000000 in
theorem c_gam (l : Launch) (Z : State) (a0 : Array Value) (hw : ∀ d ∈ tables_1, d.before a0 Z = true) (ev lv nb nx ny : Addr) (t : Int64) (kb kx ky : ClassId) (lo hi : Nat) (X0 X1 Y0 Y1 : Int32) (rest : List Ent) :
    OMeets l (⟨"com/example/tapflow/tapflow/MotionEvent", "getActionMasked", "()I"⟩ : MethodName) prog_5_method_6_code 1 (some .int) rm_c_gam Z [.ref ev] ((oMe Z ev (.ref lv) (.int (-1 : Int32)) (.long t) (.ref nb) (.ref nx) (.ref ny) (.int (2 : Int32)) (.double (0 : UInt64)) (.double (0 : UInt64)) (.int (0 : Int32))) :: (oArr Z nb kb .int [.int (nd lo), .int (nd hi)]) :: (oArr Z nx kx .double [.double (FP.i2d X0), .double (FP.i2d X1)]) :: (oArr Z ny ky .double [.double (FP.i2d Y0), .double (FP.i2d Y1)]) :: rest) (fun v K => v = some (.int 2) ∧ K = (oMe Z ev (.ref lv) (.int (-1 : Int32)) (.long t) (.ref nb) (.ref nx) (.ref ny) (.int (2 : Int32)) (.double (0 : UInt64)) (.double (0 : UInt64)) (.int (0 : Int32))) :: (oArr Z nb kb .int [.int (nd lo), .int (nd hi)]) :: (oArr Z nx kx .double [.double (FP.i2d X0), .double (FP.i2d X1)]) :: (oArr Z ny ky .double [.double (FP.i2d Y0), .double (FP.i2d Y1)]) :: rest) := by
  refine OMeets.of_body (plainFor_of_name pn_com_example_tapflow_tapflow_MotionEvent) #[.val (.ref ev)] (fun m => ef_c_gam m ev) fun pP eE sS mM bB hH cC T N => ?_
  refine k_aload_n (pc := 0) N d11_0 rfl rfl ?_
  refine k_get (pc := 1) (host := "") N 0 6 d11_1 (Or.inl (hw _ (List.mem_of_getElem? (i := 81) rfl))) Via.refl rfl rfl fun T N => ?_
  refine k_sipush (pc := 4) N d11_4 (v := (255 : Int32)) (by decide) ?_
  refine k_iand (pc := 7) N d11_7 ?_
  exact k_ireturn (pc := 8) N d11_8 rfl (by decide) (by decide) ⟨rfl, rfl⟩
set_option maxRecDepth 65536 in
theorem ef_c_gt (m : MethodId) (z0 : Addr) : entryFrame m ([.ref z0] : List Value).toArray 1 = mkF m 0 #[.val (.ref z0)] [] := by first | (simp [entryFrame, mkF, argsToLocals, Value.category]; done) | rfl
def rm_c_gt : Room := { frames := 0, cells := 0, slots := 0, locals := 0 }
set_option maxRecDepth 65536 in
set_option maxHeartbeats 40000000 in
theorem c_gt (l : Launch) (Z : State) (a0 : Array Value) (hw : ∀ d ∈ tables_1, d.before a0 Z = true) (ev lv nb nx ny : Addr) (t : Int64) (kb kx ky : ClassId) (lo hi : Nat) (X0 X1 Y0 Y1 : Int32) (rest : List Ent) :
    OMeets l (⟨"com/example/tapflow/tapflow/MotionEvent", "getEventTimeNanos", "()J"⟩ : MethodName) prog_5_method_3_code 1 (some .long) rm_c_gt Z [.ref ev] ((oMe Z ev (.ref lv) (.int (-1 : Int32)) (.long t) (.ref nb) (.ref nx) (.ref ny) (.int (2 : Int32)) (.double (0 : UInt64)) (.double (0 : UInt64)) (.int (0 : Int32))) :: (oArr Z nb kb .int [.int (nd lo), .int (nd hi)]) :: (oArr Z nx kx .double [.double (FP.i2d X0), .double (FP.i2d X1)]) :: (oArr Z ny ky .double [.double (FP.i2d Y0), .double (FP.i2d Y1)]) :: rest) (fun v K => v = some (.long t) ∧ K = (oMe Z ev (.ref lv) (.int (-1 : Int32)) (.long t) (.ref nb) (.ref nx) (.ref ny) (.int (2 : Int32)) (.double (0 : UInt64)) (.double (0 : UInt64)) (.int (0 : Int32))) :: (oArr Z nb kb .int [.int (nd lo), .int (nd hi)]) :: (oArr Z nx kx .double [.double (FP.i2d X0), .double (FP.i2d X1)]) :: (oArr Z ny ky .double [.double (FP.i2d Y0), .double (FP.i2d Y1)]) :: rest) := by
  refine OMeets.of_body (plainFor_of_name pn_com_example_tapflow_tapflow_MotionEvent) #[.val (.ref ev)] (fun m => ef_c_gt m ev) fun pP eE sS mM bB hH cC T N => ?_
  refine k_aload_n (pc := 0) N d13_0 rfl rfl ?_
  refine k_get (pc := 1) (host := "") N 0 2 d13_1 (Or.inl (hw _ (List.mem_of_getElem? (i := 43) rfl))) Via.refl rfl rfl fun T N => ?_
  exact k_lreturn (pc := 4) N d13_4 rfl (by decide) (by decide) ⟨rfl, rfl⟩
set_option maxRecDepth 65536 in
theorem ef_c_gpc (m : MethodId) (z0 : Addr) : entryFrame m ([.ref z0] : List Value).toArray 1 = mkF m 0 #[.val (.ref z0)] [] := by first | (simp [entryFrame, mkF, argsToLocals, Value.category]; done) | rfl
def rm_c_gpc : Room := { frames := 0, cells := 0, slots := 0, locals := 0 }
set_option maxRecDepth 65536 in
set_option maxHeartbeats 40000000 in
theorem c_gpc (l : Launch) (Z : State) (a0 : Array Value) (hw : ∀ d ∈ tables_1, d.before a0 Z = true) (ev lv nb nx ny : Addr) (t : Int64) (kb kx ky : ClassId) (lo hi : Nat) (X0 X1 Y0 Y1 : Int32) (rest : List Ent) :
    OMeets l (⟨"com/example/tapflow/tapflow/MotionEvent", "getPointerCount", "()I"⟩ : MethodName) prog_5_method_9_code 1 (some .int) rm_c_gpc Z [.ref ev] ((oMe Z ev (.ref lv) (.int (-1 : Int32)) (.long t) (.ref nb) (.ref nx) (.ref ny) (.int (2 : Int32)) (.double (0 : UInt64)) (.double (0 : UInt64)) (.int (0 : Int32))) :: (oArr Z nb kb .int [.int (nd lo), .int (nd hi)]) :: (oArr Z nx kx .double [.double (FP.i2d X0), .double (FP.i2d X1)]) :: (oArr Z ny ky .double [.double (FP.i2d Y0), .double (FP.i2d Y1)]) :: rest) (fun v K => v = some (.int 2) ∧ K = (oMe Z ev (.ref lv) (.int (-1 : Int32)) (.long t) (.ref nb) (.ref nx) (.ref ny) (.int (2 : Int32)) (.double (0 : UInt64)) (.double (0 : UInt64)) (.int (0 : Int32))) :: (oArr Z nb kb .int [.int (nd lo), .int (nd hi)]) :: (oArr Z nx kx .double [.double (FP.i2d X0), .double (FP.i2d X1)]) :: (oArr Z ny ky .double [.double (FP.i2d Y0), .double (FP.i2d Y1)]) :: rest) := by
  refine OMeets.of_body (plainFor_of_name pn_com_example_tapflow_tapflow_MotionEvent) #[.val (.ref ev)] (fun m => ef_c_gpc m ev) fun pP eE sS mM bB hH cC T N => ?_
  refine k_aload_n (pc := 0) N d14_0 rfl rfl ?_
  refine k_get (pc := 1) (host := "") N 0 3 d14_1 (Or.inl (hw _ (List.mem_of_getElem? (i := 54) rfl))) Via.refl rfl rfl fun T N => ?_
  refine k_arraylength (pc := 4) N 1 d14_4 rfl (z := (2 : Int32)) rfl ?_
  exact k_ireturn (pc := 5) N d14_5 rfl (by decide) (by decide) ⟨rfl, rfl⟩
set_option maxRecDepth 65536 in
theorem ef_c_gpi0 (m : MethodId) (z0 : Addr) (z1 : Int32) : entryFrame m ([.ref z0, .int z1] : List Value).toArray 2 = mkF m 0 #[.val (.ref z0), .val (.int z1)] [] := by first | (simp [entryFrame, mkF, argsToLocals, Value.category]; done) | rfl
def rm_c_gpi0 : Room := { frames := 0, cells := 0, slots := 0, locals := 0 }
set_option maxRecDepth 65536 in
set_option maxHeartbeats 40000000 in
theorem c_gpi0 (l : Launch) (Z : State) (a0 : Array Value) (hw : ∀ d ∈ tables_1, d.before a0 Z = true) (ev lv nb nx ny : Addr) (t : Int64) (kb kx ky : ClassId) (lo hi : Nat) (X0 X1 Y0 Y1 : Int32) (rest : List Ent) :
    OMeets l (⟨"com/example/tapflow/tapflow/MotionEvent", "getPointerId", "(I)I"⟩ : MethodName) prog_5_method_10_code 2 (some .int) rm_c_gpi0 Z [.ref ev, .int (0 : Int32)] ((oMe Z ev (.ref lv) (.int (-1 : Int32)) (.long t) (.ref nb) (.ref nx) (.ref ny) (.int (2 : Int32)) (.double (0 : UInt64)) (.double (0 : UInt64)) (.int (0 : Int32))) :: (oArr Z nb kb .int [.int (nd lo), .int (nd hi)]) :: (oArr Z nx kx .double [.double (FP.i2d X0), .double (FP.i2d X1)]) :: (oArr Z ny ky .double [.double (FP.i2d Y0), .double (FP.i2d Y1)]) :: rest) (fun v K => v = some (.int (nd lo)) ∧ K = (oMe Z ev (.ref lv) (.int (-1 : Int32)) (.long t) (.ref nb) (.ref nx) (.ref ny) (.int (2 : Int32)) (.double (0 : UInt64)) (.double (0 : UInt64)) (.int (0 : Int32))) :: (oArr Z nb kb .int [.int (nd lo), .int (nd hi)]) :: (oArr Z nx kx .double [.double (FP.i2d X0), .double (FP.i2d X1)]) :: (oArr Z ny ky .double [.double (FP.i2d Y0), .double (FP.i2d Y1)]) :: rest) := by
  refine OMeets.of_body (plainFor_of_name pn_com_example_tapflow_tapflow_MotionEvent) #[.val (.ref ev), .val (.int (0 : Int32))] (fun m => ef_c_gpi0 m ev (0 : Int32)) fun pP eE sS mM bB hH cC T N => ?_
  refine k_aload_n (pc := 0) N d15_0 rfl rfl ?_
  refine k_get (pc := 1) (host := "") N 0 3 d15_1 (Or.inl (hw _ (List.mem_of_getElem? (i := 54) rfl))) Via.refl rfl rfl fun T N => ?_
  refine k_iload_n (pc := 4) N d15_4 rfl ?_
  refine k_iaload (pc := 5) N 1 0 d15_5 rfl (by decide) (by decide) (v := .int (nd lo)) rfl ?_
  exact k_ireturn (pc := 6) N d15_6 rfl (by decide) (by decide) ⟨rfl, rfl⟩
set_option maxRecDepth 65536 in
theorem ef_c_gpi1 (m : MethodId) (z0 : Addr) (z1 : Int32) : entryFrame m ([.ref z0, .int z1] : List Value).toArray 2 = mkF m 0 #[.val (.ref z0), .val (.int z1)] [] := by first | (simp [entryFrame, mkF, argsToLocals, Value.category]; done) | rfl
def rm_c_gpi1 : Room := { frames := 0, cells := 0, slots := 0, locals := 0 }
set_option maxRecDepth 65536 in
set_option maxHeartbeats 40000000 in
theorem c_gpi1 (l : Launch) (Z : State) (a0 : Array Value) (hw : ∀ d ∈ tables_1, d.before a0 Z = true) (ev lv nb nx ny : Addr) (t : Int64) (kb kx ky : ClassId) (lo hi : Nat) (X0 X1 Y0 Y1 : Int32) (rest : List Ent) :
    OMeets l (⟨"com/example/tapflow/tapflow/MotionEvent", "getPointerId", "(I)I"⟩ : MethodName) prog_5_method_10_code 2 (some .int) rm_c_gpi1 Z [.ref ev, .int (1 : Int32)] ((oMe Z ev (.ref lv) (.int (-1 : Int32)) (.long t) (.ref nb) (.ref nx) (.ref ny) (.int (2 : Int32)) (.double (0 : UInt64)) (.double (0 : UInt64)) (.int (0 : Int32))) :: (oArr Z nb kb .int [.int (nd lo), .int (nd hi)]) :: (oArr Z nx kx .double [.double (FP.i2d X0), .double (FP.i2d X1)]) :: (oArr Z ny ky .double [.double (FP.i2d Y0), .double (FP.i2d Y1)]) :: rest) (fun v K => v = some (.int (nd hi)) ∧ K = (oMe Z ev (.ref lv) (.int (-1 : Int32)) (.long t) (.ref nb) (.ref nx) (.ref ny) (.int (2 : Int32)) (.double (0 : UInt64)) (.double (0 : UInt64)) (.int (0 : Int32))) :: (oArr Z nb kb .int [.int (nd lo), .int (nd hi)]) :: (oArr Z nx kx .double [.double (FP.i2d X0), .double (FP.i2d X1)]) :: (oArr Z ny ky .double [.double (FP.i2d Y0), .double (FP.i2d Y1)]) :: rest) := by
  refine OMeets.of_body (plainFor_of_name pn_com_example_tapflow_tapflow_MotionEvent) #[.val (.ref ev), .val (.int (1 : Int32))] (fun m => ef_c_gpi1 m ev (1 : Int32)) fun pP eE sS mM bB hH cC T N => ?_
  refine k_aload_n (pc := 0) N d15_0 rfl rfl ?_
  refine k_get (pc := 1) (host := "") N 0 3 d15_1 (Or.inl (hw _ (List.mem_of_getElem? (i := 54) rfl))) Via.refl rfl rfl fun T N => ?_
  refine k_iload_n (pc := 4) N d15_4 rfl ?_
  refine k_iaload (pc := 5) N 1 1 d15_5 rfl (by decide) (by decide) (v := .int (nd hi)) rfl ?_
  exact k_ireturn (pc := 6) N d15_6 rfl (by decide) (by decide) ⟨rfl, rfl⟩
set_option maxRecDepth 65536 in
theorem ef_c_x0 (m : MethodId) (z0 : Addr) (z1 : Int32) (z2 : UInt64) : entryFrame m ([.ref z0, .int z1, .double z2] : List Value).toArray 4 = mkF m 0 #[.val (.ref z0), .val (.int z1), .val (.double z2), .second] [] := by first | (simp [entryFrame, mkF, argsToLocals, Value.category]; done) | rfl
def rm_c_x0 : Room := { frames := 0, cells := 0, slots := 0, locals := 0 }
set_option maxRecDepth 65536 in
set_option maxHeartbeats 40000000 in
theorem c_x0 (l : Launch) (Z : State) (a0 : Array Value) (hw : ∀ d ∈ tables_1, d.before a0 Z = true) (ev lv nb nx ny : Addr) (t : Int64) (kb kx ky : ClassId) (lo hi : Nat) (X0 X1 Y0 Y1 : Int32) (rest : List Ent) :
    OMeets l (⟨"com/example/tapflow/tapflow/MotionEvent", "x", "(ID)D"⟩ : MethodName) prog_5_method_15_code 4 (some .double) rm_c_x0 Z [.ref ev, .int (0 : Int32), .double (0 : UInt64)] ((oMe Z ev (.ref lv) (.int (-1 : Int32)) (.long t) (.ref nb) (.ref nx) (.ref ny) (.int (2 : Int32)) (.double (0 : UInt64)) (.double (0 : UInt64)) (.int (0 : Int32))) :: (oArr Z nb kb .int [.int (nd lo), .int (nd hi)]) :: (oArr Z nx kx .double [.double (FP.i2d X0), .double (FP.i2d X1)]) :: (oArr Z ny ky .double [.double (FP.i2d Y0), .double (FP.i2d Y1)]) :: rest) (fun v K => v = some (.double (FP.i2d X0)) ∧ K = (oMe Z ev (.ref lv) (.int (-1 : Int32)) (.long t) (.ref nb) (.ref nx) (.ref ny) (.int (2 : Int32)) (.double (0 : UInt64)) (.double (0 : UInt64)) (.int (0 : Int32))) :: (oArr Z nb kb .int [.int (nd lo), .int (nd hi)]) :: (oArr Z nx kx .double [.double (FP.i2d X0), .double (FP.i2d X1)]) :: (oArr Z ny ky .double [.double (FP.i2d Y0), .double (FP.i2d Y1)]) :: rest) := by
  refine OMeets.of_body (plainFor_of_name pn_com_example_tapflow_tapflow_MotionEvent) #[.val (.ref ev), .val (.int (0 : Int32)), .val (.double (0 : UInt64)), .second] (fun m => ef_c_x0 m ev (0 : Int32) (0 : UInt64)) fun pP eE sS mM bB hH cC T N => ?_
  refine k_aload_n (pc := 0) N d19_0 rfl rfl ?_
  refine k_get (pc := 1) (host := "") N 0 9 d19_1 (Or.inl (hw _ (List.mem_of_getElem? (i := 142) rfl))) Via.refl rfl rfl fun T N => ?_
  refine k_if_ne (pc := 4) N d19_4 (pc' := 24) (by decide) (fun qQ => absurd qQ (fun z => z rfl)) (fun _ => ?_)
  refine k_aload_n (pc := 7) N d19_7 rfl rfl ?_
  refine k_get (pc := 8) (host := "") N 0 1 d19_8 (Or.inl (hw _ (List.mem_of_getElem? (i := 30) rfl))) Via.refl rfl rfl fun T N => ?_
  refine k_iconst (pc := 11) N d19_11 (v := (-1 : Int32)) (by decide) ?_
  refine k_icmp_ne (pc := 12) N d19_12 (pc' := 24) (by decide) (fun qQ => absurd qQ (fun z => z rfl)) (fun _ => ?_)
  refine k_aload_n (pc := 15) N d19_15 rfl rfl ?_
  refine k_get (pc := 16) (host := "") N 0 4 d19_16 (Or.inl (hw _ (List.mem_of_getElem? (i := 62) rfl))) Via.refl rfl rfl fun T N => ?_
  refine k_iload_n (pc := 19) N d19_19 rfl ?_
  refine k_daload (pc := 20) N 2 0 d19_20 rfl (by decide) (by decide) (v := .double (FP.i2d X0)) rfl ?_
  refine k_dload_n (pc := 21) N d19_21 rfl ?_
  refine k_dadd (pc := 22) N d19_22 (v := (FP.i2d X0)) (add0n X0) (add0 X0) ?_
  exact k_dreturn (pc := 23) N d19_23 rfl (by decide) (by decide) ⟨rfl, rfl⟩
set_option maxRecDepth 65536 in
theorem ef_c_gx0 (m : MethodId) (z0 : Addr) (z1 : Int32) : entryFrame m ([.ref z0, .int z1] : List Value).toArray 2 = mkF m 0 #[.val (.ref z0), .val (.int z1)] [] := by first | (simp [entryFrame, mkF, argsToLocals, Value.category]; done) | rfl
def rm_c_gx0 : Room := { frames := 1, cells := 0, slots := 0, locals := 15 }
set_option maxRecDepth 65536 in
set_option maxHeartbeats 40000000 in
theorem c_gx0 (l : Launch) (Z : State) (a0 : Array Value) (hw : ∀ d ∈ tables_1, d.before a0 Z = true) (ev lv nb nx ny : Addr) (t : Int64) (kb kx ky : ClassId) (lo hi : Nat) (X0 X1 Y0 Y1 : Int32) (rest : List Ent) :
    OMeets l (⟨"com/example/tapflow/tapflow/MotionEvent", "getX", "(I)D"⟩ : MethodName) prog_5_method_11_code 2 (some .double) rm_c_gx0 Z [.ref ev, .int (0 : Int32)] ((oMe Z ev (.ref lv) (.int (-1 : Int32)) (.long t) (.ref nb) (.ref nx) (.ref ny) (.int (2 : Int32)) (.double (0 : UInt64)) (.double (0 : UInt64)) (.int (0 : Int32))) :: (oArr Z nb kb .int [.int (nd lo), .int (nd hi)]) :: (oArr Z nx kx .double [.double (FP.i2d X0), .double (FP.i2d X1)]) :: (oArr Z ny ky .double [.double (FP.i2d Y0), .double (FP.i2d Y1)]) :: rest) (fun v K => v = some (.double (FP.i2d X0)) ∧ K = (oMe Z ev (.ref lv) (.int (-1 : Int32)) (.long t) (.ref nb) (.ref nx) (.ref ny) (.int (2 : Int32)) (.double (0 : UInt64)) (.double (0 : UInt64)) (.int (0 : Int32))) :: (oArr Z nb kb .int [.int (nd lo), .int (nd hi)]) :: (oArr Z nx kx .double [.double (FP.i2d X0), .double (FP.i2d X1)]) :: (oArr Z ny ky .double [.double (FP.i2d Y0), .double (FP.i2d Y1)]) :: rest) := by
  refine OMeets.of_body (plainFor_of_name pn_com_example_tapflow_tapflow_MotionEvent) #[.val (.ref ev), .val (.int (0 : Int32))] (fun m => ef_c_gx0 m ev (0 : Int32)) fun pP eE sS mM bB hH cC T N => ?_
  refine k_aload_n (pc := 0) N d18_0 rfl rfl ?_
  refine k_iload_n (pc := 1) N d18_1 rfl ?_
  refine k_aload_n (pc := 2) N d18_2 rfl rfl ?_
  refine k_get (pc := 3) (host := "") N 0 7 d18_3 (Or.inl (hw _ (List.mem_of_getElem? (i := 136) rfl))) Via.refl rfl rfl fun T N => ?_
  refine k_private (pc := 6) N (y := (⟨"com/example/tapflow/tapflow/MotionEvent", "x", "(ID)D"⟩ : MethodName)) (rest := []) [.int (0 : Int32), .double (0 : UInt64)] (a := ev) 0 d18_6 rfl (hw _ (List.mem_of_getElem? (i := 20) rfl)) (hw _ (List.mem_of_getElem? (i := 138) rfl)) (hw _ (List.mem_of_getElem? (i := 139) rfl)) (hw _ (List.mem_of_getElem? (i := 140) rfl)) (hw _ (List.mem_of_getElem? (i := 21) rfl)) (hw _ (List.mem_of_getElem? (i := 141) rfl)) (by decide) pd__ID_D rfl (c_x0 l Z a0 hw ev lv nb nx ny t kb kx ky lo hi X0 X1 Y0 Y1 rest) rfl rfl 0 rfl (by decide) (by decide) (cells' := 0) rfl (slots' := 0) rfl (by decide) (by decide) fun T vV K' N qQ => ?_
  obtain ⟨rfl, rfl⟩ := qQ
  exact k_dreturn (pc := 9) N d18_9 rfl (by decide) (by decide) ⟨rfl, rfl⟩
set_option maxRecDepth 65536 in
theorem ef_c_x1 (m : MethodId) (z0 : Addr) (z1 : Int32) (z2 : UInt64) : entryFrame m ([.ref z0, .int z1, .double z2] : List Value).toArray 4 = mkF m 0 #[.val (.ref z0), .val (.int z1), .val (.double z2), .second] [] := by first | (simp [entryFrame, mkF, argsToLocals, Value.category]; done) | rfl
def rm_c_x1 : Room := { frames := 0, cells := 0, slots := 0, locals := 0 }
set_option maxRecDepth 65536 in
set_option maxHeartbeats 40000000 in
theorem c_x1 (l : Launch) (Z : State) (a0 : Array Value) (hw : ∀ d ∈ tables_1, d.before a0 Z = true) (ev lv nb nx ny : Addr) (t : Int64) (kb kx ky : ClassId) (lo hi : Nat) (X0 X1 Y0 Y1 : Int32) (rest : List Ent) :
    OMeets l (⟨"com/example/tapflow/tapflow/MotionEvent", "x", "(ID)D"⟩ : MethodName) prog_5_method_15_code 4 (some .double) rm_c_x1 Z [.ref ev, .int (1 : Int32), .double (0 : UInt64)] ((oMe Z ev (.ref lv) (.int (-1 : Int32)) (.long t) (.ref nb) (.ref nx) (.ref ny) (.int (2 : Int32)) (.double (0 : UInt64)) (.double (0 : UInt64)) (.int (0 : Int32))) :: (oArr Z nb kb .int [.int (nd lo), .int (nd hi)]) :: (oArr Z nx kx .double [.double (FP.i2d X0), .double (FP.i2d X1)]) :: (oArr Z ny ky .double [.double (FP.i2d Y0), .double (FP.i2d Y1)]) :: rest) (fun v K => v = some (.double (FP.i2d X1)) ∧ K = (oMe Z ev (.ref lv) (.int (-1 : Int32)) (.long t) (.ref nb) (.ref nx) (.ref ny) (.int (2 : Int32)) (.double (0 : UInt64)) (.double (0 : UInt64)) (.int (0 : Int32))) :: (oArr Z nb kb .int [.int (nd lo), .int (nd hi)]) :: (oArr Z nx kx .double [.double (FP.i2d X0), .double (FP.i2d X1)]) :: (oArr Z ny ky .double [.double (FP.i2d Y0), .double (FP.i2d Y1)]) :: rest) := by
  refine OMeets.of_body (plainFor_of_name pn_com_example_tapflow_tapflow_MotionEvent) #[.val (.ref ev), .val (.int (1 : Int32)), .val (.double (0 : UInt64)), .second] (fun m => ef_c_x1 m ev (1 : Int32) (0 : UInt64)) fun pP eE sS mM bB hH cC T N => ?_
  refine k_aload_n (pc := 0) N d19_0 rfl rfl ?_
  refine k_get (pc := 1) (host := "") N 0 9 d19_1 (Or.inl (hw _ (List.mem_of_getElem? (i := 142) rfl))) Via.refl rfl rfl fun T N => ?_
  refine k_if_ne (pc := 4) N d19_4 (pc' := 24) (by decide) (fun qQ => absurd qQ (fun z => z rfl)) (fun _ => ?_)
  refine k_aload_n (pc := 7) N d19_7 rfl rfl ?_
  refine k_get (pc := 8) (host := "") N 0 1 d19_8 (Or.inl (hw _ (List.mem_of_getElem? (i := 30) rfl))) Via.refl rfl rfl fun T N => ?_
  refine k_iconst (pc := 11) N d19_11 (v := (-1 : Int32)) (by decide) ?_
  refine k_icmp_ne (pc := 12) N d19_12 (pc' := 24) (by decide) (fun qQ => absurd qQ (fun z => z rfl)) (fun _ => ?_)
  refine k_aload_n (pc := 15) N d19_15 rfl rfl ?_
  refine k_get (pc := 16) (host := "") N 0 4 d19_16 (Or.inl (hw _ (List.mem_of_getElem? (i := 62) rfl))) Via.refl rfl rfl fun T N => ?_
  refine k_iload_n (pc := 19) N d19_19 rfl ?_
  refine k_daload (pc := 20) N 2 1 d19_20 rfl (by decide) (by decide) (v := .double (FP.i2d X1)) rfl ?_
  refine k_dload_n (pc := 21) N d19_21 rfl ?_
  refine k_dadd (pc := 22) N d19_22 (v := (FP.i2d X1)) (add0n X1) (add0 X1) ?_
  exact k_dreturn (pc := 23) N d19_23 rfl (by decide) (by decide) ⟨rfl, rfl⟩
set_option maxRecDepth 65536 in
theorem ef_c_gx1 (m : MethodId) (z0 : Addr) (z1 : Int32) : entryFrame m ([.ref z0, .int z1] : List Value).toArray 2 = mkF m 0 #[.val (.ref z0), .val (.int z1)] [] := by first | (simp [entryFrame, mkF, argsToLocals, Value.category]; done) | rfl
def rm_c_gx1 : Room := { frames := 1, cells := 0, slots := 0, locals := 15 }
set_option maxRecDepth 65536 in
set_option maxHeartbeats 40000000 in
theorem c_gx1 (l : Launch) (Z : State) (a0 : Array Value) (hw : ∀ d ∈ tables_1, d.before a0 Z = true) (ev lv nb nx ny : Addr) (t : Int64) (kb kx ky : ClassId) (lo hi : Nat) (X0 X1 Y0 Y1 : Int32) (rest : List Ent) :
    OMeets l (⟨"com/example/tapflow/tapflow/MotionEvent", "getX", "(I)D"⟩ : MethodName) prog_5_method_11_code 2 (some .double) rm_c_gx1 Z [.ref ev, .int (1 : Int32)] ((oMe Z ev (.ref lv) (.int (-1 : Int32)) (.long t) (.ref nb) (.ref nx) (.ref ny) (.int (2 : Int32)) (.double (0 : UInt64)) (.double (0 : UInt64)) (.int (0 : Int32))) :: (oArr Z nb kb .int [.int (nd lo), .int (nd hi)]) :: (oArr Z nx kx .double [.double (FP.i2d X0), .double (FP.i2d X1)]) :: (oArr Z ny ky .double [.double (FP.i2d Y0), .double (FP.i2d Y1)]) :: rest) (fun v K => v = some (.double (FP.i2d X1)) ∧ K = (oMe Z ev (.ref lv) (.int (-1 : Int32)) (.long t) (.ref nb) (.ref nx) (.ref ny) (.int (2 : Int32)) (.double (0 : UInt64)) (.double (0 : UInt64)) (.int (0 : Int32))) :: (oArr Z nb kb .int [.int (nd lo), .int (nd hi)]) :: (oArr Z nx kx .double [.double (FP.i2d X0), .double (FP.i2d X1)]) :: (oArr Z ny ky .double [.double (FP.i2d Y0), .double (FP.i2d Y1)]) :: rest) := by
  refine OMeets.of_body (plainFor_of_name pn_com_example_tapflow_tapflow_MotionEvent) #[.val (.ref ev), .val (.int (1 : Int32))] (fun m => ef_c_gx1 m ev (1 : Int32)) fun pP eE sS mM bB hH cC T N => ?_
  refine k_aload_n (pc := 0) N d18_0 rfl rfl ?_
  refine k_iload_n (pc := 1) N d18_1 rfl ?_
  refine k_aload_n (pc := 2) N d18_2 rfl rfl ?_
  refine k_get (pc := 3) (host := "") N 0 7 d18_3 (Or.inl (hw _ (List.mem_of_getElem? (i := 136) rfl))) Via.refl rfl rfl fun T N => ?_
  refine k_private (pc := 6) N (y := (⟨"com/example/tapflow/tapflow/MotionEvent", "x", "(ID)D"⟩ : MethodName)) (rest := []) [.int (1 : Int32), .double (0 : UInt64)] (a := ev) 0 d18_6 rfl (hw _ (List.mem_of_getElem? (i := 20) rfl)) (hw _ (List.mem_of_getElem? (i := 138) rfl)) (hw _ (List.mem_of_getElem? (i := 139) rfl)) (hw _ (List.mem_of_getElem? (i := 140) rfl)) (hw _ (List.mem_of_getElem? (i := 21) rfl)) (hw _ (List.mem_of_getElem? (i := 141) rfl)) (by decide) pd__ID_D rfl (c_x1 l Z a0 hw ev lv nb nx ny t kb kx ky lo hi X0 X1 Y0 Y1 rest) rfl rfl 0 rfl (by decide) (by decide) (cells' := 0) rfl (slots' := 0) rfl (by decide) (by decide) fun T vV K' N qQ => ?_
  obtain ⟨rfl, rfl⟩ := qQ
  exact k_dreturn (pc := 9) N d18_9 rfl (by decide) (by decide) ⟨rfl, rfl⟩
set_option maxRecDepth 65536 in
theorem ef_c_y0 (m : MethodId) (z0 : Addr) (z1 : Int32) (z2 : UInt64) : entryFrame m ([.ref z0, .int z1, .double z2] : List Value).toArray 4 = mkF m 0 #[.val (.ref z0), .val (.int z1), .val (.double z2), .second] [] := by first | (simp [entryFrame, mkF, argsToLocals, Value.category]; done) | rfl
def rm_c_y0 : Room := { frames := 0, cells := 0, slots := 0, locals := 0 }
set_option maxRecDepth 65536 in
set_option maxHeartbeats 40000000 in
theorem c_y0 (l : Launch) (Z : State) (a0 : Array Value) (hw : ∀ d ∈ tables_1, d.before a0 Z = true) (ev lv nb nx ny : Addr) (t : Int64) (kb kx ky : ClassId) (lo hi : Nat) (X0 X1 Y0 Y1 : Int32) (rest : List Ent) :
    OMeets l (⟨"com/example/tapflow/tapflow/MotionEvent", "y", "(ID)D"⟩ : MethodName) prog_5_method_16_code 4 (some .double) rm_c_y0 Z [.ref ev, .int (0 : Int32), .double (0 : UInt64)] ((oMe Z ev (.ref lv) (.int (-1 : Int32)) (.long t) (.ref nb) (.ref nx) (.ref ny) (.int (2 : Int32)) (.double (0 : UInt64)) (.double (0 : UInt64)) (.int (0 : Int32))) :: (oArr Z nb kb .int [.int (nd lo), .int (nd hi)]) :: (oArr Z nx kx .double [.double (FP.i2d X0), .double (FP.i2d X1)]) :: (oArr Z ny ky .double [.double (FP.i2d Y0), .double (FP.i2d Y1)]) :: rest) (fun v K => v = some (.double (FP.i2d Y0)) ∧ K = (oMe Z ev (.ref lv) (.int (-1 : Int32)) (.long t) (.ref nb) (.ref nx) (.ref ny) (.int (2 : Int32)) (.double (0 : UInt64)) (.double (0 : UInt64)) (.int (0 : Int32))) :: (oArr Z nb kb .int [.int (nd lo), .int (nd hi)]) :: (oArr Z nx kx .double [.double (FP.i2d X0), .double (FP.i2d X1)]) :: (oArr Z ny ky .double [.double (FP.i2d Y0), .double (FP.i2d Y1)]) :: rest) := by
  refine OMeets.of_body (plainFor_of_name pn_com_example_tapflow_tapflow_MotionEvent) #[.val (.ref ev), .val (.int (0 : Int32)), .val (.double (0 : UInt64)), .second] (fun m => ef_c_y0 m ev (0 : Int32) (0 : UInt64)) fun pP eE sS mM bB hH cC T N => ?_
  refine k_aload_n (pc := 0) N d21_0 rfl rfl ?_
  refine k_get (pc := 1) (host := "") N 0 9 d21_1 (Or.inl (hw _ (List.mem_of_getElem? (i := 142) rfl))) Via.refl rfl rfl fun T N => ?_
  refine k_if_ne (pc := 4) N d21_4 (pc' := 24) (by decide) (fun qQ => absurd qQ (fun z => z rfl)) (fun _ => ?_)
  refine k_aload_n (pc := 7) N d21_7 rfl rfl ?_
  refine k_get (pc := 8) (host := "") N 0 1 d21_8 (Or.inl (hw _ (List.mem_of_getElem? (i := 30) rfl))) Via.refl rfl rfl fun T N => ?_
  refine k_iconst (pc := 11) N d21_11 (v := (-1 : Int32)) (by decide) ?_
  refine k_icmp_ne (pc := 12) N d21_12 (pc' := 24) (by decide) (fun qQ => absurd qQ (fun z => z rfl)) (fun _ => ?_)
  refine k_aload_n (pc := 15) N d21_15 rfl rfl ?_
  refine k_get (pc := 16) (host := "") N 0 5 d21_16 (Or.inl (hw _ (List.mem_of_getElem? (i := 64) rfl))) Via.refl rfl rfl fun T N => ?_
  refine k_iload_n (pc := 19) N d21_19 rfl ?_
  refine k_daload (pc := 20) N 3 0 d21_20 rfl (by decide) (by decide) (v := .double (FP.i2d Y0)) rfl ?_
  refine k_dload_n (pc := 21) N d21_21 rfl ?_
  refine k_dadd (pc := 22) N d21_22 (v := (FP.i2d Y0)) (add0n Y0) (add0 Y0) ?_
  exact k_dreturn (pc := 23) N d21_23 rfl (by decide) (by decide) ⟨rfl, rfl⟩
set_option maxRecDepth 65536 in
theorem ef_c_gy0 (m : MethodId) (z0 : Addr) (z1 : Int32) : entryFrame m ([.ref z0, .int z1] : List Value).toArray 2 = mkF m 0 #[.val (.ref z0), .val (.int z1)] [] := by first | (simp [entryFrame, mkF, argsToLocals, Value.category]; done) | rfl
def rm_c_gy0 : Room := { frames := 1, cells := 0, slots := 0, locals := 15 }
set_option maxRecDepth 65536 in
set_option maxHeartbeats 40000000 in
theorem c_gy0 (l : Launch) (Z : State) (a0 : Array Value) (hw : ∀ d ∈ tables_1, d.before a0 Z = true) (ev lv nb nx ny : Addr) (t : Int64) (kb kx ky : ClassId) (lo hi : Nat) (X0 X1 Y0 Y1 : Int32) (rest : List Ent) :
    OMeets l (⟨"com/example/tapflow/tapflow/MotionEvent", "getY", "(I)D"⟩ : MethodName) prog_5_method_12_code 2 (some .double) rm_c_gy0 Z [.ref ev, .int (0 : Int32)] ((oMe Z ev (.ref lv) (.int (-1 : Int32)) (.long t) (.ref nb) (.ref nx) (.ref ny) (.int (2 : Int32)) (.double (0 : UInt64)) (.double (0 : UInt64)) (.int (0 : Int32))) :: (oArr Z nb kb .int [.int (nd lo), .int (nd hi)]) :: (oArr Z nx kx .double [.double (FP.i2d X0), .double (FP.i2d X1)]) :: (oArr Z ny ky .double [.double (FP.i2d Y0), .double (FP.i2d Y1)]) :: rest) (fun v K => v = some (.double (FP.i2d Y0)) ∧ K = (oMe Z ev (.ref lv) (.int (-1 : Int32)) (.long t) (.ref nb) (.ref nx) (.ref ny) (.int (2 : Int32)) (.double (0 : UInt64)) (.double (0 : UInt64)) (.int (0 : Int32))) :: (oArr Z nb kb .int [.int (nd lo), .int (nd hi)]) :: (oArr Z nx kx .double [.double (FP.i2d X0), .double (FP.i2d X1)]) :: (oArr Z ny ky .double [.double (FP.i2d Y0), .double (FP.i2d Y1)]) :: rest) := by
  refine OMeets.of_body (plainFor_of_name pn_com_example_tapflow_tapflow_MotionEvent) #[.val (.ref ev), .val (.int (0 : Int32))] (fun m => ef_c_gy0 m ev (0 : Int32)) fun pP eE sS mM bB hH cC T N => ?_
  refine k_aload_n (pc := 0) N d20_0 rfl rfl ?_
  refine k_iload_n (pc := 1) N d20_1 rfl ?_
  refine k_aload_n (pc := 2) N d20_2 rfl rfl ?_
  refine k_get (pc := 3) (host := "") N 0 8 d20_3 (Or.inl (hw _ (List.mem_of_getElem? (i := 149) rfl))) Via.refl rfl rfl fun T N => ?_
  refine k_private (pc := 6) N (y := (⟨"com/example/tapflow/tapflow/MotionEvent", "y", "(ID)D"⟩ : MethodName)) (rest := []) [.int (0 : Int32), .double (0 : UInt64)] (a := ev) 0 d20_6 rfl (hw _ (List.mem_of_getElem? (i := 20) rfl)) (hw _ (List.mem_of_getElem? (i := 151) rfl)) (hw _ (List.mem_of_getElem? (i := 152) rfl)) (hw _ (List.mem_of_getElem? (i := 153) rfl)) (hw _ (List.mem_of_getElem? (i := 21) rfl)) (hw _ (List.mem_of_getElem? (i := 154) rfl)) (by decide) pd__ID_D rfl (c_y0 l Z a0 hw ev lv nb nx ny t kb kx ky lo hi X0 X1 Y0 Y1 rest) rfl rfl 0 rfl (by decide) (by decide) (cells' := 0) rfl (slots' := 0) rfl (by decide) (by decide) fun T vV K' N qQ => ?_
  obtain ⟨rfl, rfl⟩ := qQ
  exact k_dreturn (pc := 9) N d20_9 rfl (by decide) (by decide) ⟨rfl, rfl⟩
set_option maxRecDepth 65536 in
theorem ef_c_y1 (m : MethodId) (z0 : Addr) (z1 : Int32) (z2 : UInt64) : entryFrame m ([.ref z0, .int z1, .double z2] : List Value).toArray 4 = mkF m 0 #[.val (.ref z0), .val (.int z1), .val (.double z2), .second] [] := by first | (simp [entryFrame, mkF, argsToLocals, Value.category]; done) | rfl
def rm_c_y1 : Room := { frames := 0, cells := 0, slots := 0, locals := 0 }
set_option maxRecDepth 65536 in
set_option maxHeartbeats 40000000 in
theorem c_y1 (l : Launch) (Z : State) (a0 : Array Value) (hw : ∀ d ∈ tables_1, d.before a0 Z = true) (ev lv nb nx ny : Addr) (t : Int64) (kb kx ky : ClassId) (lo hi : Nat) (X0 X1 Y0 Y1 : Int32) (rest : List Ent) :
    OMeets l (⟨"com/example/tapflow/tapflow/MotionEvent", "y", "(ID)D"⟩ : MethodName) prog_5_method_16_code 4 (some .double) rm_c_y1 Z [.ref ev, .int (1 : Int32), .double (0 : UInt64)] ((oMe Z ev (.ref lv) (.int (-1 : Int32)) (.long t) (.ref nb) (.ref nx) (.ref ny) (.int (2 : Int32)) (.double (0 : UInt64)) (.double (0 : UInt64)) (.int (0 : Int32))) :: (oArr Z nb kb .int [.int (nd lo), .int (nd hi)]) :: (oArr Z nx kx .double [.double (FP.i2d X0), .double (FP.i2d X1)]) :: (oArr Z ny ky .double [.double (FP.i2d Y0), .double (FP.i2d Y1)]) :: rest) (fun v K => v = some (.double (FP.i2d Y1)) ∧ K = (oMe Z ev (.ref lv) (.int (-1 : Int32)) (.long t) (.ref nb) (.ref nx) (.ref ny) (.int (2 : Int32)) (.double (0 : UInt64)) (.double (0 : UInt64)) (.int (0 : Int32))) :: (oArr Z nb kb .int [.int (nd lo), .int (nd hi)]) :: (oArr Z nx kx .double [.double (FP.i2d X0), .double (FP.i2d X1)]) :: (oArr Z ny ky .double [.double (FP.i2d Y0), .double (FP.i2d Y1)]) :: rest) := by
  refine OMeets.of_body (plainFor_of_name pn_com_example_tapflow_tapflow_MotionEvent) #[.val (.ref ev), .val (.int (1 : Int32)), .val (.double (0 : UInt64)), .second] (fun m => ef_c_y1 m ev (1 : Int32) (0 : UInt64)) fun pP eE sS mM bB hH cC T N => ?_
  refine k_aload_n (pc := 0) N d21_0 rfl rfl ?_
  refine k_get (pc := 1) (host := "") N 0 9 d21_1 (Or.inl (hw _ (List.mem_of_getElem? (i := 142) rfl))) Via.refl rfl rfl fun T N => ?_
  refine k_if_ne (pc := 4) N d21_4 (pc' := 24) (by decide) (fun qQ => absurd qQ (fun z => z rfl)) (fun _ => ?_)
  refine k_aload_n (pc := 7) N d21_7 rfl rfl ?_
  refine k_get (pc := 8) (host := "") N 0 1 d21_8 (Or.inl (hw _ (List.mem_of_getElem? (i := 30) rfl))) Via.refl rfl rfl fun T N => ?_
  refine k_iconst (pc := 11) N d21_11 (v := (-1 : Int32)) (by decide) ?_
  refine k_icmp_ne (pc := 12) N d21_12 (pc' := 24) (by decide) (fun qQ => absurd qQ (fun z => z rfl)) (fun _ => ?_)
  refine k_aload_n (pc := 15) N d21_15 rfl rfl ?_
  refine k_get (pc := 16) (host := "") N 0 5 d21_16 (Or.inl (hw _ (List.mem_of_getElem? (i := 64) rfl))) Via.refl rfl rfl fun T N => ?_
  refine k_iload_n (pc := 19) N d21_19 rfl ?_
  refine k_daload (pc := 20) N 3 1 d21_20 rfl (by decide) (by decide) (v := .double (FP.i2d Y1)) rfl ?_
  refine k_dload_n (pc := 21) N d21_21 rfl ?_
  refine k_dadd (pc := 22) N d21_22 (v := (FP.i2d Y1)) (add0n Y1) (add0 Y1) ?_
  exact k_dreturn (pc := 23) N d21_23 rfl (by decide) (by decide) ⟨rfl, rfl⟩
set_option maxRecDepth 65536 in
theorem ef_c_gy1 (m : MethodId) (z0 : Addr) (z1 : Int32) : entryFrame m ([.ref z0, .int z1] : List Value).toArray 2 = mkF m 0 #[.val (.ref z0), .val (.int z1)] [] := by first | (simp [entryFrame, mkF, argsToLocals, Value.category]; done) | rfl
def rm_c_gy1 : Room := { frames := 1, cells := 0, slots := 0, locals := 15 }
set_option maxRecDepth 65536 in
set_option maxHeartbeats 40000000 in
theorem c_gy1 (l : Launch) (Z : State) (a0 : Array Value) (hw : ∀ d ∈ tables_1, d.before a0 Z = true) (ev lv nb nx ny : Addr) (t : Int64) (kb kx ky : ClassId) (lo hi : Nat) (X0 X1 Y0 Y1 : Int32) (rest : List Ent) :
    OMeets l (⟨"com/example/tapflow/tapflow/MotionEvent", "getY", "(I)D"⟩ : MethodName) prog_5_method_12_code 2 (some .double) rm_c_gy1 Z [.ref ev, .int (1 : Int32)] ((oMe Z ev (.ref lv) (.int (-1 : Int32)) (.long t) (.ref nb) (.ref nx) (.ref ny) (.int (2 : Int32)) (.double (0 : UInt64)) (.double (0 : UInt64)) (.int (0 : Int32))) :: (oArr Z nb kb .int [.int (nd lo), .int (nd hi)]) :: (oArr Z nx kx .double [.double (FP.i2d X0), .double (FP.i2d X1)]) :: (oArr Z ny ky .double [.double (FP.i2d Y0), .double (FP.i2d Y1)]) :: rest) (fun v K => v = some (.double (FP.i2d Y1)) ∧ K = (oMe Z ev (.ref lv) (.int (-1 : Int32)) (.long t) (.ref nb) (.ref nx) (.ref ny) (.int (2 : Int32)) (.double (0 : UInt64)) (.double (0 : UInt64)) (.int (0 : Int32))) :: (oArr Z nb kb .int [.int (nd lo), .int (nd hi)]) :: (oArr Z nx kx .double [.double (FP.i2d X0), .double (FP.i2d X1)]) :: (oArr Z ny ky .double [.double (FP.i2d Y0), .double (FP.i2d Y1)]) :: rest) := by
  refine OMeets.of_body (plainFor_of_name pn_com_example_tapflow_tapflow_MotionEvent) #[.val (.ref ev), .val (.int (1 : Int32))] (fun m => ef_c_gy1 m ev (1 : Int32)) fun pP eE sS mM bB hH cC T N => ?_
  refine k_aload_n (pc := 0) N d20_0 rfl rfl ?_
  refine k_iload_n (pc := 1) N d20_1 rfl ?_
  refine k_aload_n (pc := 2) N d20_2 rfl rfl ?_
  refine k_get (pc := 3) (host := "") N 0 8 d20_3 (Or.inl (hw _ (List.mem_of_getElem? (i := 149) rfl))) Via.refl rfl rfl fun T N => ?_
  refine k_private (pc := 6) N (y := (⟨"com/example/tapflow/tapflow/MotionEvent", "y", "(ID)D"⟩ : MethodName)) (rest := []) [.int (1 : Int32), .double (0 : UInt64)] (a := ev) 0 d20_6 rfl (hw _ (List.mem_of_getElem? (i := 20) rfl)) (hw _ (List.mem_of_getElem? (i := 151) rfl)) (hw _ (List.mem_of_getElem? (i := 152) rfl)) (hw _ (List.mem_of_getElem? (i := 153) rfl)) (hw _ (List.mem_of_getElem? (i := 21) rfl)) (hw _ (List.mem_of_getElem? (i := 154) rfl)) (by decide) pd__ID_D rfl (c_y1 l Z a0 hw ev lv nb nx ny t kb kx ky lo hi X0 X1 Y0 Y1 rest) rfl rfl 0 rfl (by decide) (by decide) (cells' := 0) rfl (slots' := 0) rfl (by decide) (by decide) fun T vV K' N qQ => ?_
  obtain ⟨rfl, rfl⟩ := qQ
  exact k_dreturn (pc := 9) N d20_9 rfl (by decide) (by decide) ⟨rfl, rfl⟩
set_option maxRecDepth 65536 in
theorem ef_c_pinit (m : MethodId) (z0 : Addr) : entryFrame m ([.ref z0] : List Value).toArray 1 = mkF m 0 #[.val (.ref z0)] [] := by first | (simp [entryFrame, mkF, argsToLocals, Value.category]; done) | rfl
def rm_c_pinit : Room := { frames := 1, cells := 3, slots := 192, locals := 12 }
set_option maxRecDepth 65536 in
set_option maxHeartbeats 40000000 in
theorem c_pinit (l : Launch) (Z : State) (a0 : Array Value) (hw : ∀ d ∈ tables_1, d.before a0 Z = true) (p : Addr) (rest : List Ent) :
    OMeets l (⟨"com/example/tapflow/tapflow/VelocityTracker$Positions", "<init>", "()V"⟩ : MethodName) prog_16_method_1_code 1 none rm_c_pinit Z [.ref p] ((oPo Z p .null .null .null (.int (0 : Int32)) (.int (0 : Int32)) (.double (0 : UInt64)) (.double (0 : UInt64))) :: rest) (fun v K => ∃ (ta xa ya : Addr) (kt kxa kya : ClassId), v = none ∧ K = (oPo Z p (.ref ta) (.ref xa) (.ref ya) (.int (0 : Int32)) (.int (0 : Int32)) (.double (0 : UInt64)) (.double (0 : UInt64))) :: (oArr Z ta kt .long (lA 64 zl)) :: (oArr Z xa kxa .double (dA 64 zd)) :: (oArr Z ya kya .double (dA 64 zd)) :: rest) := by
  refine OMeets.of_body (plainFor_of_name pn_com_example_tapflow_tapflow_VelocityTracker_Positions) #[.val (.ref p)] (fun m => ef_c_pinit m p) fun pP eE sS mM bB hH cC T N => ?_
  refine k_aload_n (pc := 0) N d17_0 rfl rfl ?_
  refine initO_k (pc := 1) N 0 d17_1 (hw _ (List.mem_of_getElem? (i := 122) rfl)) (hw _ (List.mem_of_getElem? (i := 9) rfl)) (hw _ (List.mem_of_getElem? (i := 10) rfl)) rfl rfl (by decide) (by decide) fun T N => ?_
  refine k_aload_n (pc := 4) N d17_4 rfl rfl ?_
  refine k_bipush (pc := 5) N d17_5 (v := (64 : Int32)) (by decide) ?_
  refine k_newarray (pc := 7) N 64 d17_7 (ty := .long) rfl (hw _ (List.mem_of_getElem? (i := 123) rfl)) (by decide) (by decide) (by decide) (vs := (lA 64 zl)) (aF_rep _) (by decide) (by decide) fun T ta tak N => ?_
  refine k_put (pc := 9) (host := "") N 1 0 d17_9 (Or.inl (hw _ (List.mem_of_getElem? (i := 124) rfl))) Via.refl rfl rfl (Or.inr ⟨(hw _ (List.mem_of_getElem? (i := 125) rfl)), rfl, rfl⟩) (hw _ (List.mem_of_getElem? (i := 117) rfl)) (ty := (.array .long)) (by decide) rfl rfl (K' := ((oArr Z ta tak .long (lA 64 zl)) :: (oPo Z p (.ref ta) .null .null (.int (0 : Int32)) (.int (0 : Int32)) (.double (0 : UInt64)) (.double (0 : UInt64))) :: rest)) rfl fun T N => ?_
  refine k_aload_n (pc := 12) N d17_12 rfl rfl ?_
  refine k_bipush (pc := 13) N d17_13 (v := (64 : Int32)) (by decide) ?_
  refine k_newarray (pc := 15) N 64 d17_15 (ty := .double) rfl (hw _ (List.mem_of_getElem? (i := 1) rfl)) (by decide) (by decide) (by decide) (vs := (dA 64 zd)) (aF_rep _) (by decide) (by decide) fun T xa xak N => ?_
  refine k_put (pc := 17) (host := "") N 2 1 d17_17 (Or.inl (hw _ (List.mem_of_getElem? (i := 126) rfl))) Via.refl rfl rfl (Or.inr ⟨(hw _ (List.mem_of_getElem? (i := 127) rfl)), rfl, rfl⟩) (hw _ (List.mem_of_getElem? (i := 117) rfl)) (ty := (.array .double)) (by decide) rfl rfl (K' := ((oArr Z xa xak .double (dA 64 zd)) :: (oArr Z ta tak .long (lA 64 zl)) :: (oPo Z p (.ref ta) (.ref xa) .null (.int (0 : Int32)) (.int (0 : Int32)) (.double (0 : UInt64)) (.double (0 : UInt64))) :: rest)) rfl fun T N => ?_
  refine k_aload_n (pc := 20) N d17_20 rfl rfl ?_
  refine k_bipush (pc := 21) N d17_21 (v := (64 : Int32)) (by decide) ?_
  refine k_newarray (pc := 23) N 64 d17_23 (ty := .double) rfl (hw _ (List.mem_of_getElem? (i := 1) rfl)) (by decide) (by decide) (by decide) (vs := (dA 64 zd)) (aF_rep _) (by decide) (by decide) fun T ya yak N => ?_
  refine k_put (pc := 25) (host := "") N 3 2 d17_25 (Or.inl (hw _ (List.mem_of_getElem? (i := 128) rfl))) Via.refl rfl rfl (Or.inr ⟨(hw _ (List.mem_of_getElem? (i := 129) rfl)), rfl, rfl⟩) (hw _ (List.mem_of_getElem? (i := 117) rfl)) (ty := (.array .double)) (by decide) rfl rfl (K' := ((oArr Z ya yak .double (dA 64 zd)) :: (oArr Z xa xak .double (dA 64 zd)) :: (oArr Z ta tak .long (lA 64 zl)) :: (oPo Z p (.ref ta) (.ref xa) (.ref ya) (.int (0 : Int32)) (.int (0 : Int32)) (.double (0 : UInt64)) (.double (0 : UInt64))) :: rest)) rfl fun T N => ?_
  replace N := ONow.sel (F := [oArr Z ya yak .double (dA 64 zd), oArr Z xa xak .double (dA 64 zd), oArr Z ta tak .long (lA 64 zl), oPo Z p (.ref ta) (.ref xa) (.ref ya) (.int (0 : Int32)) (.int (0 : Int32)) (.double (0 : UInt64)) (.double (0 : UInt64))]) (F' := [oPo Z p (.ref ta) (.ref xa) (.ref ya) (.int (0 : Int32)) (.int (0 : Int32)) (.double (0 : UInt64)) (.double (0 : UInt64)), oArr Z ta tak .long (lA 64 zl), oArr Z xa xak .double (dA 64 zd), oArr Z ya yak .double (dA 64 zd)]) (rest := rest) N [3, 2, 1, 0] (by decide) rfl
  exact k_return (pc := 28) N d17_28 rfl (by decide) (by decide) ⟨ta, xa, ya, tak, xak, yak, rfl, rfl⟩
set_option maxRecDepth 65536 in
theorem ef_c_min (m : MethodId) (z0 : Int32) (z1 : Int32) : entryFrame m ([.int z0, .int z1] : List Value).toArray 2 = mkF m 0 #[.val (.int z0), .val (.int z1)] [] := by first | (simp [entryFrame, mkF, argsToLocals, Value.category]; done) | rfl
def rm_c_min : Room := { frames := 0, cells := 0, slots := 0, locals := 0 }
set_option maxRecDepth 65536 in
set_option maxHeartbeats 40000000 in
theorem c_min (l : Launch) (Z : State) (a0 : Array Value) (hw : ∀ d ∈ tables_1, d.before a0 Z = true) (x y : Int32) (rest : List Ent) :
    OMeets l (⟨"java/lang/Math", "min", "(II)I"⟩ : MethodName) jdk_29_method_69_code 2 (some .int) rm_c_min Z [.int x, .int y] rest (fun v K => v = some (.int (if y < x then y else x)) ∧ rest = K) := by
  refine OMeets.of_body (Jvm.Free.JP.mathPlain rfl (by decide +kernel)) #[.val (.int x), .val (.int y)] (fun m => ef_c_min m x y) fun pP eE sS mM bB hH cC T N => ?_
  refine k_iload_n (pc := 0) N d23_0 rfl ?_
  refine k_iload_n (pc := 1) N d23_1 rfl ?_
  refine k_icmp_gt (pc := 2) N d23_2 (pc' := 9) (by decide) (fun c2 => ?_) (fun c2 => ?_)
  · refine k_iload_n (pc := 9) N d23_9 rfl ?_
    exact k_ireturn (pc := 10) N d23_10 rfl (by decide) (by decide) ⟨by simp [c2], rfl⟩
  · refine k_iload_n (pc := 5) N d23_5 rfl ?_
    refine k_goto (pc := 6) N d23_6 (pc' := 10) (by decide) ?_
    exact k_ireturn (pc := 10) N d23_10 rfl (by decide) (by decide) ⟨by simp [c2], rfl⟩
set_option maxRecDepth 65536 in
theorem ef_c_padd0 (m : MethodId) (z0 : Addr) (z1 : Int64) (z2 : UInt64) (z3 : UInt64) : entryFrame m ([.ref z0, .long z1, .double z2, .double z3] : List Value).toArray 7 = mkF m 0 #[.val (.ref z0), .val (.long z1), .second, .val (.double z2), .second, .val (.double z3), .second] [] := by first | (simp [entryFrame, mkF, argsToLocals, Value.category]; done) | rfl
def rm_c_padd0 : Room := { frames := 1, cells := 0, slots := 0, locals := 14 }
set_option maxRecDepth 65536 in
set_option maxHeartbeats 40000000 in
theorem c_padd0 (l : Launch) (Z : State) (a0 : Array Value) (hw : ∀ d ∈ tables_1, d.before a0 Z = true) (p ta xa ya : Addr) (kt kxa kya : ClassId) (ft : Nat → Int64) (fx fy : Nat → UInt64) (sx sy : UInt64) (t : Int64) (u v : UInt64) (rest : List Ent) :
    OMeets l (⟨"com/example/tapflow/tapflow/VelocityTracker$Positions", "add", "(JDD)V"⟩ : MethodName) prog_16_method_2_code 7 none rm_c_padd0 Z [.ref p, .long t, .double u, .double v] ((oPo Z p (.ref ta) (.ref xa) (.ref ya) (.int (0 : Int32)) (.int (0 : Int32)) (.double sx) (.double sy)) :: (oArr Z ta kt .long (lA 64 ft)) :: (oArr Z xa kxa .double (dA 64 fx)) :: (oArr Z ya kya .double (dA 64 fy)) :: rest) (fun v_ K => v_ = none ∧ K = (oPo Z p (.ref ta) (.ref xa) (.ref ya) (.int (1 : Int32)) (.int (1 : Int32)) (.double sx) (.double sy)) :: (oArr Z ta kt .long (lA 64 (upd ft 0 t))) :: (oArr Z xa kxa .double (dA 64 (upd fx 0 u))) :: (oArr Z ya kya .double (dA 64 (upd fy 0 v))) :: rest) := by
  refine OMeets.of_body (plainFor_of_name pn_com_example_tapflow_tapflow_VelocityTracker_Positions) #[.val (.ref p), .val (.long t), .second, .val (.double u), .second, .val (.double v), .second] (fun m => ef_c_padd0 m p t u v) fun pP eE sS mM bB hH cC T N => ?_
  refine k_aload_n (pc := 0) N d22_0 rfl rfl ?_
  refine k_get (pc := 1) (host := "") N 0 0 d22_1 (Or.inl (hw _ (List.mem_of_getElem? (i := 124) rfl))) Via.refl rfl rfl fun T N => ?_
  refine k_aload_n (pc := 4) N d22_4 rfl rfl ?_
  refine k_get (pc := 5) (host := "") N 0 4 d22_5 (Or.inl (hw _ (List.mem_of_getElem? (i := 160) rfl))) Via.refl rfl rfl fun T N => ?_
  refine k_lload_n (pc := 8) N d22_8 rfl ?_
  refine k_lastore (pc := 9) N 1 0 d22_9 rfl (by decide) (by decide) (by rw [lA_len]; exact (by decide)) (v := .long t) rfl (K' := ((oPo Z p (.ref ta) (.ref xa) (.ref ya) (.int (0 : Int32)) (.int (0 : Int32)) (.double sx) (.double sy)) :: (oArr Z ta kt .long (lA 64 (upd ft 0 t))) :: (oArr Z xa kxa .double (dA 64 fx)) :: (oArr Z ya kya .double (dA 64 fy)) :: rest)) (by rw [set_lA]; rfl) fun T N => ?_
  refine k_aload_n (pc := 10) N d22_10 rfl rfl ?_
  refine k_get (pc := 11) (host := "") N 0 1 d22_11 (Or.inl (hw _ (List.mem_of_getElem? (i := 126) rfl))) Via.refl rfl rfl fun T N => ?_
  refine k_aload_n (pc := 14) N d22_14 rfl rfl ?_
  refine k_get (pc := 15) (host := "") N 0 4 d22_15 (Or.inl (hw _ (List.mem_of_getElem? (i := 160) rfl))) Via.refl rfl rfl fun T N => ?_
  refine k_dload_n (pc := 18) N d22_18 rfl ?_
  refine k_dastore (pc := 19) N 2 0 d22_19 rfl (by decide) (by decide) (by rw [dA_len]; exact (by decide)) (v := .double u) rfl (K' := ((oPo Z p (.ref ta) (.ref xa) (.ref ya) (.int (0 : Int32)) (.int (0 : Int32)) (.double sx) (.double sy)) :: (oArr Z ta kt .long (lA 64 (upd ft 0 t))) :: (oArr Z xa kxa .double (dA 64 (upd fx 0 u))) :: (oArr Z ya kya .double (dA 64 fy)) :: rest)) (by rw [set_dA]; rfl) fun T N => ?_
  refine k_aload_n (pc := 20) N d22_20 rfl rfl ?_
  refine k_get (pc := 21) (host := "") N 0 2 d22_21 (Or.inl (hw _ (List.mem_of_getElem? (i := 128) rfl))) Via.refl rfl rfl fun T N => ?_
  refine k_aload_n (pc := 24) N d22_24 rfl rfl ?_
  refine k_get (pc := 25) (host := "") N 0 4 d22_25 (Or.inl (hw _ (List.mem_of_getElem? (i := 160) rfl))) Via.refl rfl rfl fun T N => ?_
  refine k_dload (pc := 28) N d22_28 rfl ?_
  refine k_dastore (pc := 30) N 3 0 d22_30 rfl (by decide) (by decide) (by rw [dA_len]; exact (by decide)) (v := .double v) rfl (K' := ((oPo Z p (.ref ta) (.ref xa) (.ref ya) (.int (0 : Int32)) (.int (0 : Int32)) (.double sx) (.double sy)) :: (oArr Z ta kt .long (lA 64 (upd ft 0 t))) :: (oArr Z xa kxa .double (dA 64 (upd fx 0 u))) :: (oArr Z ya kya .double (dA 64 (upd fy 0 v))) :: rest)) (by rw [set_dA]; rfl) fun T N => ?_
  refine k_aload_n (pc := 31) N d22_31 rfl rfl ?_
  refine k_aload_n (pc := 32) N d22_32 rfl rfl ?_
  refine k_get (pc := 33) (host := "") N 0 4 d22_33 (Or.inl (hw _ (List.mem_of_getElem? (i := 160) rfl))) Via.refl rfl rfl fun T N => ?_
  refine k_iconst (pc := 36) N d22_36 (v := (1 : Int32)) (by decide) ?_
  refine k_iadd (pc := 37) N d22_37 ?_
  rw [show ((0 : Int32) + (1 : Int32)) = (1 : Int32) by decide]
  refine k_bipush (pc := 38) N d22_38 (v := (64 : Int32)) (by decide) ?_
  refine k_irem (pc := 40) N d22_40 (by decide) ?_
  rw [show ((1 : Int32) % (64 : Int32)) = (1 : Int32) by decide]
  refine k_put (pc := 41) (host := "") N 0 4 d22_41 (Or.inl (hw _ (List.mem_of_getElem? (i := 160) rfl))) Via.refl rfl rfl (Or.inl (hw _ (List.mem_of_getElem? (i := 161) rfl))) (hw _ (List.mem_of_getElem? (i := 117) rfl)) (ty := .int) (by decide) rfl rfl (K' := ((oPo Z p (.ref ta) (.ref xa) (.ref ya) (.int (0 : Int32)) (.int (1 : Int32)) (.double sx) (.double sy)) :: (oArr Z ta kt .long (lA 64 (upd ft 0 t))) :: (oArr Z xa kxa .double (dA 64 (upd fx 0 u))) :: (oArr Z ya kya .double (dA 64 (upd fy 0 v))) :: rest)) rfl fun T N => ?_
  refine k_aload_n (pc := 44) N d22_44 rfl rfl ?_
  refine k_aload_n (pc := 45) N d22_45 rfl rfl ?_
  refine k_get (pc := 46) (host := "") N 0 3 d22_46 (Or.inl (hw _ (List.mem_of_getElem? (i := 162) rfl))) Via.refl rfl rfl fun T N => ?_
  refine k_iconst (pc := 49) N d22_49 (v := (1 : Int32)) (by decide) ?_
  refine k_iadd (pc := 50) N d22_50 ?_
  rw [show ((0 : Int32) + (1 : Int32)) = (1 : Int32) by decide]
  refine k_bipush (pc := 51) N d22_51 (v := (64 : Int32)) (by decide) ?_
  refine k_static (pc := 53) N (y := (⟨"java/lang/Math", "min", "(II)I"⟩ : MethodName)) (rest := [.ref p]) [.int (1 : Int32), .int (64 : Int32)] d22_53 (hw _ (List.mem_of_getElem? (i := 164) rfl)) (hw _ (List.mem_of_getElem? (i := 165) rfl)) (hw _ (List.mem_of_getElem? (i := 40) rfl)) (hw _ (List.mem_of_getElem? (i := 166) rfl)) (by decide) pd__II_I rfl (c_min l Z a0 hw (1 : Int32) (64 : Int32) ((oPo Z p (.ref ta) (.ref xa) (.ref ya) (.int (0 : Int32)) (.int (1 : Int32)) (.double sx) (.double sy)) :: (oArr Z ta kt .long (lA 64 (upd ft 0 t))) :: (oArr Z xa kxa .double (dA 64 (upd fx 0 u))) :: (oArr Z ya kya .double (dA 64 (upd fy 0 v))) :: rest)) rfl rfl 1 rfl (by decide) (by decide) (cells' := 0) rfl (slots' := 0) rfl (by decide) (by decide) fun T vV K' N qQ => ?_
  obtain ⟨rfl, rfl⟩ := qQ
  rw [show (if (64 : Int32) < (1 : Int32) then (64 : Int32) else (1 : Int32)) = (1 : Int32) by decide]
  refine k_put (pc := 56) (host := "") N 0 3 d22_56 (Or.inl (hw _ (List.mem_of_getElem? (i := 162) rfl))) Via.refl rfl rfl (Or.inl (hw _ (List.mem_of_getElem? (i := 163) rfl))) (hw _ (List.mem_of_getElem? (i := 117) rfl)) (ty := .int) (by decide) rfl rfl (K' := ((oPo Z p (.ref ta) (.ref xa) (.ref ya) (.int (1 : Int32)) (.int (1 : Int32)) (.double sx) (.double sy)) :: (oArr Z ta kt .long (lA 64 (upd ft 0 t))) :: (oArr Z xa kxa .double (dA 64 (upd fx 0 u))) :: (oArr Z ya kya .double (dA 64 (upd fy 0 v))) :: rest)) rfl fun T N => ?_
  exact k_return (pc := 59) N d22_59 rfl (by decide) (by decide) ⟨rfl, rfl⟩
set_option maxRecDepth 65536 in
theorem ef_c_padd1 (m : MethodId) (z0 : Addr) (z1 : Int64) (z2 : UInt64) (z3 : UInt64) : entryFrame m ([.ref z0, .long z1, .double z2, .double z3] : List Value).toArray 7 = mkF m 0 #[.val (.ref z0), .val (.long z1), .second, .val (.double z2), .second, .val (.double z3), .second] [] := by first | (simp [entryFrame, mkF, argsToLocals, Value.category]; done) | rfl
def rm_c_padd1 : Room := { frames := 1, cells := 0, slots := 0, locals := 14 }
set_option maxRecDepth 65536 in
set_option maxHeartbeats 40000000 in
theorem c_padd1 (l : Launch) (Z : State) (a0 : Array Value) (hw : ∀ d ∈ tables_1, d.before a0 Z = true) (p ta xa ya : Addr) (kt kxa kya : ClassId) (ft : Nat → Int64) (fx fy : Nat → UInt64) (sx sy : UInt64) (t : Int64) (u v : UInt64) (rest : List Ent) :
    OMeets l (⟨"com/example/tapflow/tapflow/VelocityTracker$Positions", "add", "(JDD)V"⟩ : MethodName) prog_16_method_2_code 7 none rm_c_padd1 Z [.ref p, .long t, .double u, .double v] ((oPo Z p (.ref ta) (.ref xa) (.ref ya) (.int (1 : Int32)) (.int (1 : Int32)) (.double sx) (.double sy)) :: (oArr Z ta kt .long (lA 64 ft)) :: (oArr Z xa kxa .double (dA 64 fx)) :: (oArr Z ya kya .double (dA 64 fy)) :: rest) (fun v_ K => v_ = none ∧ K = (oPo Z p (.ref ta) (.ref xa) (.ref ya) (.int (2 : Int32)) (.int (2 : Int32)) (.double sx) (.double sy)) :: (oArr Z ta kt .long (lA 64 (upd ft 1 t))) :: (oArr Z xa kxa .double (dA 64 (upd fx 1 u))) :: (oArr Z ya kya .double (dA 64 (upd fy 1 v))) :: rest) := by
  refine OMeets.of_body (plainFor_of_name pn_com_example_tapflow_tapflow_VelocityTracker_Positions) #[.val (.ref p), .val (.long t), .second, .val (.double u), .second, .val (.double v), .second] (fun m => ef_c_padd1 m p t u v) fun pP eE sS mM bB hH cC T N => ?_
  refine k_aload_n (pc := 0) N d22_0 rfl rfl ?_
  refine k_get (pc := 1) (host := "") N 0 0 d22_1 (Or.inl (hw _ (List.mem_of_getElem? (i := 124) rfl))) Via.refl rfl rfl fun T N => ?_
  refine k_aload_n (pc := 4) N d22_4 rfl rfl ?_
  refine k_get (pc := 5) (host := "") N 0 4 d22_5 (Or.inl (hw _ (List.mem_of_getElem? (i := 160) rfl))) Via.refl rfl rfl fun T N => ?_
  refine k_lload_n (pc := 8) N d22_8 rfl ?_
  refine k_lastore (pc := 9) N 1 1 d22_9 rfl (by decide) (by decide) (by rw [lA_len]; exact (by decide)) (v := .long t) rfl (K' := ((oPo Z p (.ref ta) (.ref xa) (.ref ya) (.int (1 : Int32)) (.int (1 : Int32)) (.double sx) (.double sy)) :: (oArr Z ta kt .long (lA 64 (upd ft 1 t))) :: (oArr Z xa kxa .double (dA 64 fx)) :: (oArr Z ya kya .double (dA 64 fy)) :: rest)) (by rw [set_lA]; rfl) fun T N => ?_
  refine k_aload_n (pc := 10) N d22_10 rfl rfl ?_
  refine k_get (pc := 11) (host := "") N 0 1 d22_11 (Or.inl (hw _ (List.mem_of_getElem? (i := 126) rfl))) Via.refl rfl rfl fun T N => ?_
  refine k_aload_n (pc := 14) N d22_14 rfl rfl ?_
  refine k_get (pc := 15) (host := "") N 0 4 d22_15 (Or.inl (hw _ (List.mem_of_getElem? (i := 160) rfl))) Via.refl rfl rfl fun T N => ?_
  refine k_dload_n (pc := 18) N d22_18 rfl ?_
  refine k_dastore (pc := 19) N 2 1 d22_19 rfl (by decide) (by decide) (by rw [dA_len]; exact (by decide)) (v := .double u) rfl (K' := ((oPo Z p (.ref ta) (.ref xa) (.ref ya) (.int (1 : Int32)) (.int (1 : Int32)) (.double sx) (.double sy)) :: (oArr Z ta kt .long (lA 64 (upd ft 1 t))) :: (oArr Z xa kxa .double (dA 64 (upd fx 1 u))) :: (oArr Z ya kya .double (dA 64 fy)) :: rest)) (by rw [set_dA]; rfl) fun T N => ?_
  refine k_aload_n (pc := 20) N d22_20 rfl rfl ?_
  refine k_get (pc := 21) (host := "") N 0 2 d22_21 (Or.inl (hw _ (List.mem_of_getElem? (i := 128) rfl))) Via.refl rfl rfl fun T N => ?_
  refine k_aload_n (pc := 24) N d22_24 rfl rfl ?_
  refine k_get (pc := 25) (host := "") N 0 4 d22_25 (Or.inl (hw _ (List.mem_of_getElem? (i := 160) rfl))) Via.refl rfl rfl fun T N => ?_
  refine k_dload (pc := 28) N d22_28 rfl ?_
  refine k_dastore (pc := 30) N 3 1 d22_30 rfl (by decide) (by decide) (by rw [dA_len]; exact (by decide)) (v := .double v) rfl (K' := ((oPo Z p (.ref ta) (.ref xa) (.ref ya) (.int (1 : Int32)) (.int (1 : Int32)) (.double sx) (.double sy)) :: (oArr Z ta kt .long (lA 64 (upd ft 1 t))) :: (oArr Z xa kxa .double (dA 64 (upd fx 1 u))) :: (oArr Z ya kya .double (dA 64 (upd fy 1 v))) :: rest)) (by rw [set_dA]; rfl) fun T N => ?_
  refine k_aload_n (pc := 31) N d22_31 rfl rfl ?_
  refine k_aload_n (pc := 32) N d22_32 rfl rfl ?_
  refine k_get (pc := 33) (host := "") N 0 4 d22_33 (Or.inl (hw _ (List.mem_of_getElem? (i := 160) rfl))) Via.refl rfl rfl fun T N => ?_
  refine k_iconst (pc := 36) N d22_36 (v := (1 : Int32)) (by decide) ?_
  refine k_iadd (pc := 37) N d22_37 ?_
  rw [show ((1 : Int32) + (1 : Int32)) = (2 : Int32) by decide]
  refine k_bipush (pc := 38) N d22_38 (v := (64 : Int32)) (by decide) ?_
  refine k_irem (pc := 40) N d22_40 (by decide) ?_
  rw [show ((2 : Int32) % (64 : Int32)) = (2 : Int32) by decide]
  refine k_put (pc := 41) (host := "") N 0 4 d22_41 (Or.inl (hw _ (List.mem_of_getElem? (i := 160) rfl))) Via.refl rfl rfl (Or.inl (hw _ (List.mem_of_getElem? (i := 161) rfl))) (hw _ (List.mem_of_getElem? (i := 117) rfl)) (ty := .int) (by decide) rfl rfl (K' := ((oPo Z p (.ref ta) (.ref xa) (.ref ya) (.int (1 : Int32)) (.int (2 : Int32)) (.double sx) (.double sy)) :: (oArr Z ta kt .long (lA 64 (upd ft 1 t))) :: (oArr Z xa kxa .double (dA 64 (upd fx 1 u))) :: (oArr Z ya kya .double (dA 64 (upd fy 1 v))) :: rest)) rfl fun T N => ?_
  refine k_aload_n (pc := 44) N d22_44 rfl rfl ?_
  refine k_aload_n (pc := 45) N d22_45 rfl rfl ?_
  refine k_get (pc := 46) (host := "") N 0 3 d22_46 (Or.inl (hw _ (List.mem_of_getElem? (i := 162) rfl))) Via.refl rfl rfl fun T N => ?_
  refine k_iconst (pc := 49) N d22_49 (v := (1 : Int32)) (by decide) ?_
  refine k_iadd (pc := 50) N d22_50 ?_
  rw [show ((1 : Int32) + (1 : Int32)) = (2 : Int32) by decide]
  refine k_bipush (pc := 51) N d22_51 (v := (64 : Int32)) (by decide) ?_
  refine k_static (pc := 53) N (y := (⟨"java/lang/Math", "min", "(II)I"⟩ : MethodName)) (rest := [.ref p]) [.int (2 : Int32), .int (64 : Int32)] d22_53 (hw _ (List.mem_of_getElem? (i := 164) rfl)) (hw _ (List.mem_of_getElem? (i := 165) rfl)) (hw _ (List.mem_of_getElem? (i := 40) rfl)) (hw _ (List.mem_of_getElem? (i := 166) rfl)) (by decide) pd__II_I rfl (c_min l Z a0 hw (2 : Int32) (64 : Int32) ((oPo Z p (.ref ta) (.ref xa) (.ref ya) (.int (1 : Int32)) (.int (2 : Int32)) (.double sx) (.double sy)) :: (oArr Z ta kt .long (lA 64 (upd ft 1 t))) :: (oArr Z xa kxa .double (dA 64 (upd fx 1 u))) :: (oArr Z ya kya .double (dA 64 (upd fy 1 v))) :: rest)) rfl rfl 1 rfl (by decide) (by decide) (cells' := 0) rfl (slots' := 0) rfl (by decide) (by decide) fun T vV K' N qQ => ?_
  obtain ⟨rfl, rfl⟩ := qQ
  rw [show (if (64 : Int32) < (2 : Int32) then (64 : Int32) else (2 : Int32)) = (2 : Int32) by decide]
  refine k_put (pc := 56) (host := "") N 0 3 d22_56 (Or.inl (hw _ (List.mem_of_getElem? (i := 162) rfl))) Via.refl rfl rfl (Or.inl (hw _ (List.mem_of_getElem? (i := 163) rfl))) (hw _ (List.mem_of_getElem? (i := 117) rfl)) (ty := .int) (by decide) rfl rfl (K' := ((oPo Z p (.ref ta) (.ref xa) (.ref ya) (.int (2 : Int32)) (.int (2 : Int32)) (.double sx) (.double sy)) :: (oArr Z ta kt .long (lA 64 (upd ft 1 t))) :: (oArr Z xa kxa .double (dA 64 (upd fx 1 u))) :: (oArr Z ya kya .double (dA 64 (upd fy 1 v))) :: rest)) rfl fun T N => ?_
  exact k_return (pc := 59) N d22_59 rfl (by decide) (by decide) ⟨rfl, rfl⟩
set_option maxRecDepth 65536 in
theorem ef_c_padd2 (m : MethodId) (z0 : Addr) (z1 : Int64) (z2 : UInt64) (z3 : UInt64) : entryFrame m ([.ref z0, .long z1, .double z2, .double z3] : List Value).toArray 7 = mkF m 0 #[.val (.ref z0), .val (.long z1), .second, .val (.double z2), .second, .val (.double z3), .second] [] := by first | (simp [entryFrame, mkF, argsToLocals, Value.category]; done) | rfl
def rm_c_padd2 : Room := { frames := 1, cells := 0, slots := 0, locals := 14 }
set_option maxRecDepth 65536 in
set_option maxHeartbeats 40000000 in
theorem c_padd2 (l : Launch) (Z : State) (a0 : Array Value) (hw : ∀ d ∈ tables_1, d.before a0 Z = true) (p ta xa ya : Addr) (kt kxa kya : ClassId) (ft : Nat → Int64) (fx fy : Nat → UInt64) (sx sy : UInt64) (t : Int64) (u v : UInt64) (rest : List Ent) :
    OMeets l (⟨"com/example/tapflow/tapflow/VelocityTracker$Positions", "add", "(JDD)V"⟩ : MethodName) prog_16_method_2_code 7 none rm_c_padd2 Z [.ref p, .long t, .double u, .double v] ((oPo Z p (.ref ta) (.ref xa) (.ref ya) (.int (0 : Int32)) (.int (2 : Int32)) (.double sx) (.double sy)) :: (oArr Z ta kt .long (lA 64 ft)) :: (oArr Z xa kxa .double (dA 64 fx)) :: (oArr Z ya kya .double (dA 64 fy)) :: rest) (fun v_ K => v_ = none ∧ K = (oPo Z p (.ref ta) (.ref xa) (.ref ya) (.int (1 : Int32)) (.int (3 : Int32)) (.double sx) (.double sy)) :: (oArr Z ta kt .long (lA 64 (upd ft 2 t))) :: (oArr Z xa kxa .double (dA 64 (upd fx 2 u))) :: (oArr Z ya kya .double (dA 64 (upd fy 2 v))) :: rest) := by
  refine OMeets.of_body (plainFor_of_name pn_com_example_tapflow_tapflow_VelocityTracker_Positions) #[.val (.ref p), .val (.long t), .second, .val (.double u), .second, .val (.double v), .second] (fun m => ef_c_padd2 m p t u v) fun pP eE sS mM bB hH cC T N => ?_
  refine k_aload_n (pc := 0) N d22_0 rfl rfl ?_
  refine k_get (pc := 1) (host := "") N 0 0 d22_1 (Or.inl (hw _ (List.mem_of_getElem? (i := 124) rfl))) Via.refl rfl rfl fun T N => ?_
  refine k_aload_n (pc := 4) N d22_4 rfl rfl ?_
  refine k_get (pc := 5) (host := "") N 0 4 d22_5 (Or.inl (hw _ (List.mem_of_getElem? (i := 160) rfl))) Via.refl rfl rfl fun T N => ?_
  refine k_lload_n (pc := 8) N d22_8 rfl ?_
  refine k_lastore (pc := 9) N 1 2 d22_9 rfl (by decide) (by decide) (by rw [lA_len]; exact (by decide)) (v := .long t) rfl (K' := ((oPo Z p (.ref ta) (.ref xa) (.ref ya) (.int (0 : Int32)) (.int (2 : Int32)) (.double sx) (.double sy)) :: (oArr Z ta kt .long (lA 64 (upd ft 2 t))) :: (oArr Z xa kxa .double (dA 64 fx)) :: (oArr Z ya kya .double (dA 64 fy)) :: rest)) (by rw [set_lA]; rfl) fun T N => ?_
  refine k_aload_n (pc := 10) N d22_10 rfl rfl ?_
  refine k_get (pc := 11) (host := "") N 0 1 d22_11 (Or.inl (hw _ (List.mem_of_getElem? (i := 126) rfl))) Via.refl rfl rfl fun T N => ?_
  refine k_aload_n (pc := 14) N d22_14 rfl rfl ?_
  refine k_get (pc := 15) (host := "") N 0 4 d22_15 (Or.inl (hw _ (List.mem_of_getElem? (i := 160) rfl))) Via.refl rfl rfl fun T N => ?_
  refine k_dload_n (pc := 18) N d22_18 rfl ?_
  refine k_dastore (pc := 19) N 2 2 d22_19 rfl (by decide) (by decide) (by rw [dA_len]; exact (by decide)) (v := .double u) rfl (K' := ((oPo Z p (.ref ta) (.ref xa) (.ref ya) (.int (0 : Int32)) (.int (2 : Int32)) (.double sx) (.double sy)) :: (oArr Z ta kt .long (lA 64 (upd ft 2 t))) :: (oArr Z xa kxa .double (dA 64 (upd fx 2 u))) :: (oArr Z ya kya .double (dA 64 fy)) :: rest)) (by rw [set_dA]; rfl) fun T N => ?_
  refine k_aload_n (pc := 20) N d22_20 rfl rfl ?_
  refine k_get (pc := 21) (host := "") N 0 2 d22_21 (Or.inl (hw _ (List.mem_of_getElem? (i := 128) rfl))) Via.refl rfl rfl fun T N => ?_
  refine k_aload_n (pc := 24) N d22_24 rfl rfl ?_
  refine k_get (pc := 25) (host := "") N 0 4 d22_25 (Or.inl (hw _ (List.mem_of_getElem? (i := 160) rfl))) Via.refl rfl rfl fun T N => ?_
  refine k_dload (pc := 28) N d22_28 rfl ?_
  refine k_dastore (pc := 30) N 3 2 d22_30 rfl (by decide) (by decide) (by rw [dA_len]; exact (by decide)) (v := .double v) rfl (K' := ((oPo Z p (.ref ta) (.ref xa) (.ref ya) (.int (0 : Int32)) (.int (2 : Int32)) (.double sx) (.double sy)) :: (oArr Z ta kt .long (lA 64 (upd ft 2 t))) :: (oArr Z xa kxa .double (dA 64 (upd fx 2 u))) :: (oArr Z ya kya .double (dA 64 (upd fy 2 v))) :: rest)) (by rw [set_dA]; rfl) fun T N => ?_
  refine k_aload_n (pc := 31) N d22_31 rfl rfl ?_
  refine k_aload_n (pc := 32) N d22_32 rfl rfl ?_
  refine k_get (pc := 33) (host := "") N 0 4 d22_33 (Or.inl (hw _ (List.mem_of_getElem? (i := 160) rfl))) Via.refl rfl rfl fun T N => ?_
  refine k_iconst (pc := 36) N d22_36 (v := (1 : Int32)) (by decide) ?_
  refine k_iadd (pc := 37) N d22_37 ?_
  rw [show ((2 : Int32) + (1 : Int32)) = (3 : Int32) by decide]
  refine k_bipush (pc := 38) N d22_38 (v := (64 : Int32)) (by decide) ?_
  refine k_irem (pc := 40) N d22_40 (by decide) ?_
  rw [show ((3 : Int32) % (64 : Int32)) = (3 : Int32) by decide]
  refine k_put (pc := 41) (host := "") N 0 4 d22_41 (Or.inl (hw _ (List.mem_of_getElem? (i := 160) rfl))) Via.refl rfl rfl (Or.inl (hw _ (List.mem_of_getElem? (i := 161) rfl))) (hw _ (List.mem_of_getElem? (i := 117) rfl)) (ty := .int) (by decide) rfl rfl (K' := ((oPo Z p (.ref ta) (.ref xa) (.ref ya) (.int (0 : Int32)) (.int (3 : Int32)) (.double sx) (.double sy)) :: (oArr Z ta kt .long (lA 64 (upd ft 2 t))) :: (oArr Z xa kxa .double (dA 64 (upd fx 2 u))) :: (oArr Z ya kya .double (dA 64 (upd fy 2 v))) :: rest)) rfl fun T N => ?_
  refine k_aload_n (pc := 44) N d22_44 rfl rfl ?_
  refine k_aload_n (pc := 45) N d22_45 rfl rfl ?_
  refine k_get (pc := 46) (host := "") N 0 3 d22_46 (Or.inl (hw _ (List.mem_of_getElem? (i := 162) rfl))) Via.refl rfl rfl fun T N => ?_
  refine k_iconst (pc := 49) N d22_49 (v := (1 : Int32)) (by decide) ?_
  refine k_iadd (pc := 50) N d22_50 ?_
  rw [show ((0 : Int32) + (1 : Int32)) = (1 : Int32) by decide]
  refine k_bipush (pc := 51) N d22_51 (v := (64 : Int32)) (by decide) ?_
  refine k_static (pc := 53) N (y := (⟨"java/lang/Math", "min", "(II)I"⟩ : MethodName)) (rest := [.ref p]) [.int (1 : Int32), .int (64 : Int32)] d22_53 (hw _ (List.mem_of_getElem? (i := 164) rfl)) (hw _ (List.mem_of_getElem? (i := 165) rfl)) (hw _ (List.mem_of_getElem? (i := 40) rfl)) (hw _ (List.mem_of_getElem? (i := 166) rfl)) (by decide) pd__II_I rfl (c_min l Z a0 hw (1 : Int32) (64 : Int32) ((oPo Z p (.ref ta) (.ref xa) (.ref ya) (.int (0 : Int32)) (.int (3 : Int32)) (.double sx) (.double sy)) :: (oArr Z ta kt .long (lA 64 (upd ft 2 t))) :: (oArr Z xa kxa .double (dA 64 (upd fx 2 u))) :: (oArr Z ya kya .double (dA 64 (upd fy 2 v))) :: rest)) rfl rfl 1 rfl (by decide) (by decide) (cells' := 0) rfl (slots' := 0) rfl (by decide) (by decide) fun T vV K' N qQ => ?_
  obtain ⟨rfl, rfl⟩ := qQ
  rw [show (if (64 : Int32) < (1 : Int32) then (64 : Int32) else (1 : Int32)) = (1 : Int32) by decide]
  refine k_put (pc := 56) (host := "") N 0 3 d22_56 (Or.inl (hw _ (List.mem_of_getElem? (i := 162) rfl))) Via.refl rfl rfl (Or.inl (hw _ (List.mem_of_getElem? (i := 163) rfl))) (hw _ (List.mem_of_getElem? (i := 117) rfl)) (ty := .int) (by decide) rfl rfl (K' := ((oPo Z p (.ref ta) (.ref xa) (.ref ya) (.int (1 : Int32)) (.int (3 : Int32)) (.double sx) (.double sy)) :: (oArr Z ta kt .long (lA 64 (upd ft 2 t))) :: (oArr Z xa kxa .double (dA 64 (upd fx 2 u))) :: (oArr Z ya kya .double (dA 64 (upd fy 2 v))) :: rest)) rfl fun T N => ?_
  exact k_return (pc := 59) N d22_59 rfl (by decide) (by decide) ⟨rfl, rfl⟩
set_option maxRecDepth 65536 in
theorem ef_c_vinit (m : MethodId) (z0 : Addr) : entryFrame m ([.ref z0] : List Value).toArray 1 = mkF m 0 #[.val (.ref z0)] [] := by first | (simp [entryFrame, mkF, argsToLocals, Value.category]; done) | rfl
def rm_c_vinit : Room := { frames := 1, cells := 3, slots := 96, locals := 12 }
set_option maxRecDepth 65536 in
set_option maxHeartbeats 40000000 in
theorem c_vinit (l : Launch) (Z : State) (a0 : Array Value) (hw : ∀ d ∈ tables_1, d.before a0 Z = true) (vt : Addr) (rest : List Ent) :
    OMeets l (⟨"com/example/tapflow/tapflow/VelocityTracker", "<init>", "()V"⟩ : MethodName) prog_15_method_1_code 1 none rm_c_vinit Z [.ref vt] ((oVt Z vt .null .null .null (.long (0 : Int64))) :: rest) (fun v K => ∃ (pa xv yv : Addr) (kpa kxv kyv : ClassId), Ovr Z kpa "com/example/tapflow/tapflow/VelocityTracker$Positions" ∧ v = none ∧ K = (oVt Z vt (.ref pa) (.ref xv) (.ref yv) (.long (0 : Int64))) :: (oArr Z pa kpa (.object "com/example/tapflow/tapflow/VelocityTracker$Positions") (vA 32 zn)) :: (oArr Z xv kxv .double (dA 32 zd)) :: (oArr Z yv kyv .double (dA 32 zd)) :: rest) := by
  refine OMeets.of_body (plainFor_of_name pn_com_example_tapflow_tapflow_VelocityTracker) #[.val (.ref vt)] (fun m => ef_c_vinit m vt) fun pP eE sS mM bB hH cC T N => ?_
  refine k_aload_n (pc := 0) N d1_0 rfl rfl ?_
  refine initO_k (pc := 1) N 0 d1_1 (hw _ (List.mem_of_getElem? (i := 8) rfl)) (hw _ (List.mem_of_getElem? (i := 9) rfl)) (hw _ (List.mem_of_getElem? (i := 10) rfl)) rfl rfl (by decide) (by decide) fun T N => ?_
  refine k_aload_n (pc := 4) N d1_4 rfl rfl ?_
  refine k_bipush (pc := 5) N d1_5 (v := (32 : Int32)) (by decide) ?_
  refine k_anewarray (pc := 7) N 32 d1_7 (hw _ (List.mem_of_getElem? (i := 11) rfl)) (hw _ (List.mem_of_getElem? (i := 12) rfl)) (by decide) (by decide) (by decide) (vs := (vA 32 zn)) (aF_rep _) (by decide) (by decide) fun T pa pak ov_pa N => ?_
  refine k_put (pc := 10) (host := "") N 1 0 d1_10 (Or.inl (hw _ (List.mem_of_getElem? (i := 13) rfl))) Via.refl rfl rfl (Or.inr ⟨(hw _ (List.mem_of_getElem? (i := 14) rfl)), rfl, rfl⟩) (hw _ (List.mem_of_getElem? (i := 3) rfl)) (ty := (.array (.object "com/example/tapflow/tapflow/VelocityTracker$Positions"))) (by decide) rfl rfl (K' := ((oArr Z pa pak (.object "com/example/tapflow/tapflow/VelocityTracker$Positions") (vA 32 zn)) :: (oVt Z vt (.ref pa) .null .null (.long (0 : Int64))) :: rest)) rfl fun T N => ?_
  refine k_aload_n (pc := 13) N d1_13 rfl rfl ?_
  refine k_bipush (pc := 14) N d1_14 (v := (32 : Int32)) (by decide) ?_
  refine k_newarray (pc := 16) N 32 d1_16 (ty := .double) rfl (hw _ (List.mem_of_getElem? (i := 1) rfl)) (by decide) (by decide) (by decide) (vs := (dA 32 zd)) (aF_rep _) (by decide) (by decide) fun T xv xvk N => ?_
  refine k_put (pc := 18) (host := "") N 2 1 d1_18 (Or.inl (hw _ (List.mem_of_getElem? (i := 15) rfl))) Via.refl rfl rfl (Or.inr ⟨(hw _ (List.mem_of_getElem? (i := 16) rfl)), rfl, rfl⟩) (hw _ (List.mem_of_getElem? (i := 3) rfl)) (ty := (.array .double)) (by decide) rfl rfl (K' := ((oArr Z xv xvk .double (dA 32 zd)) :: (oArr Z pa pak (.object "com/example/tapflow/tapflow/VelocityTracker$Positions") (vA 32 zn)) :: (oVt Z vt (.ref pa) (.ref xv) .null (.long (0 : Int64))) :: rest)) rfl fun T N => ?_
  refine k_aload_n (pc := 21) N d1_21 rfl rfl ?_
  refine k_bipush (pc := 22) N d1_22 (v := (32 : Int32)) (by decide) ?_
  refine k_newarray (pc := 24) N 32 d1_24 (ty := .double) rfl (hw _ (List.mem_of_getElem? (i := 1) rfl)) (by decide) (by decide) (by decide) (vs := (dA 32 zd)) (aF_rep _) (by decide) (by decide) fun T yv yvk N => ?_
  refine k_put (pc := 26) (host := "") N 3 2 d1_26 (Or.inl (hw _ (List.mem_of_getElem? (i := 17) rfl))) Via.refl rfl rfl (Or.inr ⟨(hw _ (List.mem_of_getElem? (i := 18) rfl)), rfl, rfl⟩) (hw _ (List.mem_of_getElem? (i := 3) rfl)) (ty := (.array .double)) (by decide) rfl rfl (K' := ((oArr Z yv yvk .double (dA 32 zd)) :: (oArr Z xv xvk .double (dA 32 zd)) :: (oArr Z pa pak (.object "com/example/tapflow/tapflow/VelocityTracker$Positions") (vA 32 zn)) :: (oVt Z vt (.ref pa) (.ref xv) (.ref yv) (.long (0 : Int64))) :: rest)) rfl fun T N => ?_
  replace N := ONow.sel (F := [oArr Z yv yvk .double (dA 32 zd), oArr Z xv xvk .double (dA 32 zd), oArr Z pa pak (.object "com/example/tapflow/tapflow/VelocityTracker$Positions") (vA 32 zn), oVt Z vt (.ref pa) (.ref xv) (.ref yv) (.long (0 : Int64))]) (F' := [oVt Z vt (.ref pa) (.ref xv) (.ref yv) (.long (0 : Int64)), oArr Z pa pak (.object "com/example/tapflow/tapflow/VelocityTracker$Positions") (vA 32 zn), oArr Z xv xvk .double (dA 32 zd), oArr Z yv yvk .double (dA 32 zd)]) (rest := rest) N [3, 2, 1, 0] (by decide) rfl
  exact k_return (pc := 29) N d1_29 rfl (by decide) (by decide) ⟨pa, xv, yv, pak, xvk, yvk, ov_pa, rfl, rfl⟩
set_option maxRecDepth 65536 in
theorem ef_c_pof0 (m : MethodId) (z0 : Addr) (z1 : Int32) : entryFrame m ([.ref z0, .int z1] : List Value).toArray 2 = mkF m 0 #[.val (.ref z0), .val (.int z1)] [] := by first | (simp [entryFrame, mkF, argsToLocals, Value.category]; done) | rfl
def rm_c_pof0 : Room := { frames := 2, cells := 4, slots := 199, locals := 27 }
set_option maxRecDepth 65536 in
set_option maxHeartbeats 40000000 in
theorem c_pof0 (l : Launch) (Z : State) (a0 : Array Value) (hw : ∀ d ∈ tables_1, d.before a0 Z = true) (vt pa xv yv : Addr) (kpa : ClassId) (ov : Ovr Z kpa "com/example/tapflow/tapflow/VelocityTracker$Positions") (lt : Int64) (P : Nat → Value) (id : Nat) (hid : id < 32) (hP : P id = .null) (rest : List Ent) :
    OMeets l (⟨"com/example/tapflow/tapflow/VelocityTracker", "positionsOf", "(I)Lcom/example/tapflow/tapflow/VelocityTracker$Positions;"⟩ : MethodName) prog_15_method_9_code 2 (some (.object "com/example/tapflow/tapflow/VelocityTracker$Positions")) rm_c_pof0 Z [.ref vt, .int (nd id)] ((oVt Z vt (.ref pa) (.ref xv) (.ref yv) (.long lt)) :: (oArr Z pa kpa (.object "com/example/tapflow/tapflow/VelocityTracker$Positions") (vA 32 P)) :: rest) (fun v K => ∃ (p ta xa ya : Addr) (kt kxa kya : ClassId), v = some (.ref p) ∧ K = (oVt Z vt (.ref pa) (.ref xv) (.ref yv) (.long lt)) :: (oArr Z pa kpa (.object "com/example/tapflow/tapflow/VelocityTracker$Positions") (vA 32 (upd P id (.ref p)))) :: (oPo Z p (.ref ta) (.ref xa) (.ref ya) (.int (0 : Int32)) (.int (0 : Int32)) (.double (0 : UInt64)) (.double (0 : UInt64))) :: (oArr Z ta kt .long (lA 64 zl)) :: (oArr Z xa kxa .double (dA 64 zd)) :: (oArr Z ya kya .double (dA 64 zd)) :: rest) := by
  refine OMeets.of_body (plainFor_of_name pn_com_example_tapflow_tapflow_VelocityTracker) #[.val (.ref vt), .val (.int (nd id))] (fun m => ef_c_pof0 m vt (nd id)) fun pP eE sS mM bB hH cC T N => ?_
  refine k_aload_n (pc := 0) N d16_0 rfl rfl ?_
  refine k_get (pc := 1) (host := "") N 0 0 d16_1 (Or.inl (hw _ (List.mem_of_getElem? (i := 13) rfl))) Via.refl rfl rfl fun T N => ?_
  refine k_iload_n (pc := 4) N d16_4 rfl ?_
  refine k_aaload (pc := 5) N 1 id d16_5 rfl rfl (nd_nn _ (Nat.lt_of_lt_of_le hid (by decide))) (nd_nat _ (Nat.lt_of_lt_of_le hid (by decide))) (v := .null) ((aF_get hid).trans (congrArg some hP)) ?_
  refine k_ifnonnull_no (pc := 6) N d16_6 ?_
  refine k_aload_n (pc := 9) N d16_9 rfl rfl ?_
  refine k_get (pc := 10) (host := "") N 0 0 d16_10 (Or.inl (hw _ (List.mem_of_getElem? (i := 13) rfl))) Via.refl rfl rfl fun T N => ?_
  refine k_iload_n (pc := 13) N d16_13 rfl ?_
  refine k_new (pc := 14) N d16_14 (hw _ (List.mem_of_getElem? (i := 11) rfl)) (hw _ (List.mem_of_getElem? (i := 117) rfl)) (hw _ (List.mem_of_getElem? (i := 118) rfl)) (fs := [("com/example/tapflow/tapflow/VelocityTracker$Positions", "times", "[J", .null), ("com/example/tapflow/tapflow/VelocityTracker$Positions", "xs", "[D", .null), ("com/example/tapflow/tapflow/VelocityTracker$Positions", "ys", "[D", .null), ("com/example/tapflow/tapflow/VelocityTracker$Positions", "count", "I", .int (0 : Int32)), ("com/example/tapflow/tapflow/VelocityTracker$Positions", "next", "I", .int (0 : Int32)), ("com/example/tapflow/tapflow/VelocityTracker$Positions", "xSlope", "D", .double (0 : UInt64)), ("com/example/tapflow/tapflow/VelocityTracker$Positions", "ySlope", "D", .double (0 : UInt64))]) ⟨⟨Or.inr (hw _ (List.mem_of_getElem? (i := 125) rfl)), (.array .long), by decide, rfl⟩, ⟨Or.inr (hw _ (List.mem_of_getElem? (i := 127) rfl)), (.array .double), by decide, rfl⟩, ⟨Or.inr (hw _ (List.mem_of_getElem? (i := 129) rfl)), (.array .double), by decide, rfl⟩, ⟨Or.inl (hw _ (List.mem_of_getElem? (i := 163) rfl)), .int, by decide, rfl⟩, ⟨Or.inl (hw _ (List.mem_of_getElem? (i := 161) rfl)), .int, by decide, rfl⟩, ⟨Or.inl (hw _ (List.mem_of_getElem? (i := 199) rfl)), .double, by decide, rfl⟩, ⟨Or.inl (hw _ (List.mem_of_getElem? (i := 201) rfl)), .double, by decide, rfl⟩, trivial⟩ (by decide) (by decide) (by decide) fun T p N => ?_
  refine k_dup (pc := 17) N d16_17 rfl ?_
  refine k_specialR (pc := 18) N (y := (⟨"com/example/tapflow/tapflow/VelocityTracker$Positions", "<init>", "()V"⟩ : MethodName)) (rest := [.ref p, .int (nd id), .ref pa]) [] (a := p) d16_18 rfl (hw _ (List.mem_of_getElem? (i := 119) rfl)) (hw _ (List.mem_of_getElem? (i := 120) rfl)) (hw _ (List.mem_of_getElem? (i := 118) rfl)) (hw _ (List.mem_of_getElem? (i := 121) rfl)) (by decide) pd___V rfl (c_pinit l Z a0 hw p ((oVt Z vt (.ref pa) (.ref xv) (.ref yv) (.long lt)) :: (oArr Z pa kpa (.object "com/example/tapflow/tapflow/VelocityTracker$Positions") (vA 32 P)) :: rest)) rfl rfl 3 rfl (by decide) (by decide) (cells' := 4) rfl (slots' := 199) rfl (by decide) (by decide) fun T vV K' N qQ => ?_
  obtain ⟨ta, xa, ya, kt, kxa, kya, rfl, rfl⟩ := qQ
  refine k_aastore (pc := 21) N 5 0 id d16_21 ov rfl rfl (nd_nn _ (Nat.lt_of_lt_of_le hid (by decide))) (nd_nat _ (Nat.lt_of_lt_of_le hid (by decide))) (by rw [vA_len]; exact hid) (K' := ((oPo Z p (.ref ta) (.ref xa) (.ref ya) (.int (0 : Int32)) (.int (0 : Int32)) (.double (0 : UInt64)) (.double (0 : UInt64))) :: (oArr Z ta kt .long (lA 64 zl)) :: (oArr Z xa kxa .double (dA 64 zd)) :: (oArr Z ya kya .double (dA 64 zd)) :: (oVt Z vt (.ref pa) (.ref xv) (.ref yv) (.long lt)) :: (oArr Z pa kpa (.object "com/example/tapflow/tapflow/VelocityTracker$Positions") (vA 32 (upd P id (.ref p)))) :: rest)) (by rw [set_vA]; rfl) fun T N => ?_
  refine k_aload_n (pc := 22) N d16_22 rfl rfl ?_
  refine k_get (pc := 23) (host := "") N 4 0 d16_23 (Or.inl (hw _ (List.mem_of_getElem? (i := 13) rfl))) Via.refl rfl rfl fun T N => ?_
  refine k_iload_n (pc := 26) N d16_26 rfl ?_
  refine k_aaload (pc := 27) N 5 id d16_27 rfl rfl (nd_nn _ (Nat.lt_of_lt_of_le hid (by decide))) (nd_nat _ (Nat.lt_of_lt_of_le hid (by decide))) (v := .ref p) ((aF_get hid).trans (congrArg some (upd_here _ _ _))) ?_
  replace N := ONow.sel (F := [oPo Z p (.ref ta) (.ref xa) (.ref ya) (.int (0 : Int32)) (.int (0 : Int32)) (.double (0 : UInt64)) (.double (0 : UInt64)), oArr Z ta kt .long (lA 64 zl), oArr Z xa kxa .double (dA 64 zd), oArr Z ya kya .double (dA 64 zd), oVt Z vt (.ref pa) (.ref xv) (.ref yv) (.long lt), oArr Z pa kpa (.object "com/example/tapflow/tapflow/VelocityTracker$Positions") (vA 32 (upd P id (.ref p)))]) (F' := [oVt Z vt (.ref pa) (.ref xv) (.ref yv) (.long lt), oArr Z pa kpa (.object "com/example/tapflow/tapflow/VelocityTracker$Positions") (vA 32 (upd P id (.ref p))), oPo Z p (.ref ta) (.ref xa) (.ref ya) (.int (0 : Int32)) (.int (0 : Int32)) (.double (0 : UInt64)) (.double (0 : UInt64)), oArr Z ta kt .long (lA 64 zl), oArr Z xa kxa .double (dA 64 zd), oArr Z ya kya .double (dA 64 zd)]) (rest := rest) N [4, 5, 0, 1, 2, 3] (by decide) rfl
  exact k_areturn (pc := 28) N (t := (.object "com/example/tapflow/tapflow/VelocityTracker$Positions")) rfl rfl d16_28 rfl (by decide) (by decide) ⟨p, ta, xa, ya, kt, kxa, kya, rfl, rfl⟩
set_option maxRecDepth 65536 in
theorem ef_c_pof1 (m : MethodId) (z0 : Addr) (z1 : Int32) : entryFrame m ([.ref z0, .int z1] : List Value).toArray 2 = mkF m 0 #[.val (.ref z0), .val (.int z1)] [] := by first | (simp [entryFrame, mkF, argsToLocals, Value.category]; done) | rfl
def rm_c_pof1 : Room := { frames := 0, cells := 0, slots := 0, locals := 0 }
set_option maxRecDepth 65536 in
set_option maxHeartbeats 40000000 in
theorem c_pof1 (l : Launch) (Z : State) (a0 : Array Value) (hw : ∀ d ∈ tables_1, d.before a0 Z = true) (vt pa xv yv : Addr) (kpa : ClassId) (ov : Ovr Z kpa "com/example/tapflow/tapflow/VelocityTracker$Positions") (lt : Int64) (P : Nat → Value) (id : Nat) (hid : id < 32) (p : Addr) (hP : P id = .ref p) (rest : List Ent) :
    OMeets l (⟨"com/example/tapflow/tapflow/VelocityTracker", "positionsOf", "(I)Lcom/example/tapflow/tapflow/VelocityTracker$Positions;"⟩ : MethodName) prog_15_method_9_code 2 (some (.object "com/example/tapflow/tapflow/VelocityTracker$Positions")) rm_c_pof1 Z [.ref vt, .int (nd id)] ((oVt Z vt (.ref pa) (.ref xv) (.ref yv) (.long lt)) :: (oArr Z pa kpa (.object "com/example/tapflow/tapflow/VelocityTracker$Positions") (vA 32 P)) :: rest) (fun v K => v = some (.ref p) ∧ K = (oVt Z vt (.ref pa) (.ref xv) (.ref yv) (.long lt)) :: (oArr Z pa kpa (.object "com/example/tapflow/tapflow/VelocityTracker$Positions") (vA 32 P)) :: rest) := by
  refine OMeets.of_body (plainFor_of_name pn_com_example_tapflow_tapflow_VelocityTracker) #[.val (.ref vt), .val (.int (nd id))] (fun m => ef_c_pof1 m vt (nd id)) fun pP eE sS mM bB hH cC T N => ?_
  refine k_aload_n (pc := 0) N d16_0 rfl rfl ?_
  refine k_get (pc := 1) (host := "") N 0 0 d16_1 (Or.inl (hw _ (List.mem_of_getElem? (i := 13) rfl))) Via.refl rfl rfl fun T N => ?_
  refine k_iload_n (pc := 4) N d16_4 rfl ?_
  refine k_aaload (pc := 5) N 1 id d16_5 rfl rfl (nd_nn _ (Nat.lt_of_lt_of_le hid (by decide))) (nd_nat _ (Nat.lt_of_lt_of_le hid (by decide))) (v := .ref p) ((aF_get hid).trans (congrArg some hP)) ?_
  refine k_ifnonnull_yes (pc := 6) N d16_6 (pc' := 22) (by decide) ?_
  refine k_aload_n (pc := 22) N d16_22 rfl rfl ?_
  refine k_get (pc := 23) (host := "") N 0 0 d16_23 (Or.inl (hw _ (List.mem_of_getElem? (i := 13) rfl))) Via.refl rfl rfl fun T N => ?_
  refine k_iload_n (pc := 26) N d16_26 rfl ?_
  refine k_aaload (pc := 27) N 1 id d16_27 rfl rfl (nd_nn _ (Nat.lt_of_lt_of_le hid (by decide))) (nd_nat _ (Nat.lt_of_lt_of_le hid (by decide))) (v := .ref p) ((aF_get hid).trans (congrArg some hP)) ?_
  exact k_areturn (pc := 28) N (t := (.object "com/example/tapflow/tapflow/VelocityTracker$Positions")) rfl rfl d16_28 rfl (by decide) (by decide) ⟨rfl, rfl⟩
set_option maxRecDepth 65536 in
theorem ef_c_ap0 (m : MethodId) (z0 : Addr) (z1 : Addr) : entryFrame m ([.ref z0, .ref z1] : List Value).toArray 5 = mkF m 0 #[.val (.ref z0), .val (.ref z1), .unset, .unset, .unset] [] := by first | (simp [entryFrame, mkF, argsToLocals, Value.category]; done) | rfl
def rm_c_ap0 : Room := { frames := 3, cells := 8, slots := 398, locals := 40 }
set_option maxRecDepth 65536 in
set_option maxHeartbeats 40000000 in
theorem c_ap0 (l : Launch) (Z : State) (a0 : Array Value) (hw : ∀ d ∈ tables_1, d.before a0 Z = true) (vt pa xv yv : Addr) (kpa : ClassId) (ov : Ovr Z kpa "com/example/tapflow/tapflow/VelocityTracker$Positions") (lt : Int64) (ev lv nb nx ny : Addr) (t : Int64) (kb kx ky : ClassId) (lo hi : Nat) (X0 X1 Y0 Y1 : Int32) (hlo : lo < 32) (hhi : hi < 32) (hne : hi ≠ lo) (rest : List Ent) :
    OMeets l (⟨"com/example/tapflow/tapflow/VelocityTracker", "addPositions", "(Lcom/example/tapflow/tapflow/MotionEvent;)V"⟩ : MethodName) prog_15_method_8_code 5 none rm_c_ap0 Z [.ref vt, .ref ev] ((oVt Z vt (.ref pa) (.ref xv) (.ref yv) (.long lt)) :: (oArr Z pa kpa (.object "com/example/tapflow/tapflow/VelocityTracker$Positions") (vA 32 zn)) :: (oMe Z ev (.ref lv) (.int (-1 : Int32)) (.long t) (.ref nb) (.ref nx) (.ref ny) (.int (2 : Int32)) (.double (0 : UInt64)) (.double (0 : UInt64)) (.int (0 : Int32))) :: (oArr Z nb kb .int [.int (nd lo), .int (nd hi)]) :: (oArr Z nx kx .double [.double (FP.i2d X0), .double (FP.i2d X1)]) :: (oArr Z ny ky .double [.double (FP.i2d Y0), .double (FP.i2d Y1)]) :: rest) (fun v K => ∃ (p0 ta0 xa0 ya0 : Addr) (kt0 kxa0 kya0 : ClassId) (p1 ta1 xa1 ya1 : Addr) (kt1 kxa1 kya1 : ClassId), v = none ∧ K = (oVt Z vt (.ref pa) (.ref xv) (.ref yv) (.long lt)) :: (oArr Z pa kpa (.object "com/example/tapflow/tapflow/VelocityTracker$Positions") (vA 32 (upd (upd zn lo (.ref p0)) hi (.ref p1)))) :: (oMe Z ev (.ref lv) (.int (-1 : Int32)) (.long t) (.ref nb) (.ref nx) (.ref ny) (.int (2 : Int32)) (.double (0 : UInt64)) (.double (0 : UInt64)) (.int (0 : Int32))) :: (oArr Z nb kb .int [.int (nd lo), .int (nd hi)]) :: (oArr Z nx kx .double [.double (FP.i2d X0), .double (FP.i2d X1)]) :: (oArr Z ny ky .double [.double (FP.i2d Y0), .double (FP.i2d Y1)]) :: (oPo Z p0 (.ref ta0) (.ref xa0) (.ref ya0) (.int (1 : Int32)) (.int (1 : Int32)) (.double (0 : UInt64)) (.double (0 : UInt64))) :: (oArr Z ta0 kt0 .long (lA 64 (upd zl 0 t))) :: (oArr Z xa0 kxa0 .double (dA 64 (upd zd 0 (FP.i2d X0)))) :: (oArr Z ya0 kya0 .double (dA 64 (upd zd 0 (FP.i2d Y0)))) :: (oPo Z p1 (.ref ta1) (.ref xa1) (.ref ya1) (.int (1 : Int32)) (.int (1 : Int32)) (.double (0 : UInt64)) (.double (0 : UInt64))) :: (oArr Z ta1 kt1 .long (lA 64 (upd zl 0 t))) :: (oArr Z xa1 kxa1 .double (dA 64 (upd zd 0 (FP.i2d X1)))) :: (oArr Z ya1 kya1 .double (dA 64 (upd zd 0 (FP.i2d Y1)))) :: rest) := by
  refine OMeets.of_body (plainFor_of_name pn_com_example_tapflow_tapflow_VelocityTracker) #[.val (.ref vt), .val (.ref ev), .unset, .unset, .unset] (fun m => ef_c_ap0 m vt ev) fun pP eE sS mM bB hH cC T N => ?_
  refine k_aload_n (pc := 0) N d12_0 rfl rfl ?_
  replace N := ONow.sel (F := [oVt Z vt (.ref pa) (.ref xv) (.ref yv) (.long lt), oArr Z pa kpa (.object "com/example/tapflow/tapflow/VelocityTracker$Positions") (vA 32 zn), oMe Z ev (.ref lv) (.int (-1 : Int32)) (.long t) (.ref nb) (.ref nx) (.ref ny) (.int (2 : Int32)) (.double (0 : UInt64)) (.double (0 : UInt64)) (.int (0 : Int32)), oArr Z nb kb .int [.int (nd lo), .int (nd hi)], oArr Z nx kx .double [.double (FP.i2d X0), .double (FP.i2d X1)], oArr Z ny ky .double [.double (FP.i2d Y0), .double (FP.i2d Y1)]]) (F' := [oMe Z ev (.ref lv) (.int (-1 : Int32)) (.long t) (.ref nb) (.ref nx) (.ref ny) (.int (2 : Int32)) (.double (0 : UInt64)) (.double (0 : UInt64)) (.int (0 : Int32)), oArr Z nb kb .int [.int (nd lo), .int (nd hi)], oArr Z nx kx .double [.double (FP.i2d X0), .double (FP.i2d X1)], oArr Z ny ky .double [.double (FP.i2d Y0), .double (FP.i2d Y1)], oVt Z vt (.ref pa) (.ref xv) (.ref yv) (.long lt), oArr Z pa kpa (.object "com/example/tapflow/tapflow/VelocityTracker$Positions") (vA 32 zn)]) (rest := rest) N [2, 3, 4, 5, 0, 1] (by decide) rfl
  refine k_virtual (pc := 1) N (y := (⟨"com/example/tapflow/tapflow/MotionEvent", "getEventTimeNanos", "()J"⟩ : MethodName)) (z := (⟨"com/example/tapflow/tapflow/MotionEvent", "getEventTimeNanos", "()J"⟩ : MethodName)) (rest := []) [] (a := ev) d12_1 (fun h N => N.exa (i := 0) rfl) (hw _ (List.mem_of_getElem? (i := 98) rfl)) (hw _ (List.mem_of_getElem? (i := 99) rfl)) (nf_self (hw _ (List.mem_of_getElem? (i := 101) rfl))) (hw _ (List.mem_of_getElem? (i := 101) rfl)) (hw _ (List.mem_of_getElem? (i := 100) rfl)) (hw _ (List.mem_of_getElem? (i := 21) rfl)) (hw _ (List.mem_of_getElem? (i := 102) rfl)) (by decide) pd___J rfl (c_gt l Z a0 hw ev lv nb nx ny t kb kx ky lo hi X0 X1 Y0 Y1 ((oVt Z vt (.ref pa) (.ref xv) (.ref yv) (.long lt)) :: (oArr Z pa kpa (.object "com/example/tapflow/tapflow/VelocityTracker$Positions") (vA 32 zn)) :: rest)) rfl rfl 0 rfl (by decide) (by decide) (cells' := 0) rfl (slots' := 0) rfl (by decide) (by decide) fun T vV K' N qQ => ?_
  obtain ⟨rfl, rfl⟩ := qQ
  refine k_lstore_n (pc := 4) N d12_4 (Ls' := #[.val (.ref vt), .val (.ref ev), .val (.long t), .second, .unset]) rfl ?_
  refine k_iconst (pc := 5) N d12_5 (v := (0 : Int32)) (by decide) ?_
  refine k_istore (pc := 6) N d12_6 (Ls' := #[.val (.ref vt), .val (.ref ev), .val (.long t), .second, .val (.int (0 : Int32))]) rfl ?_
  refine k_iload (pc := 8) N d12_8 rfl ?_
  refine k_aload_n (pc := 10) N d12_10 rfl rfl ?_
  refine k_virtual (pc := 11) N (y := (⟨"com/example/tapflow/tapflow/MotionEvent", "getPointerCount", "()I"⟩ : MethodName)) (z := (⟨"com/example/tapflow/tapflow/MotionEvent", "getPointerCount", "()I"⟩ : MethodName)) (rest := [.int (0 : Int32)]) [] (a := ev) d12_11 (fun h N => N.exa (i := 0) rfl) (hw _ (List.mem_of_getElem? (i := 103) rfl)) (hw _ (List.mem_of_getElem? (i := 104) rfl)) (nf_self (hw _ (List.mem_of_getElem? (i := 106) rfl))) (hw _ (List.mem_of_getElem? (i := 106) rfl)) (hw _ (List.mem_of_getElem? (i := 105) rfl)) (hw _ (List.mem_of_getElem? (i := 21) rfl)) (hw _ (List.mem_of_getElem? (i := 107) rfl)) (by decide) pd___I rfl (c_gpc l Z a0 hw ev lv nb nx ny t kb kx ky lo hi X0 X1 Y0 Y1 ((oVt Z vt (.ref pa) (.ref xv) (.ref yv) (.long lt)) :: (oArr Z pa kpa (.object "com/example/tapflow/tapflow/VelocityTracker$Positions") (vA 32 zn)) :: rest)) rfl rfl 1 rfl (by decide) (by decide) (cells' := 0) rfl (slots' := 0) rfl (by decide) (by decide) fun T vV K' N qQ => ?_
  obtain ⟨rfl, rfl⟩ := qQ
  refine k_icmp_ge (pc := 14) N d12_14 (pc' := 49) (by decide) (fun qQ => absurd qQ (by decide)) (fun _ => ?_)
  refine k_aload_n (pc := 17) N d12_17 rfl rfl ?_
  refine k_aload_n (pc := 18) N d12_18 rfl rfl ?_
  refine k_iload (pc := 19) N d12_19 rfl ?_
  refine k_virtual (pc := 21) N (y := (⟨"com/example/tapflow/tapflow/MotionEvent", "getPointerId", "(I)I"⟩ : MethodName)) (z := (⟨"com/example/tapflow/tapflow/MotionEvent", "getPointerId", "(I)I"⟩ : MethodName)) (rest := [.ref vt]) [.int (0 : Int32)] (a := ev) d12_21 (fun h N => N.exa (i := 0) rfl) (hw _ (List.mem_of_getElem? (i := 108) rfl)) (hw _ (List.mem_of_getElem? (i := 109) rfl)) (nf_self (hw _ (List.mem_of_getElem? (i := 111) rfl))) (hw _ (List.mem_of_getElem? (i := 111) rfl)) (hw _ (List.mem_of_getElem? (i := 110) rfl)) (hw _ (List.mem_of_getElem? (i := 21) rfl)) (hw _ (List.mem_of_getElem? (i := 112) rfl)) (by decide) pd__I_I rfl (c_gpi0 l Z a0 hw ev lv nb nx ny t kb kx ky lo hi X0 X1 Y0 Y1 ((oVt Z vt (.ref pa) (.ref xv) (.ref yv) (.long lt)) :: (oArr Z pa kpa (.object "com/example/tapflow/tapflow/VelocityTracker$Positions") (vA 32 zn)) :: rest)) rfl rfl 1 rfl (by decide) (by decide) (cells' := 0) rfl (slots' := 0) rfl (by decide) (by decide) fun T vV K' N qQ => ?_
  obtain ⟨rfl, rfl⟩ := qQ
  replace N := ONow.sel (F := [oMe Z ev (.ref lv) (.int (-1 : Int32)) (.long t) (.ref nb) (.ref nx) (.ref ny) (.int (2 : Int32)) (.double (0 : UInt64)) (.double (0 : UInt64)) (.int (0 : Int32)), oArr Z nb kb .int [.int (nd lo), .int (nd hi)], oArr Z nx kx .double [.double (FP.i2d X0), .double (FP.i2d X1)], oArr Z ny ky .double [.double (FP.i2d Y0), .double (FP.i2d Y1)], oVt Z vt (.ref pa) (.ref xv) (.ref yv) (.long lt), oArr Z pa kpa (.object "com/example/tapflow/tapflow/VelocityTracker$Positions") (vA 32 zn)]) (F' := [oVt Z vt (.ref pa) (.ref xv) (.ref yv) (.long lt), oArr Z pa kpa (.object "com/example/tapflow/tapflow/VelocityTracker$Positions") (vA 32 zn), oMe Z ev (.ref lv) (.int (-1 : Int32)) (.long t) (.ref nb) (.ref nx) (.ref ny) (.int (2 : Int32)) (.double (0 : UInt64)) (.double (0 : UInt64)) (.int (0 : Int32)), oArr Z nb kb .int [.int (nd lo), .int (nd hi)], oArr Z nx kx .double [.double (FP.i2d X0), .double (FP.i2d X1)], oArr Z ny ky .double [.double (FP.i2d Y0), .double (FP.i2d Y1)]]) (rest := rest) N [4, 5, 0, 1, 2, 3] (by decide) rfl
  refine k_private (pc := 24) N (y := (⟨"com/example/tapflow/tapflow/VelocityTracker", "positionsOf", "(I)Lcom/example/tapflow/tapflow/VelocityTracker$Positions;"⟩ : MethodName)) (rest := []) [.int (nd lo)] (a := vt) 0 d12_24 rfl (hw _ (List.mem_of_getElem? (i := 3) rfl)) (hw _ (List.mem_of_getElem? (i := 113) rfl)) (hw _ (List.mem_of_getElem? (i := 114) rfl)) (hw _ (List.mem_of_getElem? (i := 115) rfl)) (hw _ (List.mem_of_getElem? (i := 4) rfl)) (hw _ (List.mem_of_getElem? (i := 116) rfl)) (by decide) pd__I_Lcom_example_tapflow_tapflow_VelocityTracker_Positions_ rfl (c_pof0 l Z a0 hw vt pa xv yv kpa ov lt zn lo hlo rfl ((oMe Z ev (.ref lv) (.int (-1 : Int32)) (.long t) (.ref nb) (.ref nx) (.ref ny) (.int (2 : Int32)) (.double (0 : UInt64)) (.double (0 : UInt64)) (.int (0 : Int32))) :: (oArr Z nb kb .int [.int (nd lo), .int (nd hi)]) :: (oArr Z nx kx .double [.double (FP.i2d X0), .double (FP.i2d X1)]) :: (oArr Z ny ky .double [.double (FP.i2d Y0), .double (FP.i2d Y1)]) :: rest)) rfl rfl 0 rfl (by decide) (by decide) (cells' := 4) rfl (slots' := 199) rfl (by decide) (by decide) fun T vV K' N qQ => ?_
  obtain ⟨p0, ta0, xa0, ya0, kt0, kxa0, kya0, rfl, rfl⟩ := qQ
  refine k_lload_n (pc := 27) N d12_27 rfl ?_
  refine k_aload_n (pc := 28) N d12_28 rfl rfl ?_
  refine k_iload (pc := 29) N d12_29 rfl ?_
  replace N := ONow.sel (F := [oVt Z vt (.ref pa) (.ref xv) (.ref yv) (.long lt), oArr Z pa kpa (.object "com/example/tapflow/tapflow/VelocityTracker$Positions") (vA 32 (upd zn lo (.ref p0))), oPo Z p0 (.ref ta0) (.ref xa0) (.ref ya0) (.int (0 : Int32)) (.int (0 : Int32)) (.double (0 : UInt64)) (.double (0 : UInt64)), oArr Z ta0 kt0 .long (lA 64 zl), oArr Z xa0 kxa0 .double (dA 64 zd), oArr Z ya0 kya0 .double (dA 64 zd), oMe Z ev (.ref lv) (.int (-1 : Int32)) (.long t) (.ref nb) (.ref nx) (.ref ny) (.int (2 : Int32)) (.double (0 : UInt64)) (.double (0 : UInt64)) (.int (0 : Int32)), oArr Z nb kb .int [.int (nd lo), .int (nd hi)], oArr Z nx kx .double [.double (FP.i2d X0), .double (FP.i2d X1)], oArr Z ny ky .double [.double (FP.i2d Y0), .double (FP.i2d Y1)]]) (F' := [oMe Z ev (.ref lv) (.int (-1 : Int32)) (.long t) (.ref nb) (.ref nx) (.ref ny) (.int (2 : Int32)) (.double (0 : UInt64)) (.double (0 : UInt64)) (.int (0 : Int32)), oArr Z nb kb .int [.int (nd lo), .int (nd hi)], oArr Z nx kx .double [.double (FP.i2d X0), .double (FP.i2d X1)], oArr Z ny ky .double [.double (FP.i2d Y0), .double (FP.i2d Y1)], oVt Z vt (.ref pa) (.ref xv) (.ref yv) (.long lt), oArr Z pa kpa (.object "com/example/tapflow/tapflow/VelocityTracker$Positions") (vA 32 (upd zn lo (.ref p0))), oPo Z p0 (.ref ta0) (.ref xa0) (.ref ya0) (.int (0 : Int32)) (.int (0 : Int32)) (.double (0 : UInt64)) (.double (0 : UInt64)), oArr Z ta0 kt0 .long (lA 64 zl), oArr Z xa0 kxa0 .double (dA 64 zd), oArr Z ya0 kya0 .double (dA 64 zd)]) (rest := rest) N [6, 7, 8, 9, 0, 1, 2, 3, 4, 5] (by decide) rfl
  refine k_virtual (pc := 31) N (y := (⟨"com/example/tapflow/tapflow/MotionEvent", "getX", "(I)D"⟩ : MethodName)) (z := (⟨"com/example/tapflow/tapflow/MotionEvent", "getX", "(I)D"⟩ : MethodName)) (rest := [.long t, .ref p0]) [.int (0 : Int32)] (a := ev) d12_31 (fun h N => N.exa (i := 0) rfl) (hw _ (List.mem_of_getElem? (i := 131) rfl)) (hw _ (List.mem_of_getElem? (i := 132) rfl)) (nf_self (hw _ (List.mem_of_getElem? (i := 134) rfl))) (hw _ (List.mem_of_getElem? (i := 134) rfl)) (hw _ (List.mem_of_getElem? (i := 133) rfl)) (hw _ (List.mem_of_getElem? (i := 21) rfl)) (hw _ (List.mem_of_getElem? (i := 135) rfl)) (by decide) pd__I_D rfl (c_gx0 l Z a0 hw ev lv nb nx ny t kb kx ky lo hi X0 X1 Y0 Y1 ((oVt Z vt (.ref pa) (.ref xv) (.ref yv) (.long lt)) :: (oArr Z pa kpa (.object "com/example/tapflow/tapflow/VelocityTracker$Positions") (vA 32 (upd zn lo (.ref p0)))) :: (oPo Z p0 (.ref ta0) (.ref xa0) (.ref ya0) (.int (0 : Int32)) (.int (0 : Int32)) (.double (0 : UInt64)) (.double (0 : UInt64))) :: (oArr Z ta0 kt0 .long (lA 64 zl)) :: (oArr Z xa0 kxa0 .double (dA 64 zd)) :: (oArr Z ya0 kya0 .double (dA 64 zd)) :: rest)) rfl rfl 3 rfl (by decide) (by decide) (cells' := 4) rfl (slots' := 199) rfl (by decide) (by decide) fun T vV K' N qQ => ?_
  obtain ⟨rfl, rfl⟩ := qQ
  refine k_aload_n (pc := 34) N d12_34 rfl rfl ?_
  refine k_iload (pc := 35) N d12_35 rfl ?_
  refine k_virtual (pc := 37) N (y := (⟨"com/example/tapflow/tapflow/MotionEvent", "getY", "(I)D"⟩ : MethodName)) (z := (⟨"com/example/tapflow/tapflow/MotionEvent", "getY", "(I)D"⟩ : MethodName)) (rest := [.double (FP.i2d X0), .long t, .ref p0]) [.int (0 : Int32)] (a := ev) d12_37 (fun h N => N.exa (i := 0) rfl) (hw _ (List.mem_of_getElem? (i := 144) rfl)) (hw _ (List.mem_of_getElem? (i := 145) rfl)) (nf_self (hw _ (List.mem_of_getElem? (i := 147) rfl))) (hw _ (List.mem_of_getElem? (i := 147) rfl)) (hw _ (List.mem_of_getElem? (i := 146) rfl)) (hw _ (List.mem_of_getElem? (i := 21) rfl)) (hw _ (List.mem_of_getElem? (i := 148) rfl)) (by decide) pd__I_D rfl (c_gy0 l Z a0 hw ev lv nb nx ny t kb kx ky lo hi X0 X1 Y0 Y1 ((oVt Z vt (.ref pa) (.ref xv) (.ref yv) (.long lt)) :: (oArr Z pa kpa (.object "com/example/tapflow/tapflow/VelocityTracker$Positions") (vA 32 (upd zn lo (.ref p0)))) :: (oPo Z p0 (.ref ta0) (.ref xa0) (.ref ya0) (.int (0 : Int32)) (.int (0 : Int32)) (.double (0 : UInt64)) (.double (0 : UInt64))) :: (oArr Z ta0 kt0 .long (lA 64 zl)) :: (oArr Z xa0 kxa0 .double (dA 64 zd)) :: (oArr Z ya0 kya0 .double (dA 64 zd)) :: rest)) rfl rfl 5 rfl (by decide) (by decide) (cells' := 4) rfl (slots' := 199) rfl (by decide) (by decide) fun T vV K' N qQ => ?_
  obtain ⟨rfl, rfl⟩ := qQ
  replace N := ONow.sel (F := [oMe Z ev (.ref lv) (.int (-1 : Int32)) (.long t) (.ref nb) (.ref nx) (.ref ny) (.int (2 : Int32)) (.double (0 : UInt64)) (.double (0 : UInt64)) (.int (0 : Int32)), oArr Z nb kb .int [.int (nd lo), .int (nd hi)], oArr Z nx kx .double [.double (FP.i2d X0), .double (FP.i2d X1)], oArr Z ny ky .double [.double (FP.i2d Y0), .double (FP.i2d Y1)], oVt Z vt (.ref pa) (.ref xv) (.ref yv) (.long lt), oArr Z pa kpa (.object "com/example/tapflow/tapflow/VelocityTracker$Positions") (vA 32 (upd zn lo (.ref p0))), oPo Z p0 (.ref ta0) (.ref xa0) (.ref ya0) (.int (0 : Int32)) (.int (0 : Int32)) (.double (0 : UInt64)) (.double (0 : UInt64)), oArr Z ta0 kt0 .long (lA 64 zl), oArr Z xa0 kxa0 .double (dA 64 zd), oArr Z ya0 kya0 .double (dA 64 zd)]) (F' := [oPo Z p0 (.ref ta0) (.ref xa0) (.ref ya0) (.int (0 : Int32)) (.int (0 : Int32)) (.double (0 : UInt64)) (.double (0 : UInt64)), oArr Z ta0 kt0 .long (lA 64 zl), oArr Z xa0 kxa0 .double (dA 64 zd), oArr Z ya0 kya0 .double (dA 64 zd), oMe Z ev (.ref lv) (.int (-1 : Int32)) (.long t) (.ref nb) (.ref nx) (.ref ny) (.int (2 : Int32)) (.double (0 : UInt64)) (.double (0 : UInt64)) (.int (0 : Int32)), oArr Z nb kb .int [.int (nd lo), .int (nd hi)], oArr Z nx kx .double [.double (FP.i2d X0), .double (FP.i2d X1)], oArr Z ny ky .double [.double (FP.i2d Y0), .double (FP.i2d Y1)], oVt Z vt (.ref pa) (.ref xv) (.ref yv) (.long lt), oArr Z pa kpa (.object "com/example/tapflow/tapflow/VelocityTracker$Positions") (vA 32 (upd zn lo (.ref p0)))]) (rest := rest) N [6, 7, 8, 9, 0, 1, 2, 3, 4, 5] (by decide) rfl
  refine k_virtual (pc := 40) N (y := (⟨"com/example/tapflow/tapflow/VelocityTracker$Positions", "add", "(JDD)V"⟩ : MethodName)) (z := (⟨"com/example/tapflow/tapflow/VelocityTracker$Positions", "add", "(JDD)V"⟩ : MethodName)) (rest := []) [.long t, .double (FP.i2d X0), .double (FP.i2d Y0)] (a := p0) d12_40 (fun h N => N.exa (i := 0) rfl) (hw _ (List.mem_of_getElem? (i := 155) rfl)) (hw _ (List.mem_of_getElem? (i := 156) rfl)) (nf_self (hw _ (List.mem_of_getElem? (i := 158) rfl))) (hw _ (List.mem_of_getElem? (i := 158) rfl)) (hw _ (List.mem_of_getElem? (i := 157) rfl)) (hw _ (List.mem_of_getElem? (i := 118) rfl)) (hw _ (List.mem_of_getElem? (i := 159) rfl)) (by decide) pd__JDD_V rfl (c_padd0 l Z a0 hw p0 ta0 xa0 ya0 kt0 kxa0 kya0 zl zd zd (0 : UInt64) (0 : UInt64) t (FP.i2d X0) (FP.i2d Y0) ((oMe Z ev (.ref lv) (.int (-1 : Int32)) (.long t) (.ref nb) (.ref nx) (.ref ny) (.int (2 : Int32)) (.double (0 : UInt64)) (.double (0 : UInt64)) (.int (0 : Int32))) :: (oArr Z nb kb .int [.int (nd lo), .int (nd hi)]) :: (oArr Z nx kx .double [.double (FP.i2d X0), .double (FP.i2d X1)]) :: (oArr Z ny ky .double [.double (FP.i2d Y0), .double (FP.i2d Y1)]) :: (oVt Z vt (.ref pa) (.ref xv) (.ref yv) (.long lt)) :: (oArr Z pa kpa (.object "com/example/tapflow/tapflow/VelocityTracker$Positions") (vA 32 (upd zn lo (.ref p0)))) :: rest)) rfl rfl 0 rfl (by decide) (by decide) (cells' := 4) rfl (slots' := 199) rfl (by decide) (by decide) fun T vV K' N qQ => ?_
  obtain ⟨rfl, rfl⟩ := qQ
  refine k_iinc (pc := 43) N d12_43 rfl (v := (1 : Int32)) (by decide) (Ls' := #[.val (.ref vt), .val (.ref ev), .val (.long t), .second, .val (.int (1 : Int32))]) rfl ?_
  refine k_goto (pc := 46) N d12_46 (pc' := 8) (by decide) ?_
  refine k_iload (pc := 8) N d12_8 rfl ?_
  refine k_aload_n (pc := 10) N d12_10 rfl rfl ?_
  replace N := ONow.sel (F := [oPo Z p0 (.ref ta0) (.ref xa0) (.ref ya0) (.int (1 : Int32)) (.int (1 : Int32)) (.double (0 : UInt64)) (.double (0 : UInt64)), oArr Z ta0 kt0 .long (lA 64 (upd zl 0 t)), oArr Z xa0 kxa0 .double (dA 64 (upd zd 0 (FP.i2d X0))), oArr Z ya0 kya0 .double (dA 64 (upd zd 0 (FP.i2d Y0))), oMe Z ev (.ref lv) (.int (-1 : Int32)) (.long t) (.ref nb) (.ref nx) (.ref ny) (.int (2 : Int32)) (.double (0 : UInt64)) (.double (0 : UInt64)) (.int (0 : Int32)), oArr Z nb kb .int [.int (nd lo), .int (nd hi)], oArr Z nx kx .double [.double (FP.i2d X0), .double (FP.i2d X1)], oArr Z ny ky .double [.double (FP.i2d Y0), .double (FP.i2d Y1)], oVt Z vt (.ref pa) (.ref xv) (.ref yv) (.long lt), oArr Z pa kpa (.object "com/example/tapflow/tapflow/VelocityTracker$Positions") (vA 32 (upd zn lo (.ref p0)))]) (F' := [oMe Z ev (.ref lv) (.int (-1 : Int32)) (.long t) (.ref nb) (.ref nx) (.ref ny) (.int (2 : Int32)) (.double (0 : UInt64)) (.double (0 : UInt64)) (.int (0 : Int32)), oArr Z nb kb .int [.int (nd lo), .int (nd hi)], oArr Z nx kx .double [.double (FP.i2d X0), .double (FP.i2d X1)], oArr Z ny ky .double [.double (FP.i2d Y0), .double (FP.i2d Y1)], oPo Z p0 (.ref ta0) (.ref xa0) (.ref ya0) (.int (1 : Int32)) (.int (1 : Int32)) (.double (0 : UInt64)) (.double (0 : UInt64)), oArr Z ta0 kt0 .long (lA 64 (upd zl 0 t)), oArr Z xa0 kxa0 .double (dA 64 (upd zd 0 (FP.i2d X0))), oArr Z ya0 kya0 .double (dA 64 (upd zd 0 (FP.i2d Y0))), oVt Z vt (.ref pa) (.ref xv) (.ref yv) (.long lt), oArr Z pa kpa (.object "com/example/tapflow/tapflow/VelocityTracker$Positions") (vA 32 (upd zn lo (.ref p0)))]) (rest := rest) N [4, 5, 6, 7, 0, 1, 2, 3, 8, 9] (by decide) rfl
  refine k_virtual (pc := 11) N (y := (⟨"com/example/tapflow/tapflow/MotionEvent", "getPointerCount", "()I"⟩ : MethodName)) (z := (⟨"com/example/tapflow/tapflow/MotionEvent", "getPointerCount", "()I"⟩ : MethodName)) (rest := [.int (1 : Int32)]) [] (a := ev) d12_11 (fun h N => N.exa (i := 0) rfl) (hw _ (List.mem_of_getElem? (i := 103) rfl)) (hw _ (List.mem_of_getElem? (i := 104) rfl)) (nf_self (hw _ (List.mem_of_getElem? (i := 106) rfl))) (hw _ (List.mem_of_getElem? (i := 106) rfl)) (hw _ (List.mem_of_getElem? (i := 105) rfl)) (hw _ (List.mem_of_getElem? (i := 21) rfl)) (hw _ (List.mem_of_getElem? (i := 107) rfl)) (by decide) pd___I rfl (c_gpc l Z a0 hw ev lv nb nx ny t kb kx ky lo hi X0 X1 Y0 Y1 ((oPo Z p0 (.ref ta0) (.ref xa0) (.ref ya0) (.int (1 : Int32)) (.int (1 : Int32)) (.double (0 : UInt64)) (.double (0 : UInt64))) :: (oArr Z ta0 kt0 .long (lA 64 (upd zl 0 t))) :: (oArr Z xa0 kxa0 .double (dA 64 (upd zd 0 (FP.i2d X0)))) :: (oArr Z ya0 kya0 .double (dA 64 (upd zd 0 (FP.i2d Y0)))) :: (oVt Z vt (.ref pa) (.ref xv) (.ref yv) (.long lt)) :: (oArr Z pa kpa (.object "com/example/tapflow/tapflow/VelocityTracker$Positions") (vA 32 (upd zn lo (.ref p0)))) :: rest)) rfl rfl 1 rfl (by decide) (by decide) (cells' := 4) rfl (slots' := 199) rfl (by decide) (by decide) fun T vV K' N qQ => ?_
  obtain ⟨rfl, rfl⟩ := qQ
  refine k_icmp_ge (pc := 14) N d12_14 (pc' := 49) (by decide) (fun qQ => absurd qQ (by decide)) (fun _ => ?_)
  refine k_aload_n (pc := 17) N d12_17 rfl rfl ?_
  refine k_aload_n (pc := 18) N d12_18 rfl rfl ?_
  refine k_iload (pc := 19) N d12_19 rfl ?_
  refine k_virtual (pc := 21) N (y := (⟨"com/example/tapflow/tapflow/MotionEvent", "getPointerId", "(I)I"⟩ : MethodName)) (z := (⟨"com/example/tapflow/tapflow/MotionEvent", "getPointerId", "(I)I"⟩ : MethodName)) (rest := [.ref vt]) [.int (1 : Int32)] (a := ev) d12_21 (fun h N => N.exa (i := 0) rfl) (hw _ (List.mem_of_getElem? (i := 108) rfl)) (hw _ (List.mem_of_getElem? (i := 109) rfl)) (nf_self (hw _ (List.mem_of_getElem? (i := 111) rfl))) (hw _ (List.mem_of_getElem? (i := 111) rfl)) (hw _ (List.mem_of_getElem? (i := 110) rfl)) (hw _ (List.mem_of_getElem? (i := 21) rfl)) (hw _ (List.mem_of_getElem? (i := 112) rfl)) (by decide) pd__I_I rfl (c_gpi1 l Z a0 hw ev lv nb nx ny t kb kx ky lo hi X0 X1 Y0 Y1 ((oPo Z p0 (.ref ta0) (.ref xa0) (.ref ya0) (.int (1 : Int32)) (.int (1 : Int32)) (.double (0 : UInt64)) (.double (0 : UInt64))) :: (oArr Z ta0 kt0 .long (lA 64 (upd zl 0 t))) :: (oArr Z xa0 kxa0 .double (dA 64 (upd zd 0 (FP.i2d X0)))) :: (oArr Z ya0 kya0 .double (dA 64 (upd zd 0 (FP.i2d Y0)))) :: (oVt Z vt (.ref pa) (.ref xv) (.ref yv) (.long lt)) :: (oArr Z pa kpa (.object "com/example/tapflow/tapflow/VelocityTracker$Positions") (vA 32 (upd zn lo (.ref p0)))) :: rest)) rfl rfl 1 rfl (by decide) (by decide) (cells' := 4) rfl (slots' := 199) rfl (by decide) (by decide) fun T vV K' N qQ => ?_
  obtain ⟨rfl, rfl⟩ := qQ
  replace N := ONow.sel (F := [oMe Z ev (.ref lv) (.int (-1 : Int32)) (.long t) (.ref nb) (.ref nx) (.ref ny) (.int (2 : Int32)) (.double (0 : UInt64)) (.double (0 : UInt64)) (.int (0 : Int32)), oArr Z nb kb .int [.int (nd lo), .int (nd hi)], oArr Z nx kx .double [.double (FP.i2d X0), .double (FP.i2d X1)], oArr Z ny ky .double [.double (FP.i2d Y0), .double (FP.i2d Y1)], oPo Z p0 (.ref ta0) (.ref xa0) (.ref ya0) (.int (1 : Int32)) (.int (1 : Int32)) (.double (0 : UInt64)) (.double (0 : UInt64)), oArr Z ta0 kt0 .long (lA 64 (upd zl 0 t)), oArr Z xa0 kxa0 .double (dA 64 (upd zd 0 (FP.i2d X0))), oArr Z ya0 kya0 .double (dA 64 (upd zd 0 (FP.i2d Y0))), oVt Z vt (.ref pa) (.ref xv) (.ref yv) (.long lt), oArr Z pa kpa (.object "com/example/tapflow/tapflow/VelocityTracker$Positions") (vA 32 (upd zn lo (.ref p0)))]) (F' := [oVt Z vt (.ref pa) (.ref xv) (.ref yv) (.long lt), oArr Z pa kpa (.object "com/example/tapflow/tapflow/VelocityTracker$Positions") (vA 32 (upd zn lo (.ref p0))), oMe Z ev (.ref lv) (.int (-1 : Int32)) (.long t) (.ref nb) (.ref nx) (.ref ny) (.int (2 : Int32)) (.double (0 : UInt64)) (.double (0 : UInt64)) (.int (0 : Int32)), oArr Z nb kb .int [.int (nd lo), .int (nd hi)], oArr Z nx kx .double [.double (FP.i2d X0), .double (FP.i2d X1)], oArr Z ny ky .double [.double (FP.i2d Y0), .double (FP.i2d Y1)], oPo Z p0 (.ref ta0) (.ref xa0) (.ref ya0) (.int (1 : Int32)) (.int (1 : Int32)) (.double (0 : UInt64)) (.double (0 : UInt64)), oArr Z ta0 kt0 .long (lA 64 (upd zl 0 t)), oArr Z xa0 kxa0 .double (dA 64 (upd zd 0 (FP.i2d X0))), oArr Z ya0 kya0 .double (dA 64 (upd zd 0 (FP.i2d Y0)))]) (rest := rest) N [8, 9, 0, 1, 2, 3, 4, 5, 6, 7] (by decide) rfl
  refine k_private (pc := 24) N (y := (⟨"com/example/tapflow/tapflow/VelocityTracker", "positionsOf", "(I)Lcom/example/tapflow/tapflow/VelocityTracker$Positions;"⟩ : MethodName)) (rest := []) [.int (nd hi)] (a := vt) 0 d12_24 rfl (hw _ (List.mem_of_getElem? (i := 3) rfl)) (hw _ (List.mem_of_getElem? (i := 113) rfl)) (hw _ (List.mem_of_getElem? (i := 114) rfl)) (hw _ (List.mem_of_getElem? (i := 115) rfl)) (hw _ (List.mem_of_getElem? (i := 4) rfl)) (hw _ (List.mem_of_getElem? (i := 116) rfl)) (by decide) pd__I_Lcom_example_tapflow_tapflow_VelocityTracker_Positions_ rfl (c_pof0 l Z a0 hw vt pa xv yv kpa ov lt (upd zn lo (.ref p0)) hi hhi (upd_ne _ _ hne) ((oMe Z ev (.ref lv) (.int (-1 : Int32)) (.long t) (.ref nb) (.ref nx) (.ref ny) (.int (2 : Int32)) (.double (0 : UInt64)) (.double (0 : UInt64)) (.int (0 : Int32))) :: (oArr Z nb kb .int [.int (nd lo), .int (nd hi)]) :: (oArr Z nx kx .double [.double (FP.i2d X0), .double (FP.i2d X1)]) :: (oArr Z ny ky .double [.double (FP.i2d Y0), .double (FP.i2d Y1)]) :: (oPo Z p0 (.ref ta0) (.ref xa0) (.ref ya0) (.int (1 : Int32)) (.int (1 : Int32)) (.double (0 : UInt64)) (.double (0 : UInt64))) :: (oArr Z ta0 kt0 .long (lA 64 (upd zl 0 t))) :: (oArr Z xa0 kxa0 .double (dA 64 (upd zd 0 (FP.i2d X0)))) :: (oArr Z ya0 kya0 .double (dA 64 (upd zd 0 (FP.i2d Y0)))) :: rest)) rfl rfl 0 rfl (by decide) (by decide) (cells' := 8) rfl (slots' := 398) rfl (by decide) (by decide) fun T vV K' N qQ => ?_
  obtain ⟨p1, ta1, xa1, ya1, kt1, kxa1, kya1, rfl, rfl⟩ := qQ
  refine k_lload_n (pc := 27) N d12_27 rfl ?_
  refine k_aload_n (pc := 28) N d12_28 rfl rfl ?_
  refine k_iload (pc := 29) N d12_29 rfl ?_
  replace N := ONow.sel (F := [oVt Z vt (.ref pa) (.ref xv) (.ref yv) (.long lt), oArr Z pa kpa (.object "com/example/tapflow/tapflow/VelocityTracker$Positions") (vA 32 (upd (upd zn lo (.ref p0)) hi (.ref p1))), oPo Z p1 (.ref ta1) (.ref xa1) (.ref ya1) (.int (0 : Int32)) (.int (0 : Int32)) (.double (0 : UInt64)) (.double (0 : UInt64)), oArr Z ta1 kt1 .long (lA 64 zl), oArr Z xa1 kxa1 .double (dA 64 zd), oArr Z ya1 kya1 .double (dA 64 zd), oMe Z ev (.ref lv) (.int (-1 : Int32)) (.long t) (.ref nb) (.ref nx) (.ref ny) (.int (2 : Int32)) (.double (0 : UInt64)) (.double (0 : UInt64)) (.int (0 : Int32)), oArr Z nb kb .int [.int (nd lo), .int (nd hi)], oArr Z nx kx .double [.double (FP.i2d X0), .double (FP.i2d X1)], oArr Z ny ky .double [.double (FP.i2d Y0), .double (FP.i2d Y1)], oPo Z p0 (.ref ta0) (.ref xa0) (.ref ya0) (.int (1 : Int32)) (.int (1 : Int32)) (.double (0 : UInt64)) (.double (0 : UInt64)), oArr Z ta0 kt0 .long (lA 64 (upd zl 0 t)), oArr Z xa0 kxa0 .double (dA 64 (upd zd 0 (FP.i2d X0))), oArr Z ya0 kya0 .double (dA 64 (upd zd 0 (FP.i2d Y0)))]) (F' := [oMe Z ev (.ref lv) (.int (-1 : Int32)) (.long t) (.ref nb) (.ref nx) (.ref ny) (.int (2 : Int32)) (.double (0 : UInt64)) (.double (0 : UInt64)) (.int (0 : Int32)), oArr Z nb kb .int [.int (nd lo), .int (nd hi)], oArr Z nx kx .double [.double (FP.i2d X0), .double (FP.i2d X1)], oArr Z ny ky .double [.double (FP.i2d Y0), .double (FP.i2d Y1)], oVt Z vt (.ref pa) (.ref xv) (.ref yv) (.long lt), oArr Z pa kpa (.object "com/example/tapflow/tapflow/VelocityTracker$Positions") (vA 32 (upd (upd zn lo (.ref p0)) hi (.ref p1))), oPo Z p1 (.ref ta1) (.ref xa1) (.ref ya1) (.int (0 : Int32)) (.int (0 : Int32)) (.double (0 : UInt64)) (.double (0 : UInt64)), oArr Z ta1 kt1 .long (lA 64 zl), oArr Z xa1 kxa1 .double (dA 64 zd), oArr Z ya1 kya1 .double (dA 64 zd), oPo Z p0 (.ref ta0) (.ref xa0) (.ref ya0) (.int (1 : Int32)) (.int (1 : Int32)) (.double (0 : UInt64)) (.double (0 : UInt64)), oArr Z ta0 kt0 .long (lA 64 (upd zl 0 t)), oArr Z xa0 kxa0 .double (dA 64 (upd zd 0 (FP.i2d X0))), oArr Z ya0 kya0 .double (dA 64 (upd zd 0 (FP.i2d Y0)))]) (rest := rest) N [6, 7, 8, 9, 0, 1, 2, 3, 4, 5, 10, 11, 12, 13] (by decide) rfl
  refine k_virtual (pc := 31) N (y := (⟨"com/example/tapflow/tapflow/MotionEvent", "getX", "(I)D"⟩ : MethodName)) (z := (⟨"com/example/tapflow/tapflow/MotionEvent", "getX", "(I)D"⟩ : MethodName)) (rest := [.long t, .ref p1]) [.int (1 : Int32)] (a := ev) d12_31 (fun h N => N.exa (i := 0) rfl) (hw _ (List.mem_of_getElem? (i := 131) rfl)) (hw _ (List.mem_of_getElem? (i := 132) rfl)) (nf_self (hw _ (List.mem_of_getElem? (i := 134) rfl))) (hw _ (List.mem_of_getElem? (i := 134) rfl)) (hw _ (List.mem_of_getElem? (i := 133) rfl)) (hw _ (List.mem_of_getElem? (i := 21) rfl)) (hw _ (List.mem_of_getElem? (i := 135) rfl)) (by decide) pd__I_D rfl (c_gx1 l Z a0 hw ev lv nb nx ny t kb kx ky lo hi X0 X1 Y0 Y1 ((oVt Z vt (.ref pa) (.ref xv) (.ref yv) (.long lt)) :: (oArr Z pa kpa (.object "com/example/tapflow/tapflow/VelocityTracker$Positions") (vA 32 (upd (upd zn lo (.ref p0)) hi (.ref p1)))) :: (oPo Z p1 (.ref ta1) (.ref xa1) (.ref ya1) (.int (0 : Int32)) (.int (0 : Int32)) (.double (0 : UInt64)) (.double (0 : UInt64))) :: (oArr Z ta1 kt1 .long (lA 64 zl)) :: (oArr Z xa1 kxa1 .double (dA 64 zd)) :: (oArr Z ya1 kya1 .double (dA 64 zd)) :: (oPo Z p0 (.ref ta0) (.ref xa0) (.ref ya0) (.int (1 : Int32)) (.int (1 : Int32)) (.double (0 : UInt64)) (.double (0 : UInt64))) :: (oArr Z ta0 kt0 .long (lA 64 (upd zl 0 t))) :: (oArr Z xa0 kxa0 .double (dA 64 (upd zd 0 (FP.i2d X0)))) :: (oArr Z ya0 kya0 .double (dA 64 (upd zd 0 (FP.i2d Y0)))) :: rest)) rfl rfl 3 rfl (by decide) (by decide) (cells' := 8) rfl (slots' := 398) rfl (by decide) (by decide) fun T vV K' N qQ => ?_
  obtain ⟨rfl, rfl⟩ := qQ
  refine k_aload_n (pc := 34) N d12_34 rfl rfl ?_
  refine k_iload (pc := 35) N d12_35 rfl ?_
  refine k_virtual (pc := 37) N (y := (⟨"com/example/tapflow/tapflow/MotionEvent", "getY", "(I)D"⟩ : MethodName)) (z := (⟨"com/example/tapflow/tapflow/MotionEvent", "getY", "(I)D"⟩ : MethodName)) (rest := [.double (FP.i2d X1), .long t, .ref p1]) [.int (1 : Int32)] (a := ev) d12_37 (fun h N => N.exa (i := 0) rfl) (hw _ (List.mem_of_getElem? (i := 144) rfl)) (hw _ (List.mem_of_getElem? (i := 145) rfl)) (nf_self (hw _ (List.mem_of_getElem? (i := 147) rfl))) (hw _ (List.mem_of_getElem? (i := 147) rfl)) (hw _ (List.mem_of_getElem? (i := 146) rfl)) (hw _ (List.mem_of_getElem? (i := 21) rfl)) (hw _ (List.mem_of_getElem? (i := 148) rfl)) (by decide) pd__I_D rfl (c_gy1 l Z a0 hw ev lv nb nx ny t kb kx ky lo hi X0 X1 Y0 Y1 ((oVt Z vt (.ref pa) (.ref xv) (.ref yv) (.long lt)) :: (oArr Z pa kpa (.object "com/example/tapflow/tapflow/VelocityTracker$Positions") (vA 32 (upd (upd zn lo (.ref p0)) hi (.ref p1)))) :: (oPo Z p1 (.ref ta1) (.ref xa1) (.ref ya1) (.int (0 : Int32)) (.int (0 : Int32)) (.double (0 : UInt64)) (.double (0 : UInt64))) :: (oArr Z ta1 kt1 .long (lA 64 zl)) :: (oArr Z xa1 kxa1 .double (dA 64 zd)) :: (oArr Z ya1 kya1 .double (dA 64 zd)) :: (oPo Z p0 (.ref ta0) (.ref xa0) (.ref ya0) (.int (1 : Int32)) (.int (1 : Int32)) (.double (0 : UInt64)) (.double (0 : UInt64))) :: (oArr Z ta0 kt0 .long (lA 64 (upd zl 0 t))) :: (oArr Z xa0 kxa0 .double (dA 64 (upd zd 0 (FP.i2d X0)))) :: (oArr Z ya0 kya0 .double (dA 64 (upd zd 0 (FP.i2d Y0)))) :: rest)) rfl rfl 5 rfl (by decide) (by decide) (cells' := 8) rfl (slots' := 398) rfl (by decide) (by decide) fun T vV K' N qQ => ?_
  obtain ⟨rfl, rfl⟩ := qQ
  replace N := ONow.sel (F := [oMe Z ev (.ref lv) (.int (-1 : Int32)) (.long t) (.ref nb) (.ref nx) (.ref ny) (.int (2 : Int32)) (.double (0 : UInt64)) (.double (0 : UInt64)) (.int (0 : Int32)), oArr Z nb kb .int [.int (nd lo), .int (nd hi)], oArr Z nx kx .double [.double (FP.i2d X0), .double (FP.i2d X1)], oArr Z ny ky .double [.double (FP.i2d Y0), .double (FP.i2d Y1)], oVt Z vt (.ref pa) (.ref xv) (.ref yv) (.long lt), oArr Z pa kpa (.object "com/example/tapflow/tapflow/VelocityTracker$Positions") (vA 32 (upd (upd zn lo (.ref p0)) hi (.ref p1))), oPo Z p1 (.ref ta1) (.ref xa1) (.ref ya1) (.int (0 : Int32)) (.int (0 : Int32)) (.double (0 : UInt64)) (.double (0 : UInt64)), oArr Z ta1 kt1 .long (lA 64 zl), oArr Z xa1 kxa1 .double (dA 64 zd), oArr Z ya1 kya1 .double (dA 64 zd), oPo Z p0 (.ref ta0) (.ref xa0) (.ref ya0) (.int (1 : Int32)) (.int (1 : Int32)) (.double (0 : UInt64)) (.double (0 : UInt64)), oArr Z ta0 kt0 .long (lA 64 (upd zl 0 t)), oArr Z xa0 kxa0 .double (dA 64 (upd zd 0 (FP.i2d X0))), oArr Z ya0 kya0 .double (dA 64 (upd zd 0 (FP.i2d Y0)))]) (F' := [oPo Z p1 (.ref ta1) (.ref xa1) (.ref ya1) (.int (0 : Int32)) (.int (0 : Int32)) (.double (0 : UInt64)) (.double (0 : UInt64)), oArr Z ta1 kt1 .long (lA 64 zl), oArr Z xa1 kxa1 .double (dA 64 zd), oArr Z ya1 kya1 .double (dA 64 zd), oMe Z ev (.ref lv) (.int (-1 : Int32)) (.long t) (.ref nb) (.ref nx) (.ref ny) (.int (2 : Int32)) (.double (0 : UInt64)) (.double (0 : UInt64)) (.int (0 : Int32)), oArr Z nb kb .int [.int (nd lo), .int (nd hi)], oArr Z nx kx .double [.double (FP.i2d X0), .double (FP.i2d X1)], oArr Z ny ky .double [.double (FP.i2d Y0), .double (FP.i2d Y1)], oVt Z vt (.ref pa) (.ref xv) (.ref yv) (.long lt), oArr Z pa kpa (.object "com/example/tapflow/tapflow/VelocityTracker$Positions") (vA 32 (upd (upd zn lo (.ref p0)) hi (.ref p1))), oPo Z p0 (.ref ta0) (.ref xa0) (.ref ya0) (.int (1 : Int32)) (.int (1 : Int32)) (.double (0 : UInt64)) (.double (0 : UInt64)), oArr Z ta0 kt0 .long (lA 64 (upd zl 0 t)), oArr Z xa0 kxa0 .double (dA 64 (upd zd 0 (FP.i2d X0))), oArr Z ya0 kya0 .double (dA 64 (upd zd 0 (FP.i2d Y0)))]) (rest := rest) N [6, 7, 8, 9, 0, 1, 2, 3, 4, 5, 10, 11, 12, 13] (by decide) rfl
  refine k_virtual (pc := 40) N (y := (⟨"com/example/tapflow/tapflow/VelocityTracker$Positions", "add", "(JDD)V"⟩ : MethodName)) (z := (⟨"com/example/tapflow/tapflow/VelocityTracker$Positions", "add", "(JDD)V"⟩ : MethodName)) (rest := []) [.long t, .double (FP.i2d X1), .double (FP.i2d Y1)] (a := p1) d12_40 (fun h N => N.exa (i := 0) rfl) (hw _ (List.mem_of_getElem? (i := 155) rfl)) (hw _ (List.mem_of_getElem? (i := 156) rfl)) (nf_self (hw _ (List.mem_of_getElem? (i := 158) rfl))) (hw _ (List.mem_of_getElem? (i := 158) rfl)) (hw _ (List.mem_of_getElem? (i := 157) rfl)) (hw _ (List.mem_of_getElem? (i := 118) rfl)) (hw _ (List.mem_of_getElem? (i := 159) rfl)) (by decide) pd__JDD_V rfl (c_padd0 l Z a0 hw p1 ta1 xa1 ya1 kt1 kxa1 kya1 zl zd zd (0 : UInt64) (0 : UInt64) t (FP.i2d X1) (FP.i2d Y1) ((oMe Z ev (.ref lv) (.int (-1 : Int32)) (.long t) (.ref nb) (.ref nx) (.ref ny) (.int (2 : Int32)) (.double (0 : UInt64)) (.double (0 : UInt64)) (.int (0 : Int32))) :: (oArr Z nb kb .int [.int (nd lo), .int (nd hi)]) :: (oArr Z nx kx .double [.double (FP.i2d X0), .double (FP.i2d X1)]) :: (oArr Z ny ky .double [.double (FP.i2d Y0), .double (FP.i2d Y1)]) :: (oVt Z vt (.ref pa) (.ref xv) (.ref yv) (.long lt)) :: (oArr Z pa kpa (.object "com/example/tapflow/tapflow/VelocityTracker$Positions") (vA 32 (upd (upd zn lo (.ref p0)) hi (.ref p1)))) :: (oPo Z p0 (.ref ta0) (.ref xa0) (.ref ya0) (.int (1 : Int32)) (.int (1 : Int32)) (.double (0 : UInt64)) (.double (0 : UInt64))) :: (oArr Z ta0 kt0 .long (lA 64 (upd zl 0 t))) :: (oArr Z xa0 kxa0 .double (dA 64 (upd zd 0 (FP.i2d X0)))) :: (oArr Z ya0 kya0 .double (dA 64 (upd zd 0 (FP.i2d Y0)))) :: rest)) rfl rfl 0 rfl (by decide) (by decide) (cells' := 8) rfl (slots' := 398) rfl (by decide) (by decide) fun T vV K' N qQ => ?_
  obtain ⟨rfl, rfl⟩ := qQ
  refine k_iinc (pc := 43) N d12_43 rfl (v := (2 : Int32)) (by decide) (Ls' := #[.val (.ref vt), .val (.ref ev), .val (.long t), .second, .val (.int (2 : Int32))]) rfl ?_
  refine k_goto (pc := 46) N d12_46 (pc' := 8) (by decide) ?_
  refine k_iload (pc := 8) N d12_8 rfl ?_
  refine k_aload_n (pc := 10) N d12_10 rfl rfl ?_
  replace N := ONow.sel (F := [oPo Z p1 (.ref ta1) (.ref xa1) (.ref ya1) (.int (1 : Int32)) (.int (1 : Int32)) (.double (0 : UInt64)) (.double (0 : UInt64)), oArr Z ta1 kt1 .long (lA 64 (upd zl 0 t)), oArr Z xa1 kxa1 .double (dA 64 (upd zd 0 (FP.i2d X1))), oArr Z ya1 kya1 .double (dA 64 (upd zd 0 (FP.i2d Y1))), oMe Z ev (.ref lv) (.int (-1 : Int32)) (.long t) (.ref nb) (.ref nx) (.ref ny) (.int (2 : Int32)) (.double (0 : UInt64)) (.double (0 : UInt64)) (.int (0 : Int32)), oArr Z nb kb .int [.int (nd lo), .int (nd hi)], oArr Z nx kx .double [.double (FP.i2d X0), .double (FP.i2d X1)], oArr Z ny ky .double [.double (FP.i2d Y0), .double (FP.i2d Y1)], oVt Z vt (.ref pa) (.ref xv) (.ref yv) (.long lt), oArr Z pa kpa (.object "com/example/tapflow/tapflow/VelocityTracker$Positions") (vA 32 (upd (upd zn lo (.ref p0)) hi (.ref p1))), oPo Z p0 (.ref ta0) (.ref xa0) (.ref ya0) (.int (1 : Int32)) (.int (1 : Int32)) (.double (0 : UInt64)) (.double (0 : UInt64)), oArr Z ta0 kt0 .long (lA 64 (upd zl 0 t)), oArr Z xa0 kxa0 .double (dA 64 (upd zd 0 (FP.i2d X0))), oArr Z ya0 kya0 .double (dA 64 (upd zd 0 (FP.i2d Y0)))]) (F' := [oMe Z ev (.ref lv) (.int (-1 : Int32)) (.long t) (.ref nb) (.ref nx) (.ref ny) (.int (2 : Int32)) (.double (0 : UInt64)) (.double (0 : UInt64)) (.int (0 : Int32)), oArr Z nb kb .int [.int (nd lo), .int (nd hi)], oArr Z nx kx .double [.double (FP.i2d X0), .double (FP.i2d X1)], oArr Z ny ky .double [.double (FP.i2d Y0), .double (FP.i2d Y1)], oPo Z p1 (.ref ta1) (.ref xa1) (.ref ya1) (.int (1 : Int32)) (.int (1 : Int32)) (.double (0 : UInt64)) (.double (0 : UInt64)), oArr Z ta1 kt1 .long (lA 64 (upd zl 0 t)), oArr Z xa1 kxa1 .double (dA 64 (upd zd 0 (FP.i2d X1))), oArr Z ya1 kya1 .double (dA 64 (upd zd 0 (FP.i2d Y1))), oVt Z vt (.ref pa) (.ref xv) (.ref yv) (.long lt), oArr Z pa kpa (.object "com/example/tapflow/tapflow/VelocityTracker$Positions") (vA 32 (upd (upd zn lo (.ref p0)) hi (.ref p1))), oPo Z p0 (.ref ta0) (.ref xa0) (.ref ya0) (.int (1 : Int32)) (.int (1 : Int32)) (.double (0 : UInt64)) (.double (0 : UInt64)), oArr Z ta0 kt0 .long (lA 64 (upd zl 0 t)), oArr Z xa0 kxa0 .double (dA 64 (upd zd 0 (FP.i2d X0))), oArr Z ya0 kya0 .double (dA 64 (upd zd 0 (FP.i2d Y0)))]) (rest := rest) N [4, 5, 6, 7, 0, 1, 2, 3, 8, 9, 10, 11, 12, 13] (by decide) rfl
  refine k_virtual (pc := 11) N (y := (⟨"com/example/tapflow/tapflow/MotionEvent", "getPointerCount", "()I"⟩ : MethodName)) (z := (⟨"com/example/tapflow/tapflow/MotionEvent", "getPointerCount", "()I"⟩ : MethodName)) (rest := [.int (2 : Int32)]) [] (a := ev) d12_11 (fun h N => N.exa (i := 0) rfl) (hw _ (List.mem_of_getElem? (i := 103) rfl)) (hw _ (List.mem_of_getElem? (i := 104) rfl)) (nf_self (hw _ (List.mem_of_getElem? (i := 106) rfl))) (hw _ (List.mem_of_getElem? (i := 106) rfl)) (hw _ (List.mem_of_getElem? (i := 105) rfl)) (hw _ (List.mem_of_getElem? (i := 21) rfl)) (hw _ (List.mem_of_getElem? (i := 107) rfl)) (by decide) pd___I rfl (c_gpc l Z a0 hw ev lv nb nx ny t kb kx ky lo hi X0 X1 Y0 Y1 ((oPo Z p1 (.ref ta1) (.ref xa1) (.ref ya1) (.int (1 : Int32)) (.int (1 : Int32)) (.double (0 : UInt64)) (.double (0 : UInt64))) :: (oArr Z ta1 kt1 .long (lA 64 (upd zl 0 t))) :: (oArr Z xa1 kxa1 .double (dA 64 (upd zd 0 (FP.i2d X1)))) :: (oArr Z ya1 kya1 .double (dA 64 (upd zd 0 (FP.i2d Y1)))) :: (oVt Z vt (.ref pa) (.ref xv) (.ref yv) (.long lt)) :: (oArr Z pa kpa (.object "com/example/tapflow/tapflow/VelocityTracker$Positions") (vA 32 (upd (upd zn lo (.ref p0)) hi (.ref p1)))) :: (oPo Z p0 (.ref ta0) (.ref xa0) (.ref ya0) (.int (1 : Int32)) (.int (1 : Int32)) (.double (0 : UInt64)) (.double (0 : UInt64))) :: (oArr Z ta0 kt0 .long (lA 64 (upd zl 0 t))) :: (oArr Z xa0 kxa0 .double (dA 64 (upd zd 0 (FP.i2d X0)))) :: (oArr Z ya0 kya0 .double (dA 64 (upd zd 0 (FP.i2d Y0)))) :: rest)) rfl rfl 1 rfl (by decide) (by decide) (cells' := 8) rfl (slots' := 398) rfl (by decide) (by decide) fun T vV K' N qQ => ?_
  obtain ⟨rfl, rfl⟩ := qQ
  refine k_icmp_ge (pc := 14) N d12_14 (pc' := 49) (by decide) (fun _ => ?_) (fun qQ => absurd qQ (by decide))
  replace N := ONow.sel (F := [oMe Z ev (.ref lv) (.int (-1 : Int32)) (.long t) (.ref nb) (.ref nx) (.ref ny) (.int (2 : Int32)) (.double (0 : UInt64)) (.double (0 : UInt64)) (.int (0 : Int32)), oArr Z nb kb .int [.int (nd lo), .int (nd hi)], oArr Z nx kx .double [.double (FP.i2d X0), .double (FP.i2d X1)], oArr Z ny ky .double [.double (FP.i2d Y0), .double (FP.i2d Y1)], oPo Z p1 (.ref ta1) (.ref xa1) (.ref ya1) (.int (1 : Int32)) (.int (1 : Int32)) (.double (0 : UInt64)) (.double (0 : UInt64)), oArr Z ta1 kt1 .long (lA 64 (upd zl 0 t)), oArr Z xa1 kxa1 .double (dA 64 (upd zd 0 (FP.i2d X1))), oArr Z ya1 kya1 .double (dA 64 (upd zd 0 (FP.i2d Y1))), oVt Z vt (.ref pa) (.ref xv) (.ref yv) (.long lt), oArr Z pa kpa (.object "com/example/tapflow/tapflow/VelocityTracker$Positions") (vA 32 (upd (upd zn lo (.ref p0)) hi (.ref p1))), oPo Z p0 (.ref ta0) (.ref xa0) (.ref ya0) (.int (1 : Int32)) (.int (1 : Int32)) (.double (0 : UInt64)) (.double (0 : UInt64)), oArr Z ta0 kt0 .long (lA 64 (upd zl 0 t)), oArr Z xa0 kxa0 .double (dA 64 (upd zd 0 (FP.i2d X0))), oArr Z ya0 kya0 .double (dA 64 (upd zd 0 (FP.i2d Y0)))]) (F' := [oVt Z vt (.ref pa) (.ref xv) (.ref yv) (.long lt), oArr Z pa kpa (.object "com/example/tapflow/tapflow/VelocityTracker$Positions") (vA 32 (upd (upd zn lo (.ref p0)) hi (.ref p1))), oMe Z ev (.ref lv) (.int (-1 : Int32)) (.long t) (.ref nb) (.ref nx) (.ref ny) (.int (2 : Int32)) (.double (0 : UInt64)) (.double (0 : UInt64)) (.int (0 : Int32)), oArr Z nb kb .int [.int (nd lo), .int (nd hi)], oArr Z nx kx .double [.double (FP.i2d X0), .double (FP.i2d X1)], oArr Z ny ky .double [.double (FP.i2d Y0), .double (FP.i2d Y1)], oPo Z p0 (.ref ta0) (.ref xa0) (.ref ya0) (.int (1 : Int32)) (.int (1 : Int32)) (.double (0 : UInt64)) (.double (0 : UInt64)), oArr Z ta0 kt0 .long (lA 64 (upd zl 0 t)), oArr Z xa0 kxa0 .double (dA 64 (upd zd 0 (FP.i2d X0))), oArr Z ya0 kya0 .double (dA 64 (upd zd 0 (FP.i2d Y0))), oPo Z p1 (.ref ta1) (.ref xa1) (.ref ya1) (.int (1 : Int32)) (.int (1 : Int32)) (.double (0 : UInt64)) (.double (0 : UInt64)), oArr Z ta1 kt1 .long (lA 64 (upd zl 0 t)), oArr Z xa1 kxa1 .double (dA 64 (upd zd 0 (FP.i2d X1))), oArr Z ya1 kya1 .double (dA 64 (upd zd 0 (FP.i2d Y1)))]) (rest := rest) N [8, 9, 0, 1, 2, 3, 10, 11, 12, 13, 4, 5, 6, 7] (by decide) rfl
  exact k_return (pc := 49) N d12_49 rfl (by decide) (by decide) ⟨p0, ta0, xa0, ya0, kt0, kxa0, kya0, p1, ta1, xa1, ya1, kt1, kxa1, kya1, rfl, rfl⟩
set_option maxRecDepth 65536 in
theorem ef_c_ap1 (m : MethodId) (z0 : Addr) (z1 : Addr) : entryFrame m ([.ref z0, .ref z1] : List Value).toArray 5 = mkF m 0 #[.val (.ref z0), .val (.ref z1), .unset, .unset, .unset] [] := by first | (simp [entryFrame, mkF, argsToLocals, Value.category]; done) | rfl
def rm_c_ap1 : Room := { frames := 2, cells := 0, slots := 0, locals := 33 }
set_option maxRecDepth 65536 in
set_option maxHeartbeats 40000000 in
theorem c_ap1 (l : Launch) (Z : State) (a0 : Array Value) (hw : ∀ d ∈ tables_1, d.before a0 Z = true) (vt pa xv yv : Addr) (kpa : ClassId) (ov : Ovr Z kpa "com/example/tapflow/tapflow/VelocityTracker$Positions") (lt : Int64) (P : Nat → Value) (ev lv nb nx ny : Addr) (t : Int64) (kb kx ky : ClassId) (lo hi : Nat) (X0 X1 Y0 Y1 : Int32) (p0 ta0 xa0 ya0 : Addr) (kt0 kxa0 kya0 : ClassId) (ft0 : Nat → Int64) (fx0 fy0 : Nat → UInt64) (sx0 sy0 : UInt64) (p1 ta1 xa1 ya1 : Addr) (kt1 kxa1 kya1 : ClassId) (ft1 : Nat → Int64) (fx1 fy1 : Nat → UInt64) (sx1 sy1 : UInt64) (hlo : lo < 32) (hhi : hi < 32) (hne : hi ≠ lo) (hP0 : P lo = .ref p0) (hP1 : P hi = .ref p1) (rest : List Ent) :
    OMeets l (⟨"com/example/tapflow/tapflow/VelocityTracker", "addPositions", "(Lcom/example/tapflow/tapflow/MotionEvent;)V"⟩ : MethodName) prog_15_method_8_code 5 none rm_c_ap1 Z [.ref vt, .ref ev] ((oVt Z vt (.ref pa) (.ref xv) (.ref yv) (.long lt)) :: (oArr Z pa kpa (.object "com/example/tapflow/tapflow/VelocityTracker$Positions") (vA 32 P)) :: (oMe Z ev (.ref lv) (.int (-1 : Int32)) (.long t) (.ref nb) (.ref nx) (.ref ny) (.int (2 : Int32)) (.double (0 : UInt64)) (.double (0 : UInt64)) (.int (0 : Int32))) :: (oArr Z nb kb .int [.int (nd lo), .int (nd hi)]) :: (oArr Z nx kx .double [.double (FP.i2d X0), .double (FP.i2d X1)]) :: (oArr Z ny ky .double [.double (FP.i2d Y0), .double (FP.i2d Y1)]) :: (oPo Z p0 (.ref ta0) (.ref xa0) (.ref ya0) (.int (1 : Int32)) (.int (1 : Int32)) (.double sx0) (.double sy0)) :: (oArr Z ta0 kt0 .long (lA 64 ft0)) :: (oArr Z xa0 kxa0 .double (dA 64 fx0)) :: (oArr Z ya0 kya0 .double (dA 64 fy0)) :: (oPo Z p1 (.ref ta1) (.ref xa1) (.ref ya1) (.int (1 : Int32)) (.int (1 : Int32)) (.double sx1) (.double sy1)) :: (oArr Z ta1 kt1 .long (lA 64 ft1)) :: (oArr Z xa1 kxa1 .double (dA 64 fx1)) :: (oArr Z ya1 kya1 .double (dA 64 fy1)) :: rest) (fun v K => v = none ∧ K = (oVt Z vt (.ref pa) (.ref xv) (.ref yv) (.long lt)) :: (oArr Z pa kpa (.object "com/example/tapflow/tapflow/VelocityTracker$Positions") (vA 32 P)) :: (oMe Z ev (.ref lv) (.int (-1 : Int32)) (.long t) (.ref nb) (.ref nx) (.ref ny) (.int (2 : Int32)) (.double (0 : UInt64)) (.double (0 : UInt64)) (.int (0 : Int32))) :: (oArr Z nb kb .int [.int (nd lo), .int (nd hi)]) :: (oArr Z nx kx .double [.double (FP.i2d X0), .double (FP.i2d X1)]) :: (oArr Z ny ky .double [.double (FP.i2d Y0), .double (FP.i2d Y1)]) :: (oPo Z p0 (.ref ta0) (.ref xa0) (.ref ya0) (.int (2 : Int32)) (.int (2 : Int32)) (.double sx0) (.double sy0)) :: (oArr Z ta0 kt0 .long (lA 64 (upd ft0 1 t))) :: (oArr Z xa0 kxa0 .double (dA 64 (upd fx0 1 (FP.i2d X0)))) :: (oArr Z ya0 kya0 .double (dA 64 (upd fy0 1 (FP.i2d Y0)))) :: (oPo Z p1 (.ref ta1) (.ref xa1) (.ref ya1) (.int (2 : Int32)) (.int (2 : Int32)) (.double sx1) (.double sy1)) :: (oArr Z ta1 kt1 .long (lA 64 (upd ft1 1 t))) :: (oArr Z xa1 kxa1 .double (dA 64 (upd fx1 1 (FP.i2d X1)))) :: (oArr Z ya1 kya1 .double (dA 64 (upd fy1 1 (FP.i2d Y1)))) :: rest) := by
  refine OMeets.of_body (plainFor_of_name pn_com_example_tapflow_tapflow_VelocityTracker) #[.val (.ref vt), .val (.ref ev), .unset, .unset, .unset] (fun m => ef_c_ap1 m vt ev) fun pP eE sS mM bB hH cC T N => ?_
  refine k_aload_n (pc := 0) N d12_0 rfl rfl ?_
  replace N := ONow.sel (F := [oVt Z vt (.ref pa) (.ref xv) (.ref yv) (.long lt), oArr Z pa kpa (.object "com/example/tapflow/tapflow/VelocityTracker$Positions") (vA 32 P), oMe Z ev (.ref lv) (.int (-1 : Int32)) (.long t) (.ref nb) (.ref nx) (.ref ny) (.int (2 : Int32)) (.double (0 : UInt64)) (.double (0 : UInt64)) (.int (0 : Int32)), oArr Z nb kb .int [.int (nd lo), .int (nd hi)], oArr Z nx kx .double [.double (FP.i2d X0), .double (FP.i2d X1)], oArr Z ny ky .double [.double (FP.i2d Y0), .double (FP.i2d Y1)], oPo Z p0 (.ref ta0) (.ref xa0) (.ref ya0) (.int (1 : Int32)) (.int (1 : Int32)) (.double sx0) (.double sy0), oArr Z ta0 kt0 .long (lA 64 ft0), oArr Z xa0 kxa0 .double (dA 64 fx0), oArr Z ya0 kya0 .double (dA 64 fy0), oPo Z p1 (.ref ta1) (.ref xa1) (.ref ya1) (.int (1 : Int32)) (.int (1 : Int32)) (.double sx1) (.double sy1), oArr Z ta1 kt1 .long (lA 64 ft1), oArr Z xa1 kxa1 .double (dA 64 fx1), oArr Z ya1 kya1 .double (dA 64 fy1)]) (F' := [oMe Z ev (.ref lv) (.int (-1 : Int32)) (.long t) (.ref nb) (.ref nx) (.ref ny) (.int (2 : Int32)) (.double (0 : UInt64)) (.double (0 : UInt64)) (.int (0 : Int32)), oArr Z nb kb .int [.int (nd lo), .int (nd hi)], oArr Z nx kx .double [.double (FP.i2d X0), .double (FP.i2d X1)], oArr Z ny ky .double [.double (FP.i2d Y0), .double (FP.i2d Y1)], oVt Z vt (.ref pa) (.ref xv) (.ref yv) (.long lt), oArr Z pa kpa (.object "com/example/tapflow/tapflow/VelocityTracker$Positions") (vA 32 P), oPo Z p0 (.ref ta0) (.ref xa0) (.ref ya0) (.int (1 : Int32)) (.int (1 : Int32)) (.double sx0) (.double sy0), oArr Z ta0 kt0 .long (lA 64 ft0), oArr Z xa0 kxa0 .double (dA 64 fx0), oArr Z ya0 kya0 .double (dA 64 fy0), oPo Z p1 (.ref ta1) (.ref xa1) (.ref ya1) (.int (1 : Int32)) (.int (1 : Int32)) (.double sx1) (.double sy1), oArr Z ta1 kt1 .long (lA 64 ft1), oArr Z xa1 kxa1 .double (dA 64 fx1), oArr Z ya1 kya1 .double (dA 64 fy1)]) (rest := rest) N [2, 3, 4, 5, 0, 1, 6, 7, 8, 9, 10, 11, 12, 13] (by decide) rfl
  refine k_virtual (pc := 1) N (y := (⟨"com/example/tapflow/tapflow/MotionEvent", "getEventTimeNanos", "()J"⟩ : MethodName)) (z := (⟨"com/example/tapflow/tapflow/MotionEvent", "getEventTimeNanos", "()J"⟩ : MethodName)) (rest := []) [] (a := ev) d12_1 (fun h N => N.exa (i := 0) rfl) (hw _ (List.mem_of_getElem? (i := 98) rfl)) (hw _ (List.mem_of_getElem? (i := 99) rfl)) (nf_self (hw _ (List.mem_of_getElem? (i := 101) rfl))) (hw _ (List.mem_of_getElem? (i := 101) rfl)) (hw _ (List.mem_of_getElem? (i := 100) rfl)) (hw _ (List.mem_of_getElem? (i := 21) rfl)) (hw _ (List.mem_of_getElem? (i := 102) rfl)) (by decide) pd___J rfl (c_gt l Z a0 hw ev lv nb nx ny t kb kx ky lo hi X0 X1 Y0 Y1 ((oVt Z vt (.ref pa) (.ref xv) (.ref yv) (.long lt)) :: (oArr Z pa kpa (.object "com/example/tapflow/tapflow/VelocityTracker$Positions") (vA 32 P)) :: (oPo Z p0 (.ref ta0) (.ref xa0) (.ref ya0) (.int (1 : Int32)) (.int (1 : Int32)) (.double sx0) (.double sy0)) :: (oArr Z ta0 kt0 .long (lA 64 ft0)) :: (oArr Z xa0 kxa0 .double (dA 64 fx0)) :: (oArr Z ya0 kya0 .double (dA 64 fy0)) :: (oPo Z p1 (.ref ta1) (.ref xa1) (.ref ya1) (.int (1 : Int32)) (.int (1 : Int32)) (.double sx1) (.double sy1)) :: (oArr Z ta1 kt1 .long (lA 64 ft1)) :: (oArr Z xa1 kxa1 .double (dA 64 fx1)) :: (oArr Z ya1 kya1 .double (dA 64 fy1)) :: rest)) rfl rfl 0 rfl (by decide) (by decide) (cells' := 0) rfl (slots' := 0) rfl (by decide) (by decide) fun T vV K' N qQ => ?_
  obtain ⟨rfl, rfl⟩ := qQ
  refine k_lstore_n (pc := 4) N d12_4 (Ls' := #[.val (.ref vt), .val (.ref ev), .val (.long t), .second, .unset]) rfl ?_
  refine k_iconst (pc := 5) N d12_5 (v := (0 : Int32)) (by decide) ?_
  refine k_istore (pc := 6) N d12_6 (Ls' := #[.val (.ref vt), .val (.ref ev), .val (.long t), .second, .val (.int (0 : Int32))]) rfl ?_
  refine k_iload (pc := 8) N d12_8 rfl ?_
  refine k_aload_n (pc := 10) N d12_10 rfl rfl ?_
  refine k_virtual (pc := 11) N (y := (⟨"com/example/tapflow/tapflow/MotionEvent", "getPointerCount", "()I"⟩ : MethodName)) (z := (⟨"com/example/tapflow/tapflow/MotionEvent", "getPointerCount", "()I"⟩ : MethodName)) (rest := [.int (0 : Int32)]) [] (a := ev) d12_11 (fun h N => N.exa (i := 0) rfl) (hw _ (List.mem_of_getElem? (i := 103) rfl)) (hw _ (List.mem_of_getElem? (i := 104) rfl)) (nf_self (hw _ (List.mem_of_getElem? (i := 106) rfl))) (hw _ (List.mem_of_getElem? (i := 106) rfl)) (hw _ (List.mem_of_getElem? (i := 105) rfl)) (hw _ (List.mem_of_getElem? (i := 21) rfl)) (hw _ (List.mem_of_getElem? (i := 107) rfl)) (by decide) pd___I rfl (c_gpc l Z a0 hw ev lv nb nx ny t kb kx ky lo hi X0 X1 Y0 Y1 ((oVt Z vt (.ref pa) (.ref xv) (.ref yv) (.long lt)) :: (oArr Z pa kpa (.object "com/example/tapflow/tapflow/VelocityTracker$Positions") (vA 32 P)) :: (oPo Z p0 (.ref ta0) (.ref xa0) (.ref ya0) (.int (1 : Int32)) (.int (1 : Int32)) (.double sx0) (.double sy0)) :: (oArr Z ta0 kt0 .long (lA 64 ft0)) :: (oArr Z xa0 kxa0 .double (dA 64 fx0)) :: (oArr Z ya0 kya0 .double (dA 64 fy0)) :: (oPo Z p1 (.ref ta1) (.ref xa1) (.ref ya1) (.int (1 : Int32)) (.int (1 : Int32)) (.double sx1) (.double sy1)) :: (oArr Z ta1 kt1 .long (lA 64 ft1)) :: (oArr Z xa1 kxa1 .double (dA 64 fx1)) :: (oArr Z ya1 kya1 .double (dA 64 fy1)) :: rest)) rfl rfl 1 rfl (by decide) (by decide) (cells' := 0) rfl (slots' := 0) rfl (by decide) (by decide) fun T vV K' N qQ => ?_
  obtain ⟨rfl, rfl⟩ := qQ
  refine k_icmp_ge (pc := 14) N d12_14 (pc' := 49) (by decide) (fun qQ => absurd qQ (by decide)) (fun _ => ?_)
  refine k_aload_n (pc := 17) N d12_17 rfl rfl ?_
  refine k_aload_n (pc := 18) N d12_18 rfl rfl ?_
  refine k_iload (pc := 19) N d12_19 rfl ?_
  refine k_virtual (pc := 21) N (y := (⟨"com/example/tapflow/tapflow/MotionEvent", "getPointerId", "(I)I"⟩ : MethodName)) (z := (⟨"com/example/tapflow/tapflow/MotionEvent", "getPointerId", "(I)I"⟩ : MethodName)) (rest := [.ref vt]) [.int (0 : Int32)] (a := ev) d12_21 (fun h N => N.exa (i := 0) rfl) (hw _ (List.mem_of_getElem? (i := 108) rfl)) (hw _ (List.mem_of_getElem? (i := 109) rfl)) (nf_self (hw _ (List.mem_of_getElem? (i := 111) rfl))) (hw _ (List.mem_of_getElem? (i := 111) rfl)) (hw _ (List.mem_of_getElem? (i := 110) rfl)) (hw _ (List.mem_of_getElem? (i := 21) rfl)) (hw _ (List.mem_of_getElem? (i := 112) rfl)) (by decide) pd__I_I rfl (c_gpi0 l Z a0 hw ev lv nb nx ny t kb kx ky lo hi X0 X1 Y0 Y1 ((oVt Z vt (.ref pa) (.ref xv) (.ref yv) (.long lt)) :: (oArr Z pa kpa (.object "com/example/tapflow/tapflow/VelocityTracker$Positions") (vA 32 P)) :: (oPo Z p0 (.ref ta0) (.ref xa0) (.ref ya0) (.int (1 : Int32)) (.int (1 : Int32)) (.double sx0) (.double sy0)) :: (oArr Z ta0 kt0 .long (lA 64 ft0)) :: (oArr Z xa0 kxa0 .double (dA 64 fx0)) :: (oArr Z ya0 kya0 .double (dA 64 fy0)) :: (oPo Z p1 (.ref ta1) (.ref xa1) (.ref ya1) (.int (1 : Int32)) (.int (1 : Int32)) (.double sx1) (.double sy1)) :: (oArr Z ta1 kt1 .long (lA 64 ft1)) :: (oArr Z xa1 kxa1 .double (dA 64 fx1)) :: (oArr Z ya1 kya1 .double (dA 64 fy1)) :: rest)) rfl rfl 1 rfl (by decide) (by decide) (cells' := 0) rfl (slots' := 0) rfl (by decide) (by decide) fun T vV K' N qQ => ?_
  obtain ⟨rfl, rfl⟩ := qQ
  replace N := ONow.sel (F := [oMe Z ev (.ref lv) (.int (-1 : Int32)) (.long t) (.ref nb) (.ref nx) (.ref ny) (.int (2 : Int32)) (.double (0 : UInt64)) (.double (0 : UInt64)) (.int (0 : Int32)), oArr Z nb kb .int [.int (nd lo), .int (nd hi)], oArr Z nx kx .double [.double (FP.i2d X0), .double (FP.i2d X1)], oArr Z ny ky .double [.double (FP.i2d Y0), .double (FP.i2d Y1)], oVt Z vt (.ref pa) (.ref xv) (.ref yv) (.long lt), oArr Z pa kpa (.object "com/example/tapflow/tapflow/VelocityTracker$Positions") (vA 32 P), oPo Z p0 (.ref ta0) (.ref xa0) (.ref ya0) (.int (1 : Int32)) (.int (1 : Int32)) (.double sx0) (.double sy0), oArr Z ta0 kt0 .long (lA 64 ft0), oArr Z xa0 kxa0 .double (dA 64 fx0), oArr Z ya0 kya0 .double (dA 64 fy0), oPo Z p1 (.ref ta1) (.ref xa1) (.ref ya1) (.int (1 : Int32)) (.int (1 : Int32)) (.double sx1) (.double sy1), oArr Z ta1 kt1 .long (lA 64 ft1), oArr Z xa1 kxa1 .double (dA 64 fx1), oArr Z ya1 kya1 .double (dA 64 fy1)]) (F' := [oVt Z vt (.ref pa) (.ref xv) (.ref yv) (.long lt), oArr Z pa kpa (.object "com/example/tapflow/tapflow/VelocityTracker$Positions") (vA 32 P), oMe Z ev (.ref lv) (.int (-1 : Int32)) (.long t) (.ref nb) (.ref nx) (.ref ny) (.int (2 : Int32)) (.double (0 : UInt64)) (.double (0 : UInt64)) (.int (0 : Int32)), oArr Z nb kb .int [.int (nd lo), .int (nd hi)], oArr Z nx kx .double [.double (FP.i2d X0), .double (FP.i2d X1)], oArr Z ny ky .double [.double (FP.i2d Y0), .double (FP.i2d Y1)], oPo Z p0 (.ref ta0) (.ref xa0) (.ref ya0) (.int (1 : Int32)) (.int (1 : Int32)) (.double sx0) (.double sy0), oArr Z ta0 kt0 .long (lA 64 ft0), oArr Z xa0 kxa0 .double (dA 64 fx0), oArr Z ya0 kya0 .double (dA 64 fy0), oPo Z p1 (.ref ta1) (.ref xa1) (.ref ya1) (.int (1 : Int32)) (.int (1 : Int32)) (.double sx1) (.double sy1), oArr Z ta1 kt1 .long (lA 64 ft1), oArr Z xa1 kxa1 .double (dA 64 fx1), oArr Z ya1 kya1 .double (dA 64 fy1)]) (rest := rest) N [4, 5, 0, 1, 2, 3, 6, 7, 8, 9, 10, 11, 12, 13] (by decide) rfl
  refine k_private (pc := 24) N (y := (⟨"com/example/tapflow/tapflow/VelocityTracker", "positionsOf", "(I)Lcom/example/tapflow/tapflow/VelocityTracker$Positions;"⟩ : MethodName)) (rest := []) [.int (nd lo)] (a := vt) 0 d12_24 rfl (hw _ (List.mem_of_getElem? (i := 3) rfl)) (hw _ (List.mem_of_getElem? (i := 113) rfl)) (hw _ (List.mem_of_getElem? (i := 114) rfl)) (hw _ (List.mem_of_getElem? (i := 115) rfl)) (hw _ (List.mem_of_getElem? (i := 4) rfl)) (hw _ (List.mem_of_getElem? (i := 116) rfl)) (by decide) pd__I_Lcom_example_tapflow_tapflow_VelocityTracker_Positions_ rfl (c_pof1 l Z a0 hw vt pa xv yv kpa ov lt P lo hlo p0 hP0 ((oMe Z ev (.ref lv) (.int (-1 : Int32)) (.long t) (.ref nb) (.ref nx) (.ref ny) (.int (2 : Int32)) (.double (0 : UInt64)) (.double (0 : UInt64)) (.int (0 : Int32))) :: (oArr Z nb kb .int [.int (nd lo), .int (nd hi)]) :: (oArr Z nx kx .double [.double (FP.i2d X0), .double (FP.i2d X1)]) :: (oArr Z ny ky .double [.double (FP.i2d Y0), .double (FP.i2d Y1)]) :: (oPo Z p0 (.ref ta0) (.ref xa0) (.ref ya0) (.int (1 : Int32)) (.int (1 : Int32)) (.double sx0) (.double sy0)) :: (oArr Z ta0 kt0 .long (lA 64 ft0)) :: (oArr Z xa0 kxa0 .double (dA 64 fx0)) :: (oArr Z ya0 kya0 .double (dA 64 fy0)) :: (oPo Z p1 (.ref ta1) (.ref xa1) (.ref ya1) (.int (1 : Int32)) (.int (1 : Int32)) (.double sx1) (.double sy1)) :: (oArr Z ta1 kt1 .long (lA 64 ft1)) :: (oArr Z xa1 kxa1 .double (dA 64 fx1)) :: (oArr Z ya1 kya1 .double (dA 64 fy1)) :: rest)) rfl rfl 0 rfl (by decide) (by decide) (cells' := 0) rfl (slots' := 0) rfl (by decide) (by decide) fun T vV K' N qQ => ?_
  obtain ⟨rfl, rfl⟩ := qQ
  refine k_lload_n (pc := 27) N d12_27 rfl ?_
  refine k_aload_n (pc := 28) N d12_28 rfl rfl ?_
  refine k_iload (pc := 29) N d12_29 rfl ?_
  replace N := ONow.sel (F := [oVt Z vt (.ref pa) (.ref xv) (.ref yv) (.long lt), oArr Z pa kpa (.object "com/example/tapflow/tapflow/VelocityTracker$Positions") (vA 32 P), oMe Z ev (.ref lv) (.int (-1 : Int32)) (.long t) (.ref nb) (.ref nx) (.ref ny) (.int (2 : Int32)) (.double (0 : UInt64)) (.double (0 : UInt64)) (.int (0 : Int32)), oArr Z nb kb .int [.int (nd lo), .int (nd hi)], oArr Z nx kx .double [.double (FP.i2d X0), .double (FP.i2d X1)], oArr Z ny ky .double [.double (FP.i2d Y0), .double (FP.i2d Y1)], oPo Z p0 (.ref ta0) (.ref xa0) (.ref ya0) (.int (1 : Int32)) (.int (1 : Int32)) (.double sx0) (.double sy0), oArr Z ta0 kt0 .long (lA 64 ft0), oArr Z xa0 kxa0 .double (dA 64 fx0), oArr Z ya0 kya0 .double (dA 64 fy0), oPo Z p1 (.ref ta1) (.ref xa1) (.ref ya1) (.int (1 : Int32)) (.int (1 : Int32)) (.double sx1) (.double sy1), oArr Z ta1 kt1 .long (lA 64 ft1), oArr Z xa1 kxa1 .double (dA 64 fx1), oArr Z ya1 kya1 .double (dA 64 fy1)]) (F' := [oMe Z ev (.ref lv) (.int (-1 : Int32)) (.long t) (.ref nb) (.ref nx) (.ref ny) (.int (2 : Int32)) (.double (0 : UInt64)) (.double (0 : UInt64)) (.int (0 : Int32)), oArr Z nb kb .int [.int (nd lo), .int (nd hi)], oArr Z nx kx .double [.double (FP.i2d X0), .double (FP.i2d X1)], oArr Z ny ky .double [.double (FP.i2d Y0), .double (FP.i2d Y1)], oVt Z vt (.ref pa) (.ref xv) (.ref yv) (.long lt), oArr Z pa kpa (.object "com/example/tapflow/tapflow/VelocityTracker$Positions") (vA 32 P), oPo Z p0 (.ref ta0) (.ref xa0) (.ref ya0) (.int (1 : Int32)) (.int (1 : Int32)) (.double sx0) (.double sy0), oArr Z ta0 kt0 .long (lA 64 ft0), oArr Z xa0 kxa0 .double (dA 64 fx0), oArr Z ya0 kya0 .double (dA 64 fy0), oPo Z p1 (.ref ta1) (.ref xa1) (.ref ya1) (.int (1 : Int32)) (.int (1 : Int32)) (.double sx1) (.double sy1), oArr Z ta1 kt1 .long (lA 64 ft1), oArr Z xa1 kxa1 .double (dA 64 fx1), oArr Z ya1 kya1 .double (dA 64 fy1)]) (rest := rest) N [2, 3, 4, 5, 0, 1, 6, 7, 8, 9, 10, 11, 12, 13] (by decide) rfl
  refine k_virtual (pc := 31) N (y := (⟨"com/example/tapflow/tapflow/MotionEvent", "getX", "(I)D"⟩ : MethodName)) (z := (⟨"com/example/tapflow/tapflow/MotionEvent", "getX", "(I)D"⟩ : MethodName)) (rest := [.long t, .ref p0]) [.int (0 : Int32)] (a := ev) d12_31 (fun h N => N.exa (i := 0) rfl) (hw _ (List.mem_of_getElem? (i := 131) rfl)) (hw _ (List.mem_of_getElem? (i := 132) rfl)) (nf_self (hw _ (List.mem_of_getElem? (i := 134) rfl))) (hw _ (List.mem_of_getElem? (i := 134) rfl)) (hw _ (List.mem_of_getElem? (i := 133) rfl)) (hw _ (List.mem_of_getElem? (i := 21) rfl)) (hw _ (List.mem_of_getElem? (i := 135) rfl)) (by decide) pd__I_D rfl (c_gx0 l Z a0 hw ev lv nb nx ny t kb kx ky lo hi X0 X1 Y0 Y1 ((oVt Z vt (.ref pa) (.ref xv) (.ref yv) (.long lt)) :: (oArr Z pa kpa (.object "com/example/tapflow/tapflow/VelocityTracker$Positions") (vA 32 P)) :: (oPo Z p0 (.ref ta0) (.ref xa0) (.ref ya0) (.int (1 : Int32)) (.int (1 : Int32)) (.double sx0) (.double sy0)) :: (oArr Z ta0 kt0 .long (lA 64 ft0)) :: (oArr Z xa0 kxa0 .double (dA 64 fx0)) :: (oArr Z ya0 kya0 .double (dA 64 fy0)) :: (oPo Z p1 (.ref ta1) (.ref xa1) (.ref ya1) (.int (1 : Int32)) (.int (1 : Int32)) (.double sx1) (.double sy1)) :: (oArr Z ta1 kt1 .long (lA 64 ft1)) :: (oArr Z xa1 kxa1 .double (dA 64 fx1)) :: (oArr Z ya1 kya1 .double (dA 64 fy1)) :: rest)) rfl rfl 3 rfl (by decide) (by decide) (cells' := 0) rfl (slots' := 0) rfl (by decide) (by decide) fun T vV K' N qQ => ?_
  obtain ⟨rfl, rfl⟩ := qQ
  refine k_aload_n (pc := 34) N d12_34 rfl rfl ?_
  refine k_iload (pc := 35) N d12_35 rfl ?_
  refine k_virtual (pc := 37) N (y := (⟨"com/example/tapflow/tapflow/MotionEvent", "getY", "(I)D"⟩ : MethodName)) (z := (⟨"com/example/tapflow/tapflow/MotionEvent", "getY", "(I)D"⟩ : MethodName)) (rest := [.double (FP.i2d X0), .long t, .ref p0]) [.int (0 : Int32)] (a := ev) d12_37 (fun h N => N.exa (i := 0) rfl) (hw _ (List.mem_of_getElem? (i := 144) rfl)) (hw _ (List.mem_of_getElem? (i := 145) rfl)) (nf_self (hw _ (List.mem_of_getElem? (i := 147) rfl))) (hw _ (List.mem_of_getElem? (i := 147) rfl)) (hw _ (List.mem_of_getElem? (i := 146) rfl)) (hw _ (List.mem_of_getElem? (i := 21) rfl)) (hw _ (List.mem_of_getElem? (i := 148) rfl)) (by decide) pd__I_D rfl (c_gy0 l Z a0 hw ev lv nb nx ny t kb kx ky lo hi X0 X1 Y0 Y1 ((oVt Z vt (.ref pa) (.ref xv) (.ref yv) (.long lt)) :: (oArr Z pa kpa (.object "com/example/tapflow/tapflow/VelocityTracker$Positions") (vA 32 P)) :: (oPo Z p0 (.ref ta0) (.ref xa0) (.ref ya0) (.int (1 : Int32)) (.int (1 : Int32)) (.double sx0) (.double sy0)) :: (oArr Z ta0 kt0 .long (lA 64 ft0)) :: (oArr Z xa0 kxa0 .double (dA 64 fx0)) :: (oArr Z ya0 kya0 .double (dA 64 fy0)) :: (oPo Z p1 (.ref ta1) (.ref xa1) (.ref ya1) (.int (1 : Int32)) (.int (1 : Int32)) (.double sx1) (.double sy1)) :: (oArr Z ta1 kt1 .long (lA 64 ft1)) :: (oArr Z xa1 kxa1 .double (dA 64 fx1)) :: (oArr Z ya1 kya1 .double (dA 64 fy1)) :: rest)) rfl rfl 5 rfl (by decide) (by decide) (cells' := 0) rfl (slots' := 0) rfl (by decide) (by decide) fun T vV K' N qQ => ?_
  obtain ⟨rfl, rfl⟩ := qQ
  replace N := ONow.sel (F := [oMe Z ev (.ref lv) (.int (-1 : Int32)) (.long t) (.ref nb) (.ref nx) (.ref ny) (.int (2 : Int32)) (.double (0 : UInt64)) (.double (0 : UInt64)) (.int (0 : Int32)), oArr Z nb kb .int [.int (nd lo), .int (nd hi)], oArr Z nx kx .double [.double (FP.i2d X0), .double (FP.i2d X1)], oArr Z ny ky .double [.double (FP.i2d Y0), .double (FP.i2d Y1)], oVt Z vt (.ref pa) (.ref xv) (.ref yv) (.long lt), oArr Z pa kpa (.object "com/example/tapflow/tapflow/VelocityTracker$Positions") (vA 32 P), oPo Z p0 (.ref ta0) (.ref xa0) (.ref ya0) (.int (1 : Int32)) (.int (1 : Int32)) (.double sx0) (.double sy0), oArr Z ta0 kt0 .long (lA 64 ft0), oArr Z xa0 kxa0 .double (dA 64 fx0), oArr Z ya0 kya0 .double (dA 64 fy0), oPo Z p1 (.ref ta1) (.ref xa1) (.ref ya1) (.int (1 : Int32)) (.int (1 : Int32)) (.double sx1) (.double sy1), oArr Z ta1 kt1 .long (lA 64 ft1), oArr Z xa1 kxa1 .double (dA 64 fx1), oArr Z ya1 kya1 .double (dA 64 fy1)]) (F' := [oPo Z p0 (.ref ta0) (.ref xa0) (.ref ya0) (.int (1 : Int32)) (.int (1 : Int32)) (.double sx0) (.double sy0), oArr Z ta0 kt0 .long (lA 64 ft0), oArr Z xa0 kxa0 .double (dA 64 fx0), oArr Z ya0 kya0 .double (dA 64 fy0), oMe Z ev (.ref lv) (.int (-1 : Int32)) (.long t) (.ref nb) (.ref nx) (.ref ny) (.int (2 : Int32)) (.double (0 : UInt64)) (.double (0 : UInt64)) (.int (0 : Int32)), oArr Z nb kb .int [.int (nd lo), .int (nd hi)], oArr Z nx kx .double [.double (FP.i2d X0), .double (FP.i2d X1)], oArr Z ny ky .double [.double (FP.i2d Y0), .double (FP.i2d Y1)], oVt Z vt (.ref pa) (.ref xv) (.ref yv) (.long lt), oArr Z pa kpa (.object "com/example/tapflow/tapflow/VelocityTracker$Positions") (vA 32 P), oPo Z p1 (.ref ta1) (.ref xa1) (.ref ya1) (.int (1 : Int32)) (.int (1 : Int32)) (.double sx1) (.double sy1), oArr Z ta1 kt1 .long (lA 64 ft1), oArr Z xa1 kxa1 .double (dA 64 fx1), oArr Z ya1 kya1 .double (dA 64 fy1)]) (rest := rest) N [6, 7, 8, 9, 0, 1, 2, 3, 4, 5, 10, 11, 12, 13] (by decide) rfl
  refine k_virtual (pc := 40) N (y := (⟨"com/example/tapflow/tapflow/VelocityTracker$Positions", "add", "(JDD)V"⟩ : MethodName)) (z := (⟨"com/example/tapflow/tapflow/VelocityTracker$Positions", "add", "(JDD)V"⟩ : MethodName)) (rest := []) [.long t, .double (FP.i2d X0), .double (FP.i2d Y0)] (a := p0) d12_40 (fun h N => N.exa (i := 0) rfl) (hw _ (List.mem_of_getElem? (i := 155) rfl)) (hw _ (List.mem_of_getElem? (i := 156) rfl)) (nf_self (hw _ (List.mem_of_getElem? (i := 158) rfl))) (hw _ (List.mem_of_getElem? (i := 158) rfl)) (hw _ (List.mem_of_getElem? (i := 157) rfl)) (hw _ (List.mem_of_getElem? (i := 118) rfl)) (hw _ (List.mem_of_getElem? (i := 159) rfl)) (by decide) pd__JDD_V rfl (c_padd1 l Z a0 hw p0 ta0 xa0 ya0 kt0 kxa0 kya0 ft0 fx0 fy0 sx0 sy0 t (FP.i2d X0) (FP.i2d Y0) ((oMe Z ev (.ref lv) (.int (-1 : Int32)) (.long t) (.ref nb) (.ref nx) (.ref ny) (.int (2 : Int32)) (.double (0 : UInt64)) (.double (0 : UInt64)) (.int (0 : Int32))) :: (oArr Z nb kb .int [.int (nd lo), .int (nd hi)]) :: (oArr Z nx kx .double [.double (FP.i2d X0), .double (FP.i2d X1)]) :: (oArr Z ny ky .double [.double (FP.i2d Y0), .double (FP.i2d Y1)]) :: (oVt Z vt (.ref pa) (.ref xv) (.ref yv) (.long lt)) :: (oArr Z pa kpa (.object "com/example/tapflow/tapflow/VelocityTracker$Positions") (vA 32 P)) :: (oPo Z p1 (.ref ta1) (.ref xa1) (.ref ya1) (.int (1 : Int32)) (.int (1 : Int32)) (.double sx1) (.double sy1)) :: (oArr Z ta1 kt1 .long (lA 64 ft1)) :: (oArr Z xa1 kxa1 .double (dA 64 fx1)) :: (oArr Z ya1 kya1 .double (dA 64 fy1)) :: rest)) rfl rfl 0 rfl (by decide) (by decide) (cells' := 0) rfl (slots' := 0) rfl (by decide) (by decide) fun T vV K' N qQ => ?_
  obtain ⟨rfl, rfl⟩ := qQ
  refine k_iinc (pc := 43) N d12_43 rfl (v := (1 : Int32)) (by decide) (Ls' := #[.val (.ref vt), .val (.ref ev), .val (.long t), .second, .val (.int (1 : Int32))]) rfl ?_
  refine k_goto (pc := 46) N d12_46 (pc' := 8) (by decide) ?_
  refine k_iload (pc := 8) N d12_8 rfl ?_
  refine k_aload_n (pc := 10) N d12_10 rfl rfl ?_
  replace N := ONow.sel (F := [oPo Z p0 (.ref ta0) (.ref xa0) (.ref ya0) (.int (2 : Int32)) (.int (2 : Int32)) (.double sx0) (.double sy0), oArr Z ta0 kt0 .long (lA 64 (upd ft0 1 t)), oArr Z xa0 kxa0 .double (dA 64 (upd fx0 1 (FP.i2d X0))), oArr Z ya0 kya0 .double (dA 64 (upd fy0 1 (FP.i2d Y0))), oMe Z ev (.ref lv) (.int (-1 : Int32)) (.long t) (.ref nb) (.ref nx) (.ref ny) (.int (2 : Int32)) (.double (0 : UInt64)) (.double (0 : UInt64)) (.int (0 : Int32)), oArr Z nb kb .int [.int (nd lo), .int (nd hi)], oArr Z nx kx .double [.double (FP.i2d X0), .double (FP.i2d X1)], oArr Z ny ky .double [.double (FP.i2d Y0), .double (FP.i2d Y1)], oVt Z vt (.ref pa) (.ref xv) (.ref yv) (.long lt), oArr Z pa kpa (.object "com/example/tapflow/tapflow/VelocityTracker$Positions") (vA 32 P), oPo Z p1 (.ref ta1) (.ref xa1) (.ref ya1) (.int (1 : Int32)) (.int (1 : Int32)) (.double sx1) (.double sy1), oArr Z ta1 kt1 .long (lA 64 ft1), oArr Z xa1 kxa1 .double (dA 64 fx1), oArr Z ya1 kya1 .double (dA 64 fy1)]) (F' := [oMe Z ev (.ref lv) (.int (-1 : Int32)) (.long t) (.ref nb) (.ref nx) (.ref ny) (.int (2 : Int32)) (.double (0 : UInt64)) (.double (0 : UInt64)) (.int (0 : Int32)), oArr Z nb kb .int [.int (nd lo), .int (nd hi)], oArr Z nx kx .double [.double (FP.i2d X0), .double (FP.i2d X1)], oArr Z ny ky .double [.double (FP.i2d Y0), .double (FP.i2d Y1)], oPo Z p0 (.ref ta0) (.ref xa0) (.ref ya0) (.int (2 : Int32)) (.int (2 : Int32)) (.double sx0) (.double sy0), oArr Z ta0 kt0 .long (lA 64 (upd ft0 1 t)), oArr Z xa0 kxa0 .double (dA 64 (upd fx0 1 (FP.i2d X0))), oArr Z ya0 kya0 .double (dA 64 (upd fy0 1 (FP.i2d Y0))), oVt Z vt (.ref pa) (.ref xv) (.ref yv) (.long lt), oArr Z pa kpa (.object "com/example/tapflow/tapflow/VelocityTracker$Positions") (vA 32 P), oPo Z p1 (.ref ta1) (.ref xa1) (.ref ya1) (.int (1 : Int32)) (.int (1 : Int32)) (.double sx1) (.double sy1), oArr Z ta1 kt1 .long (lA 64 ft1), oArr Z xa1 kxa1 .double (dA 64 fx1), oArr Z ya1 kya1 .double (dA 64 fy1)]) (rest := rest) N [4, 5, 6, 7, 0, 1, 2, 3, 8, 9, 10, 11, 12, 13] (by decide) rfl
  refine k_virtual (pc := 11) N (y := (⟨"com/example/tapflow/tapflow/MotionEvent", "getPointerCount", "()I"⟩ : MethodName)) (z := (⟨"com/example/tapflow/tapflow/MotionEvent", "getPointerCount", "()I"⟩ : MethodName)) (rest := [.int (1 : Int32)]) [] (a := ev) d12_11 (fun h N => N.exa (i := 0) rfl) (hw _ (List.mem_of_getElem? (i := 103) rfl)) (hw _ (List.mem_of_getElem? (i := 104) rfl)) (nf_self (hw _ (List.mem_of_getElem? (i := 106) rfl))) (hw _ (List.mem_of_getElem? (i := 106) rfl)) (hw _ (List.mem_of_getElem? (i := 105) rfl)) (hw _ (List.mem_of_getElem? (i := 21) rfl)) (hw _ (List.mem_of_getElem? (i := 107) rfl)) (by decide) pd___I rfl (c_gpc l Z a0 hw ev lv nb nx ny t kb kx ky lo hi X0 X1 Y0 Y1 ((oPo Z p0 (.ref ta0) (.ref xa0) (.ref ya0) (.int (2 : Int32)) (.int (2 : Int32)) (.double sx0) (.double sy0)) :: (oArr Z ta0 kt0 .long (lA 64 (upd ft0 1 t))) :: (oArr Z xa0 kxa0 .double (dA 64 (upd fx0 1 (FP.i2d X0)))) :: (oArr Z ya0 kya0 .double (dA 64 (upd fy0 1 (FP.i2d Y0)))) :: (oVt Z vt (.ref pa) (.ref xv) (.ref yv) (.long lt)) :: (oArr Z pa kpa (.object "com/example/tapflow/tapflow/VelocityTracker$Positions") (vA 32 P)) :: (oPo Z p1 (.ref ta1) (.ref xa1) (.ref ya1) (.int (1 : Int32)) (.int (1 : Int32)) (.double sx1) (.double sy1)) :: (oArr Z ta1 kt1 .long (lA 64 ft1)) :: (oArr Z xa1 kxa1 .double (dA 64 fx1)) :: (oArr Z ya1 kya1 .double (dA 64 fy1)) :: rest)) rfl rfl 1 rfl (by decide) (by decide) (cells' := 0) rfl (slots' := 0) rfl (by decide) (by decide) fun T vV K' N qQ => ?_
  obtain ⟨rfl, rfl⟩ := qQ
  refine k_icmp_ge (pc := 14) N d12_14 (pc' := 49) (by decide) (fun qQ => absurd qQ (by decide)) (fun _ => ?_)
  refine k_aload_n (pc := 17) N d12_17 rfl rfl ?_
  refine k_aload_n (pc := 18) N d12_18 rfl rfl ?_
  refine k_iload (pc := 19) N d12_19 rfl ?_
  refine k_virtual (pc := 21) N (y := (⟨"com/example/tapflow/tapflow/MotionEvent", "getPointerId", "(I)I"⟩ : MethodName)) (z := (⟨"com/example/tapflow/tapflow/MotionEvent", "getPointerId", "(I)I"⟩ : MethodName)) (rest := [.ref vt]) [.int (1 : Int32)] (a := ev) d12_21 (fun h N => N.exa (i := 0) rfl) (hw _ (List.mem_of_getElem? (i := 108) rfl)) (hw _ (List.mem_of_getElem? (i := 109) rfl)) (nf_self (hw _ (List.mem_of_getElem? (i := 111) rfl))) (hw _ (List.mem_of_getElem? (i := 111) rfl)) (hw _ (List.mem_of_getElem? (i := 110) rfl)) (hw _ (List.mem_of_getElem? (i := 21) rfl)) (hw _ (List.mem_of_getElem? (i := 112) rfl)) (by decide) pd__I_I rfl (c_gpi1 l Z a0 hw ev lv nb nx ny t kb kx ky lo hi X0 X1 Y0 Y1 ((oPo Z p0 (.ref ta0) (.ref xa0) (.ref ya0) (.int (2 : Int32)) (.int (2 : Int32)) (.double sx0) (.double sy0)) :: (oArr Z ta0 kt0 .long (lA 64 (upd ft0 1 t))) :: (oArr Z xa0 kxa0 .double (dA 64 (upd fx0 1 (FP.i2d X0)))) :: (oArr Z ya0 kya0 .double (dA 64 (upd fy0 1 (FP.i2d Y0)))) :: (oVt Z vt (.ref pa) (.ref xv) (.ref yv) (.long lt)) :: (oArr Z pa kpa (.object "com/example/tapflow/tapflow/VelocityTracker$Positions") (vA 32 P)) :: (oPo Z p1 (.ref ta1) (.ref xa1) (.ref ya1) (.int (1 : Int32)) (.int (1 : Int32)) (.double sx1) (.double sy1)) :: (oArr Z ta1 kt1 .long (lA 64 ft1)) :: (oArr Z xa1 kxa1 .double (dA 64 fx1)) :: (oArr Z ya1 kya1 .double (dA 64 fy1)) :: rest)) rfl rfl 1 rfl (by decide) (by decide) (cells' := 0) rfl (slots' := 0) rfl (by decide) (by decide) fun T vV K' N qQ => ?_
  obtain ⟨rfl, rfl⟩ := qQ
  replace N := ONow.sel (F := [oMe Z ev (.ref lv) (.int (-1 : Int32)) (.long t) (.ref nb) (.ref nx) (.ref ny) (.int (2 : Int32)) (.double (0 : UInt64)) (.double (0 : UInt64)) (.int (0 : Int32)), oArr Z nb kb .int [.int (nd lo), .int (nd hi)], oArr Z nx kx .double [.double (FP.i2d X0), .double (FP.i2d X1)], oArr Z ny ky .double [.double (FP.i2d Y0), .double (FP.i2d Y1)], oPo Z p0 (.ref ta0) (.ref xa0) (.ref ya0) (.int (2 : Int32)) (.int (2 : Int32)) (.double sx0) (.double sy0), oArr Z ta0 kt0 .long (lA 64 (upd ft0 1 t)), oArr Z xa0 kxa0 .double (dA 64 (upd fx0 1 (FP.i2d X0))), oArr Z ya0 kya0 .double (dA 64 (upd fy0 1 (FP.i2d Y0))), oVt Z vt (.ref pa) (.ref xv) (.ref yv) (.long lt), oArr Z pa kpa (.object "com/example/tapflow/tapflow/VelocityTracker$Positions") (vA 32 P), oPo Z p1 (.ref ta1) (.ref xa1) (.ref ya1) (.int (1 : Int32)) (.int (1 : Int32)) (.double sx1) (.double sy1), oArr Z ta1 kt1 .long (lA 64 ft1), oArr Z xa1 kxa1 .double (dA 64 fx1), oArr Z ya1 kya1 .double (dA 64 fy1)]) (F' := [oVt Z vt (.ref pa) (.ref xv) (.ref yv) (.long lt), oArr Z pa kpa (.object "com/example/tapflow/tapflow/VelocityTracker$Positions") (vA 32 P), oMe Z ev (.ref lv) (.int (-1 : Int32)) (.long t) (.ref nb) (.ref nx) (.ref ny) (.int (2 : Int32)) (.double (0 : UInt64)) (.double (0 : UInt64)) (.int (0 : Int32)), oArr Z nb kb .int [.int (nd lo), .int (nd hi)], oArr Z nx kx .double [.double (FP.i2d X0), .double (FP.i2d X1)], oArr Z ny ky .double [.double (FP.i2d Y0), .double (FP.i2d Y1)], oPo Z p0 (.ref ta0) (.ref xa0) (.ref ya0) (.int (2 : Int32)) (.int (2 : Int32)) (.double sx0) (.double sy0), oArr Z ta0 kt0 .long (lA 64 (upd ft0 1 t)), oArr Z xa0 kxa0 .double (dA 64 (upd fx0 1 (FP.i2d X0))), oArr Z ya0 kya0 .double (dA 64 (upd fy0 1 (FP.i2d Y0))), oPo Z p1 (.ref ta1) (.ref xa1) (.ref ya1) (.int (1 : Int32)) (.int (1 : Int32)) (.double sx1) (.double sy1), oArr Z ta1 kt1 .long (lA 64 ft1), oArr Z xa1 kxa1 .double (dA 64 fx1), oArr Z ya1 kya1 .double (dA 64 fy1)]) (rest := rest) N [8, 9, 0, 1, 2, 3, 4, 5, 6, 7, 10, 11, 12, 13] (by decide) rfl
  refine k_private (pc := 24) N (y := (⟨"com/example/tapflow/tapflow/VelocityTracker", "positionsOf", "(I)Lcom/example/tapflow/tapflow/VelocityTracker$Positions;"⟩ : MethodName)) (rest := []) [.int (nd hi)] (a := vt) 0 d12_24 rfl (hw _ (List.mem_of_getElem? (i := 3) rfl)) (hw _ (List.mem_of_getElem? (i := 113) rfl)) (hw _ (List.mem_of_getElem? (i := 114) rfl)) (hw _ (List.mem_of_getElem? (i := 115) rfl)) (hw _ (List.mem_of_getElem? (i := 4) rfl)) (hw _ (List.mem_of_getElem? (i := 116) rfl)) (by decide) pd__I_Lcom_example_tapflow_tapflow_VelocityTracker_Positions_ rfl (c_pof1 l Z a0 hw vt pa xv yv kpa ov lt P hi hhi p1 hP1 ((oMe Z ev (.ref lv) (.int (-1 : Int32)) (.long t) (.ref nb) (.ref nx) (.ref ny) (.int (2 : Int32)) (.double (0 : UInt64)) (.double (0 : UInt64)) (.int (0 : Int32))) :: (oArr Z nb kb .int [.int (nd lo), .int (nd hi)]) :: (oArr Z nx kx .double [.double (FP.i2d X0), .double (FP.i2d X1)]) :: (oArr Z ny ky .double [.double (FP.i2d Y0), .double (FP.i2d Y1)]) :: (oPo Z p0 (.ref ta0) (.ref xa0) (.ref ya0) (.int (2 : Int32)) (.int (2 : Int32)) (.double sx0) (.double sy0)) :: (oArr Z ta0 kt0 .long (lA 64 (upd ft0 1 t))) :: (oArr Z xa0 kxa0 .double (dA 64 (upd fx0 1 (FP.i2d X0)))) :: (oArr Z ya0 kya0 .double (dA 64 (upd fy0 1 (FP.i2d Y0)))) :: (oPo Z p1 (.ref ta1) (.ref xa1) (.ref ya1) (.int (1 : Int32)) (.int (1 : Int32)) (.double sx1) (.double sy1)) :: (oArr Z ta1 kt1 .long (lA 64 ft1)) :: (oArr Z xa1 kxa1 .double (dA 64 fx1)) :: (oArr Z ya1 kya1 .double (dA 64 fy1)) :: rest)) rfl rfl 0 rfl (by decide) (by decide) (cells' := 0) rfl (slots' := 0) rfl (by decide) (by decide) fun T vV K' N qQ => ?_
  obtain ⟨rfl, rfl⟩ := qQ
  refine k_lload_n (pc := 27) N d12_27 rfl ?_
  refine k_aload_n (pc := 28) N d12_28 rfl rfl ?_
  refine k_iload (pc := 29) N d12_29 rfl ?_
  replace N := ONow.sel (F := [oVt Z vt (.ref pa) (.ref xv) (.ref yv) (.long lt), oArr Z pa kpa (.object "com/example/tapflow/tapflow/VelocityTracker$Positions") (vA 32 P), oMe Z ev (.ref lv) (.int (-1 : Int32)) (.long t) (.ref nb) (.ref nx) (.ref ny) (.int (2 : Int32)) (.double (0 : UInt64)) (.double (0 : UInt64)) (.int (0 : Int32)), oArr Z nb kb .int [.int (nd lo), .int (nd hi)], oArr Z nx kx .double [.double (FP.i2d X0), .double (FP.i2d X1)], oArr Z ny ky .double [.double (FP.i2d Y0), .double (FP.i2d Y1)], oPo Z p0 (.ref ta0) (.ref xa0) (.ref ya0) (.int (2 : Int32)) (.int (2 : Int32)) (.double sx0) (.double sy0), oArr Z ta0 kt0 .long (lA 64 (upd ft0 1 t)), oArr Z xa0 kxa0 .double (dA 64 (upd fx0 1 (FP.i2d X0))), oArr Z ya0 kya0 .double (dA 64 (upd fy0 1 (FP.i2d Y0))), oPo Z p1 (.ref ta1) (.ref xa1) (.ref ya1) (.int (1 : Int32)) (.int (1 : Int32)) (.double sx1) (.double sy1), oArr Z ta1 kt1 .long (lA 64 ft1), oArr Z xa1 kxa1 .double (dA 64 fx1), oArr Z ya1 kya1 .double (dA 64 fy1)]) (F' := [oMe Z ev (.ref lv) (.int (-1 : Int32)) (.long t) (.ref nb) (.ref nx) (.ref ny) (.int (2 : Int32)) (.double (0 : UInt64)) (.double (0 : UInt64)) (.int (0 : Int32)), oArr Z nb kb .int [.int (nd lo), .int (nd hi)], oArr Z nx kx .double [.double (FP.i2d X0), .double (FP.i2d X1)], oArr Z ny ky .double [.double (FP.i2d Y0), .double (FP.i2d Y1)], oVt Z vt (.ref pa) (.ref xv) (.ref yv) (.long lt), oArr Z pa kpa (.object "com/example/tapflow/tapflow/VelocityTracker$Positions") (vA 32 P), oPo Z p0 (.ref ta0) (.ref xa0) (.ref ya0) (.int (2 : Int32)) (.int (2 : Int32)) (.double sx0) (.double sy0), oArr Z ta0 kt0 .long (lA 64 (upd ft0 1 t)), oArr Z xa0 kxa0 .double (dA 64 (upd fx0 1 (FP.i2d X0))), oArr Z ya0 kya0 .double (dA 64 (upd fy0 1 (FP.i2d Y0))), oPo Z p1 (.ref ta1) (.ref xa1) (.ref ya1) (.int (1 : Int32)) (.int (1 : Int32)) (.double sx1) (.double sy1), oArr Z ta1 kt1 .long (lA 64 ft1), oArr Z xa1 kxa1 .double (dA 64 fx1), oArr Z ya1 kya1 .double (dA 64 fy1)]) (rest := rest) N [2, 3, 4, 5, 0, 1, 6, 7, 8, 9, 10, 11, 12, 13] (by decide) rfl
  refine k_virtual (pc := 31) N (y := (⟨"com/example/tapflow/tapflow/MotionEvent", "getX", "(I)D"⟩ : MethodName)) (z := (⟨"com/example/tapflow/tapflow/MotionEvent", "getX", "(I)D"⟩ : MethodName)) (rest := [.long t, .ref p1]) [.int (1 : Int32)] (a := ev) d12_31 (fun h N => N.exa (i := 0) rfl) (hw _ (List.mem_of_getElem? (i := 131) rfl)) (hw _ (List.mem_of_getElem? (i := 132) rfl)) (nf_self (hw _ (List.mem_of_getElem? (i := 134) rfl))) (hw _ (List.mem_of_getElem? (i := 134) rfl)) (hw _ (List.mem_of_getElem? (i := 133) rfl)) (hw _ (List.mem_of_getElem? (i := 21) rfl)) (hw _ (List.mem_of_getElem? (i := 135) rfl)) (by decide) pd__I_D rfl (c_gx1 l Z a0 hw ev lv nb nx ny t kb kx ky lo hi X0 X1 Y0 Y1 ((oVt Z vt (.ref pa) (.ref xv) (.ref yv) (.long lt)) :: (oArr Z pa kpa (.object "com/example/tapflow/tapflow/VelocityTracker$Positions") (vA 32 P)) :: (oPo Z p0 (.ref ta0) (.ref xa0) (.ref ya0) (.int (2 : Int32)) (.int (2 : Int32)) (.double sx0) (.double sy0)) :: (oArr Z ta0 kt0 .long (lA 64 (upd ft0 1 t))) :: (oArr Z xa0 kxa0 .double (dA 64 (upd fx0 1 (FP.i2d X0)))) :: (oArr Z ya0 kya0 .double (dA 64 (upd fy0 1 (FP.i2d Y0)))) :: (oPo Z p1 (.ref ta1) (.ref xa1) (.ref ya1) (.int (1 : Int32)) (.int (1 : Int32)) (.double sx1) (.double sy1)) :: (oArr Z ta1 kt1 .long (lA 64 ft1)) :: (oArr Z xa1 kxa1 .double (dA 64 fx1)) :: (oArr Z ya1 kya1 .double (dA 64 fy1)) :: rest)) rfl rfl 3 rfl (by decide) (by decide) (cells' := 0) rfl (slots' := 0) rfl (by decide) (by decide) fun T vV K' N qQ => ?_
  obtain ⟨rfl, rfl⟩ := qQ
  refine k_aload_n (pc := 34) N d12_34 rfl rfl ?_
  refine k_iload (pc := 35) N d12_35 rfl ?_
  refine k_virtual (pc := 37) N (y := (⟨"com/example/tapflow/tapflow/MotionEvent", "getY", "(I)D"⟩ : MethodName)) (z := (⟨"com/example/tapflow/tapflow/MotionEvent", "getY", "(I)D"⟩ : MethodName)) (rest := [.double (FP.i2d X1), .long t, .ref p1]) [.int (1 : Int32)] (a := ev) d12_37 (fun h N => N.exa (i := 0) rfl) (hw _ (List.mem_of_getElem? (i := 144) rfl)) (hw _ (List.mem_of_getElem? (i := 145) rfl)) (nf_self (hw _ (List.mem_of_getElem? (i := 147) rfl))) (hw _ (List.mem_of_getElem? (i := 147) rfl)) (hw _ (List.mem_of_getElem? (i := 146) rfl)) (hw _ (List.mem_of_getElem? (i := 21) rfl)) (hw _ (List.mem_of_getElem? (i := 148) rfl)) (by decide) pd__I_D rfl (c_gy1 l Z a0 hw ev lv nb nx ny t kb kx ky lo hi X0 X1 Y0 Y1 ((oVt Z vt (.ref pa) (.ref xv) (.ref yv) (.long lt)) :: (oArr Z pa kpa (.object "com/example/tapflow/tapflow/VelocityTracker$Positions") (vA 32 P)) :: (oPo Z p0 (.ref ta0) (.ref xa0) (.ref ya0) (.int (2 : Int32)) (.int (2 : Int32)) (.double sx0) (.double sy0)) :: (oArr Z ta0 kt0 .long (lA 64 (upd ft0 1 t))) :: (oArr Z xa0 kxa0 .double (dA 64 (upd fx0 1 (FP.i2d X0)))) :: (oArr Z ya0 kya0 .double (dA 64 (upd fy0 1 (FP.i2d Y0)))) :: (oPo Z p1 (.ref ta1) (.ref xa1) (.ref ya1) (.int (1 : Int32)) (.int (1 : Int32)) (.double sx1) (.double sy1)) :: (oArr Z ta1 kt1 .long (lA 64 ft1)) :: (oArr Z xa1 kxa1 .double (dA 64 fx1)) :: (oArr Z ya1 kya1 .double (dA 64 fy1)) :: rest)) rfl rfl 5 rfl (by decide) (by decide) (cells' := 0) rfl (slots' := 0) rfl (by decide) (by decide) fun T vV K' N qQ => ?_
  obtain ⟨rfl, rfl⟩ := qQ
  replace N := ONow.sel (F := [oMe Z ev (.ref lv) (.int (-1 : Int32)) (.long t) (.ref nb) (.ref nx) (.ref ny) (.int (2 : Int32)) (.double (0 : UInt64)) (.double (0 : UInt64)) (.int (0 : Int32)), oArr Z nb kb .int [.int (nd lo), .int (nd hi)], oArr Z nx kx .double [.double (FP.i2d X0), .double (FP.i2d X1)], oArr Z ny ky .double [.double (FP.i2d Y0), .double (FP.i2d Y1)], oVt Z vt (.ref pa) (.ref xv) (.ref yv) (.long lt), oArr Z pa kpa (.object "com/example/tapflow/tapflow/VelocityTracker$Positions") (vA 32 P), oPo Z p0 (.ref ta0) (.ref xa0) (.ref ya0) (.int (2 : Int32)) (.int (2 : Int32)) (.double sx0) (.double sy0), oArr Z ta0 kt0 .long (lA 64 (upd ft0 1 t)), oArr Z xa0 kxa0 .double (dA 64 (upd fx0 1 (FP.i2d X0))), oArr Z ya0 kya0 .double (dA 64 (upd fy0 1 (FP.i2d Y0))), oPo Z p1 (.ref ta1) (.ref xa1) (.ref ya1) (.int (1 : Int32)) (.int (1 : Int32)) (.double sx1) (.double sy1), oArr Z ta1 kt1 .long (lA 64 ft1), oArr Z xa1 kxa1 .double (dA 64 fx1), oArr Z ya1 kya1 .double (dA 64 fy1)]) (F' := [oPo Z p1 (.ref ta1) (.ref xa1) (.ref ya1) (.int (1 : Int32)) (.int (1 : Int32)) (.double sx1) (.double sy1), oArr Z ta1 kt1 .long (lA 64 ft1), oArr Z xa1 kxa1 .double (dA 64 fx1), oArr Z ya1 kya1 .double (dA 64 fy1), oMe Z ev (.ref lv) (.int (-1 : Int32)) (.long t) (.ref nb) (.ref nx) (.ref ny) (.int (2 : Int32)) (.double (0 : UInt64)) (.double (0 : UInt64)) (.int (0 : Int32)), oArr Z nb kb .int [.int (nd lo), .int (nd hi)], oArr Z nx kx .double [.double (FP.i2d X0), .double (FP.i2d X1)], oArr Z ny ky .double [.double (FP.i2d Y0), .double (FP.i2d Y1)], oVt Z vt (.ref pa) (.ref xv) (.ref yv) (.long lt), oArr Z pa kpa (.object "com/example/tapflow/tapflow/VelocityTracker$Positions") (vA 32 P), oPo Z p0 (.ref ta0) (.ref xa0) (.ref ya0) (.int (2 : Int32)) (.int (2 : Int32)) (.double sx0) (.double sy0), oArr Z ta0 kt0 .long (lA 64 (upd ft0 1 t)), oArr Z xa0 kxa0 .double (dA 64 (upd fx0 1 (FP.i2d X0))), oArr Z ya0 kya0 .double (dA 64 (upd fy0 1 (FP.i2d Y0)))]) (rest := rest) N [10, 11, 12, 13, 0, 1, 2, 3, 4, 5, 6, 7, 8, 9] (by decide) rfl
  refine k_virtual (pc := 40) N (y := (⟨"com/example/tapflow/tapflow/VelocityTracker$Positions", "add", "(JDD)V"⟩ : MethodName)) (z := (⟨"com/example/tapflow/tapflow/VelocityTracker$Positions", "add", "(JDD)V"⟩ : MethodName)) (rest := []) [.long t, .double (FP.i2d X1), .double (FP.i2d Y1)] (a := p1) d12_40 (fun h N => N.exa (i := 0) rfl) (hw _ (List.mem_of_getElem? (i := 155) rfl)) (hw _ (List.mem_of_getElem? (i := 156) rfl)) (nf_self (hw _ (List.mem_of_getElem? (i := 158) rfl))) (hw _ (List.mem_of_getElem? (i := 158) rfl)) (hw _ (List.mem_of_getElem? (i := 157) rfl)) (hw _ (List.mem_of_getElem? (i := 118) rfl)) (hw _ (List.mem_of_getElem? (i := 159) rfl)) (by decide) pd__JDD_V rfl (c_padd1 l Z a0 hw p1 ta1 xa1 ya1 kt1 kxa1 kya1 ft1 fx1 fy1 sx1 sy1 t (FP.i2d X1) (FP.i2d Y1) ((oMe Z ev (.ref lv) (.int (-1 : Int32)) (.long t) (.ref nb) (.ref nx) (.ref ny) (.int (2 : Int32)) (.double (0 : UInt64)) (.double (0 : UInt64)) (.int (0 : Int32))) :: (oArr Z nb kb .int [.int (nd lo), .int (nd hi)]) :: (oArr Z nx kx .double [.double (FP.i2d X0), .double (FP.i2d X1)]) :: (oArr Z ny ky .double [.double (FP.i2d Y0), .double (FP.i2d Y1)]) :: (oVt Z vt (.ref pa) (.ref xv) (.ref yv) (.long lt)) :: (oArr Z pa kpa (.object "com/example/tapflow/tapflow/VelocityTracker$Positions") (vA 32 P)) :: (oPo Z p0 (.ref ta0) (.ref xa0) (.ref ya0) (.int (2 : Int32)) (.int (2 : Int32)) (.double sx0) (.double sy0)) :: (oArr Z ta0 kt0 .long (lA 64 (upd ft0 1 t))) :: (oArr Z xa0 kxa0 .double (dA 64 (upd fx0 1 (FP.i2d X0)))) :: (oArr Z ya0 kya0 .double (dA 64 (upd fy0 1 (FP.i2d Y0)))) :: rest)) rfl rfl 0 rfl (by decide) (by decide) (cells' := 0) rfl (slots' := 0) rfl (by decide) (by decide) fun T vV K' N qQ => ?_
  obtain ⟨rfl, rfl⟩ := qQ
  refine k_iinc (pc := 43) N d12_43 rfl (v := (2 : Int32)) (by decide) (Ls' := #[.val (.ref vt), .val (.ref ev), .val (.long t), .second, .val (.int (2 : Int32))]) rfl ?_
  refine k_goto (pc := 46) N d12_46 (pc' := 8) (by decide) ?_
  refine k_iload (pc := 8) N d12_8 rfl ?_
  refine k_aload_n (pc := 10) N d12_10 rfl rfl ?_
  replace N := ONow.sel (F := [oPo Z p1 (.ref ta1) (.ref xa1) (.ref ya1) (.int (2 : Int32)) (.int (2 : Int32)) (.double sx1) (.double sy1), oArr Z ta1 kt1 .long (lA 64 (upd ft1 1 t)), oArr Z xa1 kxa1 .double (dA 64 (upd fx1 1 (FP.i2d X1))), oArr Z ya1 kya1 .double (dA 64 (upd fy1 1 (FP.i2d Y1))), oMe Z ev (.ref lv) (.int (-1 : Int32)) (.long t) (.ref nb) (.ref nx) (.ref ny) (.int (2 : Int32)) (.double (0 : UInt64)) (.double (0 : UInt64)) (.int (0 : Int32)), oArr Z nb kb .int [.int (nd lo), .int (nd hi)], oArr Z nx kx .double [.double (FP.i2d X0), .double (FP.i2d X1)], oArr Z ny ky .double [.double (FP.i2d Y0), .double (FP.i2d Y1)], oVt Z vt (.ref pa) (.ref xv) (.ref yv) (.long lt), oArr Z pa kpa (.object "com/example/tapflow/tapflow/VelocityTracker$Positions") (vA 32 P), oPo Z p0 (.ref ta0) (.ref xa0) (.ref ya0) (.int (2 : Int32)) (.int (2 : Int32)) (.double sx0) (.double sy0), oArr Z ta0 kt0 .long (lA 64 (upd ft0 1 t)), oArr Z xa0 kxa0 .double (dA 64 (upd fx0 1 (FP.i2d X0))), oArr Z ya0 kya0 .double (dA 64 (upd fy0 1 (FP.i2d Y0)))]) (F' := [oMe Z ev (.ref lv) (.int (-1 : Int32)) (.long t) (.ref nb) (.ref nx) (.ref ny) (.int (2 : Int32)) (.double (0 : UInt64)) (.double (0 : UInt64)) (.int (0 : Int32)), oArr Z nb kb .int [.int (nd lo), .int (nd hi)], oArr Z nx kx .double [.double (FP.i2d X0), .double (FP.i2d X1)], oArr Z ny ky .double [.double (FP.i2d Y0), .double (FP.i2d Y1)], oPo Z p1 (.ref ta1) (.ref xa1) (.ref ya1) (.int (2 : Int32)) (.int (2 : Int32)) (.double sx1) (.double sy1), oArr Z ta1 kt1 .long (lA 64 (upd ft1 1 t)), oArr Z xa1 kxa1 .double (dA 64 (upd fx1 1 (FP.i2d X1))), oArr Z ya1 kya1 .double (dA 64 (upd fy1 1 (FP.i2d Y1))), oVt Z vt (.ref pa) (.ref xv) (.ref yv) (.long lt), oArr Z pa kpa (.object "com/example/tapflow/tapflow/VelocityTracker$Positions") (vA 32 P), oPo Z p0 (.ref ta0) (.ref xa0) (.ref ya0) (.int (2 : Int32)) (.int (2 : Int32)) (.double sx0) (.double sy0), oArr Z ta0 kt0 .long (lA 64 (upd ft0 1 t)), oArr Z xa0 kxa0 .double (dA 64 (upd fx0 1 (FP.i2d X0))), oArr Z ya0 kya0 .double (dA 64 (upd fy0 1 (FP.i2d Y0)))]) (rest := rest) N [4, 5, 6, 7, 0, 1, 2, 3, 8, 9, 10, 11, 12, 13] (by decide) rfl
  refine k_virtual (pc := 11) N (y := (⟨"com/example/tapflow/tapflow/MotionEvent", "getPointerCount", "()I"⟩ : MethodName)) (z := (⟨"com/example/tapflow/tapflow/MotionEvent", "getPointerCount", "()I"⟩ : MethodName)) (rest := [.int (2 : Int32)]) [] (a := ev) d12_11 (fun h N => N.exa (i := 0) rfl) (hw _ (List.mem_of_getElem? (i := 103) rfl)) (hw _ (List.mem_of_getElem? (i := 104) rfl)) (nf_self (hw _ (List.mem_of_getElem? (i := 106) rfl))) (hw _ (List.mem_of_getElem? (i := 106) rfl)) (hw _ (List.mem_of_getElem? (i := 105) rfl)) (hw _ (List.mem_of_getElem? (i := 21) rfl)) (hw _ (List.mem_of_getElem? (i := 107) rfl)) (by decide) pd___I rfl (c_gpc l Z a0 hw ev lv nb nx ny t kb kx ky lo hi X0 X1 Y0 Y1 ((oPo Z p1 (.ref ta1) (.ref xa1) (.ref ya1) (.int (2 : Int32)) (.int (2 : Int32)) (.double sx1) (.double sy1)) :: (oArr Z ta1 kt1 .long (lA 64 (upd ft1 1 t))) :: (oArr Z xa1 kxa1 .double (dA 64 (upd fx1 1 (FP.i2d X1)))) :: (oArr Z ya1 kya1 .double (dA 64 (upd fy1 1 (FP.i2d Y1)))) :: (oVt Z vt (.ref pa) (.ref xv) (.ref yv) (.long lt)) :: (oArr Z pa kpa (.object "com/example/tapflow/tapflow/VelocityTracker$Positions") (vA 32 P)) :: (oPo Z p0 (.ref ta0) (.ref xa0) (.ref ya0) (.int (2 : Int32)) (.int (2 : Int32)) (.double sx0) (.double sy0)) :: (oArr Z ta0 kt0 .long (lA 64 (upd ft0 1 t))) :: (oArr Z xa0 kxa0 .double (dA 64 (upd fx0 1 (FP.i2d X0)))) :: (oArr Z ya0 kya0 .double (dA 64 (upd fy0 1 (FP.i2d Y0)))) :: rest)) rfl rfl 1 rfl (by decide) (by decide) (cells' := 0) rfl (slots' := 0) rfl (by decide) (by decide) fun T vV K' N qQ => ?_
  obtain ⟨rfl, rfl⟩ := qQ
  refine k_icmp_ge (pc := 14) N d12_14 (pc' := 49) (by decide) (fun _ => ?_) (fun qQ => absurd qQ (by decide))
  replace N := ONow.sel (F := [oMe Z ev (.ref lv) (.int (-1 : Int32)) (.long t) (.ref nb) (.ref nx) (.ref ny) (.int (2 : Int32)) (.double (0 : UInt64)) (.double (0 : UInt64)) (.int (0 : Int32)), oArr Z nb kb .int [.int (nd lo), .int (nd hi)], oArr Z nx kx .double [.double (FP.i2d X0), .double (FP.i2d X1)], oArr Z ny ky .double [.double (FP.i2d Y0), .double (FP.i2d Y1)], oPo Z p1 (.ref ta1) (.ref xa1) (.ref ya1) (.int (2 : Int32)) (.int (2 : Int32)) (.double sx1) (.double sy1), oArr Z ta1 kt1 .long (lA 64 (upd ft1 1 t)), oArr Z xa1 kxa1 .double (dA 64 (upd fx1 1 (FP.i2d X1))), oArr Z ya1 kya1 .double (dA 64 (upd fy1 1 (FP.i2d Y1))), oVt Z vt (.ref pa) (.ref xv) (.ref yv) (.long lt), oArr Z pa kpa (.object "com/example/tapflow/tapflow/VelocityTracker$Positions") (vA 32 P), oPo Z p0 (.ref ta0) (.ref xa0) (.ref ya0) (.int (2 : Int32)) (.int (2 : Int32)) (.double sx0) (.double sy0), oArr Z ta0 kt0 .long (lA 64 (upd ft0 1 t)), oArr Z xa0 kxa0 .double (dA 64 (upd fx0 1 (FP.i2d X0))), oArr Z ya0 kya0 .double (dA 64 (upd fy0 1 (FP.i2d Y0)))]) (F' := [oVt Z vt (.ref pa) (.ref xv) (.ref yv) (.long lt), oArr Z pa kpa (.object "com/example/tapflow/tapflow/VelocityTracker$Positions") (vA 32 P), oMe Z ev (.ref lv) (.int (-1 : Int32)) (.long t) (.ref nb) (.ref nx) (.ref ny) (.int (2 : Int32)) (.double (0 : UInt64)) (.double (0 : UInt64)) (.int (0 : Int32)), oArr Z nb kb .int [.int (nd lo), .int (nd hi)], oArr Z nx kx .double [.double (FP.i2d X0), .double (FP.i2d X1)], oArr Z ny ky .double [.double (FP.i2d Y0), .double (FP.i2d Y1)], oPo Z p0 (.ref ta0) (.ref xa0) (.ref ya0) (.int (2 : Int32)) (.int (2 : Int32)) (.double sx0) (.double sy0), oArr Z ta0 kt0 .long (lA 64 (upd ft0 1 t)), oArr Z xa0 kxa0 .double (dA 64 (upd fx0 1 (FP.i2d X0))), oArr Z ya0 kya0 .double (dA 64 (upd fy0 1 (FP.i2d Y0))), oPo Z p1 (.ref ta1) (.ref xa1) (.ref ya1) (.int (2 : Int32)) (.int (2 : Int32)) (.double sx1) (.double sy1), oArr Z ta1 kt1 .long (lA 64 (upd ft1 1 t)), oArr Z xa1 kxa1 .double (dA 64 (upd fx1 1 (FP.i2d X1))), oArr Z ya1 kya1 .double (dA 64 (upd fy1 1 (FP.i2d Y1)))]) (rest := rest) N [8, 9, 0, 1, 2, 3, 10, 11, 12, 13, 4, 5, 6, 7] (by decide) rfl
  exact k_return (pc := 49) N d12_49 rfl (by decide) (by decide) ⟨rfl, rfl⟩
set_option maxRecDepth 65536 in
theorem ef_c_ap2 (m : MethodId) (z0 : Addr) (z1 : Addr) : entryFrame m ([.ref z0, .ref z1] : List Value).toArray 5 = mkF m 0 #[.val (.ref z0), .val (.ref z1), .unset, .unset, .unset] [] := by first | (simp [entryFrame, mkF, argsToLocals, Value.category]; done) | rfl
def rm_c_ap2 : Room := { frames := 2, cells := 0, slots := 0, locals := 33 }
set_option maxRecDepth 65536 in
set_option maxHeartbeats 40000000 in
theorem c_ap2 (l : Launch) (Z : State) (a0 : Array Value) (hw : ∀ d ∈ tables_1, d.before a0 Z = true) (vt pa xv yv : Addr) (kpa : ClassId) (ov : Ovr Z kpa "com/example/tapflow/tapflow/VelocityTracker$Positions") (lt : Int64) (P : Nat → Value) (ev lv nb nx ny : Addr) (t : Int64) (kb kx ky : ClassId) (lo hi : Nat) (X0 X1 Y0 Y1 : Int32) (p0 ta0 xa0 ya0 : Addr) (kt0 kxa0 kya0 : ClassId) (ft0 : Nat → Int64) (fx0 fy0 : Nat → UInt64) (sx0 sy0 : UInt64) (p1 ta1 xa1 ya1 : Addr) (kt1 kxa1 kya1 : ClassId) (ft1 : Nat → Int64) (fx1 fy1 : Nat → UInt64) (sx1 sy1 : UInt64) (hlo : lo < 32) (hhi : hi < 32) (hne : hi ≠ lo) (hP0 : P lo = .ref p0) (hP1 : P hi = .ref p1) (rest : List Ent) :
    OMeets l (⟨"com/example/tapflow/tapflow/VelocityTracker", "addPositions", "(Lcom/example/tapflow/tapflow/MotionEvent;)V"⟩ : MethodName) prog_15_method_8_code 5 none rm_c_ap2 Z [.ref vt, .ref ev] ((oVt Z vt (.ref pa) (.ref xv) (.ref yv) (.long lt)) :: (oArr Z pa kpa (.object "com/example/tapflow/tapflow/VelocityTracker$Positions") (vA 32 P)) :: (oMe Z ev (.ref lv) (.int (-1 : Int32)) (.long t) (.ref nb) (.ref nx) (.ref ny) (.int (2 : Int32)) (.double (0 : UInt64)) (.double (0 : UInt64)) (.int (0 : Int32))) :: (oArr Z nb kb .int [.int (nd lo), .int (nd hi)]) :: (oArr Z nx kx .double [.double (FP.i2d X0), .double (FP.i2d X1)]) :: (oArr Z ny ky .double [.double (FP.i2d Y0), .double (FP.i2d Y1)]) :: (oPo Z p0 (.ref ta0) (.ref xa0) (.ref ya0) (.int (0 : Int32)) (.int (2 : Int32)) (.double sx0) (.double sy0)) :: (oArr Z ta0 kt0 .long (lA 64 ft0)) :: (oArr Z xa0 kxa0 .double (dA 64 fx0)) :: (oArr Z ya0 kya0 .double (dA 64 fy0)) :: (oPo Z p1 (.ref ta1) (.ref xa1) (.ref ya1) (.int (0 : Int32)) (.int (2 : Int32)) (.double sx1) (.double sy1)) :: (oArr Z ta1 kt1 .long (lA 64 ft1)) :: (oArr Z xa1 kxa1 .double (dA 64 fx1)) :: (oArr Z ya1 kya1 .double (dA 64 fy1)) :: rest) (fun v K => v = none ∧ K = (oVt Z vt (.ref pa) (.ref xv) (.ref yv) (.long lt)) :: (oArr Z pa kpa (.object "com/example/tapflow/tapflow/VelocityTracker$Positions") (vA 32 P)) :: (oMe Z ev (.ref lv) (.int (-1 : Int32)) (.long t) (.ref nb) (.ref nx) (.ref ny) (.int (2 : Int32)) (.double (0 : UInt64)) (.double (0 : UInt64)) (.int (0 : Int32))) :: (oArr Z nb kb .int [.int (nd lo), .int (nd hi)]) :: (oArr Z nx kx .double [.double (FP.i2d X0), .double (FP.i2d X1)]) :: (oArr Z ny ky .double [.double (FP.i2d Y0), .double (FP.i2d Y1)]) :: (oPo Z p0 (.ref ta0) (.ref xa0) (.ref ya0) (.int (1 : Int32)) (.int (3 : Int32)) (.double sx0) (.double sy0)) :: (oArr Z ta0 kt0 .long (lA 64 (upd ft0 2 t))) :: (oArr Z xa0 kxa0 .double (dA 64 (upd fx0 2 (FP.i2d X0)))) :: (oArr Z ya0 kya0 .double (dA 64 (upd fy0 2 (FP.i2d Y0)))) :: (oPo Z p1 (.ref ta1) (.ref xa1) (.ref ya1) (.int (1 : Int32)) (.int (3 : Int32)) (.double sx1) (.double sy1)) :: (oArr Z ta1 kt1 .long (lA 64 (upd ft1 2 t))) :: (oArr Z xa1 kxa1 .double (dA 64 (upd fx1 2 (FP.i2d X1)))) :: (oArr Z ya1 kya1 .double (dA 64 (upd fy1 2 (FP.i2d Y1)))) :: rest) := by
  refine OMeets.of_body (plainFor_of_name pn_com_example_tapflow_tapflow_VelocityTracker) #[.val (.ref vt), .val (.ref ev), .unset, .unset, .unset] (fun m => ef_c_ap2 m vt ev) fun pP eE sS mM bB hH cC T N => ?_
  refine k_aload_n (pc := 0) N d12_0 rfl rfl ?_
  replace N := ONow.sel (F := [oVt Z vt (.ref pa) (.ref xv) (.ref yv) (.long lt), oArr Z pa kpa (.object "com/example/tapflow/tapflow/VelocityTracker$Positions") (vA 32 P), oMe Z ev (.ref lv) (.int (-1 : Int32)) (.long t) (.ref nb) (.ref nx) (.ref ny) (.int (2 : Int32)) (.double (0 : UInt64)) (.double (0 : UInt64)) (.int (0 : Int32)), oArr Z nb kb .int [.int (nd lo), .int (nd hi)], oArr Z nx kx .double [.double (FP.i2d X0), .double (FP.i2d X1)], oArr Z ny ky .double [.double (FP.i2d Y0), .double (FP.i2d Y1)], oPo Z p0 (.ref ta0) (.ref xa0) (.ref ya0) (.int (0 : Int32)) (.int (2 : Int32)) (.double sx0) (.double sy0), oArr Z ta0 kt0 .long (lA 64 ft0), oArr Z xa0 kxa0 .double (dA 64 fx0), oArr Z ya0 kya0 .double (dA 64 fy0), oPo Z p1 (.ref ta1) (.ref xa1) (.ref ya1) (.int (0 : Int32)) (.int (2 : Int32)) (.double sx1) (.double sy1), oArr Z ta1 kt1 .long (lA 64 ft1), oArr Z xa1 kxa1 .double (dA 64 fx1), oArr Z ya1 kya1 .double (dA 64 fy1)]) (F' := [oMe Z ev (.ref lv) (.int (-1 : Int32)) (.long t) (.ref nb) (.ref nx) (.ref ny) (.int (2 : Int32)) (.double (0 : UInt64)) (.double (0 : UInt64)) (.int (0 : Int32)), oArr Z nb kb .int [.int (nd lo), .int (nd hi)], oArr Z nx kx .double [.double (FP.i2d X0), .double (FP.i2d X1)], oArr Z ny ky .double [.double (FP.i2d Y0), .double (FP.i2d Y1)], oVt Z vt (.ref pa) (.ref xv) (.ref yv) (.long lt), oArr Z pa kpa (.object "com/example/tapflow/tapflow/VelocityTracker$Positions") (vA 32 P), oPo Z p0 (.ref ta0) (.ref xa0) (.ref ya0) (.int (0 : Int32)) (.int (2 : Int32)) (.double sx0) (.double sy0), oArr Z ta0 kt0 .long (lA 64 ft0), oArr Z xa0 kxa0 .double (dA 64 fx0), oArr Z ya0 kya0 .double (dA 64 fy0), oPo Z p1 (.ref ta1) (.ref xa1) (.ref ya1) (.int (0 : Int32)) (.int (2 : Int32)) (.double sx1) (.double sy1), oArr Z ta1 kt1 .long (lA 64 ft1), oArr Z xa1 kxa1 .double (dA 64 fx1), oArr Z ya1 kya1 .double (dA 64 fy1)]) (rest := rest) N [2, 3, 4, 5, 0, 1, 6, 7, 8, 9, 10, 11, 12, 13] (by decide) rfl
  refine k_virtual (pc := 1) N (y := (⟨"com/example/tapflow/tapflow/MotionEvent", "getEventTimeNanos", "()J"⟩ : MethodName)) (z := (⟨"com/example/tapflow/tapflow/MotionEvent", "getEventTimeNanos", "()J"⟩ : MethodName)) (rest := []) [] (a := ev) d12_1 (fun h N => N.exa (i := 0) rfl) (hw _ (List.mem_of_getElem? (i := 98) rfl)) (hw _ (List.mem_of_getElem? (i := 99) rfl)) (nf_self (hw _ (List.mem_of_getElem? (i := 101) rfl))) (hw _ (List.mem_of_getElem? (i := 101) rfl)) (hw _ (List.mem_of_getElem? (i := 100) rfl)) (hw _ (List.mem_of_getElem? (i := 21) rfl)) (hw _ (List.mem_of_getElem? (i := 102) rfl)) (by decide) pd___J rfl (c_gt l Z a0 hw ev lv nb nx ny t kb kx ky lo hi X0 X1 Y0 Y1 ((oVt Z vt (.ref pa) (.ref xv) (.ref yv) (.long lt)) :: (oArr Z pa kpa (.object "com/example/tapflow/tapflow/VelocityTracker$Positions") (vA 32 P)) :: (oPo Z p0 (.ref ta0) (.ref xa0) (.ref ya0) (.int (0 : Int32)) (.int (2 : Int32)) (.double sx0) (.double sy0)) :: (oArr Z ta0 kt0 .long (lA 64 ft0)) :: (oArr Z xa0 kxa0 .double (dA 64 fx0)) :: (oArr Z ya0 kya0 .double (dA 64 fy0)) :: (oPo Z p1 (.ref ta1) (.ref xa1) (.ref ya1) (.int (0 : Int32)) (.int (2 : Int32)) (.double sx1) (.double sy1)) :: (oArr Z ta1 kt1 .long (lA 64 ft1)) :: (oArr Z xa1 kxa1 .double (dA 64 fx1)) :: (oArr Z ya1 kya1 .double (dA 64 fy1)) :: rest)) rfl rfl 0 rfl (by decide) (by decide) (cells' := 0) rfl (slots' := 0) rfl (by decide) (by decide) fun T vV K' N qQ => ?_
  obtain ⟨rfl, rfl⟩ := qQ
  refine k_lstore_n (pc := 4) N d12_4 (Ls' := #[.val (.ref vt), .val (.ref ev), .val (.long t), .second, .unset]) rfl ?_
  refine k_iconst (pc := 5) N d12_5 (v := (0 : Int32)) (by decide) ?_
  refine k_istore (pc := 6) N d12_6 (Ls' := #[.val (.ref vt), .val (.ref ev), .val (.long t), .second, .val (.int (0 : Int32))]) rfl ?_
  refine k_iload (pc := 8) N d12_8 rfl ?_
  refine k_aload_n (pc := 10) N d12_10 rfl rfl ?_
  refine k_virtual (pc := 11) N (y := (⟨"com/example/tapflow/tapflow/MotionEvent", "getPointerCount", "()I"⟩ : MethodName)) (z := (⟨"com/example/tapflow/tapflow/MotionEvent", "getPointerCount", "()I"⟩ : MethodName)) (rest := [.int (0 : Int32)]) [] (a := ev) d12_11 (fun h N => N.exa (i := 0) rfl) (hw _ (List.mem_of_getElem? (i := 103) rfl)) (hw _ (List.mem_of_getElem? (i := 104) rfl)) (nf_self (hw _ (List.mem_of_getElem? (i := 106) rfl))) (hw _ (List.mem_of_getElem? (i := 106) rfl)) (hw _ (List.mem_of_getElem? (i := 105) rfl)) (hw _ (List.mem_of_getElem? (i := 21) rfl)) (hw _ (List.mem_of_getElem? (i := 107) rfl)) (by decide) pd___I rfl (c_gpc l Z a0 hw ev lv nb nx ny t kb kx ky lo hi X0 X1 Y0 Y1 ((oVt Z vt (.ref pa) (.ref xv) (.ref yv) (.long lt)) :: (oArr Z pa kpa (.object "com/example/tapflow/tapflow/VelocityTracker$Positions") (vA 32 P)) :: (oPo Z p0 (.ref ta0) (.ref xa0) (.ref ya0) (.int (0 : Int32)) (.int (2 : Int32)) (.double sx0) (.double sy0)) :: (oArr Z ta0 kt0 .long (lA 64 ft0)) :: (oArr Z xa0 kxa0 .double (dA 64 fx0)) :: (oArr Z ya0 kya0 .double (dA 64 fy0)) :: (oPo Z p1 (.ref ta1) (.ref xa1) (.ref ya1) (.int (0 : Int32)) (.int (2 : Int32)) (.double sx1) (.double sy1)) :: (oArr Z ta1 kt1 .long (lA 64 ft1)) :: (oArr Z xa1 kxa1 .double (dA 64 fx1)) :: (oArr Z ya1 kya1 .double (dA 64 fy1)) :: rest)) rfl rfl 1 rfl (by decide) (by decide) (cells' := 0) rfl (slots' := 0) rfl (by decide) (by decide) fun T vV K' N qQ => ?_
  obtain ⟨rfl, rfl⟩ := qQ
  refine k_icmp_ge (pc := 14) N d12_14 (pc' := 49) (by decide) (fun qQ => absurd qQ (by decide)) (fun _ => ?_)
  refine k_aload_n (pc := 17) N d12_17 rfl rfl ?_
  refine k_aload_n (pc := 18) N d12_18 rfl rfl ?_
  refine k_iload (pc := 19) N d12_19 rfl ?_
  refine k_virtual (pc := 21) N (y := (⟨"com/example/tapflow/tapflow/MotionEvent", "getPointerId", "(I)I"⟩ : MethodName)) (z := (⟨"com/example/tapflow/tapflow/MotionEvent", "getPointerId", "(I)I"⟩ : MethodName)) (rest := [.ref vt]) [.int (0 : Int32)] (a := ev) d12_21 (fun h N => N.exa (i := 0) rfl) (hw _ (List.mem_of_getElem? (i := 108) rfl)) (hw _ (List.mem_of_getElem? (i := 109) rfl)) (nf_self (hw _ (List.mem_of_getElem? (i := 111) rfl))) (hw _ (List.mem_of_getElem? (i := 111) rfl)) (hw _ (List.mem_of_getElem? (i := 110) rfl)) (hw _ (List.mem_of_getElem? (i := 21) rfl)) (hw _ (List.mem_of_getElem? (i := 112) rfl)) (by decide) pd__I_I rfl (c_gpi0 l Z a0 hw ev lv nb nx ny t kb kx ky lo hi X0 X1 Y0 Y1 ((oVt Z vt (.ref pa) (.ref xv) (.ref yv) (.long lt)) :: (oArr Z pa kpa (.object "com/example/tapflow/tapflow/VelocityTracker$Positions") (vA 32 P)) :: (oPo Z p0 (.ref ta0) (.ref xa0) (.ref ya0) (.int (0 : Int32)) (.int (2 : Int32)) (.double sx0) (.double sy0)) :: (oArr Z ta0 kt0 .long (lA 64 ft0)) :: (oArr Z xa0 kxa0 .double (dA 64 fx0)) :: (oArr Z ya0 kya0 .double (dA 64 fy0)) :: (oPo Z p1 (.ref ta1) (.ref xa1) (.ref ya1) (.int (0 : Int32)) (.int (2 : Int32)) (.double sx1) (.double sy1)) :: (oArr Z ta1 kt1 .long (lA 64 ft1)) :: (oArr Z xa1 kxa1 .double (dA 64 fx1)) :: (oArr Z ya1 kya1 .double (dA 64 fy1)) :: rest)) rfl rfl 1 rfl (by decide) (by decide) (cells' := 0) rfl (slots' := 0) rfl (by decide) (by decide) fun T vV K' N qQ => ?_
  obtain ⟨rfl, rfl⟩ := qQ
  replace N := ONow.sel (F := [oMe Z ev (.ref lv) (.int (-1 : Int32)) (.long t) (.ref nb) (.ref nx) (.ref ny) (.int (2 : Int32)) (.double (0 : UInt64)) (.double (0 : UInt64)) (.int (0 : Int32)), oArr Z nb kb .int [.int (nd lo), .int (nd hi)], oArr Z nx kx .double [.double (FP.i2d X0), .double (FP.i2d X1)], oArr Z ny ky .double [.double (FP.i2d Y0), .double (FP.i2d Y1)], oVt Z vt (.ref pa) (.ref xv) (.ref yv) (.long lt), oArr Z pa kpa (.object "com/example/tapflow/tapflow/VelocityTracker$Positions") (vA 32 P), oPo Z p0 (.ref ta0) (.ref xa0) (.ref ya0) (.int (0 : Int32)) (.int (2 : Int32)) (.double sx0) (.double sy0), oArr Z ta0 kt0 .long (lA 64 ft0), oArr Z xa0 kxa0 .double (dA 64 fx0), oArr Z ya0 kya0 .double (dA 64 fy0), oPo Z p1 (.ref ta1) (.ref xa1) (.ref ya1) (.int (0 : Int32)) (.int (2 : Int32)) (.double sx1) (.double sy1), oArr Z ta1 kt1 .long (lA 64 ft1), oArr Z xa1 kxa1 .double (dA 64 fx1), oArr Z ya1 kya1 .double (dA 64 fy1)]) (F' := [oVt Z vt (.ref pa) (.ref xv) (.ref yv) (.long lt), oArr Z pa kpa (.object "com/example/tapflow/tapflow/VelocityTracker$Positions") (vA 32 P), oMe Z ev (.ref lv) (.int (-1 : Int32)) (.long t) (.ref nb) (.ref nx) (.ref ny) (.int (2 : Int32)) (.double (0 : UInt64)) (.double (0 : UInt64)) (.int (0 : Int32)), oArr Z nb kb .int [.int (nd lo), .int (nd hi)], oArr Z nx kx .double [.double (FP.i2d X0), .double (FP.i2d X1)], oArr Z ny ky .double [.double (FP.i2d Y0), .double (FP.i2d Y1)], oPo Z p0 (.ref ta0) (.ref xa0) (.ref ya0) (.int (0 : Int32)) (.int (2 : Int32)) (.double sx0) (.double sy0), oArr Z ta0 kt0 .long (lA 64 ft0), oArr Z xa0 kxa0 .double (dA 64 fx0), oArr Z ya0 kya0 .double (dA 64 fy0), oPo Z p1 (.ref ta1) (.ref xa1) (.ref ya1) (.int (0 : Int32)) (.int (2 : Int32)) (.double sx1) (.double sy1), oArr Z ta1 kt1 .long (lA 64 ft1), oArr Z xa1 kxa1 .double (dA 64 fx1), oArr Z ya1 kya1 .double (dA 64 fy1)]) (rest := rest) N [4, 5, 0, 1, 2, 3, 6, 7, 8, 9, 10, 11, 12, 13] (by decide) rfl
  refine k_private (pc := 24) N (y := (⟨"com/example/tapflow/tapflow/VelocityTracker", "positionsOf", "(I)Lcom/example/tapflow/tapflow/VelocityTracker$Positions;"⟩ : MethodName)) (rest := []) [.int (nd lo)] (a := vt) 0 d12_24 rfl (hw _ (List.mem_of_getElem? (i := 3) rfl)) (hw _ (List.mem_of_getElem? (i := 113) rfl)) (hw _ (List.mem_of_getElem? (i := 114) rfl)) (hw _ (List.mem_of_getElem? (i := 115) rfl)) (hw _ (List.mem_of_getElem? (i := 4) rfl)) (hw _ (List.mem_of_getElem? (i := 116) rfl)) (by decide) pd__I_Lcom_example_tapflow_tapflow_VelocityTracker_Positions_ rfl (c_pof1 l Z a0 hw vt pa xv yv kpa ov lt P lo hlo p0 hP0 ((oMe Z ev (.ref lv) (.int (-1 : Int32)) (.long t) (.ref nb) (.ref nx) (.ref ny) (.int (2 : Int32)) (.double (0 : UInt64)) (.double (0 : UInt64)) (.int (0 : Int32))) :: (oArr Z nb kb .int [.int (nd lo), .int (nd hi)]) :: (oArr Z nx kx .double [.double (FP.i2d X0), .double (FP.i2d X1)]) :: (oArr Z ny ky .double [.double (FP.i2d Y0), .double (FP.i2d Y1)]) :: (oPo Z p0 (.ref ta0) (.ref xa0) (.ref ya0) (.int (0 : Int32)) (.int (2 : Int32)) (.double sx0) (.double sy0)) :: (oArr Z ta0 kt0 .long (lA 64 ft0)) :: (oArr Z xa0 kxa0 .double (dA 64 fx0)) :: (oArr Z ya0 kya0 .double (dA 64 fy0)) :: (oPo Z p1 (.ref ta1) (.ref xa1) (.ref ya1) (.int (0 : Int32)) (.int (2 : Int32)) (.double sx1) (.double sy1)) :: (oArr Z ta1 kt1 .long (lA 64 ft1)) :: (oArr Z xa1 kxa1 .double (dA 64 fx1)) :: (oArr Z ya1 kya1 .double (dA 64 fy1)) :: rest)) rfl rfl 0 rfl (by decide) (by decide) (cells' := 0) rfl (slots' := 0) rfl (by decide) (by decide) fun T vV K' N qQ => ?_
  obtain ⟨rfl, rfl⟩ := qQ
  refine k_lload_n (pc := 27) N d12_27 rfl ?_
  refine k_aload_n (pc := 28) N d12_28 rfl rfl ?_
  refine k_iload (pc := 29) N d12_29 rfl ?_
  replace N := ONow.sel (F := [oVt Z vt (.ref pa) (.ref xv) (.ref yv) (.long lt), oArr Z pa kpa (.object "com/example/tapflow/tapflow/VelocityTracker$Positions") (vA 32 P), oMe Z ev (.ref lv) (.int (-1 : Int32)) (.long t) (.ref nb) (.ref nx) (.ref ny) (.int (2 : Int32)) (.double (0 : UInt64)) (.double (0 : UInt64)) (.int (0 : Int32)), oArr Z nb kb .int [.int (nd lo), .int (nd hi)], oArr Z nx kx .double [.double (FP.i2d X0), .double (FP.i2d X1)], oArr Z ny ky .double [.double (FP.i2d Y0), .double (FP.i2d Y1)], oPo Z p0 (.ref ta0) (.ref xa0) (.ref ya0) (.int (0 : Int32)) (.int (2 : Int32)) (.double sx0) (.double sy0), oArr Z ta0 kt0 .long (lA 64 ft0), oArr Z xa0 kxa0 .double (dA 64 fx0), oArr Z ya0 kya0 .double (dA 64 fy0), oPo Z p1 (.ref ta1) (.ref xa1) (.ref ya1) (.int (0 : Int32)) (.int (2 : Int32)) (.double sx1) (.double sy1), oArr Z ta1 kt1 .long (lA 64 ft1), oArr Z xa1 kxa1 .double (dA 64 fx1), oArr Z ya1 kya1 .double (dA 64 fy1)]) (F' := [oMe Z ev (.ref lv) (.int (-1 : Int32)) (.long t) (.ref nb) (.ref nx) (.ref ny) (.int (2 : Int32)) (.double (0 : UInt64)) (.double (0 : UInt64)) (.int (0 : Int32)), oArr Z nb kb .int [.int (nd lo), .int (nd hi)], oArr Z nx kx .double [.double (FP.i2d X0), .double (FP.i2d X1)], oArr Z ny ky .double [.double (FP.i2d Y0), .double (FP.i2d Y1)], oVt Z vt (.ref pa) (.ref xv) (.ref yv) (.long lt), oArr Z pa kpa (.object "com/example/tapflow/tapflow/VelocityTracker$Positions") (vA 32 P), oPo Z p0 (.ref ta0) (.ref xa0) (.ref ya0) (.int (0 : Int32)) (.int (2 : Int32)) (.double sx0) (.double sy0), oArr Z ta0 kt0 .long (lA 64 ft0), oArr Z xa0 kxa0 .double (dA 64 fx0), oArr Z ya0 kya0 .double (dA 64 fy0), oPo Z p1 (.ref ta1) (.ref xa1) (.ref ya1) (.int (0 : Int32)) (.int (2 : Int32)) (.double sx1) (.double sy1), oArr Z ta1 kt1 .long (lA 64 ft1), oArr Z xa1 kxa1 .double (dA 64 fx1), oArr Z ya1 kya1 .double (dA 64 fy1)]) (rest := rest) N [2, 3, 4, 5, 0, 1, 6, 7, 8, 9, 10, 11, 12, 13] (by decide) rfl
  refine k_virtual (pc := 31) N (y := (⟨"com/example/tapflow/tapflow/MotionEvent", "getX", "(I)D"⟩ : MethodName)) (z := (⟨"com/example/tapflow/tapflow/MotionEvent", "getX", "(I)D"⟩ : MethodName)) (rest := [.long t, .ref p0]) [.int (0 : Int32)] (a := ev) d12_31 (fun h N => N.exa (i := 0) rfl) (hw _ (List.mem_of_getElem? (i := 131) rfl)) (hw _ (List.mem_of_getElem? (i := 132) rfl)) (nf_self (hw _ (List.mem_of_getElem? (i := 134) rfl))) (hw _ (List.mem_of_getElem? (i := 134) rfl)) (hw _ (List.mem_of_getElem? (i := 133) rfl)) (hw _ (List.mem_of_getElem? (i := 21) rfl)) (hw _ (List.mem_of_getElem? (i := 135) rfl)) (by decide) pd__I_D rfl (c_gx0 l Z a0 hw ev lv nb nx ny t kb kx ky lo hi X0 X1 Y0 Y1 ((oVt Z vt (.ref pa) (.ref xv) (.ref yv) (.long lt)) :: (oArr Z pa kpa (.object "com/example/tapflow/tapflow/VelocityTracker$Positions") (vA 32 P)) :: (oPo Z p0 (.ref ta0) (.ref xa0) (.ref ya0) (.int (0 : Int32)) (.int (2 : Int32)) (.double sx0) (.double sy0)) :: (oArr Z ta0 kt0 .long (lA 64 ft0)) :: (oArr Z xa0 kxa0 .double (dA 64 fx0)) :: (oArr Z ya0 kya0 .double (dA 64 fy0)) :: (oPo Z p1 (.ref ta1) (.ref xa1) (.ref ya1) (.int (0 : Int32)) (.int (2 : Int32)) (.double sx1) (.double sy1)) :: (oArr Z ta1 kt1 .long (lA 64 ft1)) :: (oArr Z xa1 kxa1 .double (dA 64 fx1)) :: (oArr Z ya1 kya1 .double (dA 64 fy1)) :: rest)) rfl rfl 3 rfl (by decide) (by decide) (cells' := 0) rfl (slots' := 0) rfl (by decide) (by decide) fun T vV K' N qQ => ?_
  obtain ⟨rfl, rfl⟩ := qQ
  refine k_aload_n (pc := 34) N d12_34 rfl rfl ?_
  refine k_iload (pc := 35) N d12_35 rfl ?_
  refine k_virtual (pc := 37) N (y := (⟨"com/example/tapflow/tapflow/MotionEvent", "getY", "(I)D"⟩ : MethodName)) (z := (⟨"com/example/tapflow/tapflow/MotionEvent", "getY", "(I)D"⟩ : MethodName)) (rest := [.double (FP.i2d X0), .long t, .ref p0]) [.int (0 : Int32)] (a := ev) d12_37 (fun h N => N.exa (i := 0) rfl) (hw _ (List.mem_of_getElem? (i := 144) rfl)) (hw _ (List.mem_of_getElem? (i := 145) rfl)) (nf_self (hw _ (List.mem_of_getElem? (i := 147) rfl))) (hw _ (List.mem_of_getElem? (i := 147) rfl)) (hw _ (List.mem_of_getElem? (i := 146) rfl)) (hw _ (List.mem_of_getElem? (i := 21) rfl)) (hw _ (List.mem_of_getElem? (i := 148) rfl)) (by decide) pd__I_D rfl (c_gy0 l Z a0 hw ev lv nb nx ny t kb kx ky lo hi X0 X1 Y0 Y1 ((oVt Z vt (.ref pa) (.ref xv) (.ref yv) (.long lt)) :: (oArr Z pa kpa (.object "com/example/tapflow/tapflow/VelocityTracker$Positions") (vA 32 P)) :: (oPo Z p0 (.ref ta0) (.ref xa0) (.ref ya0) (.int (0 : Int32)) (.int (2 : Int32)) (.double sx0) (.double sy0)) :: (oArr Z ta0 kt0 .long (lA 64 ft0)) :: (oArr Z xa0 kxa0 .double (dA 64 fx0)) :: (oArr Z ya0 kya0 .double (dA 64 fy0)) :: (oPo Z p1 (.ref ta1) (.ref xa1) (.ref ya1) (.int (0 : Int32)) (.int (2 : Int32)) (.double sx1) (.double sy1)) :: (oArr Z ta1 kt1 .long (lA 64 ft1)) :: (oArr Z xa1 kxa1 .double (dA 64 fx1)) :: (oArr Z ya1 kya1 .double (dA 64 fy1)) :: rest)) rfl rfl 5 rfl (by decide) (by decide) (cells' := 0) rfl (slots' := 0) rfl (by decide) (by decide) fun T vV K' N qQ => ?_
  obtain ⟨rfl, rfl⟩ := qQ
  replace N := ONow.sel (F := [oMe Z ev (.ref lv) (.int (-1 : Int32)) (.long t) (.ref nb) (.ref nx) (.ref ny) (.int (2 : Int32)) (.double (0 : UInt64)) (.double (0 : UInt64)) (.int (0 : Int32)), oArr Z nb kb .int [.int (nd lo), .int (nd hi)], oArr Z nx kx .double [.double (FP.i2d X0), .double (FP.i2d X1)], oArr Z ny ky .double [.double (FP.i2d Y0), .double (FP.i2d Y1)], oVt Z vt (.ref pa) (.ref xv) (.ref yv) (.long lt), oArr Z pa kpa (.object "com/example/tapflow/tapflow/VelocityTracker$Positions") (vA 32 P), oPo Z p0 (.ref ta0) (.ref xa0) (.ref ya0) (.int (0 : Int32)) (.int (2 : Int32)) (.double sx0) (.double sy0), oArr Z ta0 kt0 .long (lA 64 ft0), oArr Z xa0 kxa0 .double (dA 64 fx0), oArr Z ya0 kya0 .double (dA 64 fy0), oPo Z p1 (.ref ta1) (.ref xa1) (.ref ya1) (.int (0 : Int32)) (.int (2 : Int32)) (.double sx1) (.double sy1), oArr Z ta1 kt1 .long (lA 64 ft1), oArr Z xa1 kxa1 .double (dA 64 fx1), oArr Z ya1 kya1 .double (dA 64 fy1)]) (F' := [oPo Z p0 (.ref ta0) (.ref xa0) (.ref ya0) (.int (0 : Int32)) (.int (2 : Int32)) (.double sx0) (.double sy0), oArr Z ta0 kt0 .long (lA 64 ft0), oArr Z xa0 kxa0 .double (dA 64 fx0), oArr Z ya0 kya0 .double (dA 64 fy0), oMe Z ev (.ref lv) (.int (-1 : Int32)) (.long t) (.ref nb) (.ref nx) (.ref ny) (.int (2 : Int32)) (.double (0 : UInt64)) (.double (0 : UInt64)) (.int (0 : Int32)), oArr Z nb kb .int [.int (nd lo), .int (nd hi)], oArr Z nx kx .double [.double (FP.i2d X0), .double (FP.i2d X1)], oArr Z ny ky .double [.double (FP.i2d Y0), .double (FP.i2d Y1)], oVt Z vt (.ref pa) (.ref xv) (.ref yv) (.long lt), oArr Z pa kpa (.object "com/example/tapflow/tapflow/VelocityTracker$Positions") (vA 32 P), oPo Z p1 (.ref ta1) (.ref xa1) (.ref ya1) (.int (0 : Int32)) (.int (2 : Int32)) (.double sx1) (.double sy1), oArr Z ta1 kt1 .long (lA 64 ft1), oArr Z xa1 kxa1 .double (dA 64 fx1), oArr Z ya1 kya1 .double (dA 64 fy1)]) (rest := rest) N [6, 7, 8, 9, 0, 1, 2, 3, 4, 5, 10, 11, 12, 13] (by decide) rfl
  refine k_virtual (pc := 40) N (y := (⟨"com/example/tapflow/tapflow/VelocityTracker$Positions", "add", "(JDD)V"⟩ : MethodName)) (z := (⟨"com/example/tapflow/tapflow/VelocityTracker$Positions", "add", "(JDD)V"⟩ : MethodName)) (rest := []) [.long t, .double (FP.i2d X0), .double (FP.i2d Y0)] (a := p0) d12_40 (fun h N => N.exa (i := 0) rfl) (hw _ (List.mem_of_getElem? (i := 155) rfl)) (hw _ (List.mem_of_getElem? (i := 156) rfl)) (nf_self (hw _ (List.mem_of_getElem? (i := 158) rfl))) (hw _ (List.mem_of_getElem? (i := 158) rfl)) (hw _ (List.mem_of_getElem? (i := 157) rfl)) (hw _ (List.mem_of_getElem? (i := 118) rfl)) (hw _ (List.mem_of_getElem? (i := 159) rfl)) (by decide) pd__JDD_V rfl (c_padd2 l Z a0 hw p0 ta0 xa0 ya0 kt0 kxa0 kya0 ft0 fx0 fy0 sx0 sy0 t (FP.i2d X0) (FP.i2d Y0) ((oMe Z ev (.ref lv) (.int (-1 : Int32)) (.long t) (.ref nb) (.ref nx) (.ref ny) (.int (2 : Int32)) (.double (0 : UInt64)) (.double (0 : UInt64)) (.int (0 : Int32))) :: (oArr Z nb kb .int [.int (nd lo), .int (nd hi)]) :: (oArr Z nx kx .double [.double (FP.i2d X0), .double (FP.i2d X1)]) :: (oArr Z ny ky .double [.double (FP.i2d Y0), .double (FP.i2d Y1)]) :: (oVt Z vt (.ref pa) (.ref xv) (.ref yv) (.long lt)) :: (oArr Z pa kpa (.object "com/example/tapflow/tapflow/VelocityTracker$Positions") (vA 32 P)) :: (oPo Z p1 (.ref ta1) (.ref xa1) (.ref ya1) (.int (0 : Int32)) (.int (2 : Int32)) (.double sx1) (.double sy1)) :: (oArr Z ta1 kt1 .long (lA 64 ft1)) :: (oArr Z xa1 kxa1 .double (dA 64 fx1)) :: (oArr Z ya1 kya1 .double (dA 64 fy1)) :: rest)) rfl rfl 0 rfl (by decide) (by decide) (cells' := 0) rfl (slots' := 0) rfl (by decide) (by decide) fun T vV K' N qQ => ?_
  obtain ⟨rfl, rfl⟩ := qQ
  refine k_iinc (pc := 43) N d12_43 rfl (v := (1 : Int32)) (by decide) (Ls' := #[.val (.ref vt), .val (.ref ev), .val (.long t), .second, .val (.int (1 : Int32))]) rfl ?_
  refine k_goto (pc := 46) N d12_46 (pc' := 8) (by decide) ?_
  refine k_iload (pc := 8) N d12_8 rfl ?_
  refine k_aload_n (pc := 10) N d12_10 rfl rfl ?_
  replace N := ONow.sel (F := [oPo Z p0 (.ref ta0) (.ref xa0) (.ref ya0) (.int (1 : Int32)) (.int (3 : Int32)) (.double sx0) (.double sy0), oArr Z ta0 kt0 .long (lA 64 (upd ft0 2 t)), oArr Z xa0 kxa0 .double (dA 64 (upd fx0 2 (FP.i2d X0))), oArr Z ya0 kya0 .double (dA 64 (upd fy0 2 (FP.i2d Y0))), oMe Z ev (.ref lv) (.int (-1 : Int32)) (.long t) (.ref nb) (.ref nx) (.ref ny) (.int (2 : Int32)) (.double (0 : UInt64)) (.double (0 : UInt64)) (.int (0 : Int32)), oArr Z nb kb .int [.int (nd lo), .int (nd hi)], oArr Z nx kx .double [.double (FP.i2d X0), .double (FP.i2d X1)], oArr Z ny ky .double [.double (FP.i2d Y0), .double (FP.i2d Y1)], oVt Z vt (.ref pa) (.ref xv) (.ref yv) (.long lt), oArr Z pa kpa (.object "com/example/tapflow/tapflow/VelocityTracker$Positions") (vA 32 P), oPo Z p1 (.ref ta1) (.ref xa1) (.ref ya1) (.int (0 : Int32)) (.int (2 : Int32)) (.double sx1) (.double sy1), oArr Z ta1 kt1 .long (lA 64 ft1), oArr Z xa1 kxa1 .double (dA 64 fx1), oArr Z ya1 kya1 .double (dA 64 fy1)]) (F' := [oMe Z ev (.ref lv) (.int (-1 : Int32)) (.long t) (.ref nb) (.ref nx) (.ref ny) (.int (2 : Int32)) (.double (0 : UInt64)) (.double (0 : UInt64)) (.int (0 : Int32)), oArr Z nb kb .int [.int (nd lo), .int (nd hi)], oArr Z nx kx .double [.double (FP.i2d X0), .double (FP.i2d X1)], oArr Z ny ky .double [.double (FP.i2d Y0), .double (FP.i2d Y1)], oPo Z p0 (.ref ta0) (.ref xa0) (.ref ya0) (.int (1 : Int32)) (.int (3 : Int32)) (.double sx0) (.double sy0), oArr Z ta0 kt0 .long (lA 64 (upd ft0 2 t)), oArr Z xa0 kxa0 .double (dA 64 (upd fx0 2 (FP.i2d X0))), oArr Z ya0 kya0 .double (dA 64 (upd fy0 2 (FP.i2d Y0))), oVt Z vt (.ref pa) (.ref xv) (.ref yv) (.long lt), oArr Z pa kpa (.object "com/example/tapflow/tapflow/VelocityTracker$Positions") (vA 32 P), oPo Z p1 (.ref ta1) (.ref xa1) (.ref ya1) (.int (0 : Int32)) (.int (2 : Int32)) (.double sx1) (.double sy1), oArr Z ta1 kt1 .long (lA 64 ft1), oArr Z xa1 kxa1 .double (dA 64 fx1), oArr Z ya1 kya1 .double (dA 64 fy1)]) (rest := rest) N [4, 5, 6, 7, 0, 1, 2, 3, 8, 9, 10, 11, 12, 13] (by decide) rfl
  refine k_virtual (pc := 11) N (y := (⟨"com/example/tapflow/tapflow/MotionEvent", "getPointerCount", "()I"⟩ : MethodName)) (z := (⟨"com/example/tapflow/tapflow/MotionEvent", "getPointerCount", "()I"⟩ : MethodName)) (rest := [.int (1 : Int32)]) [] (a := ev) d12_11 (fun h N => N.exa (i := 0) rfl) (hw _ (List.mem_of_getElem? (i := 103) rfl)) (hw _ (List.mem_of_getElem? (i := 104) rfl)) (nf_self (hw _ (List.mem_of_getElem? (i := 106) rfl))) (hw _ (List.mem_of_getElem? (i := 106) rfl)) (hw _ (List.mem_of_getElem? (i := 105) rfl)) (hw _ (List.mem_of_getElem? (i := 21) rfl)) (hw _ (List.mem_of_getElem? (i := 107) rfl)) (by decide) pd___I rfl (c_gpc l Z a0 hw ev lv nb nx ny t kb kx ky lo hi X0 X1 Y0 Y1 ((oPo Z p0 (.ref ta0) (.ref xa0) (.ref ya0) (.int (1 : Int32)) (.int (3 : Int32)) (.double sx0) (.double sy0)) :: (oArr Z ta0 kt0 .long (lA 64 (upd ft0 2 t))) :: (oArr Z xa0 kxa0 .double (dA 64 (upd fx0 2 (FP.i2d X0)))) :: (oArr Z ya0 kya0 .double (dA 64 (upd fy0 2 (FP.i2d Y0)))) :: (oVt Z vt (.ref pa) (.ref xv) (.ref yv) (.long lt)) :: (oArr Z pa kpa (.object "com/example/tapflow/tapflow/VelocityTracker$Positions") (vA 32 P)) :: (oPo Z p1 (.ref ta1) (.ref xa1) (.ref ya1) (.int (0 : Int32)) (.int (2 : Int32)) (.double sx1) (.double sy1)) :: (oArr Z ta1 kt1 .long (lA 64 ft1)) :: (oArr Z xa1 kxa1 .double (dA 64 fx1)) :: (oArr Z ya1 kya1 .double (dA 64 fy1)) :: rest)) rfl rfl 1 rfl (by decide) (by decide) (cells' := 0) rfl (slots' := 0) rfl (by decide) (by decide) fun T vV K' N qQ => ?_
  obtain ⟨rfl, rfl⟩ := qQ
  refine k_icmp_ge (pc := 14) N d12_14 (pc' := 49) (by decide) (fun qQ => absurd qQ (by decide)) (fun _ => ?_)
  refine k_aload_n (pc := 17) N d12_17 rfl rfl ?_
  refine k_aload_n (pc := 18) N d12_18 rfl rfl ?_
  refine k_iload (pc := 19) N d12_19 rfl ?_
  refine k_virtual (pc := 21) N (y := (⟨"com/example/tapflow/tapflow/MotionEvent", "getPointerId", "(I)I"⟩ : MethodName)) (z := (⟨"com/example/tapflow/tapflow/MotionEvent", "getPointerId", "(I)I"⟩ : MethodName)) (rest := [.ref vt]) [.int (1 : Int32)] (a := ev) d12_21 (fun h N => N.exa (i := 0) rfl) (hw _ (List.mem_of_getElem? (i := 108) rfl)) (hw _ (List.mem_of_getElem? (i := 109) rfl)) (nf_self (hw _ (List.mem_of_getElem? (i := 111) rfl))) (hw _ (List.mem_of_getElem? (i := 111) rfl)) (hw _ (List.mem_of_getElem? (i := 110) rfl)) (hw _ (List.mem_of_getElem? (i := 21) rfl)) (hw _ (List.mem_of_getElem? (i := 112) rfl)) (by decide) pd__I_I rfl (c_gpi1 l Z a0 hw ev lv nb nx ny t kb kx ky lo hi X0 X1 Y0 Y1 ((oPo Z p0 (.ref ta0) (.ref xa0) (.ref ya0) (.int (1 : Int32)) (.int (3 : Int32)) (.double sx0) (.double sy0)) :: (oArr Z ta0 kt0 .long (lA 64 (upd ft0 2 t))) :: (oArr Z xa0 kxa0 .double (dA 64 (upd fx0 2 (FP.i2d X0)))) :: (oArr Z ya0 kya0 .double (dA 64 (upd fy0 2 (FP.i2d Y0)))) :: (oVt Z vt (.ref pa) (.ref xv) (.ref yv) (.long lt)) :: (oArr Z pa kpa (.object "com/example/tapflow/tapflow/VelocityTracker$Positions") (vA 32 P)) :: (oPo Z p1 (.ref ta1) (.ref xa1) (.ref ya1) (.int (0 : Int32)) (.int (2 : Int32)) (.double sx1) (.double sy1)) :: (oArr Z ta1 kt1 .long (lA 64 ft1)) :: (oArr Z xa1 kxa1 .double (dA 64 fx1)) :: (oArr Z ya1 kya1 .double (dA 64 fy1)) :: rest)) rfl rfl 1 rfl (by decide) (by decide) (cells' := 0) rfl (slots' := 0) rfl (by decide) (by decide) fun T vV K' N qQ => ?_
  obtain ⟨rfl, rfl⟩ := qQ
  replace N := ONow.sel (F := [oMe Z ev (.ref lv) (.int (-1 : Int32)) (.long t) (.ref nb) (.ref nx) (.ref ny) (.int (2 : Int32)) (.double (0 : UInt64)) (.double (0 : UInt64)) (.int (0 : Int32)), oArr Z nb kb .int [.int (nd lo), .int (nd hi)], oArr Z nx kx .double [.double (FP.i2d X0), .double (FP.i2d X1)], oArr Z ny ky .double [.double (FP.i2d Y0), .double (FP.i2d Y1)], oPo Z p0 (.ref ta0) (.ref xa0) (.ref ya0) (.int (1 : Int32)) (.int (3 : Int32)) (.double sx0) (.double sy0), oArr Z ta0 kt0 .long (lA 64 (upd ft0 2 t)), oArr Z xa0 kxa0 .double (dA 64 (upd fx0 2 (FP.i2d X0))), oArr Z ya0 kya0 .double (dA 64 (upd fy0 2 (FP.i2d Y0))), oVt Z vt (.ref pa) (.ref xv) (.ref yv) (.long lt), oArr Z pa kpa (.object "com/example/tapflow/tapflow/VelocityTracker$Positions") (vA 32 P), oPo Z p1 (.ref ta1) (.ref xa1) (.ref ya1) (.int (0 : Int32)) (.int (2 : Int32)) (.double sx1) (.double sy1), oArr Z ta1 kt1 .long (lA 64 ft1), oArr Z xa1 kxa1 .double (dA 64 fx1), oArr Z ya1 kya1 .double (dA 64 fy1)]) (F' := [oVt Z vt (.ref pa) (.ref xv) (.ref yv) (.long lt), oArr Z pa kpa (.object "com/example/tapflow/tapflow/VelocityTracker$Positions") (vA 32 P), oMe Z ev (.ref lv) (.int (-1 : Int32)) (.long t) (.ref nb) (.ref nx) (.ref ny) (.int (2 : Int32)) (.double (0 : UInt64)) (.double (0 : UInt64)) (.int (0 : Int32)), oArr Z nb kb .int [.int (nd lo), .int (nd hi)], oArr Z nx kx .double [.double (FP.i2d X0), .double (FP.i2d X1)], oArr Z ny ky .double [.double (FP.i2d Y0), .double (FP.i2d Y1)], oPo Z p0 (.ref ta0) (.ref xa0) (.ref ya0) (.int (1 : Int32)) (.int (3 : Int32)) (.double sx0) (.double sy0), oArr Z ta0 kt0 .long (lA 64 (upd ft0 2 t)), oArr Z xa0 kxa0 .double (dA 64 (upd fx0 2 (FP.i2d X0))), oArr Z ya0 kya0 .double (dA 64 (upd fy0 2 (FP.i2d Y0))), oPo Z p1 (.ref ta1) (.ref xa1) (.ref ya1) (.int (0 : Int32)) (.int (2 : Int32)) (.double sx1) (.double sy1), oArr Z ta1 kt1 .long (lA 64 ft1), oArr Z xa1 kxa1 .double (dA 64 fx1), oArr Z ya1 kya1 .double (dA 64 fy1)]) (rest := rest) N [8, 9, 0, 1, 2, 3, 4, 5, 6, 7, 10, 11, 12, 13] (by decide) rfl
  refine k_private (pc := 24) N (y := (⟨"com/example/tapflow/tapflow/VelocityTracker", "positionsOf", "(I)Lcom/example/tapflow/tapflow/VelocityTracker$Positions;"⟩ : MethodName)) (rest := []) [.int (nd hi)] (a := vt) 0 d12_24 rfl (hw _ (List.mem_of_getElem? (i := 3) rfl)) (hw _ (List.mem_of_getElem? (i := 113) rfl)) (hw _ (List.mem_of_getElem? (i := 114) rfl)) (hw _ (List.mem_of_getElem? (i := 115) rfl)) (hw _ (List.mem_of_getElem? (i := 4) rfl)) (hw _ (List.mem_of_getElem? (i := 116) rfl)) (by decide) pd__I_Lcom_example_tapflow_tapflow_VelocityTracker_Positions_ rfl (c_pof1 l Z a0 hw vt pa xv yv kpa ov lt P hi hhi p1 hP1 ((oMe Z ev (.ref lv) (.int (-1 : Int32)) (.long t) (.ref nb) (.ref nx) (.ref ny) (.int (2 : Int32)) (.double (0 : UInt64)) (.double (0 : UInt64)) (.int (0 : Int32))) :: (oArr Z nb kb .int [.int (nd lo), .int (nd hi)]) :: (oArr Z nx kx .double [.double (FP.i2d X0), .double (FP.i2d X1)]) :: (oArr Z ny ky .double [.double (FP.i2d Y0), .double (FP.i2d Y1)]) :: (oPo Z p0 (.ref ta0) (.ref xa0) (.ref ya0) (.int (1 : Int32)) (.int (3 : Int32)) (.double sx0) (.double sy0)) :: (oArr Z ta0 kt0 .long (lA 64 (upd ft0 2 t))) :: (oArr Z xa0 kxa0 .double (dA 64 (upd fx0 2 (FP.i2d X0)))) :: (oArr Z ya0 kya0 .double (dA 64 (upd fy0 2 (FP.i2d Y0)))) :: (oPo Z p1 (.ref ta1) (.ref xa1) (.ref ya1) (.int (0 : Int32)) (.int (2 : Int32)) (.double sx1) (.double sy1)) :: (oArr Z ta1 kt1 .long (lA 64 ft1)) :: (oArr Z xa1 kxa1 .double (dA 64 fx1)) :: (oArr Z ya1 kya1 .double (dA 64 fy1)) :: rest)) rfl rfl 0 rfl (by decide) (by decide) (cells' := 0) rfl (slots' := 0) rfl (by decide) (by decide) fun T vV K' N qQ => ?_
  obtain ⟨rfl, rfl⟩ := qQ
  refine k_lload_n (pc := 27) N d12_27 rfl ?_
  refine k_aload_n (pc := 28) N d12_28 rfl rfl ?_
  refine k_iload (pc := 29) N d12_29 rfl ?_
  replace N := ONow.sel (F := [oVt Z vt (.ref pa) (.ref xv) (.ref yv) (.long lt), oArr Z pa kpa (.object "com/example/tapflow/tapflow/VelocityTracker$Positions") (vA 32 P), oMe Z ev (.ref lv) (.int (-1 : Int32)) (.long t) (.ref nb) (.ref nx) (.ref ny) (.int (2 : Int32)) (.double (0 : UInt64)) (.double (0 : UInt64)) (.int (0 : Int32)), oArr Z nb kb .int [.int (nd lo), .int (nd hi)], oArr Z nx kx .double [.double (FP.i2d X0), .double (FP.i2d X1)], oArr Z ny ky .double [.double (FP.i2d Y0), .double (FP.i2d Y1)], oPo Z p0 (.ref ta0) (.ref xa0) (.ref ya0) (.int (1 : Int32)) (.int (3 : Int32)) (.double sx0) (.double sy0), oArr Z ta0 kt0 .long (lA 64 (upd ft0 2 t)), oArr Z xa0 kxa0 .double (dA 64 (upd fx0 2 (FP.i2d X0))), oArr Z ya0 kya0 .double (dA 64 (upd fy0 2 (FP.i2d Y0))), oPo Z p1 (.ref ta1) (.ref xa1) (.ref ya1) (.int (0 : Int32)) (.int (2 : Int32)) (.double sx1) (.double sy1), oArr Z ta1 kt1 .long (lA 64 ft1), oArr Z xa1 kxa1 .double (dA 64 fx1), oArr Z ya1 kya1 .double (dA 64 fy1)]) (F' := [oMe Z ev (.ref lv) (.int (-1 : Int32)) (.long t) (.ref nb) (.ref nx) (.ref ny) (.int (2 : Int32)) (.double (0 : UInt64)) (.double (0 : UInt64)) (.int (0 : Int32)), oArr Z nb kb .int [.int (nd lo), .int (nd hi)], oArr Z nx kx .double [.double (FP.i2d X0), .double (FP.i2d X1)], oArr Z ny ky .double [.double (FP.i2d Y0), .double (FP.i2d Y1)], oVt Z vt (.ref pa) (.ref xv) (.ref yv) (.long lt), oArr Z pa kpa (.object "com/example/tapflow/tapflow/VelocityTracker$Positions") (vA 32 P), oPo Z p0 (.ref ta0) (.ref xa0) (.ref ya0) (.int (1 : Int32)) (.int (3 : Int32)) (.double sx0) (.double sy0), oArr Z ta0 kt0 .long (lA 64 (upd ft0 2 t)), oArr Z xa0 kxa0 .double (dA 64 (upd fx0 2 (FP.i2d X0))), oArr Z ya0 kya0 .double (dA 64 (upd fy0 2 (FP.i2d Y0))), oPo Z p1 (.ref ta1) (.ref xa1) (.ref ya1) (.int (0 : Int32)) (.int (2 : Int32)) (.double sx1) (.double sy1), oArr Z ta1 kt1 .long (lA 64 ft1), oArr Z xa1 kxa1 .double (dA 64 fx1), oArr Z ya1 kya1 .double (dA 64 fy1)]) (rest := rest) N [2, 3, 4, 5, 0, 1, 6, 7, 8, 9, 10, 11, 12, 13] (by decide) rfl
  refine k_virtual (pc := 31) N (y := (⟨"com/example/tapflow/tapflow/MotionEvent", "getX", "(I)D"⟩ : MethodName)) (z := (⟨"com/example/tapflow/tapflow/MotionEvent", "getX", "(I)D"⟩ : MethodName)) (rest := [.long t, .ref p1]) [.int (1 : Int32)] (a := ev) d12_31 (fun h N => N.exa (i := 0) rfl) (hw _ (List.mem_of_getElem? (i := 131) rfl)) (hw _ (List.mem_of_getElem? (i := 132) rfl)) (nf_self (hw _ (List.mem_of_getElem? (i := 134) rfl))) (hw _ (List.mem_of_getElem? (i := 134) rfl)) (hw _ (List.mem_of_getElem? (i := 133) rfl)) (hw _ (List.mem_of_getElem? (i := 21) rfl)) (hw _ (List.mem_of_getElem? (i := 135) rfl)) (by decide) pd__I_D rfl (c_gx1 l Z a0 hw ev lv nb nx ny t kb kx ky lo hi X0 X1 Y0 Y1 ((oVt Z vt (.ref pa) (.ref xv) (.ref yv) (.long lt)) :: (oArr Z pa kpa (.object "com/example/tapflow/tapflow/VelocityTracker$Positions") (vA 32 P)) :: (oPo Z p0 (.ref ta0) (.ref xa0) (.ref ya0) (.int (1 : Int32)) (.int (3 : Int32)) (.double sx0) (.double sy0)) :: (oArr Z ta0 kt0 .long (lA 64 (upd ft0 2 t))) :: (oArr Z xa0 kxa0 .double (dA 64 (upd fx0 2 (FP.i2d X0)))) :: (oArr Z ya0 kya0 .double (dA 64 (upd fy0 2 (FP.i2d Y0)))) :: (oPo Z p1 (.ref ta1) (.ref xa1) (.ref ya1) (.int (0 : Int32)) (.int (2 : Int32)) (.double sx1) (.double sy1)) :: (oArr Z ta1 kt1 .long (lA 64 ft1)) :: (oArr Z xa1 kxa1 .double (dA 64 fx1)) :: (oArr Z ya1 kya1 .double (dA 64 fy1)) :: rest)) rfl rfl 3 rfl (by decide) (by decide) (cells' := 0) rfl (slots' := 0) rfl (by decide) (by decide) fun T vV K' N qQ => ?_
  obtain ⟨rfl, rfl⟩ := qQ
  refine k_aload_n (pc := 34) N d12_34 rfl rfl ?_
  refine k_iload (pc := 35) N d12_35 rfl ?_
  refine k_virtual (pc := 37) N (y := (⟨"com/example/tapflow/tapflow/MotionEvent", "getY", "(I)D"⟩ : MethodName)) (z := (⟨"com/example/tapflow/tapflow/MotionEvent", "getY", "(I)D"⟩ : MethodName)) (rest := [.double (FP.i2d X1), .long t, .ref p1]) [.int (1 : Int32)] (a := ev) d12_37 (fun h N => N.exa (i := 0) rfl) (hw _ (List.mem_of_getElem? (i := 144) rfl)) (hw _ (List.mem_of_getElem? (i := 145) rfl)) (nf_self (hw _ (List.mem_of_getElem? (i := 147) rfl))) (hw _ (List.mem_of_getElem? (i := 147) rfl)) (hw _ (List.mem_of_getElem? (i := 146) rfl)) (hw _ (List.mem_of_getElem? (i := 21) rfl)) (hw _ (List.mem_of_getElem? (i := 148) rfl)) (by decide) pd__I_D rfl (c_gy1 l Z a0 hw ev lv nb nx ny t kb kx ky lo hi X0 X1 Y0 Y1 ((oVt Z vt (.ref pa) (.ref xv) (.ref yv) (.long lt)) :: (oArr Z pa kpa (.object "com/example/tapflow/tapflow/VelocityTracker$Positions") (vA 32 P)) :: (oPo Z p0 (.ref ta0) (.ref xa0) (.ref ya0) (.int (1 : Int32)) (.int (3 : Int32)) (.double sx0) (.double sy0)) :: (oArr Z ta0 kt0 .long (lA 64 (upd ft0 2 t))) :: (oArr Z xa0 kxa0 .double (dA 64 (upd fx0 2 (FP.i2d X0)))) :: (oArr Z ya0 kya0 .double (dA 64 (upd fy0 2 (FP.i2d Y0)))) :: (oPo Z p1 (.ref ta1) (.ref xa1) (.ref ya1) (.int (0 : Int32)) (.int (2 : Int32)) (.double sx1) (.double sy1)) :: (oArr Z ta1 kt1 .long (lA 64 ft1)) :: (oArr Z xa1 kxa1 .double (dA 64 fx1)) :: (oArr Z ya1 kya1 .double (dA 64 fy1)) :: rest)) rfl rfl 5 rfl (by decide) (by decide) (cells' := 0) rfl (slots' := 0) rfl (by decide) (by decide) fun T vV K' N qQ => ?_
  obtain ⟨rfl, rfl⟩ := qQ
  replace N := ONow.sel (F := [oMe Z ev (.ref lv) (.int (-1 : Int32)) (.long t) (.ref nb) (.ref nx) (.ref ny) (.int (2 : Int32)) (.double (0 : UInt64)) (.double (0 : UInt64)) (.int (0 : Int32)), oArr Z nb kb .int [.int (nd lo), .int (nd hi)], oArr Z nx kx .double [.double (FP.i2d X0), .double (FP.i2d X1)], oArr Z ny ky .double [.double (FP.i2d Y0), .double (FP.i2d Y1)], oVt Z vt (.ref pa) (.ref xv) (.ref yv) (.long lt), oArr Z pa kpa (.object "com/example/tapflow/tapflow/VelocityTracker$Positions") (vA 32 P), oPo Z p0 (.ref ta0) (.ref xa0) (.ref ya0) (.int (1 : Int32)) (.int (3 : Int32)) (.double sx0) (.double sy0), oArr Z ta0 kt0 .long (lA 64 (upd ft0 2 t)), oArr Z xa0 kxa0 .double (dA 64 (upd fx0 2 (FP.i2d X0))), oArr Z ya0 kya0 .double (dA 64 (upd fy0 2 (FP.i2d Y0))), oPo Z p1 (.ref ta1) (.ref xa1) (.ref ya1) (.int (0 : Int32)) (.int (2 : Int32)) (.double sx1) (.double sy1), oArr Z ta1 kt1 .long (lA 64 ft1), oArr Z xa1 kxa1 .double (dA 64 fx1), oArr Z ya1 kya1 .double (dA 64 fy1)]) (F' := [oPo Z p1 (.ref ta1) (.ref xa1) (.ref ya1) (.int (0 : Int32)) (.int (2 : Int32)) (.double sx1) (.double sy1), oArr Z ta1 kt1 .long (lA 64 ft1), oArr Z xa1 kxa1 .double (dA 64 fx1), oArr Z ya1 kya1 .double (dA 64 fy1), oMe Z ev (.ref lv) (.int (-1 : Int32)) (.long t) (.ref nb) (.ref nx) (.ref ny) (.int (2 : Int32)) (.double (0 : UInt64)) (.double (0 : UInt64)) (.int (0 : Int32)), oArr Z nb kb .int [.int (nd lo), .int (nd hi)], oArr Z nx kx .double [.double (FP.i2d X0), .double (FP.i2d X1)], oArr Z ny ky .double [.double (FP.i2d Y0), .double (FP.i2d Y1)], oVt Z vt (.ref pa) (.ref xv) (.ref yv) (.long lt), oArr Z pa kpa (.object "com/example/tapflow/tapflow/VelocityTracker$Positions") (vA 32 P), oPo Z p0 (.ref ta0) (.ref xa0) (.ref ya0) (.int (1 : Int32)) (.int (3 : Int32)) (.double sx0) (.double sy0), oArr Z ta0 kt0 .long (lA 64 (upd ft0 2 t)), oArr Z xa0 kxa0 .double (dA 64 (upd fx0 2 (FP.i2d X0))), oArr Z ya0 kya0 .double (dA 64 (upd fy0 2 (FP.i2d Y0)))]) (rest := rest) N [10, 11, 12, 13, 0, 1, 2, 3, 4, 5, 6, 7, 8, 9] (by decide) rfl
  refine k_virtual (pc := 40) N (y := (⟨"com/example/tapflow/tapflow/VelocityTracker$Positions", "add", "(JDD)V"⟩ : MethodName)) (z := (⟨"com/example/tapflow/tapflow/VelocityTracker$Positions", "add", "(JDD)V"⟩ : MethodName)) (rest := []) [.long t, .double (FP.i2d X1), .double (FP.i2d Y1)] (a := p1) d12_40 (fun h N => N.exa (i := 0) rfl) (hw _ (List.mem_of_getElem? (i := 155) rfl)) (hw _ (List.mem_of_getElem? (i := 156) rfl)) (nf_self (hw _ (List.mem_of_getElem? (i := 158) rfl))) (hw _ (List.mem_of_getElem? (i := 158) rfl)) (hw _ (List.mem_of_getElem? (i := 157) rfl)) (hw _ (List.mem_of_getElem? (i := 118) rfl)) (hw _ (List.mem_of_getElem? (i := 159) rfl)) (by decide) pd__JDD_V rfl (c_padd2 l Z a0 hw p1 ta1 xa1 ya1 kt1 kxa1 kya1 ft1 fx1 fy1 sx1 sy1 t (FP.i2d X1) (FP.i2d Y1) ((oMe Z ev (.ref lv) (.int (-1 : Int32)) (.long t) (.ref nb) (.ref nx) (.ref ny) (.int (2 : Int32)) (.double (0 : UInt64)) (.double (0 : UInt64)) (.int (0 : Int32))) :: (oArr Z nb kb .int [.int (nd lo), .int (nd hi)]) :: (oArr Z nx kx .double [.double (FP.i2d X0), .double (FP.i2d X1)]) :: (oArr Z ny ky .double [.double (FP.i2d Y0), .double (FP.i2d Y1)]) :: (oVt Z vt (.ref pa) (.ref xv) (.ref yv) (.long lt)) :: (oArr Z pa kpa (.object "com/example/tapflow/tapflow/VelocityTracker$Positions") (vA 32 P)) :: (oPo Z p0 (.ref ta0) (.ref xa0) (.ref ya0) (.int (1 : Int32)) (.int (3 : Int32)) (.double sx0) (.double sy0)) :: (oArr Z ta0 kt0 .long (lA 64 (upd ft0 2 t))) :: (oArr Z xa0 kxa0 .double (dA 64 (upd fx0 2 (FP.i2d X0)))) :: (oArr Z ya0 kya0 .double (dA 64 (upd fy0 2 (FP.i2d Y0)))) :: rest)) rfl rfl 0 rfl (by decide) (by decide) (cells' := 0) rfl (slots' := 0) rfl (by decide) (by decide) fun T vV K' N qQ => ?_
  obtain ⟨rfl, rfl⟩ := qQ
  refine k_iinc (pc := 43) N d12_43 rfl (v := (2 : Int32)) (by decide) (Ls' := #[.val (.ref vt), .val (.ref ev), .val (.long t), .second, .val (.int (2 : Int32))]) rfl ?_
  refine k_goto (pc := 46) N d12_46 (pc' := 8) (by decide) ?_
  refine k_iload (pc := 8) N d12_8 rfl ?_
  refine k_aload_n (pc := 10) N d12_10 rfl rfl ?_
  replace N := ONow.sel (F := [oPo Z p1 (.ref ta1) (.ref xa1) (.ref ya1) (.int (1 : Int32)) (.int (3 : Int32)) (.double sx1) (.double sy1), oArr Z ta1 kt1 .long (lA 64 (upd ft1 2 t)), oArr Z xa1 kxa1 .double (dA 64 (upd fx1 2 (FP.i2d X1))), oArr Z ya1 kya1 .double (dA 64 (upd fy1 2 (FP.i2d Y1))), oMe Z ev (.ref lv) (.int (-1 : Int32)) (.long t) (.ref nb) (.ref nx) (.ref ny) (.int (2 : Int32)) (.double (0 : UInt64)) (.double (0 : UInt64)) (.int (0 : Int32)), oArr Z nb kb .int [.int (nd lo), .int (nd hi)], oArr Z nx kx .double [.double (FP.i2d X0), .double (FP.i2d X1)], oArr Z ny ky .double [.double (FP.i2d Y0), .double (FP.i2d Y1)], oVt Z vt (.ref pa) (.ref xv) (.ref yv) (.long lt), oArr Z pa kpa (.object "com/example/tapflow/tapflow/VelocityTracker$Positions") (vA 32 P), oPo Z p0 (.ref ta0) (.ref xa0) (.ref ya0) (.int (1 : Int32)) (.int (3 : Int32)) (.double sx0) (.double sy0), oArr Z ta0 kt0 .long (lA 64 (upd ft0 2 t)), oArr Z xa0 kxa0 .double (dA 64 (upd fx0 2 (FP.i2d X0))), oArr Z ya0 kya0 .double (dA 64 (upd fy0 2 (FP.i2d Y0)))]) (F' := [oMe Z ev (.ref lv) (.int (-1 : Int32)) (.long t) (.ref nb) (.ref nx) (.ref ny) (.int (2 : Int32)) (.double (0 : UInt64)) (.double (0 : UInt64)) (.int (0 : Int32)), oArr Z nb kb .int [.int (nd lo), .int (nd hi)], oArr Z nx kx .double [.double (FP.i2d X0), .double (FP.i2d X1)], oArr Z ny ky .double [.double (FP.i2d Y0), .double (FP.i2d Y1)], oPo Z p1 (.ref ta1) (.ref xa1) (.ref ya1) (.int (1 : Int32)) (.int (3 : Int32)) (.double sx1) (.double sy1), oArr Z ta1 kt1 .long (lA 64 (upd ft1 2 t)), oArr Z xa1 kxa1 .double (dA 64 (upd fx1 2 (FP.i2d X1))), oArr Z ya1 kya1 .double (dA 64 (upd fy1 2 (FP.i2d Y1))), oVt Z vt (.ref pa) (.ref xv) (.ref yv) (.long lt), oArr Z pa kpa (.object "com/example/tapflow/tapflow/VelocityTracker$Positions") (vA 32 P), oPo Z p0 (.ref ta0) (.ref xa0) (.ref ya0) (.int (1 : Int32)) (.int (3 : Int32)) (.double sx0) (.double sy0), oArr Z ta0 kt0 .long (lA 64 (upd ft0 2 t)), oArr Z xa0 kxa0 .double (dA 64 (upd fx0 2 (FP.i2d X0))), oArr Z ya0 kya0 .double (dA 64 (upd fy0 2 (FP.i2d Y0)))]) (rest := rest) N [4, 5, 6, 7, 0, 1, 2, 3, 8, 9, 10, 11, 12, 13] (by decide) rfl
  refine k_virtual (pc := 11) N (y := (⟨"com/example/tapflow/tapflow/MotionEvent", "getPointerCount", "()I"⟩ : MethodName)) (z := (⟨"com/example/tapflow/tapflow/MotionEvent", "getPointerCount", "()I"⟩ : MethodName)) (rest := [.int (2 : Int32)]) [] (a := ev) d12_11 (fun h N => N.exa (i := 0) rfl) (hw _ (List.mem_of_getElem? (i := 103) rfl)) (hw _ (List.mem_of_getElem? (i := 104) rfl)) (nf_self (hw _ (List.mem_of_getElem? (i := 106) rfl))) (hw _ (List.mem_of_getElem? (i := 106) rfl)) (hw _ (List.mem_of_getElem? (i := 105) rfl)) (hw _ (List.mem_of_getElem? (i := 21) rfl)) (hw _ (List.mem_of_getElem? (i := 107) rfl)) (by decide) pd___I rfl (c_gpc l Z a0 hw ev lv nb nx ny t kb kx ky lo hi X0 X1 Y0 Y1 ((oPo Z p1 (.ref ta1) (.ref xa1) (.ref ya1) (.int (1 : Int32)) (.int (3 : Int32)) (.double sx1) (.double sy1)) :: (oArr Z ta1 kt1 .long (lA 64 (upd ft1 2 t))) :: (oArr Z xa1 kxa1 .double (dA 64 (upd fx1 2 (FP.i2d X1)))) :: (oArr Z ya1 kya1 .double (dA 64 (upd fy1 2 (FP.i2d Y1)))) :: (oVt Z vt (.ref pa) (.ref xv) (.ref yv) (.long lt)) :: (oArr Z pa kpa (.object "com/example/tapflow/tapflow/VelocityTracker$Positions") (vA 32 P)) :: (oPo Z p0 (.ref ta0) (.ref xa0) (.ref ya0) (.int (1 : Int32)) (.int (3 : Int32)) (.double sx0) (.double sy0)) :: (oArr Z ta0 kt0 .long (lA 64 (upd ft0 2 t))) :: (oArr Z xa0 kxa0 .double (dA 64 (upd fx0 2 (FP.i2d X0)))) :: (oArr Z ya0 kya0 .double (dA 64 (upd fy0 2 (FP.i2d Y0)))) :: rest)) rfl rfl 1 rfl (by decide) (by decide) (cells' := 0) rfl (slots' := 0) rfl (by decide) (by decide) fun T vV K' N qQ => ?_
  obtain ⟨rfl, rfl⟩ := qQ
  refine k_icmp_ge (pc := 14) N d12_14 (pc' := 49) (by decide) (fun _ => ?_) (fun qQ => absurd qQ (by decide))
  replace N := ONow.sel (F := [oMe Z ev (.ref lv) (.int (-1 : Int32)) (.long t) (.ref nb) (.ref nx) (.ref ny) (.int (2 : Int32)) (.double (0 : UInt64)) (.double (0 : UInt64)) (.int (0 : Int32)), oArr Z nb kb .int [.int (nd lo), .int (nd hi)], oArr Z nx kx .double [.double (FP.i2d X0), .double (FP.i2d X1)], oArr Z ny ky .double [.double (FP.i2d Y0), .double (FP.i2d Y1)], oPo Z p1 (.ref ta1) (.ref xa1) (.ref ya1) (.int (1 : Int32)) (.int (3 : Int32)) (.double sx1) (.double sy1), oArr Z ta1 kt1 .long (lA 64 (upd ft1 2 t)), oArr Z xa1 kxa1 .double (dA 64 (upd fx1 2 (FP.i2d X1))), oArr Z ya1 kya1 .double (dA 64 (upd fy1 2 (FP.i2d Y1))), oVt Z vt (.ref pa) (.ref xv) (.ref yv) (.long lt), oArr Z pa kpa (.object "com/example/tapflow/tapflow/VelocityTracker$Positions") (vA 32 P), oPo Z p0 (.ref ta0) (.ref xa0) (.ref ya0) (.int (1 : Int32)) (.int (3 : Int32)) (.double sx0) (.double sy0), oArr Z ta0 kt0 .long (lA 64 (upd ft0 2 t)), oArr Z xa0 kxa0 .double (dA 64 (upd fx0 2 (FP.i2d X0))), oArr Z ya0 kya0 .double (dA 64 (upd fy0 2 (FP.i2d Y0)))]) (F' := [oVt Z vt (.ref pa) (.ref xv) (.ref yv) (.long lt), oArr Z pa kpa (.object "com/example/tapflow/tapflow/VelocityTracker$Positions") (vA 32 P), oMe Z ev (.ref lv) (.int (-1 : Int32)) (.long t) (.ref nb) (.ref nx) (.ref ny) (.int (2 : Int32)) (.double (0 : UInt64)) (.double (0 : UInt64)) (.int (0 : Int32)), oArr Z nb kb .int [.int (nd lo), .int (nd hi)], oArr Z nx kx .double [.double (FP.i2d X0), .double (FP.i2d X1)], oArr Z ny ky .double [.double (FP.i2d Y0), .double (FP.i2d Y1)], oPo Z p0 (.ref ta0) (.ref xa0) (.ref ya0) (.int (1 : Int32)) (.int (3 : Int32)) (.double sx0) (.double sy0), oArr Z ta0 kt0 .long (lA 64 (upd ft0 2 t)), oArr Z xa0 kxa0 .double (dA 64 (upd fx0 2 (FP.i2d X0))), oArr Z ya0 kya0 .double (dA 64 (upd fy0 2 (FP.i2d Y0))), oPo Z p1 (.ref ta1) (.ref xa1) (.ref ya1) (.int (1 : Int32)) (.int (3 : Int32)) (.double sx1) (.double sy1), oArr Z ta1 kt1 .long (lA 64 (upd ft1 2 t)), oArr Z xa1 kxa1 .double (dA 64 (upd fx1 2 (FP.i2d X1))), oArr Z ya1 kya1 .double (dA 64 (upd fy1 2 (FP.i2d Y1)))]) (rest := rest) N [8, 9, 0, 1, 2, 3, 10, 11, 12, 13, 4, 5, 6, 7] (by decide) rfl
  exact k_return (pc := 49) N d12_49 rfl (by decide) (by decide) ⟨rfl, rfl⟩
set_option maxRecDepth 65536 in
theorem ef_c_am0 (m : MethodId) (z0 : Addr) (z1 : Addr) : entryFrame m ([.ref z0, .ref z1] : List Value).toArray 2 = mkF m 0 #[.val (.ref z0), .val (.ref z1)] [] := by first | (simp [entryFrame, mkF, argsToLocals, Value.category]; done) | rfl
def rm_c_am0 : Room := { frames := 4, cells := 8, slots := 398, locals := 56 }
set_option maxRecDepth 65536 in
set_option maxHeartbeats 40000000 in
theorem c_am0 (l : Launch) (Z : State) (a0 : Array Value) (hw : ∀ d ∈ tables_1, d.before a0 Z = true) (vt pa xv yv : Addr) (kpa : ClassId) (ov : Ovr Z kpa "com/example/tapflow/tapflow/VelocityTracker$Positions") (lt : Int64) (ev lv nb nx ny : Addr) (t : Int64) (kb kx ky : ClassId) (lo hi : Nat) (X0 X1 Y0 Y1 : Int32) (hlo : lo < 32) (hhi : hi < 32) (hne : hi ≠ lo) (rest : List Ent) :
    OMeets l (⟨"com/example/tapflow/tapflow/VelocityTracker", "addMovement", "(Lcom/example/tapflow/tapflow/MotionEvent;)V"⟩ : MethodName) prog_15_method_2_code 2 none rm_c_am0 Z [.ref vt, .ref ev] ((oVt Z vt (.ref pa) (.ref xv) (.ref yv) (.long lt)) :: (oArr Z pa kpa (.object "com/example/tapflow/tapflow/VelocityTracker$Positions") (vA 32 zn)) :: (oMe Z ev (.ref lv) (.int (-1 : Int32)) (.long t) (.ref nb) (.ref nx) (.ref ny) (.int (2 : Int32)) (.double (0 : UInt64)) (.double (0 : UInt64)) (.int (0 : Int32))) :: (oArr Z nb kb .int [.int (nd lo), .int (nd hi)]) :: (oArr Z nx kx .double [.double (FP.i2d X0), .double (FP.i2d X1)]) :: (oArr Z ny ky .double [.double (FP.i2d Y0), .double (FP.i2d Y1)]) :: rest) (fun v K => ∃ (p0 ta0 xa0 ya0 : Addr) (kt0 kxa0 kya0 : ClassId) (p1 ta1 xa1 ya1 : Addr) (kt1 kxa1 kya1 : ClassId), v = none ∧ K = (oVt Z vt (.ref pa) (.ref xv) (.ref yv) (.long t)) :: (oArr Z pa kpa (.object "com/example/tapflow/tapflow/VelocityTracker$Positions") (vA 32 (upd (upd zn lo (.ref p0)) hi (.ref p1)))) :: (oMe Z ev (.ref lv) (.int (-1 : Int32)) (.long t) (.ref nb) (.ref nx) (.ref ny) (.int (2 : Int32)) (.double (0 : UInt64)) (.double (0 : UInt64)) (.int (0 : Int32))) :: (oArr Z nb kb .int [.int (nd lo), .int (nd hi)]) :: (oArr Z nx kx .double [.double (FP.i2d X0), .double (FP.i2d X1)]) :: (oArr Z ny ky .double [.double (FP.i2d Y0), .double (FP.i2d Y1)]) :: (oPo Z p0 (.ref ta0) (.ref xa0) (.ref ya0) (.int (1 : Int32)) (.int (1 : Int32)) (.double (0 : UInt64)) (.double (0 : UInt64))) :: (oArr Z ta0 kt0 .long (lA 64 (upd zl 0 t))) :: (oArr Z xa0 kxa0 .double (dA 64 (upd zd 0 (FP.i2d X0)))) :: (oArr Z ya0 kya0 .double (dA 64 (upd zd 0 (FP.i2d Y0)))) :: (oPo Z p1 (.ref ta1) (.ref xa1) (.ref ya1) (.int (1 : Int32)) (.int (1 : Int32)) (.double (0 : UInt64)) (.double (0 : UInt64))) :: (oArr Z ta1 kt1 .long (lA 64 (upd zl 0 t))) :: (oArr Z xa1 kxa1 .double (dA 64 (upd zd 0 (FP.i2d X1)))) :: (oArr Z ya1 kya1 .double (dA 64 (upd zd 0 (FP.i2d Y1)))) :: rest) := by
  refine OMeets.of_body (plainFor_of_name pn_com_example_tapflow_tapflow_VelocityTracker) #[.val (.ref vt), .val (.ref ev)] (fun m => ef_c_am0 m vt ev) fun pP eE sS mM bB hH cC T N => ?_
  refine k_aload_n (pc := 0) N d10_0 rfl rfl ?_
  replace N := ONow.sel (F := [oVt Z vt (.ref pa) (.ref xv) (.ref yv) (.long lt), oArr Z pa kpa (.object "com/example/tapflow/tapflow/VelocityTracker$Positions") (vA 32 zn), oMe Z ev (.ref lv) (.int (-1 : Int32)) (.long t) (.ref nb) (.ref nx) (.ref ny) (.int (2 : Int32)) (.double (0 : UInt64)) (.double (0 : UInt64)) (.int (0 : Int32)), oArr Z nb kb .int [.int (nd lo), .int (nd hi)], oArr Z nx kx .double [.double (FP.i2d X0), .double (FP.i2d X1)], oArr Z ny ky .double [.double (FP.i2d Y0), .double (FP.i2d Y1)]]) (F' := [oMe Z ev (.ref lv) (.int (-1 : Int32)) (.long t) (.ref nb) (.ref nx) (.ref ny) (.int (2 : Int32)) (.double (0 : UInt64)) (.double (0 : UInt64)) (.int (0 : Int32)), oArr Z nb kb .int [.int (nd lo), .int (nd hi)], oArr Z nx kx .double [.double (FP.i2d X0), .double (FP.i2d X1)], oArr Z ny ky .double [.double (FP.i2d Y0), .double (FP.i2d Y1)], oVt Z vt (.ref pa) (.ref xv) (.ref yv) (.long lt), oArr Z pa kpa (.object "com/example/tapflow/tapflow/VelocityTracker$Positions") (vA 32 zn)]) (rest := rest) N [2, 3, 4, 5, 0, 1] (by decide) rfl
  refine k_virtual (pc := 1) N (y := (⟨"com/example/tapflow/tapflow/MotionEvent", "getActionMasked", "()I"⟩ : MethodName)) (z := (⟨"com/example/tapflow/tapflow/MotionEvent", "getActionMasked", "()I"⟩ : MethodName)) (rest := []) [] (a := ev) d10_1 (fun h N => N.exa (i := 0) rfl) (hw _ (List.mem_of_getElem? (i := 89) rfl)) (hw _ (List.mem_of_getElem? (i := 90) rfl)) (nf_self (hw _ (List.mem_of_getElem? (i := 92) rfl))) (hw _ (List.mem_of_getElem? (i := 92) rfl)) (hw _ (List.mem_of_getElem? (i := 91) rfl)) (hw _ (List.mem_of_getElem? (i := 21) rfl)) (hw _ (List.mem_of_getElem? (i := 93) rfl)) (by decide) pd___I rfl (c_gam l Z a0 hw ev lv nb nx ny t kb kx ky lo hi X0 X1 Y0 Y1 ((oVt Z vt (.ref pa) (.ref xv) (.ref yv) (.long lt)) :: (oArr Z pa kpa (.object "com/example/tapflow/tapflow/VelocityTracker$Positions") (vA 32 zn)) :: rest)) rfl rfl 0 rfl (by decide) (by decide) (cells' := 0) rfl (slots' := 0) rfl (by decide) (by decide) fun T vV K' N qQ => ?_
  obtain ⟨rfl, rfl⟩ := qQ
  refine k_lsw (pc := 4) N (a := 2) (off := 72) d10_4 (by decide) (by decide) (by decide) (pc' := 76) (by decide) ?_
  refine k_aload_n (pc := 76) N d10_76 rfl rfl ?_
  refine k_aload_n (pc := 77) N d10_77 rfl rfl ?_
  replace N := ONow.sel (F := [oMe Z ev (.ref lv) (.int (-1 : Int32)) (.long t) (.ref nb) (.ref nx) (.ref ny) (.int (2 : Int32)) (.double (0 : UInt64)) (.double (0 : UInt64)) (.int (0 : Int32)), oArr Z nb kb .int [.int (nd lo), .int (nd hi)], oArr Z nx kx .double [.double (FP.i2d X0), .double (FP.i2d X1)], oArr Z ny ky .double [.double (FP.i2d Y0), .double (FP.i2d Y1)], oVt Z vt (.ref pa) (.ref xv) (.ref yv) (.long lt), oArr Z pa kpa (.object "com/example/tapflow/tapflow/VelocityTracker$Positions") (vA 32 zn)]) (F' := [oVt Z vt (.ref pa) (.ref xv) (.ref yv) (.long lt), oArr Z pa kpa (.object "com/example/tapflow/tapflow/VelocityTracker$Positions") (vA 32 zn), oMe Z ev (.ref lv) (.int (-1 : Int32)) (.long t) (.ref nb) (.ref nx) (.ref ny) (.int (2 : Int32)) (.double (0 : UInt64)) (.double (0 : UInt64)) (.int (0 : Int32)), oArr Z nb kb .int [.int (nd lo), .int (nd hi)], oArr Z nx kx .double [.double (FP.i2d X0), .double (FP.i2d X1)], oArr Z ny ky .double [.double (FP.i2d Y0), .double (FP.i2d Y1)]]) (rest := rest) N [4, 5, 0, 1, 2, 3] (by decide) rfl
  refine k_private (pc := 78) N (y := (⟨"com/example/tapflow/tapflow/VelocityTracker", "addPositions", "(Lcom/example/tapflow/tapflow/MotionEvent;)V"⟩ : MethodName)) (rest := []) [.ref ev] (a := vt) 0 d10_78 rfl (hw _ (List.mem_of_getElem? (i := 3) rfl)) (hw _ (List.mem_of_getElem? (i := 94) rfl)) (hw _ (List.mem_of_getElem? (i := 95) rfl)) (hw _ (List.mem_of_getElem? (i := 96) rfl)) (hw _ (List.mem_of_getElem? (i := 4) rfl)) (hw _ (List.mem_of_getElem? (i := 97) rfl)) (by decide) pd__Lcom_example_tapflow_tapflow_MotionEvent__V rfl (c_ap0 l Z a0 hw vt pa xv yv kpa ov lt ev lv nb nx ny t kb kx ky lo hi X0 X1 Y0 Y1 hlo hhi hne rest) rfl rfl 0 rfl (by decide) (by decide) (cells' := 8) rfl (slots' := 398) rfl (by decide) (by decide) fun T vV K' N qQ => ?_
  obtain ⟨p0, ta0, xa0, ya0, kt0, kxa0, kya0, p1, ta1, xa1, ya1, kt1, kxa1, kya1, rfl, rfl⟩ := qQ
  refine k_goto (pc := 81) N d10_81 (pc' := 84) (by decide) ?_
  refine k_aload_n (pc := 84) N d10_84 rfl rfl ?_
  refine k_aload_n (pc := 85) N d10_85 rfl rfl ?_
  replace N := ONow.sel (F := [oVt Z vt (.ref pa) (.ref xv) (.ref yv) (.long lt), oArr Z pa kpa (.object "com/example/tapflow/tapflow/VelocityTracker$Positions") (vA 32 (upd (upd zn lo (.ref p0)) hi (.ref p1))), oMe Z ev (.ref lv) (.int (-1 : Int32)) (.long t) (.ref nb) (.ref nx) (.ref ny) (.int (2 : Int32)) (.double (0 : UInt64)) (.double (0 : UInt64)) (.int (0 : Int32)), oArr Z nb kb .int [.int (nd lo), .int (nd hi)], oArr Z nx kx .double [.double (FP.i2d X0), .double (FP.i2d X1)], oArr Z ny ky .double [.double (FP.i2d Y0), .double (FP.i2d Y1)], oPo Z p0 (.ref ta0) (.ref xa0) (.ref ya0) (.int (1 : Int32)) (.int (1 : Int32)) (.double (0 : UInt64)) (.double (0 : UInt64)), oArr Z ta0 kt0 .long (lA 64 (upd zl 0 t)), oArr Z xa0 kxa0 .double (dA 64 (upd zd 0 (FP.i2d X0))), oArr Z ya0 kya0 .double (dA 64 (upd zd 0 (FP.i2d Y0))), oPo Z p1 (.ref ta1) (.ref xa1) (.ref ya1) (.int (1 : Int32)) (.int (1 : Int32)) (.double (0 : UInt64)) (.double (0 : UInt64)), oArr Z ta1 kt1 .long (lA 64 (upd zl 0 t)), oArr Z xa1 kxa1 .double (dA 64 (upd zd 0 (FP.i2d X1))), oArr Z ya1 kya1 .double (dA 64 (upd zd 0 (FP.i2d Y1)))]) (F' := [oMe Z ev (.ref lv) (.int (-1 : Int32)) (.long t) (.ref nb) (.ref nx) (.ref ny) (.int (2 : Int32)) (.double (0 : UInt64)) (.double (0 : UInt64)) (.int (0 : Int32)), oArr Z nb kb .int [.int (nd lo), .int (nd hi)], oArr Z nx kx .double [.double (FP.i2d X0), .double (FP.i2d X1)], oArr Z ny ky .double [.double (FP.i2d Y0), .double (FP.i2d Y1)], oVt Z vt (.ref pa) (.ref xv) (.ref yv) (.long lt), oArr Z pa kpa (.object "com/example/tapflow/tapflow/VelocityTracker$Positions") (vA 32 (upd (upd zn lo (.ref p0)) hi (.ref p1))), oPo Z p0 (.ref ta0) (.ref xa0) (.ref ya0) (.int (1 : Int32)) (.int (1 : Int32)) (.double (0 : UInt64)) (.double (0 : UInt64)), oArr Z ta0 kt0 .long (lA 64 (upd zl 0 t)), oArr Z xa0 kxa0 .double (dA 64 (upd zd 0 (FP.i2d X0))), oArr Z ya0 kya0 .double (dA 64 (upd zd 0 (FP.i2d Y0))), oPo Z p1 (.ref ta1) (.ref xa1) (.ref ya1) (.int (1 : Int32)) (.int (1 : Int32)) (.double (0 : UInt64)) (.double (0 : UInt64)), oArr Z ta1 kt1 .long (lA 64 (upd zl 0 t)), oArr Z xa1 kxa1 .double (dA 64 (upd zd 0 (FP.i2d X1))), oArr Z ya1 kya1 .double (dA 64 (upd zd 0 (FP.i2d Y1)))]) (rest := rest) N [2, 3, 4, 5, 0, 1, 6, 7, 8, 9, 10, 11, 12, 13] (by decide) rfl
  refine k_virtual (pc := 86) N (y := (⟨"com/example/tapflow/tapflow/MotionEvent", "getEventTimeNanos", "()J"⟩ : MethodName)) (z := (⟨"com/example/tapflow/tapflow/MotionEvent", "getEventTimeNanos", "()J"⟩ : MethodName)) (rest := [.ref vt]) [] (a := ev) d10_86 (fun h N => N.exa (i := 0) rfl) (hw _ (List.mem_of_getElem? (i := 98) rfl)) (hw _ (List.mem_of_getElem? (i := 99) rfl)) (nf_self (hw _ (List.mem_of_getElem? (i := 101) rfl))) (hw _ (List.mem_of_getElem? (i := 101) rfl)) (hw _ (List.mem_of_getElem? (i := 100) rfl)) (hw _ (List.mem_of_getElem? (i := 21) rfl)) (hw _ (List.mem_of_getElem? (i := 102) rfl)) (by decide) pd___J rfl (c_gt l Z a0 hw ev lv nb nx ny t kb kx ky lo hi X0 X1 Y0 Y1 ((oVt Z vt (.ref pa) (.ref xv) (.ref yv) (.long lt)) :: (oArr Z pa kpa (.object "com/example/tapflow/tapflow/VelocityTracker$Positions") (vA 32 (upd (upd zn lo (.ref p0)) hi (.ref p1)))) :: (oPo Z p0 (.ref ta0) (.ref xa0) (.ref ya0) (.int (1 : Int32)) (.int (1 : Int32)) (.double (0 : UInt64)) (.double (0 : UInt64))) :: (oArr Z ta0 kt0 .long (lA 64 (upd zl 0 t))) :: (oArr Z xa0 kxa0 .double (dA 64 (upd zd 0 (FP.i2d X0)))) :: (oArr Z ya0 kya0 .double (dA 64 (upd zd 0 (FP.i2d Y0)))) :: (oPo Z p1 (.ref ta1) (.ref xa1) (.ref ya1) (.int (1 : Int32)) (.int (1 : Int32)) (.double (0 : UInt64)) (.double (0 : UInt64))) :: (oArr Z ta1 kt1 .long (lA 64 (upd zl 0 t))) :: (oArr Z xa1 kxa1 .double (dA 64 (upd zd 0 (FP.i2d X1)))) :: (oArr Z ya1 kya1 .double (dA 64 (upd zd 0 (FP.i2d Y1)))) :: rest)) rfl rfl 1 rfl (by decide) (by decide) (cells' := 8) rfl (slots' := 398) rfl (by decide) (by decide) fun T vV K' N qQ => ?_
  obtain ⟨rfl, rfl⟩ := qQ
  refine k_put (pc := 89) (host := "") N 4 3 d10_89 (Or.inl (hw _ (List.mem_of_getElem? (i := 167) rfl))) Via.refl rfl rfl (Or.inl (hw _ (List.mem_of_getElem? (i := 168) rfl))) (hw _ (List.mem_of_getElem? (i := 3) rfl)) (ty := .long) (by decide) rfl rfl (K' := ((oMe Z ev (.ref lv) (.int (-1 : Int32)) (.long t) (.ref nb) (.ref nx) (.ref ny) (.int (2 : Int32)) (.double (0 : UInt64)) (.double (0 : UInt64)) (.int (0 : Int32))) :: (oArr Z nb kb .int [.int (nd lo), .int (nd hi)]) :: (oArr Z nx kx .double [.double (FP.i2d X0), .double (FP.i2d X1)]) :: (oArr Z ny ky .double [.double (FP.i2d Y0), .double (FP.i2d Y1)]) :: (oVt Z vt (.ref pa) (.ref xv) (.ref yv) (.long t)) :: (oArr Z pa kpa (.object "com/example/tapflow/tapflow/VelocityTracker$Positions") (vA 32 (upd (upd zn lo (.ref p0)) hi (.ref p1)))) :: (oPo Z p0 (.ref ta0) (.ref xa0) (.ref ya0) (.int (1 : Int32)) (.int (1 : Int32)) (.double (0 : UInt64)) (.double (0 : UInt64))) :: (oArr Z ta0 kt0 .long (lA 64 (upd zl 0 t))) :: (oArr Z xa0 kxa0 .double (dA 64 (upd zd 0 (FP.i2d X0)))) :: (oArr Z ya0 kya0 .double (dA 64 (upd zd 0 (FP.i2d Y0)))) :: (oPo Z p1 (.ref ta1) (.ref xa1) (.ref ya1) (.int (1 : Int32)) (.int (1 : Int32)) (.double (0 : UInt64)) (.double (0 : UInt64))) :: (oArr Z ta1 kt1 .long (lA 64 (upd zl 0 t))) :: (oArr Z xa1 kxa1 .double (dA 64 (upd zd 0 (FP.i2d X1)))) :: (oArr Z ya1 kya1 .double (dA 64 (upd zd 0 (FP.i2d Y1)))) :: rest)) rfl fun T N => ?_
  replace N := ONow.sel (F := [oMe Z ev (.ref lv) (.int (-1 : Int32)) (.long t) (.ref nb) (.ref nx) (.ref ny) (.int (2 : Int32)) (.double (0 : UInt64)) (.double (0 : UInt64)) (.int (0 : Int32)), oArr Z nb kb .int [.int (nd lo), .int (nd hi)], oArr Z nx kx .double [.double (FP.i2d X0), .double (FP.i2d X1)], oArr Z ny ky .double [.double (FP.i2d Y0), .double (FP.i2d Y1)], oVt Z vt (.ref pa) (.ref xv) (.ref yv) (.long t), oArr Z pa kpa (.object "com/example/tapflow/tapflow/VelocityTracker$Positions") (vA 32 (upd (upd zn lo (.ref p0)) hi (.ref p1))), oPo Z p0 (.ref ta0) (.ref xa0) (.ref ya0) (.int (1 : Int32)) (.int (1 : Int32)) (.double (0 : UInt64)) (.double (0 : UInt64)), oArr Z ta0 kt0 .long (lA 64 (upd zl 0 t)), oArr Z xa0 kxa0 .double (dA 64 (upd zd 0 (FP.i2d X0))), oArr Z ya0 kya0 .double (dA 64 (upd zd 0 (FP.i2d Y0))), oPo Z p1 (.ref ta1) (.ref xa1) (.ref ya1) (.int (1 : Int32)) (.int (1 : Int32)) (.double (0 : UInt64)) (.double (0 : UInt64)), oArr Z ta1 kt1 .long (lA 64 (upd zl 0 t)), oArr Z xa1 kxa1 .double (dA 64 (upd zd 0 (FP.i2d X1))), oArr Z ya1 kya1 .double (dA 64 (upd zd 0 (FP.i2d Y1)))]) (F' := [oVt Z vt (.ref pa) (.ref xv) (.ref yv) (.long t), oArr Z pa kpa (.object "com/example/tapflow/tapflow/VelocityTracker$Positions") (vA 32 (upd (upd zn lo (.ref p0)) hi (.ref p1))), oMe Z ev (.ref lv) (.int (-1 : Int32)) (.long t) (.ref nb) (.ref nx) (.ref ny) (.int (2 : Int32)) (.double (0 : UInt64)) (.double (0 : UInt64)) (.int (0 : Int32)), oArr Z nb kb .int [.int (nd lo), .int (nd hi)], oArr Z nx kx .double [.double (FP.i2d X0), .double (FP.i2d X1)], oArr Z ny ky .double [.double (FP.i2d Y0), .double (FP.i2d Y1)], oPo Z p0 (.ref ta0) (.ref xa0) (.ref ya0) (.int (1 : Int32)) (.int (1 : Int32)) (.double (0 : UInt64)) (.double (0 : UInt64)), oArr Z ta0 kt0 .long (lA 64 (upd zl 0 t)), oArr Z xa0 kxa0 .double (dA 64 (upd zd 0 (FP.i2d X0))), oArr Z ya0 kya0 .double (dA 64 (upd zd 0 (FP.i2d Y0))), oPo Z p1 (.ref ta1) (.ref xa1) (.ref ya1) (.int (1 : Int32)) (.int (1 : Int32)) (.double (0 : UInt64)) (.double (0 : UInt64)), oArr Z ta1 kt1 .long (lA 64 (upd zl 0 t)), oArr Z xa1 kxa1 .double (dA 64 (upd zd 0 (FP.i2d X1))), oArr Z ya1 kya1 .double (dA 64 (upd zd 0 (FP.i2d Y1)))]) (rest := rest) N [4, 5, 0, 1, 2, 3, 6, 7, 8, 9, 10, 11, 12, 13] (by decide) rfl
  exact k_return (pc := 92) N d10_92 rfl (by decide) (by decide) ⟨p0, ta0, xa0, ya0, kt0, kxa0, kya0, p1, ta1, xa1, ya1, kt1, kxa1, kya1, rfl, rfl⟩
set_option maxRecDepth 65536 in
theorem ef_c_am1 (m : MethodId) (z0 : Addr) (z1 : Addr) : entryFrame m ([.ref z0, .ref z1] : List Value).toArray 2 = mkF m 0 #[.val (.ref z0), .val (.ref z1)] [] := by first | (simp [entryFrame, mkF, argsToLocals, Value.category]; done) | rfl
def rm_c_am1 : Room := { frames := 3, cells := 0, slots := 0, locals := 49 }
set_option maxRecDepth 65536 in
set_option maxHeartbeats 40000000 in
theorem c_am1 (l : Launch) (Z : State) (a0 : Array Value) (hw : ∀ d ∈ tables_1, d.before a0 Z = true) (vt pa xv yv : Addr) (kpa : ClassId) (ov : Ovr Z kpa "com/example/tapflow/tapflow/VelocityTracker$Positions") (lt : Int64) (P : Nat → Value) (ev lv nb nx ny : Addr) (t : Int64) (kb kx ky : ClassId) (lo hi : Nat) (X0 X1 Y0 Y1 : Int32) (p0 ta0 xa0 ya0 : Addr) (kt0 kxa0 kya0 : ClassId) (ft0 : Nat → Int64) (fx0 fy0 : Nat → UInt64) (sx0 sy0 : UInt64) (p1 ta1 xa1 ya1 : Addr) (kt1 kxa1 kya1 : ClassId) (ft1 : Nat → Int64) (fx1 fy1 : Nat → UInt64) (sx1 sy1 : UInt64) (hlo : lo < 32) (hhi : hi < 32) (hne : hi ≠ lo) (hP0 : P lo = .ref p0) (hP1 : P hi = .ref p1) (rest : List Ent) :
    OMeets l (⟨"com/example/tapflow/tapflow/VelocityTracker", "addMovement", "(Lcom/example/tapflow/tapflow/MotionEvent;)V"⟩ : MethodName) prog_15_method_2_code 2 none rm_c_am1 Z [.ref vt, .ref ev] ((oVt Z vt (.ref pa) (.ref xv) (.ref yv) (.long lt)) :: (oArr Z pa kpa (.object "com/example/tapflow/tapflow/VelocityTracker$Positions") (vA 32 P)) :: (oMe Z ev (.ref lv) (.int (-1 : Int32)) (.long t) (.ref nb) (.ref nx) (.ref ny) (.int (2 : Int32)) (.double (0 : UInt64)) (.double (0 : UInt64)) (.int (0 : Int32))) :: (oArr Z nb kb .int [.int (nd lo), .int (nd hi)]) :: (oArr Z nx kx .double [.double (FP.i2d X0), .double (FP.i2d X1)]) :: (oArr Z ny ky .double [.double (FP.i2d Y0), .double (FP.i2d Y1)]) :: (oPo Z p0 (.ref ta0) (.ref xa0) (.ref ya0) (.int (1 : Int32)) (.int (1 : Int32)) (.double sx0) (.double sy0)) :: (oArr Z ta0 kt0 .long (lA 64 ft0)) :: (oArr Z xa0 kxa0 .double (dA 64 fx0)) :: (oArr Z ya0 kya0 .double (dA 64 fy0)) :: (oPo Z p1 (.ref ta1) (.ref xa1) (.ref ya1) (.int (1 : Int32)) (.int (1 : Int32)) (.double sx1) (.double sy1)) :: (oArr Z ta1 kt1 .long (lA 64 ft1)) :: (oArr Z xa1 kxa1 .double (dA 64 fx1)) :: (oArr Z ya1 kya1 .double (dA 64 fy1)) :: rest) (fun v K => v = none ∧ K = (oVt Z vt (.ref pa) (.ref xv) (.ref yv) (.long t)) :: (oArr Z pa kpa (.object "com/example/tapflow/tapflow/VelocityTracker$Positions") (vA 32 P)) :: (oMe Z ev (.ref lv) (.int (-1 : Int32)) (.long t) (.ref nb) (.ref nx) (.ref ny) (.int (2 : Int32)) (.double (0 : UInt64)) (.double (0 : UInt64)) (.int (0 : Int32))) :: (oArr Z nb kb .int [.int (nd lo), .int (nd hi)]) :: (oArr Z nx kx .double [.double (FP.i2d X0), .double (FP.i2d X1)]) :: (oArr Z ny ky .double [.double (FP.i2d Y0), .double (FP.i2d Y1)]) :: (oPo Z p0 (.ref ta0) (.ref xa0) (.ref ya0) (.int (2 : Int32)) (.int (2 : Int32)) (.double sx0) (.double sy0)) :: (oArr Z ta0 kt0 .long (lA 64 (upd ft0 1 t))) :: (oArr Z xa0 kxa0 .double (dA 64 (upd fx0 1 (FP.i2d X0)))) :: (oArr Z ya0 kya0 .double (dA 64 (upd fy0 1 (FP.i2d Y0)))) :: (oPo Z p1 (.ref ta1) (.ref xa1) (.ref ya1) (.int (2 : Int32)) (.int (2 : Int32)) (.double sx1) (.double sy1)) :: (oArr Z ta1 kt1 .long (lA 64 (upd ft1 1 t))) :: (oArr Z xa1 kxa1 .double (dA 64 (upd fx1 1 (FP.i2d X1)))) :: (oArr Z ya1 kya1 .double (dA 64 (upd fy1 1 (FP.i2d Y1)))) :: rest) := by
  refine OMeets.of_body (plainFor_of_name pn_com_example_tapflow_tapflow_VelocityTracker) #[.val (.ref vt), .val (.ref ev)] (fun m => ef_c_am1 m vt ev) fun pP eE sS mM bB hH cC T N => ?_
  refine k_aload_n (pc := 0) N d10_0 rfl rfl ?_
  replace N := ONow.sel (F := [oVt Z vt (.ref pa) (.ref xv) (.ref yv) (.long lt), oArr Z pa kpa (.object "com/example/tapflow/tapflow/VelocityTracker$Positions") (vA 32 P), oMe Z ev (.ref lv) (.int (-1 : Int32)) (.long t) (.ref nb) (.ref nx) (.ref ny) (.int (2 : Int32)) (.double (0 : UInt64)) (.double (0 : UInt64)) (.int (0 : Int32)), oArr Z nb kb .int [.int (nd lo), .int (nd hi)], oArr Z nx kx .double [.double (FP.i2d X0), .double (FP.i2d X1)], oArr Z ny ky .double [.double (FP.i2d Y0), .double (FP.i2d Y1)], oPo Z p0 (.ref ta0) (.ref xa0) (.ref ya0) (.int (1 : Int32)) (.int (1 : Int32)) (.double sx0) (.double sy0), oArr Z ta0 kt0 .long (lA 64 ft0), oArr Z xa0 kxa0 .double (dA 64 fx0), oArr Z ya0 kya0 .double (dA 64 fy0), oPo Z p1 (.ref ta1) (.ref xa1) (.ref ya1) (.int (1 : Int32)) (.int (1 : Int32)) (.double sx1) (.double sy1), oArr Z ta1 kt1 .long (lA 64 ft1), oArr Z xa1 kxa1 .double (dA 64 fx1), oArr Z ya1 kya1 .double (dA 64 fy1)]) (F' := [oMe Z ev (.ref lv) (.int (-1 : Int32)) (.long t) (.ref nb) (.ref nx) (.ref ny) (.int (2 : Int32)) (.double (0 : UInt64)) (.double (0 : UInt64)) (.int (0 : Int32)), oArr Z nb kb .int [.int (nd lo), .int (nd hi)], oArr Z nx kx .double [.double (FP.i2d X0), .double (FP.i2d X1)], oArr Z ny ky .double [.double (FP.i2d Y0), .double (FP.i2d Y1)], oVt Z vt (.ref pa) (.ref xv) (.ref yv) (.long lt), oArr Z pa kpa (.object "com/example/tapflow/tapflow/VelocityTracker$Positions") (vA 32 P), oPo Z p0 (.ref ta0) (.ref xa0) (.ref ya0) (.int (1 : Int32)) (.int (1 : Int32)) (.double sx0) (.double sy0), oArr Z ta0 kt0 .long (lA 64 ft0), oArr Z xa0 kxa0 .double (dA 64 fx0), oArr Z ya0 kya0 .double (dA 64 fy0), oPo Z p1 (.ref ta1) (.ref xa1) (.ref ya1) (.int (1 : Int32)) (.int (1 : Int32)) (.double sx1) (.double sy1), oArr Z ta1 kt1 .long (lA 64 ft1), oArr Z xa1 kxa1 .double (dA 64 fx1), oArr Z ya1 kya1 .double (dA 64 fy1)]) (rest := rest) N [2, 3, 4, 5, 0, 1, 6, 7, 8, 9, 10, 11, 12, 13] (by decide) rfl
  refine k_virtual (pc := 1) N (y := (⟨"com/example/tapflow/tapflow/MotionEvent", "getActionMasked", "()I"⟩ : MethodName)) (z := (⟨"com/example/tapflow/tapflow/MotionEvent", "getActionMasked", "()I"⟩ : MethodName)) (rest := []) [] (a := ev) d10_1 (fun h N => N.exa (i := 0) rfl) (hw _ (List.mem_of_getElem? (i := 89) rfl)) (hw _ (List.mem_of_getElem? (i := 90) rfl)) (nf_self (hw _ (List.mem_of_getElem? (i := 92) rfl))) (hw _ (List.mem_of_getElem? (i := 92) rfl)) (hw _ (List.mem_of_getElem? (i := 91) rfl)) (hw _ (List.mem_of_getElem? (i := 21) rfl)) (hw _ (List.mem_of_getElem? (i := 93) rfl)) (by decide) pd___I rfl (c_gam l Z a0 hw ev lv nb nx ny t kb kx ky lo hi X0 X1 Y0 Y1 ((oVt Z vt (.ref pa) (.ref xv) (.ref yv) (.long lt)) :: (oArr Z pa kpa (.object "com/example/tapflow/tapflow/VelocityTracker$Positions") (vA 32 P)) :: (oPo Z p0 (.ref ta0) (.ref xa0) (.ref ya0) (.int (1 : Int32)) (.int (1 : Int32)) (.double sx0) (.double sy0)) :: (oArr Z ta0 kt0 .long (lA 64 ft0)) :: (oArr Z xa0 kxa0 .double (dA 64 fx0)) :: (oArr Z ya0 kya0 .double (dA 64 fy0)) :: (oPo Z p1 (.ref ta1) (.ref xa1) (.ref ya1) (.int (1 : Int32)) (.int (1 : Int32)) (.double sx1) (.double sy1)) :: (oArr Z ta1 kt1 .long (lA 64 ft1)) :: (oArr Z xa1 kxa1 .double (dA 64 fx1)) :: (oArr Z ya1 kya1 .double (dA 64 fy1)) :: rest)) rfl rfl 0 rfl (by decide) (by decide) (cells' := 0) rfl (slots' := 0) rfl (by decide) (by decide) fun T vV K' N qQ => ?_
  obtain ⟨rfl, rfl⟩ := qQ
  refine k_lsw (pc := 4) N (a := 2) (off := 72) d10_4 (by decide) (by decide) (by decide) (pc' := 76) (by decide) ?_
  refine k_aload_n (pc := 76) N d10_76 rfl rfl ?_
  refine k_aload_n (pc := 77) N d10_77 rfl rfl ?_
  replace N := ONow.sel (F := [oMe Z ev (.ref lv) (.int (-1 : Int32)) (.long t) (.ref nb) (.ref nx) (.ref ny) (.int (2 : Int32)) (.double (0 : UInt64)) (.double (0 : UInt64)) (.int (0 : Int32)), oArr Z nb kb .int [.int (nd lo), .int (nd hi)], oArr Z nx kx .double [.double (FP.i2d X0), .double (FP.i2d X1)], oArr Z ny ky .double [.double (FP.i2d Y0), .double (FP.i2d Y1)], oVt Z vt (.ref pa) (.ref xv) (.ref yv) (.long lt), oArr Z pa kpa (.object "com/example/tapflow/tapflow/VelocityTracker$Positions") (vA 32 P), oPo Z p0 (.ref ta0) (.ref xa0) (.ref ya0) (.int (1 : Int32)) (.int (1 : Int32)) (.double sx0) (.double sy0), oArr Z ta0 kt0 .long (lA 64 ft0), oArr Z xa0 kxa0 .double (dA 64 fx0), oArr Z ya0 kya0 .double (dA 64 fy0), oPo Z p1 (.ref ta1) (.ref xa1) (.ref ya1) (.int (1 : Int32)) (.int (1 : Int32)) (.double sx1) (.double sy1), oArr Z ta1 kt1 .long (lA 64 ft1), oArr Z xa1 kxa1 .double (dA 64 fx1), oArr Z ya1 kya1 .double (dA 64 fy1)]) (F' := [oVt Z vt (.ref pa) (.ref xv) (.ref yv) (.long lt), oArr Z pa kpa (.object "com/example/tapflow/tapflow/VelocityTracker$Positions") (vA 32 P), oMe Z ev (.ref lv) (.int (-1 : Int32)) (.long t) (.ref nb) (.ref nx) (.ref ny) (.int (2 : Int32)) (.double (0 : UInt64)) (.double (0 : UInt64)) (.int (0 : Int32)), oArr Z nb kb .int [.int (nd lo), .int (nd hi)], oArr Z nx kx .double [.double (FP.i2d X0), .double (FP.i2d X1)], oArr Z ny ky .double [.double (FP.i2d Y0), .double (FP.i2d Y1)], oPo Z p0 (.ref ta0) (.ref xa0) (.ref ya0) (.int (1 : Int32)) (.int (1 : Int32)) (.double sx0) (.double sy0), oArr Z ta0 kt0 .long (lA 64 ft0), oArr Z xa0 kxa0 .double (dA 64 fx0), oArr Z ya0 kya0 .double (dA 64 fy0), oPo Z p1 (.ref ta1) (.ref xa1) (.ref ya1) (.int (1 : Int32)) (.int (1 : Int32)) (.double sx1) (.double sy1), oArr Z ta1 kt1 .long (lA 64 ft1), oArr Z xa1 kxa1 .double (dA 64 fx1), oArr Z ya1 kya1 .double (dA 64 fy1)]) (rest := rest) N [4, 5, 0, 1, 2, 3, 6, 7, 8, 9, 10, 11, 12, 13] (by decide) rfl
  refine k_private (pc := 78) N (y := (⟨"com/example/tapflow/tapflow/VelocityTracker", "addPositions", "(Lcom/example/tapflow/tapflow/MotionEvent;)V"⟩ : MethodName)) (rest := []) [.ref ev] (a := vt) 0 d10_78 rfl (hw _ (List.mem_of_getElem? (i := 3) rfl)) (hw _ (List.mem_of_getElem? (i := 94) rfl)) (hw _ (List.mem_of_getElem? (i := 95) rfl)) (hw _ (List.mem_of_getElem? (i := 96) rfl)) (hw _ (List.mem_of_getElem? (i := 4) rfl)) (hw _ (List.mem_of_getElem? (i := 97) rfl)) (by decide) pd__Lcom_example_tapflow_tapflow_MotionEvent__V rfl (c_ap1 l Z a0 hw vt pa xv yv kpa ov lt P ev lv nb nx ny t kb kx ky lo hi X0 X1 Y0 Y1 p0 ta0 xa0 ya0 kt0 kxa0 kya0 ft0 fx0 fy0 sx0 sy0 p1 ta1 xa1 ya1 kt1 kxa1 kya1 ft1 fx1 fy1 sx1 sy1 hlo hhi hne hP0 hP1 rest) rfl rfl 0 rfl (by decide) (by decide) (cells' := 0) rfl (slots' := 0) rfl (by decide) (by decide) fun T vV K' N qQ => ?_
  obtain ⟨rfl, rfl⟩ := qQ
  refine k_goto (pc := 81) N d10_81 (pc' := 84) (by decide) ?_
  refine k_aload_n (pc := 84) N d10_84 rfl rfl ?_
  refine k_aload_n (pc := 85) N d10_85 rfl rfl ?_
  replace N := ONow.sel (F := [oVt Z vt (.ref pa) (.ref xv) (.ref yv) (.long lt), oArr Z pa kpa (.object "com/example/tapflow/tapflow/VelocityTracker$Positions") (vA 32 P), oMe Z ev (.ref lv) (.int (-1 : Int32)) (.long t) (.ref nb) (.ref nx) (.ref ny) (.int (2 : Int32)) (.double (0 : UInt64)) (.double (0 : UInt64)) (.int (0 : Int32)), oArr Z nb kb .int [.int (nd lo), .int (nd hi)], oArr Z nx kx .double [.double (FP.i2d X0), .double (FP.i2d X1)], oArr Z ny ky .double [.double (FP.i2d Y0), .double (FP.i2d Y1)], oPo Z p0 (.ref ta0) (.ref xa0) (.ref ya0) (.int (2 : Int32)) (.int (2 : Int32)) (.double sx0) (.double sy0), oArr Z ta0 kt0 .long (lA 64 (upd ft0 1 t)), oArr Z xa0 kxa0 .double (dA 64 (upd fx0 1 (FP.i2d X0))), oArr Z ya0 kya0 .double (dA 64 (upd fy0 1 (FP.i2d Y0))), oPo Z p1 (.ref ta1) (.ref xa1) (.ref ya1) (.int (2 : Int32)) (.int (2 : Int32)) (.double sx1) (.double sy1), oArr Z ta1 kt1 .long (lA 64 (upd ft1 1 t)), oArr Z xa1 kxa1 .double (dA 64 (upd fx1 1 (FP.i2d X1))), oArr Z ya1 kya1 .double (dA 64 (upd fy1 1 (FP.i2d Y1)))]) (F' := [oMe Z ev (.ref lv) (.int (-1 : Int32)) (.long t) (.ref nb) (.ref nx) (.ref ny) (.int (2 : Int32)) (.double (0 : UInt64)) (.double (0 : UInt64)) (.int (0 : Int32)), oArr Z nb kb .int [.int (nd lo), .int (nd hi)], oArr Z nx kx .double [.double (FP.i2d X0), .double (FP.i2d X1)], oArr Z ny ky .double [.double (FP.i2d Y0), .double (FP.i2d Y1)], oVt Z vt (.ref pa) (.ref xv) (.ref yv) (.long lt), oArr Z pa kpa (.object "com/example/tapflow/tapflow/VelocityTracker$Positions") (vA 32 P), oPo Z p0 (.ref ta0) (.ref xa0) (.ref ya0) (.int (2 : Int32)) (.int (2 : Int32)) (.double sx0) (.double sy0), oArr Z ta0 kt0 .long (lA 64 (upd ft0 1 t)), oArr Z xa0 kxa0 .double (dA 64 (upd fx0 1 (FP.i2d X0))), oArr Z ya0 kya0 .double (dA 64 (upd fy0 1 (FP.i2d Y0))), oPo Z p1 (.ref ta1) (.ref xa1) (.ref ya1) (.int (2 : Int32)) (.int (2 : Int32)) (.double sx1) (.double sy1), oArr Z ta1 kt1 .long (lA 64 (upd ft1 1 t)), oArr Z xa1 kxa1 .double (dA 64 (upd fx1 1 (FP.i2d X1))), oArr Z ya1 kya1 .double (dA 64 (upd fy1 1 (FP.i2d Y1)))]) (rest := rest) N [2, 3, 4, 5, 0, 1, 6, 7, 8, 9, 10, 11, 12, 13] (by decide) rfl
  refine k_virtual (pc := 86) N (y := (⟨"com/example/tapflow/tapflow/MotionEvent", "getEventTimeNanos", "()J"⟩ : MethodName)) (z := (⟨"com/example/tapflow/tapflow/MotionEvent", "getEventTimeNanos", "()J"⟩ : MethodName)) (rest := [.ref vt]) [] (a := ev) d10_86 (fun h N => N.exa (i := 0) rfl) (hw _ (List.mem_of_getElem? (i := 98) rfl)) (hw _ (List.mem_of_getElem? (i := 99) rfl)) (nf_self (hw _ (List.mem_of_getElem? (i := 101) rfl))) (hw _ (List.mem_of_getElem? (i := 101) rfl)) (hw _ (List.mem_of_getElem? (i := 100) rfl)) (hw _ (List.mem_of_getElem? (i := 21) rfl)) (hw _ (List.mem_of_getElem? (i := 102) rfl)) (by decide) pd___J rfl (c_gt l Z a0 hw ev lv nb nx ny t kb kx ky lo hi X0 X1 Y0 Y1 ((oVt Z vt (.ref pa) (.ref xv) (.ref yv) (.long lt)) :: (oArr Z pa kpa (.object "com/example/tapflow/tapflow/VelocityTracker$Positions") (vA 32 P)) :: (oPo Z p0 (.ref ta0) (.ref xa0) (.ref ya0) (.int (2 : Int32)) (.int (2 : Int32)) (.double sx0) (.double sy0)) :: (oArr Z ta0 kt0 .long (lA 64 (upd ft0 1 t))) :: (oArr Z xa0 kxa0 .double (dA 64 (upd fx0 1 (FP.i2d X0)))) :: (oArr Z ya0 kya0 .double (dA 64 (upd fy0 1 (FP.i2d Y0)))) :: (oPo Z p1 (.ref ta1) (.ref xa1) (.ref ya1) (.int (2 : Int32)) (.int (2 : Int32)) (.double sx1) (.double sy1)) :: (oArr Z ta1 kt1 .long (lA 64 (upd ft1 1 t))) :: (oArr Z xa1 kxa1 .double (dA 64 (upd fx1 1 (FP.i2d X1)))) :: (oArr Z ya1 kya1 .double (dA 64 (upd fy1 1 (FP.i2d Y1)))) :: rest)) rfl rfl 1 rfl (by decide) (by decide) (cells' := 0) rfl (slots' := 0) rfl (by decide) (by decide) fun T vV K' N qQ => ?_
  obtain ⟨rfl, rfl⟩ := qQ
  refine k_put (pc := 89) (host := "") N 4 3 d10_89 (Or.inl (hw _ (List.mem_of_getElem? (i := 167) rfl))) Via.refl rfl rfl (Or.inl (hw _ (List.mem_of_getElem? (i := 168) rfl))) (hw _ (List.mem_of_getElem? (i := 3) rfl)) (ty := .long) (by decide) rfl rfl (K' := ((oMe Z ev (.ref lv) (.int (-1 : Int32)) (.long t) (.ref nb) (.ref nx) (.ref ny) (.int (2 : Int32)) (.double (0 : UInt64)) (.double (0 : UInt64)) (.int (0 : Int32))) :: (oArr Z nb kb .int [.int (nd lo), .int (nd hi)]) :: (oArr Z nx kx .double [.double (FP.i2d X0), .double (FP.i2d X1)]) :: (oArr Z ny ky .double [.double (FP.i2d Y0), .double (FP.i2d Y1)]) :: (oVt Z vt (.ref pa) (.ref xv) (.ref yv) (.long t)) :: (oArr Z pa kpa (.object "com/example/tapflow/tapflow/VelocityTracker$Positions") (vA 32 P)) :: (oPo Z p0 (.ref ta0) (.ref xa0) (.ref ya0) (.int (2 : Int32)) (.int (2 : Int32)) (.double sx0) (.double sy0)) :: (oArr Z ta0 kt0 .long (lA 64 (upd ft0 1 t))) :: (oArr Z xa0 kxa0 .double (dA 64 (upd fx0 1 (FP.i2d X0)))) :: (oArr Z ya0 kya0 .double (dA 64 (upd fy0 1 (FP.i2d Y0)))) :: (oPo Z p1 (.ref ta1) (.ref xa1) (.ref ya1) (.int (2 : Int32)) (.int (2 : Int32)) (.double sx1) (.double sy1)) :: (oArr Z ta1 kt1 .long (lA 64 (upd ft1 1 t))) :: (oArr Z xa1 kxa1 .double (dA 64 (upd fx1 1 (FP.i2d X1)))) :: (oArr Z ya1 kya1 .double (dA 64 (upd fy1 1 (FP.i2d Y1)))) :: rest)) rfl fun T N => ?_
  replace N := ONow.sel (F := [oMe Z ev (.ref lv) (.int (-1 : Int32)) (.long t) (.ref nb) (.ref nx) (.ref ny) (.int (2 : Int32)) (.double (0 : UInt64)) (.double (0 : UInt64)) (.int (0 : Int32)), oArr Z nb kb .int [.int (nd lo), .int (nd hi)], oArr Z nx kx .double [.double (FP.i2d X0), .double (FP.i2d X1)], oArr Z ny ky .double [.double (FP.i2d Y0), .double (FP.i2d Y1)], oVt Z vt (.ref pa) (.ref xv) (.ref yv) (.long t), oArr Z pa kpa (.object "com/example/tapflow/tapflow/VelocityTracker$Positions") (vA 32 P), oPo Z p0 (.ref ta0) (.ref xa0) (.ref ya0) (.int (2 : Int32)) (.int (2 : Int32)) (.double sx0) (.double sy0), oArr Z ta0 kt0 .long (lA 64 (upd ft0 1 t)), oArr Z xa0 kxa0 .double (dA 64 (upd fx0 1 (FP.i2d X0))), oArr Z ya0 kya0 .double (dA 64 (upd fy0 1 (FP.i2d Y0))), oPo Z p1 (.ref ta1) (.ref xa1) (.ref ya1) (.int (2 : Int32)) (.int (2 : Int32)) (.double sx1) (.double sy1), oArr Z ta1 kt1 .long (lA 64 (upd ft1 1 t)), oArr Z xa1 kxa1 .double (dA 64 (upd fx1 1 (FP.i2d X1))), oArr Z ya1 kya1 .double (dA 64 (upd fy1 1 (FP.i2d Y1)))]) (F' := [oVt Z vt (.ref pa) (.ref xv) (.ref yv) (.long t), oArr Z pa kpa (.object "com/example/tapflow/tapflow/VelocityTracker$Positions") (vA 32 P), oMe Z ev (.ref lv) (.int (-1 : Int32)) (.long t) (.ref nb) (.ref nx) (.ref ny) (.int (2 : Int32)) (.double (0 : UInt64)) (.double (0 : UInt64)) (.int (0 : Int32)), oArr Z nb kb .int [.int (nd lo), .int (nd hi)], oArr Z nx kx .double [.double (FP.i2d X0), .double (FP.i2d X1)], oArr Z ny ky .double [.double (FP.i2d Y0), .double (FP.i2d Y1)], oPo Z p0 (.ref ta0) (.ref xa0) (.ref ya0) (.int (2 : Int32)) (.int (2 : Int32)) (.double sx0) (.double sy0), oArr Z ta0 kt0 .long (lA 64 (upd ft0 1 t)), oArr Z xa0 kxa0 .double (dA 64 (upd fx0 1 (FP.i2d X0))), oArr Z ya0 kya0 .double (dA 64 (upd fy0 1 (FP.i2d Y0))), oPo Z p1 (.ref ta1) (.ref xa1) (.ref ya1) (.int (2 : Int32)) (.int (2 : Int32)) (.double sx1) (.double sy1), oArr Z ta1 kt1 .long (lA 64 (upd ft1 1 t)), oArr Z xa1 kxa1 .double (dA 64 (upd fx1 1 (FP.i2d X1))), oArr Z ya1 kya1 .double (dA 64 (upd fy1 1 (FP.i2d Y1)))]) (rest := rest) N [4, 5, 0, 1, 2, 3, 6, 7, 8, 9, 10, 11, 12, 13] (by decide) rfl
  exact k_return (pc := 92) N d10_92 rfl (by decide) (by decide) ⟨rfl, rfl⟩
set_option maxRecDepth 65536 in
theorem ef_c_am2 (m : MethodId) (z0 : Addr) (z1 : Addr) : entryFrame m ([.ref z0, .ref z1] : List Value).toArray 2 = mkF m 0 #[.val (.ref z0), .val (.ref z1)] [] := by first | (simp [entryFrame, mkF, argsToLocals, Value.category]; done) | rfl
def rm_c_am2 : Room := { frames := 3, cells := 0, slots := 0, locals := 49 }
set_option maxRecDepth 65536 in
set_option maxHeartbeats 40000000 in
theorem c_am2 (l : Launch) (Z : State) (a0 : Array Value) (hw : ∀ d ∈ tables_1, d.before a0 Z = true) (vt pa xv yv : Addr) (kpa : ClassId) (ov : Ovr Z kpa "com/example/tapflow/tapflow/VelocityTracker$Positions") (lt : Int64) (P : Nat → Value) (ev lv nb nx ny : Addr) (t : Int64) (kb kx ky : ClassId) (lo hi : Nat) (X0 X1 Y0 Y1 : Int32) (p0 ta0 xa0 ya0 : Addr) (kt0 kxa0 kya0 : ClassId) (ft0 : Nat → Int64) (fx0 fy0 : Nat → UInt64) (sx0 sy0 : UInt64) (p1 ta1 xa1 ya1 : Addr) (kt1 kxa1 kya1 : ClassId) (ft1 : Nat → Int64) (fx1 fy1 : Nat → UInt64) (sx1 sy1 : UInt64) (hlo : lo < 32) (hhi : hi < 32) (hne : hi ≠ lo) (hP0 : P lo = .ref p0) (hP1 : P hi = .ref p1) (rest : List Ent) :
    OMeets l (⟨"com/example/tapflow/tapflow/VelocityTracker", "addMovement", "(Lcom/example/tapflow/tapflow/MotionEvent;)V"⟩ : MethodName) prog_15_method_2_code 2 none rm_c_am2 Z [.ref vt, .ref ev] ((oVt Z vt (.ref pa) (.ref xv) (.ref yv) (.long lt)) :: (oArr Z pa kpa (.object "com/example/tapflow/tapflow/VelocityTracker$Positions") (vA 32 P)) :: (oMe Z ev (.ref lv) (.int (-1 : Int32)) (.long t) (.ref nb) (.ref nx) (.ref ny) (.int (2 : Int32)) (.double (0 : UInt64)) (.double (0 : UInt64)) (.int (0 : Int32))) :: (oArr Z nb kb .int [.int (nd lo), .int (nd hi)]) :: (oArr Z nx kx .double [.double (FP.i2d X0), .double (FP.i2d X1)]) :: (oArr Z ny ky .double [.double (FP.i2d Y0), .double (FP.i2d Y1)]) :: (oPo Z p0 (.ref ta0) (.ref xa0) (.ref ya0) (.int (0 : Int32)) (.int (2 : Int32)) (.double sx0) (.double sy0)) :: (oArr Z ta0 kt0 .long (lA 64 ft0)) :: (oArr Z xa0 kxa0 .double (dA 64 fx0)) :: (oArr Z ya0 kya0 .double (dA 64 fy0)) :: (oPo Z p1 (.ref ta1) (.ref xa1) (.ref ya1) (.int (0 : Int32)) (.int (2 : Int32)) (.double sx1) (.double sy1)) :: (oArr Z ta1 kt1 .long (lA 64 ft1)) :: (oArr Z xa1 kxa1 .double (dA 64 fx1)) :: (oArr Z ya1 kya1 .double (dA 64 fy1)) :: rest) (fun v K => v = none ∧ K = (oVt Z vt (.ref pa) (.ref xv) (.ref yv) (.long t)) :: (oArr Z pa kpa (.object "com/example/tapflow/tapflow/VelocityTracker$Positions") (vA 32 P)) :: (oMe Z ev (.ref lv) (.int (-1 : Int32)) (.long t) (.ref nb) (.ref nx) (.ref ny) (.int (2 : Int32)) (.double (0 : UInt64)) (.double (0 : UInt64)) (.int (0 : Int32))) :: (oArr Z nb kb .int [.int (nd lo), .int (nd hi)]) :: (oArr Z nx kx .double [.double (FP.i2d X0), .double (FP.i2d X1)]) :: (oArr Z ny ky .double [.double (FP.i2d Y0), .double (FP.i2d Y1)]) :: (oPo Z p0 (.ref ta0) (.ref xa0) (.ref ya0) (.int (1 : Int32)) (.int (3 : Int32)) (.double sx0) (.double sy0)) :: (oArr Z ta0 kt0 .long (lA 64 (upd ft0 2 t))) :: (oArr Z xa0 kxa0 .double (dA 64 (upd fx0 2 (FP.i2d X0)))) :: (oArr Z ya0 kya0 .double (dA 64 (upd fy0 2 (FP.i2d Y0)))) :: (oPo Z p1 (.ref ta1) (.ref xa1) (.ref ya1) (.int (1 : Int32)) (.int (3 : Int32)) (.double sx1) (.double sy1)) :: (oArr Z ta1 kt1 .long (lA 64 (upd ft1 2 t))) :: (oArr Z xa1 kxa1 .double (dA 64 (upd fx1 2 (FP.i2d X1)))) :: (oArr Z ya1 kya1 .double (dA 64 (upd fy1 2 (FP.i2d Y1)))) :: rest) := by
  refine OMeets.of_body (plainFor_of_name pn_com_example_tapflow_tapflow_VelocityTracker) #[.val (.ref vt), .val (.ref ev)] (fun m => ef_c_am2 m vt ev) fun pP eE sS mM bB hH cC T N => ?_
  refine k_aload_n (pc := 0) N d10_0 rfl rfl ?_
  replace N := ONow.sel (F := [oVt Z vt (.ref pa) (.ref xv) (.ref yv) (.long lt), oArr Z pa kpa (.object "com/example/tapflow/tapflow/VelocityTracker$Positions") (vA 32 P), oMe Z ev (.ref lv) (.int (-1 : Int32)) (.long t) (.ref nb) (.ref nx) (.ref ny) (.int (2 : Int32)) (.double (0 : UInt64)) (.double (0 : UInt64)) (.int (0 : Int32)), oArr Z nb kb .int [.int (nd lo), .int (nd hi)], oArr Z nx kx .double [.double (FP.i2d X0), .double (FP.i2d X1)], oArr Z ny ky .double [.double (FP.i2d Y0), .double (FP.i2d Y1)], oPo Z p0 (.ref ta0) (.ref xa0) (.ref ya0) (.int (0 : Int32)) (.int (2 : Int32)) (.double sx0) (.double sy0), oArr Z ta0 kt0 .long (lA 64 ft0), oArr Z xa0 kxa0 .double (dA 64 fx0), oArr Z ya0 kya0 .double (dA 64 fy0), oPo Z p1 (.ref ta1) (.ref xa1) (.ref ya1) (.int (0 : Int32)) (.int (2 : Int32)) (.double sx1) (.double sy1), oArr Z ta1 kt1 .long (lA 64 ft1), oArr Z xa1 kxa1 .double (dA 64 fx1), oArr Z ya1 kya1 .double (dA 64 fy1)]) (F' := [oMe Z ev (.ref lv) (.int (-1 : Int32)) (.long t) (.ref nb) (.ref nx) (.ref ny) (.int (2 : Int32)) (.double (0 : UInt64)) (.double (0 : UInt64)) (.int (0 : Int32)), oArr Z nb kb .int [.int (nd lo), .int (nd hi)], oArr Z nx kx .double [.double (FP.i2d X0), .double (FP.i2d X1)], oArr Z ny ky .double [.double (FP.i2d Y0), .double (FP.i2d Y1)], oVt Z vt (.ref pa) (.ref xv) (.ref yv) (.long lt), oArr Z pa kpa (.object "com/example/tapflow/tapflow/VelocityTracker$Positions") (vA 32 P), oPo Z p0 (.ref ta0) (.ref xa0) (.ref ya0) (.int (0 : Int32)) (.int (2 : Int32)) (.double sx0) (.double sy0), oArr Z ta0 kt0 .long (lA 64 ft0), oArr Z xa0 kxa0 .double (dA 64 fx0), oArr Z ya0 kya0 .double (dA 64 fy0), oPo Z p1 (.ref ta1) (.ref xa1) (.ref ya1) (.int (0 : Int32)) (.int (2 : Int32)) (.double sx1) (.double sy1), oArr Z ta1 kt1 .long (lA 64 ft1), oArr Z xa1 kxa1 .double (dA 64 fx1), oArr Z ya1 kya1 .double (dA 64 fy1)]) (rest := rest) N [2, 3, 4, 5, 0, 1, 6, 7, 8, 9, 10, 11, 12, 13] (by decide) rfl
  refine k_virtual (pc := 1) N (y := (⟨"com/example/tapflow/tapflow/MotionEvent", "getActionMasked", "()I"⟩ : MethodName)) (z := (⟨"com/example/tapflow/tapflow/MotionEvent", "getActionMasked", "()I"⟩ : MethodName)) (rest := []) [] (a := ev) d10_1 (fun h N => N.exa (i := 0) rfl) (hw _ (List.mem_of_getElem? (i := 89) rfl)) (hw _ (List.mem_of_getElem? (i := 90) rfl)) (nf_self (hw _ (List.mem_of_getElem? (i := 92) rfl))) (hw _ (List.mem_of_getElem? (i := 92) rfl)) (hw _ (List.mem_of_getElem? (i := 91) rfl)) (hw _ (List.mem_of_getElem? (i := 21) rfl)) (hw _ (List.mem_of_getElem? (i := 93) rfl)) (by decide) pd___I rfl (c_gam l Z a0 hw ev lv nb nx ny t kb kx ky lo hi X0 X1 Y0 Y1 ((oVt Z vt (.ref pa) (.ref xv) (.ref yv) (.long lt)) :: (oArr Z pa kpa (.object "com/example/tapflow/tapflow/VelocityTracker$Positions") (vA 32 P)) :: (oPo Z p0 (.ref ta0) (.ref xa0) (.ref ya0) (.int (0 : Int32)) (.int (2 : Int32)) (.double sx0) (.double sy0)) :: (oArr Z ta0 kt0 .long (lA 64 ft0)) :: (oArr Z xa0 kxa0 .double (dA 64 fx0)) :: (oArr Z ya0 kya0 .double (dA 64 fy0)) :: (oPo Z p1 (.ref ta1) (.ref xa1) (.ref ya1) (.int (0 : Int32)) (.int (2 : Int32)) (.double sx1) (.double sy1)) :: (oArr Z ta1 kt1 .long (lA 64 ft1)) :: (oArr Z xa1 kxa1 .double (dA 64 fx1)) :: (oArr Z ya1 kya1 .double (dA 64 fy1)) :: rest)) rfl rfl 0 rfl (by decide) (by decide) (cells' := 0) rfl (slots' := 0) rfl (by decide) (by decide) fun T vV K' N qQ => ?_
  obtain ⟨rfl, rfl⟩ := qQ
  refine k_lsw (pc := 4) N (a := 2) (off := 72) d10_4 (by decide) (by decide) (by decide) (pc' := 76) (by decide) ?_
  refine k_aload_n (pc := 76) N d10_76 rfl rfl ?_
  refine k_aload_n (pc := 77) N d10_77 rfl rfl ?_
  replace N := ONow.sel (F := [oMe Z ev (.ref lv) (.int (-1 : Int32)) (.long t) (.ref nb) (.ref nx) (.ref ny) (.int (2 : Int32)) (.double (0 : UInt64)) (.double (0 : UInt64)) (.int (0 : Int32)), oArr Z nb kb .int [.int (nd lo), .int (nd hi)], oArr Z nx kx .double [.double (FP.i2d X0), .double (FP.i2d X1)], oArr Z ny ky .double [.double (FP.i2d Y0), .double (FP.i2d Y1)], oVt Z vt (.ref pa) (.ref xv) (.ref yv) (.long lt), oArr Z pa kpa (.object "com/example/tapflow/tapflow/VelocityTracker$Positions") (vA 32 P), oPo Z p0 (.ref ta0) (.ref xa0) (.ref ya0) (.int (0 : Int32)) (.int (2 : Int32)) (.double sx0) (.double sy0), oArr Z ta0 kt0 .long (lA 64 ft0), oArr Z xa0 kxa0 .double (dA 64 fx0), oArr Z ya0 kya0 .double (dA 64 fy0), oPo Z p1 (.ref ta1) (.ref xa1) (.ref ya1) (.int (0 : Int32)) (.int (2 : Int32)) (.double sx1) (.double sy1), oArr Z ta1 kt1 .long (lA 64 ft1), oArr Z xa1 kxa1 .double (dA 64 fx1), oArr Z ya1 kya1 .double (dA 64 fy1)]) (F' := [oVt Z vt (.ref pa) (.ref xv) (.ref yv) (.long lt), oArr Z pa kpa (.object "com/example/tapflow/tapflow/VelocityTracker$Positions") (vA 32 P), oMe Z ev (.ref lv) (.int (-1 : Int32)) (.long t) (.ref nb) (.ref nx) (.ref ny) (.int (2 : Int32)) (.double (0 : UInt64)) (.double (0 : UInt64)) (.int (0 : Int32)), oArr Z nb kb .int [.int (nd lo), .int (nd hi)], oArr Z nx kx .double [.double (FP.i2d X0), .double (FP.i2d X1)], oArr Z ny ky .double [.double (FP.i2d Y0), .double (FP.i2d Y1)], oPo Z p0 (.ref ta0) (.ref xa0) (.ref ya0) (.int (0 : Int32)) (.int (2 : Int32)) (.double sx0) (.double sy0), oArr Z ta0 kt0 .long (lA 64 ft0), oArr Z xa0 kxa0 .double (dA 64 fx0), oArr Z ya0 kya0 .double (dA 64 fy0), oPo Z p1 (.ref ta1) (.ref xa1) (.ref ya1) (.int (0 : Int32)) (.int (2 : Int32)) (.double sx1) (.double sy1), oArr Z ta1 kt1 .long (lA 64 ft1), oArr Z xa1 kxa1 .double (dA 64 fx1), oArr Z ya1 kya1 .double (dA 64 fy1)]) (rest := rest) N [4, 5, 0, 1, 2, 3, 6, 7, 8, 9, 10, 11, 12, 13] (by decide) rfl
  refine k_private (pc := 78) N (y := (⟨"com/example/tapflow/tapflow/VelocityTracker", "addPositions", "(Lcom/example/tapflow/tapflow/MotionEvent;)V"⟩ : MethodName)) (rest := []) [.ref ev] (a := vt) 0 d10_78 rfl (hw _ (List.mem_of_getElem? (i := 3) rfl)) (hw _ (List.mem_of_getElem? (i := 94) rfl)) (hw _ (List.mem_of_getElem? (i := 95) rfl)) (hw _ (List.mem_of_getElem? (i := 96) rfl)) (hw _ (List.mem_of_getElem? (i := 4) rfl)) (hw _ (List.mem_of_getElem? (i := 97) rfl)) (by decide) pd__Lcom_example_tapflow_tapflow_MotionEvent__V rfl (c_ap2 l Z a0 hw vt pa xv yv kpa ov lt P ev lv nb nx ny t kb kx ky lo hi X0 X1 Y0 Y1 p0 ta0 xa0 ya0 kt0 kxa0 kya0 ft0 fx0 fy0 sx0 sy0 p1 ta1 xa1 ya1 kt1 kxa1 kya1 ft1 fx1 fy1 sx1 sy1 hlo hhi hne hP0 hP1 rest) rfl rfl 0 rfl (by decide) (by decide) (cells' := 0) rfl (slots' := 0) rfl (by decide) (by decide) fun T vV K' N qQ => ?_
  obtain ⟨rfl, rfl⟩ := qQ
  refine k_goto (pc := 81) N d10_81 (pc' := 84) (by decide) ?_
  refine k_aload_n (pc := 84) N d10_84 rfl rfl ?_
  refine k_aload_n (pc := 85) N d10_85 rfl rfl ?_
  replace N := ONow.sel (F := [oVt Z vt (.ref pa) (.ref xv) (.ref yv) (.long lt), oArr Z pa kpa (.object "com/example/tapflow/tapflow/VelocityTracker$Positions") (vA 32 P), oMe Z ev (.ref lv) (.int (-1 : Int32)) (.long t) (.ref nb) (.ref nx) (.ref ny) (.int (2 : Int32)) (.double (0 : UInt64)) (.double (0 : UInt64)) (.int (0 : Int32)), oArr Z nb kb .int [.int (nd lo), .int (nd hi)], oArr Z nx kx .double [.double (FP.i2d X0), .double (FP.i2d X1)], oArr Z ny ky .double [.double (FP.i2d Y0), .double (FP.i2d Y1)], oPo Z p0 (.ref ta0) (.ref xa0) (.ref ya0) (.int (1 : Int32)) (.int (3 : Int32)) (.double sx0) (.double sy0), oArr Z ta0 kt0 .long (lA 64 (upd ft0 2 t)), oArr Z xa0 kxa0 .double (dA 64 (upd fx0 2 (FP.i2d X0))), oArr Z ya0 kya0 .double (dA 64 (upd fy0 2 (FP.i2d Y0))), oPo Z p1 (.ref ta1) (.ref xa1) (.ref ya1) (.int (1 : Int32)) (.int (3 : Int32)) (.double sx1) (.double sy1), oArr Z ta1 kt1 .long (lA 64 (upd ft1 2 t)), oArr Z xa1 kxa1 .double (dA 64 (upd fx1 2 (FP.i2d X1))), oArr Z ya1 kya1 .double (dA 64 (upd fy1 2 (FP.i2d Y1)))]) (F' := [oMe Z ev (.ref lv) (.int (-1 : Int32)) (.long t) (.ref nb) (.ref nx) (.ref ny) (.int (2 : Int32)) (.double (0 : UInt64)) (.double (0 : UInt64)) (.int (0 : Int32)), oArr Z nb kb .int [.int (nd lo), .int (nd hi)], oArr Z nx kx .double [.double (FP.i2d X0), .double (FP.i2d X1)], oArr Z ny ky .double [.double (FP.i2d Y0), .double (FP.i2d Y1)], oVt Z vt (.ref pa) (.ref xv) (.ref yv) (.long lt), oArr Z pa kpa (.object "com/example/tapflow/tapflow/VelocityTracker$Positions") (vA 32 P), oPo Z p0 (.ref ta0) (.ref xa0) (.ref ya0) (.int (1 : Int32)) (.int (3 : Int32)) (.double sx0) (.double sy0), oArr Z ta0 kt0 .long (lA 64 (upd ft0 2 t)), oArr Z xa0 kxa0 .double (dA 64 (upd fx0 2 (FP.i2d X0))), oArr Z ya0 kya0 .double (dA 64 (upd fy0 2 (FP.i2d Y0))), oPo Z p1 (.ref ta1) (.ref xa1) (.ref ya1) (.int (1 : Int32)) (.int (3 : Int32)) (.double sx1) (.double sy1), oArr Z ta1 kt1 .long (lA 64 (upd ft1 2 t)), oArr Z xa1 kxa1 .double (dA 64 (upd fx1 2 (FP.i2d X1))), oArr Z ya1 kya1 .double (dA 64 (upd fy1 2 (FP.i2d Y1)))]) (rest := rest) N [2, 3, 4, 5, 0, 1, 6, 7, 8, 9, 10, 11, 12, 13] (by decide) rfl
  refine k_virtual (pc := 86) N (y := (⟨"com/example/tapflow/tapflow/MotionEvent", "getEventTimeNanos", "()J"⟩ : MethodName)) (z := (⟨"com/example/tapflow/tapflow/MotionEvent", "getEventTimeNanos", "()J"⟩ : MethodName)) (rest := [.ref vt]) [] (a := ev) d10_86 (fun h N => N.exa (i := 0) rfl) (hw _ (List.mem_of_getElem? (i := 98) rfl)) (hw _ (List.mem_of_getElem? (i := 99) rfl)) (nf_self (hw _ (List.mem_of_getElem? (i := 101) rfl))) (hw _ (List.mem_of_getElem? (i := 101) rfl)) (hw _ (List.mem_of_getElem? (i := 100) rfl)) (hw _ (List.mem_of_getElem? (i := 21) rfl)) (hw _ (List.mem_of_getElem? (i := 102) rfl)) (by decide) pd___J rfl (c_gt l Z a0 hw ev lv nb nx ny t kb kx ky lo hi X0 X1 Y0 Y1 ((oVt Z vt (.ref pa) (.ref xv) (.ref yv) (.long lt)) :: (oArr Z pa kpa (.object "com/example/tapflow/tapflow/VelocityTracker$Positions") (vA 32 P)) :: (oPo Z p0 (.ref ta0) (.ref xa0) (.ref ya0) (.int (1 : Int32)) (.int (3 : Int32)) (.double sx0) (.double sy0)) :: (oArr Z ta0 kt0 .long (lA 64 (upd ft0 2 t))) :: (oArr Z xa0 kxa0 .double (dA 64 (upd fx0 2 (FP.i2d X0)))) :: (oArr Z ya0 kya0 .double (dA 64 (upd fy0 2 (FP.i2d Y0)))) :: (oPo Z p1 (.ref ta1) (.ref xa1) (.ref ya1) (.int (1 : Int32)) (.int (3 : Int32)) (.double sx1) (.double sy1)) :: (oArr Z ta1 kt1 .long (lA 64 (upd ft1 2 t))) :: (oArr Z xa1 kxa1 .double (dA 64 (upd fx1 2 (FP.i2d X1)))) :: (oArr Z ya1 kya1 .double (dA 64 (upd fy1 2 (FP.i2d Y1)))) :: rest)) rfl rfl 1 rfl (by decide) (by decide) (cells' := 0) rfl (slots' := 0) rfl (by decide) (by decide) fun T vV K' N qQ => ?_
  obtain ⟨rfl, rfl⟩ := qQ
  refine k_put (pc := 89) (host := "") N 4 3 d10_89 (Or.inl (hw _ (List.mem_of_getElem? (i := 167) rfl))) Via.refl rfl rfl (Or.inl (hw _ (List.mem_of_getElem? (i := 168) rfl))) (hw _ (List.mem_of_getElem? (i := 3) rfl)) (ty := .long) (by decide) rfl rfl (K' := ((oMe Z ev (.ref lv) (.int (-1 : Int32)) (.long t) (.ref nb) (.ref nx) (.ref ny) (.int (2 : Int32)) (.double (0 : UInt64)) (.double (0 : UInt64)) (.int (0 : Int32))) :: (oArr Z nb kb .int [.int (nd lo), .int (nd hi)]) :: (oArr Z nx kx .double [.double (FP.i2d X0), .double (FP.i2d X1)]) :: (oArr Z ny ky .double [.double (FP.i2d Y0), .double (FP.i2d Y1)]) :: (oVt Z vt (.ref pa) (.ref xv) (.ref yv) (.long t)) :: (oArr Z pa kpa (.object "com/example/tapflow/tapflow/VelocityTracker$Positions") (vA 32 P)) :: (oPo Z p0 (.ref ta0) (.ref xa0) (.ref ya0) (.int (1 : Int32)) (.int (3 : Int32)) (.double sx0) (.double sy0)) :: (oArr Z ta0 kt0 .long (lA 64 (upd ft0 2 t))) :: (oArr Z xa0 kxa0 .double (dA 64 (upd fx0 2 (FP.i2d X0)))) :: (oArr Z ya0 kya0 .double (dA 64 (upd fy0 2 (FP.i2d Y0)))) :: (oPo Z p1 (.ref ta1) (.ref xa1) (.ref ya1) (.int (1 : Int32)) (.int (3 : Int32)) (.double sx1) (.double sy1)) :: (oArr Z ta1 kt1 .long (lA 64 (upd ft1 2 t))) :: (oArr Z xa1 kxa1 .double (dA 64 (upd fx1 2 (FP.i2d X1)))) :: (oArr Z ya1 kya1 .double (dA 64 (upd fy1 2 (FP.i2d Y1)))) :: rest)) rfl fun T N => ?_
  replace N := ONow.sel (F := [oMe Z ev (.ref lv) (.int (-1 : Int32)) (.long t) (.ref nb) (.ref nx) (.ref ny) (.int (2 : Int32)) (.double (0 : UInt64)) (.double (0 : UInt64)) (.int (0 : Int32)), oArr Z nb kb .int [.int (nd lo), .int (nd hi)], oArr Z nx kx .double [.double (FP.i2d X0), .double (FP.i2d X1)], oArr Z ny ky .double [.double (FP.i2d Y0), .double (FP.i2d Y1)], oVt Z vt (.ref pa) (.ref xv) (.ref yv) (.long t), oArr Z pa kpa (.object "com/example/tapflow/tapflow/VelocityTracker$Positions") (vA 32 P), oPo Z p0 (.ref ta0) (.ref xa0) (.ref ya0) (.int (1 : Int32)) (.int (3 : Int32)) (.double sx0) (.double sy0), oArr Z ta0 kt0 .long (lA 64 (upd ft0 2 t)), oArr Z xa0 kxa0 .double (dA 64 (upd fx0 2 (FP.i2d X0))), oArr Z ya0 kya0 .double (dA 64 (upd fy0 2 (FP.i2d Y0))), oPo Z p1 (.ref ta1) (.ref xa1) (.ref ya1) (.int (1 : Int32)) (.int (3 : Int32)) (.double sx1) (.double sy1), oArr Z ta1 kt1 .long (lA 64 (upd ft1 2 t)), oArr Z xa1 kxa1 .double (dA 64 (upd fx1 2 (FP.i2d X1))), oArr Z ya1 kya1 .double (dA 64 (upd fy1 2 (FP.i2d Y1)))]) (F' := [oVt Z vt (.ref pa) (.ref xv) (.ref yv) (.long t), oArr Z pa kpa (.object "com/example/tapflow/tapflow/VelocityTracker$Positions") (vA 32 P), oMe Z ev (.ref lv) (.int (-1 : Int32)) (.long t) (.ref nb) (.ref nx) (.ref ny) (.int (2 : Int32)) (.double (0 : UInt64)) (.double (0 : UInt64)) (.int (0 : Int32)), oArr Z nb kb .int [.int (nd lo), .int (nd hi)], oArr Z nx kx .double [.double (FP.i2d X0), .double (FP.i2d X1)], oArr Z ny ky .double [.double (FP.i2d Y0), .double (FP.i2d Y1)], oPo Z p0 (.ref ta0) (.ref xa0) (.ref ya0) (.int (1 : Int32)) (.int (3 : Int32)) (.double sx0) (.double sy0), oArr Z ta0 kt0 .long (lA 64 (upd ft0 2 t)), oArr Z xa0 kxa0 .double (dA 64 (upd fx0 2 (FP.i2d X0))), oArr Z ya0 kya0 .double (dA 64 (upd fy0 2 (FP.i2d Y0))), oPo Z p1 (.ref ta1) (.ref xa1) (.ref ya1) (.int (1 : Int32)) (.int (3 : Int32)) (.double sx1) (.double sy1), oArr Z ta1 kt1 .long (lA 64 (upd ft1 2 t)), oArr Z xa1 kxa1 .double (dA 64 (upd fx1 2 (FP.i2d X1))), oArr Z ya1 kya1 .double (dA 64 (upd fy1 2 (FP.i2d Y1)))]) (rest := rest) N [4, 5, 0, 1, 2, 3, 6, 7, 8, 9, 10, 11, 12, 13] (by decide) rfl
  exact k_return (pc := 92) N d10_92 rfl (by decide) (by decide) ⟨rfl, rfl⟩
set_option maxRecDepth 65536 in
theorem ef_c_fm0 (m : MethodId) (z0 : Int32) (z1 : Int32) : entryFrame m ([.int z0, .int z1] : List Value).toArray 3 = mkF m 0 #[.val (.int z0), .val (.int z1), .unset] [] := by first | (simp [entryFrame, mkF, argsToLocals, Value.category]; done) | rfl
def rm_c_fm0 : Room := { frames := 0, cells := 0, slots := 0, locals := 0 }
set_option maxRecDepth 65536 in
set_option maxHeartbeats 40000000 in
theorem c_fm0 (l : Launch) (Z : State) (a0 : Array Value) (hw : ∀ d ∈ tables_1, d.before a0 Z = true)  (rest : List Ent) :
    OMeets l (⟨"java/lang/Math", "floorMod", "(II)I"⟩ : MethodName) jdk_29_method_50_code 3 (some .int) rm_c_fm0 Z [.int (0 : Int32), .int (64 : Int32)] rest (fun v K => v = some (.int 0) ∧ rest = K) := by
  refine OMeets.of_body (Jvm.Free.JP.mathPlain rfl (by decide +kernel)) #[.val (.int (0 : Int32)), .val (.int (64 : Int32)), .unset] (fun m => ef_c_fm0 m (0 : Int32) (64 : Int32)) fun pP eE sS mM bB hH cC T N => ?_
  refine k_iload_n (pc := 0) N d28_0 rfl ?_
  refine k_iload_n (pc := 1) N d28_1 rfl ?_
  refine k_irem (pc := 2) N d28_2 (by decide) ?_
  refine k_istore_n (pc := 3) N d28_3 (Ls' := #[.val (.int (0 : Int32)), .val (.int (64 : Int32)), .val (.int ((0 : Int32) % (64 : Int32)))]) rfl ?_
  refine k_iload_n (pc := 4) N d28_4 rfl ?_
  refine k_iload_n (pc := 5) N d28_5 rfl ?_
  refine k_ixor (pc := 6) N d28_6 ?_
  refine k_if_ge (pc := 7) N d28_7 (pc' := 18) (by decide) (fun _ => ?_) (fun qQ => absurd qQ (by decide))
  refine k_iload_n (pc := 18) N d28_18 rfl ?_
  exact k_ireturn (pc := 19) N d28_19 rfl (by decide) (by decide) ⟨rfl, rfl⟩
set_option maxRecDepth 65536 in
theorem ef_c_fm1 (m : MethodId) (z0 : Int32) (z1 : Int32) : entryFrame m ([.int z0, .int z1] : List Value).toArray 3 = mkF m 0 #[.val (.int z0), .val (.int z1), .unset] [] := by first | (simp [entryFrame, mkF, argsToLocals, Value.category]; done) | rfl
def rm_c_fm1 : Room := { frames := 0, cells := 0, slots := 0, locals := 0 }
set_option maxRecDepth 65536 in
set_option maxHeartbeats 40000000 in
theorem c_fm1 (l : Launch) (Z : State) (a0 : Array Value) (hw : ∀ d ∈ tables_1, d.before a0 Z = true)  (rest : List Ent) :
    OMeets l (⟨"java/lang/Math", "floorMod", "(II)I"⟩ : MethodName) jdk_29_method_50_code 3 (some .int) rm_c_fm1 Z [.int (1 : Int32), .int (64 : Int32)] rest (fun v K => v = some (.int 1) ∧ rest = K) := by
  refine OMeets.of_body (Jvm.Free.JP.mathPlain rfl (by decide +kernel)) #[.val (.int (1 : Int32)), .val (.int (64 : Int32)), .unset] (fun m => ef_c_fm1 m (1 : Int32) (64 : Int32)) fun pP eE sS mM bB hH cC T N => ?_
  refine k_iload_n (pc := 0) N d28_0 rfl ?_
  refine k_iload_n (pc := 1) N d28_1 rfl ?_
  refine k_irem (pc := 2) N d28_2 (by decide) ?_
  refine k_istore_n (pc := 3) N d28_3 (Ls' := #[.val (.int (1 : Int32)), .val (.int (64 : Int32)), .val (.int ((1 : Int32) % (64 : Int32)))]) rfl ?_
  refine k_iload_n (pc := 4) N d28_4 rfl ?_
  refine k_iload_n (pc := 5) N d28_5 rfl ?_
  refine k_ixor (pc := 6) N d28_6 ?_
  refine k_if_ge (pc := 7) N d28_7 (pc' := 18) (by decide) (fun _ => ?_) (fun qQ => absurd qQ (by decide))
  refine k_iload_n (pc := 18) N d28_18 rfl ?_
  exact k_ireturn (pc := 19) N d28_19 rfl (by decide) (by decide) ⟨rfl, rfl⟩
set_option maxRecDepth 65536 in
theorem ef_c_fm2 (m : MethodId) (z0 : Int32) (z1 : Int32) : entryFrame m ([.int z0, .int z1] : List Value).toArray 3 = mkF m 0 #[.val (.int z0), .val (.int z1), .unset] [] := by first | (simp [entryFrame, mkF, argsToLocals, Value.category]; done) | rfl
def rm_c_fm2 : Room := { frames := 0, cells := 0, slots := 0, locals := 0 }
set_option maxRecDepth 65536 in
set_option maxHeartbeats 40000000 in
theorem c_fm2 (l : Launch) (Z : State) (a0 : Array Value) (hw : ∀ d ∈ tables_1, d.before a0 Z = true)  (rest : List Ent) :
    OMeets l (⟨"java/lang/Math", "floorMod", "(II)I"⟩ : MethodName) jdk_29_method_50_code 3 (some .int) rm_c_fm2 Z [.int (2 : Int32), .int (64 : Int32)] rest (fun v K => v = some (.int 2) ∧ rest = K) := by
  refine OMeets.of_body (Jvm.Free.JP.mathPlain rfl (by decide +kernel)) #[.val (.int (2 : Int32)), .val (.int (64 : Int32)), .unset] (fun m => ef_c_fm2 m (2 : Int32) (64 : Int32)) fun pP eE sS mM bB hH cC T N => ?_
  refine k_iload_n (pc := 0) N d28_0 rfl ?_
  refine k_iload_n (pc := 1) N d28_1 rfl ?_
  refine k_irem (pc := 2) N d28_2 (by decide) ?_
  refine k_istore_n (pc := 3) N d28_3 (Ls' := #[.val (.int (2 : Int32)), .val (.int (64 : Int32)), .val (.int ((2 : Int32) % (64 : Int32)))]) rfl ?_
  refine k_iload_n (pc := 4) N d28_4 rfl ?_
  refine k_iload_n (pc := 5) N d28_5 rfl ?_
  refine k_ixor (pc := 6) N d28_6 ?_
  refine k_if_ge (pc := 7) N d28_7 (pc' := 18) (by decide) (fun _ => ?_) (fun qQ => absurd qQ (by decide))
  refine k_iload_n (pc := 18) N d28_18 rfl ?_
  exact k_ireturn (pc := 19) N d28_19 rfl (by decide) (by decide) ⟨rfl, rfl⟩
set_option maxRecDepth 65536 in
theorem ef_c_ix2_0 (m : MethodId) (z0 : Addr) (z1 : Int32) : entryFrame m ([.ref z0, .int z1] : List Value).toArray 2 = mkF m 0 #[.val (.ref z0), .val (.int z1)] [] := by first | (simp [entryFrame, mkF, argsToLocals, Value.category]; done) | rfl
def rm_c_ix2_0 : Room := { frames := 1, cells := 0, slots := 0, locals := 14 }
set_option maxRecDepth 65536 in
set_option maxHeartbeats 40000000 in
theorem c_ix2_0 (l : Launch) (Z : State) (a0 : Array Value) (hw : ∀ d ∈ tables_1, d.before a0 Z = true) (p ta xa ya : Addr) (ct : Int32) (sx sy : UInt64) (rest : List Ent) :
    OMeets l (⟨"com/example/tapflow/tapflow/VelocityTracker$Positions", "index", "(I)I"⟩ : MethodName) prog_16_method_3_code 2 (some .int) rm_c_ix2_0 Z [.ref p, .int (0 : Int32)] ((oPo Z p (.ref ta) (.ref xa) (.ref ya) (.int ct) (.int (2 : Int32)) (.double sx) (.double sy)) :: rest) (fun v K => v = some (.int 1) ∧ K = (oPo Z p (.ref ta) (.ref xa) (.ref ya) (.int ct) (.int (2 : Int32)) (.double sx) (.double sy)) :: rest) := by
  refine OMeets.of_body (plainFor_of_name pn_com_example_tapflow_tapflow_VelocityTracker_Positions) #[.val (.ref p), .val (.int (0 : Int32))] (fun m => ef_c_ix2_0 m p (0 : Int32)) fun pP eE sS mM bB hH cC T N => ?_
  refine k_aload_n (pc := 0) N d27_0 rfl rfl ?_
  refine k_get (pc := 1) (host := "") N 0 4 d27_1 (Or.inl (hw _ (List.mem_of_getElem? (i := 160) rfl))) Via.refl rfl rfl fun T N => ?_
  refine k_iconst (pc := 4) N d27_4 (v := (1 : Int32)) (by decide) ?_
  refine k_isub (pc := 5) N d27_5 ?_
  rw [show ((2 : Int32) - (1 : Int32)) = (1 : Int32) by decide]
  refine k_iload_n (pc := 6) N d27_6 rfl ?_
  refine k_isub (pc := 7) N d27_7 ?_
  rw [show ((1 : Int32) - (0 : Int32)) = (1 : Int32) by decide]
  refine k_bipush (pc := 8) N d27_8 (v := (64 : Int32)) (by decide) ?_
  refine k_static (pc := 10) N (y := (⟨"java/lang/Math", "floorMod", "(II)I"⟩ : MethodName)) (rest := []) [.int (1 : Int32), .int (64 : Int32)] d27_10 (hw _ (List.mem_of_getElem? (i := 189) rfl)) (hw _ (List.mem_of_getElem? (i := 190) rfl)) (hw _ (List.mem_of_getElem? (i := 40) rfl)) (hw _ (List.mem_of_getElem? (i := 191) rfl)) (by decide) pd__II_I rfl (c_fm1 l Z a0 hw ((oPo Z p (.ref ta) (.ref xa) (.ref ya) (.int ct) (.int (2 : Int32)) (.double sx) (.double sy)) :: rest)) rfl rfl 0 rfl (by decide) (by decide) (cells' := 0) rfl (slots' := 0) rfl (by decide) (by decide) fun T vV K' N qQ => ?_
  obtain ⟨rfl, rfl⟩ := qQ
  exact k_ireturn (pc := 13) N d27_13 rfl (by decide) (by decide) ⟨rfl, rfl⟩
set_option maxRecDepth 65536 in
theorem ef_c_ix2_1 (m : MethodId) (z0 : Addr) (z1 : Int32) : entryFrame m ([.ref z0, .int z1] : List Value).toArray 2 = mkF m 0 #[.val (.ref z0), .val (.int z1)] [] := by first | (simp [entryFrame, mkF, argsToLocals, Value.category]; done) | rfl
def rm_c_ix2_1 : Room := { frames := 1, cells := 0, slots := 0, locals := 14 }
set_option maxRecDepth 65536 in
set_option maxHeartbeats 40000000 in
theorem c_ix2_1 (l : Launch) (Z : State) (a0 : Array Value) (hw : ∀ d ∈ tables_1, d.before a0 Z = true) (p ta xa ya : Addr) (ct : Int32) (sx sy : UInt64) (rest : List Ent) :
    OMeets l (⟨"com/example/tapflow/tapflow/VelocityTracker$Positions", "index", "(I)I"⟩ : MethodName) prog_16_method_3_code 2 (some .int) rm_c_ix2_1 Z [.ref p, .int (1 : Int32)] ((oPo Z p (.ref ta) (.ref xa) (.ref ya) (.int ct) (.int (2 : Int32)) (.double sx) (.double sy)) :: rest) (fun v K => v = some (.int 0) ∧ K = (oPo Z p (.ref ta) (.ref xa) (.ref ya) (.int ct) (.int (2 : Int32)) (.double sx) (.double sy)) :: rest) := by
  refine OMeets.of_body (plainFor_of_name pn_com_example_tapflow_tapflow_VelocityTracker_Positions) #[.val (.ref p), .val (.int (1 : Int32))] (fun m => ef_c_ix2_1 m p (1 : Int32)) fun pP eE sS mM bB hH cC T N => ?_
  refine k_aload_n (pc := 0) N d27_0 rfl rfl ?_
  refine k_get (pc := 1) (host := "") N 0 4 d27_1 (Or.inl (hw _ (List.mem_of_getElem? (i := 160) rfl))) Via.refl rfl rfl fun T N => ?_
  refine k_iconst (pc := 4) N d27_4 (v := (1 : Int32)) (by decide) ?_
  refine k_isub (pc := 5) N d27_5 ?_
  rw [show ((2 : Int32) - (1 : Int32)) = (1 : Int32) by decide]
  refine k_iload_n (pc := 6) N d27_6 rfl ?_
  refine k_isub (pc := 7) N d27_7 ?_
  rw [show ((1 : Int32) - (1 : Int32)) = (0 : Int32) by decide]
  refine k_bipush (pc := 8) N d27_8 (v := (64 : Int32)) (by decide) ?_
  refine k_static (pc := 10) N (y := (⟨"java/lang/Math", "floorMod", "(II)I"⟩ : MethodName)) (rest := []) [.int (0 : Int32), .int (64 : Int32)] d27_10 (hw _ (List.mem_of_getElem? (i := 189) rfl)) (hw _ (List.mem_of_getElem? (i := 190) rfl)) (hw _ (List.mem_of_getElem? (i := 40) rfl)) (hw _ (List.mem_of_getElem? (i := 191) rfl)) (by decide) pd__II_I rfl (c_fm0 l Z a0 hw ((oPo Z p (.ref ta) (.ref xa) (.ref ya) (.int ct) (.int (2 : Int32)) (.double sx) (.double sy)) :: rest)) rfl rfl 0 rfl (by decide) (by decide) (cells' := 0) rfl (slots' := 0) rfl (by decide) (by decide) fun T vV K' N qQ => ?_
  obtain ⟨rfl, rfl⟩ := qQ
  exact k_ireturn (pc := 13) N d27_13 rfl (by decide) (by decide) ⟨rfl, rfl⟩
set_option maxRecDepth 65536 in
theorem ef_c_ix3_0 (m : MethodId) (z0 : Addr) (z1 : Int32) : entryFrame m ([.ref z0, .int z1] : List Value).toArray 2 = mkF m 0 #[.val (.ref z0), .val (.int z1)] [] := by first | (simp [entryFrame, mkF, argsToLocals, Value.category]; done) | rfl
def rm_c_ix3_0 : Room := { frames := 1, cells := 0, slots := 0, locals := 14 }
set_option maxRecDepth 65536 in
set_option maxHeartbeats 40000000 in
theorem c_ix3_0 (l : Launch) (Z : State) (a0 : Array Value) (hw : ∀ d ∈ tables_1, d.before a0 Z = true) (p ta xa ya : Addr) (ct : Int32) (sx sy : UInt64) (rest : List Ent) :
    OMeets l (⟨"com/example/tapflow/tapflow/VelocityTracker$Positions", "index", "(I)I"⟩ : MethodName) prog_16_method_3_code 2 (some .int) rm_c_ix3_0 Z [.ref p, .int (0 : Int32)] ((oPo Z p (.ref ta) (.ref xa) (.ref ya) (.int ct) (.int (3 : Int32)) (.double sx) (.double sy)) :: rest) (fun v K => v = some (.int 2) ∧ K = (oPo Z p (.ref ta) (.ref xa) (.ref ya) (.int ct) (.int (3 : Int32)) (.double sx) (.double sy)) :: rest) := by
  refine OMeets.of_body (plainFor_of_name pn_com_example_tapflow_tapflow_VelocityTracker_Positions) #[.val (.ref p), .val (.int (0 : Int32))] (fun m => ef_c_ix3_0 m p (0 : Int32)) fun pP eE sS mM bB hH cC T N => ?_
  refine k_aload_n (pc := 0) N d27_0 rfl rfl ?_
  refine k_get (pc := 1) (host := "") N 0 4 d27_1 (Or.inl (hw _ (List.mem_of_getElem? (i := 160) rfl))) Via.refl rfl rfl fun T N => ?_
  refine k_iconst (pc := 4) N d27_4 (v := (1 : Int32)) (by decide) ?_
  refine k_isub (pc := 5) N d27_5 ?_
  rw [show ((3 : Int32) - (1 : Int32)) = (2 : Int32) by decide]
  refine k_iload_n (pc := 6) N d27_6 rfl ?_
  refine k_isub (pc := 7) N d27_7 ?_
  rw [show ((2 : Int32) - (0 : Int32)) = (2 : Int32) by decide]
  refine k_bipush (pc := 8) N d27_8 (v := (64 : Int32)) (by decide) ?_
  refine k_static (pc := 10) N (y := (⟨"java/lang/Math", "floorMod", "(II)I"⟩ : MethodName)) (rest := []) [.int (2 : Int32), .int (64 : Int32)] d27_10 (hw _ (List.mem_of_getElem? (i := 189) rfl)) (hw _ (List.mem_of_getElem? (i := 190) rfl)) (hw _ (List.mem_of_getElem? (i := 40) rfl)) (hw _ (List.mem_of_getElem? (i := 191) rfl)) (by decide) pd__II_I rfl (c_fm2 l Z a0 hw ((oPo Z p (.ref ta) (.ref xa) (.ref ya) (.int ct) (.int (3 : Int32)) (.double sx) (.double sy)) :: rest)) rfl rfl 0 rfl (by decide) (by decide) (cells' := 0) rfl (slots' := 0) rfl (by decide) (by decide) fun T vV K' N qQ => ?_
  obtain ⟨rfl, rfl⟩ := qQ
  exact k_ireturn (pc := 13) N d27_13 rfl (by decide) (by decide) ⟨rfl, rfl⟩
set_option maxRecDepth 65536 in
theorem ef_c_fit2 (m : MethodId) (z0 : Addr) (z1 : Addr) : entryFrame m ([.ref z0, .ref z1] : List Value).toArray 24 = mkF m 0 #[.val (.ref z0), .val (.ref z1), .unset, .unset, .unset, .unset, .unset, .unset, .unset, .unset, .unset, .unset, .unset, .unset, .unset, .unset, .unset, .unset, .unset, .unset, .unset, .unset, .unset, .unset] [] := by first | (simp [entryFrame, mkF, argsToLocals, Value.category]; done) | rfl
def rm_c_fit2 : Room := { frames := 2, cells := 0, slots := 0, locals := 27 }
set_option maxRecDepth 65536 in
set_option maxHeartbeats 40000000 in
theorem c_fit2 (l : Launch) (Z : State) (a0 : Array Value) (hw : ∀ d ∈ tables_1, d.before a0 Z = true) (vt pa xv yv : Addr) (lt : Int64) (p ta xa ya : Addr) (kt kxa kya : ClassId) (ft : Nat → Int64) (fx fy : Nat → UInt64) (sx sy : UInt64) (x0 x1 y0 y1 : Int) (ht1 : lt - (ft 1) = 0) (ht0 : lt - (ft 0) = 1000000) (ht01 : (ft 0) - (ft 1) = -1000000) (hx0 : DInt x0 (fx 0)) (hx1 : DInt x1 (fx 1)) (hy0 : DInt y0 (fy 0)) (hy1 : DInt y1 (fy 1)) (bx0 : -32768 ≤ x0 ∧ x0 ≤ 32767) (by0 : -32768 ≤ y0 ∧ y0 ≤ 32767) (bx1 : -32768 ≤ x1 ∧ x1 ≤ 32767) (by1 : -32768 ≤ y1 ∧ y1 ≤ 32767) (rest : List Ent) :
    OMeets l (⟨"com/example/tapflow/tapflow/VelocityTracker", "fit", "(Lcom/example/tapflow/tapflow/VelocityTracker$Positions;)Z"⟩ : MethodName) prog_15_method_10_code 24 (some .boolean) rm_c_fit2 Z [.ref vt, .ref p] ((oVt Z vt (.ref pa) (.ref xv) (.ref yv) (.long lt)) :: (oPo Z p (.ref ta) (.ref xa) (.ref ya) (.int (2 : Int32)) (.int (2 : Int32)) (.double sx) (.double sy)) :: (oArr Z ta kt .long (lA 64 ft)) :: (oArr Z xa kxa .double (dA 64 fx)) :: (oArr Z ya kya .double (dA 64 fy)) :: rest) (fun v K => ∃ (u1 u2 : UInt64), v = some (.int 1) ∧ DInt (x1 - x0) u1 ∧ DInt (y1 - y0) u2 ∧ K = (oVt Z vt (.ref pa) (.ref xv) (.ref yv) (.long lt)) :: (oPo Z p (.ref ta) (.ref xa) (.ref ya) (.int (2 : Int32)) (.int (2 : Int32)) (.double u1) (.double u2)) :: (oArr Z ta kt .long (lA 64 ft)) :: (oArr Z xa kxa .double (dA 64 fx)) :: (oArr Z ya kya .double (dA 64 fy)) :: rest) := by
  refine OMeets.of_body (plainFor_of_name pn_com_example_tapflow_tapflow_VelocityTracker) #[.val (.ref vt), .val (.ref p), .unset, .unset, .unset, .unset, .unset, .unset, .unset, .unset, .unset, .unset, .unset, .unset, .unset, .unset, .unset, .unset, .unset, .unset, .unset, .unset, .unset, .unset] (fun m => ef_c_fit2 m vt p) fun pP eE sS mM bB hH cC T N => ?_
  refine k_aload_n (pc := 0) N d26_0 rfl rfl ?_
  refine k_iconst (pc := 1) N d26_1 (v := (0 : Int32)) (by decide) ?_
  replace N := ONow.sel (F := [oVt Z vt (.ref pa) (.ref xv) (.ref yv) (.long lt), oPo Z p (.ref ta) (.ref xa) (.ref ya) (.int (2 : Int32)) (.int (2 : Int32)) (.double sx) (.double sy), oArr Z ta kt .long (lA 64 ft), oArr Z xa kxa .double (dA 64 fx), oArr Z ya kya .double (dA 64 fy)]) (F' := [oPo Z p (.ref ta) (.ref xa) (.ref ya) (.int (2 : Int32)) (.int (2 : Int32)) (.double sx) (.double sy), oVt Z vt (.ref pa) (.ref xv) (.ref yv) (.long lt), oArr Z ta kt .long (lA 64 ft), oArr Z xa kxa .double (dA 64 fx), oArr Z ya kya .double (dA 64 fy)]) (rest := rest) N [1, 0, 2, 3, 4] (by decide) rfl
  refine k_virtual (pc := 2) N (y := (⟨"com/example/tapflow/tapflow/VelocityTracker$Positions", "index", "(I)I"⟩ : MethodName)) (z := (⟨"com/example/tapflow/tapflow/VelocityTracker$Positions", "index", "(I)I"⟩ : MethodName)) (rest := []) [.int (0 : Int32)] (a := p) d26_2 (fun h N => N.exa (i := 0) rfl) (hw _ (List.mem_of_getElem? (i := 184) rfl)) (hw _ (List.mem_of_getElem? (i := 185) rfl)) (nf_self (hw _ (List.mem_of_getElem? (i := 187) rfl))) (hw _ (List.mem_of_getElem? (i := 187) rfl)) (hw _ (List.mem_of_getElem? (i := 186) rfl)) (hw _ (List.mem_of_getElem? (i := 118) rfl)) (hw _ (List.mem_of_getElem? (i := 188) rfl)) (by decide) pd__I_I rfl (c_ix2_0 l Z a0 hw p ta xa ya (2 : Int32) sx sy ((oVt Z vt (.ref pa) (.ref xv) (.ref yv) (.long lt)) :: (oArr Z ta kt .long (lA 64 ft)) :: (oArr Z xa kxa .double (dA 64 fx)) :: (oArr Z ya kya .double (dA 64 fy)) :: rest)) rfl rfl 0 rfl (by decide) (by decide) (cells' := 0) rfl (slots' := 0) rfl (by decide) (by decide) fun T vV K' N qQ => ?_
  obtain ⟨rfl, rfl⟩ := qQ
  refine k_istore_n (pc := 5) N d26_5 (Ls' := #[.val (.ref vt), .val (.ref p), .val (.int (1 : Int32)), .unset, .unset, .unset, .unset, .unset, .unset, .unset, .unset, .unset, .unset, .unset, .unset, .unset, .unset, .unset, .unset, .unset, .unset, .unset, .unset, .unset]) rfl ?_
  refine k_iconst (pc := 6) N d26_6 (v := (0 : Int32)) (by decide) ?_
  refine k_istore_n (pc := 7) N d26_7 (Ls' := #[.val (.ref vt), .val (.ref p), .val (.int (1 : Int32)), .val (.int (0 : Int32)), .unset, .unset, .unset, .unset, .unset, .unset, .unset, .unset, .unset, .unset, .unset, .unset, .unset, .unset, .unset, .unset, .unset, .unset, .unset, .unset]) rfl ?_
  refine k_dconst0 (pc := 8) N d26_8 (v := (0 : UInt64)) rfl ?_
  refine k_dstore (pc := 9) N d26_9 (Ls' := #[.val (.ref vt), .val (.ref p), .val (.int (1 : Int32)), .val (.int (0 : Int32)), .val (.double (0 : UInt64)), .second, .unset, .unset, .unset, .unset, .unset, .unset, .unset, .unset, .unset, .unset, .unset, .unset, .unset, .unset, .unset, .unset, .unset, .unset]) rfl ?_
  refine k_dconst0 (pc := 11) N d26_11 (v := (0 : UInt64)) rfl ?_
  refine k_dstore (pc := 12) N d26_12 (Ls' := #[.val (.ref vt), .val (.ref p), .val (.int (1 : Int32)), .val (.int (0 : Int32)), .val (.double (0 : UInt64)), .second, .val (.double (0 : UInt64)), .second, .unset, .unset, .unset, .unset, .unset, .unset, .unset, .unset, .unset, .unset, .unset, .unset, .unset, .unset, .unset, .unset]) rfl ?_
  refine k_dconst0 (pc := 14) N d26_14 (v := (0 : UInt64)) rfl ?_
  refine k_dstore (pc := 15) N d26_15 (Ls' := #[.val (.ref vt), .val (.ref p), .val (.int (1 : Int32)), .val (.int (0 : Int32)), .val (.double (0 : UInt64)), .second, .val (.double (0 : UInt64)), .second, .val (.double (0 : UInt64)), .second, .unset, .unset, .unset, .unset, .unset, .unset, .unset, .unset, .unset, .unset, .unset, .unset, .unset, .unset]) rfl ?_
  refine k_dconst0 (pc := 17) N d26_17 (v := (0 : UInt64)) rfl ?_
  refine k_dstore (pc := 18) N d26_18 (Ls' := #[.val (.ref vt), .val (.ref p), .val (.int (1 : Int32)), .val (.int (0 : Int32)), .val (.double (0 : UInt64)), .second, .val (.double (0 : UInt64)), .second, .val (.double (0 : UInt64)), .second, .val (.double (0 : UInt64)), .second, .unset, .unset, .unset, .unset, .unset, .unset, .unset, .unset, .unset, .unset, .unset, .unset]) rfl ?_
  refine k_dconst0 (pc := 20) N d26_20 (v := (0 : UInt64)) rfl ?_
  refine k_dstore (pc := 21) N d26_21 (Ls' := #[.val (.ref vt), .val (.ref p), .val (.int (1 : Int32)), .val (.int (0 : Int32)), .val (.double (0 : UInt64)), .second, .val (.double (0 : UInt64)), .second, .val (.double (0 : UInt64)), .second, .val (.double (0 : UInt64)), .second, .val (.double (0 : UInt64)), .second, .unset, .unset, .unset, .unset, .unset, .unset, .unset, .unset, .unset, .unset]) rfl ?_
  refine k_dconst0 (pc := 23) N d26_23 (v := (0 : UInt64)) rfl ?_
  refine k_dstore (pc := 24) N d26_24 (Ls' := #[.val (.ref vt), .val (.ref p), .val (.int (1 : Int32)), .val (.int (0 : Int32)), .val (.double (0 : UInt64)), .second, .val (.double (0 : UInt64)), .second, .val (.double (0 : UInt64)), .second, .val (.double (0 : UInt64)), .second, .val (.double (0 : UInt64)), .second, .val (.double (0 : UInt64)), .second, .unset, .unset, .unset, .unset, .unset, .unset, .unset, .unset]) rfl ?_
  refine k_iconst (pc := 26) N d26_26 (v := (0 : Int32)) (by decide) ?_
  refine k_istore (pc := 27) N d26_27 (Ls' := #[.val (.ref vt), .val (.ref p), .val (.int (1 : Int32)), .val (.int (0 : Int32)), .val (.double (0 : UInt64)), .second, .val (.double (0 : UInt64)), .second, .val (.double (0 : UInt64)), .second, .val (.double (0 : UInt64)), .second, .val (.double (0 : UInt64)), .second, .val (.double (0 : UInt64)), .second, .val (.int (0 : Int32)), .unset, .unset, .unset, .unset, .unset, .unset, .unset]) rfl ?_
  refine k_iload (pc := 29) N d26_29 rfl ?_
  refine k_aload_n (pc := 31) N d26_31 rfl rfl ?_
  refine k_getR (pc := 32) N 0 3 d26_32 (hw _ (List.mem_of_getElem? (i := 192) rfl)) rfl rfl ?_
  refine k_icmp_ge (pc := 35) N d26_35 (pc' := 178) (by decide) (fun qQ => absurd qQ (by decide)) (fun _ => ?_)
  refine k_aload_n (pc := 38) N d26_38 rfl rfl ?_
  refine k_iload (pc := 39) N d26_39 rfl ?_
  refine k_virtual (pc := 41) N (y := (⟨"com/example/tapflow/tapflow/VelocityTracker$Positions", "index", "(I)I"⟩ : MethodName)) (z := (⟨"com/example/tapflow/tapflow/VelocityTracker$Positions", "index", "(I)I"⟩ : MethodName)) (rest := []) [.int (0 : Int32)] (a := p) d26_41 (fun h N => N.exa (i := 0) rfl) (hw _ (List.mem_of_getElem? (i := 184) rfl)) (hw _ (List.mem_of_getElem? (i := 185) rfl)) (nf_self (hw _ (List.mem_of_getElem? (i := 187) rfl))) (hw _ (List.mem_of_getElem? (i := 187) rfl)) (hw _ (List.mem_of_getElem? (i := 186) rfl)) (hw _ (List.mem_of_getElem? (i := 118) rfl)) (hw _ (List.mem_of_getElem? (i := 188) rfl)) (by decide) pd__I_I rfl (c_ix2_0 l Z a0 hw p ta xa ya (2 : Int32) sx sy ((oVt Z vt (.ref pa) (.ref xv) (.ref yv) (.long lt)) :: (oArr Z ta kt .long (lA 64 ft)) :: (oArr Z xa kxa .double (dA 64 fx)) :: (oArr Z ya kya .double (dA 64 fy)) :: rest)) rfl rfl 0 rfl (by decide) (by decide) (cells' := 0) rfl (slots' := 0) rfl (by decide) (by decide) fun T vV K' N qQ => ?_
  obtain ⟨rfl, rfl⟩ := qQ
  refine k_istore (pc := 44) N d26_44 (Ls' := #[.val (.ref vt), .val (.ref p), .val (.int (1 : Int32)), .val (.int (0 : Int32)), .val (.double (0 : UInt64)), .second, .val (.double (0 : UInt64)), .second, .val (.double (0 : UInt64)), .second, .val (.double (0 : UInt64)), .second, .val (.double (0 : UInt64)), .second, .val (.double (0 : UInt64)), .second, .val (.int (0 : Int32)), .val (.int (1 : Int32)), .unset, .unset, .unset, .unset, .unset, .unset]) rfl ?_
  refine k_aload_n (pc := 46) N d26_46 rfl rfl ?_
  refine k_get (pc := 47) (host := "") N 1 3 d26_47 (Or.inl (hw _ (List.mem_of_getElem? (i := 167) rfl))) Via.refl rfl rfl fun T N => ?_
  refine k_aload_n (pc := 50) N d26_50 rfl rfl ?_
  refine k_getR (pc := 51) N 0 0 d26_51 (hw _ (List.mem_of_getElem? (i := 193) rfl)) rfl rfl ?_
  refine k_iload (pc := 54) N d26_54 rfl ?_
  refine k_laload (pc := 56) N 2 1 d26_56 rfl (by decide) (by decide) (v := .long (ft 1)) (aF_get (by decide)) ?_
  refine k_lsub (pc := 57) N d26_57 ?_
  rw [ht1]
  refine k_ldcJ (pc := 58) N d26_58 (hw _ (List.mem_of_getElem? (i := 194) rfl)) ?_
  refine k_lcmp (pc := 61) N d26_61 ?_
  refine k_if_gt (pc := 62) N d26_62 (pc' := 172) (by decide) (fun qQ => absurd qQ (by decide)) (fun _ => ?_)
  refine k_aload_n (pc := 65) N d26_65 rfl rfl ?_
  refine k_getR (pc := 66) N 0 0 d26_66 (hw _ (List.mem_of_getElem? (i := 193) rfl)) rfl rfl ?_
  refine k_iload (pc := 69) N d26_69 rfl ?_
  refine k_laload (pc := 71) N 2 1 d26_71 rfl (by decide) (by decide) (v := .long (ft 1)) (aF_get (by decide)) ?_
  refine k_aload_n (pc := 72) N d26_72 rfl rfl ?_
  refine k_getR (pc := 73) N 0 0 d26_73 (hw _ (List.mem_of_getElem? (i := 193) rfl)) rfl rfl ?_
  refine k_iload_n (pc := 76) N d26_76 rfl ?_
  refine k_laload (pc := 77) N 2 1 d26_77 rfl (by decide) (by decide) (v := .long (ft 1)) (aF_get (by decide)) ?_
  refine k_lsub (pc := 78) N d26_78 ?_
  rw [show ((ft 1) - (ft 1)) = (0 : Int64) from Int64.sub_self _]
  refine k_l2d (pc := 79) N d26_79 ?_
  refine k_ldcD (pc := 80) N d26_80 (hw _ (List.mem_of_getElem? (i := 195) rfl)) ?_
  refine k_ddiv (pc := 83) N d26_83 (v := (0 : UInt64)) tq0n tq0 ?_
  refine k_dstore (pc := 84) N d26_84 (Ls' := #[.val (.ref vt), .val (.ref p), .val (.int (1 : Int32)), .val (.int (0 : Int32)), .val (.double (0 : UInt64)), .second, .val (.double (0 : UInt64)), .second, .val (.double (0 : UInt64)), .second, .val (.double (0 : UInt64)), .second, .val (.double (0 : UInt64)), .second, .val (.double (0 : UInt64)), .second, .val (.int (0 : Int32)), .val (.int (1 : Int32)), .val (.double (0 : UInt64)), .second, .unset, .unset, .unset, .unset]) rfl ?_
  refine k_aload_n (pc := 86) N d26_86 rfl rfl ?_
  refine k_getR (pc := 87) N 0 1 d26_87 (hw _ (List.mem_of_getElem? (i := 196) rfl)) rfl rfl ?_
  refine k_iload (pc := 90) N d26_90 rfl ?_
  refine k_daload (pc := 92) N 3 1 d26_92 rfl (by decide) (by decide) (v := .double (fx 1)) (aF_get (by decide)) ?_
  refine k_aload_n (pc := 93) N d26_93 rfl rfl ?_
  refine k_getR (pc := 94) N 0 1 d26_94 (hw _ (List.mem_of_getElem? (i := 196) rfl)) rfl rfl ?_
  refine k_iload_n (pc := 97) N d26_97 rfl ?_
  refine k_daload (pc := 98) N 3 1 d26_98 rfl (by decide) (by decide) (v := .double (fx 1)) (aF_get (by decide)) ?_
  refine k_dsub (pc := 99) N d26_99 (v := (FP.dsub (fx 1) (fx 1))) (dnn (D_sub hx1 hx1 (k := (0)) (by omega) (by omega))) rfl ?_
  have hd1 : DInt (0) (FP.dsub (fx 1) (fx 1)) := (D_sub hx1 hx1 (k := (0)) (by omega) (by omega))
  generalize (FP.dsub (fx 1) (fx 1)) = d1 at hd1 ⊢
  refine k_dstore (pc := 100) N d26_100 (Ls' := #[.val (.ref vt), .val (.ref p), .val (.int (1 : Int32)), .val (.int (0 : Int32)), .val (.double (0 : UInt64)), .second, .val (.double (0 : UInt64)), .second, .val (.double (0 : UInt64)), .second, .val (.double (0 : UInt64)), .second, .val (.double (0 : UInt64)), .second, .val (.double (0 : UInt64)), .second, .val (.int (0 : Int32)), .val (.int (1 : Int32)), .val (.double (0 : UInt64)), .second, .val (.double d1), .second, .unset, .unset]) rfl ?_
  refine k_aload_n (pc := 102) N d26_102 rfl rfl ?_
  refine k_getR (pc := 103) N 0 2 d26_103 (hw _ (List.mem_of_getElem? (i := 197) rfl)) rfl rfl ?_
  refine k_iload (pc := 106) N d26_106 rfl ?_
  refine k_daload (pc := 108) N 4 1 d26_108 rfl (by decide) (by decide) (v := .double (fy 1)) (aF_get (by decide)) ?_
  refine k_aload_n (pc := 109) N d26_109 rfl rfl ?_
  refine k_getR (pc := 110) N 0 2 d26_110 (hw _ (List.mem_of_getElem? (i := 197) rfl)) rfl rfl ?_
  refine k_iload_n (pc := 113) N d26_113 rfl ?_
  refine k_daload (pc := 114) N 4 1 d26_114 rfl (by decide) (by decide) (v := .double (fy 1)) (aF_get (by decide)) ?_
  refine k_dsub (pc := 115) N d26_115 (v := (FP.dsub (fy 1) (fy 1))) (dnn (D_sub hy1 hy1 (k := (0)) (by omega) (by omega))) rfl ?_
  have hd2 : DInt (0) (FP.dsub (fy 1) (fy 1)) := (D_sub hy1 hy1 (k := (0)) (by omega) (by omega))
  generalize (FP.dsub (fy 1) (fy 1)) = d2 at hd2 ⊢
  refine k_dstore (pc := 116) N d26_116 (Ls' := #[.val (.ref vt), .val (.ref p), .val (.int (1 : Int32)), .val (.int (0 : Int32)), .val (.double (0 : UInt64)), .second, .val (.double (0 : UInt64)), .second, .val (.double (0 : UInt64)), .second, .val (.double (0 : UInt64)), .second, .val (.double (0 : UInt64)), .second, .val (.double (0 : UInt64)), .second, .val (.int (0 : Int32)), .val (.int (1 : Int32)), .val (.double (0 : UInt64)), .second, .val (.double d1), .second, .val (.double d2), .second]) rfl ?_
  refine k_iinc (pc := 118) N d26_118 rfl (v := (1 : Int32)) (by decide) (Ls' := #[.val (.ref vt), .val (.ref p), .val (.int (1 : Int32)), .val (.int (1 : Int32)), .val (.double (0 : UInt64)), .second, .val (.double (0 : UInt64)), .second, .val (.double (0 : UInt64)), .second, .val (.double (0 : UInt64)), .second, .val (.double (0 : UInt64)), .second, .val (.double (0 : UInt64)), .second, .val (.int (0 : Int32)), .val (.int (1 : Int32)), .val (.double (0 : UInt64)), .second, .val (.double d1), .second, .val (.double d2), .second]) rfl ?_
  refine k_dload (pc := 121) N d26_121 rfl ?_
  refine k_dload (pc := 123) N d26_123 rfl ?_
  refine k_dadd (pc := 125) N d26_125 (v := (FP.dadd (0 : UInt64) (0 : UInt64))) (dnn (D_add di0 di0 (k := (0)) (by omega) (by omega))) rfl ?_
  have hd3 : DInt (0) (FP.dadd (0 : UInt64) (0 : UInt64)) := (D_add di0 di0 (k := (0)) (by omega) (by omega))
  generalize (FP.dadd (0 : UInt64) (0 : UInt64)) = d3 at hd3 ⊢
  refine k_dstore (pc := 126) N d26_126 (Ls' := #[.val (.ref vt), .val (.ref p), .val (.int (1 : Int32)), .val (.int (1 : Int32)), .val (.double d3), .second, .val (.double (0 : UInt64)), .second, .val (.double (0 : UInt64)), .second, .val (.double (0 : UInt64)), .second, .val (.double (0 : UInt64)), .second, .val (.double (0 : UInt64)), .second, .val (.int (0 : Int32)), .val (.int (1 : Int32)), .val (.double (0 : UInt64)), .second, .val (.double d1), .second, .val (.double d2), .second]) rfl ?_
  refine k_dload (pc := 128) N d26_128 rfl ?_
  refine k_dload (pc := 130) N d26_130 rfl ?_
  refine k_dadd (pc := 132) N d26_132 (v := (FP.dadd (0 : UInt64) d1)) (dnn (D_add di0 hd1 (k := (0)) (by omega) (by omega))) rfl ?_
  have hd4 : DInt (0) (FP.dadd (0 : UInt64) d1) := (D_add di0 hd1 (k := (0)) (by omega) (by omega))
  generalize (FP.dadd (0 : UInt64) d1) = d4 at hd4 ⊢
  refine k_dstore (pc := 133) N d26_133 (Ls' := #[.val (.ref vt), .val (.ref p), .val (.int (1 : Int32)), .val (.int (1 : Int32)), .val (.double d3), .second, .val (.double d4), .second, .val (.double (0 : UInt64)), .second, .val (.double (0 : UInt64)), .second, .val (.double (0 : UInt64)), .second, .val (.double (0 : UInt64)), .second, .val (.int (0 : Int32)), .val (.int (1 : Int32)), .val (.double (0 : UInt64)), .second, .val (.double d1), .second, .val (.double d2), .second]) rfl ?_
  refine k_dload (pc := 135) N d26_135 rfl ?_
  refine k_dload (pc := 137) N d26_137 rfl ?_
  refine k_dadd (pc := 139) N d26_139 (v := (FP.dadd (0 : UInt64) d2)) (dnn (D_add di0 hd2 (k := (0)) (by omega) (by omega))) rfl ?_
  have hd5 : DInt (0) (FP.dadd (0 : UInt64) d2) := (D_add di0 hd2 (k := (0)) (by omega) (by omega))
  generalize (FP.dadd (0 : UInt64) d2) = d5 at hd5 ⊢
  refine k_dstore (pc := 140) N d26_140 (Ls' := #[.val (.ref vt), .val (.ref p), .val (.int (1 : Int32)), .val (.int (1 : Int32)), .val (.double d3), .second, .val (.double d4), .second, .val (.double d5), .second, .val (.double (0 : UInt64)), .second, .val (.double (0 : UInt64)), .second, .val (.double (0 : UInt64)), .second, .val (.int (0 : Int32)), .val (.int (1 : Int32)), .val (.double (0 : UInt64)), .second, .val (.double d1), .second, .val (.double d2), .second]) rfl ?_
  refine k_dload (pc := 142) N d26_142 rfl ?_
  refine k_dload (pc := 144) N d26_144 rfl ?_
  refine k_dload (pc := 146) N d26_146 rfl ?_
  refine k_dmul (pc := 148) N d26_148 (v := (FP.dmul (0 : UInt64) (0 : UInt64))) (dnn (D_mul di0 di0 (k := (0)) (by omega) (by omega))) rfl ?_
  have hd6 : DInt (0) (FP.dmul (0 : UInt64) (0 : UInt64)) := (D_mul di0 di0 (k := (0)) (by omega) (by omega))
  generalize (FP.dmul (0 : UInt64) (0 : UInt64)) = d6 at hd6 ⊢
  refine k_dadd (pc := 149) N d26_149 (v := (FP.dadd (0 : UInt64) d6)) (dnn (D_add di0 hd6 (k := (0)) (by omega) (by omega))) rfl ?_
  have hd7 : DInt (0) (FP.dadd (0 : UInt64) d6) := (D_add di0 hd6 (k := (0)) (by omega) (by omega))
  generalize (FP.dadd (0 : UInt64) d6) = d7 at hd7 ⊢
  refine k_dstore (pc := 150) N d26_150 (Ls' := #[.val (.ref vt), .val (.ref p), .val (.int (1 : Int32)), .val (.int (1 : Int32)), .val (.double d3), .second, .val (.double d4), .second, .val (.double d5), .second, .val (.double d7), .second, .val (.double (0 : UInt64)), .second, .val (.double (0 : UInt64)), .second, .val (.int (0 : Int32)), .val (.int (1 : Int32)), .val (.double (0 : UInt64)), .second, .val (.double d1), .second, .val (.double d2), .second]) rfl ?_
  refine k_dload (pc := 152) N d26_152 rfl ?_
  refine k_dload (pc := 154) N d26_154 rfl ?_
  refine k_dload (pc := 156) N d26_156 rfl ?_
  refine k_dmul (pc := 158) N d26_158 (v := (FP.dmul (0 : UInt64) d1)) (dnn (D_mul di0 hd1 (k := (0)) (by omega) (by omega))) rfl ?_
  have hd8 : DInt (0) (FP.dmul (0 : UInt64) d1) := (D_mul di0 hd1 (k := (0)) (by omega) (by omega))
  generalize (FP.dmul (0 : UInt64) d1) = d8 at hd8 ⊢
  refine k_dadd (pc := 159) N d26_159 (v := (FP.dadd (0 : UInt64) d8)) (dnn (D_add di0 hd8 (k := (0)) (by omega) (by omega))) rfl ?_
  have hd9 : DInt (0) (FP.dadd (0 : UInt64) d8) := (D_add di0 hd8 (k := (0)) (by omega) (by omega))
  generalize (FP.dadd (0 : UInt64) d8) = d9 at hd9 ⊢
  refine k_dstore (pc := 160) N d26_160 (Ls' := #[.val (.ref vt), .val (.ref p), .val (.int (1 : Int32)), .val (.int (1 : Int32)), .val (.double d3), .second, .val (.double d4), .second, .val (.double d5), .second, .val (.double d7), .second, .val (.double d9), .second, .val (.double (0 : UInt64)), .second, .val (.int (0 : Int32)), .val (.int (1 : Int32)), .val (.double (0 : UInt64)), .second, .val (.double d1), .second, .val (.double d2), .second]) rfl ?_
  refine k_dload (pc := 162) N d26_162 rfl ?_
  refine k_dload (pc := 164) N d26_164 rfl ?_
  refine k_dload (pc := 166) N d26_166 rfl ?_
  refine k_dmul (pc := 168) N d26_168 (v := (FP.dmul (0 : UInt64) d2)) (dnn (D_mul di0 hd2 (k := (0)) (by omega) (by omega))) rfl ?_
  have hd10 : DInt (0) (FP.dmul (0 : UInt64) d2) := (D_mul di0 hd2 (k := (0)) (by omega) (by omega))
  generalize (FP.dmul (0 : UInt64) d2) = d10 at hd10 ⊢
  refine k_dadd (pc := 169) N d26_169 (v := (FP.dadd (0 : UInt64) d10)) (dnn (D_add di0 hd10 (k := (0)) (by omega) (by omega))) rfl ?_
  have hd11 : DInt (0) (FP.dadd (0 : UInt64) d10) := (D_add di0 hd10 (k := (0)) (by omega) (by omega))
  generalize (FP.dadd (0 : UInt64) d10) = d11 at hd11 ⊢
  refine k_dstore (pc := 170) N d26_170 (Ls' := #[.val (.ref vt), .val (.ref p), .val (.int (1 : Int32)), .val (.int (1 : Int32)), .val (.double d3), .second, .val (.double d4), .second, .val (.double d5), .second, .val (.double d7), .second, .val (.double d9), .second, .val (.double d11), .second, .val (.int (0 : Int32)), .val (.int (1 : Int32)), .val (.double (0 : UInt64)), .second, .val (.double d1), .second, .val (.double d2), .second]) rfl ?_
  refine k_iinc (pc := 172) N d26_172 rfl (v := (1 : Int32)) (by decide) (Ls' := #[.val (.ref vt), .val (.ref p), .val (.int (1 : Int32)), .val (.int (1 : Int32)), .val (.double d3), .second, .val (.double d4), .second, .val (.double d5), .second, .val (.double d7), .second, .val (.double d9), .second, .val (.double d11), .second, .val (.int (1 : Int32)), .val (.int (1 : Int32)), .val (.double (0 : UInt64)), .second, .val (.double d1), .second, .val (.double d2), .second]) rfl ?_
  refine k_goto (pc := 175) N d26_175 (pc' := 29) (by decide) ?_
  refine k_iload (pc := 29) N d26_29 rfl ?_
  refine k_aload_n (pc := 31) N d26_31 rfl rfl ?_
  refine k_getR (pc := 32) N 0 3 d26_32 (hw _ (List.mem_of_getElem? (i := 192) rfl)) rfl rfl ?_
  refine k_icmp_ge (pc := 35) N d26_35 (pc' := 178) (by decide) (fun qQ => absurd qQ (by decide)) (fun _ => ?_)
  refine k_aload_n (pc := 38) N d26_38 rfl rfl ?_
  refine k_iload (pc := 39) N d26_39 rfl ?_
  refine k_virtual (pc := 41) N (y := (⟨"com/example/tapflow/tapflow/VelocityTracker$Positions", "index", "(I)I"⟩ : MethodName)) (z := (⟨"com/example/tapflow/tapflow/VelocityTracker$Positions", "index", "(I)I"⟩ : MethodName)) (rest := []) [.int (1 : Int32)] (a := p) d26_41 (fun h N => N.exa (i := 0) rfl) (hw _ (List.mem_of_getElem? (i := 184) rfl)) (hw _ (List.mem_of_getElem? (i := 185) rfl)) (nf_self (hw _ (List.mem_of_getElem? (i := 187) rfl))) (hw _ (List.mem_of_getElem? (i := 187) rfl)) (hw _ (List.mem_of_getElem? (i := 186) rfl)) (hw _ (List.mem_of_getElem? (i := 118) rfl)) (hw _ (List.mem_of_getElem? (i := 188) rfl)) (by decide) pd__I_I rfl (c_ix2_1 l Z a0 hw p ta xa ya (2 : Int32) sx sy ((oVt Z vt (.ref pa) (.ref xv) (.ref yv) (.long lt)) :: (oArr Z ta kt .long (lA 64 ft)) :: (oArr Z xa kxa .double (dA 64 fx)) :: (oArr Z ya kya .double (dA 64 fy)) :: rest)) rfl rfl 0 rfl (by decide) (by decide) (cells' := 0) rfl (slots' := 0) rfl (by decide) (by decide) fun T vV K' N qQ => ?_
  obtain ⟨rfl, rfl⟩ := qQ
  refine k_istore (pc := 44) N d26_44 (Ls' := #[.val (.ref vt), .val (.ref p), .val (.int (1 : Int32)), .val (.int (1 : Int32)), .val (.double d3), .second, .val (.double d4), .second, .val (.double d5), .second, .val (.double d7), .second, .val (.double d9), .second, .val (.double d11), .second, .val (.int (1 : Int32)), .val (.int (0 : Int32)), .val (.double (0 : UInt64)), .second, .val (.double d1), .second, .val (.double d2), .second]) rfl ?_
  refine k_aload_n (pc := 46) N d26_46 rfl rfl ?_
  refine k_get (pc := 47) (host := "") N 1 3 d26_47 (Or.inl (hw _ (List.mem_of_getElem? (i := 167) rfl))) Via.refl rfl rfl fun T N => ?_
  refine k_aload_n (pc := 50) N d26_50 rfl rfl ?_
  refine k_getR (pc := 51) N 0 0 d26_51 (hw _ (List.mem_of_getElem? (i := 193) rfl)) rfl rfl ?_
  refine k_iload (pc := 54) N d26_54 rfl ?_
  refine k_laload (pc := 56) N 2 0 d26_56 rfl (by decide) (by decide) (v := .long (ft 0)) (aF_get (by decide)) ?_
  refine k_lsub (pc := 57) N d26_57 ?_
  rw [ht0]
  refine k_ldcJ (pc := 58) N d26_58 (hw _ (List.mem_of_getElem? (i := 194) rfl)) ?_
  refine k_lcmp (pc := 61) N d26_61 ?_
  refine k_if_gt (pc := 62) N d26_62 (pc' := 172) (by decide) (fun qQ => absurd qQ (by decide)) (fun _ => ?_)
  refine k_aload_n (pc := 65) N d26_65 rfl rfl ?_
  refine k_getR (pc := 66) N 0 0 d26_66 (hw _ (List.mem_of_getElem? (i := 193) rfl)) rfl rfl ?_
  refine k_iload (pc := 69) N d26_69 rfl ?_
  refine k_laload (pc := 71) N 2 0 d26_71 rfl (by decide) (by decide) (v := .long (ft 0)) (aF_get (by decide)) ?_
  refine k_aload_n (pc := 72) N d26_72 rfl rfl ?_
  refine k_getR (pc := 73) N 0 0 d26_73 (hw _ (List.mem_of_getElem? (i := 193) rfl)) rfl rfl ?_
  refine k_iload_n (pc := 76) N d26_76 rfl ?_
  refine k_laload (pc := 77) N 2 1 d26_77 rfl (by decide) (by decide) (v := .long (ft 1)) (aF_get (by decide)) ?_
  refine k_lsub (pc := 78) N d26_78 ?_
  rw [ht01]
  refine k_l2d (pc := 79) N d26_79 ?_
  refine k_ldcD (pc := 80) N d26_80 (hw _ (List.mem_of_getElem? (i := 195) rfl)) ?_
  refine k_ddiv (pc := 83) N d26_83 (v := 13830554455654793216) tqmn tqm ?_
  refine k_dstore (pc := 84) N d26_84 (Ls' := #[.val (.ref vt), .val (.ref p), .val (.int (1 : Int32)), .val (.int (1 : Int32)), .val (.double d3), .second, .val (.double d4), .second, .val (.double d5), .second, .val (.double d7), .second, .val (.double d9), .second, .val (.double d11), .second, .val (.int (1 : Int32)), .val (.int (0 : Int32)), .val (.double 13830554455654793216), .second, .val (.double d1), .second, .val (.double d2), .second]) rfl ?_
  refine k_aload_n (pc := 86) N d26_86 rfl rfl ?_
  refine k_getR (pc := 87) N 0 1 d26_87 (hw _ (List.mem_of_getElem? (i := 196) rfl)) rfl rfl ?_
  refine k_iload (pc := 90) N d26_90 rfl ?_
  refine k_daload (pc := 92) N 3 0 d26_92 rfl (by decide) (by decide) (v := .double (fx 0)) (aF_get (by decide)) ?_
  refine k_aload_n (pc := 93) N d26_93 rfl rfl ?_
  refine k_getR (pc := 94) N 0 1 d26_94 (hw _ (List.mem_of_getElem? (i := 196) rfl)) rfl rfl ?_
  refine k_iload_n (pc := 97) N d26_97 rfl ?_
  refine k_daload (pc := 98) N 3 1 d26_98 rfl (by decide) (by decide) (v := .double (fx 1)) (aF_get (by decide)) ?_
  refine k_dsub (pc := 99) N d26_99 (v := (FP.dsub (fx 0) (fx 1))) (dnn (D_sub hx0 hx1 (k := (1 * x0 + (-1) * x1)) (by omega) (by omega))) rfl ?_
  have hd12 : DInt (1 * x0 + (-1) * x1) (FP.dsub (fx 0) (fx 1)) := (D_sub hx0 hx1 (k := (1 * x0 + (-1) * x1)) (by omega) (by omega))
  generalize (FP.dsub (fx 0) (fx 1)) = d12 at hd12 ⊢
  refine k_dstore (pc := 100) N d26_100 (Ls' := #[.val (.ref vt), .val (.ref p), .val (.int (1 : Int32)), .val (.int (1 : Int32)), .val (.double d3), .second, .val (.double d4), .second, .val (.double d5), .second, .val (.double d7), .second, .val (.double d9), .second, .val (.double d11), .second, .val (.int (1 : Int32)), .val (.int (0 : Int32)), .val (.double 13830554455654793216), .second, .val (.double d12), .second, .val (.double d2), .second]) rfl ?_
  refine k_aload_n (pc := 102) N d26_102 rfl rfl ?_
  refine k_getR (pc := 103) N 0 2 d26_103 (hw _ (List.mem_of_getElem? (i := 197) rfl)) rfl rfl ?_
  refine k_iload (pc := 106) N d26_106 rfl ?_
  refine k_daload (pc := 108) N 4 0 d26_108 rfl (by decide) (by decide) (v := .double (fy 0)) (aF_get (by decide)) ?_
  refine k_aload_n (pc := 109) N d26_109 rfl rfl ?_
  refine k_getR (pc := 110) N 0 2 d26_110 (hw _ (List.mem_of_getElem? (i := 197) rfl)) rfl rfl ?_
  refine k_iload_n (pc := 113) N d26_113 rfl ?_
  refine k_daload (pc := 114) N 4 1 d26_114 rfl (by decide) (by decide) (v := .double (fy 1)) (aF_get (by decide)) ?_
  refine k_dsub (pc := 115) N d26_115 (v := (FP.dsub (fy 0) (fy 1))) (dnn (D_sub hy0 hy1 (k := (1 * y0 + (-1) * y1)) (by omega) (by omega))) rfl ?_
  have hd13 : DInt (1 * y0 + (-1) * y1) (FP.dsub (fy 0) (fy 1)) := (D_sub hy0 hy1 (k := (1 * y0 + (-1) * y1)) (by omega) (by omega))
  generalize (FP.dsub (fy 0) (fy 1)) = d13 at hd13 ⊢
  refine k_dstore (pc := 116) N d26_116 (Ls' := #[.val (.ref vt), .val (.ref p), .val (.int (1 : Int32)), .val (.int (1 : Int32)), .val (.double d3), .second, .val (.double d4), .second, .val (.double d5), .second, .val (.double d7), .second, .val (.double d9), .second, .val (.double d11), .second, .val (.int (1 : Int32)), .val (.int (0 : Int32)), .val (.double 13830554455654793216), .second, .val (.double d12), .second, .val (.double d13), .second]) rfl ?_
  refine k_iinc (pc := 118) N d26_118 rfl (v := (2 : Int32)) (by decide) (Ls' := #[.val (.ref vt), .val (.ref p), .val (.int (1 : Int32)), .val (.int (2 : Int32)), .val (.double d3), .second, .val (.double d4), .second, .val (.double d5), .second, .val (.double d7), .second, .val (.double d9), .second, .val (.double d11), .second, .val (.int (1 : Int32)), .val (.int (0 : Int32)), .val (.double 13830554455654793216), .second, .val (.double d12), .second, .val (.double d13), .second]) rfl ?_
  refine k_dload (pc := 121) N d26_121 rfl ?_
  refine k_dload (pc := 123) N d26_123 rfl ?_
  refine k_dadd (pc := 125) N d26_125 (v := (FP.dadd d3 13830554455654793216)) (dnn (D_add hd3 dim1 (k := ((-1))) (by omega) (by omega))) rfl ?_
  have hd14 : DInt ((-1)) (FP.dadd d3 13830554455654793216) := (D_add hd3 dim1 (k := ((-1))) (by omega) (by omega))
  generalize (FP.dadd d3 13830554455654793216) = d14 at hd14 ⊢
  refine k_dstore (pc := 126) N d26_126 (Ls' := #[.val (.ref vt), .val (.ref p), .val (.int (1 : Int32)), .val (.int (2 : Int32)), .val (.double d14), .second, .val (.double d4), .second, .val (.double d5), .second, .val (.double d7), .second, .val (.double d9), .second, .val (.double d11), .second, .val (.int (1 : Int32)), .val (.int (0 : Int32)), .val (.double 13830554455654793216), .second, .val (.double d12), .second, .val (.double d13), .second]) rfl ?_
  refine k_dload (pc := 128) N d26_128 rfl ?_
  refine k_dload (pc := 130) N d26_130 rfl ?_
  refine k_dadd (pc := 132) N d26_132 (v := (FP.dadd d4 d12)) (dnn (D_add hd4 hd12 (k := (1 * x0 + (-1) * x1)) (by omega) (by omega))) rfl ?_
  have hd15 : DInt (1 * x0 + (-1) * x1) (FP.dadd d4 d12) := (D_add hd4 hd12 (k := (1 * x0 + (-1) * x1)) (by omega) (by omega))
  generalize (FP.dadd d4 d12) = d15 at hd15 ⊢
  refine k_dstore (pc := 133) N d26_133 (Ls' := #[.val (.ref vt), .val (.ref p), .val (.int (1 : Int32)), .val (.int (2 : Int32)), .val (.double d14), .second, .val (.double d15), .second, .val (.double d5), .second, .val (.double d7), .second, .val (.double d9), .second, .val (.double d11), .second, .val (.int (1 : Int32)), .val (.int (0 : Int32)), .val (.double 13830554455654793216), .second, .val (.double d12), .second, .val (.double d13), .second]) rfl ?_
  refine k_dload (pc := 135) N d26_135 rfl ?_
  refine k_dload (pc := 137) N d26_137 rfl ?_
  refine k_dadd (pc := 139) N d26_139 (v := (FP.dadd d5 d13)) (dnn (D_add hd5 hd13 (k := (1 * y0 + (-1) * y1)) (by omega) (by omega))) rfl ?_
  have hd16 : DInt (1 * y0 + (-1) * y1) (FP.dadd d5 d13) := (D_add hd5 hd13 (k := (1 * y0 + (-1) * y1)) (by omega) (by omega))
  generalize (FP.dadd d5 d13) = d16 at hd16 ⊢
  refine k_dstore (pc := 140) N d26_140 (Ls' := #[.val (.ref vt), .val (.ref p), .val (.int (1 : Int32)), .val (.int (2 : Int32)), .val (.double d14), .second, .val (.double d15), .second, .val (.double d16), .second, .val (.double d7), .second, .val (.double d9), .second, .val (.double d11), .second, .val (.int (1 : Int32)), .val (.int (0 : Int32)), .val (.double 13830554455654793216), .second, .val (.double d12), .second, .val (.double d13), .second]) rfl ?_
  refine k_dload (pc := 142) N d26_142 rfl ?_
  refine k_dload (pc := 144) N d26_144 rfl ?_
  refine k_dload (pc := 146) N d26_146 rfl ?_
  refine k_dmul (pc := 148) N d26_148 (v := (FP.dmul 13830554455654793216 13830554455654793216)) (dnn (D_mul dim1 dim1 (k := (1)) (by omega) (by omega))) rfl ?_
  have hd17 : DInt (1) (FP.dmul 13830554455654793216 13830554455654793216) := (D_mul dim1 dim1 (k := (1)) (by omega) (by omega))
  generalize (FP.dmul 13830554455654793216 13830554455654793216) = d17 at hd17 ⊢
  refine k_dadd (pc := 149) N d26_149 (v := (FP.dadd d7 d17)) (dnn (D_add hd7 hd17 (k := (1)) (by omega) (by omega))) rfl ?_
  have hd18 : DInt (1) (FP.dadd d7 d17) := (D_add hd7 hd17 (k := (1)) (by omega) (by omega))
  generalize (FP.dadd d7 d17) = d18 at hd18 ⊢
  refine k_dstore (pc := 150) N d26_150 (Ls' := #[.val (.ref vt), .val (.ref p), .val (.int (1 : Int32)), .val (.int (2 : Int32)), .val (.double d14), .second, .val (.double d15), .second, .val (.double d16), .second, .val (.double d18), .second, .val (.double d9), .second, .val (.double d11), .second, .val (.int (1 : Int32)), .val (.int (0 : Int32)), .val (.double 13830554455654793216), .second, .val (.double d12), .second, .val (.double d13), .second]) rfl ?_
  refine k_dload (pc := 152) N d26_152 rfl ?_
  refine k_dload (pc := 154) N d26_154 rfl ?_
  refine k_dload (pc := 156) N d26_156 rfl ?_
  refine k_dmul (pc := 158) N d26_158 (v := (FP.dmul 13830554455654793216 d12)) (dnn (D_mul dim1 hd12 (k := ((-1) * x0 + 1 * x1)) (by omega) (by omega))) rfl ?_
  have hd19 : DInt ((-1) * x0 + 1 * x1) (FP.dmul 13830554455654793216 d12) := (D_mul dim1 hd12 (k := ((-1) * x0 + 1 * x1)) (by omega) (by omega))
  generalize (FP.dmul 13830554455654793216 d12) = d19 at hd19 ⊢
  refine k_dadd (pc := 159) N d26_159 (v := (FP.dadd d9 d19)) (dnn (D_add hd9 hd19 (k := ((-1) * x0 + 1 * x1)) (by omega) (by omega))) rfl ?_
  have hd20 : DInt ((-1) * x0 + 1 * x1) (FP.dadd d9 d19) := (D_add hd9 hd19 (k := ((-1) * x0 + 1 * x1)) (by omega) (by omega))
  generalize (FP.dadd d9 d19) = d20 at hd20 ⊢
  refine k_dstore (pc := 160) N d26_160 (Ls' := #[.val (.ref vt), .val (.ref p), .val (.int (1 : Int32)), .val (.int (2 : Int32)), .val (.double d14), .second, .val (.double d15), .second, .val (.double d16), .second, .val (.double d18), .second, .val (.double d20), .second, .val (.double d11), .second, .val (.int (1 : Int32)), .val (.int (0 : Int32)), .val (.double 13830554455654793216), .second, .val (.double d12), .second, .val (.double d13), .second]) rfl ?_
  refine k_dload (pc := 162) N d26_162 rfl ?_
  refine k_dload (pc := 164) N d26_164 rfl ?_
  refine k_dload (pc := 166) N d26_166 rfl ?_
  refine k_dmul (pc := 168) N d26_168 (v := (FP.dmul 13830554455654793216 d13)) (dnn (D_mul dim1 hd13 (k := ((-1) * y0 + 1 * y1)) (by omega) (by omega))) rfl ?_
  have hd21 : DInt ((-1) * y0 + 1 * y1) (FP.dmul 13830554455654793216 d13) := (D_mul dim1 hd13 (k := ((-1) * y0 + 1 * y1)) (by omega) (by omega))
  generalize (FP.dmul 13830554455654793216 d13) = d21 at hd21 ⊢
  refine k_dadd (pc := 169) N d26_169 (v := (FP.dadd d11 d21)) (dnn (D_add hd11 hd21 (k := ((-1) * y0 + 1 * y1)) (by omega) (by omega))) rfl ?_
  have hd22 : DInt ((-1) * y0 + 1 * y1) (FP.dadd d11 d21) := (D_add hd11 hd21 (k := ((-1) * y0 + 1 * y1)) (by omega) (by omega))
  generalize (FP.dadd d11 d21) = d22 at hd22 ⊢
  refine k_dstore (pc := 170) N d26_170 (Ls' := #[.val (.ref vt), .val (.ref p), .val (.int (1 : Int32)), .val (.int (2 : Int32)), .val (.double d14), .second, .val (.double d15), .second, .val (.double d16), .second, .val (.double d18), .second, .val (.double d20), .second, .val (.double d22), .second, .val (.int (1 : Int32)), .val (.int (0 : Int32)), .val (.double 13830554455654793216), .second, .val (.double d12), .second, .val (.double d13), .second]) rfl ?_
  refine k_iinc (pc := 172) N d26_172 rfl (v := (2 : Int32)) (by decide) (Ls' := #[.val (.ref vt), .val (.ref p), .val (.int (1 : Int32)), .val (.int (2 : Int32)), .val (.double d14), .second, .val (.double d15), .second, .val (.double d16), .second, .val (.double d18), .second, .val (.double d20), .second, .val (.double d22), .second, .val (.int (2 : Int32)), .val (.int (0 : Int32)), .val (.double 13830554455654793216), .second, .val (.double d12), .second, .val (.double d13), .second]) rfl ?_
  refine k_goto (pc := 175) N d26_175 (pc' := 29) (by decide) ?_
  refine k_iload (pc := 29) N d26_29 rfl ?_
  refine k_aload_n (pc := 31) N d26_31 rfl rfl ?_
  refine k_getR (pc := 32) N 0 3 d26_32 (hw _ (List.mem_of_getElem? (i := 192) rfl)) rfl rfl ?_
  refine k_icmp_ge (pc := 35) N d26_35 (pc' := 178) (by decide) (fun _ => ?_) (fun qQ => absurd qQ (by decide))
  refine k_iload_n (pc := 178) N d26_178 rfl ?_
  refine k_i2d (pc := 179) N d26_179 ?_
  refine k_dload (pc := 180) N d26_180 rfl ?_
  refine k_dmul (pc := 182) N d26_182 (v := (FP.dmul (FP.i2d (2 : Int32)) d18)) (dnn (D_mul (show DInt 2 (FP.i2d (2 : Int32)) from FP.Core.i2d_int (2 : Int32)) hd18 (k := (2)) (by omega) (by omega))) rfl ?_
  have hd23 : DInt (2) (FP.dmul (FP.i2d (2 : Int32)) d18) := (D_mul (show DInt 2 (FP.i2d (2 : Int32)) from FP.Core.i2d_int (2 : Int32)) hd18 (k := (2)) (by omega) (by omega))
  generalize (FP.dmul (FP.i2d (2 : Int32)) d18) = d23 at hd23 ⊢
  refine k_dload (pc := 183) N d26_183 rfl ?_
  refine k_dload (pc := 185) N d26_185 rfl ?_
  refine k_dmul (pc := 187) N d26_187 (v := (FP.dmul d14 d14)) (dnn (D_mul hd14 hd14 (k := (1)) (by omega) (by omega))) rfl ?_
  have hd24 : DInt (1) (FP.dmul d14 d14) := (D_mul hd14 hd14 (k := (1)) (by omega) (by omega))
  generalize (FP.dmul d14 d14) = d24 at hd24 ⊢
  refine k_dsub (pc := 188) N d26_188 (v := (FP.dsub d23 d24)) (dnn (D_sub hd23 hd24 (k := (1)) (by omega) (by omega))) rfl ?_
  have hd25 : DInt (1) (FP.dsub d23 d24) := (D_sub hd23 hd24 (k := (1)) (by omega) (by omega))
  generalize (FP.dsub d23 d24) = d25 at hd25 ⊢
  refine k_dstore (pc := 189) N d26_189 (Ls' := #[.val (.ref vt), .val (.ref p), .val (.int (1 : Int32)), .val (.int (2 : Int32)), .val (.double d14), .second, .val (.double d15), .second, .val (.double d16), .second, .val (.double d18), .second, .val (.double d20), .second, .val (.double d22), .second, .val (.double d25), .second, .val (.double 13830554455654793216), .second, .val (.double d12), .second, .val (.double d13), .second]) rfl ?_
  refine k_dload (pc := 191) N d26_191 rfl ?_
  refine k_dconst0 (pc := 193) N d26_193 (v := (0 : UInt64)) rfl ?_
  refine k_dcmp (pc := 194) N d26_194 (v := (1 : Int32)) (cmp_10 hd25 _) ?_
  refine k_if_gt (pc := 195) N d26_195 (pc' := 200) (by decide) (fun _ => ?_) (fun qQ => absurd qQ (by decide))
  refine k_aload_n (pc := 200) N d26_200 rfl rfl ?_
  refine k_iload_n (pc := 201) N d26_201 rfl ?_
  refine k_i2d (pc := 202) N d26_202 ?_
  refine k_dload (pc := 203) N d26_203 rfl ?_
  refine k_dmul (pc := 205) N d26_205 (v := (FP.dmul (FP.i2d (2 : Int32)) d20)) (dnn (D_mul (show DInt 2 (FP.i2d (2 : Int32)) from FP.Core.i2d_int (2 : Int32)) hd20 (k := ((-2) * x0 + 2 * x1)) (by omega) (by omega))) rfl ?_
  have hd26 : DInt ((-2) * x0 + 2 * x1) (FP.dmul (FP.i2d (2 : Int32)) d20) := (D_mul (show DInt 2 (FP.i2d (2 : Int32)) from FP.Core.i2d_int (2 : Int32)) hd20 (k := ((-2) * x0 + 2 * x1)) (by omega) (by omega))
  generalize (FP.dmul (FP.i2d (2 : Int32)) d20) = d26 at hd26 ⊢
  refine k_dload (pc := 206) N d26_206 rfl ?_
  refine k_dload (pc := 208) N d26_208 rfl ?_
  refine k_dmul (pc := 210) N d26_210 (v := (FP.dmul d14 d15)) (dnn (D_mul hd14 hd15 (k := ((-1) * x0 + 1 * x1)) (by omega) (by omega))) rfl ?_
  have hd27 : DInt ((-1) * x0 + 1 * x1) (FP.dmul d14 d15) := (D_mul hd14 hd15 (k := ((-1) * x0 + 1 * x1)) (by omega) (by omega))
  generalize (FP.dmul d14 d15) = d27 at hd27 ⊢
  refine k_dsub (pc := 211) N d26_211 (v := (FP.dsub d26 d27)) (dnn (D_sub hd26 hd27 (k := ((-1) * x0 + 1 * x1)) (by omega) (by omega))) rfl ?_
  have hd28 : DInt ((-1) * x0 + 1 * x1) (FP.dsub d26 d27) := (D_sub hd26 hd27 (k := ((-1) * x0 + 1 * x1)) (by omega) (by omega))
  generalize (FP.dsub d26 d27) = d28 at hd28 ⊢
  refine k_dload (pc := 212) N d26_212 rfl ?_
  refine k_ddiv (pc := 214) N d26_214 (v := d28) (div1n hd28 hd25) (div1 hd28 hd25) ?_
  refine k_putR (pc := 215) N 0 5 d26_215 (hw _ (List.mem_of_getElem? (i := 198) rfl)) rfl rfl (hw _ (List.mem_of_getElem? (i := 199) rfl)) (hw _ (List.mem_of_getElem? (i := 117) rfl)) (ty := .double) (by decide) rfl rfl (K' := ((oPo Z p (.ref ta) (.ref xa) (.ref ya) (.int (2 : Int32)) (.int (2 : Int32)) (.double d28) (.double sy)) :: (oVt Z vt (.ref pa) (.ref xv) (.ref yv) (.long lt)) :: (oArr Z ta kt .long (lA 64 ft)) :: (oArr Z xa kxa .double (dA 64 fx)) :: (oArr Z ya kya .double (dA 64 fy)) :: rest)) rfl fun T N => ?_
  refine k_aload_n (pc := 218) N d26_218 rfl rfl ?_
  refine k_iload_n (pc := 219) N d26_219 rfl ?_
  refine k_i2d (pc := 220) N d26_220 ?_
  refine k_dload (pc := 221) N d26_221 rfl ?_
  refine k_dmul (pc := 223) N d26_223 (v := (FP.dmul (FP.i2d (2 : Int32)) d22)) (dnn (D_mul (show DInt 2 (FP.i2d (2 : Int32)) from FP.Core.i2d_int (2 : Int32)) hd22 (k := ((-2) * y0 + 2 * y1)) (by omega) (by omega))) rfl ?_
  have hd29 : DInt ((-2) * y0 + 2 * y1) (FP.dmul (FP.i2d (2 : Int32)) d22) := (D_mul (show DInt 2 (FP.i2d (2 : Int32)) from FP.Core.i2d_int (2 : Int32)) hd22 (k := ((-2) * y0 + 2 * y1)) (by omega) (by omega))
  generalize (FP.dmul (FP.i2d (2 : Int32)) d22) = d29 at hd29 ⊢
  refine k_dload (pc := 224) N d26_224 rfl ?_
  refine k_dload (pc := 226) N d26_226 rfl ?_
  refine k_dmul (pc := 228) N d26_228 (v := (FP.dmul d14 d16)) (dnn (D_mul hd14 hd16 (k := ((-1) * y0 + 1 * y1)) (by omega) (by omega))) rfl ?_
  have hd30 : DInt ((-1) * y0 + 1 * y1) (FP.dmul d14 d16) := (D_mul hd14 hd16 (k := ((-1) * y0 + 1 * y1)) (by omega) (by omega))
  generalize (FP.dmul d14 d16) = d30 at hd30 ⊢
  refine k_dsub (pc := 229) N d26_229 (v := (FP.dsub d29 d30)) (dnn (D_sub hd29 hd30 (k := ((-1) * y0 + 1 * y1)) (by omega) (by omega))) rfl ?_
  have hd31 : DInt ((-1) * y0 + 1 * y1) (FP.dsub d29 d30) := (D_sub hd29 hd30 (k := ((-1) * y0 + 1 * y1)) (by omega) (by omega))
  generalize (FP.dsub d29 d30) = d31 at hd31 ⊢
  refine k_dload (pc := 230) N d26_230 rfl ?_
  refine k_ddiv (pc := 232) N d26_232 (v := d31) (div1n hd31 hd25) (div1 hd31 hd25) ?_
  refine k_putR (pc := 233) N 0 6 d26_233 (hw _ (List.mem_of_getElem? (i := 200) rfl)) rfl rfl (hw _ (List.mem_of_getElem? (i := 201) rfl)) (hw _ (List.mem_of_getElem? (i := 117) rfl)) (ty := .double) (by decide) rfl rfl (K' := ((oPo Z p (.ref ta) (.ref xa) (.ref ya) (.int (2 : Int32)) (.int (2 : Int32)) (.double d28) (.double d31)) :: (oVt Z vt (.ref pa) (.ref xv) (.ref yv) (.long lt)) :: (oArr Z ta kt .long (lA 64 ft)) :: (oArr Z xa kxa .double (dA 64 fx)) :: (oArr Z ya kya .double (dA 64 fy)) :: rest)) rfl fun T N => ?_
  refine k_iconst (pc := 236) N d26_236 (v := (1 : Int32)) (by decide) ?_
  replace N := ONow.sel (F := [oPo Z p (.ref ta) (.ref xa) (.ref ya) (.int (2 : Int32)) (.int (2 : Int32)) (.double d28) (.double d31), oVt Z vt (.ref pa) (.ref xv) (.ref yv) (.long lt), oArr Z ta kt .long (lA 64 ft), oArr Z xa kxa .double (dA 64 fx), oArr Z ya kya .double (dA 64 fy)]) (F' := [oVt Z vt (.ref pa) (.ref xv) (.ref yv) (.long lt), oPo Z p (.ref ta) (.ref xa) (.ref ya) (.int (2 : Int32)) (.int (2 : Int32)) (.double d28) (.double d31), oArr Z ta kt .long (lA 64 ft), oArr Z xa kxa .double (dA 64 fx), oArr Z ya kya .double (dA 64 fy)]) (rest := rest) N [1, 0, 2, 3, 4] (by decide) rfl
  exact k_zreturn (pc := 237) N d26_237 rfl (by decide) (by decide) ⟨d28, d31, rfl, (by have q := hd28; rwa [show ((-1) * x0 + 1 * x1) = x1 - x0 by omega] at q), (by have q := hd31; rwa [show ((-1) * y0 + 1 * y1) = y1 - y0 by omega] at q), rfl⟩
set_option maxRecDepth 65536 in
theorem ef_c_fit1 (m : MethodId) (z0 : Addr) (z1 : Addr) : entryFrame m ([.ref z0, .ref z1] : List Value).toArray 24 = mkF m 0 #[.val (.ref z0), .val (.ref z1), .unset, .unset, .unset, .unset, .unset, .unset, .unset, .unset, .unset, .unset, .unset, .unset, .unset, .unset, .unset, .unset, .unset, .unset, .unset, .unset, .unset, .unset] [] := by first | (simp [entryFrame, mkF, argsToLocals, Value.category]; done) | rfl
def rm_c_fit1 : Room := { frames := 2, cells := 0, slots := 0, locals := 27 }
set_option maxRecDepth 65536 in
set_option maxHeartbeats 40000000 in
theorem c_fit1 (l : Launch) (Z : State) (a0 : Array Value) (hw : ∀ d ∈ tables_1, d.before a0 Z = true) (vt pa xv yv : Addr) (lt : Int64) (p ta xa ya : Addr) (kt kxa kya : ClassId) (ft : Nat → Int64) (fx fy : Nat → UInt64) (sx sy : UInt64) (x0 y0 : Int) (ht2 : lt - (ft 2) = 0) (hx0 : DInt x0 (fx 2)) (hy0 : DInt y0 (fy 2)) (bx0 : -32768 ≤ x0 ∧ x0 ≤ 32767) (by0 : -32768 ≤ y0 ∧ y0 ≤ 32767) (rest : List Ent) :
    OMeets l (⟨"com/example/tapflow/tapflow/VelocityTracker", "fit", "(Lcom/example/tapflow/tapflow/VelocityTracker$Positions;)Z"⟩ : MethodName) prog_15_method_10_code 24 (some .boolean) rm_c_fit1 Z [.ref vt, .ref p] ((oVt Z vt (.ref pa) (.ref xv) (.ref yv) (.long lt)) :: (oPo Z p (.ref ta) (.ref xa) (.ref ya) (.int (1 : Int32)) (.int (3 : Int32)) (.double sx) (.double sy)) :: (oArr Z ta kt .long (lA 64 ft)) :: (oArr Z xa kxa .double (dA 64 fx)) :: (oArr Z ya kya .double (dA 64 fy)) :: rest) (fun v K => v = some (.int 0) ∧ K = (oVt Z vt (.ref pa) (.ref xv) (.ref yv) (.long lt)) :: (oPo Z p (.ref ta) (.ref xa) (.ref ya) (.int (1 : Int32)) (.int (3 : Int32)) (.double sx) (.double sy)) :: (oArr Z ta kt .long (lA 64 ft)) :: (oArr Z xa kxa .double (dA 64 fx)) :: (oArr Z ya kya .double (dA 64 fy)) :: rest) := by
  refine OMeets.of_body (plainFor_of_name pn_com_example_tapflow_tapflow_VelocityTracker) #[.val (.ref vt), .val (.ref p), .unset, .unset, .unset, .unset, .unset, .unset, .unset, .unset, .unset, .unset, .unset, .unset, .unset, .unset, .unset, .unset, .unset, .unset, .unset, .unset, .unset, .unset] (fun m => ef_c_fit1 m vt p) fun pP eE sS mM bB hH cC T N => ?_
  refine k_aload_n (pc := 0) N d26_0 rfl rfl ?_
  refine k_iconst (pc := 1) N d26_1 (v := (0 : Int32)) (by decide) ?_
  replace N := ONow.sel (F := [oVt Z vt (.ref pa) (.ref xv) (.ref yv) (.long lt), oPo Z p (.ref ta) (.ref xa) (.ref ya) (.int (1 : Int32)) (.int (3 : Int32)) (.double sx) (.double sy), oArr Z ta kt .long (lA 64 ft), oArr Z xa kxa .double (dA 64 fx), oArr Z ya kya .double (dA 64 fy)]) (F' := [oPo Z p (.ref ta) (.ref xa) (.ref ya) (.int (1 : Int32)) (.int (3 : Int32)) (.double sx) (.double sy), oVt Z vt (.ref pa) (.ref xv) (.ref yv) (.long lt), oArr Z ta kt .long (lA 64 ft), oArr Z xa kxa .double (dA 64 fx), oArr Z ya kya .double (dA 64 fy)]) (rest := rest) N [1, 0, 2, 3, 4] (by decide) rfl
  refine k_virtual (pc := 2) N (y := (⟨"com/example/tapflow/tapflow/VelocityTracker$Positions", "index", "(I)I"⟩ : MethodName)) (z := (⟨"com/example/tapflow/tapflow/VelocityTracker$Positions", "index", "(I)I"⟩ : MethodName)) (rest := []) [.int (0 : Int32)] (a := p) d26_2 (fun h N => N.exa (i := 0) rfl) (hw _ (List.mem_of_getElem? (i := 184) rfl)) (hw _ (List.mem_of_getElem? (i := 185) rfl)) (nf_self (hw _ (List.mem_of_getElem? (i := 187) rfl))) (hw _ (List.mem_of_getElem? (i := 187) rfl)) (hw _ (List.mem_of_getElem? (i := 186) rfl)) (hw _ (List.mem_of_getElem? (i := 118) rfl)) (hw _ (List.mem_of_getElem? (i := 188) rfl)) (by decide) pd__I_I rfl (c_ix3_0 l Z a0 hw p ta xa ya (1 : Int32) sx sy ((oVt Z vt (.ref pa) (.ref xv) (.ref yv) (.long lt)) :: (oArr Z ta kt .long (lA 64 ft)) :: (oArr Z xa kxa .double (dA 64 fx)) :: (oArr Z ya kya .double (dA 64 fy)) :: rest)) rfl rfl 0 rfl (by decide) (by decide) (cells' := 0) rfl (slots' := 0) rfl (by decide) (by decide) fun T vV K' N qQ => ?_
  obtain ⟨rfl, rfl⟩ := qQ
  refine k_istore_n (pc := 5) N d26_5 (Ls' := #[.val (.ref vt), .val (.ref p), .val (.int (2 : Int32)), .unset, .unset, .unset, .unset, .unset, .unset, .unset, .unset, .unset, .unset, .unset, .unset, .unset, .unset, .unset, .unset, .unset, .unset, .unset, .unset, .unset]) rfl ?_
  refine k_iconst (pc := 6) N d26_6 (v := (0 : Int32)) (by decide) ?_
  refine k_istore_n (pc := 7) N d26_7 (Ls' := #[.val (.ref vt), .val (.ref p), .val (.int (2 : Int32)), .val (.int (0 : Int32)), .unset, .unset, .unset, .unset, .unset, .unset, .unset, .unset, .unset, .unset, .unset, .unset, .unset, .unset, .unset, .unset, .unset, .unset, .unset, .unset]) rfl ?_
  refine k_dconst0 (pc := 8) N d26_8 (v := (0 : UInt64)) rfl ?_
  refine k_dstore (pc := 9) N d26_9 (Ls' := #[.val (.ref vt), .val (.ref p), .val (.int (2 : Int32)), .val (.int (0 : Int32)), .val (.double (0 : UInt64)), .second, .unset, .unset, .unset, .unset, .unset, .unset, .unset, .unset, .unset, .unset, .unset, .unset, .unset, .unset, .unset, .unset, .unset, .unset]) rfl ?_
  refine k_dconst0 (pc := 11) N d26_11 (v := (0 : UInt64)) rfl ?_
  refine k_dstore (pc := 12) N d26_12 (Ls' := #[.val (.ref vt), .val (.ref p), .val (.int (2 : Int32)), .val (.int (0 : Int32)), .val (.double (0 : UInt64)), .second, .val (.double (0 : UInt64)), .second, .unset, .unset, .unset, .unset, .unset, .unset, .unset, .unset, .unset, .unset, .unset, .unset, .unset, .unset, .unset, .unset]) rfl ?_
  refine k_dconst0 (pc := 14) N d26_14 (v := (0 : UInt64)) rfl ?_
  refine k_dstore (pc := 15) N d26_15 (Ls' := #[.val (.ref vt), .val (.ref p), .val (.int (2 : Int32)), .val (.int (0 : Int32)), .val (.double (0 : UInt64)), .second, .val (.double (0 : UInt64)), .second, .val (.double (0 : UInt64)), .second, .unset, .unset, .unset, .unset, .unset, .unset, .unset, .unset, .unset, .unset, .unset, .unset, .unset, .unset]) rfl ?_
  refine k_dconst0 (pc := 17) N d26_17 (v := (0 : UInt64)) rfl ?_
  refine k_dstore (pc := 18) N d26_18 (Ls' := #[.val (.ref vt), .val (.ref p), .val (.int (2 : Int32)), .val (.int (0 : Int32)), .val (.double (0 : UInt64)), .second, .val (.double (0 : UInt64)), .second, .val (.double (0 : UInt64)), .second, .val (.double (0 : UInt64)), .second, .unset, .unset, .unset, .unset, .unset, .unset, .unset, .unset, .unset, .unset, .unset, .unset]) rfl ?_
  refine k_dconst0 (pc := 20) N d26_20 (v := (0 : UInt64)) rfl ?_
  refine k_dstore (pc := 21) N d26_21 (Ls' := #[.val (.ref vt), .val (.ref p), .val (.int (2 : Int32)), .val (.int (0 : Int32)), .val (.double (0 : UInt64)), .second, .val (.double (0 : UInt64)), .second, .val (.double (0 : UInt64)), .second, .val (.double (0 : UInt64)), .second, .val (.double (0 : UInt64)), .second, .unset, .unset, .unset, .unset, .unset, .unset, .unset, .unset, .unset, .unset]) rfl ?_
  refine k_dconst0 (pc := 23) N d26_23 (v := (0 : UInt64)) rfl ?_
  refine k_dstore (pc := 24) N d26_24 (Ls' := #[.val (.ref vt), .val (.ref p), .val (.int (2 : Int32)), .val (.int (0 : Int32)), .val (.double (0 : UInt64)), .second, .val (.double (0 : UInt64)), .second, .val (.double (0 : UInt64)), .second, .val (.double (0 : UInt64)), .second, .val (.double (0 : UInt64)), .second, .val (.double (0 : UInt64)), .second, .unset, .unset, .unset, .unset, .unset, .unset, .unset, .unset]) rfl ?_
  refine k_iconst (pc := 26) N d26_26 (v := (0 : Int32)) (by decide) ?_
  refine k_istore (pc := 27) N d26_27 (Ls' := #[.val (.ref vt), .val (.ref p), .val (.int (2 : Int32)), .val (.int (0 : Int32)), .val (.double (0 : UInt64)), .second, .val (.double (0 : UInt64)), .second, .val (.double (0 : UInt64)), .second, .val (.double (0 : UInt64)), .second, .val (.double (0 : UInt64)), .second, .val (.double (0 : UInt64)), .second, .val (.int (0 : Int32)), .unset, .unset, .unset, .unset, .unset, .unset, .unset]) rfl ?_
  refine k_iload (pc := 29) N d26_29 rfl ?_
  refine k_aload_n (pc := 31) N d26_31 rfl rfl ?_
  refine k_getR (pc := 32) N 0 3 d26_32 (hw _ (List.mem_of_getElem? (i := 192) rfl)) rfl rfl ?_
  refine k_icmp_ge (pc := 35) N d26_35 (pc' := 178) (by decide) (fun qQ => absurd qQ (by decide)) (fun _ => ?_)
  refine k_aload_n (pc := 38) N d26_38 rfl rfl ?_
  refine k_iload (pc := 39) N d26_39 rfl ?_
  refine k_virtual (pc := 41) N (y := (⟨"com/example/tapflow/tapflow/VelocityTracker$Positions", "index", "(I)I"⟩ : MethodName)) (z := (⟨"com/example/tapflow/tapflow/VelocityTracker$Positions", "index", "(I)I"⟩ : MethodName)) (rest := []) [.int (0 : Int32)] (a := p) d26_41 (fun h N => N.exa (i := 0) rfl) (hw _ (List.mem_of_getElem? (i := 184) rfl)) (hw _ (List.mem_of_getElem? (i := 185) rfl)) (nf_self (hw _ (List.mem_of_getElem? (i := 187) rfl))) (hw _ (List.mem_of_getElem? (i := 187) rfl)) (hw _ (List.mem_of_getElem? (i := 186) rfl)) (hw _ (List.mem_of_getElem? (i := 118) rfl)) (hw _ (List.mem_of_getElem? (i := 188) rfl)) (by decide) pd__I_I rfl (c_ix3_0 l Z a0 hw p ta xa ya (1 : Int32) sx sy ((oVt Z vt (.ref pa) (.ref xv) (.ref yv) (.long lt)) :: (oArr Z ta kt .long (lA 64 ft)) :: (oArr Z xa kxa .double (dA 64 fx)) :: (oArr Z ya kya .double (dA 64 fy)) :: rest)) rfl rfl 0 rfl (by decide) (by decide) (cells' := 0) rfl (slots' := 0) rfl (by decide) (by decide) fun T vV K' N qQ => ?_
  obtain ⟨rfl, rfl⟩ := qQ
  refine k_istore (pc := 44) N d26_44 (Ls' := #[.val (.ref vt), .val (.ref p), .val (.int (2 : Int32)), .val (.int (0 : Int32)), .val (.double (0 : UInt64)), .second, .val (.double (0 : UInt64)), .second, .val (.double (0 : UInt64)), .second, .val (.double (0 : UInt64)), .second, .val (.double (0 : UInt64)), .second, .val (.double (0 : UInt64)), .second, .val (.int (0 : Int32)), .val (.int (2 : Int32)), .unset, .unset, .unset, .unset, .unset, .unset]) rfl ?_
  refine k_aload_n (pc := 46) N d26_46 rfl rfl ?_
  refine k_get (pc := 47) (host := "") N 1 3 d26_47 (Or.inl (hw _ (List.mem_of_getElem? (i := 167) rfl))) Via.refl rfl rfl fun T N => ?_
  refine k_aload_n (pc := 50) N d26_50 rfl rfl ?_
  refine k_getR (pc := 51) N 0 0 d26_51 (hw _ (List.mem_of_getElem? (i := 193) rfl)) rfl rfl ?_
  refine k_iload (pc := 54) N d26_54 rfl ?_
  refine k_laload (pc := 56) N 2 2 d26_56 rfl (by decide) (by decide) (v := .long (ft 2)) (aF_get (by decide)) ?_
  refine k_lsub (pc := 57) N d26_57 ?_
  rw [ht2]
  refine k_ldcJ (pc := 58) N d26_58 (hw _ (List.mem_of_getElem? (i := 194) rfl)) ?_
  refine k_lcmp (pc := 61) N d26_61 ?_
  refine k_if_gt (pc := 62) N d26_62 (pc' := 172) (by decide) (fun qQ => absurd qQ (by decide)) (fun _ => ?_)
  refine k_aload_n (pc := 65) N d26_65 rfl rfl ?_
  refine k_getR (pc := 66) N 0 0 d26_66 (hw _ (List.mem_of_getElem? (i := 193) rfl)) rfl rfl ?_
  refine k_iload (pc := 69) N d26_69 rfl ?_
  refine k_laload (pc := 71) N 2 2 d26_71 rfl (by decide) (by decide) (v := .long (ft 2)) (aF_get (by decide)) ?_
  refine k_aload_n (pc := 72) N d26_72 rfl rfl ?_
  refine k_getR (pc := 73) N 0 0 d26_73 (hw _ (List.mem_of_getElem? (i := 193) rfl)) rfl rfl ?_
  refine k_iload_n (pc := 76) N d26_76 rfl ?_
  refine k_laload (pc := 77) N 2 2 d26_77 rfl (by decide) (by decide) (v := .long (ft 2)) (aF_get (by decide)) ?_
  refine k_lsub (pc := 78) N d26_78 ?_
  rw [show ((ft 2) - (ft 2)) = (0 : Int64) from Int64.sub_self _]
  refine k_l2d (pc := 79) N d26_79 ?_
  refine k_ldcD (pc := 80) N d26_80 (hw _ (List.mem_of_getElem? (i := 195) rfl)) ?_
  refine k_ddiv (pc := 83) N d26_83 (v := (0 : UInt64)) tq0n tq0 ?_
  refine k_dstore (pc := 84) N d26_84 (Ls' := #[.val (.ref vt), .val (.ref p), .val (.int (2 : Int32)), .val (.int (0 : Int32)), .val (.double (0 : UInt64)), .second, .val (.double (0 : UInt64)), .second, .val (.double (0 : UInt64)), .second, .val (.double (0 : UInt64)), .second, .val (.double (0 : UInt64)), .second, .val (.double (0 : UInt64)), .second, .val (.int (0 : Int32)), .val (.int (2 : Int32)), .val (.double (0 : UInt64)), .second, .unset, .unset, .unset, .unset]) rfl ?_
  refine k_aload_n (pc := 86) N d26_86 rfl rfl ?_
  refine k_getR (pc := 87) N 0 1 d26_87 (hw _ (List.mem_of_getElem? (i := 196) rfl)) rfl rfl ?_
  refine k_iload (pc := 90) N d26_90 rfl ?_
  refine k_daload (pc := 92) N 3 2 d26_92 rfl (by decide) (by decide) (v := .double (fx 2)) (aF_get (by decide)) ?_
  refine k_aload_n (pc := 93) N d26_93 rfl rfl ?_
  refine k_getR (pc := 94) N 0 1 d26_94 (hw _ (List.mem_of_getElem? (i := 196) rfl)) rfl rfl ?_
  refine k_iload_n (pc := 97) N d26_97 rfl ?_
  refine k_daload (pc := 98) N 3 2 d26_98 rfl (by decide) (by decide) (v := .double (fx 2)) (aF_get (by decide)) ?_
  refine k_dsub (pc := 99) N d26_99 (v := (FP.dsub (fx 2) (fx 2))) (dnn (D_sub hx0 hx0 (k := (0)) (by omega) (by omega))) rfl ?_
  have hd1 : DInt (0) (FP.dsub (fx 2) (fx 2)) := (D_sub hx0 hx0 (k := (0)) (by omega) (by omega))
  generalize (FP.dsub (fx 2) (fx 2)) = d1 at hd1 ⊢
  refine k_dstore (pc := 100) N d26_100 (Ls' := #[.val (.ref vt), .val (.ref p), .val (.int (2 : Int32)), .val (.int (0 : Int32)), .val (.double (0 : UInt64)), .second, .val (.double (0 : UInt64)), .second, .val (.double (0 : UInt64)), .second, .val (.double (0 : UInt64)), .second, .val (.double (0 : UInt64)), .second, .val (.double (0 : UInt64)), .second, .val (.int (0 : Int32)), .val (.int (2 : Int32)), .val (.double (0 : UInt64)), .second, .val (.double d1), .second, .unset, .unset]) rfl ?_
  refine k_aload_n (pc := 102) N d26_102 rfl rfl ?_
  refine k_getR (pc := 103) N 0 2 d26_103 (hw _ (List.mem_of_getElem? (i := 197) rfl)) rfl rfl ?_
  refine k_iload (pc := 106) N d26_106 rfl ?_
  refine k_daload (pc := 108) N 4 2 d26_108 rfl (by decide) (by decide) (v := .double (fy 2)) (aF_get (by decide)) ?_
  refine k_aload_n (pc := 109) N d26_109 rfl rfl ?_
  refine k_getR (pc := 110) N 0 2 d26_110 (hw _ (List.mem_of_getElem? (i := 197) rfl)) rfl rfl ?_
  refine k_iload_n (pc := 113) N d26_113 rfl ?_
  refine k_daload (pc := 114) N 4 2 d26_114 rfl (by decide) (by decide) (v := .double (fy 2)) (aF_get (by decide)) ?_
  refine k_dsub (pc := 115) N d26_115 (v := (FP.dsub (fy 2) (fy 2))) (dnn (D_sub hy0 hy0 (k := (0)) (by omega) (by omega))) rfl ?_
  have hd2 : DInt (0) (FP.dsub (fy 2) (fy 2)) := (D_sub hy0 hy0 (k := (0)) (by omega) (by omega))
  generalize (FP.dsub (fy 2) (fy 2)) = d2 at hd2 ⊢
  refine k_dstore (pc := 116) N d26_116 (Ls' := #[.val (.ref vt), .val (.ref p), .val (.int (2 : Int32)), .val (.int (0 : Int32)), .val (.double (0 : UInt64)), .second, .val (.double (0 : UInt64)), .second, .val (.double (0 : UInt64)), .second, .val (.double (0 : UInt64)), .second, .val (.double (0 : UInt64)), .second, .val (.double (0 : UInt64)), .second, .val (.int (0 : Int32)), .val (.int (2 : Int32)), .val (.double (0 : UInt64)), .second, .val (.double d1), .second, .val (.double d2), .second]) rfl ?_
  refine k_iinc (pc := 118) N d26_118 rfl (v := (1 : Int32)) (by decide) (Ls' := #[.val (.ref vt), .val (.ref p), .val (.int (2 : Int32)), .val (.int (1 : Int32)), .val (.double (0 : UInt64)), .second, .val (.double (0 : UInt64)), .second, .val (.double (0 : UInt64)), .second, .val (.double (0 : UInt64)), .second, .val (.double (0 : UInt64)), .second, .val (.double (0 : UInt64)), .second, .val (.int (0 : Int32)), .val (.int (2 : Int32)), .val (.double (0 : UInt64)), .second, .val (.double d1), .second, .val (.double d2), .second]) rfl ?_
  refine k_dload (pc := 121) N d26_121 rfl ?_
  refine k_dload (pc := 123) N d26_123 rfl ?_
  refine k_dadd (pc := 125) N d26_125 (v := (FP.dadd (0 : UInt64) (0 : UInt64))) (dnn (D_add di0 di0 (k := (0)) (by omega) (by omega))) rfl ?_
  have hd3 : DInt (0) (FP.dadd (0 : UInt64) (0 : UInt64)) := (D_add di0 di0 (k := (0)) (by omega) (by omega))
  generalize (FP.dadd (0 : UInt64) (0 : UInt64)) = d3 at hd3 ⊢
  refine k_dstore (pc := 126) N d26_126 (Ls' := #[.val (.ref vt), .val (.ref p), .val (.int (2 : Int32)), .val (.int (1 : Int32)), .val (.double d3), .second, .val (.double (0 : UInt64)), .second, .val (.double (0 : UInt64)), .second, .val (.double (0 : UInt64)), .second, .val (.double (0 : UInt64)), .second, .val (.double (0 : UInt64)), .second, .val (.int (0 : Int32)), .val (.int (2 : Int32)), .val (.double (0 : UInt64)), .second, .val (.double d1), .second, .val (.double d2), .second]) rfl ?_
  refine k_dload (pc := 128) N d26_128 rfl ?_
  refine k_dload (pc := 130) N d26_130 rfl ?_
  refine k_dadd (pc := 132) N d26_132 (v := (FP.dadd (0 : UInt64) d1)) (dnn (D_add di0 hd1 (k := (0)) (by omega) (by omega))) rfl ?_
  have hd4 : DInt (0) (FP.dadd (0 : UInt64) d1) := (D_add di0 hd1 (k := (0)) (by omega) (by omega))
  generalize (FP.dadd (0 : UInt64) d1) = d4 at hd4 ⊢
  refine k_dstore (pc := 133) N d26_133 (Ls' := #[.val (.ref vt), .val (.ref p), .val (.int (2 : Int32)), .val (.int (1 : Int32)), .val (.double d3), .second, .val (.double d4), .second, .val (.double (0 : UInt64)), .second, .val (.double (0 : UInt64)), .second, .val (.double (0 : UInt64)), .second, .val (.double (0 : UInt64)), .second, .val (.int (0 : Int32)), .val (.int (2 : Int32)), .val (.double (0 : UInt64)), .second, .val (.double d1), .second, .val (.double d2), .second]) rfl ?_
  refine k_dload (pc := 135) N d26_135 rfl ?_
  refine k_dload (pc := 137) N d26_137 rfl ?_
  refine k_dadd (pc := 139) N d26_139 (v := (FP.dadd (0 : UInt64) d2)) (dnn (D_add di0 hd2 (k := (0)) (by omega) (by omega))) rfl ?_
  have hd5 : DInt (0) (FP.dadd (0 : UInt64) d2) := (D_add di0 hd2 (k := (0)) (by omega) (by omega))
  generalize (FP.dadd (0 : UInt64) d2) = d5 at hd5 ⊢
  refine k_dstore (pc := 140) N d26_140 (Ls' := #[.val (.ref vt), .val (.ref p), .val (.int (2 : Int32)), .val (.int (1 : Int32)), .val (.double d3), .second, .val (.double d4), .second, .val (.double d5), .second, .val (.double (0 : UInt64)), .second, .val (.double (0 : UInt64)), .second, .val (.double (0 : UInt64)), .second, .val (.int (0 : Int32)), .val (.int (2 : Int32)), .val (.double (0 : UInt64)), .second, .val (.double d1), .second, .val (.double d2), .second]) rfl ?_
  refine k_dload (pc := 142) N d26_142 rfl ?_
  refine k_dload (pc := 144) N d26_144 rfl ?_
  refine k_dload (pc := 146) N d26_146 rfl ?_
  refine k_dmul (pc := 148) N d26_148 (v := (FP.dmul (0 : UInt64) (0 : UInt64))) (dnn (D_mul di0 di0 (k := (0)) (by omega) (by omega))) rfl ?_
  have hd6 : DInt (0) (FP.dmul (0 : UInt64) (0 : UInt64)) := (D_mul di0 di0 (k := (0)) (by omega) (by omega))
  generalize (FP.dmul (0 : UInt64) (0 : UInt64)) = d6 at hd6 ⊢
  refine k_dadd (pc := 149) N d26_149 (v := (FP.dadd (0 : UInt64) d6)) (dnn (D_add di0 hd6 (k := (0)) (by omega) (by omega))) rfl ?_
  have hd7 : DInt (0) (FP.dadd (0 : UInt64) d6) := (D_add di0 hd6 (k := (0)) (by omega) (by omega))
  generalize (FP.dadd (0 : UInt64) d6) = d7 at hd7 ⊢
  refine k_dstore (pc := 150) N d26_150 (Ls' := #[.val (.ref vt), .val (.ref p), .val (.int (2 : Int32)), .val (.int (1 : Int32)), .val (.double d3), .second, .val (.double d4), .second, .val (.double d5), .second, .val (.double d7), .second, .val (.double (0 : UInt64)), .second, .val (.double (0 : UInt64)), .second, .val (.int (0 : Int32)), .val (.int (2 : Int32)), .val (.double (0 : UInt64)), .second, .val (.double d1), .second, .val (.double d2), .second]) rfl ?_
  refine k_dload (pc := 152) N d26_152 rfl ?_
  refine k_dload (pc := 154) N d26_154 rfl ?_
  refine k_dload (pc := 156) N d26_156 rfl ?_
  refine k_dmul (pc := 158) N d26_158 (v := (FP.dmul (0 : UInt64) d1)) (dnn (D_mul di0 hd1 (k := (0)) (by omega) (by omega))) rfl ?_
  have hd8 : DInt (0) (FP.dmul (0 : UInt64) d1) := (D_mul di0 hd1 (k := (0)) (by omega) (by omega))
  generalize (FP.dmul (0 : UInt64) d1) = d8 at hd8 ⊢
  refine k_dadd (pc := 159) N d26_159 (v := (FP.dadd (0 : UInt64) d8)) (dnn (D_add di0 hd8 (k := (0)) (by omega) (by omega))) rfl ?_
  have hd9 : DInt (0) (FP.dadd (0 : UInt64) d8) := (D_add di0 hd8 (k := (0)) (by omega) (by omega))
  generalize (FP.dadd (0 : UInt64) d8) = d9 at hd9 ⊢
  refine k_dstore (pc := 160) N d26_160 (Ls' := #[.val (.ref vt), .val (.ref p), .val (.int (2 : Int32)), .val (.int (1 : Int32)), .val (.double d3), .second, .val (.double d4), .second, .val (.double d5), .second, .val (.double d7), .second, .val (.double d9), .second, .val (.double (0 : UInt64)), .second, .val (.int (0 : Int32)), .val (.int (2 : Int32)), .val (.double (0 : UInt64)), .second, .val (.double d1), .second, .val (.double d2), .second]) rfl ?_
  refine k_dload (pc := 162) N d26_162 rfl ?_
  refine k_dload (pc := 164) N d26_164 rfl ?_
  refine k_dload (pc := 166) N d26_166 rfl ?_
  refine k_dmul (pc := 168) N d26_168 (v := (FP.dmul (0 : UInt64) d2)) (dnn (D_mul di0 hd2 (k := (0)) (by omega) (by omega))) rfl ?_
  have hd10 : DInt (0) (FP.dmul (0 : UInt64) d2) := (D_mul di0 hd2 (k := (0)) (by omega) (by omega))
  generalize (FP.dmul (0 : UInt64) d2) = d10 at hd10 ⊢
  refine k_dadd (pc := 169) N d26_169 (v := (FP.dadd (0 : UInt64) d10)) (dnn (D_add di0 hd10 (k := (0)) (by omega) (by omega))) rfl ?_
  have hd11 : DInt (0) (FP.dadd (0 : UInt64) d10) := (D_add di0 hd10 (k := (0)) (by omega) (by omega))
  generalize (FP.dadd (0 : UInt64) d10) = d11 at hd11 ⊢
  refine k_dstore (pc := 170) N d26_170 (Ls' := #[.val (.ref vt), .val (.ref p), .val (.int (2 : Int32)), .val (.int (1 : Int32)), .val (.double d3), .second, .val (.double d4), .second, .val (.double d5), .second, .val (.double d7), .second, .val (.double d9), .second, .val (.double d11), .second, .val (.int (0 : Int32)), .val (.int (2 : Int32)), .val (.double (0 : UInt64)), .second, .val (.double d1), .second, .val (.double d2), .second]) rfl ?_
  refine k_iinc (pc := 172) N d26_172 rfl (v := (1 : Int32)) (by decide) (Ls' := #[.val (.ref vt), .val (.ref p), .val (.int (2 : Int32)), .val (.int (1 : Int32)), .val (.double d3), .second, .val (.double d4), .second, .val (.double d5), .second, .val (.double d7), .second, .val (.double d9), .second, .val (.double d11), .second, .val (.int (1 : Int32)), .val (.int (2 : Int32)), .val (.double (0 : UInt64)), .second, .val (.double d1), .second, .val (.double d2), .second]) rfl ?_
  refine k_goto (pc := 175) N d26_175 (pc' := 29) (by decide) ?_
  refine k_iload (pc := 29) N d26_29 rfl ?_
  refine k_aload_n (pc := 31) N d26_31 rfl rfl ?_
  refine k_getR (pc := 32) N 0 3 d26_32 (hw _ (List.mem_of_getElem? (i := 192) rfl)) rfl rfl ?_
  refine k_icmp_ge (pc := 35) N d26_35 (pc' := 178) (by decide) (fun _ => ?_) (fun qQ => absurd qQ (by decide))
  refine k_iload_n (pc := 178) N d26_178 rfl ?_
  refine k_i2d (pc := 179) N d26_179 ?_
  refine k_dload (pc := 180) N d26_180 rfl ?_
  refine k_dmul (pc := 182) N d26_182 (v := (FP.dmul (FP.i2d (1 : Int32)) d7)) (dnn (D_mul (show DInt 1 (FP.i2d (1 : Int32)) from FP.Core.i2d_int (1 : Int32)) hd7 (k := (0)) (by omega) (by omega))) rfl ?_
  have hd12 : DInt (0) (FP.dmul (FP.i2d (1 : Int32)) d7) := (D_mul (show DInt 1 (FP.i2d (1 : Int32)) from FP.Core.i2d_int (1 : Int32)) hd7 (k := (0)) (by omega) (by omega))
  generalize (FP.dmul (FP.i2d (1 : Int32)) d7) = d12 at hd12 ⊢
  refine k_dload (pc := 183) N d26_183 rfl ?_
  refine k_dload (pc := 185) N d26_185 rfl ?_
  refine k_dmul (pc := 187) N d26_187 (v := (FP.dmul d3 d3)) (dnn (D_mul hd3 hd3 (k := (0)) (by omega) (by omega))) rfl ?_
  have hd13 : DInt (0) (FP.dmul d3 d3) := (D_mul hd3 hd3 (k := (0)) (by omega) (by omega))
  generalize (FP.dmul d3 d3) = d13 at hd13 ⊢
  refine k_dsub (pc := 188) N d26_188 (v := (FP.dsub d12 d13)) (dnn (D_sub hd12 hd13 (k := (0)) (by omega) (by omega))) rfl ?_
  have hd14 : DInt (0) (FP.dsub d12 d13) := (D_sub hd12 hd13 (k := (0)) (by omega) (by omega))
  generalize (FP.dsub d12 d13) = d14 at hd14 ⊢
  refine k_dstore (pc := 189) N d26_189 (Ls' := #[.val (.ref vt), .val (.ref p), .val (.int (2 : Int32)), .val (.int (1 : Int32)), .val (.double d3), .second, .val (.double d4), .second, .val (.double d5), .second, .val (.double d7), .second, .val (.double d9), .second, .val (.double d11), .second, .val (.double d14), .second, .val (.double (0 : UInt64)), .second, .val (.double d1), .second, .val (.double d2), .second]) rfl ?_
  refine k_dload (pc := 191) N d26_191 rfl ?_
  refine k_dconst0 (pc := 193) N d26_193 (v := (0 : UInt64)) rfl ?_
  refine k_dcmp (pc := 194) N d26_194 (v := (0 : Int32)) (cmp_same hd14 di0 _) ?_
  refine k_if_gt (pc := 195) N d26_195 (pc' := 200) (by decide) (fun qQ => absurd qQ (by decide)) (fun _ => ?_)
  refine k_iconst (pc := 198) N d26_198 (v := (0 : Int32)) (by decide) ?_
  replace N := ONow.sel (F := [oPo Z p (.ref ta) (.ref xa) (.ref ya) (.int (1 : Int32)) (.int (3 : Int32)) (.double sx) (.double sy), oVt Z vt (.ref pa) (.ref xv) (.ref yv) (.long lt), oArr Z ta kt .long (lA 64 ft), oArr Z xa kxa .double (dA 64 fx), oArr Z ya kya .double (dA 64 fy)]) (F' := [oVt Z vt (.ref pa) (.ref xv) (.ref yv) (.long lt), oPo Z p (.ref ta) (.ref xa) (.ref ya) (.int (1 : Int32)) (.int (3 : Int32)) (.double sx) (.double sy), oArr Z ta kt .long (lA 64 ft), oArr Z xa kxa .double (dA 64 fx), oArr Z ya kya .double (dA 64 fy)]) (rest := rest) N [1, 0, 2, 3, 4] (by decide) rfl
  exact k_zreturn (pc := 199) N d26_199 rfl (by decide) (by decide) ⟨rfl, rfl⟩
theorem min_inf {i : Int} {a : UInt64} (h : DInt i a) : Native.java_lang_Math.nans.pick64 false 9218868437227405312 a = a := by
  obtain ⟨s, c, q, e⟩ := dint_fin h
  have f : FP.Core.val64 9218868437227405312 = .inf false := by decide +kernel
  have g : FP.dcmp 9218868437227405312 a = some .gt := by show FP.Core.order (FP.Core.val64 9218868437227405312) (FP.Core.val64 a) = _; rw [f, e]; rfl
  simp [Native.java_lang_Math.nans.pick64, g]
theorem max_ninf {i : Int} {a : UInt64} (h : DInt i a) : Native.java_lang_Math.nans.pick64 true 18442240474082181120 a = a := by
  obtain ⟨s, c, q, e⟩ := dint_fin h
  have f : FP.Core.val64 18442240474082181120 = .inf true := by decide +kernel
  have g : FP.dcmp 18442240474082181120 a = some .lt := by show FP.Core.order (FP.Core.val64 18442240474082181120) (FP.Core.val64 a) = _; rw [f, e]; rfl
  simp [Native.java_lang_Math.nans.pick64, g]
set_option maxRecDepth 65536 in
theorem ef_c_clamp (m : MethodId) (z0 : UInt64) (z1 : UInt64) : entryFrame m ([.double z0, .double z1] : List Value).toArray 4 = mkF m 0 #[.val (.double z0), .second, .val (.double z1), .second] [] := by first | (simp [entryFrame, mkF, argsToLocals, Value.category]; done) | rfl
def rm_c_clamp : Room := { frames := 1, cells := 0, slots := 0, locals := 17 }
set_option maxRecDepth 65536 in
set_option maxHeartbeats 40000000 in
theorem c_clamp (l : Launch) (Z : State) (a0 : Array Value) (hw : ∀ d ∈ tables_1, d.before a0 Z = true) (i : Int) (v : UInt64) (hv : DInt i v) (rest : List Ent) :
    OMeets l (⟨"com/example/tapflow/tapflow/VelocityTracker", "clamp", "(DD)D"⟩ : MethodName) prog_15_method_11_code 4 (some .double) rm_c_clamp Z [.double v, .double (9218868437227405312 : UInt64)] rest (fun v_ K => v_ = some (.double v) ∧ rest = K) := by
  refine OMeets.of_body (plainFor_of_name pn_com_example_tapflow_tapflow_VelocityTracker) #[.val (.double v), .second, .val (.double (9218868437227405312 : UInt64)), .second] (fun m => ef_c_clamp m v (9218868437227405312 : UInt64)) fun pP eE sS mM bB hH cC T N => ?_
  refine k_dload_n (pc := 0) N d29_0 rfl ?_
  refine k_dneg (pc := 1) N d29_1 ?_
  rw [show (FP.dneg (9218868437227405312 : UInt64)) = (18442240474082181120 : UInt64) by decide +kernel]
  refine k_dload_n (pc := 2) N d29_2 rfl ?_
  refine k_dload_n (pc := 3) N d29_3 rfl ?_
  refine k_minD (pc := 4) N 2 d29_4 (by decide +kernel) (hw _ (List.mem_of_getElem? (i := 205) rfl)) (hw _ (List.mem_of_getElem? (i := 206) rfl)) (hw _ (List.mem_of_getElem? (i := 40) rfl)) (hw _ (List.mem_of_getElem? (i := 207) rfl)) (by unfold NoNaN64; decide +kernel) (dnn hv) (v := v) (min_inf hv) rfl rfl (by decide) (by decide) (by decide) (by decide) fun T N => ?_
  refine k_maxD (pc := 7) N 0 d29_7 (by decide +kernel) (hw _ (List.mem_of_getElem? (i := 208) rfl)) (hw _ (List.mem_of_getElem? (i := 209) rfl)) (hw _ (List.mem_of_getElem? (i := 40) rfl)) (hw _ (List.mem_of_getElem? (i := 210) rfl)) (by unfold NoNaN64; decide +kernel) (dnn hv) (v := v) (max_ninf hv) rfl rfl (by decide) (by decide) (by decide) (by decide) fun T N => ?_
  exact k_dreturn (pc := 10) N d29_10 rfl (by decide) (by decide) ⟨rfl, rfl⟩
set_option maxRecDepth 65536 in
theorem ef_c_cv2 (m : MethodId) (z0 : Addr) (z1 : Int32) (z2 : UInt64) : entryFrame m ([.ref z0, .int z1, .double z2] : List Value).toArray 6 = mkF m 0 #[.val (.ref z0), .val (.int z1), .val (.double z2), .second, .unset, .unset] [] := by first | (simp [entryFrame, mkF, argsToLocals, Value.category]; done) | rfl
def rm_c_cv2 : Room := { frames := 3, cells := 0, slots := 0, locals := 62 }
set_option maxRecDepth 65536 in
set_option maxHeartbeats 40000000 in
theorem c_cv2 (l : Launch) (Z : State) (a0 : Array Value) (hw : ∀ d ∈ tables_1, d.before a0 Z = true) (vt pa xv yv : Addr) (kpa : ClassId) (ov : Ovr Z kpa "com/example/tapflow/tapflow/VelocityTracker$Positions") (lt : Int64) (P : Nat → Value) (kxv kyv : ClassId) (gx gy : Nat → UInt64) (lo hi : Nat) (hlo : lo < 32) (hhi : hi < 32) (hne : hi ≠ lo) (p0 ta0 xa0 ya0 : Addr) (kt0 kxa0 kya0 : ClassId) (ft0 : Nat → Int64) (fx0 fy0 : Nat → UInt64) (sx0 sy0 : UInt64) (p1 ta1 xa1 ya1 : Addr) (kt1 kxa1 kya1 : ClassId) (ft1 : Nat → Int64) (fx1 fy1 : Nat → UInt64) (sx1 sy1 : UInt64) (hP0 : P lo = .ref p0) (hP1 : P hi = .ref p1) (hPn : ∀ j, j ≠ lo → j ≠ hi → P j = .null) (x00 x01 y00 y01 x10 x11 y10 y11 : Int) (ht10 : lt - (ft0 1) = 0) (ht00 : lt - (ft0 0) = 1000000) (htm0 : (ft0 0) - (ft0 1) = -1000000) (hx00 : DInt x00 (fx0 0)) (hx10 : DInt x01 (fx0 1)) (hy00 : DInt y00 (fy0 0)) (hy10 : DInt y01 (fy0 1)) (b10 : -32768 ≤ x00 ∧ x00 ≤ 32767) (b20 : -32768 ≤ y00 ∧ y00 ≤ 32767) (b30 : -32768 ≤ x01 ∧ x01 ≤ 32767) (b40 : -32768 ≤ y01 ∧ y01 ≤ 32767) (ht11 : lt - (ft1 1) = 0) (ht01 : lt - (ft1 0) = 1000000) (htm1 : (ft1 0) - (ft1 1) = -1000000) (hx01 : DInt x10 (fx1 0)) (hx11 : DInt x11 (fx1 1)) (hy01 : DInt y10 (fy1 0)) (hy11 : DInt y11 (fy1 1)) (b11 : -32768 ≤ x10 ∧ x10 ≤ 32767) (b21 : -32768 ≤ y10 ∧ y10 ≤ 32767) (b31 : -32768 ≤ x11 ∧ x11 ≤ 32767) (b41 : -32768 ≤ y11 ∧ y11 ≤ 32767) (rest : List Ent) :
    OMeets l (⟨"com/example/tapflow/tapflow/VelocityTracker", "computeCurrentVelocity", "(ID)V"⟩ : MethodName) prog_15_method_5_code 6 none rm_c_cv2 Z [.ref vt, .int (1 : Int32), .double (9218868437227405312 : UInt64)] ((oVt Z vt (.ref pa) (.ref xv) (.ref yv) (.long lt)) :: (oArr Z pa kpa (.object "com/example/tapflow/tapflow/VelocityTracker$Positions") (vA 32 P)) :: (oArr Z xv kxv .double (dA 32 gx)) :: (oArr Z yv kyv .double (dA 32 gy)) :: (oPo Z p0 (.ref ta0) (.ref xa0) (.ref ya0) (.int (2 : Int32)) (.int (2 : Int32)) (.double sx0) (.double sy0)) :: (oArr Z ta0 kt0 .long (lA 64 ft0)) :: (oArr Z xa0 kxa0 .double (dA 64 fx0)) :: (oArr Z ya0 kya0 .double (dA 64 fy0)) :: (oPo Z p1 (.ref ta1) (.ref xa1) (.ref ya1) (.int (2 : Int32)) (.int (2 : Int32)) (.double sx1) (.double sy1)) :: (oArr Z ta1 kt1 .long (lA 64 ft1)) :: (oArr Z xa1 kxa1 .double (dA 64 fx1)) :: (oArr Z ya1 kya1 .double (dA 64 fy1)) :: rest) (fun v K => ∃ (hx' hy' : Nat → UInt64) (a1' a2' a3' a4' : UInt64), DInt (x01 - x00) (hx' lo) ∧ DInt (y11 - y10) (hy' hi) ∧ v = none ∧ K = (oVt Z vt (.ref pa) (.ref xv) (.ref yv) (.long lt)) :: (oArr Z pa kpa (.object "com/example/tapflow/tapflow/VelocityTracker$Positions") (vA 32 P)) :: (oArr Z xv kxv .double (dA 32 hx')) :: (oArr Z yv kyv .double (dA 32 hy')) :: (oPo Z p0 (.ref ta0) (.ref xa0) (.ref ya0) (.int (2 : Int32)) (.int (2 : Int32)) (.double a1') (.double a2')) :: (oArr Z ta0 kt0 .long (lA 64 ft0)) :: (oArr Z xa0 kxa0 .double (dA 64 fx0)) :: (oArr Z ya0 kya0 .double (dA 64 fy0)) :: (oPo Z p1 (.ref ta1) (.ref xa1) (.ref ya1) (.int (2 : Int32)) (.int (2 : Int32)) (.double a3') (.double a4')) :: (oArr Z ta1 kt1 .long (lA 64 ft1)) :: (oArr Z xa1 kxa1 .double (dA 64 fx1)) :: (oArr Z ya1 kya1 .double (dA 64 fy1)) :: rest) := by
  refine OMeets.of_body (plainFor_of_name pn_com_example_tapflow_tapflow_VelocityTracker) #[.val (.ref vt), .val (.int (1 : Int32)), .val (.double (9218868437227405312 : UInt64)), .second, .unset, .unset] (fun m => ef_c_cv2 m vt (1 : Int32) (9218868437227405312 : UInt64)) fun pP eE sS mM bB hH cC T N => ?_
  refine k_iload_n (pc := 0) N d25_0 rfl ?_
  refine k_if_gt (pc := 1) N d25_1 (pc' := 18) (by decide) (fun _ => ?_) (fun qQ => absurd qQ (by decide))
  refine k_dload_n (pc := 18) N d25_18 rfl ?_
  refine k_dconst0 (pc := 19) N d25_19 (v := (0 : UInt64)) rfl ?_
  refine k_dcmp (pc := 20) N d25_20 (v := (1 : Int32)) (by decide +kernel) ?_
  refine k_if_gt (pc := 21) N d25_21 (pc' := 38) (by decide) (fun _ => ?_) (fun qQ => absurd qQ (by decide))
  refine k_iconst (pc := 38) N d25_38 (v := (0 : Int32)) (by decide) ?_
  refine k_istore (pc := 39) N d25_39 (Ls' := #[.val (.ref vt), .val (.int (1 : Int32)), .val (.double (9218868437227405312 : UInt64)), .second, .val (.int (0 : Int32)), .unset]) rfl ?_
  have J : ∀ k id : Nat, id + k = 32 → ∀ (gx gy : Nat → UInt64) (sx0 sy0 sx1 sy1 : UInt64), (lo < id → DInt (x01 - x00) (gx lo)) → (hi < id → DInt (y11 - y10) (gy hi)) → ∀ (s5 : Slot), (s5 = .unset ∨ s5 = .val .null ∨ ∃ a, s5 = .val (.ref a)) → ∀ T, ONow pP l eE rm_c_cv2 sS mM ([.ref vt, .int (1 : Int32), .double (9218868437227405312 : UInt64)] : List Value).toArray bB hH cC Z (⟨"com/example/tapflow/tapflow/VelocityTracker", "computeCurrentVelocity", "(ID)V"⟩ : MethodName).cls prog_15_method_5_code 6 none (⟨"com/example/tapflow/tapflow/VelocityTracker", "computeCurrentVelocity", "(ID)V"⟩ : MethodName).name T 0 0 ((oVt Z vt (.ref pa) (.ref xv) (.ref yv) (.long lt)) :: (oArr Z pa kpa (.object "com/example/tapflow/tapflow/VelocityTracker$Positions") (vA 32 P)) :: (oArr Z xv kxv .double (dA 32 gx)) :: (oArr Z yv kyv .double (dA 32 gy)) :: (oPo Z p0 (.ref ta0) (.ref xa0) (.ref ya0) (.int (2 : Int32)) (.int (2 : Int32)) (.double sx0) (.double sy0)) :: (oArr Z ta0 kt0 .long (lA 64 ft0)) :: (oArr Z xa0 kxa0 .double (dA 64 fx0)) :: (oArr Z ya0 kya0 .double (dA 64 fy0)) :: (oPo Z p1 (.ref ta1) (.ref xa1) (.ref ya1) (.int (2 : Int32)) (.int (2 : Int32)) (.double sx1) (.double sy1)) :: (oArr Z ta1 kt1 .long (lA 64 ft1)) :: (oArr Z xa1 kxa1 .double (dA 64 fx1)) :: (oArr Z ya1 kya1 .double (dA 64 fy1)) :: rest) → OGo pP eE bB (OPost Z sS (fun v K => ∃ (hx' hy' : Nat → UInt64) (a1' a2' a3' a4' : UInt64), DInt (x01 - x00) (hx' lo) ∧ DInt (y11 - y10) (hy' hi) ∧ v = none ∧ K = (oVt Z vt (.ref pa) (.ref xv) (.ref yv) (.long lt)) :: (oArr Z pa kpa (.object "com/example/tapflow/tapflow/VelocityTracker$Positions") (vA 32 P)) :: (oArr Z xv kxv .double (dA 32 hx')) :: (oArr Z yv kyv .double (dA 32 hy')) :: (oPo Z p0 (.ref ta0) (.ref xa0) (.ref ya0) (.int (2 : Int32)) (.int (2 : Int32)) (.double a1') (.double a2')) :: (oArr Z ta0 kt0 .long (lA 64 ft0)) :: (oArr Z xa0 kxa0 .double (dA 64 fx0)) :: (oArr Z ya0 kya0 .double (dA 64 fy0)) :: (oPo Z p1 (.ref ta1) (.ref xa1) (.ref ya1) (.int (2 : Int32)) (.int (2 : Int32)) (.double a3') (.double a4')) :: (oArr Z ta1 kt1 .long (lA 64 ft1)) :: (oArr Z xa1 kxa1 .double (dA 64 fx1)) :: (oArr Z ya1 kya1 .double (dA 64 fy1)) :: rest) rm_c_cv2) T (mkF mM 41 #[.val (.ref vt), .val (.int (1 : Int32)), .val (.double (9218868437227405312 : UInt64)), .second, .val (.int (nd id)), s5] []) := by
    intro k
    induction k with
    | zero =>
      intro id hk gx gy sx0 sy0 sx1 sy1 hI1 hI2 s5 hs5 T N
      obtain rfl : 32 = id := by omega
      refine k_iload (pc := 41) N d25_41 rfl ?_
      refine k_bipush (pc := 43) N d25_43 (v := (32 : Int32)) (by decide) ?_
      refine k_icmp_ge (pc := 45) N d25_45 (pc' := 134) (by decide) (fun _ => ?_) (fun qQ => absurd qQ (by decide))
      exact k_return (pc := 134) N d25_134 rfl (by decide) (by decide) ⟨gx, gy, sx0, sy0, sx1, sy1, hI1 hlo, hI2 hhi, rfl, rfl⟩
    | succ k ih =>
      intro id hk gx gy sx0 sy0 sx1 sy1 hI1 hI2 s5 hs5 T N
      have hid : id < 32 := by omega
      refine k_iload (pc := 41) N d25_41 rfl ?_
      refine k_bipush (pc := 43) N d25_43 (v := (32 : Int32)) (by decide) ?_
      refine k_icmp_ge (pc := 45) N d25_45 (pc' := 134) (by decide) (fun qQ => absurd qQ (fun z => z ((nd_lt32 id (by omega)).mpr hid))) (fun _ => ?_)
      refine k_aload_n (pc := 48) N d25_48 rfl rfl ?_
      refine k_get (pc := 49) (host := "") N 0 0 d25_49 (Or.inl (hw _ (List.mem_of_getElem? (i := 13) rfl))) Via.refl rfl rfl fun T N => ?_
      refine k_iload (pc := 52) N d25_52 rfl ?_
      by_cases e0 : id = lo
      · have hv : P id = .ref p0 := by rw [e0]; exact hP0
        refine k_aaload (pc := 54) N 1 id d25_54 rfl rfl (nd_nn _ (Nat.lt_of_lt_of_le hid (by decide))) (nd_nat _ (Nat.lt_of_lt_of_le hid (by decide))) (v := .ref p0) ((aF_get hid).trans (congrArg some hv)) ?_
        refine k_astore (pc := 55) N d25_55 rfl (Ls' := #[.val (.ref vt), .val (.int (1 : Int32)), .val (.double (9218868437227405312 : UInt64)), .second, .val (.int (nd id)), .val (.ref p0)]) (by rcases hs5 with rfl | rfl | ⟨a5, rfl⟩ <;> rfl) ?_
        refine k_aload (pc := 57) N d25_57 rfl rfl ?_
        refine k_ifnull_no (pc := 59) N d25_59 ?_
        refine k_aload_n (pc := 62) N d25_62 rfl rfl ?_
        refine k_aload (pc := 63) N d25_63 rfl rfl ?_
        replace N := ONow.sel (F := [oVt Z vt (.ref pa) (.ref xv) (.ref yv) (.long lt), oArr Z pa kpa (.object "com/example/tapflow/tapflow/VelocityTracker$Positions") (vA 32 P), oArr Z xv kxv .double (dA 32 gx), oArr Z yv kyv .double (dA 32 gy), oPo Z p0 (.ref ta0) (.ref xa0) (.ref ya0) (.int (2 : Int32)) (.int (2 : Int32)) (.double sx0) (.double sy0), oArr Z ta0 kt0 .long (lA 64 ft0), oArr Z xa0 kxa0 .double (dA 64 fx0), oArr Z ya0 kya0 .double (dA 64 fy0), oPo Z p1 (.ref ta1) (.ref xa1) (.ref ya1) (.int (2 : Int32)) (.int (2 : Int32)) (.double sx1) (.double sy1), oArr Z ta1 kt1 .long (lA 64 ft1), oArr Z xa1 kxa1 .double (dA 64 fx1), oArr Z ya1 kya1 .double (dA 64 fy1)]) (F' := [oVt Z vt (.ref pa) (.ref xv) (.ref yv) (.long lt), oPo Z p0 (.ref ta0) (.ref xa0) (.ref ya0) (.int (2 : Int32)) (.int (2 : Int32)) (.double sx0) (.double sy0), oArr Z ta0 kt0 .long (lA 64 ft0), oArr Z xa0 kxa0 .double (dA 64 fx0), oArr Z ya0 kya0 .double (dA 64 fy0), oArr Z pa kpa (.object "com/example/tapflow/tapflow/VelocityTracker$Positions") (vA 32 P), oArr Z xv kxv .double (dA 32 gx), oArr Z yv kyv .double (dA 32 gy), oPo Z p1 (.ref ta1) (.ref xa1) (.ref ya1) (.int (2 : Int32)) (.int (2 : Int32)) (.double sx1) (.double sy1), oArr Z ta1 kt1 .long (lA 64 ft1), oArr Z xa1 kxa1 .double (dA 64 fx1), oArr Z ya1 kya1 .double (dA 64 fy1)]) (rest := rest) N [0, 4, 5, 6, 7, 1, 2, 3, 8, 9, 10, 11] (by decide) rfl
        refine k_private (pc := 65) N (y := (⟨"com/example/tapflow/tapflow/VelocityTracker", "fit", "(Lcom/example/tapflow/tapflow/VelocityTracker$Positions;)Z"⟩ : MethodName)) (rest := []) [.ref p0] (a := vt) 0 d25_65 rfl (hw _ (List.mem_of_getElem? (i := 3) rfl)) (hw _ (List.mem_of_getElem? (i := 180) rfl)) (hw _ (List.mem_of_getElem? (i := 181) rfl)) (hw _ (List.mem_of_getElem? (i := 182) rfl)) (hw _ (List.mem_of_getElem? (i := 4) rfl)) (hw _ (List.mem_of_getElem? (i := 183) rfl)) (by decide) pd__Lcom_example_tapflow_tapflow_VelocityTracker_Positions__Z rfl (c_fit2 l Z a0 hw vt pa xv yv lt p0 ta0 xa0 ya0 kt0 kxa0 kya0 ft0 fx0 fy0 sx0 sy0 x00 x01 y00 y01 ht10 ht00 htm0 hx00 hx10 hy00 hy10 b10 b20 b30 b40 ((oArr Z pa kpa (.object "com/example/tapflow/tapflow/VelocityTracker$Positions") (vA 32 P)) :: (oArr Z xv kxv .double (dA 32 gx)) :: (oArr Z yv kyv .double (dA 32 gy)) :: (oPo Z p1 (.ref ta1) (.ref xa1) (.ref ya1) (.int (2 : Int32)) (.int (2 : Int32)) (.double sx1) (.double sy1)) :: (oArr Z ta1 kt1 .long (lA 64 ft1)) :: (oArr Z xa1 kxa1 .double (dA 64 fx1)) :: (oArr Z ya1 kya1 .double (dA 64 fy1)) :: rest)) rfl rfl 0 rfl (by decide) (by decide) (cells' := 0) rfl (slots' := 0) rfl (by decide) (by decide) fun T vV K' N qQ => ?_
        obtain ⟨u1, u2, rfl, hu1, hu2, rfl⟩ := qQ
        refine k_if_ne (pc := 68) N d25_68 (pc' := 90) (by decide) (fun _ => ?_) (fun qQ => absurd qQ (by decide))
        refine k_aload_n (pc := 90) N d25_90 rfl rfl ?_
        refine k_get (pc := 91) (host := "") N 0 1 d25_91 (Or.inl (hw _ (List.mem_of_getElem? (i := 15) rfl))) Via.refl rfl rfl fun T N => ?_
        refine k_iload (pc := 94) N d25_94 rfl ?_
        refine k_aload (pc := 96) N d25_96 rfl rfl ?_
        refine k_getR (pc := 98) N 1 5 d25_98 (hw _ (List.mem_of_getElem? (i := 198) rfl)) rfl rfl ?_
        refine k_iload_n (pc := 101) N d25_101 rfl ?_
        refine k_i2d (pc := 102) N d25_102 ?_
        refine k_dmul (pc := 103) N d25_103 (v := (FP.dmul u1 (FP.i2d (1 : Int32)))) (dnn (D_mul hu1 (show DInt 1 (FP.i2d (1 : Int32)) from FP.Core.i2d_int (1 : Int32)) (k := (x01 - x00)) (Int.mul_one _) (by omega))) rfl ?_
        have hvx : DInt (x01 - x00) (FP.dmul u1 (FP.i2d (1 : Int32))) := (D_mul hu1 (show DInt 1 (FP.i2d (1 : Int32)) from FP.Core.i2d_int (1 : Int32)) (k := (x01 - x00)) (Int.mul_one _) (by omega))
        generalize (FP.dmul u1 (FP.i2d (1 : Int32))) = vx at hvx ⊢
        refine k_dload_n (pc := 104) N d25_104 rfl ?_
        refine k_static (pc := 105) N (y := (⟨"com/example/tapflow/tapflow/VelocityTracker", "clamp", "(DD)D"⟩ : MethodName)) (rest := [.int (nd id), .ref xv]) [.double vx, .double (9218868437227405312 : UInt64)] d25_105 (hw _ (List.mem_of_getElem? (i := 202) rfl)) (hw _ (List.mem_of_getElem? (i := 203) rfl)) (hw _ (List.mem_of_getElem? (i := 4) rfl)) (hw _ (List.mem_of_getElem? (i := 204) rfl)) (by decide) pd__DD_D rfl (c_clamp l Z a0 hw (x01 - x00) vx hvx ((oVt Z vt (.ref pa) (.ref xv) (.ref yv) (.long lt)) :: (oPo Z p0 (.ref ta0) (.ref xa0) (.ref ya0) (.int (2 : Int32)) (.int (2 : Int32)) (.double u1) (.double u2)) :: (oArr Z ta0 kt0 .long (lA 64 ft0)) :: (oArr Z xa0 kxa0 .double (dA 64 fx0)) :: (oArr Z ya0 kya0 .double (dA 64 fy0)) :: (oArr Z pa kpa (.object "com/example/tapflow/tapflow/VelocityTracker$Positions") (vA 32 P)) :: (oArr Z xv kxv .double (dA 32 gx)) :: (oArr Z yv kyv .double (dA 32 gy)) :: (oPo Z p1 (.ref ta1) (.ref xa1) (.ref ya1) (.int (2 : Int32)) (.int (2 : Int32)) (.double sx1) (.double sy1)) :: (oArr Z ta1 kt1 .long (lA 64 ft1)) :: (oArr Z xa1 kxa1 .double (dA 64 fx1)) :: (oArr Z ya1 kya1 .double (dA 64 fy1)) :: rest)) rfl rfl 2 rfl (by decide) (by decide) (cells' := 0) rfl (slots' := 0) rfl (by decide) (by decide) fun T vV K' N qQ => ?_
        obtain ⟨rfl, rfl⟩ := qQ
        refine k_dastore (pc := 108) N 6 id d25_108 rfl (nd_nn _ (Nat.lt_of_lt_of_le hid (by decide))) (nd_nat _ (Nat.lt_of_lt_of_le hid (by decide))) (by rw [dA_len]; exact hid) (v := .double vx) rfl (K' := ((oVt Z vt (.ref pa) (.ref xv) (.ref yv) (.long lt)) :: (oPo Z p0 (.ref ta0) (.ref xa0) (.ref ya0) (.int (2 : Int32)) (.int (2 : Int32)) (.double u1) (.double u2)) :: (oArr Z ta0 kt0 .long (lA 64 ft0)) :: (oArr Z xa0 kxa0 .double (dA 64 fx0)) :: (oArr Z ya0 kya0 .double (dA 64 fy0)) :: (oArr Z pa kpa (.object "com/example/tapflow/tapflow/VelocityTracker$Positions") (vA 32 P)) :: (oArr Z xv kxv .double (dA 32 (upd gx id vx))) :: (oArr Z yv kyv .double (dA 32 gy)) :: (oPo Z p1 (.ref ta1) (.ref xa1) (.ref ya1) (.int (2 : Int32)) (.int (2 : Int32)) (.double sx1) (.double sy1)) :: (oArr Z ta1 kt1 .long (lA 64 ft1)) :: (oArr Z xa1 kxa1 .double (dA 64 fx1)) :: (oArr Z ya1 kya1 .double (dA 64 fy1)) :: rest)) (by rw [set_dA]; rfl) fun T N => ?_
        refine k_aload_n (pc := 109) N d25_109 rfl rfl ?_
        refine k_get (pc := 110) (host := "") N 0 2 d25_110 (Or.inl (hw _ (List.mem_of_getElem? (i := 17) rfl))) Via.refl rfl rfl fun T N => ?_
        refine k_iload (pc := 113) N d25_113 rfl ?_
        refine k_aload (pc := 115) N d25_115 rfl rfl ?_
        refine k_getR (pc := 117) N 1 6 d25_117 (hw _ (List.mem_of_getElem? (i := 200) rfl)) rfl rfl ?_
        refine k_iload_n (pc := 120) N d25_120 rfl ?_
        refine k_i2d (pc := 121) N d25_121 ?_
        refine k_dmul (pc := 122) N d25_122 (v := (FP.dmul u2 (FP.i2d (1 : Int32)))) (dnn (D_mul hu2 (show DInt 1 (FP.i2d (1 : Int32)) from FP.Core.i2d_int (1 : Int32)) (k := (y01 - y00)) (Int.mul_one _) (by omega))) rfl ?_
        have hvy : DInt (y01 - y00) (FP.dmul u2 (FP.i2d (1 : Int32))) := (D_mul hu2 (show DInt 1 (FP.i2d (1 : Int32)) from FP.Core.i2d_int (1 : Int32)) (k := (y01 - y00)) (Int.mul_one _) (by omega))
        generalize (FP.dmul u2 (FP.i2d (1 : Int32))) = vy at hvy ⊢
        refine k_dload_n (pc := 123) N d25_123 rfl ?_
        refine k_static (pc := 124) N (y := (⟨"com/example/tapflow/tapflow/VelocityTracker", "clamp", "(DD)D"⟩ : MethodName)) (rest := [.int (nd id), .ref yv]) [.double vy, .double (9218868437227405312 : UInt64)] d25_124 (hw _ (List.mem_of_getElem? (i := 202) rfl)) (hw _ (List.mem_of_getElem? (i := 203) rfl)) (hw _ (List.mem_of_getElem? (i := 4) rfl)) (hw _ (List.mem_of_getElem? (i := 204) rfl)) (by decide) pd__DD_D rfl (c_clamp l Z a0 hw (y01 - y00) vy hvy ((oVt Z vt (.ref pa) (.ref xv) (.ref yv) (.long lt)) :: (oPo Z p0 (.ref ta0) (.ref xa0) (.ref ya0) (.int (2 : Int32)) (.int (2 : Int32)) (.double u1) (.double u2)) :: (oArr Z ta0 kt0 .long (lA 64 ft0)) :: (oArr Z xa0 kxa0 .double (dA 64 fx0)) :: (oArr Z ya0 kya0 .double (dA 64 fy0)) :: (oArr Z pa kpa (.object "com/example/tapflow/tapflow/VelocityTracker$Positions") (vA 32 P)) :: (oArr Z xv kxv .double (dA 32 (upd gx id vx))) :: (oArr Z yv kyv .double (dA 32 gy)) :: (oPo Z p1 (.ref ta1) (.ref xa1) (.ref ya1) (.int (2 : Int32)) (.int (2 : Int32)) (.double sx1) (.double sy1)) :: (oArr Z ta1 kt1 .long (lA 64 ft1)) :: (oArr Z xa1 kxa1 .double (dA 64 fx1)) :: (oArr Z ya1 kya1 .double (dA 64 fy1)) :: rest)) rfl rfl 2 rfl (by decide) (by decide) (cells' := 0) rfl (slots' := 0) rfl (by decide) (by decide) fun T vV K' N qQ => ?_
        obtain ⟨rfl, rfl⟩ := qQ
        refine k_dastore (pc := 127) N 7 id d25_127 rfl (nd_nn _ (Nat.lt_of_lt_of_le hid (by decide))) (nd_nat _ (Nat.lt_of_lt_of_le hid (by decide))) (by rw [dA_len]; exact hid) (v := .double vy) rfl (K' := ((oVt Z vt (.ref pa) (.ref xv) (.ref yv) (.long lt)) :: (oPo Z p0 (.ref ta0) (.ref xa0) (.ref ya0) (.int (2 : Int32)) (.int (2 : Int32)) (.double u1) (.double u2)) :: (oArr Z ta0 kt0 .long (lA 64 ft0)) :: (oArr Z xa0 kxa0 .double (dA 64 fx0)) :: (oArr Z ya0 kya0 .double (dA 64 fy0)) :: (oArr Z pa kpa (.object "com/example/tapflow/tapflow/VelocityTracker$Positions") (vA 32 P)) :: (oArr Z xv kxv .double (dA 32 (upd gx id vx))) :: (oArr Z yv kyv .double (dA 32 (upd gy id vy))) :: (oPo Z p1 (.ref ta1) (.ref xa1) (.ref ya1) (.int (2 : Int32)) (.int (2 : Int32)) (.double sx1) (.double sy1)) :: (oArr Z ta1 kt1 .long (lA 64 ft1)) :: (oArr Z xa1 kxa1 .double (dA 64 fx1)) :: (oArr Z ya1 kya1 .double (dA 64 fy1)) :: rest)) (by rw [set_dA]; rfl) fun T N => ?_
        refine k_iinc (pc := 128) N d25_128 rfl (v := (nd (id + 1))) (nd_succ id (by omega)) (Ls' := #[.val (.ref vt), .val (.int (1 : Int32)), .val (.double (9218868437227405312 : UInt64)), .second, .val (.int (nd (id + 1))), .val (.ref p0)]) rfl ?_
        refine k_goto (pc := 131) N d25_131 (pc' := 41) (by decide) ?_
        replace N := ONow.sel (F := [oVt Z vt (.ref pa) (.ref xv) (.ref yv) (.long lt), oPo Z p0 (.ref ta0) (.ref xa0) (.ref ya0) (.int (2 : Int32)) (.int (2 : Int32)) (.double u1) (.double u2), oArr Z ta0 kt0 .long (lA 64 ft0), oArr Z xa0 kxa0 .double (dA 64 fx0), oArr Z ya0 kya0 .double (dA 64 fy0), oArr Z pa kpa (.object "com/example/tapflow/tapflow/VelocityTracker$Positions") (vA 32 P), oArr Z xv kxv .double (dA 32 (upd gx id vx)), oArr Z yv kyv .double (dA 32 (upd gy id vy)), oPo Z p1 (.ref ta1) (.ref xa1) (.ref ya1) (.int (2 : Int32)) (.int (2 : Int32)) (.double sx1) (.double sy1), oArr Z ta1 kt1 .long (lA 64 ft1), oArr Z xa1 kxa1 .double (dA 64 fx1), oArr Z ya1 kya1 .double (dA 64 fy1)]) (F' := [oVt Z vt (.ref pa) (.ref xv) (.ref yv) (.long lt), oArr Z pa kpa (.object "com/example/tapflow/tapflow/VelocityTracker$Positions") (vA 32 P), oArr Z xv kxv .double (dA 32 (upd gx id vx)), oArr Z yv kyv .double (dA 32 (upd gy id vy)), oPo Z p0 (.ref ta0) (.ref xa0) (.ref ya0) (.int (2 : Int32)) (.int (2 : Int32)) (.double u1) (.double u2), oArr Z ta0 kt0 .long (lA 64 ft0), oArr Z xa0 kxa0 .double (dA 64 fx0), oArr Z ya0 kya0 .double (dA 64 fy0), oPo Z p1 (.ref ta1) (.ref xa1) (.ref ya1) (.int (2 : Int32)) (.int (2 : Int32)) (.double sx1) (.double sy1), oArr Z ta1 kt1 .long (lA 64 ft1), oArr Z xa1 kxa1 .double (dA 64 fx1), oArr Z ya1 kya1 .double (dA 64 fy1)]) (rest := rest) N [0, 5, 6, 7, 1, 2, 3, 4, 8, 9, 10, 11] (by decide) rfl
        exact ih (id + 1) (by omega) (upd gx id vx) (upd gy id vy) u1 u2 sx1 sy1 (inv_step hI1 (fun _ => hvx)) (inv_step hI2 (fun q => absurd (q.symm.trans e0) hne)) _ (Or.inr (Or.inr ⟨_, rfl⟩)) _ N
      · by_cases e1 : id = hi
        · have hv : P id = .ref p1 := by rw [e1]; exact hP1
          refine k_aaload (pc := 54) N 1 id d25_54 rfl rfl (nd_nn _ (Nat.lt_of_lt_of_le hid (by decide))) (nd_nat _ (Nat.lt_of_lt_of_le hid (by decide))) (v := .ref p1) ((aF_get hid).trans (congrArg some hv)) ?_
          refine k_astore (pc := 55) N d25_55 rfl (Ls' := #[.val (.ref vt), .val (.int (1 : Int32)), .val (.double (9218868437227405312 : UInt64)), .second, .val (.int (nd id)), .val (.ref p1)]) (by rcases hs5 with rfl | rfl | ⟨a5, rfl⟩ <;> rfl) ?_
          refine k_aload (pc := 57) N d25_57 rfl rfl ?_
          refine k_ifnull_no (pc := 59) N d25_59 ?_
          refine k_aload_n (pc := 62) N d25_62 rfl rfl ?_
          refine k_aload (pc := 63) N d25_63 rfl rfl ?_
          replace N := ONow.sel (F := [oVt Z vt (.ref pa) (.ref xv) (.ref yv) (.long lt), oArr Z pa kpa (.object "com/example/tapflow/tapflow/VelocityTracker$Positions") (vA 32 P), oArr Z xv kxv .double (dA 32 gx), oArr Z yv kyv .double (dA 32 gy), oPo Z p0 (.ref ta0) (.ref xa0) (.ref ya0) (.int (2 : Int32)) (.int (2 : Int32)) (.double sx0) (.double sy0), oArr Z ta0 kt0 .long (lA 64 ft0), oArr Z xa0 kxa0 .double (dA 64 fx0), oArr Z ya0 kya0 .double (dA 64 fy0), oPo Z p1 (.ref ta1) (.ref xa1) (.ref ya1) (.int (2 : Int32)) (.int (2 : Int32)) (.double sx1) (.double sy1), oArr Z ta1 kt1 .long (lA 64 ft1), oArr Z xa1 kxa1 .double (dA 64 fx1), oArr Z ya1 kya1 .double (dA 64 fy1)]) (F' := [oVt Z vt (.ref pa) (.ref xv) (.ref yv) (.long lt), oPo Z p1 (.ref ta1) (.ref xa1) (.ref ya1) (.int (2 : Int32)) (.int (2 : Int32)) (.double sx1) (.double sy1), oArr Z ta1 kt1 .long (lA 64 ft1), oArr Z xa1 kxa1 .double (dA 64 fx1), oArr Z ya1 kya1 .double (dA 64 fy1), oArr Z pa kpa (.object "com/example/tapflow/tapflow/VelocityTracker$Positions") (vA 32 P), oArr Z xv kxv .double (dA 32 gx), oArr Z yv kyv .double (dA 32 gy), oPo Z p0 (.ref ta0) (.ref xa0) (.ref ya0) (.int (2 : Int32)) (.int (2 : Int32)) (.double sx0) (.double sy0), oArr Z ta0 kt0 .long (lA 64 ft0), oArr Z xa0 kxa0 .double (dA 64 fx0), oArr Z ya0 kya0 .double (dA 64 fy0)]) (rest := rest) N [0, 8, 9, 10, 11, 1, 2, 3, 4, 5, 6, 7] (by decide) rfl
          refine k_private (pc := 65) N (y := (⟨"com/example/tapflow/tapflow/VelocityTracker", "fit", "(Lcom/example/tapflow/tapflow/VelocityTracker$Positions;)Z"⟩ : MethodName)) (rest := []) [.ref p1] (a := vt) 0 d25_65 rfl (hw _ (List.mem_of_getElem? (i := 3) rfl)) (hw _ (List.mem_of_getElem? (i := 180) rfl)) (hw _ (List.mem_of_getElem? (i := 181) rfl)) (hw _ (List.mem_of_getElem? (i := 182) rfl)) (hw _ (List.mem_of_getElem? (i := 4) rfl)) (hw _ (List.mem_of_getElem? (i := 183) rfl)) (by decide) pd__Lcom_example_tapflow_tapflow_VelocityTracker_Positions__Z rfl (c_fit2 l Z a0 hw vt pa xv yv lt p1 ta1 xa1 ya1 kt1 kxa1 kya1 ft1 fx1 fy1 sx1 sy1 x10 x11 y10 y11 ht11 ht01 htm1 hx01 hx11 hy01 hy11 b11 b21 b31 b41 ((oArr Z pa kpa (.object "com/example/tapflow/tapflow/VelocityTracker$Positions") (vA 32 P)) :: (oArr Z xv kxv .double (dA 32 gx)) :: (oArr Z yv kyv .double (dA 32 gy)) :: (oPo Z p0 (.ref ta0) (.ref xa0) (.ref ya0) (.int (2 : Int32)) (.int (2 : Int32)) (.double sx0) (.double sy0)) :: (oArr Z ta0 kt0 .long (lA 64 ft0)) :: (oArr Z xa0 kxa0 .double (dA 64 fx0)) :: (oArr Z ya0 kya0 .double (dA 64 fy0)) :: rest)) rfl rfl 0 rfl (by decide) (by decide) (cells' := 0) rfl (slots' := 0) rfl (by decide) (by decide) fun T vV K' N qQ => ?_
          obtain ⟨u1, u2, rfl, hu1, hu2, rfl⟩ := qQ
          refine k_if_ne (pc := 68) N d25_68 (pc' := 90) (by decide) (fun _ => ?_) (fun qQ => absurd qQ (by decide))
          refine k_aload_n (pc := 90) N d25_90 rfl rfl ?_
          refine k_get (pc := 91) (host := "") N 0 1 d25_91 (Or.inl (hw _ (List.mem_of_getElem? (i := 15) rfl))) Via.refl rfl rfl fun T N => ?_
          refine k_iload (pc := 94) N d25_94 rfl ?_
          refine k_aload (pc := 96) N d25_96 rfl rfl ?_
          refine k_getR (pc := 98) N 1 5 d25_98 (hw _ (List.mem_of_getElem? (i := 198) rfl)) rfl rfl ?_
          refine k_iload_n (pc := 101) N d25_101 rfl ?_
          refine k_i2d (pc := 102) N d25_102 ?_
          refine k_dmul (pc := 103) N d25_103 (v := (FP.dmul u1 (FP.i2d (1 : Int32)))) (dnn (D_mul hu1 (show DInt 1 (FP.i2d (1 : Int32)) from FP.Core.i2d_int (1 : Int32)) (k := (x11 - x10)) (Int.mul_one _) (by omega))) rfl ?_
          have hvx : DInt (x11 - x10) (FP.dmul u1 (FP.i2d (1 : Int32))) := (D_mul hu1 (show DInt 1 (FP.i2d (1 : Int32)) from FP.Core.i2d_int (1 : Int32)) (k := (x11 - x10)) (Int.mul_one _) (by omega))
          generalize (FP.dmul u1 (FP.i2d (1 : Int32))) = vx at hvx ⊢
          refine k_dload_n (pc := 104) N d25_104 rfl ?_
          refine k_static (pc := 105) N (y := (⟨"com/example/tapflow/tapflow/VelocityTracker", "clamp", "(DD)D"⟩ : MethodName)) (rest := [.int (nd id), .ref xv]) [.double vx, .double (9218868437227405312 : UInt64)] d25_105 (hw _ (List.mem_of_getElem? (i := 202) rfl)) (hw _ (List.mem_of_getElem? (i := 203) rfl)) (hw _ (List.mem_of_getElem? (i := 4) rfl)) (hw _ (List.mem_of_getElem? (i := 204) rfl)) (by decide) pd__DD_D rfl (c_clamp l Z a0 hw (x11 - x10) vx hvx ((oVt Z vt (.ref pa) (.ref xv) (.ref yv) (.long lt)) :: (oPo Z p1 (.ref ta1) (.ref xa1) (.ref ya1) (.int (2 : Int32)) (.int (2 : Int32)) (.double u1) (.double u2)) :: (oArr Z ta1 kt1 .long (lA 64 ft1)) :: (oArr Z xa1 kxa1 .double (dA 64 fx1)) :: (oArr Z ya1 kya1 .double (dA 64 fy1)) :: (oArr Z pa kpa (.object "com/example/tapflow/tapflow/VelocityTracker$Positions") (vA 32 P)) :: (oArr Z xv kxv .double (dA 32 gx)) :: (oArr Z yv kyv .double (dA 32 gy)) :: (oPo Z p0 (.ref ta0) (.ref xa0) (.ref ya0) (.int (2 : Int32)) (.int (2 : Int32)) (.double sx0) (.double sy0)) :: (oArr Z ta0 kt0 .long (lA 64 ft0)) :: (oArr Z xa0 kxa0 .double (dA 64 fx0)) :: (oArr Z ya0 kya0 .double (dA 64 fy0)) :: rest)) rfl rfl 2 rfl (by decide) (by decide) (cells' := 0) rfl (slots' := 0) rfl (by decide) (by decide) fun T vV K' N qQ => ?_
          obtain ⟨rfl, rfl⟩ := qQ
          refine k_dastore (pc := 108) N 6 id d25_108 rfl (nd_nn _ (Nat.lt_of_lt_of_le hid (by decide))) (nd_nat _ (Nat.lt_of_lt_of_le hid (by decide))) (by rw [dA_len]; exact hid) (v := .double vx) rfl (K' := ((oVt Z vt (.ref pa) (.ref xv) (.ref yv) (.long lt)) :: (oPo Z p1 (.ref ta1) (.ref xa1) (.ref ya1) (.int (2 : Int32)) (.int (2 : Int32)) (.double u1) (.double u2)) :: (oArr Z ta1 kt1 .long (lA 64 ft1)) :: (oArr Z xa1 kxa1 .double (dA 64 fx1)) :: (oArr Z ya1 kya1 .double (dA 64 fy1)) :: (oArr Z pa kpa (.object "com/example/tapflow/tapflow/VelocityTracker$Positions") (vA 32 P)) :: (oArr Z xv kxv .double (dA 32 (upd gx id vx))) :: (oArr Z yv kyv .double (dA 32 gy)) :: (oPo Z p0 (.ref ta0) (.ref xa0) (.ref ya0) (.int (2 : Int32)) (.int (2 : Int32)) (.double sx0) (.double sy0)) :: (oArr Z ta0 kt0 .long (lA 64 ft0)) :: (oArr Z xa0 kxa0 .double (dA 64 fx0)) :: (oArr Z ya0 kya0 .double (dA 64 fy0)) :: rest)) (by rw [set_dA]; rfl) fun T N => ?_
          refine k_aload_n (pc := 109) N d25_109 rfl rfl ?_
          refine k_get (pc := 110) (host := "") N 0 2 d25_110 (Or.inl (hw _ (List.mem_of_getElem? (i := 17) rfl))) Via.refl rfl rfl fun T N => ?_
          refine k_iload (pc := 113) N d25_113 rfl ?_
          refine k_aload (pc := 115) N d25_115 rfl rfl ?_
          refine k_getR (pc := 117) N 1 6 d25_117 (hw _ (List.mem_of_getElem? (i := 200) rfl)) rfl rfl ?_
          refine k_iload_n (pc := 120) N d25_120 rfl ?_
          refine k_i2d (pc := 121) N d25_121 ?_
          refine k_dmul (pc := 122) N d25_122 (v := (FP.dmul u2 (FP.i2d (1 : Int32)))) (dnn (D_mul hu2 (show DInt 1 (FP.i2d (1 : Int32)) from FP.Core.i2d_int (1 : Int32)) (k := (y11 - y10)) (Int.mul_one _) (by omega))) rfl ?_
          have hvy : DInt (y11 - y10) (FP.dmul u2 (FP.i2d (1 : Int32))) := (D_mul hu2 (show DInt 1 (FP.i2d (1 : Int32)) from FP.Core.i2d_int (1 : Int32)) (k := (y11 - y10)) (Int.mul_one _) (by omega))
          generalize (FP.dmul u2 (FP.i2d (1 : Int32))) = vy at hvy ⊢
          refine k_dload_n (pc := 123) N d25_123 rfl ?_
          refine k_static (pc := 124) N (y := (⟨"com/example/tapflow/tapflow/VelocityTracker", "clamp", "(DD)D"⟩ : MethodName)) (rest := [.int (nd id), .ref yv]) [.double vy, .double (9218868437227405312 : UInt64)] d25_124 (hw _ (List.mem_of_getElem? (i := 202) rfl)) (hw _ (List.mem_of_getElem? (i := 203) rfl)) (hw _ (List.mem_of_getElem? (i := 4) rfl)) (hw _ (List.mem_of_getElem? (i := 204) rfl)) (by decide) pd__DD_D rfl (c_clamp l Z a0 hw (y11 - y10) vy hvy ((oVt Z vt (.ref pa) (.ref xv) (.ref yv) (.long lt)) :: (oPo Z p1 (.ref ta1) (.ref xa1) (.ref ya1) (.int (2 : Int32)) (.int (2 : Int32)) (.double u1) (.double u2)) :: (oArr Z ta1 kt1 .long (lA 64 ft1)) :: (oArr Z xa1 kxa1 .double (dA 64 fx1)) :: (oArr Z ya1 kya1 .double (dA 64 fy1)) :: (oArr Z pa kpa (.object "com/example/tapflow/tapflow/VelocityTracker$Positions") (vA 32 P)) :: (oArr Z xv kxv .double (dA 32 (upd gx id vx))) :: (oArr Z yv kyv .double (dA 32 gy)) :: (oPo Z p0 (.ref ta0) (.ref xa0) (.ref ya0) (.int (2 : Int32)) (.int (2 : Int32)) (.double sx0) (.double sy0)) :: (oArr Z ta0 kt0 .long (lA 64 ft0)) :: (oArr Z xa0 kxa0 .double (dA 64 fx0)) :: (oArr Z ya0 kya0 .double (dA 64 fy0)) :: rest)) rfl rfl 2 rfl (by decide) (by decide) (cells' := 0) rfl (slots' := 0) rfl (by decide) (by decide) fun T vV K' N qQ => ?_
          obtain ⟨rfl, rfl⟩ := qQ
          refine k_dastore (pc := 127) N 7 id d25_127 rfl (nd_nn _ (Nat.lt_of_lt_of_le hid (by decide))) (nd_nat _ (Nat.lt_of_lt_of_le hid (by decide))) (by rw [dA_len]; exact hid) (v := .double vy) rfl (K' := ((oVt Z vt (.ref pa) (.ref xv) (.ref yv) (.long lt)) :: (oPo Z p1 (.ref ta1) (.ref xa1) (.ref ya1) (.int (2 : Int32)) (.int (2 : Int32)) (.double u1) (.double u2)) :: (oArr Z ta1 kt1 .long (lA 64 ft1)) :: (oArr Z xa1 kxa1 .double (dA 64 fx1)) :: (oArr Z ya1 kya1 .double (dA 64 fy1)) :: (oArr Z pa kpa (.object "com/example/tapflow/tapflow/VelocityTracker$Positions") (vA 32 P)) :: (oArr Z xv kxv .double (dA 32 (upd gx id vx))) :: (oArr Z yv kyv .double (dA 32 (upd gy id vy))) :: (oPo Z p0 (.ref ta0) (.ref xa0) (.ref ya0) (.int (2 : Int32)) (.int (2 : Int32)) (.double sx0) (.double sy0)) :: (oArr Z ta0 kt0 .long (lA 64 ft0)) :: (oArr Z xa0 kxa0 .double (dA 64 fx0)) :: (oArr Z ya0 kya0 .double (dA 64 fy0)) :: rest)) (by rw [set_dA]; rfl) fun T N => ?_
          refine k_iinc (pc := 128) N d25_128 rfl (v := (nd (id + 1))) (nd_succ id (by omega)) (Ls' := #[.val (.ref vt), .val (.int (1 : Int32)), .val (.double (9218868437227405312 : UInt64)), .second, .val (.int (nd (id + 1))), .val (.ref p1)]) rfl ?_
          refine k_goto (pc := 131) N d25_131 (pc' := 41) (by decide) ?_
          replace N := ONow.sel (F := [oVt Z vt (.ref pa) (.ref xv) (.ref yv) (.long lt), oPo Z p1 (.ref ta1) (.ref xa1) (.ref ya1) (.int (2 : Int32)) (.int (2 : Int32)) (.double u1) (.double u2), oArr Z ta1 kt1 .long (lA 64 ft1), oArr Z xa1 kxa1 .double (dA 64 fx1), oArr Z ya1 kya1 .double (dA 64 fy1), oArr Z pa kpa (.object "com/example/tapflow/tapflow/VelocityTracker$Positions") (vA 32 P), oArr Z xv kxv .double (dA 32 (upd gx id vx)), oArr Z yv kyv .double (dA 32 (upd gy id vy)), oPo Z p0 (.ref ta0) (.ref xa0) (.ref ya0) (.int (2 : Int32)) (.int (2 : Int32)) (.double sx0) (.double sy0), oArr Z ta0 kt0 .long (lA 64 ft0), oArr Z xa0 kxa0 .double (dA 64 fx0), oArr Z ya0 kya0 .double (dA 64 fy0)]) (F' := [oVt Z vt (.ref pa) (.ref xv) (.ref yv) (.long lt), oArr Z pa kpa (.object "com/example/tapflow/tapflow/VelocityTracker$Positions") (vA 32 P), oArr Z xv kxv .double (dA 32 (upd gx id vx)), oArr Z yv kyv .double (dA 32 (upd gy id vy)), oPo Z p0 (.ref ta0) (.ref xa0) (.ref ya0) (.int (2 : Int32)) (.int (2 : Int32)) (.double sx0) (.double sy0), oArr Z ta0 kt0 .long (lA 64 ft0), oArr Z xa0 kxa0 .double (dA 64 fx0), oArr Z ya0 kya0 .double (dA 64 fy0), oPo Z p1 (.ref ta1) (.ref xa1) (.ref ya1) (.int (2 : Int32)) (.int (2 : Int32)) (.double u1) (.double u2), oArr Z ta1 kt1 .long (lA 64 ft1), oArr Z xa1 kxa1 .double (dA 64 fx1), oArr Z ya1 kya1 .double (dA 64 fy1)]) (rest := rest) N [0, 5, 6, 7, 8, 9, 10, 11, 1, 2, 3, 4] (by decide) rfl
          exact ih (id + 1) (by omega) (upd gx id vx) (upd gy id vy) sx0 sy0 u1 u2 (inv_step hI1 (fun q => absurd (e1.symm.trans q) hne)) (inv_step hI2 (fun _ => hvy)) _ (Or.inr (Or.inr ⟨_, rfl⟩)) _ N
        · have hv : P id = .null := hPn id e0 e1
          refine k_aaload (pc := 54) N 1 id d25_54 rfl rfl (nd_nn _ (Nat.lt_of_lt_of_le hid (by decide))) (nd_nat _ (Nat.lt_of_lt_of_le hid (by decide))) (v := .null) ((aF_get hid).trans (congrArg some hv)) ?_
          refine k_astore (pc := 55) N d25_55 rfl (Ls' := #[.val (.ref vt), .val (.int (1 : Int32)), .val (.double (9218868437227405312 : UInt64)), .second, .val (.int (nd id)), .val .null]) (by rcases hs5 with rfl | rfl | ⟨a5, rfl⟩ <;> rfl) ?_
          refine k_aload (pc := 57) N d25_57 rfl rfl ?_
          refine k_ifnull_yes (pc := 59) N d25_59 (pc' := 71) (by decide) ?_
          refine k_aload_n (pc := 71) N d25_71 rfl rfl ?_
          refine k_get (pc := 72) (host := "") N 0 1 d25_72 (Or.inl (hw _ (List.mem_of_getElem? (i := 15) rfl))) Via.refl rfl rfl fun T N => ?_
          refine k_iload (pc := 75) N d25_75 rfl ?_
          refine k_dconst0 (pc := 77) N d25_77 (v := (0 : UInt64)) rfl ?_
          refine k_dastore (pc := 78) N 2 id d25_78 rfl (nd_nn _ (Nat.lt_of_lt_of_le hid (by decide))) (nd_nat _ (Nat.lt_of_lt_of_le hid (by decide))) (by rw [dA_len]; exact hid) (v := .double (0 : UInt64)) rfl (K' := ((oVt Z vt (.ref pa) (.ref xv) (.ref yv) (.long lt)) :: (oArr Z pa kpa (.object "com/example/tapflow/tapflow/VelocityTracker$Positions") (vA 32 P)) :: (oArr Z xv kxv .double (dA 32 (upd gx id (0 : UInt64)))) :: (oArr Z yv kyv .double (dA 32 gy)) :: (oPo Z p0 (.ref ta0) (.ref xa0) (.ref ya0) (.int (2 : Int32)) (.int (2 : Int32)) (.double sx0) (.double sy0)) :: (oArr Z ta0 kt0 .long (lA 64 ft0)) :: (oArr Z xa0 kxa0 .double (dA 64 fx0)) :: (oArr Z ya0 kya0 .double (dA 64 fy0)) :: (oPo Z p1 (.ref ta1) (.ref xa1) (.ref ya1) (.int (2 : Int32)) (.int (2 : Int32)) (.double sx1) (.double sy1)) :: (oArr Z ta1 kt1 .long (lA 64 ft1)) :: (oArr Z xa1 kxa1 .double (dA 64 fx1)) :: (oArr Z ya1 kya1 .double (dA 64 fy1)) :: rest)) (by rw [set_dA]; rfl) fun T N => ?_
          refine k_aload_n (pc := 79) N d25_79 rfl rfl ?_
          refine k_get (pc := 80) (host := "") N 0 2 d25_80 (Or.inl (hw _ (List.mem_of_getElem? (i := 17) rfl))) Via.refl rfl rfl fun T N => ?_
          refine k_iload (pc := 83) N d25_83 rfl ?_
          refine k_dconst0 (pc := 85) N d25_85 (v := (0 : UInt64)) rfl ?_
          refine k_dastore (pc := 86) N 3 id d25_86 rfl (nd_nn _ (Nat.lt_of_lt_of_le hid (by decide))) (nd_nat _ (Nat.lt_of_lt_of_le hid (by decide))) (by rw [dA_len]; exact hid) (v := .double (0 : UInt64)) rfl (K' := ((oVt Z vt (.ref pa) (.ref xv) (.ref yv) (.long lt)) :: (oArr Z pa kpa (.object "com/example/tapflow/tapflow/VelocityTracker$Positions") (vA 32 P)) :: (oArr Z xv kxv .double (dA 32 (upd gx id (0 : UInt64)))) :: (oArr Z yv kyv .double (dA 32 (upd gy id (0 : UInt64)))) :: (oPo Z p0 (.ref ta0) (.ref xa0) (.ref ya0) (.int (2 : Int32)) (.int (2 : Int32)) (.double sx0) (.double sy0)) :: (oArr Z ta0 kt0 .long (lA 64 ft0)) :: (oArr Z xa0 kxa0 .double (dA 64 fx0)) :: (oArr Z ya0 kya0 .double (dA 64 fy0)) :: (oPo Z p1 (.ref ta1) (.ref xa1) (.ref ya1) (.int (2 : Int32)) (.int (2 : Int32)) (.double sx1) (.double sy1)) :: (oArr Z ta1 kt1 .long (lA 64 ft1)) :: (oArr Z xa1 kxa1 .double (dA 64 fx1)) :: (oArr Z ya1 kya1 .double (dA 64 fy1)) :: rest)) (by rw [set_dA]; rfl) fun T N => ?_
          refine k_goto (pc := 87) N d25_87 (pc' := 128) (by decide) ?_
          refine k_iinc (pc := 128) N d25_128 rfl (v := (nd (id + 1))) (nd_succ id (by omega)) (Ls' := #[.val (.ref vt), .val (.int (1 : Int32)), .val (.double (9218868437227405312 : UInt64)), .second, .val (.int (nd (id + 1))), .val .null]) rfl ?_
          refine k_goto (pc := 131) N d25_131 (pc' := 41) (by decide) ?_
          exact ih (id + 1) (by omega) (upd gx id (0 : UInt64)) (upd gy id (0 : UInt64)) sx0 sy0 sx1 sy1 (inv_step hI1 (fun q => absurd q e0)) (inv_step hI2 (fun q => absurd q e1)) _ (Or.inr (Or.inl rfl)) _ N
  exact J 32 0 rfl _ _ _ _ _ _ (fun q => absurd q (by omega)) (fun q => absurd q (by omega)) _ (Or.inl rfl) _ N
set_option maxRecDepth 65536 in
theorem ef_c_ci2 (m : MethodId) (z0 : Addr) (z1 : Int32) : entryFrame m ([.ref z0, .int z1] : List Value).toArray 2 = mkF m 0 #[.val (.ref z0), .val (.int z1)] [] := by first | (simp [entryFrame, mkF, argsToLocals, Value.category]; done) | rfl
def rm_c_ci2 : Room := { frames := 4, cells := 0, slots := 0, locals := 79 }
set_option maxRecDepth 65536 in
set_option maxHeartbeats 40000000 in
theorem c_ci2 (l : Launch) (Z : State) (a0 : Array Value) (hw : ∀ d ∈ tables_1, d.before a0 Z = true) (vt pa xv yv : Addr) (kpa : ClassId) (ov : Ovr Z kpa "com/example/tapflow/tapflow/VelocityTracker$Positions") (lt : Int64) (P : Nat → Value) (kxv kyv : ClassId) (gx gy : Nat → UInt64) (lo hi : Nat) (hlo : lo < 32) (hhi : hi < 32) (hne : hi ≠ lo) (p0 ta0 xa0 ya0 : Addr) (kt0 kxa0 kya0 : ClassId) (ft0 : Nat → Int64) (fx0 fy0 : Nat → UInt64) (sx0 sy0 : UInt64) (p1 ta1 xa1 ya1 : Addr) (kt1 kxa1 kya1 : ClassId) (ft1 : Nat → Int64) (fx1 fy1 : Nat → UInt64) (sx1 sy1 : UInt64) (hP0 : P lo = .ref p0) (hP1 : P hi = .ref p1) (hPn : ∀ j, j ≠ lo → j ≠ hi → P j = .null) (x00 x01 y00 y01 x10 x11 y10 y11 : Int) (ht10 : lt - (ft0 1) = 0) (ht00 : lt - (ft0 0) = 1000000) (htm0 : (ft0 0) - (ft0 1) = -1000000) (hx00 : DInt x00 (fx0 0)) (hx10 : DInt x01 (fx0 1)) (hy00 : DInt y00 (fy0 0)) (hy10 : DInt y01 (fy0 1)) (b10 : -32768 ≤ x00 ∧ x00 ≤ 32767) (b20 : -32768 ≤ y00 ∧ y00 ≤ 32767) (b30 : -32768 ≤ x01 ∧ x01 ≤ 32767) (b40 : -32768 ≤ y01 ∧ y01 ≤ 32767) (ht11 : lt - (ft1 1) = 0) (ht01 : lt - (ft1 0) = 1000000) (htm1 : (ft1 0) - (ft1 1) = -1000000) (hx01 : DInt x10 (fx1 0)) (hx11 : DInt x11 (fx1 1)) (hy01 : DInt y10 (fy1 0)) (hy11 : DInt y11 (fy1 1)) (b11 : -32768 ≤ x10 ∧ x10 ≤ 32767) (b21 : -32768 ≤ y10 ∧ y10 ≤ 32767) (b31 : -32768 ≤ x11 ∧ x11 ≤ 32767) (b41 : -32768 ≤ y11 ∧ y11 ≤ 32767) (rest : List Ent) :
    OMeets l (⟨"com/example/tapflow/tapflow/VelocityTracker", "computeCurrentVelocity", "(I)V"⟩ : MethodName) prog_15_method_4_code 2 none rm_c_ci2 Z [.ref vt, .int (1 : Int32)] ((oVt Z vt (.ref pa) (.ref xv) (.ref yv) (.long lt)) :: (oArr Z pa kpa (.object "com/example/tapflow/tapflow/VelocityTracker$Positions") (vA 32 P)) :: (oArr Z xv kxv .double (dA 32 gx)) :: (oArr Z yv kyv .double (dA 32 gy)) :: (oPo Z p0 (.ref ta0) (.ref xa0) (.ref ya0) (.int (2 : Int32)) (.int (2 : Int32)) (.double sx0) (.double sy0)) :: (oArr Z ta0 kt0 .long (lA 64 ft0)) :: (oArr Z xa0 kxa0 .double (dA 64 fx0)) :: (oArr Z ya0 kya0 .double (dA 64 fy0)) :: (oPo Z p1 (.ref ta1) (.ref xa1) (.ref ya1) (.int (2 : Int32)) (.int (2 : Int32)) (.double sx1) (.double sy1)) :: (oArr Z ta1 kt1 .long (lA 64 ft1)) :: (oArr Z xa1 kxa1 .double (dA 64 fx1)) :: (oArr Z ya1 kya1 .double (dA 64 fy1)) :: rest) (fun v K => ∃ (hx' hy' : Nat → UInt64) (a1' a2' a3' a4' : UInt64), DInt (x01 - x00) (hx' lo) ∧ DInt (y11 - y10) (hy' hi) ∧ v = none ∧ K = (oVt Z vt (.ref pa) (.ref xv) (.ref yv) (.long lt)) :: (oArr Z pa kpa (.object "com/example/tapflow/tapflow/VelocityTracker$Positions") (vA 32 P)) :: (oArr Z xv kxv .double (dA 32 hx')) :: (oArr Z yv kyv .double (dA 32 hy')) :: (oPo Z p0 (.ref ta0) (.ref xa0) (.ref ya0) (.int (2 : Int32)) (.int (2 : Int32)) (.double a1') (.double a2')) :: (oArr Z ta0 kt0 .long (lA 64 ft0)) :: (oArr Z xa0 kxa0 .double (dA 64 fx0)) :: (oArr Z ya0 kya0 .double (dA 64 fy0)) :: (oPo Z p1 (.ref ta1) (.ref xa1) (.ref ya1) (.int (2 : Int32)) (.int (2 : Int32)) (.double a3') (.double a4')) :: (oArr Z ta1 kt1 .long (lA 64 ft1)) :: (oArr Z xa1 kxa1 .double (dA 64 fx1)) :: (oArr Z ya1 kya1 .double (dA 64 fy1)) :: rest) := by
  refine OMeets.of_body (plainFor_of_name pn_com_example_tapflow_tapflow_VelocityTracker) #[.val (.ref vt), .val (.int (1 : Int32))] (fun m => ef_c_ci2 m vt (1 : Int32)) fun pP eE sS mM bB hH cC T N => ?_
  refine k_aload_n (pc := 0) N d24_0 rfl rfl ?_
  refine k_iload_n (pc := 1) N d24_1 rfl ?_
  refine k_ldcD (pc := 2) N d24_2 (hw _ (List.mem_of_getElem? (i := 174) rfl)) ?_
  refine k_virtual (pc := 5) N (y := (⟨"com/example/tapflow/tapflow/VelocityTracker", "computeCurrentVelocity", "(ID)V"⟩ : MethodName)) (z := (⟨"com/example/tapflow/tapflow/VelocityTracker", "computeCurrentVelocity", "(ID)V"⟩ : MethodName)) (rest := []) [.int (1 : Int32), .double (9218868437227405312 : UInt64)] (a := vt) d24_5 (fun h N => N.exa (i := 0) rfl) (hw _ (List.mem_of_getElem? (i := 175) rfl)) (hw _ (List.mem_of_getElem? (i := 176) rfl)) (nf_self (hw _ (List.mem_of_getElem? (i := 178) rfl))) (hw _ (List.mem_of_getElem? (i := 178) rfl)) (hw _ (List.mem_of_getElem? (i := 177) rfl)) (hw _ (List.mem_of_getElem? (i := 4) rfl)) (hw _ (List.mem_of_getElem? (i := 179) rfl)) (by decide) pd__ID_V rfl (c_cv2 l Z a0 hw vt pa xv yv kpa ov lt P kxv kyv gx gy lo hi hlo hhi hne p0 ta0 xa0 ya0 kt0 kxa0 kya0 ft0 fx0 fy0 sx0 sy0 p1 ta1 xa1 ya1 kt1 kxa1 kya1 ft1 fx1 fy1 sx1 sy1 hP0 hP1 hPn x00 x01 y00 y01 x10 x11 y10 y11 ht10 ht00 htm0 hx00 hx10 hy00 hy10 b10 b20 b30 b40 ht11 ht01 htm1 hx01 hx11 hy01 hy11 b11 b21 b31 b41 rest) rfl rfl 0 rfl (by decide) (by decide) (cells' := 0) rfl (slots' := 0) rfl (by decide) (by decide) fun T vV K' N qQ => ?_
  obtain ⟨hx', hy', a1', a2', a3', a4', hd1, hd2, rfl, rfl⟩ := qQ
  exact k_return (pc := 8) N d24_8 rfl (by decide) (by decide) ⟨hx', hy', a1', a2', a3', a4', hd1, hd2, rfl, rfl⟩
set_option maxRecDepth 65536 in
theorem ef_c_cv1 (m : MethodId) (z0 : Addr) (z1 : Int32) (z2 : UInt64) : entryFrame m ([.ref z0, .int z1, .double z2] : List Value).toArray 6 = mkF m 0 #[.val (.ref z0), .val (.int z1), .val (.double z2), .second, .unset, .unset] [] := by first | (simp [entryFrame, mkF, argsToLocals, Value.category]; done) | rfl
def rm_c_cv1 : Room := { frames := 3, cells := 0, slots := 0, locals := 62 }
set_option maxRecDepth 65536 in
set_option maxHeartbeats 40000000 in
theorem c_cv1 (l : Launch) (Z : State) (a0 : Array Value) (hw : ∀ d ∈ tables_1, d.before a0 Z = true) (vt pa xv yv : Addr) (kpa : ClassId) (ov : Ovr Z kpa "com/example/tapflow/tapflow/VelocityTracker$Positions") (lt : Int64) (P : Nat → Value) (kxv kyv : ClassId) (gx gy : Nat → UInt64) (lo hi : Nat) (hlo : lo < 32) (hhi : hi < 32) (hne : hi ≠ lo) (p0 ta0 xa0 ya0 : Addr) (kt0 kxa0 kya0 : ClassId) (ft0 : Nat → Int64) (fx0 fy0 : Nat → UInt64) (sx0 sy0 : UInt64) (p1 ta1 xa1 ya1 : Addr) (kt1 kxa1 kya1 : ClassId) (ft1 : Nat → Int64) (fx1 fy1 : Nat → UInt64) (sx1 sy1 : UInt64) (hP0 : P lo = .ref p0) (hP1 : P hi = .ref p1) (hPn : ∀ j, j ≠ lo → j ≠ hi → P j = .null) (x00 y00 x10 y10 : Int) (ht20 : lt - (ft0 2) = 0) (hx00 : DInt x00 (fx0 2)) (hy00 : DInt y00 (fy0 2)) (b10 : -32768 ≤ x00 ∧ x00 ≤ 32767) (b20 : -32768 ≤ y00 ∧ y00 ≤ 32767) (ht21 : lt - (ft1 2) = 0) (hx01 : DInt x10 (fx1 2)) (hy01 : DInt y10 (fy1 2)) (b11 : -32768 ≤ x10 ∧ x10 ≤ 32767) (b21 : -32768 ≤ y10 ∧ y10 ≤ 32767) (rest : List Ent) :
    OMeets l (⟨"com/example/tapflow/tapflow/VelocityTracker", "computeCurrentVelocity", "(ID)V"⟩ : MethodName) prog_15_method_5_code 6 none rm_c_cv1 Z [.ref vt, .int (1 : Int32), .double (9218868437227405312 : UInt64)] ((oVt Z vt (.ref pa) (.ref xv) (.ref yv) (.long lt)) :: (oArr Z pa kpa (.object "com/example/tapflow/tapflow/VelocityTracker$Positions") (vA 32 P)) :: (oArr Z xv kxv .double (dA 32 gx)) :: (oArr Z yv kyv .double (dA 32 gy)) :: (oPo Z p0 (.ref ta0) (.ref xa0) (.ref ya0) (.int (1 : Int32)) (.int (3 : Int32)) (.double sx0) (.double sy0)) :: (oArr Z ta0 kt0 .long (lA 64 ft0)) :: (oArr Z xa0 kxa0 .double (dA 64 fx0)) :: (oArr Z ya0 kya0 .double (dA 64 fy0)) :: (oPo Z p1 (.ref ta1) (.ref xa1) (.ref ya1) (.int (1 : Int32)) (.int (3 : Int32)) (.double sx1) (.double sy1)) :: (oArr Z ta1 kt1 .long (lA 64 ft1)) :: (oArr Z xa1 kxa1 .double (dA 64 fx1)) :: (oArr Z ya1 kya1 .double (dA 64 fy1)) :: rest) (fun v K => ∃ (hx' hy' : Nat → UInt64) (a1' a2' a3' a4' : UInt64), DInt 0 (hx' lo) ∧ DInt 0 (hy' hi) ∧ v = none ∧ K = (oVt Z vt (.ref pa) (.ref xv) (.ref yv) (.long lt)) :: (oArr Z pa kpa (.object "com/example/tapflow/tapflow/VelocityTracker$Positions") (vA 32 P)) :: (oArr Z xv kxv .double (dA 32 hx')) :: (oArr Z yv kyv .double (dA 32 hy')) :: (oPo Z p0 (.ref ta0) (.ref xa0) (.ref ya0) (.int (1 : Int32)) (.int (3 : Int32)) (.double a1') (.double a2')) :: (oArr Z ta0 kt0 .long (lA 64 ft0)) :: (oArr Z xa0 kxa0 .double (dA 64 fx0)) :: (oArr Z ya0 kya0 .double (dA 64 fy0)) :: (oPo Z p1 (.ref ta1) (.ref xa1) (.ref ya1) (.int (1 : Int32)) (.int (3 : Int32)) (.double a3') (.double a4')) :: (oArr Z ta1 kt1 .long (lA 64 ft1)) :: (oArr Z xa1 kxa1 .double (dA 64 fx1)) :: (oArr Z ya1 kya1 .double (dA 64 fy1)) :: rest) := by
  refine OMeets.of_body (plainFor_of_name pn_com_example_tapflow_tapflow_VelocityTracker) #[.val (.ref vt), .val (.int (1 : Int32)), .val (.double (9218868437227405312 : UInt64)), .second, .unset, .unset] (fun m => ef_c_cv1 m vt (1 : Int32) (9218868437227405312 : UInt64)) fun pP eE sS mM bB hH cC T N => ?_
  refine k_iload_n (pc := 0) N d25_0 rfl ?_
  refine k_if_gt (pc := 1) N d25_1 (pc' := 18) (by decide) (fun _ => ?_) (fun qQ => absurd qQ (by decide))
  refine k_dload_n (pc := 18) N d25_18 rfl ?_
  refine k_dconst0 (pc := 19) N d25_19 (v := (0 : UInt64)) rfl ?_
  refine k_dcmp (pc := 20) N d25_20 (v := (1 : Int32)) (by decide +kernel) ?_
  refine k_if_gt (pc := 21) N d25_21 (pc' := 38) (by decide) (fun _ => ?_) (fun qQ => absurd qQ (by decide))
  refine k_iconst (pc := 38) N d25_38 (v := (0 : Int32)) (by decide) ?_
  refine k_istore (pc := 39) N d25_39 (Ls' := #[.val (.ref vt), .val (.int (1 : Int32)), .val (.double (9218868437227405312 : UInt64)), .second, .val (.int (0 : Int32)), .unset]) rfl ?_
  have J : ∀ k id : Nat, id + k = 32 → ∀ (gx gy : Nat → UInt64) (sx0 sy0 sx1 sy1 : UInt64), (lo < id → DInt 0 (gx lo)) → (hi < id → DInt 0 (gy hi)) → ∀ (s5 : Slot), (s5 = .unset ∨ s5 = .val .null ∨ ∃ a, s5 = .val (.ref a)) → ∀ T, ONow pP l eE rm_c_cv1 sS mM ([.ref vt, .int (1 : Int32), .double (9218868437227405312 : UInt64)] : List Value).toArray bB hH cC Z (⟨"com/example/tapflow/tapflow/VelocityTracker", "computeCurrentVelocity", "(ID)V"⟩ : MethodName).cls prog_15_method_5_code 6 none (⟨"com/example/tapflow/tapflow/VelocityTracker", "computeCurrentVelocity", "(ID)V"⟩ : MethodName).name T 0 0 ((oVt Z vt (.ref pa) (.ref xv) (.ref yv) (.long lt)) :: (oArr Z pa kpa (.object "com/example/tapflow/tapflow/VelocityTracker$Positions") (vA 32 P)) :: (oArr Z xv kxv .double (dA 32 gx)) :: (oArr Z yv kyv .double (dA 32 gy)) :: (oPo Z p0 (.ref ta0) (.ref xa0) (.ref ya0) (.int (1 : Int32)) (.int (3 : Int32)) (.double sx0) (.double sy0)) :: (oArr Z ta0 kt0 .long (lA 64 ft0)) :: (oArr Z xa0 kxa0 .double (dA 64 fx0)) :: (oArr Z ya0 kya0 .double (dA 64 fy0)) :: (oPo Z p1 (.ref ta1) (.ref xa1) (.ref ya1) (.int (1 : Int32)) (.int (3 : Int32)) (.double sx1) (.double sy1)) :: (oArr Z ta1 kt1 .long (lA 64 ft1)) :: (oArr Z xa1 kxa1 .double (dA 64 fx1)) :: (oArr Z ya1 kya1 .double (dA 64 fy1)) :: rest) → OGo pP eE bB (OPost Z sS (fun v K => ∃ (hx' hy' : Nat → UInt64) (a1' a2' a3' a4' : UInt64), DInt 0 (hx' lo) ∧ DInt 0 (hy' hi) ∧ v = none ∧ K = (oVt Z vt (.ref pa) (.ref xv) (.ref yv) (.long lt)) :: (oArr Z pa kpa (.object "com/example/tapflow/tapflow/VelocityTracker$Positions") (vA 32 P)) :: (oArr Z xv kxv .double (dA 32 hx')) :: (oArr Z yv kyv .double (dA 32 hy')) :: (oPo Z p0 (.ref ta0) (.ref xa0) (.ref ya0) (.int (1 : Int32)) (.int (3 : Int32)) (.double a1') (.double a2')) :: (oArr Z ta0 kt0 .long (lA 64 ft0)) :: (oArr Z xa0 kxa0 .double (dA 64 fx0)) :: (oArr Z ya0 kya0 .double (dA 64 fy0)) :: (oPo Z p1 (.ref ta1) (.ref xa1) (.ref ya1) (.int (1 : Int32)) (.int (3 : Int32)) (.double a3') (.double a4')) :: (oArr Z ta1 kt1 .long (lA 64 ft1)) :: (oArr Z xa1 kxa1 .double (dA 64 fx1)) :: (oArr Z ya1 kya1 .double (dA 64 fy1)) :: rest) rm_c_cv1) T (mkF mM 41 #[.val (.ref vt), .val (.int (1 : Int32)), .val (.double (9218868437227405312 : UInt64)), .second, .val (.int (nd id)), s5] []) := by
    intro k
    induction k with
    | zero =>
      intro id hk gx gy sx0 sy0 sx1 sy1 hI1 hI2 s5 hs5 T N
      obtain rfl : 32 = id := by omega
      refine k_iload (pc := 41) N d25_41 rfl ?_
      refine k_bipush (pc := 43) N d25_43 (v := (32 : Int32)) (by decide) ?_
      refine k_icmp_ge (pc := 45) N d25_45 (pc' := 134) (by decide) (fun _ => ?_) (fun qQ => absurd qQ (by decide))
      exact k_return (pc := 134) N d25_134 rfl (by decide) (by decide) ⟨gx, gy, sx0, sy0, sx1, sy1, hI1 hlo, hI2 hhi, rfl, rfl⟩
    | succ k ih =>
      intro id hk gx gy sx0 sy0 sx1 sy1 hI1 hI2 s5 hs5 T N
      have hid : id < 32 := by omega
      refine k_iload (pc := 41) N d25_41 rfl ?_
      refine k_bipush (pc := 43) N d25_43 (v := (32 : Int32)) (by decide) ?_
      refine k_icmp_ge (pc := 45) N d25_45 (pc' := 134) (by decide) (fun qQ => absurd qQ (fun z => z ((nd_lt32 id (by omega)).mpr hid))) (fun _ => ?_)
      refine k_aload_n (pc := 48) N d25_48 rfl rfl ?_
      refine k_get (pc := 49) (host := "") N 0 0 d25_49 (Or.inl (hw _ (List.mem_of_getElem? (i := 13) rfl))) Via.refl rfl rfl fun T N => ?_
      refine k_iload (pc := 52) N d25_52 rfl ?_
      by_cases e0 : id = lo
      · have hv : P id = .ref p0 := by rw [e0]; exact hP0
        refine k_aaload (pc := 54) N 1 id d25_54 rfl rfl (nd_nn _ (Nat.lt_of_lt_of_le hid (by decide))) (nd_nat _ (Nat.lt_of_lt_of_le hid (by decide))) (v := .ref p0) ((aF_get hid).trans (congrArg some hv)) ?_
        refine k_astore (pc := 55) N d25_55 rfl (Ls' := #[.val (.ref vt), .val (.int (1 : Int32)), .val (.double (9218868437227405312 : UInt64)), .second, .val (.int (nd id)), .val (.ref p0)]) (by rcases hs5 with rfl | rfl | ⟨a5, rfl⟩ <;> rfl) ?_
        refine k_aload (pc := 57) N d25_57 rfl rfl ?_
        refine k_ifnull_no (pc := 59) N d25_59 ?_
        refine k_aload_n (pc := 62) N d25_62 rfl rfl ?_
        refine k_aload (pc := 63) N d25_63 rfl rfl ?_
        replace N := ONow.sel (F := [oVt Z vt (.ref pa) (.ref xv) (.ref yv) (.long lt), oArr Z pa kpa (.object "com/example/tapflow/tapflow/VelocityTracker$Positions") (vA 32 P), oArr Z xv kxv .double (dA 32 gx), oArr Z yv kyv .double (dA 32 gy), oPo Z p0 (.ref ta0) (.ref xa0) (.ref ya0) (.int (1 : Int32)) (.int (3 : Int32)) (.double sx0) (.double sy0), oArr Z ta0 kt0 .long (lA 64 ft0), oArr Z xa0 kxa0 .double (dA 64 fx0), oArr Z ya0 kya0 .double (dA 64 fy0), oPo Z p1 (.ref ta1) (.ref xa1) (.ref ya1) (.int (1 : Int32)) (.int (3 : Int32)) (.double sx1) (.double sy1), oArr Z ta1 kt1 .long (lA 64 ft1), oArr Z xa1 kxa1 .double (dA 64 fx1), oArr Z ya1 kya1 .double (dA 64 fy1)]) (F' := [oVt Z vt (.ref pa) (.ref xv) (.ref yv) (.long lt), oPo Z p0 (.ref ta0) (.ref xa0) (.ref ya0) (.int (1 : Int32)) (.int (3 : Int32)) (.double sx0) (.double sy0), oArr Z ta0 kt0 .long (lA 64 ft0), oArr Z xa0 kxa0 .double (dA 64 fx0), oArr Z ya0 kya0 .double (dA 64 fy0), oArr Z pa kpa (.object "com/example/tapflow/tapflow/VelocityTracker$Positions") (vA 32 P), oArr Z xv kxv .double (dA 32 gx), oArr Z yv kyv .double (dA 32 gy), oPo Z p1 (.ref ta1) (.ref xa1) (.ref ya1) (.int (1 : Int32)) (.int (3 : Int32)) (.double sx1) (.double sy1), oArr Z ta1 kt1 .long (lA 64 ft1), oArr Z xa1 kxa1 .double (dA 64 fx1), oArr Z ya1 kya1 .double (dA 64 fy1)]) (rest := rest) N [0, 4, 5, 6, 7, 1, 2, 3, 8, 9, 10, 11] (by decide) rfl
        refine k_private (pc := 65) N (y := (⟨"com/example/tapflow/tapflow/VelocityTracker", "fit", "(Lcom/example/tapflow/tapflow/VelocityTracker$Positions;)Z"⟩ : MethodName)) (rest := []) [.ref p0] (a := vt) 0 d25_65 rfl (hw _ (List.mem_of_getElem? (i := 3) rfl)) (hw _ (List.mem_of_getElem? (i := 180) rfl)) (hw _ (List.mem_of_getElem? (i := 181) rfl)) (hw _ (List.mem_of_getElem? (i := 182) rfl)) (hw _ (List.mem_of_getElem? (i := 4) rfl)) (hw _ (List.mem_of_getElem? (i := 183) rfl)) (by decide) pd__Lcom_example_tapflow_tapflow_VelocityTracker_Positions__Z rfl (c_fit1 l Z a0 hw vt pa xv yv lt p0 ta0 xa0 ya0 kt0 kxa0 kya0 ft0 fx0 fy0 sx0 sy0 x00 y00 ht20 hx00 hy00 b10 b20 ((oArr Z pa kpa (.object "com/example/tapflow/tapflow/VelocityTracker$Positions") (vA 32 P)) :: (oArr Z xv kxv .double (dA 32 gx)) :: (oArr Z yv kyv .double (dA 32 gy)) :: (oPo Z p1 (.ref ta1) (.ref xa1) (.ref ya1) (.int (1 : Int32)) (.int (3 : Int32)) (.double sx1) (.double sy1)) :: (oArr Z ta1 kt1 .long (lA 64 ft1)) :: (oArr Z xa1 kxa1 .double (dA 64 fx1)) :: (oArr Z ya1 kya1 .double (dA 64 fy1)) :: rest)) rfl rfl 0 rfl (by decide) (by decide) (cells' := 0) rfl (slots' := 0) rfl (by decide) (by decide) fun T vV K' N qQ => ?_
        obtain ⟨rfl, rfl⟩ := qQ
        refine k_if_ne (pc := 68) N d25_68 (pc' := 90) (by decide) (fun qQ => absurd qQ (fun z => z rfl)) (fun _ => ?_)
        refine k_aload_n (pc := 71) N d25_71 rfl rfl ?_
        refine k_get (pc := 72) (host := "") N 0 1 d25_72 (Or.inl (hw _ (List.mem_of_getElem? (i := 15) rfl))) Via.refl rfl rfl fun T N => ?_
        refine k_iload (pc := 75) N d25_75 rfl ?_
        refine k_dconst0 (pc := 77) N d25_77 (v := (0 : UInt64)) rfl ?_
        refine k_dastore (pc := 78) N 6 id d25_78 rfl (nd_nn _ (Nat.lt_of_lt_of_le hid (by decide))) (nd_nat _ (Nat.lt_of_lt_of_le hid (by decide))) (by rw [dA_len]; exact hid) (v := .double (0 : UInt64)) rfl (K' := ((oVt Z vt (.ref pa) (.ref xv) (.ref yv) (.long lt)) :: (oPo Z p0 (.ref ta0) (.ref xa0) (.ref ya0) (.int (1 : Int32)) (.int (3 : Int32)) (.double sx0) (.double sy0)) :: (oArr Z ta0 kt0 .long (lA 64 ft0)) :: (oArr Z xa0 kxa0 .double (dA 64 fx0)) :: (oArr Z ya0 kya0 .double (dA 64 fy0)) :: (oArr Z pa kpa (.object "com/example/tapflow/tapflow/VelocityTracker$Positions") (vA 32 P)) :: (oArr Z xv kxv .double (dA 32 (upd gx id (0 : UInt64)))) :: (oArr Z yv kyv .double (dA 32 gy)) :: (oPo Z p1 (.ref ta1) (.ref xa1) (.ref ya1) (.int (1 : Int32)) (.int (3 : Int32)) (.double sx1) (.double sy1)) :: (oArr Z ta1 kt1 .long (lA 64 ft1)) :: (oArr Z xa1 kxa1 .double (dA 64 fx1)) :: (oArr Z ya1 kya1 .double (dA 64 fy1)) :: rest)) (by rw [set_dA]; rfl) fun T N => ?_
        refine k_aload_n (pc := 79) N d25_79 rfl rfl ?_
        refine k_get (pc := 80) (host := "") N 0 2 d25_80 (Or.inl (hw _ (List.mem_of_getElem? (i := 17) rfl))) Via.refl rfl rfl fun T N => ?_
        refine k_iload (pc := 83) N d25_83 rfl ?_
        refine k_dconst0 (pc := 85) N d25_85 (v := (0 : UInt64)) rfl ?_
        refine k_dastore (pc := 86) N 7 id d25_86 rfl (nd_nn _ (Nat.lt_of_lt_of_le hid (by decide))) (nd_nat _ (Nat.lt_of_lt_of_le hid (by decide))) (by rw [dA_len]; exact hid) (v := .double (0 : UInt64)) rfl (K' := ((oVt Z vt (.ref pa) (.ref xv) (.ref yv) (.long lt)) :: (oPo Z p0 (.ref ta0) (.ref xa0) (.ref ya0) (.int (1 : Int32)) (.int (3 : Int32)) (.double sx0) (.double sy0)) :: (oArr Z ta0 kt0 .long (lA 64 ft0)) :: (oArr Z xa0 kxa0 .double (dA 64 fx0)) :: (oArr Z ya0 kya0 .double (dA 64 fy0)) :: (oArr Z pa kpa (.object "com/example/tapflow/tapflow/VelocityTracker$Positions") (vA 32 P)) :: (oArr Z xv kxv .double (dA 32 (upd gx id (0 : UInt64)))) :: (oArr Z yv kyv .double (dA 32 (upd gy id (0 : UInt64)))) :: (oPo Z p1 (.ref ta1) (.ref xa1) (.ref ya1) (.int (1 : Int32)) (.int (3 : Int32)) (.double sx1) (.double sy1)) :: (oArr Z ta1 kt1 .long (lA 64 ft1)) :: (oArr Z xa1 kxa1 .double (dA 64 fx1)) :: (oArr Z ya1 kya1 .double (dA 64 fy1)) :: rest)) (by rw [set_dA]; rfl) fun T N => ?_
        refine k_goto (pc := 87) N d25_87 (pc' := 128) (by decide) ?_
        refine k_iinc (pc := 128) N d25_128 rfl (v := (nd (id + 1))) (nd_succ id (by omega)) (Ls' := #[.val (.ref vt), .val (.int (1 : Int32)), .val (.double (9218868437227405312 : UInt64)), .second, .val (.int (nd (id + 1))), .val (.ref p0)]) rfl ?_
        refine k_goto (pc := 131) N d25_131 (pc' := 41) (by decide) ?_
        replace N := ONow.sel (F := [oVt Z vt (.ref pa) (.ref xv) (.ref yv) (.long lt), oPo Z p0 (.ref ta0) (.ref xa0) (.ref ya0) (.int (1 : Int32)) (.int (3 : Int32)) (.double sx0) (.double sy0), oArr Z ta0 kt0 .long (lA 64 ft0), oArr Z xa0 kxa0 .double (dA 64 fx0), oArr Z ya0 kya0 .double (dA 64 fy0), oArr Z pa kpa (.object "com/example/tapflow/tapflow/VelocityTracker$Positions") (vA 32 P), oArr Z xv kxv .double (dA 32 (upd gx id (0 : UInt64))), oArr Z yv kyv .double (dA 32 (upd gy id (0 : UInt64))), oPo Z p1 (.ref ta1) (.ref xa1) (.ref ya1) (.int (1 : Int32)) (.int (3 : Int32)) (.double sx1) (.double sy1), oArr Z ta1 kt1 .long (lA 64 ft1), oArr Z xa1 kxa1 .double (dA 64 fx1), oArr Z ya1 kya1 .double (dA 64 fy1)]) (F' := [oVt Z vt (.ref pa) (.ref xv) (.ref yv) (.long lt), oArr Z pa kpa (.object "com/example/tapflow/tapflow/VelocityTracker$Positions") (vA 32 P), oArr Z xv kxv .double (dA 32 (upd gx id (0 : UInt64))), oArr Z yv kyv .double (dA 32 (upd gy id (0 : UInt64))), oPo Z p0 (.ref ta0) (.ref xa0) (.ref ya0) (.int (1 : Int32)) (.int (3 : Int32)) (.double sx0) (.double sy0), oArr Z ta0 kt0 .long (lA 64 ft0), oArr Z xa0 kxa0 .double (dA 64 fx0), oArr Z ya0 kya0 .double (dA 64 fy0), oPo Z p1 (.ref ta1) (.ref xa1) (.ref ya1) (.int (1 : Int32)) (.int (3 : Int32)) (.double sx1) (.double sy1), oArr Z ta1 kt1 .long (lA 64 ft1), oArr Z xa1 kxa1 .double (dA 64 fx1), oArr Z ya1 kya1 .double (dA 64 fy1)]) (rest := rest) N [0, 5, 6, 7, 1, 2, 3, 4, 8, 9, 10, 11] (by decide) rfl
        exact ih (id + 1) (by omega) (upd gx id (0 : UInt64)) (upd gy id (0 : UInt64)) sx0 sy0 sx1 sy1 (inv_step hI1 (fun _ => di0)) (inv_step hI2 (fun _ => di0)) _ (Or.inr (Or.inr ⟨_, rfl⟩)) _ N
      · by_cases e1 : id = hi
        · have hv : P id = .ref p1 := by rw [e1]; exact hP1
          refine k_aaload (pc := 54) N 1 id d25_54 rfl rfl (nd_nn _ (Nat.lt_of_lt_of_le hid (by decide))) (nd_nat _ (Nat.lt_of_lt_of_le hid (by decide))) (v := .ref p1) ((aF_get hid).trans (congrArg some hv)) ?_
          refine k_astore (pc := 55) N d25_55 rfl (Ls' := #[.val (.ref vt), .val (.int (1 : Int32)), .val (.double (9218868437227405312 : UInt64)), .second, .val (.int (nd id)), .val (.ref p1)]) (by rcases hs5 with rfl | rfl | ⟨a5, rfl⟩ <;> rfl) ?_
          refine k_aload (pc := 57) N d25_57 rfl rfl ?_
          refine k_ifnull_no (pc := 59) N d25_59 ?_
          refine k_aload_n (pc := 62) N d25_62 rfl rfl ?_
          refine k_aload (pc := 63) N d25_63 rfl rfl ?_
          replace N := ONow.sel (F := [oVt Z vt (.ref pa) (.ref xv) (.ref yv) (.long lt), oArr Z pa kpa (.object "com/example/tapflow/tapflow/VelocityTracker$Positions") (vA 32 P), oArr Z xv kxv .double (dA 32 gx), oArr Z yv kyv .double (dA 32 gy), oPo Z p0 (.ref ta0) (.ref xa0) (.ref ya0) (.int (1 : Int32)) (.int (3 : Int32)) (.double sx0) (.double sy0), oArr Z ta0 kt0 .long (lA 64 ft0), oArr Z xa0 kxa0 .double (dA 64 fx0), oArr Z ya0 kya0 .double (dA 64 fy0), oPo Z p1 (.ref ta1) (.ref xa1) (.ref ya1) (.int (1 : Int32)) (.int (3 : Int32)) (.double sx1) (.double sy1), oArr Z ta1 kt1 .long (lA 64 ft1), oArr Z xa1 kxa1 .double (dA 64 fx1), oArr Z ya1 kya1 .double (dA 64 fy1)]) (F' := [oVt Z vt (.ref pa) (.ref xv) (.ref yv) (.long lt), oPo Z p1 (.ref ta1) (.ref xa1) (.ref ya1) (.int (1 : Int32)) (.int (3 : Int32)) (.double sx1) (.double sy1), oArr Z ta1 kt1 .long (lA 64 ft1), oArr Z xa1 kxa1 .double (dA 64 fx1), oArr Z ya1 kya1 .double (dA 64 fy1), oArr Z pa kpa (.object "com/example/tapflow/tapflow/VelocityTracker$Positions") (vA 32 P), oArr Z xv kxv .double (dA 32 gx), oArr Z yv kyv .double (dA 32 gy), oPo Z p0 (.ref ta0) (.ref xa0) (.ref ya0) (.int (1 : Int32)) (.int (3 : Int32)) (.double sx0) (.double sy0), oArr Z ta0 kt0 .long (lA 64 ft0), oArr Z xa0 kxa0 .double (dA 64 fx0), oArr Z ya0 kya0 .double (dA 64 fy0)]) (rest := rest) N [0, 8, 9, 10, 11, 1, 2, 3, 4, 5, 6, 7] (by decide) rfl
          refine k_private (pc := 65) N (y := (⟨"com/example/tapflow/tapflow/VelocityTracker", "fit", "(Lcom/example/tapflow/tapflow/VelocityTracker$Positions;)Z"⟩ : MethodName)) (rest := []) [.ref p1] (a := vt) 0 d25_65 rfl (hw _ (List.mem_of_getElem? (i := 3) rfl)) (hw _ (List.mem_of_getElem? (i := 180) rfl)) (hw _ (List.mem_of_getElem? (i := 181) rfl)) (hw _ (List.mem_of_getElem? (i := 182) rfl)) (hw _ (List.mem_of_getElem? (i := 4) rfl)) (hw _ (List.mem_of_getElem? (i := 183) rfl)) (by decide) pd__Lcom_example_tapflow_tapflow_VelocityTracker_Positions__Z rfl (c_fit1 l Z a0 hw vt pa xv yv lt p1 ta1 xa1 ya1 kt1 kxa1 kya1 ft1 fx1 fy1 sx1 sy1 x10 y10 ht21 hx01 hy01 b11 b21 ((oArr Z pa kpa (.object "com/example/tapflow/tapflow/VelocityTracker$Positions") (vA 32 P)) :: (oArr Z xv kxv .double (dA 32 gx)) :: (oArr Z yv kyv .double (dA 32 gy)) :: (oPo Z p0 (.ref ta0) (.ref xa0) (.ref ya0) (.int (1 : Int32)) (.int (3 : Int32)) (.double sx0) (.double sy0)) :: (oArr Z ta0 kt0 .long (lA 64 ft0)) :: (oArr Z xa0 kxa0 .double (dA 64 fx0)) :: (oArr Z ya0 kya0 .double (dA 64 fy0)) :: rest)) rfl rfl 0 rfl (by decide) (by decide) (cells' := 0) rfl (slots' := 0) rfl (by decide) (by decide) fun T vV K' N qQ => ?_
          obtain ⟨rfl, rfl⟩ := qQ
          refine k_if_ne (pc := 68) N d25_68 (pc' := 90) (by decide) (fun qQ => absurd qQ (fun z => z rfl)) (fun _ => ?_)
          refine k_aload_n (pc := 71) N d25_71 rfl rfl ?_
          refine k_get (pc := 72) (host := "") N 0 1 d25_72 (Or.inl (hw _ (List.mem_of_getElem? (i := 15) rfl))) Via.refl rfl rfl fun T N => ?_
          refine k_iload (pc := 75) N d25_75 rfl ?_
          refine k_dconst0 (pc := 77) N d25_77 (v := (0 : UInt64)) rfl ?_
          refine k_dastore (pc := 78) N 6 id d25_78 rfl (nd_nn _ (Nat.lt_of_lt_of_le hid (by decide))) (nd_nat _ (Nat.lt_of_lt_of_le hid (by decide))) (by rw [dA_len]; exact hid) (v := .double (0 : UInt64)) rfl (K' := ((oVt Z vt (.ref pa) (.ref xv) (.ref yv) (.long lt)) :: (oPo Z p1 (.ref ta1) (.ref xa1) (.ref ya1) (.int (1 : Int32)) (.int (3 : Int32)) (.double sx1) (.double sy1)) :: (oArr Z ta1 kt1 .long (lA 64 ft1)) :: (oArr Z xa1 kxa1 .double (dA 64 fx1)) :: (oArr Z ya1 kya1 .double (dA 64 fy1)) :: (oArr Z pa kpa (.object "com/example/tapflow/tapflow/VelocityTracker$Positions") (vA 32 P)) :: (oArr Z xv kxv .double (dA 32 (upd gx id (0 : UInt64)))) :: (oArr Z yv kyv .double (dA 32 gy)) :: (oPo Z p0 (.ref ta0) (.ref xa0) (.ref ya0) (.int (1 : Int32)) (.int (3 : Int32)) (.double sx0) (.double sy0)) :: (oArr Z ta0 kt0 .long (lA 64 ft0)) :: (oArr Z xa0 kxa0 .double (dA 64 fx0)) :: (oArr Z ya0 kya0 .double (dA 64 fy0)) :: rest)) (by rw [set_dA]; rfl) fun T N => ?_
          refine k_aload_n (pc := 79) N d25_79 rfl rfl ?_
          refine k_get (pc := 80) (host := "") N 0 2 d25_80 (Or.inl (hw _ (List.mem_of_getElem? (i := 17) rfl))) Via.refl rfl rfl fun T N => ?_
          refine k_iload (pc := 83) N d25_83 rfl ?_
          refine k_dconst0 (pc := 85) N d25_85 (v := (0 : UInt64)) rfl ?_
          refine k_dastore (pc := 86) N 7 id d25_86 rfl (nd_nn _ (Nat.lt_of_lt_of_le hid (by decide))) (nd_nat _ (Nat.lt_of_lt_of_le hid (by decide))) (by rw [dA_len]; exact hid) (v := .double (0 : UInt64)) rfl (K' := ((oVt Z vt (.ref pa) (.ref xv) (.ref yv) (.long lt)) :: (oPo Z p1 (.ref ta1) (.ref xa1) (.ref ya1) (.int (1 : Int32)) (.int (3 : Int32)) (.double sx1) (.double sy1)) :: (oArr Z ta1 kt1 .long (lA 64 ft1)) :: (oArr Z xa1 kxa1 .double (dA 64 fx1)) :: (oArr Z ya1 kya1 .double (dA 64 fy1)) :: (oArr Z pa kpa (.object "com/example/tapflow/tapflow/VelocityTracker$Positions") (vA 32 P)) :: (oArr Z xv kxv .double (dA 32 (upd gx id (0 : UInt64)))) :: (oArr Z yv kyv .double (dA 32 (upd gy id (0 : UInt64)))) :: (oPo Z p0 (.ref ta0) (.ref xa0) (.ref ya0) (.int (1 : Int32)) (.int (3 : Int32)) (.double sx0) (.double sy0)) :: (oArr Z ta0 kt0 .long (lA 64 ft0)) :: (oArr Z xa0 kxa0 .double (dA 64 fx0)) :: (oArr Z ya0 kya0 .double (dA 64 fy0)) :: rest)) (by rw [set_dA]; rfl) fun T N => ?_
          refine k_goto (pc := 87) N d25_87 (pc' := 128) (by decide) ?_
          refine k_iinc (pc := 128) N d25_128 rfl (v := (nd (id + 1))) (nd_succ id (by omega)) (Ls' := #[.val (.ref vt), .val (.int (1 : Int32)), .val (.double (9218868437227405312 : UInt64)), .second, .val (.int (nd (id + 1))), .val (.ref p1)]) rfl ?_
          refine k_goto (pc := 131) N d25_131 (pc' := 41) (by decide) ?_
          replace N := ONow.sel (F := [oVt Z vt (.ref pa) (.ref xv) (.ref yv) (.long lt), oPo Z p1 (.ref ta1) (.ref xa1) (.ref ya1) (.int (1 : Int32)) (.int (3 : Int32)) (.double sx1) (.double sy1), oArr Z ta1 kt1 .long (lA 64 ft1), oArr Z xa1 kxa1 .double (dA 64 fx1), oArr Z ya1 kya1 .double (dA 64 fy1), oArr Z pa kpa (.object "com/example/tapflow/tapflow/VelocityTracker$Positions") (vA 32 P), oArr Z xv kxv .double (dA 32 (upd gx id (0 : UInt64))), oArr Z yv kyv .double (dA 32 (upd gy id (0 : UInt64))), oPo Z p0 (.ref ta0) (.ref xa0) (.ref ya0) (.int (1 : Int32)) (.int (3 : Int32)) (.double sx0) (.double sy0), oArr Z ta0 kt0 .long (lA 64 ft0), oArr Z xa0 kxa0 .double (dA 64 fx0), oArr Z ya0 kya0 .double (dA 64 fy0)]) (F' := [oVt Z vt (.ref pa) (.ref xv) (.ref yv) (.long lt), oArr Z pa kpa (.object "com/example/tapflow/tapflow/VelocityTracker$Positions") (vA 32 P), oArr Z xv kxv .double (dA 32 (upd gx id (0 : UInt64))), oArr Z yv kyv .double (dA 32 (upd gy id (0 : UInt64))), oPo Z p0 (.ref ta0) (.ref xa0) (.ref ya0) (.int (1 : Int32)) (.int (3 : Int32)) (.double sx0) (.double sy0), oArr Z ta0 kt0 .long (lA 64 ft0), oArr Z xa0 kxa0 .double (dA 64 fx0), oArr Z ya0 kya0 .double (dA 64 fy0), oPo Z p1 (.ref ta1) (.ref xa1) (.ref ya1) (.int (1 : Int32)) (.int (3 : Int32)) (.double sx1) (.double sy1), oArr Z ta1 kt1 .long (lA 64 ft1), oArr Z xa1 kxa1 .double (dA 64 fx1), oArr Z ya1 kya1 .double (dA 64 fy1)]) (rest := rest) N [0, 5, 6, 7, 8, 9, 10, 11, 1, 2, 3, 4] (by decide) rfl
          exact ih (id + 1) (by omega) (upd gx id (0 : UInt64)) (upd gy id (0 : UInt64)) sx0 sy0 sx1 sy1 (inv_step hI1 (fun _ => di0)) (inv_step hI2 (fun _ => di0)) _ (Or.inr (Or.inr ⟨_, rfl⟩)) _ N
        · have hv : P id = .null := hPn id e0 e1
          refine k_aaload (pc := 54) N 1 id d25_54 rfl rfl (nd_nn _ (Nat.lt_of_lt_of_le hid (by decide))) (nd_nat _ (Nat.lt_of_lt_of_le hid (by decide))) (v := .null) ((aF_get hid).trans (congrArg some hv)) ?_
          refine k_astore (pc := 55) N d25_55 rfl (Ls' := #[.val (.ref vt), .val (.int (1 : Int32)), .val (.double (9218868437227405312 : UInt64)), .second, .val (.int (nd id)), .val .null]) (by rcases hs5 with rfl | rfl | ⟨a5, rfl⟩ <;> rfl) ?_
          refine k_aload (pc := 57) N d25_57 rfl rfl ?_
          refine k_ifnull_yes (pc := 59) N d25_59 (pc' := 71) (by decide) ?_
          refine k_aload_n (pc := 71) N d25_71 rfl rfl ?_
          refine k_get (pc := 72) (host := "") N 0 1 d25_72 (Or.inl (hw _ (List.mem_of_getElem? (i := 15) rfl))) Via.refl rfl rfl fun T N => ?_
          refine k_iload (pc := 75) N d25_75 rfl ?_
          refine k_dconst0 (pc := 77) N d25_77 (v := (0 : UInt64)) rfl ?_
          refine k_dastore (pc := 78) N 2 id d25_78 rfl (nd_nn _ (Nat.lt_of_lt_of_le hid (by decide))) (nd_nat _ (Nat.lt_of_lt_of_le hid (by decide))) (by rw [dA_len]; exact hid) (v := .double (0 : UInt64)) rfl (K' := ((oVt Z vt (.ref pa) (.ref xv) (.ref yv) (.long lt)) :: (oArr Z pa kpa (.object "com/example/tapflow/tapflow/VelocityTracker$Positions") (vA 32 P)) :: (oArr Z xv kxv .double (dA 32 (upd gx id (0 : UInt64)))) :: (oArr Z yv kyv .double (dA 32 gy)) :: (oPo Z p0 (.ref ta0) (.ref xa0) (.ref ya0) (.int (1 : Int32)) (.int (3 : Int32)) (.double sx0) (.double sy0)) :: (oArr Z ta0 kt0 .long (lA 64 ft0)) :: (oArr Z xa0 kxa0 .double (dA 64 fx0)) :: (oArr Z ya0 kya0 .double (dA 64 fy0)) :: (oPo Z p1 (.ref ta1) (.ref xa1) (.ref ya1) (.int (1 : Int32)) (.int (3 : Int32)) (.double sx1) (.double sy1)) :: (oArr Z ta1 kt1 .long (lA 64 ft1)) :: (oArr Z xa1 kxa1 .double (dA 64 fx1)) :: (oArr Z ya1 kya1 .double (dA 64 fy1)) :: rest)) (by rw [set_dA]; rfl) fun T N => ?_
          refine k_aload_n (pc := 79) N d25_79 rfl rfl ?_
          refine k_get (pc := 80) (host := "") N 0 2 d25_80 (Or.inl (hw _ (List.mem_of_getElem? (i := 17) rfl))) Via.refl rfl rfl fun T N => ?_
          refine k_iload (pc := 83) N d25_83 rfl ?_
          refine k_dconst0 (pc := 85) N d25_85 (v := (0 : UInt64)) rfl ?_
          refine k_dastore (pc := 86) N 3 id d25_86 rfl (nd_nn _ (Nat.lt_of_lt_of_le hid (by decide))) (nd_nat _ (Nat.lt_of_lt_of_le hid (by decide))) (by rw [dA_len]; exact hid) (v := .double (0 : UInt64)) rfl (K' := ((oVt Z vt (.ref pa) (.ref xv) (.ref yv) (.long lt)) :: (oArr Z pa kpa (.object "com/example/tapflow/tapflow/VelocityTracker$Positions") (vA 32 P)) :: (oArr Z xv kxv .double (dA 32 (upd gx id (0 : UInt64)))) :: (oArr Z yv kyv .double (dA 32 (upd gy id (0 : UInt64)))) :: (oPo Z p0 (.ref ta0) (.ref xa0) (.ref ya0) (.int (1 : Int32)) (.int (3 : Int32)) (.double sx0) (.double sy0)) :: (oArr Z ta0 kt0 .long (lA 64 ft0)) :: (oArr Z xa0 kxa0 .double (dA 64 fx0)) :: (oArr Z ya0 kya0 .double (dA 64 fy0)) :: (oPo Z p1 (.ref ta1) (.ref xa1) (.ref ya1) (.int (1 : Int32)) (.int (3 : Int32)) (.double sx1) (.double sy1)) :: (oArr Z ta1 kt1 .long (lA 64 ft1)) :: (oArr Z xa1 kxa1 .double (dA 64 fx1)) :: (oArr Z ya1 kya1 .double (dA 64 fy1)) :: rest)) (by rw [set_dA]; rfl) fun T N => ?_
          refine k_goto (pc := 87) N d25_87 (pc' := 128) (by decide) ?_
          refine k_iinc (pc := 128) N d25_128 rfl (v := (nd (id + 1))) (nd_succ id (by omega)) (Ls' := #[.val (.ref vt), .val (.int (1 : Int32)), .val (.double (9218868437227405312 : UInt64)), .second, .val (.int (nd (id + 1))), .val .null]) rfl ?_
          refine k_goto (pc := 131) N d25_131 (pc' := 41) (by decide) ?_
          exact ih (id + 1) (by omega) (upd gx id (0 : UInt64)) (upd gy id (0 : UInt64)) sx0 sy0 sx1 sy1 (inv_step hI1 (fun _ => di0)) (inv_step hI2 (fun _ => di0)) _ (Or.inr (Or.inl rfl)) _ N
  exact J 32 0 rfl _ _ _ _ _ _ (fun q => absurd q (by omega)) (fun q => absurd q (by omega)) _ (Or.inl rfl) _ N
set_option maxRecDepth 65536 in
theorem ef_c_ci1 (m : MethodId) (z0 : Addr) (z1 : Int32) : entryFrame m ([.ref z0, .int z1] : List Value).toArray 2 = mkF m 0 #[.val (.ref z0), .val (.int z1)] [] := by first | (simp [entryFrame, mkF, argsToLocals, Value.category]; done) | rfl
def rm_c_ci1 : Room := { frames := 4, cells := 0, slots := 0, locals := 79 }
set_option maxRecDepth 65536 in
set_option maxHeartbeats 40000000 in
theorem c_ci1 (l : Launch) (Z : State) (a0 : Array Value) (hw : ∀ d ∈ tables_1, d.before a0 Z = true) (vt pa xv yv : Addr) (kpa : ClassId) (ov : Ovr Z kpa "com/example/tapflow/tapflow/VelocityTracker$Positions") (lt : Int64) (P : Nat → Value) (kxv kyv : ClassId) (gx gy : Nat → UInt64) (lo hi : Nat) (hlo : lo < 32) (hhi : hi < 32) (hne : hi ≠ lo) (p0 ta0 xa0 ya0 : Addr) (kt0 kxa0 kya0 : ClassId) (ft0 : Nat → Int64) (fx0 fy0 : Nat → UInt64) (sx0 sy0 : UInt64) (p1 ta1 xa1 ya1 : Addr) (kt1 kxa1 kya1 : ClassId) (ft1 : Nat → Int64) (fx1 fy1 : Nat → UInt64) (sx1 sy1 : UInt64) (hP0 : P lo = .ref p0) (hP1 : P hi = .ref p1) (hPn : ∀ j, j ≠ lo → j ≠ hi → P j = .null) (x00 y00 x10 y10 : Int) (ht20 : lt - (ft0 2) = 0) (hx00 : DInt x00 (fx0 2)) (hy00 : DInt y00 (fy0 2)) (b10 : -32768 ≤ x00 ∧ x00 ≤ 32767) (b20 : -32768 ≤ y00 ∧ y00 ≤ 32767) (ht21 : lt - (ft1 2) = 0) (hx01 : DInt x10 (fx1 2)) (hy01 : DInt y10 (fy1 2)) (b11 : -32768 ≤ x10 ∧ x10 ≤ 32767) (b21 : -32768 ≤ y10 ∧ y10 ≤ 32767) (rest : List Ent) :
    OMeets l (⟨"com/example/tapflow/tapflow/VelocityTracker", "computeCurrentVelocity", "(I)V"⟩ : MethodName) prog_15_method_4_code 2 none rm_c_ci1 Z [.ref vt, .int (1 : Int32)] ((oVt Z vt (.ref pa) (.ref xv) (.ref yv) (.long lt)) :: (oArr Z pa kpa (.object "com/example/tapflow/tapflow/VelocityTracker$Positions") (vA 32 P)) :: (oArr Z xv kxv .double (dA 32 gx)) :: (oArr Z yv kyv .double (dA 32 gy)) :: (oPo Z p0 (.ref ta0) (.ref xa0) (.ref ya0) (.int (1 : Int32)) (.int (3 : Int32)) (.double sx0) (.double sy0)) :: (oArr Z ta0 kt0 .long (lA 64 ft0)) :: (oArr Z xa0 kxa0 .double (dA 64 fx0)) :: (oArr Z ya0 kya0 .double (dA 64 fy0)) :: (oPo Z p1 (.ref ta1) (.ref xa1) (.ref ya1) (.int (1 : Int32)) (.int (3 : Int32)) (.double sx1) (.double sy1)) :: (oArr Z ta1 kt1 .long (lA 64 ft1)) :: (oArr Z xa1 kxa1 .double (dA 64 fx1)) :: (oArr Z ya1 kya1 .double (dA 64 fy1)) :: rest) (fun v K => ∃ (hx' hy' : Nat → UInt64) (a1' a2' a3' a4' : UInt64), DInt 0 (hx' lo) ∧ DInt 0 (hy' hi) ∧ v = none ∧ K = (oVt Z vt (.ref pa) (.ref xv) (.ref yv) (.long lt)) :: (oArr Z pa kpa (.object "com/example/tapflow/tapflow/VelocityTracker$Positions") (vA 32 P)) :: (oArr Z xv kxv .double (dA 32 hx')) :: (oArr Z yv kyv .double (dA 32 hy')) :: (oPo Z p0 (.ref ta0) (.ref xa0) (.ref ya0) (.int (1 : Int32)) (.int (3 : Int32)) (.double a1') (.double a2')) :: (oArr Z ta0 kt0 .long (lA 64 ft0)) :: (oArr Z xa0 kxa0 .double (dA 64 fx0)) :: (oArr Z ya0 kya0 .double (dA 64 fy0)) :: (oPo Z p1 (.ref ta1) (.ref xa1) (.ref ya1) (.int (1 : Int32)) (.int (3 : Int32)) (.double a3') (.double a4')) :: (oArr Z ta1 kt1 .long (lA 64 ft1)) :: (oArr Z xa1 kxa1 .double (dA 64 fx1)) :: (oArr Z ya1 kya1 .double (dA 64 fy1)) :: rest) := by
  refine OMeets.of_body (plainFor_of_name pn_com_example_tapflow_tapflow_VelocityTracker) #[.val (.ref vt), .val (.int (1 : Int32))] (fun m => ef_c_ci1 m vt (1 : Int32)) fun pP eE sS mM bB hH cC T N => ?_
  refine k_aload_n (pc := 0) N d24_0 rfl rfl ?_
  refine k_iload_n (pc := 1) N d24_1 rfl ?_
  refine k_ldcD (pc := 2) N d24_2 (hw _ (List.mem_of_getElem? (i := 174) rfl)) ?_
  refine k_virtual (pc := 5) N (y := (⟨"com/example/tapflow/tapflow/VelocityTracker", "computeCurrentVelocity", "(ID)V"⟩ : MethodName)) (z := (⟨"com/example/tapflow/tapflow/VelocityTracker", "computeCurrentVelocity", "(ID)V"⟩ : MethodName)) (rest := []) [.int (1 : Int32), .double (9218868437227405312 : UInt64)] (a := vt) d24_5 (fun h N => N.exa (i := 0) rfl) (hw _ (List.mem_of_getElem? (i := 175) rfl)) (hw _ (List.mem_of_getElem? (i := 176) rfl)) (nf_self (hw _ (List.mem_of_getElem? (i := 178) rfl))) (hw _ (List.mem_of_getElem? (i := 178) rfl)) (hw _ (List.mem_of_getElem? (i := 177) rfl)) (hw _ (List.mem_of_getElem? (i := 4) rfl)) (hw _ (List.mem_of_getElem? (i := 179) rfl)) (by decide) pd__ID_V rfl (c_cv1 l Z a0 hw vt pa xv yv kpa ov lt P kxv kyv gx gy lo hi hlo hhi hne p0 ta0 xa0 ya0 kt0 kxa0 kya0 ft0 fx0 fy0 sx0 sy0 p1 ta1 xa1 ya1 kt1 kxa1 kya1 ft1 fx1 fy1 sx1 sy1 hP0 hP1 hPn x00 y00 x10 y10 ht20 hx00 hy00 b10 b20 ht21 hx01 hy01 b11 b21 rest) rfl rfl 0 rfl (by decide) (by decide) (cells' := 0) rfl (slots' := 0) rfl (by decide) (by decide) fun T vV K' N qQ => ?_
  obtain ⟨hx', hy', a1', a2', a3', a4', hd1, hd2, rfl, rfl⟩ := qQ
  exact k_return (pc := 8) N d24_8 rfl (by decide) (by decide) ⟨hx', hy', a1', a2', a3', a4', hd1, hd2, rfl, rfl⟩
set_option maxRecDepth 65536 in
theorem ef_c_clear (m : MethodId) (z0 : Addr) : entryFrame m ([.ref z0] : List Value).toArray 5 = mkF m 0 #[.val (.ref z0), .unset, .unset, .unset, .unset] [] := by first | (simp [entryFrame, mkF, argsToLocals, Value.category]; done) | rfl
def rm_c_clear : Room := { frames := 0, cells := 0, slots := 0, locals := 0 }
set_option maxRecDepth 65536 in
set_option maxHeartbeats 40000000 in
theorem c_clear (l : Launch) (Z : State) (a0 : Array Value) (hw : ∀ d ∈ tables_1, d.before a0 Z = true) (vt pa xv yv : Addr) (kpa : ClassId) (ov : Ovr Z kpa "com/example/tapflow/tapflow/VelocityTracker$Positions") (lt : Int64) (P : Nat → Value) (lo hi : Nat) (hlo : lo < 32) (hhi : hi < 32) (hne : hi ≠ lo) (p0 ta0 xa0 ya0 p1 ta1 xa1 ya1 : Addr) (c0 c1 nx0 nx1 : Int32) (sx0 sy0 sx1 sy1 : UInt64) (hP0 : P lo = .ref p0) (hP1 : P hi = .ref p1) (hPn : ∀ j, j ≠ lo → j ≠ hi → P j = .null) (rest : List Ent) :
    OMeets l (⟨"com/example/tapflow/tapflow/VelocityTracker", "clear", "()V"⟩ : MethodName) prog_15_method_3_code 5 none rm_c_clear Z [.ref vt] ((oVt Z vt (.ref pa) (.ref xv) (.ref yv) (.long lt)) :: (oArr Z pa kpa (.object "com/example/tapflow/tapflow/VelocityTracker$Positions") (vA 32 P)) :: (oPo Z p0 (.ref ta0) (.ref xa0) (.ref ya0) (.int c0) (.int nx0) (.double sx0) (.double sy0)) :: (oPo Z p1 (.ref ta1) (.ref xa1) (.ref ya1) (.int c1) (.int nx1) (.double sx1) (.double sy1)) :: rest) (fun v K => v = none ∧ K = (oVt Z vt (.ref pa) (.ref xv) (.ref yv) (.long lt)) :: (oArr Z pa kpa (.object "com/example/tapflow/tapflow/VelocityTracker$Positions") (vA 32 P)) :: (oPo Z p0 (.ref ta0) (.ref xa0) (.ref ya0) (.int (0 : Int32)) (.int nx0) (.double sx0) (.double sy0)) :: (oPo Z p1 (.ref ta1) (.ref xa1) (.ref ya1) (.int (0 : Int32)) (.int nx1) (.double sx1) (.double sy1)) :: rest) := by
  refine OMeets.of_body (plainFor_of_name pn_com_example_tapflow_tapflow_VelocityTracker) #[.val (.ref vt), .unset, .unset, .unset, .unset] (fun m => ef_c_clear m vt) fun pP eE sS mM bB hH cC T N => ?_
  refine k_aload_n (pc := 0) N d32_0 rfl rfl ?_
  refine k_get (pc := 1) (host := "") N 0 0 d32_1 (Or.inl (hw _ (List.mem_of_getElem? (i := 13) rfl))) Via.refl rfl rfl fun T N => ?_
  refine k_astore_n (pc := 4) N d32_4 rfl (Ls' := #[.val (.ref vt), .val (.ref pa), .unset, .unset, .unset]) rfl ?_
  refine k_aload_n (pc := 5) N d32_5 rfl rfl ?_
  refine k_arraylength (pc := 6) N 1 d32_6 rfl (z := (32 : Int32)) (by rw [vA_len]; rfl) ?_
  refine k_istore_n (pc := 7) N d32_7 (Ls' := #[.val (.ref vt), .val (.ref pa), .val (.int (32 : Int32)), .unset, .unset]) rfl ?_
  refine k_iconst (pc := 8) N d32_8 (v := (0 : Int32)) (by decide) ?_
  refine k_istore_n (pc := 9) N d32_9 (Ls' := #[.val (.ref vt), .val (.ref pa), .val (.int (32 : Int32)), .val (.int (0 : Int32)), .unset]) rfl ?_
  have J : ∀ k id : Nat, id + k = 32 → ∀ (c0 c1 : Int32), (lo < id → c0 = 0) → (hi < id → c1 = 0) → ∀ (s4 : Slot), (s4 = .unset ∨ s4 = .val .null ∨ ∃ a, s4 = .val (.ref a)) → ∀ T, ONow pP l eE rm_c_clear sS mM ([.ref vt] : List Value).toArray bB hH cC Z (⟨"com/example/tapflow/tapflow/VelocityTracker", "clear", "()V"⟩ : MethodName).cls prog_15_method_3_code 5 none (⟨"com/example/tapflow/tapflow/VelocityTracker", "clear", "()V"⟩ : MethodName).name T 0 0 ((oVt Z vt (.ref pa) (.ref xv) (.ref yv) (.long lt)) :: (oArr Z pa kpa (.object "com/example/tapflow/tapflow/VelocityTracker$Positions") (vA 32 P)) :: (oPo Z p0 (.ref ta0) (.ref xa0) (.ref ya0) (.int c0) (.int nx0) (.double sx0) (.double sy0)) :: (oPo Z p1 (.ref ta1) (.ref xa1) (.ref ya1) (.int c1) (.int nx1) (.double sx1) (.double sy1)) :: rest) → OGo pP eE bB (OPost Z sS (fun v K => v = none ∧ K = (oVt Z vt (.ref pa) (.ref xv) (.ref yv) (.long lt)) :: (oArr Z pa kpa (.object "com/example/tapflow/tapflow/VelocityTracker$Positions") (vA 32 P)) :: (oPo Z p0 (.ref ta0) (.ref xa0) (.ref ya0) (.int (0 : Int32)) (.int nx0) (.double sx0) (.double sy0)) :: (oPo Z p1 (.ref ta1) (.ref xa1) (.ref ya1) (.int (0 : Int32)) (.int nx1) (.double sx1) (.double sy1)) :: rest) rm_c_clear) T (mkF mM 10 #[.val (.ref vt), .val (.ref pa), .val (.int (32 : Int32)), .val (.int (nd id)), s4] []) := by
    intro k
    induction k with
    | zero =>
      intro id hk c0 c1 hI1 hI2 s4 hs4 T N
      obtain rfl : 32 = id := by omega
      obtain rfl : 0 = c0 := (hI1 hlo).symm
      obtain rfl : 0 = c1 := (hI2 hhi).symm
      refine k_iload_n (pc := 10) N d32_10 rfl ?_
      refine k_iload_n (pc := 11) N d32_11 rfl ?_
      refine k_icmp_ge (pc := 12) N d32_12 (pc' := 37) (by decide) (fun _ => ?_) (fun qQ => absurd qQ (by decide))
      exact k_return (pc := 37) N d32_37 rfl (by decide) (by decide) ⟨rfl, rfl⟩
    | succ k ih =>
      intro id hk c0 c1 hI1 hI2 s4 hs4 T N
      have hid : id < 32 := by omega
      refine k_iload_n (pc := 10) N d32_10 rfl ?_
      refine k_iload_n (pc := 11) N d32_11 rfl ?_
      refine k_icmp_ge (pc := 12) N d32_12 (pc' := 37) (by decide) (fun qQ => absurd qQ (fun z => z ((nd_lt32 id (by omega)).mpr hid))) (fun _ => ?_)
      refine k_aload_n (pc := 15) N d32_15 rfl rfl ?_
      refine k_iload_n (pc := 16) N d32_16 rfl ?_
      by_cases e0 : id = lo
      · have hv : P id = .ref p0 := by rw [e0]; exact hP0
        refine k_aaload (pc := 17) N 1 id d32_17 rfl rfl (nd_nn _ (Nat.lt_of_lt_of_le hid (by decide))) (nd_nat _ (Nat.lt_of_lt_of_le hid (by decide))) (v := .ref p0) ((aF_get hid).trans (congrArg some hv)) ?_
        refine k_astore (pc := 18) N d32_18 rfl (Ls' := #[.val (.ref vt), .val (.ref pa), .val (.int (32 : Int32)), .val (.int (nd id)), .val (.ref p0)]) (by rcases hs4 with rfl | rfl | ⟨a5, rfl⟩ <;> rfl) ?_
        refine k_aload (pc := 20) N d32_20 rfl rfl ?_
        refine k_ifnull_no (pc := 22) N d32_22 ?_
        refine k_aload (pc := 25) N d32_25 rfl rfl ?_
        refine k_iconst (pc := 27) N d32_27 (v := (0 : Int32)) (by decide) ?_
        refine k_putR (pc := 28) N 2 3 d32_28 (hw _ (List.mem_of_getElem? (i := 192) rfl)) rfl rfl (hw _ (List.mem_of_getElem? (i := 163) rfl)) (hw _ (List.mem_of_getElem? (i := 117) rfl)) (ty := .int) (by decide) rfl rfl (K' := ((oVt Z vt (.ref pa) (.ref xv) (.ref yv) (.long lt)) :: (oArr Z pa kpa (.object "com/example/tapflow/tapflow/VelocityTracker$Positions") (vA 32 P)) :: (oPo Z p0 (.ref ta0) (.ref xa0) (.ref ya0) (.int (0 : Int32)) (.int nx0) (.double sx0) (.double sy0)) :: (oPo Z p1 (.ref ta1) (.ref xa1) (.ref ya1) (.int c1) (.int nx1) (.double sx1) (.double sy1)) :: rest)) rfl fun T N => ?_
        refine k_iinc (pc := 31) N d32_31 rfl (v := (nd (id + 1))) (nd_succ id (by omega)) (Ls' := #[.val (.ref vt), .val (.ref pa), .val (.int (32 : Int32)), .val (.int (nd (id + 1))), .val (.ref p0)]) rfl ?_
        refine k_goto (pc := 34) N d32_34 (pc' := 10) (by decide) ?_
        exact ih (id + 1) (by omega) (0 : Int32) c1 (fun _ => rfl) (z_step hI2 (fun q => absurd (q.symm.trans e0) hne)) _ (Or.inr (Or.inr ⟨_, rfl⟩)) _ N
      · by_cases e1 : id = hi
        · have hv : P id = .ref p1 := by rw [e1]; exact hP1
          refine k_aaload (pc := 17) N 1 id d32_17 rfl rfl (nd_nn _ (Nat.lt_of_lt_of_le hid (by decide))) (nd_nat _ (Nat.lt_of_lt_of_le hid (by decide))) (v := .ref p1) ((aF_get hid).trans (congrArg some hv)) ?_
          refine k_astore (pc := 18) N d32_18 rfl (Ls' := #[.val (.ref vt), .val (.ref pa), .val (.int (32 : Int32)), .val (.int (nd id)), .val (.ref p1)]) (by rcases hs4 with rfl | rfl | ⟨a5, rfl⟩ <;> rfl) ?_
          refine k_aload (pc := 20) N d32_20 rfl rfl ?_
          refine k_ifnull_no (pc := 22) N d32_22 ?_
          refine k_aload (pc := 25) N d32_25 rfl rfl ?_
          refine k_iconst (pc := 27) N d32_27 (v := (0 : Int32)) (by decide) ?_
          refine k_putR (pc := 28) N 3 3 d32_28 (hw _ (List.mem_of_getElem? (i := 192) rfl)) rfl rfl (hw _ (List.mem_of_getElem? (i := 163) rfl)) (hw _ (List.mem_of_getElem? (i := 117) rfl)) (ty := .int) (by decide) rfl rfl (K' := ((oVt Z vt (.ref pa) (.ref xv) (.ref yv) (.long lt)) :: (oArr Z pa kpa (.object "com/example/tapflow/tapflow/VelocityTracker$Positions") (vA 32 P)) :: (oPo Z p0 (.ref ta0) (.ref xa0) (.ref ya0) (.int c0) (.int nx0) (.double sx0) (.double sy0)) :: (oPo Z p1 (.ref ta1) (.ref xa1) (.ref ya1) (.int (0 : Int32)) (.int nx1) (.double sx1) (.double sy1)) :: rest)) rfl fun T N => ?_
          refine k_iinc (pc := 31) N d32_31 rfl (v := (nd (id + 1))) (nd_succ id (by omega)) (Ls' := #[.val (.ref vt), .val (.ref pa), .val (.int (32 : Int32)), .val (.int (nd (id + 1))), .val (.ref p1)]) rfl ?_
          refine k_goto (pc := 34) N d32_34 (pc' := 10) (by decide) ?_
          exact ih (id + 1) (by omega) c0 (0 : Int32) (z_step hI1 e0) (fun _ => rfl) _ (Or.inr (Or.inr ⟨_, rfl⟩)) _ N
        · have hv : P id = .null := hPn id e0 e1
          refine k_aaload (pc := 17) N 1 id d32_17 rfl rfl (nd_nn _ (Nat.lt_of_lt_of_le hid (by decide))) (nd_nat _ (Nat.lt_of_lt_of_le hid (by decide))) (v := .null) ((aF_get hid).trans (congrArg some hv)) ?_
          refine k_astore (pc := 18) N d32_18 rfl (Ls' := #[.val (.ref vt), .val (.ref pa), .val (.int (32 : Int32)), .val (.int (nd id)), .val .null]) (by rcases hs4 with rfl | rfl | ⟨a5, rfl⟩ <;> rfl) ?_
          refine k_aload (pc := 20) N d32_20 rfl rfl ?_
          refine k_ifnull_yes (pc := 22) N d32_22 (pc' := 31) (by decide) ?_
          refine k_iinc (pc := 31) N d32_31 rfl (v := (nd (id + 1))) (nd_succ id (by omega)) (Ls' := #[.val (.ref vt), .val (.ref pa), .val (.int (32 : Int32)), .val (.int (nd (id + 1))), .val .null]) rfl ?_
          refine k_goto (pc := 34) N d32_34 (pc' := 10) (by decide) ?_
          exact ih (id + 1) (by omega) c0 c1 (z_step hI1 e0) (z_step hI2 e1) _ (Or.inr (Or.inl rfl)) _ N
  exact J 32 0 rfl _ _ (fun q => absurd q (by omega)) (fun q => absurd q (by omega)) _ (Or.inl rfl) _ N
set_option maxRecDepth 65536 in
theorem ef_c_vX (m : MethodId) (z0 : Addr) (z1 : Int32) : entryFrame m ([.ref z0, .int z1] : List Value).toArray 2 = mkF m 0 #[.val (.ref z0), .val (.int z1)] [] := by first | (simp [entryFrame, mkF, argsToLocals, Value.category]; done) | rfl
def rm_c_vX : Room := { frames := 1, cells := 0, slots := 0, locals := 13 }
set_option maxRecDepth 65536 in
set_option maxHeartbeats 40000000 in
theorem c_vX (l : Launch) (Z : State) (a0 : Array Value) (hw : ∀ d ∈ tables_1, d.before a0 Z = true) (vt pa xv yv : Addr) (lt : Int64) (kxv : ClassId) (gx : Nat → UInt64) (id : Nat) (hid : id < 32) (rest : List Ent) :
    OMeets l (⟨"com/example/tapflow/tapflow/VelocityTracker", "getXVelocity", "(I)D"⟩ : MethodName) prog_15_method_6_code 2 (some .double) rm_c_vX Z [.ref vt, .int (nd id)] ((oVt Z vt (.ref pa) (.ref xv) (.ref yv) (.long lt)) :: (oArr Z xv kxv .double (dA 32 gx)) :: rest) (fun v K => v = some (.double (gx id)) ∧ K = (oVt Z vt (.ref pa) (.ref xv) (.ref yv) (.long lt)) :: (oArr Z xv kxv .double (dA 32 gx)) :: rest) := by
  refine OMeets.of_body (plainFor_of_name pn_com_example_tapflow_tapflow_VelocityTracker) #[.val (.ref vt), .val (.int (nd id))] (fun m => ef_c_vX m vt (nd id)) fun pP eE sS mM bB hH cC T N => ?_
  refine k_aload_n (pc := 0) N d33_0 rfl rfl ?_
  refine k_get (pc := 1) (host := "") N 0 1 d33_1 (Or.inl (hw _ (List.mem_of_getElem? (i := 15) rfl))) Via.refl rfl rfl fun T N => ?_
  refine k_iload_n (pc := 4) N d33_4 rfl ?_
  refine k_static (pc := 5) N (y := (⟨"com/example/tapflow/tapflow/MotionEvent", "checkPointerId", "(I)I"⟩ : MethodName)) (rest := [.ref xv]) [.int (nd id)] d33_5 (hw _ (List.mem_of_getElem? (i := 221) rfl)) (hw _ (List.mem_of_getElem? (i := 33) rfl)) (hw _ (List.mem_of_getElem? (i := 21) rfl)) (hw _ (List.mem_of_getElem? (i := 34) rfl)) (by decide) pd__I_I rfl (c_chk l Z a0 hw (nd id) (nd_nn _ (Nat.lt_of_lt_of_le hid (by decide))) (nd_31 _ hid) ((oVt Z vt (.ref pa) (.ref xv) (.ref yv) (.long lt)) :: (oArr Z xv kxv .double (dA 32 gx)) :: rest)) rfl rfl 1 rfl (by decide) (by decide) (cells' := 0) rfl (slots' := 0) rfl (by decide) (by decide) fun T vV K' N qQ => ?_
  obtain ⟨rfl, rfl⟩ := qQ
  refine k_daload (pc := 8) N 1 id d33_8 rfl (nd_nn _ (Nat.lt_of_lt_of_le hid (by decide))) (nd_nat _ (Nat.lt_of_lt_of_le hid (by decide))) (v := .double (gx id)) (aF_get hid) ?_
  exact k_dreturn (pc := 9) N d33_9 rfl (by decide) (by decide) ⟨rfl, rfl⟩
set_option maxRecDepth 65536 in
theorem ef_c_vY (m : MethodId) (z0 : Addr) (z1 : Int32) : entryFrame m ([.ref z0, .int z1] : List Value).toArray 2 = mkF m 0 #[.val (.ref z0), .val (.int z1)] [] := by first | (simp [entryFrame, mkF, argsToLocals, Value.category]; done) | rfl
def rm_c_vY : Room := { frames := 1, cells := 0, slots := 0, locals := 13 }
set_option maxRecDepth 65536 in
set_option maxHeartbeats 40000000 in
theorem c_vY (l : Launch) (Z : State) (a0 : Array Value) (hw : ∀ d ∈ tables_1, d.before a0 Z = true) (vt pa xv yv : Addr) (lt : Int64) (kyv : ClassId) (gy : Nat → UInt64) (id : Nat) (hid : id < 32) (rest : List Ent) :
    OMeets l (⟨"com/example/tapflow/tapflow/VelocityTracker", "getYVelocity", "(I)D"⟩ : MethodName) prog_15_method_7_code 2 (some .double) rm_c_vY Z [.ref vt, .int (nd id)] ((oVt Z vt (.ref pa) (.ref xv) (.ref yv) (.long lt)) :: (oArr Z yv kyv .double (dA 32 gy)) :: rest) (fun v K => v = some (.double (gy id)) ∧ K = (oVt Z vt (.ref pa) (.ref xv) (.ref yv) (.long lt)) :: (oArr Z yv kyv .double (dA 32 gy)) :: rest) := by
  refine OMeets.of_body (plainFor_of_name pn_com_example_tapflow_tapflow_VelocityTracker) #[.val (.ref vt), .val (.int (nd id))] (fun m => ef_c_vY m vt (nd id)) fun pP eE sS mM bB hH cC T N => ?_
  refine k_aload_n (pc := 0) N d34_0 rfl rfl ?_
  refine k_get (pc := 1) (host := "") N 0 2 d34_1 (Or.inl (hw _ (List.mem_of_getElem? (i := 17) rfl))) Via.refl rfl rfl fun T N => ?_
  refine k_iload_n (pc := 4) N d34_4 rfl ?_
  refine k_static (pc := 5) N (y := (⟨"com/example/tapflow/tapflow/MotionEvent", "checkPointerId", "(I)I"⟩ : MethodName)) (rest := [.ref yv]) [.int (nd id)] d34_5 (hw _ (List.mem_of_getElem? (i := 221) rfl)) (hw _ (List.mem_of_getElem? (i := 33) rfl)) (hw _ (List.mem_of_getElem? (i := 21) rfl)) (hw _ (List.mem_of_getElem? (i := 34) rfl)) (by decide) pd__I_I rfl (c_chk l Z a0 hw (nd id) (nd_nn _ (Nat.lt_of_lt_of_le hid (by decide))) (nd_31 _ hid) ((oVt Z vt (.ref pa) (.ref xv) (.ref yv) (.long lt)) :: (oArr Z yv kyv .double (dA 32 gy)) :: rest)) rfl rfl 1 rfl (by decide) (by decide) (cells' := 0) rfl (slots' := 0) rfl (by decide) (by decide) fun T vV K' N qQ => ?_
  obtain ⟨rfl, rfl⟩ := qQ
  refine k_daload (pc := 8) N 1 id d34_8 rfl (nd_nn _ (Nat.lt_of_lt_of_le hid (by decide))) (nd_nat _ (Nat.lt_of_lt_of_le hid (by decide))) (v := .double (gy id)) (aF_get hid) ?_
  exact k_dreturn (pc := 9) N d34_9 rfl (by decide) (by decide) ⟨rfl, rfl⟩
set_option maxRecDepth 65536 in
theorem ef_c_set (m : MethodId) (z0 : Addr) (z1 : Int64) : entryFrame m ([.ref z0, .long z1] : List Value).toArray 3 = mkF m 0 #[.val (.ref z0), .val (.long z1), .second] [] := by first | (simp [entryFrame, mkF, argsToLocals, Value.category]; done) | rfl
def rm_c_set : Room := { frames := 0, cells := 0, slots := 0, locals := 0 }
set_option maxRecDepth 65536 in
set_option maxHeartbeats 40000000 in
theorem c_set (l : Launch) (Z : State) (a0 : Array Value) (hw : ∀ d ∈ tables_1, d.before a0 Z = true) (ev lv nb nx ny : Addr) (t : Int64) (kb kx ky : ClassId) (lo hi : Nat) (X0 X1 Y0 Y1 : Int32) (u : Int64) (rest : List Ent) :
    OMeets l (⟨"com/example/tapflow/tapflow/MotionEvent", "setEventTimeNanos", "(J)V"⟩ : MethodName) prog_5_method_4_code 3 none rm_c_set Z [.ref ev, .long u] ((oMe Z ev (.ref lv) (.int (-1 : Int32)) (.long t) (.ref nb) (.ref nx) (.ref ny) (.int (2 : Int32)) (.double (0 : UInt64)) (.double (0 : UInt64)) (.int (0 : Int32))) :: (oArr Z nb kb .int [.int (nd lo), .int (nd hi)]) :: (oArr Z nx kx .double [.double (FP.i2d X0), .double (FP.i2d X1)]) :: (oArr Z ny ky .double [.double (FP.i2d Y0), .double (FP.i2d Y1)]) :: rest) (fun v K => v = none ∧ K = (oMe Z ev (.ref lv) (.int (-1 : Int32)) (.long u) (.ref nb) (.ref nx) (.ref ny) (.int (2 : Int32)) (.double (0 : UInt64)) (.double (0 : UInt64)) (.int (0 : Int32))) :: (oArr Z nb kb .int [.int (nd lo), .int (nd hi)]) :: (oArr Z nx kx .double [.double (FP.i2d X0), .double (FP.i2d X1)]) :: (oArr Z ny ky .double [.double (FP.i2d Y0), .double (FP.i2d Y1)]) :: rest) := by
  refine OMeets.of_body (plainFor_of_name pn_com_example_tapflow_tapflow_MotionEvent) #[.val (.ref ev), .val (.long u), .second] (fun m => ef_c_set m ev u) fun pP eE sS mM bB hH cC T N => ?_
  refine k_aload_n (pc := 0) N d35_0 rfl rfl ?_
  refine k_lload_n (pc := 1) N d35_1 rfl ?_
  refine k_put (pc := 2) (host := "") N 0 2 d35_2 (Or.inl (hw _ (List.mem_of_getElem? (i := 43) rfl))) Via.refl rfl rfl (Or.inl (hw _ (List.mem_of_getElem? (i := 44) rfl))) (hw _ (List.mem_of_getElem? (i := 20) rfl)) (ty := .long) (by decide) rfl rfl (K' := ((oMe Z ev (.ref lv) (.int (-1 : Int32)) (.long u) (.ref nb) (.ref nx) (.ref ny) (.int (2 : Int32)) (.double (0 : UInt64)) (.double (0 : UInt64)) (.int (0 : Int32))) :: (oArr Z nb kb .int [.int (nd lo), .int (nd hi)]) :: (oArr Z nx kx .double [.double (FP.i2d X0), .double (FP.i2d X1)]) :: (oArr Z ny ky .double [.double (FP.i2d Y0), .double (FP.i2d Y1)]) :: rest)) rfl fun T N => ?_
  exact k_return (pc := 5) N d35_5 rfl (by decide) (by decide) ⟨rfl, rfl⟩
theorem s16b (x : Int32) : -32768 ≤ x.toInt16.toInt32.toInt ∧ x.toInt16.toInt32.toInt ≤ 32767 := by
  have h1 := Int16.toInt_lt x.toInt16; have h2 := Int16.le_toInt x.toInt16
  rw [Int16.toInt_toInt32]; omega
theorem lo15 (x : Int32) : ∃ k, k < 16 ∧ x &&& 15 = nd k := by
  have h := msk x 15 (by decide) 15 rfl
  refine ⟨(x &&& 15).toInt.toNat, by omega, Int32.toInt_inj.mp ?_⟩
  rw [nd_int _ (by omega)]; omega
theorem hi15 (x : Int32) : ∃ k, 16 ≤ k ∧ k < 32 ∧ 16 + (x &&& 15) = nd k := by
  obtain ⟨k, h1, h2⟩ := lo15 x
  refine ⟨16 + k, by omega, by omega, ?_⟩
  rw [h2]
  exact (by decide : ∀ j : Nat, j < 16 → (16 : Int32) + nd j = nd (16 + j)) k h1
theorem nd_lt {i j : Nat} (hi : i < 65) (hj : j < 65) (h : i < j) : nd i < nd j := by rw [Int32.lt_iff_toInt_lt, nd_int _ hi, nd_int _ hj]; omega
theorem t1 (t : Int64) : t + 1000000 - t = 1000000 := by rw [Int64.add_comm, Int64.add_sub_cancel]
theorem t2 (t : Int64) : t - (t + 1000000) = -1000000 := by
  apply Int64.toBitVec_inj.mp
  simp only [Int64.toBitVec_sub, Int64.toBitVec_add]
  apply BitVec.eq_of_toNat_eq
  rw [BitVec.toNat_sub, BitVec.toNat_add]
  have := t.toBitVec.isLt
  show (2 ^ 64 - (t.toBitVec.toNat + 1000000) % 2 ^ 64 + t.toBitVec.toNat) % 2 ^ 64 = 18446744073708551616
  omega
set_option maxRecDepth 65536 in
theorem ef_c_law (m : MethodId) (z0 : Int32) (z1 : Int64) (z2 : Int32) (z3 : Int32) (z4 : Int32) (z5 : Int32) : entryFrame m ([.int z0, .long z1, .int z2, .int z3, .int z4, .int z5] : List Value).toArray maxLocals = mkF m 0 #[.val (.int z0), .val (.long z1), .second, .val (.int z2), .val (.int z3), .val (.int z4), .val (.int z5), .unset, .unset, .unset, .unset, .unset, .unset, .unset, .unset, .unset, .unset, .unset, .unset, .unset, .unset, .unset, .unset, .unset, .unset, .unset, .unset, .unset, .unset, .unset, .unset, .unset, .unset, .unset, .unset] [] := by first | (simp [entryFrame, mkF, argsToLocals, Value.category, maxLocals]; done) | rfl
set_option maxRecDepth 65536 in
set_option maxHeartbeats 40000000 in
theorem c_law (l : Launch) (Z : State) (a0 : Array Value) (hw : ∀ d ∈ tables_1, d.before a0 Z = true) (q0 : Int32) (t : Int64) (q2 q3 q4 q5 : Int32) (an sn : Addr) (ac : Cell) (SA : Sta Z Z.heap "com/example/tapflow/tapflow/MotionEvent" "ACTION_NAMES" "[Ljava/lang/String;" (.ref an)) (AA : Arr Z Z.heap an ac (.object "java/lang/String")) (A7 : ac.slots.size = 7) (AE : ac.slots[2]? = some (.ref sn)) (lv : Addr) (SL : Sta Z Z.heap "com/example/tapflow/tapflow/MotionEvent" "NO_LEVELS" "[D" (.ref lv)) :
    OMeets l x code maxLocals ret room_1 Z [.int q0, .long t, .int q2, .int q3, .int q4, .int q5] [] (fun v K => v = some (.int 1)) := by
  refine OMeets.of_body (plainFor_of_name pn_com_example_tapflow_tapflow_VelocityTrackerClearPinLaw) #[.val (.int q0), .val (.long t), .second, .val (.int q2), .val (.int q3), .val (.int q4), .val (.int q5), .unset, .unset, .unset, .unset, .unset, .unset, .unset, .unset, .unset, .unset, .unset, .unset, .unset, .unset, .unset, .unset, .unset, .unset, .unset, .unset, .unset, .unset, .unset, .unset, .unset, .unset, .unset, .unset] (fun m => ef_c_law m q0 t q2 q3 q4 q5) fun pP eE sS mM bB hH cC T N => ?_
  refine k_iload_n (pc := 0) N at_0 rfl ?_
  refine k_bipush (pc := 1) N at_1 (v := (15 : Int32)) (by decide) ?_
  refine k_iand (pc := 3) N at_3 ?_
  obtain ⟨lo, hlo16, elo⟩ := lo15 q0
  have hlo : lo < 32 := by omega
  rw [elo]
  refine k_istore (pc := 4) N at_4 (Ls' := #[.val (.int q0), .val (.long t), .second, .val (.int q2), .val (.int q3), .val (.int q4), .val (.int q5), .val (.int (nd lo)), .unset, .unset, .unset, .unset, .unset, .unset, .unset, .unset, .unset, .unset, .unset, .unset, .unset, .unset, .unset, .unset, .unset, .unset, .unset, .unset, .unset, .unset, .unset, .unset, .unset, .unset, .unset]) rfl ?_
  refine k_bipush (pc := 6) N at_6 (v := (16 : Int32)) (by decide) ?_
  refine k_iload_n (pc := 8) N at_8 rfl ?_
  refine k_iconst (pc := 9) N at_9 (v := (4 : Int32)) (by decide) ?_
  refine k_iushr (pc := 10) N at_10 ?_
  refine k_bipush (pc := 11) N at_11 (v := (15 : Int32)) (by decide) ?_
  refine k_iand (pc := 13) N at_13 ?_
  refine k_iadd (pc := 14) N at_14 ?_
  obtain ⟨hi, hhi16, hhi, ehi⟩ := hi15 (XT.ushr q0 (4 : Int32))
  have hne : hi ≠ lo := by omega
  rw [ehi]
  refine k_istore (pc := 15) N at_15 (Ls' := #[.val (.int q0), .val (.long t), .second, .val (.int q2), .val (.int q3), .val (.int q4), .val (.int q5), .val (.int (nd lo)), .val (.int (nd hi)), .unset, .unset, .unset, .unset, .unset, .unset, .unset, .unset, .unset, .unset, .unset, .unset, .unset, .unset, .unset, .unset, .unset, .unset, .unset, .unset, .unset, .unset, .unset, .unset, .unset, .unset]) rfl ?_
  refine k_iconst (pc := 17) N at_17 (v := (2 : Int32)) (by decide) ?_
  refine k_newarrayC (pc := 18) N 2 at_18 (ty := .int) rfl (ad := "[I") rfl (hw _ (List.mem_of_getElem? (i := 0) rfl)) (by decide) (by decide) (by decide) (vs := [.int (0 : Int32), .int (0 : Int32)]) rfl (by decide) (by decide) fun T ids idsk hk_ids N => ?_
  refine k_dup (pc := 20) N at_20 rfl ?_
  refine k_iconst (pc := 21) N at_21 (v := (0 : Int32)) (by decide) ?_
  refine k_iload (pc := 22) N at_22 rfl ?_
  refine k_iastore (pc := 24) N 0 0 at_24 rfl (by decide) (by decide) (Nat.le_of_ble_eq_true rfl) (v := .int (nd lo)) rfl (K' := [oArr Z ids idsk .int [.int (nd lo), .int (0 : Int32)]]) rfl fun T N => ?_
  refine k_dup (pc := 25) N at_25 rfl ?_
  refine k_iconst (pc := 26) N at_26 (v := (1 : Int32)) (by decide) ?_
  refine k_iload (pc := 27) N at_27 rfl ?_
  refine k_iastore (pc := 29) N 0 1 at_29 rfl (by decide) (by decide) (Nat.le_of_ble_eq_true rfl) (v := .int (nd hi)) rfl (K' := [oArr Z ids idsk .int [.int (nd lo), .int (nd hi)]]) rfl fun T N => ?_
  refine k_astore (pc := 30) N at_30 rfl (Ls' := #[.val (.int q0), .val (.long t), .second, .val (.int q2), .val (.int q3), .val (.int q4), .val (.int q5), .val (.int (nd lo)), .val (.int (nd hi)), .val (.ref ids), .unset, .unset, .unset, .unset, .unset, .unset, .unset, .unset, .unset, .unset, .unset, .unset, .unset, .unset, .unset, .unset, .unset, .unset, .unset, .unset, .unset, .unset, .unset, .unset, .unset]) rfl ?_
  refine k_iload_n (pc := 32) N at_32 rfl ?_
  refine k_i2s (pc := 33) N at_33 ?_
  have b_mxa0 := s16b q2
  generalize q2.toInt16.toInt32 = mxa0 at b_mxa0 ⊢
  refine k_i2d (pc := 34) N at_34 ?_
  refine k_dstore (pc := 35) N at_35 (Ls' := #[.val (.int q0), .val (.long t), .second, .val (.int q2), .val (.int q3), .val (.int q4), .val (.int q5), .val (.int (nd lo)), .val (.int (nd hi)), .val (.ref ids), .val (.double (FP.i2d mxa0)), .second, .unset, .unset, .unset, .unset, .unset, .unset, .unset, .unset, .unset, .unset, .unset, .unset, .unset, .unset, .unset, .unset, .unset, .unset, .unset, .unset, .unset, .unset, .unset]) rfl ?_
  refine k_iload_n (pc := 37) N at_37 rfl ?_
  refine k_bipush (pc := 38) N at_38 (v := (16 : Int32)) (by decide) ?_
  refine k_ishr (pc := 40) N at_40 ?_
  refine k_i2s (pc := 41) N at_41 ?_
  have b_mxa1 := s16b (q2 >>> ((16 : Int32) &&& 31))
  generalize (q2 >>> ((16 : Int32) &&& 31)).toInt16.toInt32 = mxa1 at b_mxa1 ⊢
  refine k_i2d (pc := 42) N at_42 ?_
  refine k_dstore (pc := 43) N at_43 (Ls' := #[.val (.int q0), .val (.long t), .second, .val (.int q2), .val (.int q3), .val (.int q4), .val (.int q5), .val (.int (nd lo)), .val (.int (nd hi)), .val (.ref ids), .val (.double (FP.i2d mxa0)), .second, .val (.double (FP.i2d mxa1)), .second, .unset, .unset, .unset, .unset, .unset, .unset, .unset, .unset, .unset, .unset, .unset, .unset, .unset, .unset, .unset, .unset, .unset, .unset, .unset, .unset, .unset]) rfl ?_
  refine k_iload (pc := 45) N at_45 rfl ?_
  refine k_i2s (pc := 47) N at_47 ?_
  have b_mxb0 := s16b q3
  generalize q3.toInt16.toInt32 = mxb0 at b_mxb0 ⊢
  refine k_i2d (pc := 48) N at_48 ?_
  refine k_dstore (pc := 49) N at_49 (Ls' := #[.val (.int q0), .val (.long t), .second, .val (.int q2), .val (.int q3), .val (.int q4), .val (.int q5), .val (.int (nd lo)), .val (.int (nd hi)), .val (.ref ids), .val (.double (FP.i2d mxa0)), .second, .val (.double (FP.i2d mxa1)), .second, .val (.double (FP.i2d mxb0)), .second, .unset, .unset, .unset, .unset, .unset, .unset, .unset, .unset, .unset, .unset, .unset, .unset, .unset, .unset, .unset, .unset, .unset, .unset, .unset]) rfl ?_
  refine k_iload (pc := 51) N at_51 rfl ?_
  refine k_bipush (pc := 53) N at_53 (v := (16 : Int32)) (by decide) ?_
  refine k_ishr (pc := 55) N at_55 ?_
  refine k_i2s (pc := 56) N at_56 ?_
  have b_mxb1 := s16b (q3 >>> ((16 : Int32) &&& 31))
  generalize (q3 >>> ((16 : Int32) &&& 31)).toInt16.toInt32 = mxb1 at b_mxb1 ⊢
  refine k_i2d (pc := 57) N at_57 ?_
  refine k_dstore (pc := 58) N at_58 (Ls' := #[.val (.int q0), .val (.long t), .second, .val (.int q2), .val (.int q3), .val (.int q4), .val (.int q5), .val (.int (nd lo)), .val (.int (nd hi)), .val (.ref ids), .val (.double (FP.i2d mxa0)), .second, .val (.double (FP.i2d mxa1)), .second, .val (.double (FP.i2d mxb0)), .second, .val (.double (FP.i2d mxb1)), .second, .unset, .unset, .unset, .unset, .unset, .unset, .unset, .unset, .unset, .unset, .unset, .unset, .unset, .unset, .unset, .unset, .unset]) rfl ?_
  refine k_iload (pc := 60) N at_60 rfl ?_
  refine k_i2s (pc := 62) N at_62 ?_
  have b_mya0 := s16b q4
  generalize q4.toInt16.toInt32 = mya0 at b_mya0 ⊢
  refine k_i2d (pc := 63) N at_63 ?_
  refine k_dstore (pc := 64) N at_64 (Ls' := #[.val (.int q0), .val (.long t), .second, .val (.int q2), .val (.int q3), .val (.int q4), .val (.int q5), .val (.int (nd lo)), .val (.int (nd hi)), .val (.ref ids), .val (.double (FP.i2d mxa0)), .second, .val (.double (FP.i2d mxa1)), .second, .val (.double (FP.i2d mxb0)), .second, .val (.double (FP.i2d mxb1)), .second, .val (.double (FP.i2d mya0)), .second, .unset, .unset, .unset, .unset, .unset, .unset, .unset, .unset, .unset, .unset, .unset, .unset, .unset, .unset, .unset]) rfl ?_
  refine k_iload (pc := 66) N at_66 rfl ?_
  refine k_bipush (pc := 68) N at_68 (v := (16 : Int32)) (by decide) ?_
  refine k_ishr (pc := 70) N at_70 ?_
  refine k_i2s (pc := 71) N at_71 ?_
  have b_mya1 := s16b (q4 >>> ((16 : Int32) &&& 31))
  generalize (q4 >>> ((16 : Int32) &&& 31)).toInt16.toInt32 = mya1 at b_mya1 ⊢
  refine k_i2d (pc := 72) N at_72 ?_
  refine k_dstore (pc := 73) N at_73 (Ls' := #[.val (.int q0), .val (.long t), .second, .val (.int q2), .val (.int q3), .val (.int q4), .val (.int q5), .val (.int (nd lo)), .val (.int (nd hi)), .val (.ref ids), .val (.double (FP.i2d mxa0)), .second, .val (.double (FP.i2d mxa1)), .second, .val (.double (FP.i2d mxb0)), .second, .val (.double (FP.i2d mxb1)), .second, .val (.double (FP.i2d mya0)), .second, .val (.double (FP.i2d mya1)), .second, .unset, .unset, .unset, .unset, .unset, .unset, .unset, .unset, .unset, .unset, .unset, .unset, .unset]) rfl ?_
  refine k_iload (pc := 75) N at_75 rfl ?_
  refine k_i2s (pc := 77) N at_77 ?_
  have b_myb0 := s16b q5
  generalize q5.toInt16.toInt32 = myb0 at b_myb0 ⊢
  refine k_i2d (pc := 78) N at_78 ?_
  refine k_dstore (pc := 79) N at_79 (Ls' := #[.val (.int q0), .val (.long t), .second, .val (.int q2), .val (.int q3), .val (.int q4), .val (.int q5), .val (.int (nd lo)), .val (.int (nd hi)), .val (.ref ids), .val (.double (FP.i2d mxa0)), .second, .val (.double (FP.i2d mxa1)), .second, .val (.double (FP.i2d mxb0)), .second, .val (.double (FP.i2d mxb1)), .second, .val (.double (FP.i2d mya0)), .second, .val (.double (FP.i2d mya1)), .second, .val (.double (FP.i2d myb0)), .second, .unset, .unset, .unset, .unset, .unset, .unset, .unset, .unset, .unset, .unset, .unset]) rfl ?_
  refine k_iload (pc := 81) N at_81 rfl ?_
  refine k_bipush (pc := 83) N at_83 (v := (16 : Int32)) (by decide) ?_
  refine k_ishr (pc := 85) N at_85 ?_
  refine k_i2s (pc := 86) N at_86 ?_
  have b_myb1 := s16b (q5 >>> ((16 : Int32) &&& 31))
  generalize (q5 >>> ((16 : Int32) &&& 31)).toInt16.toInt32 = myb1 at b_myb1 ⊢
  refine k_i2d (pc := 87) N at_87 ?_
  refine k_dstore (pc := 88) N at_88 (Ls' := #[.val (.int q0), .val (.long t), .second, .val (.int q2), .val (.int q3), .val (.int q4), .val (.int q5), .val (.int (nd lo)), .val (.int (nd hi)), .val (.ref ids), .val (.double (FP.i2d mxa0)), .second, .val (.double (FP.i2d mxa1)), .second, .val (.double (FP.i2d mxb0)), .second, .val (.double (FP.i2d mxb1)), .second, .val (.double (FP.i2d mya0)), .second, .val (.double (FP.i2d mya1)), .second, .val (.double (FP.i2d myb0)), .second, .val (.double (FP.i2d myb1)), .second, .unset, .unset, .unset, .unset, .unset, .unset, .unset, .unset, .unset]) rfl ?_
  refine k_iconst (pc := 90) N at_90 (v := (2 : Int32)) (by decide) ?_
  refine k_newarrayC (pc := 91) N 2 at_91 (ty := .double) rfl (ad := "[D") rfl (hw _ (List.mem_of_getElem? (i := 1) rfl)) (by decide) (by decide) (by decide) (vs := [.double (0 : UInt64), .double (0 : UInt64)]) rfl (by decide) (by decide) fun T x0s x0sk hk_x0s N => ?_
  refine k_dup (pc := 93) N at_93 rfl ?_
  refine k_iconst (pc := 94) N at_94 (v := (0 : Int32)) (by decide) ?_
  refine k_dload (pc := 95) N at_95 rfl ?_
  refine k_dastore (pc := 97) N 0 0 at_97 rfl (by decide) (by decide) (Nat.le_of_ble_eq_true rfl) (v := .double (FP.i2d mxa0)) rfl (K' := [oArr Z x0s x0sk .double [.double (FP.i2d mxa0), .double (0 : UInt64)], oArr Z ids idsk .int [.int (nd lo), .int (nd hi)]]) rfl fun T N => ?_
  refine k_dup (pc := 98) N at_98 rfl ?_
  refine k_iconst (pc := 99) N at_99 (v := (1 : Int32)) (by decide) ?_
  refine k_dload (pc := 100) N at_100 rfl ?_
  refine k_dastore (pc := 102) N 0 1 at_102 rfl (by decide) (by decide) (Nat.le_of_ble_eq_true rfl) (v := .double (FP.i2d mxb0)) rfl (K' := [oArr Z x0s x0sk .double [.double (FP.i2d mxa0), .double (FP.i2d mxb0)], oArr Z ids idsk .int [.int (nd lo), .int (nd hi)]]) rfl fun T N => ?_
  refine k_astore (pc := 103) N at_103 rfl (Ls' := #[.val (.int q0), .val (.long t), .second, .val (.int q2), .val (.int q3), .val (.int q4), .val (.int q5), .val (.int (nd lo)), .val (.int (nd hi)), .val (.ref ids), .val (.double (FP.i2d mxa0)), .second, .val (.double (FP.i2d mxa1)), .second, .val (.double (FP.i2d mxb0)), .second, .val (.double (FP.i2d mxb1)), .second, .val (.double (FP.i2d mya0)), .second, .val (.double (FP.i2d mya1)), .second, .val (.double (FP.i2d myb0)), .second, .val (.double (FP.i2d myb1)), .second, .val (.ref x0s), .unset, .unset, .unset, .unset, .unset, .unset, .unset, .unset]) rfl ?_
  refine k_iconst (pc := 105) N at_105 (v := (2 : Int32)) (by decide) ?_
  refine k_newarrayC (pc := 106) N 2 at_106 (ty := .double) rfl (ad := "[D") rfl (hw _ (List.mem_of_getElem? (i := 1) rfl)) (by decide) (by decide) (by decide) (vs := [.double (0 : UInt64), .double (0 : UInt64)]) rfl (by decide) (by decide) fun T y0s y0sk hk_y0s N => ?_
  refine k_dup (pc := 108) N at_108 rfl ?_
  refine k_iconst (pc := 109) N at_109 (v := (0 : Int32)) (by decide) ?_
  refine k_dload (pc := 110) N at_110 rfl ?_
  refine k_dastore (pc := 112) N 0 0 at_112 rfl (by decide) (by decide) (Nat.le_of_ble_eq_true rfl) (v := .double (FP.i2d mya0)) rfl (K' := [oArr Z y0s y0sk .double [.double (FP.i2d mya0), .double (0 : UInt64)], oArr Z x0s x0sk .double [.double (FP.i2d mxa0), .double (FP.i2d mxb0)], oArr Z ids idsk .int [.int (nd lo), .int (nd hi)]]) rfl fun T N => ?_
  refine k_dup (pc := 113) N at_113 rfl ?_
  refine k_iconst (pc := 114) N at_114 (v := (1 : Int32)) (by decide) ?_
  refine k_dload (pc := 115) N at_115 rfl ?_
  refine k_dastore (pc := 117) N 0 1 at_117 rfl (by decide) (by decide) (Nat.le_of_ble_eq_true rfl) (v := .double (FP.i2d myb0)) rfl (K' := [oArr Z y0s y0sk .double [.double (FP.i2d mya0), .double (FP.i2d myb0)], oArr Z x0s x0sk .double [.double (FP.i2d mxa0), .double (FP.i2d mxb0)], oArr Z ids idsk .int [.int (nd lo), .int (nd hi)]]) rfl fun T N => ?_
  refine k_astore (pc := 118) N at_118 rfl (Ls' := #[.val (.int q0), .val (.long t), .second, .val (.int q2), .val (.int q3), .val (.int q4), .val (.int q5), .val (.int (nd lo)), .val (.int (nd hi)), .val (.ref ids), .val (.double (FP.i2d mxa0)), .second, .val (.double (FP.i2d mxa1)), .second, .val (.double (FP.i2d mxb0)), .second, .val (.double (FP.i2d mxb1)), .second, .val (.double (FP.i2d mya0)), .second, .val (.double (FP.i2d mya1)), .second, .val (.double (FP.i2d myb0)), .second, .val (.double (FP.i2d myb1)), .second, .val (.ref x0s), .val (.ref y0s), .unset, .unset, .unset, .unset, .unset, .unset, .unset]) rfl ?_
  refine k_iconst (pc := 120) N at_120 (v := (2 : Int32)) (by decide) ?_
  refine k_newarrayC (pc := 121) N 2 at_121 (ty := .double) rfl (ad := "[D") rfl (hw _ (List.mem_of_getElem? (i := 1) rfl)) (by decide) (by decide) (by decide) (vs := [.double (0 : UInt64), .double (0 : UInt64)]) rfl (by decide) (by decide) fun T x1s x1sk hk_x1s N => ?_
  refine k_dup (pc := 123) N at_123 rfl ?_
  refine k_iconst (pc := 124) N at_124 (v := (0 : Int32)) (by decide) ?_
  refine k_dload (pc := 125) N at_125 rfl ?_
  refine k_dastore (pc := 127) N 0 0 at_127 rfl (by decide) (by decide) (Nat.le_of_ble_eq_true rfl) (v := .double (FP.i2d mxa1)) rfl (K' := [oArr Z x1s x1sk .double [.double (FP.i2d mxa1), .double (0 : UInt64)], oArr Z y0s y0sk .double [.double (FP.i2d mya0), .double (FP.i2d myb0)], oArr Z x0s x0sk .double [.double (FP.i2d mxa0), .double (FP.i2d mxb0)], oArr Z ids idsk .int [.int (nd lo), .int (nd hi)]]) rfl fun T N => ?_
  refine k_dup (pc := 128) N at_128 rfl ?_
  refine k_iconst (pc := 129) N at_129 (v := (1 : Int32)) (by decide) ?_
  refine k_dload (pc := 130) N at_130 rfl ?_
  refine k_dastore (pc := 132) N 0 1 at_132 rfl (by decide) (by decide) (Nat.le_of_ble_eq_true rfl) (v := .double (FP.i2d mxb1)) rfl (K' := [oArr Z x1s x1sk .double [.double (FP.i2d mxa1), .double (FP.i2d mxb1)], oArr Z y0s y0sk .double [.double (FP.i2d mya0), .double (FP.i2d myb0)], oArr Z x0s x0sk .double [.double (FP.i2d mxa0), .double (FP.i2d mxb0)], oArr Z ids idsk .int [.int (nd lo), .int (nd hi)]]) rfl fun T N => ?_
  refine k_astore (pc := 133) N at_133 rfl (Ls' := #[.val (.int q0), .val (.long t), .second, .val (.int q2), .val (.int q3), .val (.int q4), .val (.int q5), .val (.int (nd lo)), .val (.int (nd hi)), .val (.ref ids), .val (.double (FP.i2d mxa0)), .second, .val (.double (FP.i2d mxa1)), .second, .val (.double (FP.i2d mxb0)), .second, .val (.double (FP.i2d mxb1)), .second, .val (.double (FP.i2d mya0)), .second, .val (.double (FP.i2d mya1)), .second, .val (.double (FP.i2d myb0)), .second, .val (.double (FP.i2d myb1)), .second, .val (.ref x0s), .val (.ref y0s), .val (.ref x1s), .unset, .unset, .unset, .unset, .unset, .unset]) rfl ?_
  refine k_iconst (pc := 135) N at_135 (v := (2 : Int32)) (by decide) ?_
  refine k_newarrayC (pc := 136) N 2 at_136 (ty := .double) rfl (ad := "[D") rfl (hw _ (List.mem_of_getElem? (i := 1) rfl)) (by decide) (by decide) (by decide) (vs := [.double (0 : UInt64), .double (0 : UInt64)]) rfl (by decide) (by decide) fun T y1s y1sk hk_y1s N => ?_
  refine k_dup (pc := 138) N at_138 rfl ?_
  refine k_iconst (pc := 139) N at_139 (v := (0 : Int32)) (by decide) ?_
  refine k_dload (pc := 140) N at_140 rfl ?_
  refine k_dastore (pc := 142) N 0 0 at_142 rfl (by decide) (by decide) (Nat.le_of_ble_eq_true rfl) (v := .double (FP.i2d mya1)) rfl (K' := [oArr Z y1s y1sk .double [.double (FP.i2d mya1), .double (0 : UInt64)], oArr Z x1s x1sk .double [.double (FP.i2d mxa1), .double (FP.i2d mxb1)], oArr Z y0s y0sk .double [.double (FP.i2d mya0), .double (FP.i2d myb0)], oArr Z x0s x0sk .double [.double (FP.i2d mxa0), .double (FP.i2d mxb0)], oArr Z ids idsk .int [.int (nd lo), .int (nd hi)]]) rfl fun T N => ?_
  refine k_dup (pc := 143) N at_143 rfl ?_
  refine k_iconst (pc := 144) N at_144 (v := (1 : Int32)) (by decide) ?_
  refine k_dload (pc := 145) N at_145 rfl ?_
  refine k_dastore (pc := 147) N 0 1 at_147 rfl (by decide) (by decide) (Nat.le_of_ble_eq_true rfl) (v := .double (FP.i2d myb1)) rfl (K' := [oArr Z y1s y1sk .double [.double (FP.i2d mya1), .double (FP.i2d myb1)], oArr Z x1s x1sk .double [.double (FP.i2d mxa1), .double (FP.i2d mxb1)], oArr Z y0s y0sk .double [.double (FP.i2d mya0), .double (FP.i2d myb0)], oArr Z x0s x0sk .double [.double (FP.i2d mxa0), .double (FP.i2d mxb0)], oArr Z ids idsk .int [.int (nd lo), .int (nd hi)]]) rfl fun T N => ?_
  refine k_astore (pc := 148) N at_148 rfl (Ls' := #[.val (.int q0), .val (.long t), .second, .val (.int q2), .val (.int q3), .val (.int q4), .val (.int q5), .val (.int (nd lo)), .val (.int (nd hi)), .val (.ref ids), .val (.double (FP.i2d mxa0)), .second, .val (.double (FP.i2d mxa1)), .second, .val (.double (FP.i2d mxb0)), .second, .val (.double (FP.i2d mxb1)), .second, .val (.double (FP.i2d mya0)), .second, .val (.double (FP.i2d mya1)), .second, .val (.double (FP.i2d myb0)), .second, .val (.double (FP.i2d myb1)), .second, .val (.ref x0s), .val (.ref y0s), .val (.ref x1s), .val (.ref y1s), .unset, .unset, .unset, .unset, .unset]) rfl ?_
  refine k_new (pc := 150) N at_150 (hw _ (List.mem_of_getElem? (i := 2) rfl)) (hw _ (List.mem_of_getElem? (i := 3) rfl)) (hw _ (List.mem_of_getElem? (i := 4) rfl)) (fs := [("com/example/tapflow/tapflow/VelocityTracker", "positions", "[Lcom/example/tapflow/tapflow/VelocityTracker$Positions;", .null), ("com/example/tapflow/tapflow/VelocityTracker", "xVelocities", "[D", .null), ("com/example/tapflow/tapflow/VelocityTracker", "yVelocities", "[D", .null), ("com/example/tapflow/tapflow/VelocityTracker", "latestNanos", "J", .long (0 : Int64))]) ⟨⟨Or.inr (hw _ (List.mem_of_getElem? (i := 14) rfl)), (.array (.object "com/example/tapflow/tapflow/VelocityTracker$Positions")), by decide, rfl⟩, ⟨Or.inr (hw _ (List.mem_of_getElem? (i := 16) rfl)), (.array .double), by decide, rfl⟩, ⟨Or.inr (hw _ (List.mem_of_getElem? (i := 18) rfl)), (.array .double), by decide, rfl⟩, ⟨Or.inl (hw _ (List.mem_of_getElem? (i := 168) rfl)), .long, by decide, rfl⟩, trivial⟩ (by decide) (by decide) (by decide) fun T vt N => ?_
  refine k_dup (pc := 153) N at_153 rfl ?_
  refine k_special (pc := 154) N (y := (⟨"com/example/tapflow/tapflow/VelocityTracker", "<init>", "()V"⟩ : MethodName)) (rest := [.ref vt]) [] (a := vt) at_154 rfl (hw _ (List.mem_of_getElem? (i := 5) rfl)) (hw _ (List.mem_of_getElem? (i := 6) rfl)) (hw _ (List.mem_of_getElem? (i := 4) rfl)) (hw _ (List.mem_of_getElem? (i := 7) rfl)) (by decide) pd___V rfl (c_vinit l Z a0 hw vt [oArr Z y1s y1sk .double [.double (FP.i2d mya1), .double (FP.i2d myb1)], oArr Z x1s x1sk .double [.double (FP.i2d mxa1), .double (FP.i2d mxb1)], oArr Z y0s y0sk .double [.double (FP.i2d mya0), .double (FP.i2d myb0)], oArr Z x0s x0sk .double [.double (FP.i2d mxa0), .double (FP.i2d mxb0)], oArr Z ids idsk .int [.int (nd lo), .int (nd hi)]]) rfl rfl 1 rfl (by decide) (by decide) (cells' := 9) rfl (slots' := 110) rfl (by decide) (by decide) fun T vV K' N qQ => ?_
  obtain ⟨pa, xv, yv, kpa, kxv, kyv, ov, rfl, rfl⟩ := qQ
  refine k_astore (pc := 157) N at_157 rfl (Ls' := #[.val (.int q0), .val (.long t), .second, .val (.int q2), .val (.int q3), .val (.int q4), .val (.int q5), .val (.int (nd lo)), .val (.int (nd hi)), .val (.ref ids), .val (.double (FP.i2d mxa0)), .second, .val (.double (FP.i2d mxa1)), .second, .val (.double (FP.i2d mxb0)), .second, .val (.double (FP.i2d mxb1)), .second, .val (.double (FP.i2d mya0)), .second, .val (.double (FP.i2d mya1)), .second, .val (.double (FP.i2d myb0)), .second, .val (.double (FP.i2d myb1)), .second, .val (.ref x0s), .val (.ref y0s), .val (.ref x1s), .val (.ref y1s), .val (.ref vt), .unset, .unset, .unset, .unset]) rfl ?_
  refine k_new (pc := 159) N at_159 (hw _ (List.mem_of_getElem? (i := 19) rfl)) (hw _ (List.mem_of_getElem? (i := 20) rfl)) (hw _ (List.mem_of_getElem? (i := 21) rfl)) (fs := [("com/example/tapflow/tapflow/MotionEvent", "levels", "[D", .null), ("com/example/tapflow/tapflow/MotionEvent", "placedAt", "I", .int (0 : Int32)), ("com/example/tapflow/tapflow/MotionEvent", "eventTimeNanos", "J", .long (0 : Int64)), ("com/example/tapflow/tapflow/MotionEvent", "pointerIds", "[I", .null), ("com/example/tapflow/tapflow/MotionEvent", "xs", "[D", .null), ("com/example/tapflow/tapflow/MotionEvent", "ys", "[D", .null), ("com/example/tapflow/tapflow/MotionEvent", "action", "I", .int (0 : Int32)), ("com/example/tapflow/tapflow/MotionEvent", "offsetX", "D", .double (0 : UInt64)), ("com/example/tapflow/tapflow/MotionEvent", "offsetY", "D", .double (0 : UInt64)), ("com/example/tapflow/tapflow/MotionEvent", "levelCount", "I", .int (0 : Int32))]) ⟨⟨Or.inl (hw _ (List.mem_of_getElem? (i := 29) rfl)), (.array .double), by decide, rfl⟩, ⟨Or.inl (hw _ (List.mem_of_getElem? (i := 31) rfl)), .int, by decide, rfl⟩, ⟨Or.inl (hw _ (List.mem_of_getElem? (i := 44) rfl)), .long, by decide, rfl⟩, ⟨Or.inr (hw _ (List.mem_of_getElem? (i := 55) rfl)), (.array .int), by decide, rfl⟩, ⟨Or.inr (hw _ (List.mem_of_getElem? (i := 63) rfl)), (.array .double), by decide, rfl⟩, ⟨Or.inr (hw _ (List.mem_of_getElem? (i := 65) rfl)), (.array .double), by decide, rfl⟩, ⟨Or.inl (hw _ (List.mem_of_getElem? (i := 82) rfl)), .int, by decide, rfl⟩, ⟨Or.inl (hw _ (List.mem_of_getElem? (i := 137) rfl)), .double, by decide, rfl⟩, ⟨Or.inl (hw _ (List.mem_of_getElem? (i := 150) rfl)), .double, by decide, rfl⟩, ⟨Or.inl (hw _ (List.mem_of_getElem? (i := 143) rfl)), .int, by decide, rfl⟩, trivial⟩ (by decide) (by decide) (by decide) fun T e1 N => ?_
  refine k_dup (pc := 162) N at_162 rfl ?_
  refine k_lload_n (pc := 163) N at_163 rfl ?_
  refine k_iconst (pc := 164) N at_164 (v := (2 : Int32)) (by decide) ?_
  refine k_aload (pc := 165) N at_165 rfl rfl ?_
  refine k_aload (pc := 167) N at_167 rfl rfl ?_
  refine k_aload (pc := 169) N at_169 rfl rfl ?_
  obtain rfl : x0sk = y0sk := Option.some.inj (hk_x0s.symm.trans hk_y0s)
  replace N := ONow.sel (F := [oMe Z e1 .null (.int (0 : Int32)) (.long (0 : Int64)) .null .null .null (.int (0 : Int32)) (.double (0 : UInt64)) (.double (0 : UInt64)) (.int (0 : Int32)), oVt Z vt (.ref pa) (.ref xv) (.ref yv) (.long (0 : Int64)), oArr Z pa kpa (.object "com/example/tapflow/tapflow/VelocityTracker$Positions") (vA 32 zn), oArr Z xv kxv .double (dA 32 zd), oArr Z yv kyv .double (dA 32 zd), oArr Z y1s y1sk .double [.double (FP.i2d mya1), .double (FP.i2d myb1)], oArr Z x1s x1sk .double [.double (FP.i2d mxa1), .double (FP.i2d mxb1)], oArr Z y0s x0sk .double [.double (FP.i2d mya0), .double (FP.i2d myb0)], oArr Z x0s x0sk .double [.double (FP.i2d mxa0), .double (FP.i2d mxb0)], oArr Z ids idsk .int [.int (nd lo), .int (nd hi)]]) (F' := [oMe Z e1 .null (.int (0 : Int32)) (.long (0 : Int64)) .null .null .null (.int (0 : Int32)) (.double (0 : UInt64)) (.double (0 : UInt64)) (.int (0 : Int32)), oArr Z ids idsk .int [.int (nd lo), .int (nd hi)], oArr Z x0s x0sk .double [.double (FP.i2d mxa0), .double (FP.i2d mxb0)], oArr Z y0s x0sk .double [.double (FP.i2d mya0), .double (FP.i2d myb0)], oVt Z vt (.ref pa) (.ref xv) (.ref yv) (.long (0 : Int64)), oArr Z pa kpa (.object "com/example/tapflow/tapflow/VelocityTracker$Positions") (vA 32 zn), oArr Z xv kxv .double (dA 32 zd), oArr Z yv kyv .double (dA 32 zd), oArr Z y1s y1sk .double [.double (FP.i2d mya1), .double (FP.i2d myb1)], oArr Z x1s x1sk .double [.double (FP.i2d mxa1), .double (FP.i2d mxb1)]]) (rest := []) N [0, 9, 8, 7, 1, 2, 3, 4, 5, 6] (by decide) rfl
  simp only [List.append_nil] at N
  refine k_special (pc := 171) N (y := (⟨"com/example/tapflow/tapflow/MotionEvent", "<init>", "(JI[I[D[D)V"⟩ : MethodName)) (rest := [.ref e1]) [.long t, .int (2 : Int32), .ref ids, .ref x0s, .ref y0s] (a := e1) at_171 rfl (hw _ (List.mem_of_getElem? (i := 22) rfl)) (hw _ (List.mem_of_getElem? (i := 23) rfl)) (hw _ (List.mem_of_getElem? (i := 21) rfl)) (hw _ (List.mem_of_getElem? (i := 24) rfl)) (by decide) pd__JI_I_D_D_V rfl (c_init2_2 l Z a0 hw an sn ac SA AA A7 AE lv SL e1 ids x0s y0s t idsk x0sk hk_ids hk_x0s (nd lo) (nd hi) (FP.i2d mxa0) (FP.i2d mxb0) (FP.i2d mya0) (FP.i2d myb0) (nd_nn _ (by omega)) (nd_31 _ hlo) (nd_nn _ (by omega)) (nd_31 _ hhi) (nd_lt (by omega) (by omega) (by omega)) (Crd.i mxa0) (Crd.i mya0) (Crd.i mxb0) (Crd.i myb0) [oVt Z vt (.ref pa) (.ref xv) (.ref yv) (.long (0 : Int64)), oArr Z pa kpa (.object "com/example/tapflow/tapflow/VelocityTracker$Positions") (vA 32 zn), oArr Z xv kxv .double (dA 32 zd), oArr Z yv kyv .double (dA 32 zd), oArr Z y1s y1sk .double [.double (FP.i2d mya1), .double (FP.i2d myb1)], oArr Z x1s x1sk .double [.double (FP.i2d mxa1), .double (FP.i2d mxb1)]]) rfl rfl 1 rfl (by decide) (by decide) (cells' := 13) rfl (slots' := 132) rfl (by decide) (by decide) fun T vV K' N qQ => ?_
  obtain ⟨nb1, nx1, ny1, rfl, rfl⟩ := qQ
  refine k_astore (pc := 174) N at_174 rfl (Ls' := #[.val (.int q0), .val (.long t), .second, .val (.int q2), .val (.int q3), .val (.int q4), .val (.int q5), .val (.int (nd lo)), .val (.int (nd hi)), .val (.ref ids), .val (.double (FP.i2d mxa0)), .second, .val (.double (FP.i2d mxa1)), .second, .val (.double (FP.i2d mxb0)), .second, .val (.double (FP.i2d mxb1)), .second, .val (.double (FP.i2d mya0)), .second, .val (.double (FP.i2d mya1)), .second, .val (.double (FP.i2d myb0)), .second, .val (.double (FP.i2d myb1)), .second, .val (.ref x0s), .val (.ref y0s), .val (.ref x1s), .val (.ref y1s), .val (.ref vt), .val (.ref e1), .unset, .unset, .unset]) rfl ?_
  refine k_new (pc := 176) N at_176 (hw _ (List.mem_of_getElem? (i := 19) rfl)) (hw _ (List.mem_of_getElem? (i := 20) rfl)) (hw _ (List.mem_of_getElem? (i := 21) rfl)) (fs := [("com/example/tapflow/tapflow/MotionEvent", "levels", "[D", .null), ("com/example/tapflow/tapflow/MotionEvent", "placedAt", "I", .int (0 : Int32)), ("com/example/tapflow/tapflow/MotionEvent", "eventTimeNanos", "J", .long (0 : Int64)), ("com/example/tapflow/tapflow/MotionEvent", "pointerIds", "[I", .null), ("com/example/tapflow/tapflow/MotionEvent", "xs", "[D", .null), ("com/example/tapflow/tapflow/MotionEvent", "ys", "[D", .null), ("com/example/tapflow/tapflow/MotionEvent", "action", "I", .int (0 : Int32)), ("com/example/tapflow/tapflow/MotionEvent", "offsetX", "D", .double (0 : UInt64)), ("com/example/tapflow/tapflow/MotionEvent", "offsetY", "D", .double (0 : UInt64)), ("com/example/tapflow/tapflow/MotionEvent", "levelCount", "I", .int (0 : Int32))]) ⟨⟨Or.inl (hw _ (List.mem_of_getElem? (i := 29) rfl)), (.array .double), by decide, rfl⟩, ⟨Or.inl (hw _ (List.mem_of_getElem? (i := 31) rfl)), .int, by decide, rfl⟩, ⟨Or.inl (hw _ (List.mem_of_getElem? (i := 44) rfl)), .long, by decide, rfl⟩, ⟨Or.inr (hw _ (List.mem_of_getElem? (i := 55) rfl)), (.array .int), by decide, rfl⟩, ⟨Or.inr (hw _ (List.mem_of_getElem? (i := 63) rfl)), (.array .double), by decide, rfl⟩, ⟨Or.inr (hw _ (List.mem_of_getElem? (i := 65) rfl)), (.array .double), by decide, rfl⟩, ⟨Or.inl (hw _ (List.mem_of_getElem? (i := 82) rfl)), .int, by decide, rfl⟩, ⟨Or.inl (hw _ (List.mem_of_getElem? (i := 137) rfl)), .double, by decide, rfl⟩, ⟨Or.inl (hw _ (List.mem_of_getElem? (i := 150) rfl)), .double, by decide, rfl⟩, ⟨Or.inl (hw _ (List.mem_of_getElem? (i := 143) rfl)), .int, by decide, rfl⟩, trivial⟩ (by decide) (by decide) (by decide) fun T e2 N => ?_
  refine k_dup (pc := 179) N at_179 rfl ?_
  refine k_lload_n (pc := 180) N at_180 rfl ?_
  refine k_ldcJ (pc := 181) N at_181 (hw _ (List.mem_of_getElem? (i := 83) rfl)) ?_
  refine k_ladd (pc := 184) N at_184 ?_
  refine k_iconst (pc := 185) N at_185 (v := (2 : Int32)) (by decide) ?_
  refine k_aload (pc := 186) N at_186 rfl rfl ?_
  refine k_aload (pc := 188) N at_188 rfl rfl ?_
  refine k_aload (pc := 190) N at_190 rfl rfl ?_
  obtain rfl : x1sk = y1sk := Option.some.inj (hk_x1s.symm.trans hk_y1s)
  replace N := ONow.sel (F := [oMe Z e2 .null (.int (0 : Int32)) (.long (0 : Int64)) .null .null .null (.int (0 : Int32)) (.double (0 : UInt64)) (.double (0 : UInt64)) (.int (0 : Int32)), oMe Z e1 (.ref lv) (.int (-1 : Int32)) (.long t) (.ref nb1) (.ref nx1) (.ref ny1) (.int (2 : Int32)) (.double (0 : UInt64)) (.double (0 : UInt64)) (.int (0 : Int32)), oArr Z nb1 idsk .int [.int (nd lo), .int (nd hi)], oArr Z ny1 x0sk .double [.double (FP.i2d mya0), .double (FP.i2d myb0)], oArr Z nx1 x0sk .double [.double (FP.i2d mxa0), .double (FP.i2d mxb0)], oArr Z ids idsk .int [.int (nd lo), .int (nd hi)], oArr Z x0s x0sk .double [.double (FP.i2d mxa0), .double (FP.i2d mxb0)], oArr Z y0s x0sk .double [.double (FP.i2d mya0), .double (FP.i2d myb0)], oVt Z vt (.ref pa) (.ref xv) (.ref yv) (.long (0 : Int64)), oArr Z pa kpa (.object "com/example/tapflow/tapflow/VelocityTracker$Positions") (vA 32 zn), oArr Z xv kxv .double (dA 32 zd), oArr Z yv kyv .double (dA 32 zd), oArr Z y1s x1sk .double [.double (FP.i2d mya1), .double (FP.i2d myb1)], oArr Z x1s x1sk .double [.double (FP.i2d mxa1), .double (FP.i2d mxb1)]]) (F' := [oMe Z e2 .null (.int (0 : Int32)) (.long (0 : Int64)) .null .null .null (.int (0 : Int32)) (.double (0 : UInt64)) (.double (0 : UInt64)) (.int (0 : Int32)), oArr Z ids idsk .int [.int (nd lo), .int (nd hi)], oArr Z x1s x1sk .double [.double (FP.i2d mxa1), .double (FP.i2d mxb1)], oArr Z y1s x1sk .double [.double (FP.i2d mya1), .double (FP.i2d myb1)], oMe Z e1 (.ref lv) (.int (-1 : Int32)) (.long t) (.ref nb1) (.ref nx1) (.ref ny1) (.int (2 : Int32)) (.double (0 : UInt64)) (.double (0 : UInt64)) (.int (0 : Int32)), oArr Z nb1 idsk .int [.int (nd lo), .int (nd hi)], oArr Z ny1 x0sk .double [.double (FP.i2d mya0), .double (FP.i2d myb0)], oArr Z nx1 x0sk .double [.double (FP.i2d mxa0), .double (FP.i2d mxb0)], oArr Z x0s x0sk .double [.double (FP.i2d mxa0), .double (FP.i2d mxb0)], oArr Z y0s x0sk .double [.double (FP.i2d mya0), .double (FP.i2d myb0)], oVt Z vt (.ref pa) (.ref xv) (.ref yv) (.long (0 : Int64)), oArr Z pa kpa (.object "com/example/tapflow/tapflow/VelocityTracker$Positions") (vA 32 zn), oArr Z xv kxv .double (dA 32 zd), oArr Z yv kyv .double (dA 32 zd)]) (rest := []) N [0, 5, 13, 12, 1, 2, 3, 4, 6, 7, 8, 9, 10, 11] (by decide) rfl
  simp only [List.append_nil] at N
  refine k_special (pc := 192) N (y := (⟨"com/example/tapflow/tapflow/MotionEvent", "<init>", "(JI[I[D[D)V"⟩ : MethodName)) (rest := [.ref e2]) [.long (t + (1000000 : Int64)), .int (2 : Int32), .ref ids, .ref x1s, .ref y1s] (a := e2) at_192 rfl (hw _ (List.mem_of_getElem? (i := 22) rfl)) (hw _ (List.mem_of_getElem? (i := 23) rfl)) (hw _ (List.mem_of_getElem? (i := 21) rfl)) (hw _ (List.mem_of_getElem? (i := 24) rfl)) (by decide) pd__JI_I_D_D_V rfl (c_init2_2 l Z a0 hw an sn ac SA AA A7 AE lv SL e2 ids x1s y1s (t + (1000000 : Int64)) idsk x1sk hk_ids hk_x1s (nd lo) (nd hi) (FP.i2d mxa1) (FP.i2d mxb1) (FP.i2d mya1) (FP.i2d myb1) (nd_nn _ (by omega)) (nd_31 _ hlo) (nd_nn _ (by omega)) (nd_31 _ hhi) (nd_lt (by omega) (by omega) (by omega)) (Crd.i mxa1) (Crd.i mya1) (Crd.i mxb1) (Crd.i myb1) [oMe Z e1 (.ref lv) (.int (-1 : Int32)) (.long t) (.ref nb1) (.ref nx1) (.ref ny1) (.int (2 : Int32)) (.double (0 : UInt64)) (.double (0 : UInt64)) (.int (0 : Int32)), oArr Z nb1 idsk .int [.int (nd lo), .int (nd hi)], oArr Z ny1 x0sk .double [.double (FP.i2d mya0), .double (FP.i2d myb0)], oArr Z nx1 x0sk .double [.double (FP.i2d mxa0), .double (FP.i2d mxb0)], oArr Z x0s x0sk .double [.double (FP.i2d mxa0), .double (FP.i2d mxb0)], oArr Z y0s x0sk .double [.double (FP.i2d mya0), .double (FP.i2d myb0)], oVt Z vt (.ref pa) (.ref xv) (.ref yv) (.long (0 : Int64)), oArr Z pa kpa (.object "com/example/tapflow/tapflow/VelocityTracker$Positions") (vA 32 zn), oArr Z xv kxv .double (dA 32 zd), oArr Z yv kyv .double (dA 32 zd)]) rfl rfl 1 rfl (by decide) (by decide) (cells' := 17) rfl (slots' := 154) rfl (by decide) (by decide) fun T vV K' N qQ => ?_
  obtain ⟨nb2, nx2, ny2, rfl, rfl⟩ := qQ
  refine k_astore (pc := 195) N at_195 rfl (Ls' := #[.val (.int q0), .val (.long t), .second, .val (.int q2), .val (.int q3), .val (.int q4), .val (.int q5), .val (.int (nd lo)), .val (.int (nd hi)), .val (.ref ids), .val (.double (FP.i2d mxa0)), .second, .val (.double (FP.i2d mxa1)), .second, .val (.double (FP.i2d mxb0)), .second, .val (.double (FP.i2d mxb1)), .second, .val (.double (FP.i2d mya0)), .second, .val (.double (FP.i2d mya1)), .second, .val (.double (FP.i2d myb0)), .second, .val (.double (FP.i2d myb1)), .second, .val (.ref x0s), .val (.ref y0s), .val (.ref x1s), .val (.ref y1s), .val (.ref vt), .val (.ref e1), .val (.ref e2), .unset, .unset]) rfl ?_
  refine k_aload (pc := 197) N at_197 rfl rfl ?_
  refine k_aload (pc := 199) N at_199 rfl rfl ?_
  replace N := ONow.sel (F := [oMe Z e2 (.ref lv) (.int (-1 : Int32)) (.long (t + (1000000 : Int64))) (.ref nb2) (.ref nx2) (.ref ny2) (.int (2 : Int32)) (.double (0 : UInt64)) (.double (0 : UInt64)) (.int (0 : Int32)), oArr Z nb2 idsk .int [.int (nd lo), .int (nd hi)], oArr Z ny2 x1sk .double [.double (FP.i2d mya1), .double (FP.i2d myb1)], oArr Z nx2 x1sk .double [.double (FP.i2d mxa1), .double (FP.i2d mxb1)], oArr Z ids idsk .int [.int (nd lo), .int (nd hi)], oArr Z x1s x1sk .double [.double (FP.i2d mxa1), .double (FP.i2d mxb1)], oArr Z y1s x1sk .double [.double (FP.i2d mya1), .double (FP.i2d myb1)], oMe Z e1 (.ref lv) (.int (-1 : Int32)) (.long t) (.ref nb1) (.ref nx1) (.ref ny1) (.int (2 : Int32)) (.double (0 : UInt64)) (.double (0 : UInt64)) (.int (0 : Int32)), oArr Z nb1 idsk .int [.int (nd lo), .int (nd hi)], oArr Z ny1 x0sk .double [.double (FP.i2d mya0), .double (FP.i2d myb0)], oArr Z nx1 x0sk .double [.double (FP.i2d mxa0), .double (FP.i2d mxb0)], oArr Z x0s x0sk .double [.double (FP.i2d mxa0), .double (FP.i2d mxb0)], oArr Z y0s x0sk .double [.double (FP.i2d mya0), .double (FP.i2d myb0)], oVt Z vt (.ref pa) (.ref xv) (.ref yv) (.long (0 : Int64)), oArr Z pa kpa (.object "com/example/tapflow/tapflow/VelocityTracker$Positions") (vA 32 zn), oArr Z xv kxv .double (dA 32 zd), oArr Z yv kyv .double (dA 32 zd)]) (F' := [oVt Z vt (.ref pa) (.ref xv) (.ref yv) (.long (0 : Int64)), oArr Z pa kpa (.object "com/example/tapflow/tapflow/VelocityTracker$Positions") (vA 32 zn), oMe Z e1 (.ref lv) (.int (-1 : Int32)) (.long t) (.ref nb1) (.ref nx1) (.ref ny1) (.int (2 : Int32)) (.double (0 : UInt64)) (.double (0 : UInt64)) (.int (0 : Int32)), oArr Z nb1 idsk .int [.int (nd lo), .int (nd hi)], oArr Z nx1 x0sk .double [.double (FP.i2d mxa0), .double (FP.i2d mxb0)], oArr Z ny1 x0sk .double [.double (FP.i2d mya0), .double (FP.i2d myb0)], oMe Z e2 (.ref lv) (.int (-1 : Int32)) (.long (t + (1000000 : Int64))) (.ref nb2) (.ref nx2) (.ref ny2) (.int (2 : Int32)) (.double (0 : UInt64)) (.double (0 : UInt64)) (.int (0 : Int32)), oArr Z nb2 idsk .int [.int (nd lo), .int (nd hi)], oArr Z ny2 x1sk .double [.double (FP.i2d mya1), .double (FP.i2d myb1)], oArr Z nx2 x1sk .double [.double (FP.i2d mxa1), .double (FP.i2d mxb1)], oArr Z ids idsk .int [.int (nd lo), .int (nd hi)], oArr Z x1s x1sk .double [.double (FP.i2d mxa1), .double (FP.i2d mxb1)], oArr Z y1s x1sk .double [.double (FP.i2d mya1), .double (FP.i2d myb1)], oArr Z x0s x0sk .double [.double (FP.i2d mxa0), .double (FP.i2d mxb0)], oArr Z y0s x0sk .double [.double (FP.i2d mya0), .double (FP.i2d myb0)], oArr Z xv kxv .double (dA 32 zd), oArr Z yv kyv .double (dA 32 zd)]) (rest := []) N [13, 14, 7, 8, 10, 9, 0, 1, 2, 3, 4, 5, 6, 11, 12, 15, 16] (by decide) rfl
  simp only [List.append_nil] at N
  refine k_virtual (pc := 201) N (y := (⟨"com/example/tapflow/tapflow/VelocityTracker", "addMovement", "(Lcom/example/tapflow/tapflow/MotionEvent;)V"⟩ : MethodName)) (z := (⟨"com/example/tapflow/tapflow/VelocityTracker", "addMovement", "(Lcom/example/tapflow/tapflow/MotionEvent;)V"⟩ : MethodName)) (rest := []) [.ref e1] (a := vt) at_201 (fun h N => N.exa (i := 0) rfl) (hw _ (List.mem_of_getElem? (i := 84) rfl)) (hw _ (List.mem_of_getElem? (i := 85) rfl)) (nf_self (hw _ (List.mem_of_getElem? (i := 87) rfl))) (hw _ (List.mem_of_getElem? (i := 87) rfl)) (hw _ (List.mem_of_getElem? (i := 86) rfl)) (hw _ (List.mem_of_getElem? (i := 4) rfl)) (hw _ (List.mem_of_getElem? (i := 88) rfl)) (by decide) pd__Lcom_example_tapflow_tapflow_MotionEvent__V rfl (c_am0 l Z a0 hw vt pa xv yv kpa ov (0 : Int64) e1 lv nb1 nx1 ny1 t idsk x0sk x0sk lo hi mxa0 mxb0 mya0 myb0 hlo hhi hne [oMe Z e2 (.ref lv) (.int (-1 : Int32)) (.long (t + (1000000 : Int64))) (.ref nb2) (.ref nx2) (.ref ny2) (.int (2 : Int32)) (.double (0 : UInt64)) (.double (0 : UInt64)) (.int (0 : Int32)), oArr Z nb2 idsk .int [.int (nd lo), .int (nd hi)], oArr Z ny2 x1sk .double [.double (FP.i2d mya1), .double (FP.i2d myb1)], oArr Z nx2 x1sk .double [.double (FP.i2d mxa1), .double (FP.i2d mxb1)], oArr Z ids idsk .int [.int (nd lo), .int (nd hi)], oArr Z x1s x1sk .double [.double (FP.i2d mxa1), .double (FP.i2d mxb1)], oArr Z y1s x1sk .double [.double (FP.i2d mya1), .double (FP.i2d myb1)], oArr Z x0s x0sk .double [.double (FP.i2d mxa0), .double (FP.i2d mxb0)], oArr Z y0s x0sk .double [.double (FP.i2d mya0), .double (FP.i2d myb0)], oArr Z xv kxv .double (dA 32 zd), oArr Z yv kyv .double (dA 32 zd)]) rfl rfl 0 rfl (by decide) (by decide) (cells' := 25) rfl (slots' := 552) rfl (by decide) (by decide) fun T vV K' N qQ => ?_
  obtain ⟨p0, ta0, xa0, ya0, kt0, kxa0, kya0, p1, ta1, xa1, ya1, kt1, kxa1, kya1, rfl, rfl⟩ := qQ
  refine k_aload (pc := 204) N at_204 rfl rfl ?_
  refine k_aload (pc := 206) N at_206 rfl rfl ?_
  replace N := ONow.sel (F := [oVt Z vt (.ref pa) (.ref xv) (.ref yv) (.long t), oArr Z pa kpa (.object "com/example/tapflow/tapflow/VelocityTracker$Positions") (vA 32 (upd (upd zn lo (.ref p0)) hi (.ref p1))), oMe Z e1 (.ref lv) (.int (-1 : Int32)) (.long t) (.ref nb1) (.ref nx1) (.ref ny1) (.int (2 : Int32)) (.double (0 : UInt64)) (.double (0 : UInt64)) (.int (0 : Int32)), oArr Z nb1 idsk .int [.int (nd lo), .int (nd hi)], oArr Z nx1 x0sk .double [.double (FP.i2d mxa0), .double (FP.i2d mxb0)], oArr Z ny1 x0sk .double [.double (FP.i2d mya0), .double (FP.i2d myb0)], oPo Z p0 (.ref ta0) (.ref xa0) (.ref ya0) (.int (1 : Int32)) (.int (1 : Int32)) (.double (0 : UInt64)) (.double (0 : UInt64)), oArr Z ta0 kt0 .long (lA 64 (upd zl 0 t)), oArr Z xa0 kxa0 .double (dA 64 (upd zd 0 (FP.i2d mxa0))), oArr Z ya0 kya0 .double (dA 64 (upd zd 0 (FP.i2d mya0))), oPo Z p1 (.ref ta1) (.ref xa1) (.ref ya1) (.int (1 : Int32)) (.int (1 : Int32)) (.double (0 : UInt64)) (.double (0 : UInt64)), oArr Z ta1 kt1 .long (lA 64 (upd zl 0 t)), oArr Z xa1 kxa1 .double (dA 64 (upd zd 0 (FP.i2d mxb0))), oArr Z ya1 kya1 .double (dA 64 (upd zd 0 (FP.i2d myb0))), oMe Z e2 (.ref lv) (.int (-1 : Int32)) (.long (t + (1000000 : Int64))) (.ref nb2) (.ref nx2) (.ref ny2) (.int (2 : Int32)) (.double (0 : UInt64)) (.double (0 : UInt64)) (.int (0 : Int32)), oArr Z nb2 idsk .int [.int (nd lo), .int (nd hi)], oArr Z ny2 x1sk .double [.double (FP.i2d mya1), .double (FP.i2d myb1)], oArr Z nx2 x1sk .double [.double (FP.i2d mxa1), .double (FP.i2d mxb1)], oArr Z ids idsk .int [.int (nd lo), .int (nd hi)], oArr Z x1s x1sk .double [.double (FP.i2d mxa1), .double (FP.i2d mxb1)], oArr Z y1s x1sk .double [.double (FP.i2d mya1), .double (FP.i2d myb1)], oArr Z x0s x0sk .double [.double (FP.i2d mxa0), .double (FP.i2d mxb0)], oArr Z y0s x0sk .double [.double (FP.i2d mya0), .double (FP.i2d myb0)], oArr Z xv kxv .double (dA 32 zd), oArr Z yv kyv .double (dA 32 zd)]) (F' := [oVt Z vt (.ref pa) (.ref xv) (.ref yv) (.long t), oArr Z pa kpa (.object "com/example/tapflow/tapflow/VelocityTracker$Positions") (vA 32 (upd (upd zn lo (.ref p0)) hi (.ref p1))), oMe Z e2 (.ref lv) (.int (-1 : Int32)) (.long (t + (1000000 : Int64))) (.ref nb2) (.ref nx2) (.ref ny2) (.int (2 : Int32)) (.double (0 : UInt64)) (.double (0 : UInt64)) (.int (0 : Int32)), oArr Z nb2 idsk .int [.int (nd lo), .int (nd hi)], oArr Z nx2 x1sk .double [.double (FP.i2d mxa1), .double (FP.i2d mxb1)], oArr Z ny2 x1sk .double [.double (FP.i2d mya1), .double (FP.i2d myb1)], oPo Z p0 (.ref ta0) (.ref xa0) (.ref ya0) (.int (1 : Int32)) (.int (1 : Int32)) (.double (0 : UInt64)) (.double (0 : UInt64)), oArr Z ta0 kt0 .long (lA 64 (upd zl 0 t)), oArr Z xa0 kxa0 .double (dA 64 (upd zd 0 (FP.i2d mxa0))), oArr Z ya0 kya0 .double (dA 64 (upd zd 0 (FP.i2d mya0))), oPo Z p1 (.ref ta1) (.ref xa1) (.ref ya1) (.int (1 : Int32)) (.int (1 : Int32)) (.double (0 : UInt64)) (.double (0 : UInt64)), oArr Z ta1 kt1 .long (lA 64 (upd zl 0 t)), oArr Z xa1 kxa1 .double (dA 64 (upd zd 0 (FP.i2d mxb0))), oArr Z ya1 kya1 .double (dA 64 (upd zd 0 (FP.i2d myb0))), oMe Z e1 (.ref lv) (.int (-1 : Int32)) (.long t) (.ref nb1) (.ref nx1) (.ref ny1) (.int (2 : Int32)) (.double (0 : UInt64)) (.double (0 : UInt64)) (.int (0 : Int32)), oArr Z nb1 idsk .int [.int (nd lo), .int (nd hi)], oArr Z nx1 x0sk .double [.double (FP.i2d mxa0), .double (FP.i2d mxb0)], oArr Z ny1 x0sk .double [.double (FP.i2d mya0), .double (FP.i2d myb0)], oArr Z ids idsk .int [.int (nd lo), .int (nd hi)], oArr Z x1s x1sk .double [.double (FP.i2d mxa1), .double (FP.i2d mxb1)], oArr Z y1s x1sk .double [.double (FP.i2d mya1), .double (FP.i2d myb1)], oArr Z x0s x0sk .double [.double (FP.i2d mxa0), .double (FP.i2d mxb0)], oArr Z y0s x0sk .double [.double (FP.i2d mya0), .double (FP.i2d myb0)], oArr Z xv kxv .double (dA 32 zd), oArr Z yv kyv .double (dA 32 zd)]) (rest := []) N [0, 1, 14, 15, 17, 16, 6, 7, 8, 9, 10, 11, 12, 13, 2, 3, 4, 5, 18, 19, 20, 21, 22, 23, 24] (by decide) rfl
  simp only [List.append_nil] at N
  refine k_virtual (pc := 208) N (y := (⟨"com/example/tapflow/tapflow/VelocityTracker", "addMovement", "(Lcom/example/tapflow/tapflow/MotionEvent;)V"⟩ : MethodName)) (z := (⟨"com/example/tapflow/tapflow/VelocityTracker", "addMovement", "(Lcom/example/tapflow/tapflow/MotionEvent;)V"⟩ : MethodName)) (rest := []) [.ref e2] (a := vt) at_208 (fun h N => N.exa (i := 0) rfl) (hw _ (List.mem_of_getElem? (i := 84) rfl)) (hw _ (List.mem_of_getElem? (i := 85) rfl)) (nf_self (hw _ (List.mem_of_getElem? (i := 87) rfl))) (hw _ (List.mem_of_getElem? (i := 87) rfl)) (hw _ (List.mem_of_getElem? (i := 86) rfl)) (hw _ (List.mem_of_getElem? (i := 4) rfl)) (hw _ (List.mem_of_getElem? (i := 88) rfl)) (by decide) pd__Lcom_example_tapflow_tapflow_MotionEvent__V rfl (c_am1 l Z a0 hw vt pa xv yv kpa ov t (upd (upd zn lo (.ref p0)) hi (.ref p1)) e2 lv nb2 nx2 ny2 (t + (1000000 : Int64)) idsk x1sk x1sk lo hi mxa1 mxb1 mya1 myb1 p0 ta0 xa0 ya0 kt0 kxa0 kya0 (upd zl 0 t) (upd zd 0 (FP.i2d mxa0)) (upd zd 0 (FP.i2d mya0)) (0 : UInt64) (0 : UInt64) p1 ta1 xa1 ya1 kt1 kxa1 kya1 (upd zl 0 t) (upd zd 0 (FP.i2d mxb0)) (upd zd 0 (FP.i2d myb0)) (0 : UInt64) (0 : UInt64) hlo hhi hne ((upd_ne _ _ (Ne.symm hne)).trans (upd_here _ _ _)) (upd_here _ _ _) [oMe Z e1 (.ref lv) (.int (-1 : Int32)) (.long t) (.ref nb1) (.ref nx1) (.ref ny1) (.int (2 : Int32)) (.double (0 : UInt64)) (.double (0 : UInt64)) (.int (0 : Int32)), oArr Z nb1 idsk .int [.int (nd lo), .int (nd hi)], oArr Z nx1 x0sk .double [.double (FP.i2d mxa0), .double (FP.i2d mxb0)], oArr Z ny1 x0sk .double [.double (FP.i2d mya0), .double (FP.i2d myb0)], oArr Z ids idsk .int [.int (nd lo), .int (nd hi)], oArr Z x1s x1sk .double [.double (FP.i2d mxa1), .double (FP.i2d mxb1)], oArr Z y1s x1sk .double [.double (FP.i2d mya1), .double (FP.i2d myb1)], oArr Z x0s x0sk .double [.double (FP.i2d mxa0), .double (FP.i2d mxb0)], oArr Z y0s x0sk .double [.double (FP.i2d mya0), .double (FP.i2d myb0)], oArr Z xv kxv .double (dA 32 zd), oArr Z yv kyv .double (dA 32 zd)]) rfl rfl 0 rfl (by decide) (by decide) (cells' := 25) rfl (slots' := 552) rfl (by decide) (by decide) fun T vV K' N qQ => ?_
  obtain ⟨rfl, rfl⟩ := qQ
  refine k_aload (pc := 211) N at_211 rfl rfl ?_
  refine k_iconst (pc := 213) N at_213 (v := (1 : Int32)) (by decide) ?_
  replace N := ONow.sel (F := [oVt Z vt (.ref pa) (.ref xv) (.ref yv) (.long (t + (1000000 : Int64))), oArr Z pa kpa (.object "com/example/tapflow/tapflow/VelocityTracker$Positions") (vA 32 (upd (upd zn lo (.ref p0)) hi (.ref p1))), oMe Z e2 (.ref lv) (.int (-1 : Int32)) (.long (t + (1000000 : Int64))) (.ref nb2) (.ref nx2) (.ref ny2) (.int (2 : Int32)) (.double (0 : UInt64)) (.double (0 : UInt64)) (.int (0 : Int32)), oArr Z nb2 idsk .int [.int (nd lo), .int (nd hi)], oArr Z nx2 x1sk .double [.double (FP.i2d mxa1), .double (FP.i2d mxb1)], oArr Z ny2 x1sk .double [.double (FP.i2d mya1), .double (FP.i2d myb1)], oPo Z p0 (.ref ta0) (.ref xa0) (.ref ya0) (.int (2 : Int32)) (.int (2 : Int32)) (.double (0 : UInt64)) (.double (0 : UInt64)), oArr Z ta0 kt0 .long (lA 64 (upd (upd zl 0 t) 1 (t + (1000000 : Int64)))), oArr Z xa0 kxa0 .double (dA 64 (upd (upd zd 0 (FP.i2d mxa0)) 1 (FP.i2d mxa1))), oArr Z ya0 kya0 .double (dA 64 (upd (upd zd 0 (FP.i2d mya0)) 1 (FP.i2d mya1))), oPo Z p1 (.ref ta1) (.ref xa1) (.ref ya1) (.int (2 : Int32)) (.int (2 : Int32)) (.double (0 : UInt64)) (.double (0 : UInt64)), oArr Z ta1 kt1 .long (lA 64 (upd (upd zl 0 t) 1 (t + (1000000 : Int64)))), oArr Z xa1 kxa1 .double (dA 64 (upd (upd zd 0 (FP.i2d mxb0)) 1 (FP.i2d mxb1))), oArr Z ya1 kya1 .double (dA 64 (upd (upd zd 0 (FP.i2d myb0)) 1 (FP.i2d myb1))), oMe Z e1 (.ref lv) (.int (-1 : Int32)) (.long t) (.ref nb1) (.ref nx1) (.ref ny1) (.int (2 : Int32)) (.double (0 : UInt64)) (.double (0 : UInt64)) (.int (0 : Int32)), oArr Z nb1 idsk .int [.int (nd lo), .int (nd hi)], oArr Z nx1 x0sk .double [.double (FP.i2d mxa0), .double (FP.i2d mxb0)], oArr Z ny1 x0sk .double [.double (FP.i2d mya0), .double (FP.i2d myb0)], oArr Z ids idsk .int [.int (nd lo), .int (nd hi)], oArr Z x1s x1sk .double [.double (FP.i2d mxa1), .double (FP.i2d mxb1)], oArr Z y1s x1sk .double [.double (FP.i2d mya1), .double (FP.i2d myb1)], oArr Z x0s x0sk .double [.double (FP.i2d mxa0), .double (FP.i2d mxb0)], oArr Z y0s x0sk .double [.double (FP.i2d mya0), .double (FP.i2d myb0)], oArr Z xv kxv .double (dA 32 zd), oArr Z yv kyv .double (dA 32 zd)]) (F' := [oVt Z vt (.ref pa) (.ref xv) (.ref yv) (.long (t + (1000000 : Int64))), oArr Z pa kpa (.object "com/example/tapflow/tapflow/VelocityTracker$Positions") (vA 32 (upd (upd zn lo (.ref p0)) hi (.ref p1))), oArr Z xv kxv .double (dA 32 zd), oArr Z yv kyv .double (dA 32 zd), oPo Z p0 (.ref ta0) (.ref xa0) (.ref ya0) (.int (2 : Int32)) (.int (2 : Int32)) (.double (0 : UInt64)) (.double (0 : UInt64)), oArr Z ta0 kt0 .long (lA 64 (upd (upd zl 0 t) 1 (t + (1000000 : Int64)))), oArr Z xa0 kxa0 .double (dA 64 (upd (upd zd 0 (FP.i2d mxa0)) 1 (FP.i2d mxa1))), oArr Z ya0 kya0 .double (dA 64 (upd (upd zd 0 (FP.i2d mya0)) 1 (FP.i2d mya1))), oPo Z p1 (.ref ta1) (.ref xa1) (.ref ya1) (.int (2 : Int32)) (.int (2 : Int32)) (.double (0 : UInt64)) (.double (0 : UInt64)), oArr Z ta1 kt1 .long (lA 64 (upd (upd zl 0 t) 1 (t + (1000000 : Int64)))), oArr Z xa1 kxa1 .double (dA 64 (upd (upd zd 0 (FP.i2d mxb0)) 1 (FP.i2d mxb1))), oArr Z ya1 kya1 .double (dA 64 (upd (upd zd 0 (FP.i2d myb0)) 1 (FP.i2d myb1))), oMe Z e2 (.ref lv) (.int (-1 : Int32)) (.long (t + (1000000 : Int64))) (.ref nb2) (.ref nx2) (.ref ny2) (.int (2 : Int32)) (.double (0 : UInt64)) (.double (0 : UInt64)) (.int (0 : Int32)), oArr Z nb2 idsk .int [.int (nd lo), .int (nd hi)], oArr Z nx2 x1sk .double [.double (FP.i2d mxa1), .double (FP.i2d mxb1)], oArr Z ny2 x1sk .double [.double (FP.i2d mya1), .double (FP.i2d myb1)], oMe Z e1 (.ref lv) (.int (-1 : Int32)) (.long t) (.ref nb1) (.ref nx1) (.ref ny1) (.int (2 : Int32)) (.double (0 : UInt64)) (.double (0 : UInt64)) (.int (0 : Int32)), oArr Z nb1 idsk .int [.int (nd lo), .int (nd hi)], oArr Z nx1 x0sk .double [.double (FP.i2d mxa0), .double (FP.i2d mxb0)], oArr Z ny1 x0sk .double [.double (FP.i2d mya0), .double (FP.i2d myb0)], oArr Z ids idsk .int [.int (nd lo), .int (nd hi)], oArr Z x1s x1sk .double [.double (FP.i2d mxa1), .double (FP.i2d mxb1)], oArr Z y1s x1sk .double [.double (FP.i2d mya1), .double (FP.i2d myb1)], oArr Z x0s x0sk .double [.double (FP.i2d mxa0), .double (FP.i2d mxb0)], oArr Z y0s x0sk .double [.double (FP.i2d mya0), .double (FP.i2d myb0)]]) (rest := []) N [0, 1, 23, 24, 6, 7, 8, 9, 10, 11, 12, 13, 2, 3, 4, 5, 14, 15, 16, 17, 18, 19, 20, 21, 22] (by decide) rfl
  simp only [List.append_nil] at N
  refine k_virtual (pc := 214) N (y := (⟨"com/example/tapflow/tapflow/VelocityTracker", "computeCurrentVelocity", "(I)V"⟩ : MethodName)) (z := (⟨"com/example/tapflow/tapflow/VelocityTracker", "computeCurrentVelocity", "(I)V"⟩ : MethodName)) (rest := []) [.int (1 : Int32)] (a := vt) at_214 (fun h N => N.exa (i := 0) rfl) (hw _ (List.mem_of_getElem? (i := 169) rfl)) (hw _ (List.mem_of_getElem? (i := 170) rfl)) (nf_self (hw _ (List.mem_of_getElem? (i := 172) rfl))) (hw _ (List.mem_of_getElem? (i := 172) rfl)) (hw _ (List.mem_of_getElem? (i := 171) rfl)) (hw _ (List.mem_of_getElem? (i := 4) rfl)) (hw _ (List.mem_of_getElem? (i := 173) rfl)) (by decide) pd__I_V rfl (c_ci2 l Z a0 hw vt pa xv yv kpa ov (t + (1000000 : Int64)) (upd (upd zn lo (.ref p0)) hi (.ref p1)) kxv kyv zd zd lo hi hlo hhi hne p0 ta0 xa0 ya0 kt0 kxa0 kya0 (upd (upd zl 0 t) 1 (t + (1000000 : Int64))) (upd (upd zd 0 (FP.i2d mxa0)) 1 (FP.i2d mxa1)) (upd (upd zd 0 (FP.i2d mya0)) 1 (FP.i2d mya1)) (0 : UInt64) (0 : UInt64) p1 ta1 xa1 ya1 kt1 kxa1 kya1 (upd (upd zl 0 t) 1 (t + (1000000 : Int64))) (upd (upd zd 0 (FP.i2d mxb0)) 1 (FP.i2d mxb1)) (upd (upd zd 0 (FP.i2d myb0)) 1 (FP.i2d myb1)) (0 : UInt64) (0 : UInt64) ((upd_ne _ _ (Ne.symm hne)).trans (upd_here _ _ _)) (upd_here _ _ _) (fun j a b => (upd_ne _ _ b).trans (upd_ne _ _ a)) mxa0.toInt mxa1.toInt mya0.toInt mya1.toInt mxb0.toInt mxb1.toInt myb0.toInt myb1.toInt (Int64.sub_self _) (t1 _) (t2 _) (FP.Core.i2d_int mxa0) (FP.Core.i2d_int mxa1) (FP.Core.i2d_int mya0) (FP.Core.i2d_int mya1) b_mxa0 b_mya0 b_mxa1 b_mya1 (Int64.sub_self _) (t1 _) (t2 _) (FP.Core.i2d_int mxb0) (FP.Core.i2d_int mxb1) (FP.Core.i2d_int myb0) (FP.Core.i2d_int myb1) b_mxb0 b_myb0 b_mxb1 b_myb1 [oMe Z e2 (.ref lv) (.int (-1 : Int32)) (.long (t + (1000000 : Int64))) (.ref nb2) (.ref nx2) (.ref ny2) (.int (2 : Int32)) (.double (0 : UInt64)) (.double (0 : UInt64)) (.int (0 : Int32)), oArr Z nb2 idsk .int [.int (nd lo), .int (nd hi)], oArr Z nx2 x1sk .double [.double (FP.i2d mxa1), .double (FP.i2d mxb1)], oArr Z ny2 x1sk .double [.double (FP.i2d mya1), .double (FP.i2d myb1)], oMe Z e1 (.ref lv) (.int (-1 : Int32)) (.long t) (.ref nb1) (.ref nx1) (.ref ny1) (.int (2 : Int32)) (.double (0 : UInt64)) (.double (0 : UInt64)) (.int (0 : Int32)), oArr Z nb1 idsk .int [.int (nd lo), .int (nd hi)], oArr Z nx1 x0sk .double [.double (FP.i2d mxa0), .double (FP.i2d mxb0)], oArr Z ny1 x0sk .double [.double (FP.i2d mya0), .double (FP.i2d myb0)], oArr Z ids idsk .int [.int (nd lo), .int (nd hi)], oArr Z x1s x1sk .double [.double (FP.i2d mxa1), .double (FP.i2d mxb1)], oArr Z y1s x1sk .double [.double (FP.i2d mya1), .double (FP.i2d myb1)], oArr Z x0s x0sk .double [.double (FP.i2d mxa0), .double (FP.i2d mxb0)], oArr Z y0s x0sk .double [.double (FP.i2d mya0), .double (FP.i2d myb0)]]) rfl rfl 0 rfl (by decide) (by decide) (cells' := 25) rfl (slots' := 552) rfl (by decide) (by decide) fun T vV K' N qQ => ?_
  obtain ⟨gxA, gyA, r1A, r2A, r3A, r4A, hdxA, hdyA, rfl, rfl⟩ := qQ
  refine k_aload (pc := 217) N at_217 rfl rfl ?_
  replace N := ONow.sel (F := [oVt Z vt (.ref pa) (.ref xv) (.ref yv) (.long (t + (1000000 : Int64))), oArr Z pa kpa (.object "com/example/tapflow/tapflow/VelocityTracker$Positions") (vA 32 (upd (upd zn lo (.ref p0)) hi (.ref p1))), oArr Z xv kxv .double (dA 32 gxA), oArr Z yv kyv .double (dA 32 gyA), oPo Z p0 (.ref ta0) (.ref xa0) (.ref ya0) (.int (2 : Int32)) (.int (2 : Int32)) (.double r1A) (.double r2A), oArr Z ta0 kt0 .long (lA 64 (upd (upd zl 0 t) 1 (t + (1000000 : Int64)))), oArr Z xa0 kxa0 .double (dA 64 (upd (upd zd 0 (FP.i2d mxa0)) 1 (FP.i2d mxa1))), oArr Z ya0 kya0 .double (dA 64 (upd (upd zd 0 (FP.i2d mya0)) 1 (FP.i2d mya1))), oPo Z p1 (.ref ta1) (.ref xa1) (.ref ya1) (.int (2 : Int32)) (.int (2 : Int32)) (.double r3A) (.double r4A), oArr Z ta1 kt1 .long (lA 64 (upd (upd zl 0 t) 1 (t + (1000000 : Int64)))), oArr Z xa1 kxa1 .double (dA 64 (upd (upd zd 0 (FP.i2d mxb0)) 1 (FP.i2d mxb1))), oArr Z ya1 kya1 .double (dA 64 (upd (upd zd 0 (FP.i2d myb0)) 1 (FP.i2d myb1))), oMe Z e2 (.ref lv) (.int (-1 : Int32)) (.long (t + (1000000 : Int64))) (.ref nb2) (.ref nx2) (.ref ny2) (.int (2 : Int32)) (.double (0 : UInt64)) (.double (0 : UInt64)) (.int (0 : Int32)), oArr Z nb2 idsk .int [.int (nd lo), .int (nd hi)], oArr Z nx2 x1sk .double [.double (FP.i2d mxa1), .double (FP.i2d mxb1)], oArr Z ny2 x1sk .double [.double (FP.i2d mya1), .double (FP.i2d myb1)], oMe Z e1 (.ref lv) (.int (-1 : Int32)) (.long t) (.ref nb1) (.ref nx1) (.ref ny1) (.int (2 : Int32)) (.double (0 : UInt64)) (.double (0 : UInt64)) (.int (0 : Int32)), oArr Z nb1 idsk .int [.int (nd lo), .int (nd hi)], oArr Z nx1 x0sk .double [.double (FP.i2d mxa0), .double (FP.i2d mxb0)], oArr Z ny1 x0sk .double [.double (FP.i2d mya0), .double (FP.i2d myb0)], oArr Z ids idsk .int [.int (nd lo), .int (nd hi)], oArr Z x1s x1sk .double [.double (FP.i2d mxa1), .double (FP.i2d mxb1)], oArr Z y1s x1sk .double [.double (FP.i2d mya1), .double (FP.i2d myb1)], oArr Z x0s x0sk .double [.double (FP.i2d mxa0), .double (FP.i2d mxb0)], oArr Z y0s x0sk .double [.double (FP.i2d mya0), .double (FP.i2d myb0)]]) (F' := [oVt Z vt (.ref pa) (.ref xv) (.ref yv) (.long (t + (1000000 : Int64))), oArr Z pa kpa (.object "com/example/tapflow/tapflow/VelocityTracker$Positions") (vA 32 (upd (upd zn lo (.ref p0)) hi (.ref p1))), oPo Z p0 (.ref ta0) (.ref xa0) (.ref ya0) (.int (2 : Int32)) (.int (2 : Int32)) (.double r1A) (.double r2A), oPo Z p1 (.ref ta1) (.ref xa1) (.ref ya1) (.int (2 : Int32)) (.int (2 : Int32)) (.double r3A) (.double r4A), oArr Z xv kxv .double (dA 32 gxA), oArr Z yv kyv .double (dA 32 gyA), oArr Z ta0 kt0 .long (lA 64 (upd (upd zl 0 t) 1 (t + (1000000 : Int64)))), oArr Z xa0 kxa0 .double (dA 64 (upd (upd zd 0 (FP.i2d mxa0)) 1 (FP.i2d mxa1))), oArr Z ya0 kya0 .double (dA 64 (upd (upd zd 0 (FP.i2d mya0)) 1 (FP.i2d mya1))), oArr Z ta1 kt1 .long (lA 64 (upd (upd zl 0 t) 1 (t + (1000000 : Int64)))), oArr Z xa1 kxa1 .double (dA 64 (upd (upd zd 0 (FP.i2d mxb0)) 1 (FP.i2d mxb1))), oArr Z ya1 kya1 .double (dA 64 (upd (upd zd 0 (FP.i2d myb0)) 1 (FP.i2d myb1))), oMe Z e2 (.ref lv) (.int (-1 : Int32)) (.long (t + (1000000 : Int64))) (.ref nb2) (.ref nx2) (.ref ny2) (.int (2 : Int32)) (.double (0 : UInt64)) (.double (0 : UInt64)) (.int (0 : Int32)), oArr Z nb2 idsk .int [.int (nd lo), .int (nd hi)], oArr Z nx2 x1sk .double [.double (FP.i2d mxa1), .double (FP.i2d mxb1)], oArr Z ny2 x1sk .double [.double (FP.i2d mya1), .double (FP.i2d myb1)], oMe Z e1 (.ref lv) (.int (-1 : Int32)) (.long t) (.ref nb1) (.ref nx1) (.ref ny1) (.int (2 : Int32)) (.double (0 : UInt64)) (.double (0 : UInt64)) (.int (0 : Int32)), oArr Z nb1 idsk .int [.int (nd lo), .int (nd hi)], oArr Z nx1 x0sk .double [.double (FP.i2d mxa0), .double (FP.i2d mxb0)], oArr Z ny1 x0sk .double [.double (FP.i2d mya0), .double (FP.i2d myb0)], oArr Z ids idsk .int [.int (nd lo), .int (nd hi)], oArr Z x1s x1sk .double [.double (FP.i2d mxa1), .double (FP.i2d mxb1)], oArr Z y1s x1sk .double [.double (FP.i2d mya1), .double (FP.i2d myb1)], oArr Z x0s x0sk .double [.double (FP.i2d mxa0), .double (FP.i2d mxb0)], oArr Z y0s x0sk .double [.double (FP.i2d mya0), .double (FP.i2d myb0)]]) (rest := []) N [0, 1, 4, 8, 2, 3, 5, 6, 7, 9, 10, 11, 12, 13, 14, 15, 16, 17, 18, 19, 20, 21, 22, 23, 24] (by decide) rfl
  simp only [List.append_nil] at N
  refine k_virtual (pc := 219) N (y := (⟨"com/example/tapflow/tapflow/VelocityTracker", "clear", "()V"⟩ : MethodName)) (z := (⟨"com/example/tapflow/tapflow/VelocityTracker", "clear", "()V"⟩ : MethodName)) (rest := []) [] (a := vt) at_219 (fun h N => N.exa (i := 0) rfl) (hw _ (List.mem_of_getElem? (i := 211) rfl)) (hw _ (List.mem_of_getElem? (i := 212) rfl)) (nf_self (hw _ (List.mem_of_getElem? (i := 214) rfl))) (hw _ (List.mem_of_getElem? (i := 214) rfl)) (hw _ (List.mem_of_getElem? (i := 213) rfl)) (hw _ (List.mem_of_getElem? (i := 4) rfl)) (hw _ (List.mem_of_getElem? (i := 215) rfl)) (by decide) pd___V rfl (c_clear l Z a0 hw vt pa xv yv kpa ov (t + (1000000 : Int64)) (upd (upd zn lo (.ref p0)) hi (.ref p1)) lo hi hlo hhi hne p0 ta0 xa0 ya0 p1 ta1 xa1 ya1 (2 : Int32) (2 : Int32) (2 : Int32) (2 : Int32) r1A r2A r3A r4A ((upd_ne _ _ (Ne.symm hne)).trans (upd_here _ _ _)) (upd_here _ _ _) (fun j a b => (upd_ne _ _ b).trans (upd_ne _ _ a)) [oArr Z xv kxv .double (dA 32 gxA), oArr Z yv kyv .double (dA 32 gyA), oArr Z ta0 kt0 .long (lA 64 (upd (upd zl 0 t) 1 (t + (1000000 : Int64)))), oArr Z xa0 kxa0 .double (dA 64 (upd (upd zd 0 (FP.i2d mxa0)) 1 (FP.i2d mxa1))), oArr Z ya0 kya0 .double (dA 64 (upd (upd zd 0 (FP.i2d mya0)) 1 (FP.i2d mya1))), oArr Z ta1 kt1 .long (lA 64 (upd (upd zl 0 t) 1 (t + (1000000 : Int64)))), oArr Z xa1 kxa1 .double (dA 64 (upd (upd zd 0 (FP.i2d mxb0)) 1 (FP.i2d mxb1))), oArr Z ya1 kya1 .double (dA 64 (upd (upd zd 0 (FP.i2d myb0)) 1 (FP.i2d myb1))), oMe Z e2 (.ref lv) (.int (-1 : Int32)) (.long (t + (1000000 : Int64))) (.ref nb2) (.ref nx2) (.ref ny2) (.int (2 : Int32)) (.double (0 : UInt64)) (.double (0 : UInt64)) (.int (0 : Int32)), oArr Z nb2 idsk .int [.int (nd lo), .int (nd hi)], oArr Z nx2 x1sk .double [.double (FP.i2d mxa1), .double (FP.i2d mxb1)], oArr Z ny2 x1sk .double [.double (FP.i2d mya1), .double (FP.i2d myb1)], oMe Z e1 (.ref lv) (.int (-1 : Int32)) (.long t) (.ref nb1) (.ref nx1) (.ref ny1) (.int (2 : Int32)) (.double (0 : UInt64)) (.double (0 : UInt64)) (.int (0 : Int32)), oArr Z nb1 idsk .int [.int (nd lo), .int (nd hi)], oArr Z nx1 x0sk .double [.double (FP.i2d mxa0), .double (FP.i2d mxb0)], oArr Z ny1 x0sk .double [.double (FP.i2d mya0), .double (FP.i2d myb0)], oArr Z ids idsk .int [.int (nd lo), .int (nd hi)], oArr Z x1s x1sk .double [.double (FP.i2d mxa1), .double (FP.i2d mxb1)], oArr Z y1s x1sk .double [.double (FP.i2d mya1), .double (FP.i2d myb1)], oArr Z x0s x0sk .double [.double (FP.i2d mxa0), .double (FP.i2d mxb0)], oArr Z y0s x0sk .double [.double (FP.i2d mya0), .double (FP.i2d myb0)]]) rfl rfl 0 rfl (by decide) (by decide) (cells' := 25) rfl (slots' := 552) rfl (by decide) (by decide) fun T vV K' N qQ => ?_
  obtain ⟨rfl, rfl⟩ := qQ
  refine k_aload (pc := 222) N at_222 rfl rfl ?_
  refine k_iload (pc := 224) N at_224 rfl ?_
  replace N := ONow.sel (F := [oVt Z vt (.ref pa) (.ref xv) (.ref yv) (.long (t + (1000000 : Int64))), oArr Z pa kpa (.object "com/example/tapflow/tapflow/VelocityTracker$Positions") (vA 32 (upd (upd zn lo (.ref p0)) hi (.ref p1))), oPo Z p0 (.ref ta0) (.ref xa0) (.ref ya0) (.int (0 : Int32)) (.int (2 : Int32)) (.double r1A) (.double r2A), oPo Z p1 (.ref ta1) (.ref xa1) (.ref ya1) (.int (0 : Int32)) (.int (2 : Int32)) (.double r3A) (.double r4A), oArr Z xv kxv .double (dA 32 gxA), oArr Z yv kyv .double (dA 32 gyA), oArr Z ta0 kt0 .long (lA 64 (upd (upd zl 0 t) 1 (t + (1000000 : Int64)))), oArr Z xa0 kxa0 .double (dA 64 (upd (upd zd 0 (FP.i2d mxa0)) 1 (FP.i2d mxa1))), oArr Z ya0 kya0 .double (dA 64 (upd (upd zd 0 (FP.i2d mya0)) 1 (FP.i2d mya1))), oArr Z ta1 kt1 .long (lA 64 (upd (upd zl 0 t) 1 (t + (1000000 : Int64)))), oArr Z xa1 kxa1 .double (dA 64 (upd (upd zd 0 (FP.i2d mxb0)) 1 (FP.i2d mxb1))), oArr Z ya1 kya1 .double (dA 64 (upd (upd zd 0 (FP.i2d myb0)) 1 (FP.i2d myb1))), oMe Z e2 (.ref lv) (.int (-1 : Int32)) (.long (t + (1000000 : Int64))) (.ref nb2) (.ref nx2) (.ref ny2) (.int (2 : Int32)) (.double (0 : UInt64)) (.double (0 : UInt64)) (.int (0 : Int32)), oArr Z nb2 idsk .int [.int (nd lo), .int (nd hi)], oArr Z nx2 x1sk .double [.double (FP.i2d mxa1), .double (FP.i2d mxb1)], oArr Z ny2 x1sk .double [.double (FP.i2d mya1), .double (FP.i2d myb1)], oMe Z e1 (.ref lv) (.int (-1 : Int32)) (.long t) (.ref nb1) (.ref nx1) (.ref ny1) (.int (2 : Int32)) (.double (0 : UInt64)) (.double (0 : UInt64)) (.int (0 : Int32)), oArr Z nb1 idsk .int [.int (nd lo), .int (nd hi)], oArr Z nx1 x0sk .double [.double (FP.i2d mxa0), .double (FP.i2d mxb0)], oArr Z ny1 x0sk .double [.double (FP.i2d mya0), .double (FP.i2d myb0)], oArr Z ids idsk .int [.int (nd lo), .int (nd hi)], oArr Z x1s x1sk .double [.double (FP.i2d mxa1), .double (FP.i2d mxb1)], oArr Z y1s x1sk .double [.double (FP.i2d mya1), .double (FP.i2d myb1)], oArr Z x0s x0sk .double [.double (FP.i2d mxa0), .double (FP.i2d mxb0)], oArr Z y0s x0sk .double [.double (FP.i2d mya0), .double (FP.i2d myb0)]]) (F' := [oVt Z vt (.ref pa) (.ref xv) (.ref yv) (.long (t + (1000000 : Int64))), oArr Z xv kxv .double (dA 32 gxA), oArr Z pa kpa (.object "com/example/tapflow/tapflow/VelocityTracker$Positions") (vA 32 (upd (upd zn lo (.ref p0)) hi (.ref p1))), oPo Z p0 (.ref ta0) (.ref xa0) (.ref ya0) (.int (0 : Int32)) (.int (2 : Int32)) (.double r1A) (.double r2A), oPo Z p1 (.ref ta1) (.ref xa1) (.ref ya1) (.int (0 : Int32)) (.int (2 : Int32)) (.double r3A) (.double r4A), oArr Z yv kyv .double (dA 32 gyA), oArr Z ta0 kt0 .long (lA 64 (upd (upd zl 0 t) 1 (t + (1000000 : Int64)))), oArr Z xa0 kxa0 .double (dA 64 (upd (upd zd 0 (FP.i2d mxa0)) 1 (FP.i2d mxa1))), oArr Z ya0 kya0 .double (dA 64 (upd (upd zd 0 (FP.i2d mya0)) 1 (FP.i2d mya1))), oArr Z ta1 kt1 .long (lA 64 (upd (upd zl 0 t) 1 (t + (1000000 : Int64)))), oArr Z xa1 kxa1 .double (dA 64 (upd (upd zd 0 (FP.i2d mxb0)) 1 (FP.i2d mxb1))), oArr Z ya1 kya1 .double (dA 64 (upd (upd zd 0 (FP.i2d myb0)) 1 (FP.i2d myb1))), oMe Z e2 (.ref lv) (.int (-1 : Int32)) (.long (t + (1000000 : Int64))) (.ref nb2) (.ref nx2) (.ref ny2) (.int (2 : Int32)) (.double (0 : UInt64)) (.double (0 : UInt64)) (.int (0 : Int32)), oArr Z nb2 idsk .int [.int (nd lo), .int (nd hi)], oArr Z nx2 x1sk .double [.double (FP.i2d mxa1), .double (FP.i2d mxb1)], oArr Z ny2 x1sk .double [.double (FP.i2d mya1), .double (FP.i2d myb1)], oMe Z e1 (.ref lv) (.int (-1 : Int32)) (.long t) (.ref nb1) (.ref nx1) (.ref ny1) (.int (2 : Int32)) (.double (0 : UInt64)) (.double (0 : UInt64)) (.int (0 : Int32)), oArr Z nb1 idsk .int [.int (nd lo), .int (nd hi)], oArr Z nx1 x0sk .double [.double (FP.i2d mxa0), .double (FP.i2d mxb0)], oArr Z ny1 x0sk .double [.double (FP.i2d mya0), .double (FP.i2d myb0)], oArr Z ids idsk .int [.int (nd lo), .int (nd hi)], oArr Z x1s x1sk .double [.double (FP.i2d mxa1), .double (FP.i2d mxb1)], oArr Z y1s x1sk .double [.double (FP.i2d mya1), .double (FP.i2d myb1)], oArr Z x0s x0sk .double [.double (FP.i2d mxa0), .double (FP.i2d mxb0)], oArr Z y0s x0sk .double [.double (FP.i2d mya0), .double (FP.i2d myb0)]]) (rest := []) N [0, 4, 1, 2, 3, 5, 6, 7, 8, 9, 10, 11, 12, 13, 14, 15, 16, 17, 18, 19, 20, 21, 22, 23, 24] (by decide) rfl
  simp only [List.append_nil] at N
  refine k_virtual (pc := 226) N (y := (⟨"com/example/tapflow/tapflow/VelocityTracker", "getXVelocity", "(I)D"⟩ : MethodName)) (z := (⟨"com/example/tapflow/tapflow/VelocityTracker", "getXVelocity", "(I)D"⟩ : MethodName)) (rest := []) [.int (nd lo)] (a := vt) at_226 (fun h N => N.exa (i := 0) rfl) (hw _ (List.mem_of_getElem? (i := 216) rfl)) (hw _ (List.mem_of_getElem? (i := 217) rfl)) (nf_self (hw _ (List.mem_of_getElem? (i := 219) rfl))) (hw _ (List.mem_of_getElem? (i := 219) rfl)) (hw _ (List.mem_of_getElem? (i := 218) rfl)) (hw _ (List.mem_of_getElem? (i := 4) rfl)) (hw _ (List.mem_of_getElem? (i := 220) rfl)) (by decide) pd__I_D rfl (c_vX l Z a0 hw vt pa xv yv (t + (1000000 : Int64)) kxv gxA lo hlo [oArr Z pa kpa (.object "com/example/tapflow/tapflow/VelocityTracker$Positions") (vA 32 (upd (upd zn lo (.ref p0)) hi (.ref p1))), oPo Z p0 (.ref ta0) (.ref xa0) (.ref ya0) (.int (0 : Int32)) (.int (2 : Int32)) (.double r1A) (.double r2A), oPo Z p1 (.ref ta1) (.ref xa1) (.ref ya1) (.int (0 : Int32)) (.int (2 : Int32)) (.double r3A) (.double r4A), oArr Z yv kyv .double (dA 32 gyA), oArr Z ta0 kt0 .long (lA 64 (upd (upd zl 0 t) 1 (t + (1000000 : Int64)))), oArr Z xa0 kxa0 .double (dA 64 (upd (upd zd 0 (FP.i2d mxa0)) 1 (FP.i2d mxa1))), oArr Z ya0 kya0 .double (dA 64 (upd (upd zd 0 (FP.i2d mya0)) 1 (FP.i2d mya1))), oArr Z ta1 kt1 .long (lA 64 (upd (upd zl 0 t) 1 (t + (1000000 : Int64)))), oArr Z xa1 kxa1 .double (dA 64 (upd (upd zd 0 (FP.i2d mxb0)) 1 (FP.i2d mxb1))), oArr Z ya1 kya1 .double (dA 64 (upd (upd zd 0 (FP.i2d myb0)) 1 (FP.i2d myb1))), oMe Z e2 (.ref lv) (.int (-1 : Int32)) (.long (t + (1000000 : Int64))) (.ref nb2) (.ref nx2) (.ref ny2) (.int (2 : Int32)) (.double (0 : UInt64)) (.double (0 : UInt64)) (.int (0 : Int32)), oArr Z nb2 idsk .int [.int (nd lo), .int (nd hi)], oArr Z nx2 x1sk .double [.double (FP.i2d mxa1), .double (FP.i2d mxb1)], oArr Z ny2 x1sk .double [.double (FP.i2d mya1), .double (FP.i2d myb1)], oMe Z e1 (.ref lv) (.int (-1 : Int32)) (.long t) (.ref nb1) (.ref nx1) (.ref ny1) (.int (2 : Int32)) (.double (0 : UInt64)) (.double (0 : UInt64)) (.int (0 : Int32)), oArr Z nb1 idsk .int [.int (nd lo), .int (nd hi)], oArr Z nx1 x0sk .double [.double (FP.i2d mxa0), .double (FP.i2d mxb0)], oArr Z ny1 x0sk .double [.double (FP.i2d mya0), .double (FP.i2d myb0)], oArr Z ids idsk .int [.int (nd lo), .int (nd hi)], oArr Z x1s x1sk .double [.double (FP.i2d mxa1), .double (FP.i2d mxb1)], oArr Z y1s x1sk .double [.double (FP.i2d mya1), .double (FP.i2d myb1)], oArr Z x0s x0sk .double [.double (FP.i2d mxa0), .double (FP.i2d mxb0)], oArr Z y0s x0sk .double [.double (FP.i2d mya0), .double (FP.i2d myb0)]]) rfl rfl 0 rfl (by decide) (by decide) (cells' := 25) rfl (slots' := 552) rfl (by decide) (by decide) fun T vV K' N qQ => ?_
  obtain ⟨rfl, rfl⟩ := qQ
  refine k_dload (pc := 229) N at_229 rfl ?_
  refine k_dload (pc := 231) N at_231 rfl ?_
  refine k_dsub (pc := 233) N at_233 (v := (FP.dsub (FP.i2d mxa1) (FP.i2d mxa0))) (dnn (D_sub (FP.Core.i2d_int mxa1) (FP.Core.i2d_int mxa0) (k := mxa1.toInt - mxa0.toInt) rfl (by omega))) rfl ?_
  refine k_dcmp (pc := 234) N at_234 (v := (0 : Int32)) (cmp_same hdxA (D_sub (FP.Core.i2d_int mxa1) (FP.Core.i2d_int mxa0) (k := mxa1.toInt - mxa0.toInt) rfl (by omega)) _) ?_
  refine k_if_ne (pc := 235) N at_235 (pc' := 258) (by decide) (fun qQ => absurd qQ (fun z => z rfl)) (fun _ => ?_)
  refine k_aload (pc := 238) N at_238 rfl rfl ?_
  refine k_iload (pc := 240) N at_240 rfl ?_
  replace N := ONow.sel (F := [oVt Z vt (.ref pa) (.ref xv) (.ref yv) (.long (t + (1000000 : Int64))), oArr Z xv kxv .double (dA 32 gxA), oArr Z pa kpa (.object "com/example/tapflow/tapflow/VelocityTracker$Positions") (vA 32 (upd (upd zn lo (.ref p0)) hi (.ref p1))), oPo Z p0 (.ref ta0) (.ref xa0) (.ref ya0) (.int (0 : Int32)) (.int (2 : Int32)) (.double r1A) (.double r2A), oPo Z p1 (.ref ta1) (.ref xa1) (.ref ya1) (.int (0 : Int32)) (.int (2 : Int32)) (.double r3A) (.double r4A), oArr Z yv kyv .double (dA 32 gyA), oArr Z ta0 kt0 .long (lA 64 (upd (upd zl 0 t) 1 (t + (1000000 : Int64)))), oArr Z xa0 kxa0 .double (dA 64 (upd (upd zd 0 (FP.i2d mxa0)) 1 (FP.i2d mxa1))), oArr Z ya0 kya0 .double (dA 64 (upd (upd zd 0 (FP.i2d mya0)) 1 (FP.i2d mya1))), oArr Z ta1 kt1 .long (lA 64 (upd (upd zl 0 t) 1 (t + (1000000 : Int64)))), oArr Z xa1 kxa1 .double (dA 64 (upd (upd zd 0 (FP.i2d mxb0)) 1 (FP.i2d mxb1))), oArr Z ya1 kya1 .double (dA 64 (upd (upd zd 0 (FP.i2d myb0)) 1 (FP.i2d myb1))), oMe Z e2 (.ref lv) (.int (-1 : Int32)) (.long (t + (1000000 : Int64))) (.ref nb2) (.ref nx2) (.ref ny2) (.int (2 : Int32)) (.double (0 : UInt64)) (.double (0 : UInt64)) (.int (0 : Int32)), oArr Z nb2 idsk .int [.int (nd lo), .int (nd hi)], oArr Z nx2 x1sk .double [.double (FP.i2d mxa1), .double (FP.i2d mxb1)], oArr Z ny2 x1sk .double [.double (FP.i2d mya1), .double (FP.i2d myb1)], oMe Z e1 (.ref lv) (.int (-1 : Int32)) (.long t) (.ref nb1) (.ref nx1) (.ref ny1) (.int (2 : Int32)) (.double (0 : UInt64)) (.double (0 : UInt64)) (.int (0 : Int32)), oArr Z nb1 idsk .int [.int (nd lo), .int (nd hi)], oArr Z nx1 x0sk .double [.double (FP.i2d mxa0), .double (FP.i2d mxb0)], oArr Z ny1 x0sk .double [.double (FP.i2d mya0), .double (FP.i2d myb0)], oArr Z ids idsk .int [.int (nd lo), .int (nd hi)], oArr Z x1s x1sk .double [.double (FP.i2d mxa1), .double (FP.i2d mxb1)], oArr Z y1s x1sk .double [.double (FP.i2d mya1), .double (FP.i2d myb1)], oArr Z x0s x0sk .double [.double (FP.i2d mxa0), .double (FP.i2d mxb0)], oArr Z y0s x0sk .double [.double (FP.i2d mya0), .double (FP.i2d myb0)]]) (F' := [oVt Z vt (.ref pa) (.ref xv) (.ref yv) (.long (t + (1000000 : Int64))), oArr Z yv kyv .double (dA 32 gyA), oArr Z xv kxv .double (dA 32 gxA), oArr Z pa kpa (.object "com/example/tapflow/tapflow/VelocityTracker$Positions") (vA 32 (upd (upd zn lo (.ref p0)) hi (.ref p1))), oPo Z p0 (.ref ta0) (.ref xa0) (.ref ya0) (.int (0 : Int32)) (.int (2 : Int32)) (.double r1A) (.double r2A), oPo Z p1 (.ref ta1) (.ref xa1) (.ref ya1) (.int (0 : Int32)) (.int (2 : Int32)) (.double r3A) (.double r4A), oArr Z ta0 kt0 .long (lA 64 (upd (upd zl 0 t) 1 (t + (1000000 : Int64)))), oArr Z xa0 kxa0 .double (dA 64 (upd (upd zd 0 (FP.i2d mxa0)) 1 (FP.i2d mxa1))), oArr Z ya0 kya0 .double (dA 64 (upd (upd zd 0 (FP.i2d mya0)) 1 (FP.i2d mya1))), oArr Z ta1 kt1 .long (lA 64 (upd (upd zl 0 t) 1 (t + (1000000 : Int64)))), oArr Z xa1 kxa1 .double (dA 64 (upd (upd zd 0 (FP.i2d mxb0)) 1 (FP.i2d mxb1))), oArr Z ya1 kya1 .double (dA 64 (upd (upd zd 0 (FP.i2d myb0)) 1 (FP.i2d myb1))), oMe Z e2 (.ref lv) (.int (-1 : Int32)) (.long (t + (1000000 : Int64))) (.ref nb2) (.ref nx2) (.ref ny2) (.int (2 : Int32)) (.double (0 : UInt64)) (.double (0 : UInt64)) (.int (0 : Int32)), oArr Z nb2 idsk .int [.int (nd lo), .int (nd hi)], oArr Z nx2 x1sk .double [.double (FP.i2d mxa1), .double (FP.i2d mxb1)], oArr Z ny2 x1sk .double [.double (FP.i2d mya1), .double (FP.i2d myb1)], oMe Z e1 (.ref lv) (.int (-1 : Int32)) (.long t) (.ref nb1) (.ref nx1) (.ref ny1) (.int (2 : Int32)) (.double (0 : UInt64)) (.double (0 : UInt64)) (.int (0 : Int32)), oArr Z nb1 idsk .int [.int (nd lo), .int (nd hi)], oArr Z nx1 x0sk .double [.double (FP.i2d mxa0), .double (FP.i2d mxb0)], oArr Z ny1 x0sk .double [.double (FP.i2d mya0), .double (FP.i2d myb0)], oArr Z ids idsk .int [.int (nd lo), .int (nd hi)], oArr Z x1s x1sk .double [.double (FP.i2d mxa1), .double (FP.i2d mxb1)], oArr Z y1s x1sk .double [.double (FP.i2d mya1), .double (FP.i2d myb1)], oArr Z x0s x0sk .double [.double (FP.i2d mxa0), .double (FP.i2d mxb0)], oArr Z y0s x0sk .double [.double (FP.i2d mya0), .double (FP.i2d myb0)]]) (rest := []) N [0, 5, 1, 2, 3, 4, 6, 7, 8, 9, 10, 11, 12, 13, 14, 15, 16, 17, 18, 19, 20, 21, 22, 23, 24] (by decide) rfl
  simp only [List.append_nil] at N
  refine k_virtual (pc := 242) N (y := (⟨"com/example/tapflow/tapflow/VelocityTracker", "getYVelocity", "(I)D"⟩ : MethodName)) (z := (⟨"com/example/tapflow/tapflow/VelocityTracker", "getYVelocity", "(I)D"⟩ : MethodName)) (rest := []) [.int (nd hi)] (a := vt) at_242 (fun h N => N.exa (i := 0) rfl) (hw _ (List.mem_of_getElem? (i := 222) rfl)) (hw _ (List.mem_of_getElem? (i := 223) rfl)) (nf_self (hw _ (List.mem_of_getElem? (i := 225) rfl))) (hw _ (List.mem_of_getElem? (i := 225) rfl)) (hw _ (List.mem_of_getElem? (i := 224) rfl)) (hw _ (List.mem_of_getElem? (i := 4) rfl)) (hw _ (List.mem_of_getElem? (i := 226) rfl)) (by decide) pd__I_D rfl (c_vY l Z a0 hw vt pa xv yv (t + (1000000 : Int64)) kyv gyA hi hhi [oArr Z xv kxv .double (dA 32 gxA), oArr Z pa kpa (.object "com/example/tapflow/tapflow/VelocityTracker$Positions") (vA 32 (upd (upd zn lo (.ref p0)) hi (.ref p1))), oPo Z p0 (.ref ta0) (.ref xa0) (.ref ya0) (.int (0 : Int32)) (.int (2 : Int32)) (.double r1A) (.double r2A), oPo Z p1 (.ref ta1) (.ref xa1) (.ref ya1) (.int (0 : Int32)) (.int (2 : Int32)) (.double r3A) (.double r4A), oArr Z ta0 kt0 .long (lA 64 (upd (upd zl 0 t) 1 (t + (1000000 : Int64)))), oArr Z xa0 kxa0 .double (dA 64 (upd (upd zd 0 (FP.i2d mxa0)) 1 (FP.i2d mxa1))), oArr Z ya0 kya0 .double (dA 64 (upd (upd zd 0 (FP.i2d mya0)) 1 (FP.i2d mya1))), oArr Z ta1 kt1 .long (lA 64 (upd (upd zl 0 t) 1 (t + (1000000 : Int64)))), oArr Z xa1 kxa1 .double (dA 64 (upd (upd zd 0 (FP.i2d mxb0)) 1 (FP.i2d mxb1))), oArr Z ya1 kya1 .double (dA 64 (upd (upd zd 0 (FP.i2d myb0)) 1 (FP.i2d myb1))), oMe Z e2 (.ref lv) (.int (-1 : Int32)) (.long (t + (1000000 : Int64))) (.ref nb2) (.ref nx2) (.ref ny2) (.int (2 : Int32)) (.double (0 : UInt64)) (.double (0 : UInt64)) (.int (0 : Int32)), oArr Z nb2 idsk .int [.int (nd lo), .int (nd hi)], oArr Z nx2 x1sk .double [.double (FP.i2d mxa1), .double (FP.i2d mxb1)], oArr Z ny2 x1sk .double [.double (FP.i2d mya1), .double (FP.i2d myb1)], oMe Z e1 (.ref lv) (.int (-1 : Int32)) (.long t) (.ref nb1) (.ref nx1) (.ref ny1) (.int (2 : Int32)) (.double (0 : UInt64)) (.double (0 : UInt64)) (.int (0 : Int32)), oArr Z nb1 idsk .int [.int (nd lo), .int (nd hi)], oArr Z nx1 x0sk .double [.double (FP.i2d mxa0), .double (FP.i2d mxb0)], oArr Z ny1 x0sk .double [.double (FP.i2d mya0), .double (FP.i2d myb0)], oArr Z ids idsk .int [.int (nd lo), .int (nd hi)], oArr Z x1s x1sk .double [.double (FP.i2d mxa1), .double (FP.i2d mxb1)], oArr Z y1s x1sk .double [.double (FP.i2d mya1), .double (FP.i2d myb1)], oArr Z x0s x0sk .double [.double (FP.i2d mxa0), .double (FP.i2d mxb0)], oArr Z y0s x0sk .double [.double (FP.i2d mya0), .double (FP.i2d myb0)]]) rfl rfl 0 rfl (by decide) (by decide) (cells' := 25) rfl (slots' := 552) rfl (by decide) (by decide) fun T vV K' N qQ => ?_
  obtain ⟨rfl, rfl⟩ := qQ
  refine k_dload (pc := 245) N at_245 rfl ?_
  refine k_dload (pc := 247) N at_247 rfl ?_
  refine k_dsub (pc := 249) N at_249 (v := (FP.dsub (FP.i2d myb1) (FP.i2d myb0))) (dnn (D_sub (FP.Core.i2d_int myb1) (FP.Core.i2d_int myb0) (k := myb1.toInt - myb0.toInt) rfl (by omega))) rfl ?_
  refine k_dcmp (pc := 250) N at_250 (v := (0 : Int32)) (cmp_same hdyA (D_sub (FP.Core.i2d_int myb1) (FP.Core.i2d_int myb0) (k := myb1.toInt - myb0.toInt) rfl (by omega)) _) ?_
  refine k_if_ne (pc := 251) N at_251 (pc' := 258) (by decide) (fun qQ => absurd qQ (fun z => z rfl)) (fun _ => ?_)
  refine k_iconst (pc := 254) N at_254 (v := (1 : Int32)) (by decide) ?_
  refine k_goto (pc := 255) N at_255 (pc' := 259) (by decide) ?_
  refine k_istore (pc := 259) N at_259 (Ls' := #[.val (.int q0), .val (.long t), .second, .val (.int q2), .val (.int q3), .val (.int q4), .val (.int q5), .val (.int (nd lo)), .val (.int (nd hi)), .val (.ref ids), .val (.double (FP.i2d mxa0)), .second, .val (.double (FP.i2d mxa1)), .second, .val (.double (FP.i2d mxb0)), .second, .val (.double (FP.i2d mxb1)), .second, .val (.double (FP.i2d mya0)), .second, .val (.double (FP.i2d mya1)), .second, .val (.double (FP.i2d myb0)), .second, .val (.double (FP.i2d myb1)), .second, .val (.ref x0s), .val (.ref y0s), .val (.ref x1s), .val (.ref y1s), .val (.ref vt), .val (.ref e1), .val (.ref e2), .val (.int (1 : Int32)), .unset]) rfl ?_
  refine k_aload (pc := 261) N at_261 rfl rfl ?_
  refine k_lload_n (pc := 263) N at_263 rfl ?_
  refine k_ldcJ (pc := 264) N at_264 (hw _ (List.mem_of_getElem? (i := 227) rfl)) ?_
  refine k_ladd (pc := 267) N at_267 ?_
  replace N := ONow.sel (F := [oVt Z vt (.ref pa) (.ref xv) (.ref yv) (.long (t + (1000000 : Int64))), oArr Z yv kyv .double (dA 32 gyA), oArr Z xv kxv .double (dA 32 gxA), oArr Z pa kpa (.object "com/example/tapflow/tapflow/VelocityTracker$Positions") (vA 32 (upd (upd zn lo (.ref p0)) hi (.ref p1))), oPo Z p0 (.ref ta0) (.ref xa0) (.ref ya0) (.int (0 : Int32)) (.int (2 : Int32)) (.double r1A) (.double r2A), oPo Z p1 (.ref ta1) (.ref xa1) (.ref ya1) (.int (0 : Int32)) (.int (2 : Int32)) (.double r3A) (.double r4A), oArr Z ta0 kt0 .long (lA 64 (upd (upd zl 0 t) 1 (t + (1000000 : Int64)))), oArr Z xa0 kxa0 .double (dA 64 (upd (upd zd 0 (FP.i2d mxa0)) 1 (FP.i2d mxa1))), oArr Z ya0 kya0 .double (dA 64 (upd (upd zd 0 (FP.i2d mya0)) 1 (FP.i2d mya1))), oArr Z ta1 kt1 .long (lA 64 (upd (upd zl 0 t) 1 (t + (1000000 : Int64)))), oArr Z xa1 kxa1 .double (dA 64 (upd (upd zd 0 (FP.i2d mxb0)) 1 (FP.i2d mxb1))), oArr Z ya1 kya1 .double (dA 64 (upd (upd zd 0 (FP.i2d myb0)) 1 (FP.i2d myb1))), oMe Z e2 (.ref lv) (.int (-1 : Int32)) (.long (t + (1000000 : Int64))) (.ref nb2) (.ref nx2) (.ref ny2) (.int (2 : Int32)) (.double (0 : UInt64)) (.double (0 : UInt64)) (.int (0 : Int32)), oArr Z nb2 idsk .int [.int (nd lo), .int (nd hi)], oArr Z nx2 x1sk .double [.double (FP.i2d mxa1), .double (FP.i2d mxb1)], oArr Z ny2 x1sk .double [.double (FP.i2d mya1), .double (FP.i2d myb1)], oMe Z e1 (.ref lv) (.int (-1 : Int32)) (.long t) (.ref nb1) (.ref nx1) (.ref ny1) (.int (2 : Int32)) (.double (0 : UInt64)) (.double (0 : UInt64)) (.int (0 : Int32)), oArr Z nb1 idsk .int [.int (nd lo), .int (nd hi)], oArr Z nx1 x0sk .double [.double (FP.i2d mxa0), .double (FP.i2d mxb0)], oArr Z ny1 x0sk .double [.double (FP.i2d mya0), .double (FP.i2d myb0)], oArr Z ids idsk .int [.int (nd lo), .int (nd hi)], oArr Z x1s x1sk .double [.double (FP.i2d mxa1), .double (FP.i2d mxb1)], oArr Z y1s x1sk .double [.double (FP.i2d mya1), .double (FP.i2d myb1)], oArr Z x0s x0sk .double [.double (FP.i2d mxa0), .double (FP.i2d mxb0)], oArr Z y0s x0sk .double [.double (FP.i2d mya0), .double (FP.i2d myb0)]]) (F' := [oMe Z e2 (.ref lv) (.int (-1 : Int32)) (.long (t + (1000000 : Int64))) (.ref nb2) (.ref nx2) (.ref ny2) (.int (2 : Int32)) (.double (0 : UInt64)) (.double (0 : UInt64)) (.int (0 : Int32)), oArr Z nb2 idsk .int [.int (nd lo), .int (nd hi)], oArr Z nx2 x1sk .double [.double (FP.i2d mxa1), .double (FP.i2d mxb1)], oArr Z ny2 x1sk .double [.double (FP.i2d mya1), .double (FP.i2d myb1)], oVt Z vt (.ref pa) (.ref xv) (.ref yv) (.long (t + (1000000 : Int64))), oArr Z yv kyv .double (dA 32 gyA), oArr Z xv kxv .double (dA 32 gxA), oArr Z pa kpa (.object "com/example/tapflow/tapflow/VelocityTracker$Positions") (vA 32 (upd (upd zn lo (.ref p0)) hi (.ref p1))), oPo Z p0 (.ref ta0) (.ref xa0) (.ref ya0) (.int (0 : Int32)) (.int (2 : Int32)) (.double r1A) (.double r2A), oPo Z p1 (.ref ta1) (.ref xa1) (.ref ya1) (.int (0 : Int32)) (.int (2 : Int32)) (.double r3A) (.double r4A), oArr Z ta0 kt0 .long (lA 64 (upd (upd zl 0 t) 1 (t + (1000000 : Int64)))), oArr Z xa0 kxa0 .double (dA 64 (upd (upd zd 0 (FP.i2d mxa0)) 1 (FP.i2d mxa1))), oArr Z ya0 kya0 .double (dA 64 (upd (upd zd 0 (FP.i2d mya0)) 1 (FP.i2d mya1))), oArr Z ta1 kt1 .long (lA 64 (upd (upd zl 0 t) 1 (t + (1000000 : Int64)))), oArr Z xa1 kxa1 .double (dA 64 (upd (upd zd 0 (FP.i2d mxb0)) 1 (FP.i2d mxb1))), oArr Z ya1 kya1 .double (dA 64 (upd (upd zd 0 (FP.i2d myb0)) 1 (FP.i2d myb1))), oMe Z e1 (.ref lv) (.int (-1 : Int32)) (.long t) (.ref nb1) (.ref nx1) (.ref ny1) (.int (2 : Int32)) (.double (0 : UInt64)) (.double (0 : UInt64)) (.int (0 : Int32)), oArr Z nb1 idsk .int [.int (nd lo), .int (nd hi)], oArr Z nx1 x0sk .double [.double (FP.i2d mxa0), .double (FP.i2d mxb0)], oArr Z ny1 x0sk .double [.double (FP.i2d mya0), .double (FP.i2d myb0)], oArr Z ids idsk .int [.int (nd lo), .int (nd hi)], oArr Z x1s x1sk .double [.double (FP.i2d mxa1), .double (FP.i2d mxb1)], oArr Z y1s x1sk .double [.double (FP.i2d mya1), .double (FP.i2d myb1)], oArr Z x0s x0sk .double [.double (FP.i2d mxa0), .double (FP.i2d mxb0)], oArr Z y0s x0sk .double [.double (FP.i2d mya0), .double (FP.i2d myb0)]]) (rest := []) N [12, 13, 14, 15, 0, 1, 2, 3, 4, 5, 6, 7, 8, 9, 10, 11, 16, 17, 18, 19, 20, 21, 22, 23, 24] (by decide) rfl
  simp only [List.append_nil] at N
  refine k_virtual (pc := 268) N (y := (⟨"com/example/tapflow/tapflow/MotionEvent", "setEventTimeNanos", "(J)V"⟩ : MethodName)) (z := (⟨"com/example/tapflow/tapflow/MotionEvent", "setEventTimeNanos", "(J)V"⟩ : MethodName)) (rest := []) [.long (t + (2000000 : Int64))] (a := e2) at_268 (fun h N => N.exa (i := 0) rfl) (hw _ (List.mem_of_getElem? (i := 228) rfl)) (hw _ (List.mem_of_getElem? (i := 229) rfl)) (nf_self (hw _ (List.mem_of_getElem? (i := 231) rfl))) (hw _ (List.mem_of_getElem? (i := 231) rfl)) (hw _ (List.mem_of_getElem? (i := 230) rfl)) (hw _ (List.mem_of_getElem? (i := 21) rfl)) (hw _ (List.mem_of_getElem? (i := 232) rfl)) (by decide) pd__J_V rfl (c_set l Z a0 hw e2 lv nb2 nx2 ny2 (t + (1000000 : Int64)) idsk x1sk x1sk lo hi mxa1 mxb1 mya1 myb1 (t + (2000000 : Int64)) [oVt Z vt (.ref pa) (.ref xv) (.ref yv) (.long (t + (1000000 : Int64))), oArr Z yv kyv .double (dA 32 gyA), oArr Z xv kxv .double (dA 32 gxA), oArr Z pa kpa (.object "com/example/tapflow/tapflow/VelocityTracker$Positions") (vA 32 (upd (upd zn lo (.ref p0)) hi (.ref p1))), oPo Z p0 (.ref ta0) (.ref xa0) (.ref ya0) (.int (0 : Int32)) (.int (2 : Int32)) (.double r1A) (.double r2A), oPo Z p1 (.ref ta1) (.ref xa1) (.ref ya1) (.int (0 : Int32)) (.int (2 : Int32)) (.double r3A) (.double r4A), oArr Z ta0 kt0 .long (lA 64 (upd (upd zl 0 t) 1 (t + (1000000 : Int64)))), oArr Z xa0 kxa0 .double (dA 64 (upd (upd zd 0 (FP.i2d mxa0)) 1 (FP.i2d mxa1))), oArr Z ya0 kya0 .double (dA 64 (upd (upd zd 0 (FP.i2d mya0)) 1 (FP.i2d mya1))), oArr Z ta1 kt1 .long (lA 64 (upd (upd zl 0 t) 1 (t + (1000000 : Int64)))), oArr Z xa1 kxa1 .double (dA 64 (upd (upd zd 0 (FP.i2d mxb0)) 1 (FP.i2d mxb1))), oArr Z ya1 kya1 .double (dA 64 (upd (upd zd 0 (FP.i2d myb0)) 1 (FP.i2d myb1))), oMe Z e1 (.ref lv) (.int (-1 : Int32)) (.long t) (.ref nb1) (.ref nx1) (.ref ny1) (.int (2 : Int32)) (.double (0 : UInt64)) (.double (0 : UInt64)) (.int (0 : Int32)), oArr Z nb1 idsk .int [.int (nd lo), .int (nd hi)], oArr Z nx1 x0sk .double [.double (FP.i2d mxa0), .double (FP.i2d mxb0)], oArr Z ny1 x0sk .double [.double (FP.i2d mya0), .double (FP.i2d myb0)], oArr Z ids idsk .int [.int (nd lo), .int (nd hi)], oArr Z x1s x1sk .double [.double (FP.i2d mxa1), .double (FP.i2d mxb1)], oArr Z y1s x1sk .double [.double (FP.i2d mya1), .double (FP.i2d myb1)], oArr Z x0s x0sk .double [.double (FP.i2d mxa0), .double (FP.i2d mxb0)], oArr Z y0s x0sk .double [.double (FP.i2d mya0), .double (FP.i2d myb0)]]) rfl rfl 0 rfl (by decide) (by decide) (cells' := 25) rfl (slots' := 552) rfl (by decide) (by decide) fun T vV K' N qQ => ?_
  obtain ⟨rfl, rfl⟩ := qQ
  refine k_aload (pc := 271) N at_271 rfl rfl ?_
  refine k_aload (pc := 273) N at_273 rfl rfl ?_
  replace N := ONow.sel (F := [oMe Z e2 (.ref lv) (.int (-1 : Int32)) (.long (t + (2000000 : Int64))) (.ref nb2) (.ref nx2) (.ref ny2) (.int (2 : Int32)) (.double (0 : UInt64)) (.double (0 : UInt64)) (.int (0 : Int32)), oArr Z nb2 idsk .int [.int (nd lo), .int (nd hi)], oArr Z nx2 x1sk .double [.double (FP.i2d mxa1), .double (FP.i2d mxb1)], oArr Z ny2 x1sk .double [.double (FP.i2d mya1), .double (FP.i2d myb1)], oVt Z vt (.ref pa) (.ref xv) (.ref yv) (.long (t + (1000000 : Int64))), oArr Z yv kyv .double (dA 32 gyA), oArr Z xv kxv .double (dA 32 gxA), oArr Z pa kpa (.object "com/example/tapflow/tapflow/VelocityTracker$Positions") (vA 32 (upd (upd zn lo (.ref p0)) hi (.ref p1))), oPo Z p0 (.ref ta0) (.ref xa0) (.ref ya0) (.int (0 : Int32)) (.int (2 : Int32)) (.double r1A) (.double r2A), oPo Z p1 (.ref ta1) (.ref xa1) (.ref ya1) (.int (0 : Int32)) (.int (2 : Int32)) (.double r3A) (.double r4A), oArr Z ta0 kt0 .long (lA 64 (upd (upd zl 0 t) 1 (t + (1000000 : Int64)))), oArr Z xa0 kxa0 .double (dA 64 (upd (upd zd 0 (FP.i2d mxa0)) 1 (FP.i2d mxa1))), oArr Z ya0 kya0 .double (dA 64 (upd (upd zd 0 (FP.i2d mya0)) 1 (FP.i2d mya1))), oArr Z ta1 kt1 .long (lA 64 (upd (upd zl 0 t) 1 (t + (1000000 : Int64)))), oArr Z xa1 kxa1 .double (dA 64 (upd (upd zd 0 (FP.i2d mxb0)) 1 (FP.i2d mxb1))), oArr Z ya1 kya1 .double (dA 64 (upd (upd zd 0 (FP.i2d myb0)) 1 (FP.i2d myb1))), oMe Z e1 (.ref lv) (.int (-1 : Int32)) (.long t) (.ref nb1) (.ref nx1) (.ref ny1) (.int (2 : Int32)) (.double (0 : UInt64)) (.double (0 : UInt64)) (.int (0 : Int32)), oArr Z nb1 idsk .int [.int (nd lo), .int (nd hi)], oArr Z nx1 x0sk .double [.double (FP.i2d mxa0), .double (FP.i2d mxb0)], oArr Z ny1 x0sk .double [.double (FP.i2d mya0), .double (FP.i2d myb0)], oArr Z ids idsk .int [.int (nd lo), .int (nd hi)], oArr Z x1s x1sk .double [.double (FP.i2d mxa1), .double (FP.i2d mxb1)], oArr Z y1s x1sk .double [.double (FP.i2d mya1), .double (FP.i2d myb1)], oArr Z x0s x0sk .double [.double (FP.i2d mxa0), .double (FP.i2d mxb0)], oArr Z y0s x0sk .double [.double (FP.i2d mya0), .double (FP.i2d myb0)]]) (F' := [oVt Z vt (.ref pa) (.ref xv) (.ref yv) (.long (t + (1000000 : Int64))), oArr Z pa kpa (.object "com/example/tapflow/tapflow/VelocityTracker$Positions") (vA 32 (upd (upd zn lo (.ref p0)) hi (.ref p1))), oMe Z e2 (.ref lv) (.int (-1 : Int32)) (.long (t + (2000000 : Int64))) (.ref nb2) (.ref nx2) (.ref ny2) (.int (2 : Int32)) (.double (0 : UInt64)) (.double (0 : UInt64)) (.int (0 : Int32)), oArr Z nb2 idsk .int [.int (nd lo), .int (nd hi)], oArr Z nx2 x1sk .double [.double (FP.i2d mxa1), .double (FP.i2d mxb1)], oArr Z ny2 x1sk .double [.double (FP.i2d mya1), .double (FP.i2d myb1)], oPo Z p0 (.ref ta0) (.ref xa0) (.ref ya0) (.int (0 : Int32)) (.int (2 : Int32)) (.double r1A) (.double r2A), oArr Z ta0 kt0 .long (lA 64 (upd (upd zl 0 t) 1 (t + (1000000 : Int64)))), oArr Z xa0 kxa0 .double (dA 64 (upd (upd zd 0 (FP.i2d mxa0)) 1 (FP.i2d mxa1))), oArr Z ya0 kya0 .double (dA 64 (upd (upd zd 0 (FP.i2d mya0)) 1 (FP.i2d mya1))), oPo Z p1 (.ref ta1) (.ref xa1) (.ref ya1) (.int (0 : Int32)) (.int (2 : Int32)) (.double r3A) (.double r4A), oArr Z ta1 kt1 .long (lA 64 (upd (upd zl 0 t) 1 (t + (1000000 : Int64)))), oArr Z xa1 kxa1 .double (dA 64 (upd (upd zd 0 (FP.i2d mxb0)) 1 (FP.i2d mxb1))), oArr Z ya1 kya1 .double (dA 64 (upd (upd zd 0 (FP.i2d myb0)) 1 (FP.i2d myb1))), oArr Z yv kyv .double (dA 32 gyA), oArr Z xv kxv .double (dA 32 gxA), oMe Z e1 (.ref lv) (.int (-1 : Int32)) (.long t) (.ref nb1) (.ref nx1) (.ref ny1) (.int (2 : Int32)) (.double (0 : UInt64)) (.double (0 : UInt64)) (.int (0 : Int32)), oArr Z nb1 idsk .int [.int (nd lo), .int (nd hi)], oArr Z nx1 x0sk .double [.double (FP.i2d mxa0), .double (FP.i2d mxb0)], oArr Z ny1 x0sk .double [.double (FP.i2d mya0), .double (FP.i2d myb0)], oArr Z ids idsk .int [.int (nd lo), .int (nd hi)], oArr Z x1s x1sk .double [.double (FP.i2d mxa1), .double (FP.i2d mxb1)], oArr Z y1s x1sk .double [.double (FP.i2d mya1), .double (FP.i2d myb1)], oArr Z x0s x0sk .double [.double (FP.i2d mxa0), .double (FP.i2d mxb0)], oArr Z y0s x0sk .double [.double (FP.i2d mya0), .double (FP.i2d myb0)]]) (rest := []) N [4, 7, 0, 1, 2, 3, 8, 10, 11, 12, 9, 13, 14, 15, 5, 6, 16, 17, 18, 19, 20, 21, 22, 23, 24] (by decide) rfl
  simp only [List.append_nil] at N
  refine k_virtual (pc := 275) N (y := (⟨"com/example/tapflow/tapflow/VelocityTracker", "addMovement", "(Lcom/example/tapflow/tapflow/MotionEvent;)V"⟩ : MethodName)) (z := (⟨"com/example/tapflow/tapflow/VelocityTracker", "addMovement", "(Lcom/example/tapflow/tapflow/MotionEvent;)V"⟩ : MethodName)) (rest := []) [.ref e2] (a := vt) at_275 (fun h N => N.exa (i := 0) rfl) (hw _ (List.mem_of_getElem? (i := 84) rfl)) (hw _ (List.mem_of_getElem? (i := 85) rfl)) (nf_self (hw _ (List.mem_of_getElem? (i := 87) rfl))) (hw _ (List.mem_of_getElem? (i := 87) rfl)) (hw _ (List.mem_of_getElem? (i := 86) rfl)) (hw _ (List.mem_of_getElem? (i := 4) rfl)) (hw _ (List.mem_of_getElem? (i := 88) rfl)) (by decide) pd__Lcom_example_tapflow_tapflow_MotionEvent__V rfl (c_am2 l Z a0 hw vt pa xv yv kpa ov (t + (1000000 : Int64)) (upd (upd zn lo (.ref p0)) hi (.ref p1)) e2 lv nb2 nx2 ny2 (t + (2000000 : Int64)) idsk x1sk x1sk lo hi mxa1 mxb1 mya1 myb1 p0 ta0 xa0 ya0 kt0 kxa0 kya0 (upd (upd zl 0 t) 1 (t + (1000000 : Int64))) (upd (upd zd 0 (FP.i2d mxa0)) 1 (FP.i2d mxa1)) (upd (upd zd 0 (FP.i2d mya0)) 1 (FP.i2d mya1)) r1A r2A p1 ta1 xa1 ya1 kt1 kxa1 kya1 (upd (upd zl 0 t) 1 (t + (1000000 : Int64))) (upd (upd zd 0 (FP.i2d mxb0)) 1 (FP.i2d mxb1)) (upd (upd zd 0 (FP.i2d myb0)) 1 (FP.i2d myb1)) r3A r4A hlo hhi hne ((upd_ne _ _ (Ne.symm hne)).trans (upd_here _ _ _)) (upd_here _ _ _) [oArr Z yv kyv .double (dA 32 gyA), oArr Z xv kxv .double (dA 32 gxA), oMe Z e1 (.ref lv) (.int (-1 : Int32)) (.long t) (.ref nb1) (.ref nx1) (.ref ny1) (.int (2 : Int32)) (.double (0 : UInt64)) (.double (0 : UInt64)) (.int (0 : Int32)), oArr Z nb1 idsk .int [.int (nd lo), .int (nd hi)], oArr Z nx1 x0sk .double [.double (FP.i2d mxa0), .double (FP.i2d mxb0)], oArr Z ny1 x0sk .double [.double (FP.i2d mya0), .double (FP.i2d myb0)], oArr Z ids idsk .int [.int (nd lo), .int (nd hi)], oArr Z x1s x1sk .double [.double (FP.i2d mxa1), .double (FP.i2d mxb1)], oArr Z y1s x1sk .double [.double (FP.i2d mya1), .double (FP.i2d myb1)], oArr Z x0s x0sk .double [.double (FP.i2d mxa0), .double (FP.i2d mxb0)], oArr Z y0s x0sk .double [.double (FP.i2d mya0), .double (FP.i2d myb0)]]) rfl rfl 0 rfl (by decide) (by decide) (cells' := 25) rfl (slots' := 552) rfl (by decide) (by decide) fun T vV K' N qQ => ?_
  obtain ⟨rfl, rfl⟩ := qQ
  refine k_aload (pc := 278) N at_278 rfl rfl ?_
  refine k_iconst (pc := 280) N at_280 (v := (1 : Int32)) (by decide) ?_
  replace N := ONow.sel (F := [oVt Z vt (.ref pa) (.ref xv) (.ref yv) (.long (t + (2000000 : Int64))), oArr Z pa kpa (.object "com/example/tapflow/tapflow/VelocityTracker$Positions") (vA 32 (upd (upd zn lo (.ref p0)) hi (.ref p1))), oMe Z e2 (.ref lv) (.int (-1 : Int32)) (.long (t + (2000000 : Int64))) (.ref nb2) (.ref nx2) (.ref ny2) (.int (2 : Int32)) (.double (0 : UInt64)) (.double (0 : UInt64)) (.int (0 : Int32)), oArr Z nb2 idsk .int [.int (nd lo), .int (nd hi)], oArr Z nx2 x1sk .double [.double (FP.i2d mxa1), .double (FP.i2d mxb1)], oArr Z ny2 x1sk .double [.double (FP.i2d mya1), .double (FP.i2d myb1)], oPo Z p0 (.ref ta0) (.ref xa0) (.ref ya0) (.int (1 : Int32)) (.int (3 : Int32)) (.double r1A) (.double r2A), oArr Z ta0 kt0 .long (lA 64 (upd (upd (upd zl 0 t) 1 (t + (1000000 : Int64))) 2 (t + (2000000 : Int64)))), oArr Z xa0 kxa0 .double (dA 64 (upd (upd (upd zd 0 (FP.i2d mxa0)) 1 (FP.i2d mxa1)) 2 (FP.i2d mxa1))), oArr Z ya0 kya0 .double (dA 64 (upd (upd (upd zd 0 (FP.i2d mya0)) 1 (FP.i2d mya1)) 2 (FP.i2d mya1))), oPo Z p1 (.ref ta1) (.ref xa1) (.ref ya1) (.int (1 : Int32)) (.int (3 : Int32)) (.double r3A) (.double r4A), oArr Z ta1 kt1 .long (lA 64 (upd (upd (upd zl 0 t) 1 (t + (1000000 : Int64))) 2 (t + (2000000 : Int64)))), oArr Z xa1 kxa1 .double (dA 64 (upd (upd (upd zd 0 (FP.i2d mxb0)) 1 (FP.i2d mxb1)) 2 (FP.i2d mxb1))), oArr Z ya1 kya1 .double (dA 64 (upd (upd (upd zd 0 (FP.i2d myb0)) 1 (FP.i2d myb1)) 2 (FP.i2d myb1))), oArr Z yv kyv .double (dA 32 gyA), oArr Z xv kxv .double (dA 32 gxA), oMe Z e1 (.ref lv) (.int (-1 : Int32)) (.long t) (.ref nb1) (.ref nx1) (.ref ny1) (.int (2 : Int32)) (.double (0 : UInt64)) (.double (0 : UInt64)) (.int (0 : Int32)), oArr Z nb1 idsk .int [.int (nd lo), .int (nd hi)], oArr Z nx1 x0sk .double [.double (FP.i2d mxa0), .double (FP.i2d mxb0)], oArr Z ny1 x0sk .double [.double (FP.i2d mya0), .double (FP.i2d myb0)], oArr Z ids idsk .int [.int (nd lo), .int (nd hi)], oArr Z x1s x1sk .double [.double (FP.i2d mxa1), .double (FP.i2d mxb1)], oArr Z y1s x1sk .double [.double (FP.i2d mya1), .double (FP.i2d myb1)], oArr Z x0s x0sk .double [.double (FP.i2d mxa0), .double (FP.i2d mxb0)], oArr Z y0s x0sk .double [.double (FP.i2d mya0), .double (FP.i2d myb0)]]) (F' := [oVt Z vt (.ref pa) (.ref xv) (.ref yv) (.long (t + (2000000 : Int64))), oArr Z pa kpa (.object "com/example/tapflow/tapflow/VelocityTracker$Positions") (vA 32 (upd (upd zn lo (.ref p0)) hi (.ref p1))), oArr Z xv kxv .double (dA 32 gxA), oArr Z yv kyv .double (dA 32 gyA), oPo Z p0 (.ref ta0) (.ref xa0) (.ref ya0) (.int (1 : Int32)) (.int (3 : Int32)) (.double r1A) (.double r2A), oArr Z ta0 kt0 .long (lA 64 (upd (upd (upd zl 0 t) 1 (t + (1000000 : Int64))) 2 (t + (2000000 : Int64)))), oArr Z xa0 kxa0 .double (dA 64 (upd (upd (upd zd 0 (FP.i2d mxa0)) 1 (FP.i2d mxa1)) 2 (FP.i2d mxa1))), oArr Z ya0 kya0 .double (dA 64 (upd (upd (upd zd 0 (FP.i2d mya0)) 1 (FP.i2d mya1)) 2 (FP.i2d mya1))), oPo Z p1 (.ref ta1) (.ref xa1) (.ref ya1) (.int (1 : Int32)) (.int (3 : Int32)) (.double r3A) (.double r4A), oArr Z ta1 kt1 .long (lA 64 (upd (upd (upd zl 0 t) 1 (t + (1000000 : Int64))) 2 (t + (2000000 : Int64)))), oArr Z xa1 kxa1 .double (dA 64 (upd (upd (upd zd 0 (FP.i2d mxb0)) 1 (FP.i2d mxb1)) 2 (FP.i2d mxb1))), oArr Z ya1 kya1 .double (dA 64 (upd (upd (upd zd 0 (FP.i2d myb0)) 1 (FP.i2d myb1)) 2 (FP.i2d myb1))), oMe Z e2 (.ref lv) (.int (-1 : Int32)) (.long (t + (2000000 : Int64))) (.ref nb2) (.ref nx2) (.ref ny2) (.int (2 : Int32)) (.double (0 : UInt64)) (.double (0 : UInt64)) (.int (0 : Int32)), oArr Z nb2 idsk .int [.int (nd lo), .int (nd hi)], oArr Z nx2 x1sk .double [.double (FP.i2d mxa1), .double (FP.i2d mxb1)], oArr Z ny2 x1sk .double [.double (FP.i2d mya1), .double (FP.i2d myb1)], oMe Z e1 (.ref lv) (.int (-1 : Int32)) (.long t) (.ref nb1) (.ref nx1) (.ref ny1) (.int (2 : Int32)) (.double (0 : UInt64)) (.double (0 : UInt64)) (.int (0 : Int32)), oArr Z nb1 idsk .int [.int (nd lo), .int (nd hi)], oArr Z nx1 x0sk .double [.double (FP.i2d mxa0), .double (FP.i2d mxb0)], oArr Z ny1 x0sk .double [.double (FP.i2d mya0), .double (FP.i2d myb0)], oArr Z ids idsk .int [.int (nd lo), .int (nd hi)], oArr Z x1s x1sk .double [.double (FP.i2d mxa1), .double (FP.i2d mxb1)], oArr Z y1s x1sk .double [.double (FP.i2d mya1), .double (FP.i2d myb1)], oArr Z x0s x0sk .double [.double (FP.i2d mxa0), .double (FP.i2d mxb0)], oArr Z y0s x0sk .double [.double (FP.i2d mya0), .double (FP.i2d myb0)]]) (rest := []) N [0, 1, 15, 14, 6, 7, 8, 9, 10, 11, 12, 13, 2, 3, 4, 5, 16, 17, 18, 19, 20, 21, 22, 23, 24] (by decide) rfl
  simp only [List.append_nil] at N
  refine k_virtual (pc := 281) N (y := (⟨"com/example/tapflow/tapflow/VelocityTracker", "computeCurrentVelocity", "(I)V"⟩ : MethodName)) (z := (⟨"com/example/tapflow/tapflow/VelocityTracker", "computeCurrentVelocity", "(I)V"⟩ : MethodName)) (rest := []) [.int (1 : Int32)] (a := vt) at_281 (fun h N => N.exa (i := 0) rfl) (hw _ (List.mem_of_getElem? (i := 169) rfl)) (hw _ (List.mem_of_getElem? (i := 170) rfl)) (nf_self (hw _ (List.mem_of_getElem? (i := 172) rfl))) (hw _ (List.mem_of_getElem? (i := 172) rfl)) (hw _ (List.mem_of_getElem? (i := 171) rfl)) (hw _ (List.mem_of_getElem? (i := 4) rfl)) (hw _ (List.mem_of_getElem? (i := 173) rfl)) (by decide) pd__I_V rfl (c_ci1 l Z a0 hw vt pa xv yv kpa ov (t + (2000000 : Int64)) (upd (upd zn lo (.ref p0)) hi (.ref p1)) kxv kyv gxA gyA lo hi hlo hhi hne p0 ta0 xa0 ya0 kt0 kxa0 kya0 (upd (upd (upd zl 0 t) 1 (t + (1000000 : Int64))) 2 (t + (2000000 : Int64))) (upd (upd (upd zd 0 (FP.i2d mxa0)) 1 (FP.i2d mxa1)) 2 (FP.i2d mxa1)) (upd (upd (upd zd 0 (FP.i2d mya0)) 1 (FP.i2d mya1)) 2 (FP.i2d mya1)) r1A r2A p1 ta1 xa1 ya1 kt1 kxa1 kya1 (upd (upd (upd zl 0 t) 1 (t + (1000000 : Int64))) 2 (t + (2000000 : Int64))) (upd (upd (upd zd 0 (FP.i2d mxb0)) 1 (FP.i2d mxb1)) 2 (FP.i2d mxb1)) (upd (upd (upd zd 0 (FP.i2d myb0)) 1 (FP.i2d myb1)) 2 (FP.i2d myb1)) r3A r4A ((upd_ne _ _ (Ne.symm hne)).trans (upd_here _ _ _)) (upd_here _ _ _) (fun j a b => (upd_ne _ _ b).trans (upd_ne _ _ a)) mxa1.toInt mya1.toInt mxb1.toInt myb1.toInt (Int64.sub_self _) (FP.Core.i2d_int mxa1) (FP.Core.i2d_int mya1) b_mxa1 b_mya1 (Int64.sub_self _) (FP.Core.i2d_int mxb1) (FP.Core.i2d_int myb1) b_mxb1 b_myb1 [oMe Z e2 (.ref lv) (.int (-1 : Int32)) (.long (t + (2000000 : Int64))) (.ref nb2) (.ref nx2) (.ref ny2) (.int (2 : Int32)) (.double (0 : UInt64)) (.double (0 : UInt64)) (.int (0 : Int32)), oArr Z nb2 idsk .int [.int (nd lo), .int (nd hi)], oArr Z nx2 x1sk .double [.double (FP.i2d mxa1), .double (FP.i2d mxb1)], oArr Z ny2 x1sk .double [.double (FP.i2d mya1), .double (FP.i2d myb1)], oMe Z e1 (.ref lv) (.int (-1 : Int32)) (.long t) (.ref nb1) (.ref nx1) (.ref ny1) (.int (2 : Int32)) (.double (0 : UInt64)) (.double (0 : UInt64)) (.int (0 : Int32)), oArr Z nb1 idsk .int [.int (nd lo), .int (nd hi)], oArr Z nx1 x0sk .double [.double (FP.i2d mxa0), .double (FP.i2d mxb0)], oArr Z ny1 x0sk .double [.double (FP.i2d mya0), .double (FP.i2d myb0)], oArr Z ids idsk .int [.int (nd lo), .int (nd hi)], oArr Z x1s x1sk .double [.double (FP.i2d mxa1), .double (FP.i2d mxb1)], oArr Z y1s x1sk .double [.double (FP.i2d mya1), .double (FP.i2d myb1)], oArr Z x0s x0sk .double [.double (FP.i2d mxa0), .double (FP.i2d mxb0)], oArr Z y0s x0sk .double [.double (FP.i2d mya0), .double (FP.i2d myb0)]]) rfl rfl 0 rfl (by decide) (by decide) (cells' := 25) rfl (slots' := 552) rfl (by decide) (by decide) fun T vV K' N qQ => ?_
  obtain ⟨gxB, gyB, r1B, r2B, r3B, r4B, hdxB, hdyB, rfl, rfl⟩ := qQ
  refine k_aload (pc := 284) N at_284 rfl rfl ?_
  refine k_iload (pc := 286) N at_286 rfl ?_
  replace N := ONow.sel (F := [oVt Z vt (.ref pa) (.ref xv) (.ref yv) (.long (t + (2000000 : Int64))), oArr Z pa kpa (.object "com/example/tapflow/tapflow/VelocityTracker$Positions") (vA 32 (upd (upd zn lo (.ref p0)) hi (.ref p1))), oArr Z xv kxv .double (dA 32 gxB), oArr Z yv kyv .double (dA 32 gyB), oPo Z p0 (.ref ta0) (.ref xa0) (.ref ya0) (.int (1 : Int32)) (.int (3 : Int32)) (.double r1B) (.double r2B), oArr Z ta0 kt0 .long (lA 64 (upd (upd (upd zl 0 t) 1 (t + (1000000 : Int64))) 2 (t + (2000000 : Int64)))), oArr Z xa0 kxa0 .double (dA 64 (upd (upd (upd zd 0 (FP.i2d mxa0)) 1 (FP.i2d mxa1)) 2 (FP.i2d mxa1))), oArr Z ya0 kya0 .double (dA 64 (upd (upd (upd zd 0 (FP.i2d mya0)) 1 (FP.i2d mya1)) 2 (FP.i2d mya1))), oPo Z p1 (.ref ta1) (.ref xa1) (.ref ya1) (.int (1 : Int32)) (.int (3 : Int32)) (.double r3B) (.double r4B), oArr Z ta1 kt1 .long (lA 64 (upd (upd (upd zl 0 t) 1 (t + (1000000 : Int64))) 2 (t + (2000000 : Int64)))), oArr Z xa1 kxa1 .double (dA 64 (upd (upd (upd zd 0 (FP.i2d mxb0)) 1 (FP.i2d mxb1)) 2 (FP.i2d mxb1))), oArr Z ya1 kya1 .double (dA 64 (upd (upd (upd zd 0 (FP.i2d myb0)) 1 (FP.i2d myb1)) 2 (FP.i2d myb1))), oMe Z e2 (.ref lv) (.int (-1 : Int32)) (.long (t + (2000000 : Int64))) (.ref nb2) (.ref nx2) (.ref ny2) (.int (2 : Int32)) (.double (0 : UInt64)) (.double (0 : UInt64)) (.int (0 : Int32)), oArr Z nb2 idsk .int [.int (nd lo), .int (nd hi)], oArr Z nx2 x1sk .double [.double (FP.i2d mxa1), .double (FP.i2d mxb1)], oArr Z ny2 x1sk .double [.double (FP.i2d mya1), .double (FP.i2d myb1)], oMe Z e1 (.ref lv) (.int (-1 : Int32)) (.long t) (.ref nb1) (.ref nx1) (.ref ny1) (.int (2 : Int32)) (.double (0 : UInt64)) (.double (0 : UInt64)) (.int (0 : Int32)), oArr Z nb1 idsk .int [.int (nd lo), .int (nd hi)], oArr Z nx1 x0sk .double [.double (FP.i2d mxa0), .double (FP.i2d mxb0)], oArr Z ny1 x0sk .double [.double (FP.i2d mya0), .double (FP.i2d myb0)], oArr Z ids idsk .int [.int (nd lo), .int (nd hi)], oArr Z x1s x1sk .double [.double (FP.i2d mxa1), .double (FP.i2d mxb1)], oArr Z y1s x1sk .double [.double (FP.i2d mya1), .double (FP.i2d myb1)], oArr Z x0s x0sk .double [.double (FP.i2d mxa0), .double (FP.i2d mxb0)], oArr Z y0s x0sk .double [.double (FP.i2d mya0), .double (FP.i2d myb0)]]) (F' := [oVt Z vt (.ref pa) (.ref xv) (.ref yv) (.long (t + (2000000 : Int64))), oArr Z xv kxv .double (dA 32 gxB), oArr Z pa kpa (.object "com/example/tapflow/tapflow/VelocityTracker$Positions") (vA 32 (upd (upd zn lo (.ref p0)) hi (.ref p1))), oArr Z yv kyv .double (dA 32 gyB), oPo Z p0 (.ref ta0) (.ref xa0) (.ref ya0) (.int (1 : Int32)) (.int (3 : Int32)) (.double r1B) (.double r2B), oArr Z ta0 kt0 .long (lA 64 (upd (upd (upd zl 0 t) 1 (t + (1000000 : Int64))) 2 (t + (2000000 : Int64)))), oArr Z xa0 kxa0 .double (dA 64 (upd (upd (upd zd 0 (FP.i2d mxa0)) 1 (FP.i2d mxa1)) 2 (FP.i2d mxa1))), oArr Z ya0 kya0 .double (dA 64 (upd (upd (upd zd 0 (FP.i2d mya0)) 1 (FP.i2d mya1)) 2 (FP.i2d mya1))), oPo Z p1 (.ref ta1) (.ref xa1) (.ref ya1) (.int (1 : Int32)) (.int (3 : Int32)) (.double r3B) (.double r4B), oArr Z ta1 kt1 .long (lA 64 (upd (upd (upd zl 0 t) 1 (t + (1000000 : Int64))) 2 (t + (2000000 : Int64)))), oArr Z xa1 kxa1 .double (dA 64 (upd (upd (upd zd 0 (FP.i2d mxb0)) 1 (FP.i2d mxb1)) 2 (FP.i2d mxb1))), oArr Z ya1 kya1 .double (dA 64 (upd (upd (upd zd 0 (FP.i2d myb0)) 1 (FP.i2d myb1)) 2 (FP.i2d myb1))), oMe Z e2 (.ref lv) (.int (-1 : Int32)) (.long (t + (2000000 : Int64))) (.ref nb2) (.ref nx2) (.ref ny2) (.int (2 : Int32)) (.double (0 : UInt64)) (.double (0 : UInt64)) (.int (0 : Int32)), oArr Z nb2 idsk .int [.int (nd lo), .int (nd hi)], oArr Z nx2 x1sk .double [.double (FP.i2d mxa1), .double (FP.i2d mxb1)], oArr Z ny2 x1sk .double [.double (FP.i2d mya1), .double (FP.i2d myb1)], oMe Z e1 (.ref lv) (.int (-1 : Int32)) (.long t) (.ref nb1) (.ref nx1) (.ref ny1) (.int (2 : Int32)) (.double (0 : UInt64)) (.double (0 : UInt64)) (.int (0 : Int32)), oArr Z nb1 idsk .int [.int (nd lo), .int (nd hi)], oArr Z nx1 x0sk .double [.double (FP.i2d mxa0), .double (FP.i2d mxb0)], oArr Z ny1 x0sk .double [.double (FP.i2d mya0), .double (FP.i2d myb0)], oArr Z ids idsk .int [.int (nd lo), .int (nd hi)], oArr Z x1s x1sk .double [.double (FP.i2d mxa1), .double (FP.i2d mxb1)], oArr Z y1s x1sk .double [.double (FP.i2d mya1), .double (FP.i2d myb1)], oArr Z x0s x0sk .double [.double (FP.i2d mxa0), .double (FP.i2d mxb0)], oArr Z y0s x0sk .double [.double (FP.i2d mya0), .double (FP.i2d myb0)]]) (rest := []) N [0, 2, 1, 3, 4, 5, 6, 7, 8, 9, 10, 11, 12, 13, 14, 15, 16, 17, 18, 19, 20, 21, 22, 23, 24] (by decide) rfl
  simp only [List.append_nil] at N
  refine k_virtual (pc := 288) N (y := (⟨"com/example/tapflow/tapflow/VelocityTracker", "getXVelocity", "(I)D"⟩ : MethodName)) (z := (⟨"com/example/tapflow/tapflow/VelocityTracker", "getXVelocity", "(I)D"⟩ : MethodName)) (rest := []) [.int (nd lo)] (a := vt) at_288 (fun h N => N.exa (i := 0) rfl) (hw _ (List.mem_of_getElem? (i := 216) rfl)) (hw _ (List.mem_of_getElem? (i := 217) rfl)) (nf_self (hw _ (List.mem_of_getElem? (i := 219) rfl))) (hw _ (List.mem_of_getElem? (i := 219) rfl)) (hw _ (List.mem_of_getElem? (i := 218) rfl)) (hw _ (List.mem_of_getElem? (i := 4) rfl)) (hw _ (List.mem_of_getElem? (i := 220) rfl)) (by decide) pd__I_D rfl (c_vX l Z a0 hw vt pa xv yv (t + (2000000 : Int64)) kxv gxB lo hlo [oArr Z pa kpa (.object "com/example/tapflow/tapflow/VelocityTracker$Positions") (vA 32 (upd (upd zn lo (.ref p0)) hi (.ref p1))), oArr Z yv kyv .double (dA 32 gyB), oPo Z p0 (.ref ta0) (.ref xa0) (.ref ya0) (.int (1 : Int32)) (.int (3 : Int32)) (.double r1B) (.double r2B), oArr Z ta0 kt0 .long (lA 64 (upd (upd (upd zl 0 t) 1 (t + (1000000 : Int64))) 2 (t + (2000000 : Int64)))), oArr Z xa0 kxa0 .double (dA 64 (upd (upd (upd zd 0 (FP.i2d mxa0)) 1 (FP.i2d mxa1)) 2 (FP.i2d mxa1))), oArr Z ya0 kya0 .double (dA 64 (upd (upd (upd zd 0 (FP.i2d mya0)) 1 (FP.i2d mya1)) 2 (FP.i2d mya1))), oPo Z p1 (.ref ta1) (.ref xa1) (.ref ya1) (.int (1 : Int32)) (.int (3 : Int32)) (.double r3B) (.double r4B), oArr Z ta1 kt1 .long (lA 64 (upd (upd (upd zl 0 t) 1 (t + (1000000 : Int64))) 2 (t + (2000000 : Int64)))), oArr Z xa1 kxa1 .double (dA 64 (upd (upd (upd zd 0 (FP.i2d mxb0)) 1 (FP.i2d mxb1)) 2 (FP.i2d mxb1))), oArr Z ya1 kya1 .double (dA 64 (upd (upd (upd zd 0 (FP.i2d myb0)) 1 (FP.i2d myb1)) 2 (FP.i2d myb1))), oMe Z e2 (.ref lv) (.int (-1 : Int32)) (.long (t + (2000000 : Int64))) (.ref nb2) (.ref nx2) (.ref ny2) (.int (2 : Int32)) (.double (0 : UInt64)) (.double (0 : UInt64)) (.int (0 : Int32)), oArr Z nb2 idsk .int [.int (nd lo), .int (nd hi)], oArr Z nx2 x1sk .double [.double (FP.i2d mxa1), .double (FP.i2d mxb1)], oArr Z ny2 x1sk .double [.double (FP.i2d mya1), .double (FP.i2d myb1)], oMe Z e1 (.ref lv) (.int (-1 : Int32)) (.long t) (.ref nb1) (.ref nx1) (.ref ny1) (.int (2 : Int32)) (.double (0 : UInt64)) (.double (0 : UInt64)) (.int (0 : Int32)), oArr Z nb1 idsk .int [.int (nd lo), .int (nd hi)], oArr Z nx1 x0sk .double [.double (FP.i2d mxa0), .double (FP.i2d mxb0)], oArr Z ny1 x0sk .double [.double (FP.i2d mya0), .double (FP.i2d myb0)], oArr Z ids idsk .int [.int (nd lo), .int (nd hi)], oArr Z x1s x1sk .double [.double (FP.i2d mxa1), .double (FP.i2d mxb1)], oArr Z y1s x1sk .double [.double (FP.i2d mya1), .double (FP.i2d myb1)], oArr Z x0s x0sk .double [.double (FP.i2d mxa0), .double (FP.i2d mxb0)], oArr Z y0s x0sk .double [.double (FP.i2d mya0), .double (FP.i2d myb0)]]) rfl rfl 0 rfl (by decide) (by decide) (cells' := 25) rfl (slots' := 552) rfl (by decide) (by decide) fun T vV K' N qQ => ?_
  obtain ⟨rfl, rfl⟩ := qQ
  refine k_dconst0 (pc := 291) N at_291 (v := (0 : UInt64)) rfl ?_
  refine k_dcmp (pc := 292) N at_292 (v := (0 : Int32)) (cmp_same hdxB di0 _) ?_
  refine k_if_ne (pc := 293) N at_293 (pc' := 312) (by decide) (fun qQ => absurd qQ (fun z => z rfl)) (fun _ => ?_)
  refine k_aload (pc := 296) N at_296 rfl rfl ?_
  refine k_iload (pc := 298) N at_298 rfl ?_
  replace N := ONow.sel (F := [oVt Z vt (.ref pa) (.ref xv) (.ref yv) (.long (t + (2000000 : Int64))), oArr Z xv kxv .double (dA 32 gxB), oArr Z pa kpa (.object "com/example/tapflow/tapflow/VelocityTracker$Positions") (vA 32 (upd (upd zn lo (.ref p0)) hi (.ref p1))), oArr Z yv kyv .double (dA 32 gyB), oPo Z p0 (.ref ta0) (.ref xa0) (.ref ya0) (.int (1 : Int32)) (.int (3 : Int32)) (.double r1B) (.double r2B), oArr Z ta0 kt0 .long (lA 64 (upd (upd (upd zl 0 t) 1 (t + (1000000 : Int64))) 2 (t + (2000000 : Int64)))), oArr Z xa0 kxa0 .double (dA 64 (upd (upd (upd zd 0 (FP.i2d mxa0)) 1 (FP.i2d mxa1)) 2 (FP.i2d mxa1))), oArr Z ya0 kya0 .double (dA 64 (upd (upd (upd zd 0 (FP.i2d mya0)) 1 (FP.i2d mya1)) 2 (FP.i2d mya1))), oPo Z p1 (.ref ta1) (.ref xa1) (.ref ya1) (.int (1 : Int32)) (.int (3 : Int32)) (.double r3B) (.double r4B), oArr Z ta1 kt1 .long (lA 64 (upd (upd (upd zl 0 t) 1 (t + (1000000 : Int64))) 2 (t + (2000000 : Int64)))), oArr Z xa1 kxa1 .double (dA 64 (upd (upd (upd zd 0 (FP.i2d mxb0)) 1 (FP.i2d mxb1)) 2 (FP.i2d mxb1))), oArr Z ya1 kya1 .double (dA 64 (upd (upd (upd zd 0 (FP.i2d myb0)) 1 (FP.i2d myb1)) 2 (FP.i2d myb1))), oMe Z e2 (.ref lv) (.int (-1 : Int32)) (.long (t + (2000000 : Int64))) (.ref nb2) (.ref nx2) (.ref ny2) (.int (2 : Int32)) (.double (0 : UInt64)) (.double (0 : UInt64)) (.int (0 : Int32)), oArr Z nb2 idsk .int [.int (nd lo), .int (nd hi)], oArr Z nx2 x1sk .double [.double (FP.i2d mxa1), .double (FP.i2d mxb1)], oArr Z ny2 x1sk .double [.double (FP.i2d mya1), .double (FP.i2d myb1)], oMe Z e1 (.ref lv) (.int (-1 : Int32)) (.long t) (.ref nb1) (.ref nx1) (.ref ny1) (.int (2 : Int32)) (.double (0 : UInt64)) (.double (0 : UInt64)) (.int (0 : Int32)), oArr Z nb1 idsk .int [.int (nd lo), .int (nd hi)], oArr Z nx1 x0sk .double [.double (FP.i2d mxa0), .double (FP.i2d mxb0)], oArr Z ny1 x0sk .double [.double (FP.i2d mya0), .double (FP.i2d myb0)], oArr Z ids idsk .int [.int (nd lo), .int (nd hi)], oArr Z x1s x1sk .double [.double (FP.i2d mxa1), .double (FP.i2d mxb1)], oArr Z y1s x1sk .double [.double (FP.i2d mya1), .double (FP.i2d myb1)], oArr Z x0s x0sk .double [.double (FP.i2d mxa0), .double (FP.i2d mxb0)], oArr Z y0s x0sk .double [.double (FP.i2d mya0), .double (FP.i2d myb0)]]) (F' := [oVt Z vt (.ref pa) (.ref xv) (.ref yv) (.long (t + (2000000 : Int64))), oArr Z yv kyv .double (dA 32 gyB), oArr Z xv kxv .double (dA 32 gxB), oArr Z pa kpa (.object "com/example/tapflow/tapflow/VelocityTracker$Positions") (vA 32 (upd (upd zn lo (.ref p0)) hi (.ref p1))), oPo Z p0 (.ref ta0) (.ref xa0) (.ref ya0) (.int (1 : Int32)) (.int (3 : Int32)) (.double r1B) (.double r2B), oArr Z ta0 kt0 .long (lA 64 (upd (upd (upd zl 0 t) 1 (t + (1000000 : Int64))) 2 (t + (2000000 : Int64)))), oArr Z xa0 kxa0 .double (dA 64 (upd (upd (upd zd 0 (FP.i2d mxa0)) 1 (FP.i2d mxa1)) 2 (FP.i2d mxa1))), oArr Z ya0 kya0 .double (dA 64 (upd (upd (upd zd 0 (FP.i2d mya0)) 1 (FP.i2d mya1)) 2 (FP.i2d mya1))), oPo Z p1 (.ref ta1) (.ref xa1) (.ref ya1) (.int (1 : Int32)) (.int (3 : Int32)) (.double r3B) (.double r4B), oArr Z ta1 kt1 .long (lA 64 (upd (upd (upd zl 0 t) 1 (t + (1000000 : Int64))) 2 (t + (2000000 : Int64)))), oArr Z xa1 kxa1 .double (dA 64 (upd (upd (upd zd 0 (FP.i2d mxb0)) 1 (FP.i2d mxb1)) 2 (FP.i2d mxb1))), oArr Z ya1 kya1 .double (dA 64 (upd (upd (upd zd 0 (FP.i2d myb0)) 1 (FP.i2d myb1)) 2 (FP.i2d myb1))), oMe Z e2 (.ref lv) (.int (-1 : Int32)) (.long (t + (2000000 : Int64))) (.ref nb2) (.ref nx2) (.ref ny2) (.int (2 : Int32)) (.double (0 : UInt64)) (.double (0 : UInt64)) (.int (0 : Int32)), oArr Z nb2 idsk .int [.int (nd lo), .int (nd hi)], oArr Z nx2 x1sk .double [.double (FP.i2d mxa1), .double (FP.i2d mxb1)], oArr Z ny2 x1sk .double [.double (FP.i2d mya1), .double (FP.i2d myb1)], oMe Z e1 (.ref lv) (.int (-1 : Int32)) (.long t) (.ref nb1) (.ref nx1) (.ref ny1) (.int (2 : Int32)) (.double (0 : UInt64)) (.double (0 : UInt64)) (.int (0 : Int32)), oArr Z nb1 idsk .int [.int (nd lo), .int (nd hi)], oArr Z nx1 x0sk .double [.double (FP.i2d mxa0), .double (FP.i2d mxb0)], oArr Z ny1 x0sk .double [.double (FP.i2d mya0), .double (FP.i2d myb0)], oArr Z ids idsk .int [.int (nd lo), .int (nd hi)], oArr Z x1s x1sk .double [.double (FP.i2d mxa1), .double (FP.i2d mxb1)], oArr Z y1s x1sk .double [.double (FP.i2d mya1), .double (FP.i2d myb1)], oArr Z x0s x0sk .double [.double (FP.i2d mxa0), .double (FP.i2d mxb0)], oArr Z y0s x0sk .double [.double (FP.i2d mya0), .double (FP.i2d myb0)]]) (rest := []) N [0, 3, 1, 2, 4, 5, 6, 7, 8, 9, 10, 11, 12, 13, 14, 15, 16, 17, 18, 19, 20, 21, 22, 23, 24] (by decide) rfl
  simp only [List.append_nil] at N
  refine k_virtual (pc := 300) N (y := (⟨"com/example/tapflow/tapflow/VelocityTracker", "getYVelocity", "(I)D"⟩ : MethodName)) (z := (⟨"com/example/tapflow/tapflow/VelocityTracker", "getYVelocity", "(I)D"⟩ : MethodName)) (rest := []) [.int (nd hi)] (a := vt) at_300 (fun h N => N.exa (i := 0) rfl) (hw _ (List.mem_of_getElem? (i := 222) rfl)) (hw _ (List.mem_of_getElem? (i := 223) rfl)) (nf_self (hw _ (List.mem_of_getElem? (i := 225) rfl))) (hw _ (List.mem_of_getElem? (i := 225) rfl)) (hw _ (List.mem_of_getElem? (i := 224) rfl)) (hw _ (List.mem_of_getElem? (i := 4) rfl)) (hw _ (List.mem_of_getElem? (i := 226) rfl)) (by decide) pd__I_D rfl (c_vY l Z a0 hw vt pa xv yv (t + (2000000 : Int64)) kyv gyB hi hhi [oArr Z xv kxv .double (dA 32 gxB), oArr Z pa kpa (.object "com/example/tapflow/tapflow/VelocityTracker$Positions") (vA 32 (upd (upd zn lo (.ref p0)) hi (.ref p1))), oPo Z p0 (.ref ta0) (.ref xa0) (.ref ya0) (.int (1 : Int32)) (.int (3 : Int32)) (.double r1B) (.double r2B), oArr Z ta0 kt0 .long (lA 64 (upd (upd (upd zl 0 t) 1 (t + (1000000 : Int64))) 2 (t + (2000000 : Int64)))), oArr Z xa0 kxa0 .double (dA 64 (upd (upd (upd zd 0 (FP.i2d mxa0)) 1 (FP.i2d mxa1)) 2 (FP.i2d mxa1))), oArr Z ya0 kya0 .double (dA 64 (upd (upd (upd zd 0 (FP.i2d mya0)) 1 (FP.i2d mya1)) 2 (FP.i2d mya1))), oPo Z p1 (.ref ta1) (.ref xa1) (.ref ya1) (.int (1 : Int32)) (.int (3 : Int32)) (.double r3B) (.double r4B), oArr Z ta1 kt1 .long (lA 64 (upd (upd (upd zl 0 t) 1 (t + (1000000 : Int64))) 2 (t + (2000000 : Int64)))), oArr Z xa1 kxa1 .double (dA 64 (upd (upd (upd zd 0 (FP.i2d mxb0)) 1 (FP.i2d mxb1)) 2 (FP.i2d mxb1))), oArr Z ya1 kya1 .double (dA 64 (upd (upd (upd zd 0 (FP.i2d myb0)) 1 (FP.i2d myb1)) 2 (FP.i2d myb1))), oMe Z e2 (.ref lv) (.int (-1 : Int32)) (.long (t + (2000000 : Int64))) (.ref nb2) (.ref nx2) (.ref ny2) (.int (2 : Int32)) (.double (0 : UInt64)) (.double (0 : UInt64)) (.int (0 : Int32)), oArr Z nb2 idsk .int [.int (nd lo), .int (nd hi)], oArr Z nx2 x1sk .double [.double (FP.i2d mxa1), .double (FP.i2d mxb1)], oArr Z ny2 x1sk .double [.double (FP.i2d mya1), .double (FP.i2d myb1)], oMe Z e1 (.ref lv) (.int (-1 : Int32)) (.long t) (.ref nb1) (.ref nx1) (.ref ny1) (.int (2 : Int32)) (.double (0 : UInt64)) (.double (0 : UInt64)) (.int (0 : Int32)), oArr Z nb1 idsk .int [.int (nd lo), .int (nd hi)], oArr Z nx1 x0sk .double [.double (FP.i2d mxa0), .double (FP.i2d mxb0)], oArr Z ny1 x0sk .double [.double (FP.i2d mya0), .double (FP.i2d myb0)], oArr Z ids idsk .int [.int (nd lo), .int (nd hi)], oArr Z x1s x1sk .double [.double (FP.i2d mxa1), .double (FP.i2d mxb1)], oArr Z y1s x1sk .double [.double (FP.i2d mya1), .double (FP.i2d myb1)], oArr Z x0s x0sk .double [.double (FP.i2d mxa0), .double (FP.i2d mxb0)], oArr Z y0s x0sk .double [.double (FP.i2d mya0), .double (FP.i2d myb0)]]) rfl rfl 0 rfl (by decide) (by decide) (cells' := 25) rfl (slots' := 552) rfl (by decide) (by decide) fun T vV K' N qQ => ?_
  obtain ⟨rfl, rfl⟩ := qQ
  refine k_dconst0 (pc := 303) N at_303 (v := (0 : UInt64)) rfl ?_
  refine k_dcmp (pc := 304) N at_304 (v := (0 : Int32)) (cmp_same hdyB di0 _) ?_
  refine k_if_ne (pc := 305) N at_305 (pc' := 312) (by decide) (fun qQ => absurd qQ (fun z => z rfl)) (fun _ => ?_)
  refine k_iconst (pc := 308) N at_308 (v := (1 : Int32)) (by decide) ?_
  refine k_goto (pc := 309) N at_309 (pc' := 313) (by decide) ?_
  refine k_istore (pc := 313) N at_313 (Ls' := #[.val (.int q0), .val (.long t), .second, .val (.int q2), .val (.int q3), .val (.int q4), .val (.int q5), .val (.int (nd lo)), .val (.int (nd hi)), .val (.ref ids), .val (.double (FP.i2d mxa0)), .second, .val (.double (FP.i2d mxa1)), .second, .val (.double (FP.i2d mxb0)), .second, .val (.double (FP.i2d mxb1)), .second, .val (.double (FP.i2d mya0)), .second, .val (.double (FP.i2d mya1)), .second, .val (.double (FP.i2d myb0)), .second, .val (.double (FP.i2d myb1)), .second, .val (.ref x0s), .val (.ref y0s), .val (.ref x1s), .val (.ref y1s), .val (.ref vt), .val (.ref e1), .val (.ref e2), .val (.int (1 : Int32)), .val (.int (1 : Int32))]) rfl ?_
  refine k_iload (pc := 315) N at_315 rfl ?_
  refine k_if_eq (pc := 317) N at_317 (pc' := 329) (by decide) (fun qQ => absurd qQ (by decide)) (fun _ => ?_)
  refine k_iload (pc := 320) N at_320 rfl ?_
  refine k_if_eq (pc := 322) N at_322 (pc' := 329) (by decide) (fun qQ => absurd qQ (by decide)) (fun _ => ?_)
  refine k_iconst (pc := 325) N at_325 (v := (1 : Int32)) (by decide) ?_
  refine k_goto (pc := 326) N at_326 (pc' := 330) (by decide) ?_
  exact k_zreturn (pc := 330) N at_330 rfl (by decide) (by decide) rfl
set_option maxRecDepth 65536 in
set_option maxHeartbeats 40000000 in
theorem comes_1 {Post : Tables → Env → Array Value → State → Outcome → State → Prop} (hpost : ∀ tb e args s v u, (limb_1_1.after args s (.returned v) u = true ∧ limb_1_2.after args s (.returned v) u = true ∧ True) → FrameEnd s (.returned v) u (Jvm.fieldLocs frame_1_writes args s ++ Jvm.arrayLocs frame_1_arrays args s ++ Jvm.staticLocs frame_1_statics s) 64 1216 → Post tb e args s (.returned v) u) :
    ArmFor flags0 classFile x code maxLocals ret World_1 tables_1 room_1 Calls_1 rest_1 Pre_1 Post := by
  intro l hfl _ _ p e ha hc hk s m args below hf hA hF happ hP
  obtain ⟨hcalls, hrest, hpre⟩ := hP
  obtain ⟨-, -, -, hnamed, -, -, -, hat⟩ := (Spec.applies_iff hf).mp happ
  obtain ⟨hg, hn⟩ := and_e (Cond.before_iff.mp (show (Jvm.Cond.and given_1 narrow_1).before args s = true from hpre))
  obtain ⟨g1, g2⟩ := and_e hg
  obtain ⟨g3, g4⟩ := and_e g2
  obtain ⟨g5, g6⟩ := and_e g4
  obtain ⟨g7, g8⟩ := and_e g6
  obtain ⟨g9, g10⟩ := and_e g8
  obtain ⟨g11, g12⟩ := and_e g10
  obtain ⟨w0, w1, w2, w3, w4, w5, rfl⟩ : ∃ w0 w1 w2 w3 w4 w5 : Value, args = #[w0, w1, w2, w3, w4, w5] := by
    have hs : args.size = 6 := by simpa [Cond.value, given_1] using g1
    obtain ⟨L⟩ := args
    match L, hs with
    | [w0, w1, w2, w3, w4, w5], _ => exact ⟨w0, w1, w2, w3, w4, w5, rfl⟩
  have hw := fun d (hd : d ∈ tables_1) => atoms_spec (ws := Jvm.Cond.code x code maxLocals ret :: tables_1) hat d (List.mem_cons_of_mem _ hd)
  have hfit : Fit s := fun {y c} hc i hi => by
    obtain ⟨ha, rfl⟩ := Array.getElem?_eq_some_iff.mp hc
    have q := List.all_eq_true.mp ((Array.all_eq_true_iff_forall_mem.mp hF) _ (Array.getElem_mem ha)) i (List.mem_range.mpr hi)
    simpa [Array.getElem?_eq_getElem hi] using q
  obtain ⟨i0, ei0⟩ := is_v g3
  obtain rfl : w0 = (.int i0) := Option.some.inj ei0
  obtain ⟨i1, ei1⟩ := isL_v g5
  obtain rfl : w1 = (.long i1) := Option.some.inj ei1
  obtain ⟨i2, ei2⟩ := is_v g7
  obtain rfl : w2 = (.int i2) := Option.some.inj ei2
  obtain ⟨i3, ei3⟩ := is_v g9
  obtain rfl : w3 = (.int i3) := Option.some.inj ei3
  obtain ⟨i4, ei4⟩ := is_v g11
  obtain rfl : w4 = (.int i4) := Option.some.inj ei4
  obtain ⟨i5, ei5⟩ := is_v g12
  obtain rfl : w5 = (.int i5) := Option.some.inj ei5
  obtain ⟨na, hn⟩ := and_e hn
  obtain ⟨nb, hn⟩ := and_e hn
  obtain ⟨nc, hn⟩ := and_e hn
  obtain ⟨nd_, hn⟩ := and_e hn
  obtain ⟨ne, hn⟩ := and_e hn
  obtain ⟨vl, el, fl⟩ := static_fit hfit (args := #[.int i0, .long i1, .int i2, .int i3, .int i4, .int i5]) (hw _ (List.mem_of_getElem? (i := 27) rfl)) (ty := .array .double) (by decide)
  obtain ⟨va, ea, fa⟩ := static_fit hfit (args := #[.int i0, .long i1, .int i2, .int i3, .int i4, .int i5]) (hw _ (List.mem_of_getElem? (i := 76) rfl)) (ty := .array (.object "java/lang/String")) (by decide)
  obtain ⟨lv, rfl⟩ : ∃ lv, vl = .ref lv := by
    rcases ref_cases (fit_R fl rfl) with rfl | ⟨r, rfl⟩
    · simp [Cond.value, el] at na
    · exact ⟨r, rfl⟩
  obtain ⟨an, rfl⟩ : ∃ an, va = .ref an := by
    rcases ref_cases (fit_R fa rfl) with rfl | ⟨r, rfl⟩
    · simp [Cond.value, ea] at nc
    · exact ⟨r, rfl⟩
  have SL := Sta.start el (Or.inr ⟨(hw _ (List.mem_of_getElem? (i := 21) rfl)), (hw _ (List.mem_of_getElem? (i := 27) rfl))⟩)
  have SA := Sta.start ea (Or.inr ⟨(hw _ (List.mem_of_getElem? (i := 21) rfl)), (hw _ (List.mem_of_getElem? (i := 76) rfl))⟩)
  obtain ⟨ac, AA⟩ := Arr.start ea nc
  have q7 := eqv_i (Term.int_eval (7)) nd_
  have w7 : s.arrayAt? an = some ac := AA.fin (Vm.Alike.refl _)
  have A7 : ac.slots.size = 7 := len_at ea w7 q7 7 rfl
  obtain ⟨sn, AE⟩ : ∃ sn, ac.slots[2]? = some (.ref sn) := by
    obtain ⟨sn, -, -, -, h, -⟩ := Cond.exactly_spec (Cond.before_iff.mpr ne)
    exact ⟨sn, elem_at (n := 2) ea w7 h⟩
  obtain ⟨n, o, h1, h2, h3, _, L, rfl, ⟨N, K', -, rfl⟩, hq⟩ := c_law l s _ hw i0 i1 i2 i3 i4 i5 an sn ac SA AA A7 AE lv SL tables_1 s.heap (OKnow.start s) p e ha hc hk s m _ below hf ((Spec.applies_iff_loose hf).mp happ).1 ⟨rfl, State.Warmed39.refl s, rfl⟩ trivial
  refine ⟨n, _, h1, h2, h3, hpost _ _ _ _ _ _ ⟨Cond.after_iff.mpr rfl, Cond.after_iff.mpr (eq_i res_at (Term.int_eval (1)) rfl), trivial⟩ ⟨hq.1, hq.2.1, (hq.2.2.sift fun y hy => Or.inr (N y hy)).mono (by decide) (by decide)⟩⟩
theorem main_1_1 : Claimed_1_1 := comes_1 fun _ _ _ _ _ _ h hF => ⟨h.1, hF⟩
theorem main_1_2 : Claimed_1_2 := comes_1 fun _ _ _ _ _ _ h hF => ⟨h.2.1, hF⟩
end Jvm.Pilot.@@N@@
namespace Jvm.Pilot.@@N@@
open Jvm Jvm.ClassFile Sem Op Lib Jvm.Free Jvm.Stand Jvm.Pilot.@@N@@.Jvm.D
/-! MADE BY PROGRAM (witnessworld.py) out of the Statement's table words and the real class files: 23 classes; the members and pool entries that the words name. The judged class is class 1, her method 1. -/
namespace start1
open Jvm.ClassFile
def u (s : String) : CpInfo := .utf8 (stringToUtf16 s)
/-- a pool by its gaps: so many unusable entries, then the entry; so many at the end -/
def gap : Nat → List CpInfo → List CpInfo
  | 0, r => r
  | n + 1, r => .unusable :: gap n r
def poolList (es : List (Nat × CpInfo)) (last : Nat) : List CpInfo := es.foldr (fun e r => gap e.1 (e.2 :: r)) (gap last [])
def pool (es : List (Nat × CpInfo)) (last : Nat) : Array CpInfo := ⟨poolList es last⟩
def fileOf (pool : Array CpInfo) (this : Nat) (attrs : Array Attribute := #[]) (ms : Array MethodInfo := #[]) (fl : Nat := 33) (sup : Nat := 0) (ifs : Array Nat := #[]) (fds : Array FieldInfo := #[]) : ClassFile where
  minorVersion := 0
  majorVersion := 65
  constantPool := pool
  accessFlags := fl
  thisClass := this
  superClass := sup
  interfaces := ifs
  fields := fds
  methods := ms
  attributes := attrs
def plain (name : String) (sup : Option ClassId) : Class where
  name := name
  kind := .ordinary
  loader := none
  accessFlags := 33
  super := sup
  interfaces := #[]
  cf := none
  fields := #[]
  methods := #[]
  instanceTypes := #[]
  staticTypes := #[]
  resolved := #[]
  callSites := []
  init := .initialized
  statics := none
  mirror := none

def pool0 : Array CpInfo := pool [(5, u "<init>"), (0, u "()V"), (1, .class_ 10), (1, u "java/lang/Object"), (85, u "clone"), (0, u "()Ljava/lang/Object;")] 26

def k0c0 : Code := { maxStack := 0, maxLocals := 1, code := object_method_1_code, exceptionTable := #[], attributes := #[] }
def k0m0 : Method := { name := "<init>", desc := "()V", sig := { parameters := [], returnType := none }, accessFlags := 1, code := some k0c0 }
def k0m1 : Method := { name := "clone", desc := "()Ljava/lang/Object;", sig := { parameters := [], returnType := some (.object "java/lang/Object") }, accessFlags := 260, code := none }
/-- java/lang/Object -/
def k0 : Class := { plain "java/lang/Object" none with
  accessFlags := 33
  interfaces := #[]
  cf := some (fileOf pool0 8 #[] #[{ accessFlags := 1, nameIndex := 5, descriptorIndex := 6, attributes := #[] }, { accessFlags := 260, nameIndex := 96, descriptorIndex := 97, attributes := #[] }] 33 0 #[] #[])
  fields := #[]
  methods := #[k0m0, k0m1]
  instanceTypes := #[]
  staticTypes := #[]
  resolved := Array.replicate 124 none
  statics := none }

def pool1 : Array CpInfo := pool [(2, .class_ 4), (0, .nameAndType 5 6), (0, u "java/lang/Object"), (0, u "<init>"), (0, u "()V"), (0, .class_ 8), (0, u "com/example/tapflow/tapflow/VelocityTracker"), (0, .methodref 7 3), (0, .class_ 11), (0, u "com/example/tapflow/tapflow/MotionEvent"), (0, .methodref 10 13), (0, .nameAndType 5 14), (0, u "(JI[I[D[D)V"), (0, .long 1000000), (1, .methodref 7 18), (0, .nameAndType 19 20), (0, u "addMovement"), (0, u "(Lcom/example/tapflow/tapflow/MotionEvent;)V"), (0, .methodref 7 22), (0, .nameAndType 23 24), (0, u "computeCurrentVelocity"), (0, u "(I)V"), (0, .methodref 7 26), (0, .nameAndType 27 6), (0, u "clear"), (0, .methodref 7 29), (0, .nameAndType 30 31), (0, u "getXVelocity"), (0, u "(I)D"), (0, .methodref 7 33), (0, .nameAndType 34 31), (0, u "getYVelocity"), (0, .long 2000000), (1, .methodref 10 38), (0, .nameAndType 39 40), (0, u "setEventTimeNanos"), (0, u "(J)V"), (0, .class_ 42), (0, u "com/example/tapflow/tapflow/VelocityTrackerClearPinLaw"), (2, u "law"), (0, u "(IJIIII)Z")] 7

def k1m0 : Method := { name := "<init>", desc := "()V", sig := { parameters := [], returnType := none }, accessFlags := 1, code := none }
def k1c1 : Code := { maxStack := 8, maxLocals := 35, code := code, exceptionTable := #[], attributes := #[] }
def k1m1 : Method := { name := "law", desc := "(IJIIII)Z", sig := { parameters := [.int, .long, .int, .int, .int, .int], returnType := some .boolean }, accessFlags := 9, code := some k1c1 }
/-- com/example/tapflow/tapflow/VelocityTrackerClearPinLaw -/
def k1 : Class := { plain "com/example/tapflow/tapflow/VelocityTrackerClearPinLaw" (some 0) with
  accessFlags := 49
  interfaces := #[]
  cf := some (fileOf pool1 41 #[] #[{ accessFlags := 1, nameIndex := 5, descriptorIndex := 6, attributes := #[] }, { accessFlags := 9, nameIndex := 45, descriptorIndex := 46, attributes := #[] }] 49 2 #[] #[])
  fields := #[]
  methods := #[k1m0, k1m1]
  instanceTypes := #[]
  staticTypes := #[]
  resolved := Array.replicate 54 none
  statics := none }

def pool2 : Array CpInfo := pool [(1, .class_ 2), (0, u "com/example/tapflow/tapflow/MotionEvent"), (0, .methodref 4 5), (0, .class_ 6), (0, .nameAndType 7 8), (0, u "java/lang/Object"), (0, u "<init>"), (0, u "()V"), (0, .class_ 10), (0, u "com/example/tapflow/tapflow/VelocityTracker"), (0, .class_ 12), (0, u "com/example/tapflow/tapflow/VelocityTracker$Positions"), (0, .fieldref 9 14), (0, .nameAndType 15 16), (0, u "positions"), (0, u "[Lcom/example/tapflow/tapflow/VelocityTracker$Positions;"), (0, .fieldref 9 18), (0, .nameAndType 19 20), (0, u "xVelocities"), (0, u "[D"), (0, .fieldref 9 22), (0, .nameAndType 23 20), (0, u "yVelocities"), (0, .methodref 1 25), (0, .nameAndType 26 27), (0, u "getActionMasked"), (0, u "()I"), (0, .methodref 9 29), (0, .nameAndType 30 8), (0, u "clear"), (0, .methodref 9 32), (0, .nameAndType 33 34), (0, u "addPositions"), (0, u "(Lcom/example/tapflow/tapflow/MotionEvent;)V"), (3, .methodref 1 39), (0, .nameAndType 40 41), (0, u "getPointerId"), (0, u "(I)I"), (0, .methodref 9 43), (0, .nameAndType 44 45), (0, u "positionsOf"), (0, u "(I)Lcom/example/tapflow/tapflow/VelocityTracker$Positions;"), (0, .fieldref 11 47), (0, .nameAndType 48 49), (0, u "count"), (0, u "I"), (0, .methodref 1 51), (0, .nameAndType 52 53), (0, u "getEventTimeNanos"), (0, u "()J"), (0, .fieldref 9 55), (0, .nameAndType 56 57), (0, u "latestNanos"), (0, u "J"), (2, .double 9218868437227405312), (1, .methodref 9 63), (0, .nameAndType 64 65), (0, u "computeCurrentVelocity"), (0, u "(ID)V"), (12, .methodref 9 79), (0, .nameAndType 80 81), (0, u "fit"), (0, u "(Lcom/example/tapflow/tapflow/VelocityTracker$Positions;)Z"), (0, .fieldref 11 83), (0, .nameAndType 84 85), (0, u "xSlope"), (0, u "D"), (0, .methodref 9 87), (0, .nameAndType 88 89), (0, u "clamp"), (0, u "(DD)D"), (0, .fieldref 11 91), (0, .nameAndType 92 85), (0, u "ySlope"), (0, .methodref 1 94), (0, .nameAndType 95 41), (0, u "checkPointerId"), (0, .methodref 1 97), (0, .nameAndType 98 27), (0, u "getPointerCount"), (0, .methodref 1 100), (0, .nameAndType 101 102), (0, u "getX"), (0, u "(I)D"), (0, .methodref 1 104), (0, .nameAndType 105 102), (0, u "getY"), (0, .methodref 11 107), (0, .nameAndType 108 109), (0, u "add"), (0, u "(JDD)V"), (0, .methodref 11 5), (0, .methodref 11 112), (0, .nameAndType 113 41), (0, u "index"), (0, .fieldref 11 115), (0, .nameAndType 116 117), (0, u "times"), (0, u "[J"), (0, .long 100000000), (1, .double 4696837146684686336), (1, .fieldref 11 123), (0, .nameAndType 124 20), (0, u "xs"), (0, .fieldref 11 126), (0, .nameAndType 127 20), (0, u "ys"), (0, .methodref 129 130), (0, .class_ 131), (0, .nameAndType 132 89), (0, u "java/lang/Math"), (0, u "min"), (0, .methodref 129 134), (0, .nameAndType 135 89), (0, u "max"), (0, u "SPAN_NANOS"), (1, u "CAPACITY"), (1, u "NANOS_PER_MILLI"), (0, u "POINTER_IDS"), (3, u "addMovement"), (2, u "(I)V"), (0, u "getXVelocity"), (0, u "getYVelocity")] 21

def k2c0 : Code := { maxStack := 2, maxLocals := 1, code := prog_15_method_1_code, exceptionTable := #[], attributes := #[] }
def k2m0 : Method := { name := "<init>", desc := "()V", sig := { parameters := [], returnType := none }, accessFlags := 1, code := some k2c0 }
def k2c1 : Code := { maxStack := 3, maxLocals := 2, code := prog_15_method_2_code, exceptionTable := #[], attributes := #[] }
def k2m1 : Method := { name := "addMovement", desc := "(Lcom/example/tapflow/tapflow/MotionEvent;)V", sig := { parameters := [(.object "com/example/tapflow/tapflow/MotionEvent")], returnType := none }, accessFlags := 1, code := some k2c1 }
def k2c2 : Code := { maxStack := 2, maxLocals := 5, code := prog_15_method_3_code, exceptionTable := #[], attributes := #[] }
def k2m2 : Method := { name := "clear", desc := "()V", sig := { parameters := [], returnType := none }, accessFlags := 1, code := some k2c2 }
def k2c3 : Code := { maxStack := 4, maxLocals := 2, code := prog_15_method_4_code, exceptionTable := #[], attributes := #[] }
def k2m3 : Method := { name := "computeCurrentVelocity", desc := "(I)V", sig := { parameters := [.int], returnType := none }, accessFlags := 1, code := some k2c3 }
def k2c4 : Code := { maxStack := 6, maxLocals := 6, code := prog_15_method_5_code, exceptionTable := #[], attributes := #[] }
def k2m4 : Method := { name := "computeCurrentVelocity", desc := "(ID)V", sig := { parameters := [.int, .double], returnType := none }, accessFlags := 1, code := some k2c4 }
def k2c5 : Code := { maxStack := 2, maxLocals := 2, code := prog_15_method_6_code, exceptionTable := #[], attributes := #[] }
def k2m5 : Method := { name := "getXVelocity", desc := "(I)D", sig := { parameters := [.int], returnType := some .double }, accessFlags := 1, code := some k2c5 }
def k2c6 : Code := { maxStack := 2, maxLocals := 2, code := prog_15_method_7_code, exceptionTable := #[], attributes := #[] }
def k2m6 : Method := { name := "getYVelocity", desc := "(I)D", sig := { parameters := [.int], returnType := some .double }, accessFlags := 1, code := some k2c6 }
def k2c7 : Code := { maxStack := 7, maxLocals := 5, code := prog_15_method_8_code, exceptionTable := #[], attributes := #[] }
def k2m7 : Method := { name := "addPositions", desc := "(Lcom/example/tapflow/tapflow/MotionEvent;)V", sig := { parameters := [(.object "com/example/tapflow/tapflow/MotionEvent")], returnType := none }, accessFlags := 2, code := some k2c7 }
def k2c8 : Code := { maxStack := 4, maxLocals := 2, code := prog_15_method_9_code, exceptionTable := #[], attributes := #[] }
def k2m8 : Method := { name := "positionsOf", desc := "(I)Lcom/example/tapflow/tapflow/VelocityTracker$Positions;", sig := { parameters := [.int], returnType := some (.object "com/example/tapflow/tapflow/VelocityTracker$Positions") }, accessFlags := 2, code := some k2c8 }
def k2c9 : Code := { maxStack := 7, maxLocals := 24, code := prog_15_method_10_code, exceptionTable := #[], attributes := #[] }
def k2m9 : Method := { name := "fit", desc := "(Lcom/example/tapflow/tapflow/VelocityTracker$Positions;)Z", sig := { parameters := [(.object "com/example/tapflow/tapflow/VelocityTracker$Positions")], returnType := some .boolean }, accessFlags := 2, code := some k2c9 }
def k2c10 : Code := { maxStack := 6, maxLocals := 4, code := prog_15_method_11_code, exceptionTable := #[], attributes := #[] }
def k2m10 : Method := { name := "clamp", desc := "(DD)D", sig := { parameters := [.double, .double], returnType := some .double }, accessFlags := 10, code := some k2c10 }
/-- com/example/tapflow/tapflow/VelocityTracker -/
def k2 : Class := { plain "com/example/tapflow/tapflow/VelocityTracker" (some 0) with
  accessFlags := 49
  interfaces := #[]
  cf := some (fileOf pool2 9 #[.nestMembers #[11]] #[{ accessFlags := 1, nameIndex := 7, descriptorIndex := 8, attributes := #[] }, { accessFlags := 1, nameIndex := 145, descriptorIndex := 34, attributes := #[] }, { accessFlags := 1, nameIndex := 30, descriptorIndex := 8, attributes := #[] }, { accessFlags := 1, nameIndex := 64, descriptorIndex := 148, attributes := #[] }, { accessFlags := 1, nameIndex := 64, descriptorIndex := 65, attributes := #[] }, { accessFlags := 1, nameIndex := 149, descriptorIndex := 102, attributes := #[] }, { accessFlags := 1, nameIndex := 150, descriptorIndex := 102, attributes := #[] }, { accessFlags := 2, nameIndex := 33, descriptorIndex := 34, attributes := #[] }, { accessFlags := 2, nameIndex := 44, descriptorIndex := 45, attributes := #[] }, { accessFlags := 2, nameIndex := 80, descriptorIndex := 81, attributes := #[] }, { accessFlags := 10, nameIndex := 88, descriptorIndex := 89, attributes := #[] }] 49 4 #[] #[{ accessFlags := 26, nameIndex := 136, descriptorIndex := 57, attributes := #[] }, { accessFlags := 26, nameIndex := 138, descriptorIndex := 49, attributes := #[] }, { accessFlags := 26, nameIndex := 140, descriptorIndex := 85, attributes := #[] }, { accessFlags := 26, nameIndex := 141, descriptorIndex := 49, attributes := #[] }, { accessFlags := 18, nameIndex := 15, descriptorIndex := 16, attributes := #[] }, { accessFlags := 18, nameIndex := 19, descriptorIndex := 20, attributes := #[] }, { accessFlags := 18, nameIndex := 23, descriptorIndex := 20, attributes := #[] }, { accessFlags := 2, nameIndex := 56, descriptorIndex := 57, attributes := #[] }])
  fields := #[{ name := "SPAN_NANOS", type := .long, accessFlags := 26, slot := 0, constantValue := 0 }, { name := "CAPACITY", type := .int, accessFlags := 26, slot := 1, constantValue := 0 }, { name := "NANOS_PER_MILLI", type := .double, accessFlags := 26, slot := 2, constantValue := 0 }, { name := "POINTER_IDS", type := .int, accessFlags := 26, slot := 3, constantValue := 0 }, { name := "positions", type := (.array (.object "com/example/tapflow/tapflow/VelocityTracker$Positions")), accessFlags := 18, slot := 0, constantValue := 0 }, { name := "xVelocities", type := (.array .double), accessFlags := 18, slot := 1, constantValue := 0 }, { name := "yVelocities", type := (.array .double), accessFlags := 18, slot := 2, constantValue := 0 }, { name := "latestNanos", type := .long, accessFlags := 2, slot := 3, constantValue := 0 }]
  methods := #[k2m0, k2m1, k2m2, k2m3, k2m4, k2m5, k2m6, k2m7, k2m8, k2m9, k2m10]
  instanceTypes := #[(.array (.object "com/example/tapflow/tapflow/VelocityTracker$Positions")), (.array .double), (.array .double), .long]
  staticTypes := #[.long, .int, .double, .int]
  resolved := ((((((((Array.replicate 172 none).setIfInBounds 11 (some (.cls 3))).setIfInBounds 46 (some (.field 3 3))).setIfInBounds 82 (some (.field 3 5))).setIfInBounds 90 (some (.field 3 6))).setIfInBounds 110 (some (.method ⟨3, 0⟩))).setIfInBounds 114 (some (.field 3 0))).setIfInBounds 122 (some (.field 3 1))).setIfInBounds 125 (some (.field 3 2))
  statics := none }

def pool3 : Array CpInfo := pool [(1, .class_ 2), (0, u "com/example/tapflow/tapflow/VelocityTracker"), (0, .methodref 4 5), (0, .class_ 6), (0, .nameAndType 7 8), (0, u "java/lang/Object"), (0, u "<init>"), (0, u "()V"), (0, .fieldref 10 11), (0, .class_ 12), (0, .nameAndType 13 14), (0, u "com/example/tapflow/tapflow/VelocityTracker$Positions"), (0, u "times"), (0, u "[J"), (0, .fieldref 10 16), (0, .nameAndType 17 18), (0, u "xs"), (0, u "[D"), (0, .fieldref 10 20), (0, .nameAndType 21 18), (0, u "ys"), (0, .fieldref 10 23), (0, .nameAndType 24 25), (0, u "next"), (0, u "I"), (0, .fieldref 10 27), (0, .nameAndType 28 25), (0, u "count"), (0, .methodref 30 31), (0, .class_ 32), (0, .nameAndType 33 34), (0, u "java/lang/Math"), (0, u "min"), (0, u "(II)I"), (0, .methodref 30 36), (0, .nameAndType 37 34), (0, u "floorMod"), (0, u "xSlope"), (0, u "D"), (0, u "ySlope"), (2, u "add"), (0, u "(JDD)V"), (0, u "index"), (0, u "(I)I")] 5

def k3c0 : Code := { maxStack := 2, maxLocals := 1, code := prog_16_method_1_code, exceptionTable := #[], attributes := #[] }
def k3m0 : Method := { name := "<init>", desc := "()V", sig := { parameters := [], returnType := none }, accessFlags := 2, code := some k3c0 }
def k3c1 : Code := { maxStack := 4, maxLocals := 7, code := prog_16_method_2_code, exceptionTable := #[], attributes := #[] }
def k3m1 : Method := { name := "add", desc := "(JDD)V", sig := { parameters := [.long, .double, .double], returnType := none }, accessFlags := 0, code := some k3c1 }
def k3c2 : Code := { maxStack := 2, maxLocals := 2, code := prog_16_method_3_code, exceptionTable := #[], attributes := #[] }
def k3m2 : Method := { name := "index", desc := "(I)I", sig := { parameters := [.int], returnType := some .int }, accessFlags := 0, code := some k3c2 }
/-- com/example/tapflow/tapflow/VelocityTracker$Positions -/
def k3 : Class := { plain "com/example/tapflow/tapflow/VelocityTracker$Positions" (some 0) with
  accessFlags := 48
  interfaces := #[]
  cf := some (fileOf pool3 10 #[.nestHost 1] #[{ accessFlags := 2, nameIndex := 7, descriptorIndex := 8, attributes := #[] }, { accessFlags := 0, nameIndex := 43, descriptorIndex := 44, attributes := #[] }, { accessFlags := 0, nameIndex := 45, descriptorIndex := 46, attributes := #[] }] 48 4 #[] #[{ accessFlags := 18, nameIndex := 13, descriptorIndex := 14, attributes := #[] }, { accessFlags := 18, nameIndex := 17, descriptorIndex := 18, attributes := #[] }, { accessFlags := 18, nameIndex := 21, descriptorIndex := 18, attributes := #[] }, { accessFlags := 2, nameIndex := 28, descriptorIndex := 25, attributes := #[] }, { accessFlags := 2, nameIndex := 24, descriptorIndex := 25, attributes := #[] }, { accessFlags := 2, nameIndex := 38, descriptorIndex := 39, attributes := #[] }, { accessFlags := 2, nameIndex := 40, descriptorIndex := 39, attributes := #[] }])
  fields := #[{ name := "times", type := (.array .long), accessFlags := 18, slot := 0, constantValue := 0 }, { name := "xs", type := (.array .double), accessFlags := 18, slot := 1, constantValue := 0 }, { name := "ys", type := (.array .double), accessFlags := 18, slot := 2, constantValue := 0 }, { name := "count", type := .int, accessFlags := 2, slot := 3, constantValue := 0 }, { name := "next", type := .int, accessFlags := 2, slot := 4, constantValue := 0 }, { name := "xSlope", type := .double, accessFlags := 2, slot := 5, constantValue := 0 }, { name := "ySlope", type := .double, accessFlags := 2, slot := 6, constantValue := 0 }]
  methods := #[k3m0, k3m1, k3m2]
  instanceTypes := #[(.array .long), (.array .double), (.array .double), .int, .int, .double, .double]
  staticTypes := #[]
  resolved := Array.replicate 52 none
  statics := none }

def pool4 : Array CpInfo := pool [(1, .class_ 2), (0, u "com/example/tapflow/tapflow/MotionEvent"), (4, u "<init>"), (0, u "(JI[I[D[D)V"), (0, .methodref 10 11), (0, .class_ 12), (0, .nameAndType 7 13), (0, u "java/lang/Object"), (0, u "()V"), (0, .fieldref 1 15), (0, .nameAndType 16 17), (0, u "NO_LEVELS"), (0, u "[D"), (0, .fieldref 1 19), (0, .nameAndType 20 17), (0, u "levels"), (0, .fieldref 1 22), (0, .nameAndType 23 24), (0, u "placedAt"), (0, u "I"), (7, .methodref 1 33), (0, .nameAndType 34 35), (0, u "checkPointerId"), (0, u "(I)I"), (4, .methodref 1 41), (0, .nameAndType 42 43), (0, u "isCoordinate"), (0, u "(D)Z"), (3, .fieldref 1 48), (0, .nameAndType 49 50), (0, u "eventTimeNanos"), (0, u "J"), (0, .methodref 52 53), (0, .class_ 54), (0, .nameAndType 55 56), (0, u "[I"), (0, u "clone"), (0, u "()Ljava/lang/Object;"), (0, .fieldref 1 58), (0, .nameAndType 59 54), (0, u "pointerIds"), (0, .methodref 61 53), (0, .class_ 17), (0, .fieldref 1 63), (0, .nameAndType 64 17), (0, u "xs"), (0, .fieldref 1 66), (0, .nameAndType 67 17), (0, u "ys"), (0, .methodref 1 69), (0, .nameAndType 70 71), (0, u "setAction"), (0, u "(I)V"), (0, .fieldref 1 73), (0, .nameAndType 74 24), (0, u "action"), (0, .integer 65280), (0, .methodref 1 77), (0, .nameAndType 78 79), (0, u "name"), (0, u "(I)Ljava/lang/String;"), (2, .methodref 1 83), (0, .nameAndType 84 85), (0, u "isPointerAction"), (0, u "(I)Z"), (3, .fieldref 1 90), (0, .nameAndType 91 92), (0, u "offsetX"), (0, u "D"), (0, .methodref 1 94), (0, .nameAndType 95 96), (0, u "x"), (0, u "(ID)D"), (0, .fieldref 1 98), (0, .nameAndType 99 92), (0, u "offsetY"), (0, .methodref 1 101), (0, .nameAndType 102 96), (0, u "y"), (0, .fieldref 1 104), (0, .nameAndType 105 24), (0, u "levelCount"), (3, .fieldref 1 110), (0, .nameAndType 111 92), (0, u "carriedX"), (0, .fieldref 1 113), (0, .nameAndType 114 92), (0, u "carriedLowX"), (0, .fieldref 1 116), (0, .nameAndType 117 24), (0, u "carriedPowerX"), (4, .fieldref 1 123), (0, .nameAndType 124 92), (0, u "carriedY"), (0, .fieldref 1 126), (0, .nameAndType 127 92), (0, u "carriedLowY"), (0, .fieldref 1 129), (0, .nameAndType 130 24), (0, u "carriedPowerY"), (11, .class_ 144), (1, u "java/lang/Math"), (16, u "()I"), (2, u "getActionMasked"), (8, u "getX"), (0, u "(I)D"), (2, u "getY"), (53, .fieldref 1 232), (0, .nameAndType 233 234), (0, u "ACTION_NAMES"), (0, u "[Ljava/lang/String;"), (37, .integer 4294901760), (1, .methodref 142 275), (0, .nameAndType 276 277), (0, u "abs"), (0, u "(D)D"), (0, .double 6103021453049119613), (16, u "ACTION_DOWN"), (2, u "ACTION_UP"), (1, u "ACTION_MOVE"), (1, u "ACTION_CANCEL"), (1, u "ACTION_POINTER_DOWN"), (1, u "ACTION_POINTER_UP"), (1, u "ACTION_MASK"), (1, u "ACTION_POINTER_INDEX_MASK"), (0, u "ACTION_POINTER_INDEX_SHIFT"), (1, u "MAX_POINTER_ID"), (1, u "MAX_COORDINATE"), (0, u "COORDINATE_RANGE"), (0, u "Ljava/lang/String;"), (2, u "SIGNIFICAND_BITS"), (1, u "SPLITTER"), (0, u "ZERO_MAGNITUDE"), (0, u "FROM_PIVOT_X"), (0, u "FROM_PIVOT_Y"), (0, u "ROUNDING_X"), (0, u "ROUNDING_Y"), (0, u "COS"), (1, u "SIN"), (0, u "DIVISOR_X"), (0, u "POWER_X"), (1, u "DIVISOR_Y"), (0, u "POWER_Y"), (1, u "CARRIED_INDEX"), (1, u "CARRIED_X"), (1, u "CARRIED_LOW_X"), (1, u "CARRIED_POWER_X"), (1, u "CARRIED_Y"), (1, u "CARRIED_LOW_Y"), (1, u "CARRIED_POWER_Y"), (1, u "LEVEL_SIZE"), (1, u "FIRST_LEVELS"), (0, u "NOT_PLACED"), (1, u "NOT_CARRIED"), (4, u "getEventTimeNanos"), (0, u "()J"), (0, u "setEventTimeNanos"), (0, u "(J)V"), (1, u "getPointerCount"), (0, u "getPointerId")] 54

def k4c0 : Code := { maxStack := 7, maxLocals := 9, code := prog_5_method_2_code, exceptionTable := #[], attributes := #[] }
def k4m0 : Method := { name := "<init>", desc := "(JI[I[D[D)V", sig := { parameters := [.long, .int, (.array .int), (.array .double), (.array .double)], returnType := none }, accessFlags := 1, code := some k4c0 }
def k4c1 : Code := { maxStack := 2, maxLocals := 1, code := prog_5_method_3_code, exceptionTable := #[], attributes := #[] }
def k4m1 : Method := { name := "getEventTimeNanos", desc := "()J", sig := { parameters := [], returnType := some .long }, accessFlags := 1, code := some k4c1 }
def k4c2 : Code := { maxStack := 3, maxLocals := 3, code := prog_5_method_4_code, exceptionTable := #[], attributes := #[] }
def k4m2 : Method := { name := "setEventTimeNanos", desc := "(J)V", sig := { parameters := [.long], returnType := none }, accessFlags := 1, code := some k4c2 }
def k4c3 : Code := { maxStack := 2, maxLocals := 1, code := prog_5_method_6_code, exceptionTable := #[], attributes := #[] }
def k4m3 : Method := { name := "getActionMasked", desc := "()I", sig := { parameters := [], returnType := some .int }, accessFlags := 1, code := some k4c3 }
def k4c4 : Code := { maxStack := 5, maxLocals := 7, code := prog_5_method_8_code, exceptionTable := #[], attributes := #[] }
def k4m4 : Method := { name := "setAction", desc := "(I)V", sig := { parameters := [.int], returnType := none }, accessFlags := 1, code := some k4c4 }
def k4c5 : Code := { maxStack := 1, maxLocals := 1, code := prog_5_method_9_code, exceptionTable := #[], attributes := #[] }
def k4m5 : Method := { name := "getPointerCount", desc := "()I", sig := { parameters := [], returnType := some .int }, accessFlags := 1, code := some k4c5 }
def k4c6 : Code := { maxStack := 2, maxLocals := 2, code := prog_5_method_10_code, exceptionTable := #[], attributes := #[] }
def k4m6 : Method := { name := "getPointerId", desc := "(I)I", sig := { parameters := [.int], returnType := some .int }, accessFlags := 1, code := some k4c6 }
def k4c7 : Code := { maxStack := 4, maxLocals := 2, code := prog_5_method_11_code, exceptionTable := #[], attributes := #[] }
def k4m7 : Method := { name := "getX", desc := "(I)D", sig := { parameters := [.int], returnType := some .double }, accessFlags := 1, code := some k4c7 }
def k4c8 : Code := { maxStack := 4, maxLocals := 2, code := prog_5_method_12_code, exceptionTable := #[], attributes := #[] }
def k4m8 : Method := { name := "getY", desc := "(I)D", sig := { parameters := [.int], returnType := some .double }, accessFlags := 1, code := some k4c8 }
def k4c9 : Code := { maxStack := 7, maxLocals := 4, code := prog_5_method_15_code, exceptionTable := #[], attributes := #[] }
def k4m9 : Method := { name := "x", desc := "(ID)D", sig := { parameters := [.int, .double], returnType := some .double }, accessFlags := 2, code := some k4c9 }
def k4c10 : Code := { maxStack := 7, maxLocals := 4, code := prog_5_method_16_code, exceptionTable := #[], attributes := #[] }
def k4m10 : Method := { name := "y", desc := "(ID)D", sig := { parameters := [.int, .double], returnType := some .double }, accessFlags := 2, code := some k4c10 }
def k4c11 : Code := { maxStack := 2, maxLocals := 3, code := prog_5_method_51_code, exceptionTable := #[], attributes := #[] }
def k4m11 : Method := { name := "name", desc := "(I)Ljava/lang/String;", sig := { parameters := [.int], returnType := some (.object "java/lang/String") }, accessFlags := 10, code := some k4c11 }
def k4c12 : Code := { maxStack := 3, maxLocals := 1, code := prog_5_method_52_code, exceptionTable := #[], attributes := #[] }
def k4m12 : Method := { name := "checkPointerId", desc := "(I)I", sig := { parameters := [.int], returnType := some .int }, accessFlags := 8, code := some k4c12 }
def k4c13 : Code := { maxStack := 4, maxLocals := 2, code := prog_5_method_53_code, exceptionTable := #[], attributes := #[] }
def k4m13 : Method := { name := "isCoordinate", desc := "(D)Z", sig := { parameters := [.double], returnType := some .boolean }, accessFlags := 9, code := some k4c13 }
def k4c14 : Code := { maxStack := 2, maxLocals := 2, code := prog_5_method_55_code, exceptionTable := #[], attributes := #[] }
def k4m14 : Method := { name := "isPointerAction", desc := "(I)Z", sig := { parameters := [.int], returnType := some .boolean }, accessFlags := 9, code := some k4c14 }
/-- com/example/tapflow/tapflow/MotionEvent -/
def k4 : Class := { plain "com/example/tapflow/tapflow/MotionEvent" (some 0) with
  accessFlags := 49
  interfaces := #[]
  cf := some (fileOf pool4 1 #[] #[{ accessFlags := 1, nameIndex := 7, descriptorIndex := 8, attributes := #[] }, { accessFlags := 1, nameIndex := 361, descriptorIndex := 362, attributes := #[] }, { accessFlags := 1, nameIndex := 363, descriptorIndex := 364, attributes := #[] }, { accessFlags := 1, nameIndex := 164, descriptorIndex := 161, attributes := #[] }, { accessFlags := 1, nameIndex := 70, descriptorIndex := 71, attributes := #[] }, { accessFlags := 1, nameIndex := 366, descriptorIndex := 161, attributes := #[] }, { accessFlags := 1, nameIndex := 367, descriptorIndex := 35, attributes := #[] }, { accessFlags := 1, nameIndex := 173, descriptorIndex := 174, attributes := #[] }, { accessFlags := 1, nameIndex := 177, descriptorIndex := 174, attributes := #[] }, { accessFlags := 2, nameIndex := 95, descriptorIndex := 96, attributes := #[] }, { accessFlags := 2, nameIndex := 102, descriptorIndex := 96, attributes := #[] }, { accessFlags := 10, nameIndex := 78, descriptorIndex := 79, attributes := #[] }, { accessFlags := 8, nameIndex := 34, descriptorIndex := 35, attributes := #[] }, { accessFlags := 9, nameIndex := 42, descriptorIndex := 43, attributes := #[] }, { accessFlags := 9, nameIndex := 84, descriptorIndex := 85, attributes := #[] }] 49 10 #[] #[{ accessFlags := 25, nameIndex := 295, descriptorIndex := 24, attributes := #[] }, { accessFlags := 25, nameIndex := 298, descriptorIndex := 24, attributes := #[] }, { accessFlags := 25, nameIndex := 300, descriptorIndex := 24, attributes := #[] }, { accessFlags := 25, nameIndex := 302, descriptorIndex := 24, attributes := #[] }, { accessFlags := 25, nameIndex := 304, descriptorIndex := 24, attributes := #[] }, { accessFlags := 25, nameIndex := 306, descriptorIndex := 24, attributes := #[] }, { accessFlags := 25, nameIndex := 308, descriptorIndex := 24, attributes := #[] }, { accessFlags := 25, nameIndex := 310, descriptorIndex := 24, attributes := #[] }, { accessFlags := 25, nameIndex := 311, descriptorIndex := 24, attributes := #[] }, { accessFlags := 25, nameIndex := 313, descriptorIndex := 24, attributes := #[] }, { accessFlags := 25, nameIndex := 315, descriptorIndex := 92, attributes := #[] }, { accessFlags := 26, nameIndex := 233, descriptorIndex := 234, attributes := #[] }, { accessFlags := 26, nameIndex := 316, descriptorIndex := 317, attributes := #[] }, { accessFlags := 26, nameIndex := 320, descriptorIndex := 24, attributes := #[] }, { accessFlags := 26, nameIndex := 322, descriptorIndex := 92, attributes := #[] }, { accessFlags := 26, nameIndex := 323, descriptorIndex := 24, attributes := #[] }, { accessFlags := 26, nameIndex := 324, descriptorIndex := 24, attributes := #[] }, { accessFlags := 26, nameIndex := 325, descriptorIndex := 24, attributes := #[] }, { accessFlags := 26, nameIndex := 326, descriptorIndex := 24, attributes := #[] }, { accessFlags := 26, nameIndex := 327, descriptorIndex := 24, attributes := #[] }, { accessFlags := 26, nameIndex := 328, descriptorIndex := 24, attributes := #[] }, { accessFlags := 26, nameIndex := 330, descriptorIndex := 24, attributes := #[] }, { accessFlags := 26, nameIndex := 331, descriptorIndex := 24, attributes := #[] }, { accessFlags := 26, nameIndex := 332, descriptorIndex := 24, attributes := #[] }, { accessFlags := 26, nameIndex := 334, descriptorIndex := 24, attributes := #[] }, { accessFlags := 26, nameIndex := 335, descriptorIndex := 24, attributes := #[] }, { accessFlags := 26, nameIndex := 337, descriptorIndex := 24, attributes := #[] }, { accessFlags := 26, nameIndex := 339, descriptorIndex := 24, attributes := #[] }, { accessFlags := 26, nameIndex := 341, descriptorIndex := 24, attributes := #[] }, { accessFlags := 26, nameIndex := 343, descriptorIndex := 24, attributes := #[] }, { accessFlags := 26, nameIndex := 345, descriptorIndex := 24, attributes := #[] }, { accessFlags := 26, nameIndex := 347, descriptorIndex := 24, attributes := #[] }, { accessFlags := 26, nameIndex := 349, descriptorIndex := 24, attributes := #[] }, { accessFlags := 26, nameIndex := 351, descriptorIndex := 24, attributes := #[] }, { accessFlags := 26, nameIndex := 353, descriptorIndex := 24, attributes := #[] }, { accessFlags := 26, nameIndex := 354, descriptorIndex := 24, attributes := #[] }, { accessFlags := 26, nameIndex := 356, descriptorIndex := 92, attributes := #[] }, { accessFlags := 24, nameIndex := 16, descriptorIndex := 17, attributes := #[] }, { accessFlags := 2, nameIndex := 49, descriptorIndex := 50, attributes := #[] }, { accessFlags := 18, nameIndex := 59, descriptorIndex := 54, attributes := #[] }, { accessFlags := 18, nameIndex := 64, descriptorIndex := 17, attributes := #[] }, { accessFlags := 18, nameIndex := 67, descriptorIndex := 17, attributes := #[] }, { accessFlags := 2, nameIndex := 20, descriptorIndex := 17, attributes := #[] }, { accessFlags := 2, nameIndex := 105, descriptorIndex := 24, attributes := #[] }, { accessFlags := 2, nameIndex := 23, descriptorIndex := 24, attributes := #[] }, { accessFlags := 2, nameIndex := 91, descriptorIndex := 92, attributes := #[] }, { accessFlags := 2, nameIndex := 99, descriptorIndex := 92, attributes := #[] }, { accessFlags := 2, nameIndex := 111, descriptorIndex := 92, attributes := #[] }, { accessFlags := 2, nameIndex := 114, descriptorIndex := 92, attributes := #[] }, { accessFlags := 2, nameIndex := 117, descriptorIndex := 24, attributes := #[] }, { accessFlags := 2, nameIndex := 124, descriptorIndex := 92, attributes := #[] }, { accessFlags := 2, nameIndex := 127, descriptorIndex := 92, attributes := #[] }, { accessFlags := 2, nameIndex := 130, descriptorIndex := 24, attributes := #[] }, { accessFlags := 2, nameIndex := 74, descriptorIndex := 24, attributes := #[] }])
  fields := #[{ name := "ACTION_DOWN", type := .int, accessFlags := 25, slot := 0, constantValue := 0 }, { name := "ACTION_UP", type := .int, accessFlags := 25, slot := 1, constantValue := 0 }, { name := "ACTION_MOVE", type := .int, accessFlags := 25, slot := 2, constantValue := 0 }, { name := "ACTION_CANCEL", type := .int, accessFlags := 25, slot := 3, constantValue := 0 }, { name := "ACTION_POINTER_DOWN", type := .int, accessFlags := 25, slot := 4, constantValue := 0 }, { name := "ACTION_POINTER_UP", type := .int, accessFlags := 25, slot := 5, constantValue := 0 }, { name := "ACTION_MASK", type := .int, accessFlags := 25, slot := 6, constantValue := 0 }, { name := "ACTION_POINTER_INDEX_MASK", type := .int, accessFlags := 25, slot := 7, constantValue := 0 }, { name := "ACTION_POINTER_INDEX_SHIFT", type := .int, accessFlags := 25, slot := 8, constantValue := 0 }, { name := "MAX_POINTER_ID", type := .int, accessFlags := 25, slot := 9, constantValue := 0 }, { name := "MAX_COORDINATE", type := .double, accessFlags := 25, slot := 10, constantValue := 0 }, { name := "ACTION_NAMES", type := (.array (.object "java/lang/String")), accessFlags := 26, slot := 11, constantValue := 0 }, { name := "COORDINATE_RANGE", type := (.object "java/lang/String"), accessFlags := 26, slot := 12, constantValue := 0 }, { name := "SIGNIFICAND_BITS", type := .int, accessFlags := 26, slot := 13, constantValue := 0 }, { name := "SPLITTER", type := .double, accessFlags := 26, slot := 14, constantValue := 0 }, { name := "ZERO_MAGNITUDE", type := .int, accessFlags := 26, slot := 15, constantValue := 0 }, { name := "FROM_PIVOT_X", type := .int, accessFlags := 26, slot := 16, constantValue := 0 }, { name := "FROM_PIVOT_Y", type := .int, accessFlags := 26, slot := 17, constantValue := 0 }, { name := "ROUNDING_X", type := .int, accessFlags := 26, slot := 18, constantValue := 0 }, { name := "ROUNDING_Y", type := .int, accessFlags := 26, slot := 19, constantValue := 0 }, { name := "COS", type := .int, accessFlags := 26, slot := 20, constantValue := 0 }, { name := "SIN", type := .int, accessFlags := 26, slot := 21, constantValue := 0 }, { name := "DIVISOR_X", type := .int, accessFlags := 26, slot := 22, constantValue := 0 }, { name := "POWER_X", type := .int, accessFlags := 26, slot := 23, constantValue := 0 }, { name := "DIVISOR_Y", type := .int, accessFlags := 26, slot := 24, constantValue := 0 }, { name := "POWER_Y", type := .int, accessFlags := 26, slot := 25, constantValue := 0 }, { name := "CARRIED_INDEX", type := .int, accessFlags := 26, slot := 26, constantValue := 0 }, { name := "CARRIED_X", type := .int, accessFlags := 26, slot := 27, constantValue := 0 }, { name := "CARRIED_LOW_X", type := .int, accessFlags := 26, slot := 28, constantValue := 0 }, { name := "CARRIED_POWER_X", type := .int, accessFlags := 26, slot := 29, constantValue := 0 }, { name := "CARRIED_Y", type := .int, accessFlags := 26, slot := 30, constantValue := 0 }, { name := "CARRIED_LOW_Y", type := .int, accessFlags := 26, slot := 31, constantValue := 0 }, { name := "CARRIED_POWER_Y", type := .int, accessFlags := 26, slot := 32, constantValue := 0 }, { name := "LEVEL_SIZE", type := .int, accessFlags := 26, slot := 33, constantValue := 0 }, { name := "FIRST_LEVELS", type := .int, accessFlags := 26, slot := 34, constantValue := 0 }, { name := "NOT_PLACED", type := .int, accessFlags := 26, slot := 35, constantValue := 0 }, { name := "NOT_CARRIED", type := .double, accessFlags := 26, slot := 36, constantValue := 0 }, { name := "NO_LEVELS", type := (.array .double), accessFlags := 24, slot := 37, constantValue := 0 }, { name := "eventTimeNanos", type := .long, accessFlags := 2, slot := 0, constantValue := 0 }, { name := "pointerIds", type := (.array .int), accessFlags := 18, slot := 1, constantValue := 0 }, { name := "xs", type := (.array .double), accessFlags := 18, slot := 2, constantValue := 0 }, { name := "ys", type := (.array .double), accessFlags := 18, slot := 3, constantValue := 0 }, { name := "levels", type := (.array .double), accessFlags := 2, slot := 4, constantValue := 0 }, { name := "levelCount", type := .int, accessFlags := 2, slot := 5, constantValue := 0 }, { name := "placedAt", type := .int, accessFlags := 2, slot := 6, constantValue := 0 }, { name := "offsetX", type := .double, accessFlags := 2, slot := 7, constantValue := 0 }, { name := "offsetY", type := .double, accessFlags := 2, slot := 8, constantValue := 0 }, { name := "carriedX", type := .double, accessFlags := 2, slot := 9, constantValue := 0 }, { name := "carriedLowX", type := .double, accessFlags := 2, slot := 10, constantValue := 0 }, { name := "carriedPowerX", type := .int, accessFlags := 2, slot := 11, constantValue := 0 }, { name := "carriedY", type := .double, accessFlags := 2, slot := 12, constantValue := 0 }, { name := "carriedLowY", type := .double, accessFlags := 2, slot := 13, constantValue := 0 }, { name := "carriedPowerY", type := .int, accessFlags := 2, slot := 14, constantValue := 0 }, { name := "action", type := .int, accessFlags := 2, slot := 15, constantValue := 0 }]
  methods := #[k4m0, k4m1, k4m2, k4m3, k4m4, k4m5, k4m6, k4m7, k4m8, k4m9, k4m10, k4m11, k4m12, k4m13, k4m14]
  instanceTypes := #[.long, (.array .int), (.array .double), (.array .double), (.array .double), .int, .int, .double, .double, .double, .double, .int, .double, .double, .int, .int]
  staticTypes := #[.int, .int, .int, .int, .int, .int, .int, .int, .int, .int, .double, (.array (.object "java/lang/String")), (.object "java/lang/String"), .int, .double, .int, .int, .int, .int, .int, .int, .int, .int, .int, .int, .int, .int, .int, .int, .int, .int, .int, .int, .int, .int, .int, .double, (.array .double)]
  resolved := Array.replicate 422 none
  statics := some 0 }

def pool5 : Array CpInfo := pool [(1, .class_ 2), (0, u "java/lang/Math"), (1, .class_ 6), (1, u "java/lang/Object"), (0, u "<init>"), (0, u "()V"), (5, u "(D)D"), (37, u "(DD)D"), (45, .class_ 100), (1, u "java/lang/Math$RandomNumberGeneratorHolder"), (23, u "abs"), (23, u "floorMod"), (23, u "negativeZeroFloatBits"), (0, u "J"), (2, u "negativeZeroDoubleBits"), (21, u "max"), (2, u "min"), (43, u "$assertionsDisabled"), (0, u "Z"), (88, u "(II)I"), (2, u "twoToTheDoubleScaleDown"), (0, u "D"), (4, u "twoToTheDoubleScaleUp"), (9, u "E"), (3, u "PI"), (2, u "TAU"), (2, u "DEGREES_TO_RADIANS"), (0, u "RADIANS_TO_DEGREES")] 94

def k5m0 : Method := { name := "<init>", desc := "()V", sig := { parameters := [], returnType := none }, accessFlags := 2, code := none }
def k5c1 : Code := { maxStack := 2, maxLocals := 3, code := jdk_29_method_50_code, exceptionTable := #[], attributes := #[] }
def k5m1 : Method := { name := "floorMod", desc := "(II)I", sig := { parameters := [.int, .int], returnType := some .int }, accessFlags := 9, code := some k5c1 }
def k5c2 : Code := { maxStack := 4, maxLocals := 2, code := jdk_29_method_64_code, exceptionTable := #[], attributes := #[] }
def k5m2 : Method := { name := "abs", desc := "(D)D", sig := { parameters := [.double], returnType := some .double }, accessFlags := 9, code := some k5c2 }
def k5c3 : Code := { maxStack := 4, maxLocals := 4, code := jdk_29_method_68_code, exceptionTable := #[], attributes := #[] }
def k5m3 : Method := { name := "max", desc := "(DD)D", sig := { parameters := [.double, .double], returnType := some .double }, accessFlags := 9, code := some k5c3 }
def k5c4 : Code := { maxStack := 2, maxLocals := 2, code := jdk_29_method_69_code, exceptionTable := #[], attributes := #[] }
def k5m4 : Method := { name := "min", desc := "(II)I", sig := { parameters := [.int, .int], returnType := some .int }, accessFlags := 9, code := some k5c4 }
def k5c5 : Code := { maxStack := 4, maxLocals := 4, code := jdk_29_method_72_code, exceptionTable := #[], attributes := #[] }
def k5m5 : Method := { name := "min", desc := "(DD)D", sig := { parameters := [.double, .double], returnType := some .double }, accessFlags := 9, code := some k5c5 }
/-- java/lang/Math -/
def k5 : Class := { plain "java/lang/Math" (some 0) with
  accessFlags := 49
  interfaces := #[]
  cf := some (fileOf pool5 1 #[.nestMembers #[98]] #[{ accessFlags := 2, nameIndex := 7, descriptorIndex := 8, attributes := #[] }, { accessFlags := 9, nameIndex := 148, descriptorIndex := 335, attributes := #[] }, { accessFlags := 9, nameIndex := 124, descriptorIndex := 14, attributes := #[] }, { accessFlags := 9, nameIndex := 198, descriptorIndex := 52, attributes := #[] }, { accessFlags := 9, nameIndex := 201, descriptorIndex := 335, attributes := #[] }, { accessFlags := 9, nameIndex := 201, descriptorIndex := 52, attributes := #[] }] 49 4 #[] #[{ accessFlags := 25, nameIndex := 354, descriptorIndex := 339, attributes := #[] }, { accessFlags := 25, nameIndex := 358, descriptorIndex := 339, attributes := #[] }, { accessFlags := 25, nameIndex := 361, descriptorIndex := 339, attributes := #[] }, { accessFlags := 26, nameIndex := 364, descriptorIndex := 339, attributes := #[] }, { accessFlags := 26, nameIndex := 365, descriptorIndex := 339, attributes := #[] }, { accessFlags := 26, nameIndex := 172, descriptorIndex := 173, attributes := #[] }, { accessFlags := 26, nameIndex := 176, descriptorIndex := 173, attributes := #[] }, { accessFlags := 8, nameIndex := 344, descriptorIndex := 339, attributes := #[] }, { accessFlags := 8, nameIndex := 338, descriptorIndex := 339, attributes := #[] }, { accessFlags := 4120, nameIndex := 245, descriptorIndex := 246, attributes := #[] }])
  fields := #[{ name := "E", type := .double, accessFlags := 25, slot := 0, constantValue := 0 }, { name := "PI", type := .double, accessFlags := 25, slot := 1, constantValue := 0 }, { name := "TAU", type := .double, accessFlags := 25, slot := 2, constantValue := 0 }, { name := "DEGREES_TO_RADIANS", type := .double, accessFlags := 26, slot := 3, constantValue := 0 }, { name := "RADIANS_TO_DEGREES", type := .double, accessFlags := 26, slot := 4, constantValue := 0 }, { name := "negativeZeroFloatBits", type := .long, accessFlags := 26, slot := 5, constantValue := 0 }, { name := "negativeZeroDoubleBits", type := .long, accessFlags := 26, slot := 6, constantValue := 0 }, { name := "twoToTheDoubleScaleUp", type := .double, accessFlags := 8, slot := 7, constantValue := 0 }, { name := "twoToTheDoubleScaleDown", type := .double, accessFlags := 8, slot := 8, constantValue := 0 }, { name := "$assertionsDisabled", type := .boolean, accessFlags := 4120, slot := 9, constantValue := 0 }]
  methods := #[k5m0, k5m1, k5m2, k5m3, k5m4, k5m5]
  instanceTypes := #[]
  staticTypes := #[.double, .double, .double, .double, .double, .long, .long, .double, .double, .boolean]
  resolved := Array.replicate 460 none
  statics := none }

def pool6 : Array CpInfo := pool [(1, .class_ 2), (0, u "java/lang/Cloneable"), (0, .class_ 4), (0, u "java/lang/Object")] 2

/-- java/lang/Cloneable -/
def k6 : Class := { plain "java/lang/Cloneable" (some 0) with
  accessFlags := 1537
  interfaces := #[]
  cf := some (fileOf pool6 1 #[] #[] 1537 3 #[] #[])
  fields := #[]
  methods := #[]
  instanceTypes := #[]
  staticTypes := #[]
  resolved := Array.replicate 7 none
  statics := none }

def pool7 : Array CpInfo := pool [(1, .class_ 2), (0, u "java/io/Serializable"), (0, .class_ 4), (0, u "java/lang/Object")] 2

/-- java/io/Serializable -/
def k7 : Class := { plain "java/io/Serializable" (some 0) with
  accessFlags := 1537
  interfaces := #[]
  cf := some (fileOf pool7 1 #[] #[] 1537 3 #[] #[])
  fields := #[]
  methods := #[]
  instanceTypes := #[]
  staticTypes := #[]
  resolved := Array.replicate 7 none
  statics := none }

def pool8 : Array CpInfo := pool [(1, .class_ 2), (0, u "java/lang/Comparable"), (0, .class_ 4), (0, u "java/lang/Object")] 7

/-- java/lang/Comparable -/
def k8 : Class := { plain "java/lang/Comparable" (some 0) with
  accessFlags := 1537
  interfaces := #[]
  cf := some (fileOf pool8 1 #[] #[] 1537 3 #[] #[])
  fields := #[]
  methods := #[]
  instanceTypes := #[]
  staticTypes := #[]
  resolved := Array.replicate 12 none
  statics := none }

def pool9 : Array CpInfo := pool [(2, .class_ 4), (1, u "java/lang/CharSequence"), (42, .class_ 48), (0, u "java/lang/CharSequence$1CodePointIterator"), (10, .class_ 60), (0, u "java/lang/CharSequence$1CharIterator"), (5, .class_ 67), (0, u "java/lang/Object")] 63

/-- java/lang/CharSequence -/
def k9 : Class := { plain "java/lang/CharSequence" (some 0) with
  accessFlags := 1537
  interfaces := #[]
  cf := some (fileOf pool9 2 #[.nestMembers #[47, 59]] #[] 1537 66 #[] #[])
  fields := #[]
  methods := #[]
  instanceTypes := #[]
  staticTypes := #[]
  resolved := Array.replicate 131 none
  statics := none }

def pool10 : Array CpInfo := pool [(1, .class_ 2), (0, u "java/lang/constant/Constable"), (0, .class_ 4), (0, u "java/lang/Object")] 6

/-- java/lang/constant/Constable -/
def k10 : Class := { plain "java/lang/constant/Constable" (some 0) with
  accessFlags := 1537
  interfaces := #[]
  cf := some (fileOf pool10 1 #[] #[] 1537 3 #[] #[])
  fields := #[]
  methods := #[]
  instanceTypes := #[]
  staticTypes := #[]
  resolved := Array.replicate 11 none
  statics := none }

def pool11 : Array CpInfo := pool [(1, .class_ 2), (0, u "java/lang/constant/ConstantDesc"), (0, .class_ 4), (0, u "java/lang/Object")] 32

/-- java/lang/constant/ConstantDesc -/
def k11 : Class := { plain "java/lang/constant/ConstantDesc" (some 0) with
  accessFlags := 1537
  interfaces := #[]
  cf := some (fileOf pool11 1 #[] #[] 1537 3 #[] #[])
  fields := #[]
  methods := #[]
  instanceTypes := #[]
  staticTypes := #[]
  resolved := Array.replicate 37 none
  statics := none }

def pool12 : Array CpInfo := pool [(2, .class_ 4), (1, u "java/lang/Object"), (0, u "<init>"), (0, u "()V"), (3, .class_ 12), (1, u "java/lang/String"), (0, u "value"), (0, u "[B"), (2, u "coder"), (0, u "B"), (2, u "hash"), (0, u "I"), (2, u "hashIsZero"), (0, u "Z"), (13, u "COMPACT_STRINGS"), (534, .class_ 576), (0, u "java/lang/CharSequence"), (22, u "CASE_INSENSITIVE_ORDER"), (0, u "Ljava/util/Comparator;"), (500, u "serialPersistentFields"), (0, u "[Ljava/io/ObjectStreamField;"), (0, .class_ 1104), (0, u "java/lang/String$CaseInsensitiveComparator"), (1, .class_ 1107), (0, u "java/io/Serializable"), (0, .class_ 1109), (0, u "java/lang/Comparable"), (0, .class_ 1111), (0, u "java/lang/constant/Constable"), (0, .class_ 1113), (0, u "java/lang/constant/ConstantDesc"), (2, u "serialVersionUID"), (0, u "J"), (3, u "REPL"), (0, u "C"), (2, u "LATIN1"), (1, u "UTF16")] 323

def k12m0 : Method := { name := "<init>", desc := "()V", sig := { parameters := [], returnType := none }, accessFlags := 1, code := none }
/-- java/lang/String -/
def k12 : Class := { plain "java/lang/String" (some 0) with
  accessFlags := 49
  interfaces := #[7, 8, 9, 10, 11]
  cf := some (fileOf pool12 10 #[.nestMembers #[1103]] #[{ accessFlags := 1, nameIndex := 5, descriptorIndex := 6, attributes := #[] }] 49 2 #[1106, 1108, 575, 1110, 1112] #[{ accessFlags := 18, nameIndex := 13, descriptorIndex := 14, attributes := #[] }, { accessFlags := 18, nameIndex := 17, descriptorIndex := 18, attributes := #[] }, { accessFlags := 2, nameIndex := 21, descriptorIndex := 22, attributes := #[] }, { accessFlags := 2, nameIndex := 25, descriptorIndex := 26, attributes := #[] }, { accessFlags := 26, nameIndex := 1116, descriptorIndex := 1117, attributes := #[] }, { accessFlags := 24, nameIndex := 40, descriptorIndex := 26, attributes := #[] }, { accessFlags := 26, nameIndex := 1101, descriptorIndex := 1102, attributes := #[] }, { accessFlags := 26, nameIndex := 1121, descriptorIndex := 1122, attributes := #[] }, { accessFlags := 25, nameIndex := 599, descriptorIndex := 600, attributes := #[] }, { accessFlags := 24, nameIndex := 1125, descriptorIndex := 18, attributes := #[] }, { accessFlags := 24, nameIndex := 1127, descriptorIndex := 18, attributes := #[] }])
  fields := #[{ name := "value", type := (.array .byte), accessFlags := 18, slot := 0, constantValue := 0 }, { name := "coder", type := .byte, accessFlags := 18, slot := 1, constantValue := 0 }, { name := "hash", type := .int, accessFlags := 2, slot := 2, constantValue := 0 }, { name := "hashIsZero", type := .boolean, accessFlags := 2, slot := 3, constantValue := 0 }, { name := "serialVersionUID", type := .long, accessFlags := 26, slot := 0, constantValue := 0 }, { name := "COMPACT_STRINGS", type := .boolean, accessFlags := 24, slot := 1, constantValue := 0 }, { name := "serialPersistentFields", type := (.array (.object "java/io/ObjectStreamField")), accessFlags := 26, slot := 2, constantValue := 0 }, { name := "REPL", type := .char, accessFlags := 26, slot := 3, constantValue := 0 }, { name := "CASE_INSENSITIVE_ORDER", type := (.object "java/util/Comparator"), accessFlags := 25, slot := 4, constantValue := 0 }, { name := "LATIN1", type := .byte, accessFlags := 24, slot := 5, constantValue := 0 }, { name := "UTF16", type := .byte, accessFlags := 24, slot := 6, constantValue := 0 }]
  methods := #[k12m0]
  instanceTypes := #[(.array .byte), .byte, .int, .boolean]
  staticTypes := #[.long, .boolean, (.array (.object "java/io/ObjectStreamField")), .char, (.object "java/util/Comparator"), .byte, .byte]
  resolved := Array.replicate 1451 none
  statics := none }

/-- the primitive byte -/
def k13 : Class := { plain "byte" none with kind := .primitive 'B', accessFlags := 0x411 }
/-- [B -/
def k14 : Class := { plain "[B" (some 0) with kind := .array 13 .byte, interfaces := #[6, 7], accessFlags := 1041 }

/-- the primitive double -/
def k15 : Class := { plain "double" none with kind := .primitive 'D', accessFlags := 0x411 }
/-- [D -/
def k16 : Class := { plain "[D" (some 0) with kind := .array 15 .double, interfaces := #[6, 7], accessFlags := 1041 }

/-- the primitive int -/
def k17 : Class := { plain "int" none with kind := .primitive 'I', accessFlags := 0x411 }
/-- [I -/
def k18 : Class := { plain "[I" (some 0) with kind := .array 17 .int, interfaces := #[6, 7], accessFlags := 1041 }

/-- the primitive long -/
def k19 : Class := { plain "long" none with kind := .primitive 'J', accessFlags := 0x411 }
/-- [J -/
def k20 : Class := { plain "[J" (some 0) with kind := .array 19 .long, interfaces := #[6, 7], accessFlags := 1041 }

/-- [Lcom/example/tapflow/tapflow/VelocityTracker$Positions; -/
def k21 : Class := { plain "[Lcom/example/tapflow/tapflow/VelocityTracker$Positions;" (some 0) with kind := .array 3 (.object "com/example/tapflow/tapflow/VelocityTracker$Positions"), interfaces := #[6, 7], accessFlags := 1041 }

/-- [Ljava/lang/String; -/
def k22 : Class := { plain "[Ljava/lang/String;" (some 0) with kind := .array 12 (.object "java/lang/String"), interfaces := #[6, 7], accessFlags := 1041 }

def heap : Heap := #[{ cls := 4, slots := #[.int 0, .int 0, .int 0, .int 0, .int 0, .int 0, .int 0, .int 0, .int 0, .int 0, .double 0, .ref 1, .null, .int 0, .double 0, .int 0, .int 0, .int 0, .int 0, .int 0, .int 0, .int 0, .int 0, .int 0, .int 0, .int 0, .int 0, .int 0, .int 0, .int 0, .int 0, .int 0, .int 0, .int 0, .int 0, .int 0, .double 0, .ref 3], vm := .statics 4 },
  { cls := 22, slots := #[.ref 2, .ref 2, .ref 2, .ref 2, .null, .ref 2, .ref 2], vm := .none },
  { cls := 12, slots := #[.null, .int 0, .int 0, .int 0], vm := .none },
  { cls := 16, slots := #[], vm := .none }]
def classes : Array Class := #[k0, k1, k2, k3, k4, k5, k6, k7, k8, k9, k10, k11, k12, k13, k14, k15, k16, k17, k18, k19, k20, k21, k22]
def interned : List (Array UInt16 × Addr) := []
def slotsUsed : Nat := 49
def theMethod : MethodId := ⟨1, 1⟩
def args0 : Array Value := #[.int 5, .long 3, .int 0, .int 1, .int 2, .int 7]
def aboutOver (below : List Frame) : State where
  vm := { classes := classes, interned := interned.toArray }
  heap := heap
  slotsUsed := slotsUsed
  threads := #[{ frames := .invoking theMethod args0 :: below }]
def below0 : List Frame := [.native { method := ⟨0, 0⟩, args := #[] }]
def about1 : State := aboutOver below0
def p0 : Program := .bare "" "" ""
def e0 : Env := launch0.env 0 0 0
theorem w_frames : about1.frames = Frame.invoking theMethod args0 :: below0 := rfl
set_option maxRecDepth 65536 in
theorem w_args : argsFit about1.vm theMethod args0 = true := by decide +kernel
set_option maxRecDepth 65536 in
theorem w_heap : heapFits about1 = true := by decide +kernel
set_option maxRecDepth 65536 in
theorem w_runnable : about1.curStatus? = some .runnable := by decide +kernel
set_option maxRecDepth 65536 in
theorem w_alone : about1.alone = true := by decide +kernel
set_option maxRecDepth 65536 in
theorem w_named : about1.methodNamed? x = some theMethod := by decide +kernel
set_option maxRecDepth 65536 in
theorem w_hears : about1.hears theMethod below0 = true := by decide +kernel
set_option maxRecDepth 65536 in
theorem w_ripe : about1.ripe theMethod args0 below0 = true := by decide +kernel
theorem w_running : about1.status = .running := rfl
set_option maxRecDepth 65536 in
theorem w_room : about1.hasRoom e0.platform room_1 = true :=
  launch0.hasRoom_least _ room_1 (by decide +kernel) (by decide +kernel) (by decide +kernel) (by decide +kernel) (by decide +kernel) (by decide +kernel)
theorem allAtoms_all (ts : List Jvm.Cond) (a : Array Jvm.Value) (st : Jvm.State) : (allAtoms ts).before a st = ts.all (fun c => c.before a st) := by
  induction ts with
  | nil => rfl
  | cons c t ih =>
    show (Jvm.Cond.and c (allAtoms t)).before a st = _
    rw [Jvm.Cond.before_and, ih, List.all_cons]
def words1 : List Jvm.Cond := Jvm.Cond.code x code maxLocals ret :: tables_1
/-- a 'code' word, met by the world's own term for the bytes: nothing is compared byte by byte -/
theorem code_word {y : MethodName} {bytes : ByteArray} {mx : Nat} {rt : Option FieldType} {a : Array Value} {s : State} {m : MethodId} {meth : Method} {c : Code} (h1 : s.methodNamed? y = some m) (h2 : s.vm.method? m = some meth) (h3 : meth.code = some c) (h4 : c.code = bytes)
    (h5 : (c.maxLocals == mx && c.exceptionTable.isEmpty && decide (c.maxStack ≤ mostOperands) && decide (meth.sig.returnType = rt) && !meth.locks && decide (parseMethodDescriptor y.desc = some meth.sig)) = true) : (Jvm.Cond.code y bytes mx rt).before a s = true := by
  simp only [Bool.and_eq_true, beq_iff_eq, Bool.not_eq_true', decide_eq_true_eq] at h5
  obtain ⟨⟨⟨⟨⟨g1, g2⟩, g3⟩, g4⟩, g5⟩, g6⟩ := h5
  simp [Cond.before, Cond.holds, Cond.value, h1, h2, h3, h4, g1, g2, g3, g4, g5, g6]
def isCode : Jvm.Cond → Bool
  | .code _ _ _ _ => true
  | _ => false
theorem all_split {L : List Jvm.Cond} {P : Jvm.Cond → Bool} (h1 : L.all (fun c => isCode c || P c) = true) (h2 : ∀ c ∈ L.filter isCode, P c = true) : L.all P = true := by
  refine List.all_eq_true.mpr fun c hc => ?_
  have h := List.all_eq_true.mp h1 c hc
  rcases Bool.eq_false_or_eq_true (isCode c) with hi | hi
  · exact h2 c (List.mem_filter.mpr ⟨hc, hi⟩)
  · simpa [hi] using h
set_option maxRecDepth 65536 in
theorem w_c0 : (Jvm.Cond.code x code maxLocals ret).before args0 about1 = true := code_word (m := ⟨1, 1⟩) (meth := k1m1) (c := k1c1) (by decide +kernel) rfl rfl rfl (by decide +kernel)
set_option maxRecDepth 65536 in
theorem w_c1 : (Jvm.Cond.code ({ cls := "com/example/tapflow/tapflow/VelocityTracker", name := "<init>", desc := "()V" } : Jvm.MethodName) prog_15_method_1_code (1 : Nat) (Option.none : Option Jvm.ClassFile.FieldType)).before args0 about1 = true := code_word (m := ⟨2, 0⟩) (meth := k2m0) (c := k2c0) (by decide +kernel) rfl rfl rfl (by decide +kernel)
set_option maxRecDepth 65536 in
theorem w_c2 : (Jvm.Cond.code ({ cls := "java/lang/Object", name := "<init>", desc := "()V" } : Jvm.MethodName) object_method_1_code (1 : Nat) (Option.none : Option Jvm.ClassFile.FieldType)).before args0 about1 = true := code_word (m := ⟨0, 0⟩) (meth := k0m0) (c := k0c0) (by decide +kernel) rfl rfl rfl (by decide +kernel)
set_option maxRecDepth 65536 in
theorem w_c3 : (Jvm.Cond.code ({ cls := "com/example/tapflow/tapflow/MotionEvent", name := "<init>", desc := "(JI[I[D[D)V" } : Jvm.MethodName) prog_5_method_2_code (9 : Nat) (Option.none : Option Jvm.ClassFile.FieldType)).before args0 about1 = true := code_word (m := ⟨4, 0⟩) (meth := k4m0) (c := k4c0) (by decide +kernel) rfl rfl rfl (by decide +kernel)
set_option maxRecDepth 65536 in
theorem w_c4 : (Jvm.Cond.code ({ cls := "com/example/tapflow/tapflow/MotionEvent", name := "checkPointerId", desc := "(I)I" } : Jvm.MethodName) prog_5_method_52_code (1 : Nat) (Option.some Jvm.ClassFile.FieldType.int)).before args0 about1 = true := code_word (m := ⟨4, 12⟩) (meth := k4m12) (c := k4c12) (by decide +kernel) rfl rfl rfl (by decide +kernel)
set_option maxRecDepth 65536 in
theorem w_c5 : (Jvm.Cond.code ({ cls := "com/example/tapflow/tapflow/MotionEvent", name := "isCoordinate", desc := "(D)Z" } : Jvm.MethodName) prog_5_method_53_code (2 : Nat) (Option.some Jvm.ClassFile.FieldType.boolean)).before args0 about1 = true := code_word (m := ⟨4, 13⟩) (meth := k4m13) (c := k4c13) (by decide +kernel) rfl rfl rfl (by decide +kernel)
set_option maxRecDepth 65536 in
theorem w_c6 : (Jvm.Cond.code ({ cls := "java/lang/Math", name := "abs", desc := "(D)D" } : Jvm.MethodName) jdk_29_method_64_code (2 : Nat) (Option.some Jvm.ClassFile.FieldType.double)).before args0 about1 = true := code_word (m := ⟨5, 2⟩) (meth := k5m2) (c := k5c2) (by decide +kernel) rfl rfl rfl (by decide +kernel)
set_option maxRecDepth 65536 in
theorem w_c7 : (Jvm.Cond.code ({ cls := "com/example/tapflow/tapflow/MotionEvent", name := "setAction", desc := "(I)V" } : Jvm.MethodName) prog_5_method_8_code (7 : Nat) (Option.none : Option Jvm.ClassFile.FieldType)).before args0 about1 = true := code_word (m := ⟨4, 4⟩) (meth := k4m4) (c := k4c4) (by decide +kernel) rfl rfl rfl (by decide +kernel)
set_option maxRecDepth 65536 in
theorem w_c8 : (Jvm.Cond.code ({ cls := "com/example/tapflow/tapflow/MotionEvent", name := "name", desc := "(I)Ljava/lang/String;" } : Jvm.MethodName) prog_5_method_51_code (3 : Nat) (Option.some (Jvm.ClassFile.FieldType.object "java/lang/String"))).before args0 about1 = true := code_word (m := ⟨4, 11⟩) (meth := k4m11) (c := k4c11) (by decide +kernel) rfl rfl rfl (by decide +kernel)
set_option maxRecDepth 65536 in
theorem w_c9 : (Jvm.Cond.code ({ cls := "com/example/tapflow/tapflow/MotionEvent", name := "isPointerAction", desc := "(I)Z" } : Jvm.MethodName) prog_5_method_55_code (2 : Nat) (Option.some Jvm.ClassFile.FieldType.boolean)).before args0 about1 = true := code_word (m := ⟨4, 14⟩) (meth := k4m14) (c := k4c14) (by decide +kernel) rfl rfl rfl (by decide +kernel)
set_option maxRecDepth 65536 in
theorem w_c10 : (Jvm.Cond.code ({ cls := "com/example/tapflow/tapflow/VelocityTracker", name := "addMovement", desc := "(Lcom/example/tapflow/tapflow/MotionEvent;)V" } : Jvm.MethodName) prog_15_method_2_code (2 : Nat) (Option.none : Option Jvm.ClassFile.FieldType)).before args0 about1 = true := code_word (m := ⟨2, 1⟩) (meth := k2m1) (c := k2c1) (by decide +kernel) rfl rfl rfl (by decide +kernel)
set_option maxRecDepth 65536 in
theorem w_c11 : (Jvm.Cond.code ({ cls := "com/example/tapflow/tapflow/MotionEvent", name := "getActionMasked", desc := "()I" } : Jvm.MethodName) prog_5_method_6_code (1 : Nat) (Option.some Jvm.ClassFile.FieldType.int)).before args0 about1 = true := code_word (m := ⟨4, 3⟩) (meth := k4m3) (c := k4c3) (by decide +kernel) rfl rfl rfl (by decide +kernel)
set_option maxRecDepth 65536 in
theorem w_c12 : (Jvm.Cond.code ({ cls := "com/example/tapflow/tapflow/VelocityTracker", name := "addPositions", desc := "(Lcom/example/tapflow/tapflow/MotionEvent;)V" } : Jvm.MethodName) prog_15_method_8_code (5 : Nat) (Option.none : Option Jvm.ClassFile.FieldType)).before args0 about1 = true := code_word (m := ⟨2, 7⟩) (meth := k2m7) (c := k2c7) (by decide +kernel) rfl rfl rfl (by decide +kernel)
set_option maxRecDepth 65536 in
theorem w_c13 : (Jvm.Cond.code ({ cls := "com/example/tapflow/tapflow/MotionEvent", name := "getEventTimeNanos", desc := "()J" } : Jvm.MethodName) prog_5_method_3_code (1 : Nat) (Option.some Jvm.ClassFile.FieldType.long)).before args0 about1 = true := code_word (m := ⟨4, 1⟩) (meth := k4m1) (c := k4c1) (by decide +kernel) rfl rfl rfl (by decide +kernel)
set_option maxRecDepth 65536 in
theorem w_c14 : (Jvm.Cond.code ({ cls := "com/example/tapflow/tapflow/MotionEvent", name := "getPointerCount", desc := "()I" } : Jvm.MethodName) prog_5_method_9_code (1 : Nat) (Option.some Jvm.ClassFile.FieldType.int)).before args0 about1 = true := code_word (m := ⟨4, 5⟩) (meth := k4m5) (c := k4c5) (by decide +kernel) rfl rfl rfl (by decide +kernel)
set_option maxRecDepth 65536 in
theorem w_c15 : (Jvm.Cond.code ({ cls := "com/example/tapflow/tapflow/MotionEvent", name := "getPointerId", desc := "(I)I" } : Jvm.MethodName) prog_5_method_10_code (2 : Nat) (Option.some Jvm.ClassFile.FieldType.int)).before args0 about1 = true := code_word (m := ⟨4, 6⟩) (meth := k4m6) (c := k4c6) (by decide +kernel) rfl rfl rfl (by decide +kernel)
set_option maxRecDepth 65536 in
theorem w_c16 : (Jvm.Cond.code ({ cls := "com/example/tapflow/tapflow/VelocityTracker", name := "positionsOf", desc := "(I)Lcom/example/tapflow/tapflow/VelocityTracker$Positions;" } : Jvm.MethodName) prog_15_method_9_code (2 : Nat) (Option.some (Jvm.ClassFile.FieldType.object "com/example/tapflow/tapflow/VelocityTracker$Positions"))).before args0 about1 = true := code_word (m := ⟨2, 8⟩) (meth := k2m8) (c := k2c8) (by decide +kernel) rfl rfl rfl (by decide +kernel)
set_option maxRecDepth 65536 in
theorem w_c17 : (Jvm.Cond.code ({ cls := "com/example/tapflow/tapflow/VelocityTracker$Positions", name := "<init>", desc := "()V" } : Jvm.MethodName) prog_16_method_1_code (1 : Nat) (Option.none : Option Jvm.ClassFile.FieldType)).before args0 about1 = true := code_word (m := ⟨3, 0⟩) (meth := k3m0) (c := k3c0) (by decide +kernel) rfl rfl rfl (by decide +kernel)
set_option maxRecDepth 65536 in
theorem w_c18 : (Jvm.Cond.code ({ cls := "com/example/tapflow/tapflow/MotionEvent", name := "getX", desc := "(I)D" } : Jvm.MethodName) prog_5_method_11_code (2 : Nat) (Option.some Jvm.ClassFile.FieldType.double)).before args0 about1 = true := code_word (m := ⟨4, 7⟩) (meth := k4m7) (c := k4c7) (by decide +kernel) rfl rfl rfl (by decide +kernel)
set_option maxRecDepth 65536 in
theorem w_c19 : (Jvm.Cond.code ({ cls := "com/example/tapflow/tapflow/MotionEvent", name := "x", desc := "(ID)D" } : Jvm.MethodName) prog_5_method_15_code (4 : Nat) (Option.some Jvm.ClassFile.FieldType.double)).before args0 about1 = true := code_word (m := ⟨4, 9⟩) (meth := k4m9) (c := k4c9) (by decide +kernel) rfl rfl rfl (by decide +kernel)
set_option maxRecDepth 65536 in
theorem w_c20 : (Jvm.Cond.code ({ cls := "com/example/tapflow/tapflow/MotionEvent", name := "getY", desc := "(I)D" } : Jvm.MethodName) prog_5_method_12_code (2 : Nat) (Option.some Jvm.ClassFile.FieldType.double)).before args0 about1 = true := code_word (m := ⟨4, 8⟩) (meth := k4m8) (c := k4c8) (by decide +kernel) rfl rfl rfl (by decide +kernel)
set_option maxRecDepth 65536 in
theorem w_c21 : (Jvm.Cond.code ({ cls := "com/example/tapflow/tapflow/MotionEvent", name := "y", desc := "(ID)D" } : Jvm.MethodName) prog_5_method_16_code (4 : Nat) (Option.some Jvm.ClassFile.FieldType.double)).before args0 about1 = true := code_word (m := ⟨4, 10⟩) (meth := k4m10) (c := k4c10) (by decide +kernel) rfl rfl rfl (by decide +kernel)
set_option maxRecDepth 65536 in
theorem w_c22 : (Jvm.Cond.code ({ cls := "com/example/tapflow/tapflow/VelocityTracker$Positions", name := "add", desc := "(JDD)V" } : Jvm.MethodName) prog_16_method_2_code (7 : Nat) (Option.none : Option Jvm.ClassFile.FieldType)).before args0 about1 = true := code_word (m := ⟨3, 1⟩) (meth := k3m1) (c := k3c1) (by decide +kernel) rfl rfl rfl (by decide +kernel)
set_option maxRecDepth 65536 in
theorem w_c23 : (Jvm.Cond.code ({ cls := "java/lang/Math", name := "min", desc := "(II)I" } : Jvm.MethodName) jdk_29_method_69_code (2 : Nat) (Option.some Jvm.ClassFile.FieldType.int)).before args0 about1 = true := code_word (m := ⟨5, 4⟩) (meth := k5m4) (c := k5c4) (by decide +kernel) rfl rfl rfl (by decide +kernel)
set_option maxRecDepth 65536 in
theorem w_c24 : (Jvm.Cond.code ({ cls := "com/example/tapflow/tapflow/VelocityTracker", name := "computeCurrentVelocity", desc := "(I)V" } : Jvm.MethodName) prog_15_method_4_code (2 : Nat) (Option.none : Option Jvm.ClassFile.FieldType)).before args0 about1 = true := code_word (m := ⟨2, 3⟩) (meth := k2m3) (c := k2c3) (by decide +kernel) rfl rfl rfl (by decide +kernel)
set_option maxRecDepth 65536 in
theorem w_c25 : (Jvm.Cond.code ({ cls := "com/example/tapflow/tapflow/VelocityTracker", name := "computeCurrentVelocity", desc := "(ID)V" } : Jvm.MethodName) prog_15_method_5_code (6 : Nat) (Option.none : Option Jvm.ClassFile.FieldType)).before args0 about1 = true := code_word (m := ⟨2, 4⟩) (meth := k2m4) (c := k2c4) (by decide +kernel) rfl rfl rfl (by decide +kernel)
set_option maxRecDepth 65536 in
theorem w_c26 : (Jvm.Cond.code ({ cls := "com/example/tapflow/tapflow/VelocityTracker", name := "fit", desc := "(Lcom/example/tapflow/tapflow/VelocityTracker$Positions;)Z" } : Jvm.MethodName) prog_15_method_10_code (24 : Nat) (Option.some Jvm.ClassFile.FieldType.boolean)).before args0 about1 = true := code_word (m := ⟨2, 9⟩) (meth := k2m9) (c := k2c9) (by decide +kernel) rfl rfl rfl (by decide +kernel)
set_option maxRecDepth 65536 in
theorem w_c27 : (Jvm.Cond.code ({ cls := "com/example/tapflow/tapflow/VelocityTracker$Positions", name := "index", desc := "(I)I" } : Jvm.MethodName) prog_16_method_3_code (2 : Nat) (Option.some Jvm.ClassFile.FieldType.int)).before args0 about1 = true := code_word (m := ⟨3, 2⟩) (meth := k3m2) (c := k3c2) (by decide +kernel) rfl rfl rfl (by decide +kernel)
set_option maxRecDepth 65536 in
theorem w_c28 : (Jvm.Cond.code ({ cls := "java/lang/Math", name := "floorMod", desc := "(II)I" } : Jvm.MethodName) jdk_29_method_50_code (3 : Nat) (Option.some Jvm.ClassFile.FieldType.int)).before args0 about1 = true := code_word (m := ⟨5, 1⟩) (meth := k5m1) (c := k5c1) (by decide +kernel) rfl rfl rfl (by decide +kernel)
set_option maxRecDepth 65536 in
theorem w_c29 : (Jvm.Cond.code ({ cls := "com/example/tapflow/tapflow/VelocityTracker", name := "clamp", desc := "(DD)D" } : Jvm.MethodName) prog_15_method_11_code (4 : Nat) (Option.some Jvm.ClassFile.FieldType.double)).before args0 about1 = true := code_word (m := ⟨2, 10⟩) (meth := k2m10) (c := k2c10) (by decide +kernel) rfl rfl rfl (by decide +kernel)
set_option maxRecDepth 65536 in
theorem w_c30 : (Jvm.Cond.code ({ cls := "java/lang/Math", name := "min", desc := "(DD)D" } : Jvm.MethodName) jdk_29_method_72_code (4 : Nat) (Option.some Jvm.ClassFile.FieldType.double)).before args0 about1 = true := code_word (m := ⟨5, 5⟩) (meth := k5m5) (c := k5c5) (by decide +kernel) rfl rfl rfl (by decide +kernel)
set_option maxRecDepth 65536 in
theorem w_c31 : (Jvm.Cond.code ({ cls := "java/lang/Math", name := "max", desc := "(DD)D" } : Jvm.MethodName) jdk_29_method_68_code (4 : Nat) (Option.some Jvm.ClassFile.FieldType.double)).before args0 about1 = true := code_word (m := ⟨5, 3⟩) (meth := k5m3) (c := k5c3) (by decide +kernel) rfl rfl rfl (by decide +kernel)
set_option maxRecDepth 65536 in
theorem w_c32 : (Jvm.Cond.code ({ cls := "com/example/tapflow/tapflow/VelocityTracker", name := "clear", desc := "()V" } : Jvm.MethodName) prog_15_method_3_code (5 : Nat) (Option.none : Option Jvm.ClassFile.FieldType)).before args0 about1 = true := code_word (m := ⟨2, 2⟩) (meth := k2m2) (c := k2c2) (by decide +kernel) rfl rfl rfl (by decide +kernel)
set_option maxRecDepth 65536 in
theorem w_c33 : (Jvm.Cond.code ({ cls := "com/example/tapflow/tapflow/VelocityTracker", name := "getXVelocity", desc := "(I)D" } : Jvm.MethodName) prog_15_method_6_code (2 : Nat) (Option.some Jvm.ClassFile.FieldType.double)).before args0 about1 = true := code_word (m := ⟨2, 5⟩) (meth := k2m5) (c := k2c5) (by decide +kernel) rfl rfl rfl (by decide +kernel)
set_option maxRecDepth 65536 in
theorem w_c34 : (Jvm.Cond.code ({ cls := "com/example/tapflow/tapflow/VelocityTracker", name := "getYVelocity", desc := "(I)D" } : Jvm.MethodName) prog_15_method_7_code (2 : Nat) (Option.some Jvm.ClassFile.FieldType.double)).before args0 about1 = true := code_word (m := ⟨2, 6⟩) (meth := k2m6) (c := k2c6) (by decide +kernel) rfl rfl rfl (by decide +kernel)
set_option maxRecDepth 65536 in
theorem w_c35 : (Jvm.Cond.code ({ cls := "com/example/tapflow/tapflow/MotionEvent", name := "setEventTimeNanos", desc := "(J)V" } : Jvm.MethodName) prog_5_method_4_code (3 : Nat) (Option.none : Option Jvm.ClassFile.FieldType)).before args0 about1 = true := code_word (m := ⟨4, 2⟩) (meth := k4m2) (c := k4c2) (by decide +kernel) rfl rfl rfl (by decide +kernel)
def codes1 : List Jvm.Cond := [Jvm.Cond.code x code maxLocals ret, Jvm.Cond.code ({ cls := "com/example/tapflow/tapflow/VelocityTracker", name := "<init>", desc := "()V" } : Jvm.MethodName) prog_15_method_1_code (1 : Nat) (Option.none : Option Jvm.ClassFile.FieldType), Jvm.Cond.code ({ cls := "java/lang/Object", name := "<init>", desc := "()V" } : Jvm.MethodName) object_method_1_code (1 : Nat) (Option.none : Option Jvm.ClassFile.FieldType), Jvm.Cond.code ({ cls := "com/example/tapflow/tapflow/MotionEvent", name := "<init>", desc := "(JI[I[D[D)V" } : Jvm.MethodName) prog_5_method_2_code (9 : Nat) (Option.none : Option Jvm.ClassFile.FieldType), Jvm.Cond.code ({ cls := "com/example/tapflow/tapflow/MotionEvent", name := "checkPointerId", desc := "(I)I" } : Jvm.MethodName) prog_5_method_52_code (1 : Nat) (Option.some Jvm.ClassFile.FieldType.int), Jvm.Cond.code ({ cls := "com/example/tapflow/tapflow/MotionEvent", name := "isCoordinate", desc := "(D)Z" } : Jvm.MethodName) prog_5_method_53_code (2 : Nat) (Option.some Jvm.ClassFile.FieldType.boolean), Jvm.Cond.code ({ cls := "java/lang/Math", name := "abs", desc := "(D)D" } : Jvm.MethodName) jdk_29_method_64_code (2 : Nat) (Option.some Jvm.ClassFile.FieldType.double), Jvm.Cond.code ({ cls := "com/example/tapflow/tapflow/MotionEvent", name := "setAction", desc := "(I)V" } : Jvm.MethodName) prog_5_method_8_code (7 : Nat) (Option.none : Option Jvm.ClassFile.FieldType), Jvm.Cond.code ({ cls := "com/example/tapflow/tapflow/MotionEvent", name := "name", desc := "(I)Ljava/lang/String;" } : Jvm.MethodName) prog_5_method_51_code (3 : Nat) (Option.some (Jvm.ClassFile.FieldType.object "java/lang/String")), Jvm.Cond.code ({ cls := "com/example/tapflow/tapflow/MotionEvent", name := "isPointerAction", desc := "(I)Z" } : Jvm.MethodName) prog_5_method_55_code (2 : Nat) (Option.some Jvm.ClassFile.FieldType.boolean), Jvm.Cond.code ({ cls := "com/example/tapflow/tapflow/VelocityTracker", name := "addMovement", desc := "(Lcom/example/tapflow/tapflow/MotionEvent;)V" } : Jvm.MethodName) prog_15_method_2_code (2 : Nat) (Option.none : Option Jvm.ClassFile.FieldType), Jvm.Cond.code ({ cls := "com/example/tapflow/tapflow/MotionEvent", name := "getActionMasked", desc := "()I" } : Jvm.MethodName) prog_5_method_6_code (1 : Nat) (Option.some Jvm.ClassFile.FieldType.int), Jvm.Cond.code ({ cls := "com/example/tapflow/tapflow/VelocityTracker", name := "addPositions", desc := "(Lcom/example/tapflow/tapflow/MotionEvent;)V" } : Jvm.MethodName) prog_15_method_8_code (5 : Nat) (Option.none : Option Jvm.ClassFile.FieldType), Jvm.Cond.code ({ cls := "com/example/tapflow/tapflow/MotionEvent", name := "getEventTimeNanos", desc := "()J" } : Jvm.MethodName) prog_5_method_3_code (1 : Nat) (Option.some Jvm.ClassFile.FieldType.long), Jvm.Cond.code ({ cls := "com/example/tapflow/tapflow/MotionEvent", name := "getPointerCount", desc := "()I" } : Jvm.MethodName) prog_5_method_9_code (1 : Nat) (Option.some Jvm.ClassFile.FieldType.int), Jvm.Cond.code ({ cls := "com/example/tapflow/tapflow/MotionEvent", name := "getPointerId", desc := "(I)I" } : Jvm.MethodName) prog_5_method_10_code (2 : Nat) (Option.some Jvm.ClassFile.FieldType.int), Jvm.Cond.code ({ cls := "com/example/tapflow/tapflow/VelocityTracker", name := "positionsOf", desc := "(I)Lcom/example/tapflow/tapflow/VelocityTracker$Positions;" } : Jvm.MethodName) prog_15_method_9_code (2 : Nat) (Option.some (Jvm.ClassFile.FieldType.object "com/example/tapflow/tapflow/VelocityTracker$Positions")), Jvm.Cond.code ({ cls := "com/example/tapflow/tapflow/VelocityTracker$Positions", name := "<init>", desc := "()V" } : Jvm.MethodName) prog_16_method_1_code (1 : Nat) (Option.none : Option Jvm.ClassFile.FieldType), Jvm.Cond.code ({ cls := "com/example/tapflow/tapflow/MotionEvent", name := "getX", desc := "(I)D" } : Jvm.MethodName) prog_5_method_11_code (2 : Nat) (Option.some Jvm.ClassFile.FieldType.double), Jvm.Cond.code ({ cls := "com/example/tapflow/tapflow/MotionEvent", name := "x", desc := "(ID)D" } : Jvm.MethodName) prog_5_method_15_code (4 : Nat) (Option.some Jvm.ClassFile.FieldType.double), Jvm.Cond.code ({ cls := "com/example/tapflow/tapflow/MotionEvent", name := "getY", desc := "(I)D" } : Jvm.MethodName) prog_5_method_12_code (2 : Nat) (Option.some Jvm.ClassFile.FieldType.double), Jvm.Cond.code ({ cls := "com/example/tapflow/tapflow/MotionEvent", name := "y", desc := "(ID)D" } : Jvm.MethodName) prog_5_method_16_code (4 : Nat) (Option.some Jvm.ClassFile.FieldType.double), Jvm.Cond.code ({ cls := "com/example/tapflow/tapflow/VelocityTracker$Positions", name := "add", desc := "(JDD)V" } : Jvm.MethodName) prog_16_method_2_code (7 : Nat) (Option.none : Option Jvm.ClassFile.FieldType), Jvm.Cond.code ({ cls := "java/lang/Math", name := "min", desc := "(II)I" } : Jvm.MethodName) jdk_29_method_69_code (2 : Nat) (Option.some Jvm.ClassFile.FieldType.int), Jvm.Cond.code ({ cls := "com/example/tapflow/tapflow/VelocityTracker", name := "computeCurrentVelocity", desc := "(I)V" } : Jvm.MethodName) prog_15_method_4_code (2 : Nat) (Option.none : Option Jvm.ClassFile.FieldType), Jvm.Cond.code ({ cls := "com/example/tapflow/tapflow/VelocityTracker", name := "computeCurrentVelocity", desc := "(ID)V" } : Jvm.MethodName) prog_15_method_5_code (6 : Nat) (Option.none : Option Jvm.ClassFile.FieldType), Jvm.Cond.code ({ cls := "com/example/tapflow/tapflow/VelocityTracker", name := "fit", desc := "(Lcom/example/tapflow/tapflow/VelocityTracker$Positions;)Z" } : Jvm.MethodName) prog_15_method_10_code (24 : Nat) (Option.some Jvm.ClassFile.FieldType.boolean), Jvm.Cond.code ({ cls := "com/example/tapflow/tapflow/VelocityTracker$Positions", name := "index", desc := "(I)I" } : Jvm.MethodName) prog_16_method_3_code (2 : Nat) (Option.some Jvm.ClassFile.FieldType.int), Jvm.Cond.code ({ cls := "java/lang/Math", name := "floorMod", desc := "(II)I" } : Jvm.MethodName) jdk_29_method_50_code (3 : Nat) (Option.some Jvm.ClassFile.FieldType.int), Jvm.Cond.code ({ cls := "com/example/tapflow/tapflow/VelocityTracker", name := "clamp", desc := "(DD)D" } : Jvm.MethodName) prog_15_method_11_code (4 : Nat) (Option.some Jvm.ClassFile.FieldType.double), Jvm.Cond.code ({ cls := "java/lang/Math", name := "min", desc := "(DD)D" } : Jvm.MethodName) jdk_29_method_72_code (4 : Nat) (Option.some Jvm.ClassFile.FieldType.double), Jvm.Cond.code ({ cls := "java/lang/Math", name := "max", desc := "(DD)D" } : Jvm.MethodName) jdk_29_method_68_code (4 : Nat) (Option.some Jvm.ClassFile.FieldType.double), Jvm.Cond.code ({ cls := "com/example/tapflow/tapflow/VelocityTracker", name := "clear", desc := "()V" } : Jvm.MethodName) prog_15_method_3_code (5 : Nat) (Option.none : Option Jvm.ClassFile.FieldType), Jvm.Cond.code ({ cls := "com/example/tapflow/tapflow/VelocityTracker", name := "getXVelocity", desc := "(I)D" } : Jvm.MethodName) prog_15_method_6_code (2 : Nat) (Option.some Jvm.ClassFile.FieldType.double), Jvm.Cond.code ({ cls := "com/example/tapflow/tapflow/VelocityTracker", name := "getYVelocity", desc := "(I)D" } : Jvm.MethodName) prog_15_method_7_code (2 : Nat) (Option.some Jvm.ClassFile.FieldType.double), Jvm.Cond.code ({ cls := "com/example/tapflow/tapflow/MotionEvent", name := "setEventTimeNanos", desc := "(J)V" } : Jvm.MethodName) prog_5_method_4_code (3 : Nat) (Option.none : Option Jvm.ClassFile.FieldType)]
set_option maxRecDepth 65536 in
theorem codes_eq : words1.filter isCode = codes1 := rfl
theorem w_codes : ∀ c ∈ words1.filter isCode, c.before args0 about1 = true := by
  rw [codes_eq]
  intro c hc
  simp only [codes1, List.mem_cons, List.not_mem_nil, or_false] at hc
  rcases hc with rfl | rfl | rfl | rfl | rfl | rfl | rfl | rfl | rfl | rfl | rfl | rfl | rfl | rfl | rfl | rfl | rfl | rfl | rfl | rfl | rfl | rfl | rfl | rfl | rfl | rfl | rfl | rfl | rfl | rfl | rfl | rfl | rfl | rfl | rfl | rfl
  · exact w_c0
  · exact w_c1
  · exact w_c2
  · exact w_c3
  · exact w_c4
  · exact w_c5
  · exact w_c6
  · exact w_c7
  · exact w_c8
  · exact w_c9
  · exact w_c10
  · exact w_c11
  · exact w_c12
  · exact w_c13
  · exact w_c14
  · exact w_c15
  · exact w_c16
  · exact w_c17
  · exact w_c18
  · exact w_c19
  · exact w_c20
  · exact w_c21
  · exact w_c22
  · exact w_c23
  · exact w_c24
  · exact w_c25
  · exact w_c26
  · exact w_c27
  · exact w_c28
  · exact w_c29
  · exact w_c30
  · exact w_c31
  · exact w_c32
  · exact w_c33
  · exact w_c34
  · exact w_c35
set_option maxRecDepth 65536 in
theorem w_t1 : (words1.take 24).all (fun c => isCode c || c.before args0 about1) = true := by decide +kernel
set_option maxRecDepth 65536 in
theorem w_t2 : ((words1.drop 24).take 24).all (fun c => isCode c || c.before args0 about1) = true := by decide +kernel
set_option maxRecDepth 65536 in
theorem w_t3 : (((words1.drop 24).drop 24).take 24).all (fun c => isCode c || c.before args0 about1) = true := by decide +kernel
set_option maxRecDepth 65536 in
theorem w_t4 : ((((words1.drop 24).drop 24).drop 24).take 24).all (fun c => isCode c || c.before args0 about1) = true := by decide +kernel
set_option maxRecDepth 65536 in
theorem w_t5 : (((((words1.drop 24).drop 24).drop 24).drop 24).take 24).all (fun c => isCode c || c.before args0 about1) = true := by decide +kernel
set_option maxRecDepth 65536 in
theorem w_t6 : ((((((words1.drop 24).drop 24).drop 24).drop 24).drop 24).take 24).all (fun c => isCode c || c.before args0 about1) = true := by decide +kernel
set_option maxRecDepth 65536 in
theorem w_t7 : (((((((words1.drop 24).drop 24).drop 24).drop 24).drop 24).drop 24).take 24).all (fun c => isCode c || c.before args0 about1) = true := by decide +kernel
set_option maxRecDepth 65536 in
theorem w_t8 : ((((((((words1.drop 24).drop 24).drop 24).drop 24).drop 24).drop 24).drop 24).take 24).all (fun c => isCode c || c.before args0 about1) = true := by decide +kernel
set_option maxRecDepth 65536 in
theorem w_t9 : (((((((((words1.drop 24).drop 24).drop 24).drop 24).drop 24).drop 24).drop 24).drop 24).take 24).all (fun c => isCode c || c.before args0 about1) = true := by decide +kernel
set_option maxRecDepth 65536 in
theorem w_t10 : ((((((((((words1.drop 24).drop 24).drop 24).drop 24).drop 24).drop 24).drop 24).drop 24).drop 24).take 24).all (fun c => isCode c || c.before args0 about1) = true := by decide +kernel
set_option maxRecDepth 65536 in
theorem w_t11 : ((((((((((words1.drop 24).drop 24).drop 24).drop 24).drop 24).drop 24).drop 24).drop 24).drop 24).drop 24).all (fun c => isCode c || c.before args0 about1) = true := by decide +kernel
theorem w_tables : (allAtoms (Jvm.Cond.code x code maxLocals ret :: tables_1)).before args0 about1 = true := by
  rw [allAtoms_all]
  show words1.all (fun c => c.before args0 about1) = true
  refine all_split ?_ w_codes
  rw [← List.take_append_drop 24 words1, List.all_append, w_t1, ← List.take_append_drop 24 (words1.drop 24), List.all_append, w_t2, ← List.take_append_drop 24 ((words1.drop 24).drop 24), List.all_append, w_t3, ← List.take_append_drop 24 (((words1.drop 24).drop 24).drop 24), List.all_append, w_t4, ← List.take_append_drop 24 ((((words1.drop 24).drop 24).drop 24).drop 24), List.all_append, w_t5, ← List.take_append_drop 24 (((((words1.drop 24).drop 24).drop 24).drop 24).drop 24), List.all_append, w_t6, ← List.take_append_drop 24 ((((((words1.drop 24).drop 24).drop 24).drop 24).drop 24).drop 24), List.all_append, w_t7, ← List.take_append_drop 24 (((((((words1.drop 24).drop 24).drop 24).drop 24).drop 24).drop 24).drop 24), List.all_append, w_t8, ← List.take_append_drop 24 ((((((((words1.drop 24).drop 24).drop 24).drop 24).drop 24).drop 24).drop 24).drop 24), List.all_append, w_t9, ← List.take_append_drop 24 (((((((((words1.drop 24).drop 24).drop 24).drop 24).drop 24).drop 24).drop 24).drop 24).drop 24), List.all_append, w_t10, w_t11]
  rfl
set_option maxRecDepth 65536 in
theorem w_case : (Jvm.Cond.and given_1 narrow_1).before args0 about1 = true := by decide +kernel
theorem w_applies : (headSpec (Jvm.Cond.code x code maxLocals ret :: tables_1) room_1).applies x e0.platform about1 = true :=
  (Spec.applies_iff w_frames).mpr ⟨w_running, w_runnable, w_alone, w_named, w_hears, w_ripe, w_room, w_tables⟩
theorem atStart : AtStart classFile x code maxLocals ret World_1 tables_1 room_1 Calls_1 rest_1 Pre_1 launch0 p0 e0 about1 theMethod args0 below0 :=
  ⟨lists_1, trivial, launch0.admits_env _ _ _, launch0.least_env, fairChoices_fair.cas, fairChoices_fair.clock, w_frames, w_args, w_heap, w_applies, trivial, trivial, w_case⟩
end start1
theorem witness_1 : WitnessClaimed_1 := ⟨start1.p0, start1.e0, start1.about1, start1.theMethod, start1.args0, start1.below0, start1.atStart⟩
end Jvm.Pilot.@@N@@
