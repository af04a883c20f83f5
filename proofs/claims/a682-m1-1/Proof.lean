import JvmDerived
import JvmDerived.Pilot.@@N@@Statement
import JvmDerived.Pilot.@@N@@Code
set_option linter.unusedVariables false
set_option linter.unusedSimpArgs false
namespace Jvm.Own7
open Sem ClassFile Op Lib Jvm.Stand Jvm.Free Jvm.LawKit Jvm.RoadKit
/-! What is known of the heap: a list of entries, each an address and what its cell satisfies; the addresses differ and are all new since the law began. -/
abbrev Ent : Type := Addr × (Cell → Prop)
abbrev FV : Type := String × String × String × Value
def key (Z : State) (f : FV) : Nat := RoadKit.slotOf Z f.1 f.2.1 f.2.2.1
def FldC (Z : State) (c : Cell) (f : FV) : Prop := ∃ (cf : ClassId) (k : Class) (i : Nat) (fd : Field), Z.fieldFound? f.1 f.2.1 f.2.2.1 = some (cf, k, i, fd) ∧ fd.isStatic = false ∧ c.vm ≠ .unknown ∧ c.vm.isStatics = false ∧ Z.vm.assignable c.cls cf = true ∧ c.slots[fd.slot]? = some f.2.2.2
def ExaC (Z : State) (C : String) (c : Cell) : Prop := ∃ k : Class, Z.vm.findClass C = some c.cls ∧ Z.vm.classes[c.cls]? = some k ∧ c.vm.isStatics = false ∧ (k.kind = .ordinary → c.slots.size = k.instanceTypes.size)
def oObj (Z : State) (a : Addr) (C : String) (fs : List FV) : Ent := (a, fun c => ExaC Z C c ∧ (fs.map (key Z)).Nodup ∧ ∀ f ∈ fs, FldC Z c f)
def oArr (Z : State) (a : Addr) (k : ClassId) (ty : FieldType) (vs : List Value) : Ent := (a, fun c => Z.isArrayOf c ty ∧ c.vm ≠ .unknown ∧ c.cls = k ∧ c.slots = vs.toArray ∧ vs.length < 2147483648)
def OKnow (Z : State) (h : Heap) (K : List Ent) : Prop := Ext Z.heap h ∧ (∀ e ∈ K, Z.heap.size ≤ e.1 ∧ ∃ c, h[e.1]? = some c ∧ e.2 c) ∧ (K.map Prod.fst).Nodup
section Kn
variable {Z : State} {h h' : Heap} {K K' F F' rest : List Ent} {a : Addr} {P P' : Cell → Prop} {sl i j : Nat} {v w : Value} {C O n d : String} {fs : List FV} {ty : FieldType} {vs : List Value} {k : ClassId}
theorem OKnow.start (Z : State) : OKnow Z Z.heap [] := ⟨⟨Nat.le_refl _, fun _ _ q => q⟩, fun _ q => absurd q (List.not_mem_nil), List.nodup_nil⟩
theorem OKnow.at (N : OKnow Z h K) (hi : K[i]? = some (a, P)) : Z.heap.size ≤ a ∧ ∃ c, h[a]? = some c ∧ P c := N.2.1 _ (List.mem_of_getElem? hi)
theorem nodup_ne {α : Type} {l : List α} (N : l.Nodup) {i j : Nat} {x y : α} (hi : l[i]? = some x) (hj : l[j]? = some y) (ne : i ≠ j) : x ≠ y := fun e => by
  subst e
  obtain ⟨hi1, hi2⟩ := List.getElem?_eq_some_iff.mp hi
  obtain ⟨hj1, hj2⟩ := List.getElem?_eq_some_iff.mp hj
  have q := List.pairwise_iff_getElem.mp N
  rcases Nat.lt_or_gt_of_ne ne with r | r
  · exact q i j hi1 hj1 r (hi2.trans hj2.symm)
  · exact q j i hj1 hi1 r (hj2.trans hi2.symm)
theorem map_set_same {α β : Type} {f : α → β} {l : List α} {i : Nat} {x y : α} (hi : l[i]? = some x) (e : f y = f x) : (l.set i y).map f = l.map f := by
  apply List.ext_getElem?
  intro j
  simp only [List.getElem?_map, List.getElem?_set]
  by_cases q : i = j
  · subst q
    obtain ⟨h1, h2⟩ := List.getElem?_eq_some_iff.mp hi
    simp [h1, h2, e]
  · simp [q]
theorem OKnow.upd (N : OKnow Z h K) (hi : K[i]? = some (a, P)) (W : Wr h h' a sl v) (hP : ∀ c : Cell, P c → sl < c.slots.size → P' (c.setSlot sl v)) : OKnow Z h' (K.set i (a, P')) := by
  obtain ⟨n1, n2, n3⟩ := N
  have hga : Z.heap.size ≤ a := (n2 _ (List.mem_of_getElem? hi)).1
  refine ⟨⟨by rw [W.size]; exact n1.1, fun x c hx => ?_⟩, fun e he => ?_, ?_⟩
  · have hlt : x < Z.heap.size := (Array.getElem?_eq_some_iff.mp hx).1
    obtain ⟨c', q1, -, -, -, q5, -⟩ := wr_at W (n1.2 _ _ hx)
    rw [q1, q5 (Nat.ne_of_lt (Nat.lt_of_lt_of_le hlt hga))]
  · obtain ⟨j, hj⟩ := List.mem_iff_getElem?.mp he
    rw [List.getElem?_set] at hj
    by_cases q : i = j
    · subst q
      have hl := (List.getElem?_eq_some_iff.mp hi).1
      simp [hl] at hj
      subst hj
      obtain ⟨c, c1, c2⟩ := (n2 _ (List.mem_of_getElem? hi)).2
      obtain ⟨c', q1, -, -, -, -, -, q7⟩ := wr_at W c1
      obtain ⟨c0, w1, w2, w3, w4⟩ := W
      have c1' : h[a]? = some c := c1
      cases c1'.symm.trans w1
      exact ⟨hga, c', q1, by rw [(q7 rfl).1]; exact hP c c2 w3⟩
    · simp [q] at hj
      obtain ⟨g1, c, c1, c2⟩ := n2 _ (List.mem_of_getElem? hj)
      have ne : a ≠ e.1 := nodup_ne n3 (i := i) (j := j) (by simp [hi]) (by simp [hj]) q
      obtain ⟨c', q1, -, -, -, q5, -⟩ := wr_at W c1
      exact ⟨g1, c, by rw [q1, q5 (Ne.symm ne)], c2⟩
  · rw [map_set_same (f := Prod.fst) (y := (a, P')) hi rfl]; exact n3
theorem fldC_slot {c : Cell} {f : FV} (F : FldC Z c f) : c.slots[key Z f]? = some f.2.2.2 := by
  obtain ⟨cf, k, i, fd, h1, -, -, -, -, h6⟩ := F
  have : key Z f = fd.slot := by simp [key, RoadKit.slotOf, h1]
  rw [this]; exact h6
theorem fldC_set {c : Cell} {f : FV} (F : FldC Z c f) {sl : Nat} {v : Value} (ne : key Z f ≠ sl) : FldC Z (c.setSlot sl v) f := by
  obtain ⟨cf, k, i, fd, h1, h2, h3, h4, h5, h6⟩ := F
  have q : key Z f = fd.slot := by simp [key, RoadKit.slotOf, h1]
  refine ⟨cf, k, i, fd, h1, h2, h3, h4, h5, ?_⟩
  show (c.slots.setIfInBounds sl v)[fd.slot]? = _
  rw [Array.getElem?_setIfInBounds_ne (by rw [← q]; exact Ne.symm ne)]; exact h6
theorem fldC_here {c : Cell} {O n d : String} {w v : Value} (F : FldC Z c (O, n, d, w)) : FldC Z (c.setSlot (RoadKit.slotOf Z O n d) v) (O, n, d, v) := by
  have g := fldC_slot F
  obtain ⟨cf, k, i, fd, h1, h2, h3, h4, h5, h6⟩ := F
  have q : RoadKit.slotOf Z O n d = fd.slot := by simp [RoadKit.slotOf, h1]
  refine ⟨cf, k, i, fd, h1, h2, h3, h4, h5, ?_⟩
  show (c.slots.setIfInBounds (RoadKit.slotOf Z O n d) v)[fd.slot]? = _
  rw [q, Array.getElem?_setIfInBounds_self_of_lt (Array.getElem?_eq_some_iff.mp h6).1]
theorem exaC_set {c : Cell} (E : ExaC Z C c) {sl : Nat} {v : Value} : ExaC Z C (c.setSlot sl v) := by
  obtain ⟨k, h1, h2, h3, h4⟩ := E
  exact ⟨k, h1, h2, h3, fun q => by rw [sz_set]; exact h4 q⟩
theorem OKnow.put (N : OKnow Z h K) (hi : K[i]? = some (oObj Z a C fs)) (hj : fs[j]? = some (O, n, d, w)) (W : Wr h h' a (RoadKit.slotOf Z O n d) v) : OKnow Z h' (K.set i (oObj Z a C (fs.set j (O, n, d, v)))) := by
  refine N.upd (P' := (oObj Z a C (fs.set j (O, n, d, v))).2) hi W fun c ⟨E, D, A⟩ hlt => ⟨exaC_set E, by rw [map_set_same (f := key Z) (y := (O, n, d, v)) hj rfl]; exact D, fun f hf => ?_⟩
  obtain ⟨x, hx⟩ := List.mem_iff_getElem?.mp hf
  rw [List.getElem?_set] at hx
  by_cases q : j = x
  · subst q
    simp [(List.getElem?_eq_some_iff.mp hj).1] at hx
    subst hx
    exact fldC_here (A _ (List.mem_of_getElem? hj))
  · simp [q] at hx
    have ne : key Z (O, n, d, w) ≠ key Z f := nodup_ne D (i := j) (j := x) (by simp [hj]) (by simp [hx]) q
    exact fldC_set (A _ (List.mem_of_getElem? hx)) (Ne.symm ne)
theorem OKnow.fld (N : OKnow Z h K) (hi : K[i]? = some (oObj Z a C fs)) (hj : fs[j]? = some (O, n, d, v)) : Fld Z h a O n d v := by
  obtain ⟨-, c, c1, -, -, A⟩ := N.at hi
  obtain ⟨cf, k, i, fd, h1, h2, h3, h4, h5, h6⟩ := A _ (List.mem_of_getElem? hj)
  exact ⟨c, cf, k, i, fd, c1, h1, h2, h3, h4, h5, h6⟩
theorem OKnow.exa (N : OKnow Z h K) (hi : K[i]? = some (oObj Z a C fs)) : Exa Z h a C := by
  obtain ⟨-, c, c1, ⟨k, h1, h2, h3, h4⟩, -⟩ := N.at hi
  exact ⟨c, k, c1, h1, h2, h3, h4⟩
theorem OKnow.arr (N : OKnow Z h K) (hi : K[i]? = some (oArr Z a k ty vs)) : ∃ c, Arr Z h a c ty ∧ c.cls = k ∧ c.slots = vs.toArray ∧ vs.length < 2147483648 := by
  obtain ⟨-, c, c1, h1, h2, h3, h4, h5⟩ := N.at hi
  exact ⟨c, ⟨c1, h1, h2⟩, h3, h4, h5⟩
theorem OKnow.putA (N : OKnow Z h K) (hi : K[i]? = some (oArr Z a k ty vs)) (W : Wr h h' a j v) : OKnow Z h' (K.set i (oArr Z a k ty (vs.set j v))) := by
  refine N.upd (P' := (oArr Z a k ty (vs.set j v)).2) hi W fun c ⟨h1, h2, h3, h4, h5⟩ hlt => ⟨?_, h2, h3, ?_, by rw [List.length_set]; exact h5⟩
  · exact h1
  · show c.slots.setIfInBounds j v = _
    rw [h4]; simp
theorem OKnow.cons (N : OKnow Z h K) (E : Ext h h') {c : Cell} (hc : h'[h.size]? = some c) (hP : P c) : OKnow Z h' ((h.size, P) :: K) := by
  obtain ⟨n1, n2, n3⟩ := N
  refine ⟨⟨Nat.le_trans n1.1 E.1, fun x c q => E.2 _ _ (n1.2 _ _ q)⟩, fun e he => ?_, ?_⟩
  · rcases List.mem_cons.mp he with rfl | he
    · exact ⟨n1.1, c, hc, hP⟩
    · obtain ⟨g, c, c1, c2⟩ := n2 e he
      exact ⟨g, c, E.2 _ _ c1, c2⟩
  · rw [List.map_cons, List.nodup_cons]
    refine ⟨fun q => ?_, n3⟩
    obtain ⟨e, he, q⟩ := List.mem_map.mp q
    obtain ⟨-, c, c1, -⟩ := n2 e he
    have := (Array.getElem?_eq_some_iff.mp c1).1
    have q' : e.1 = h.size := q
    exact absurd q' (Nat.ne_of_lt this)
theorem OKnow.sel (N : OKnow Z h (F ++ rest)) (is : List Nat) (hn : is.Nodup) (hF : is.map (fun i => F[i]?) = F'.map some) : OKnow Z h (F' ++ rest) := by
  obtain ⟨n1, n2, n3⟩ := N
  have mem : ∀ e ∈ F', ∃ i ∈ is, F[i]? = some e := fun e he => by
    have : some e ∈ F'.map some := List.mem_map.mpr ⟨e, he, rfl⟩
    rw [← hF] at this
    obtain ⟨i, h1, h2⟩ := List.mem_map.mp this
    exact ⟨i, h1, h2⟩
  rw [List.map_append, List.nodup_append] at n3
  refine ⟨n1, fun e he => ?_, ?_⟩
  · rcases List.mem_append.mp he with he | he
    · obtain ⟨i, -, h2⟩ := mem e he
      exact n2 e (List.mem_append_left _ (List.mem_of_getElem? h2))
    · exact n2 e (List.mem_append_right _ he)
  · rw [List.map_append, List.nodup_append]
    refine ⟨?_, n3.2.1, fun x hx y hy => ?_⟩
    · have hl : is.length = F'.length := by have := congrArg List.length hF; simpa using this
      refine List.pairwise_iff_getElem.mpr fun x y hx hy hxy => ?_
      have hx' : x < F'.length := by simpa using hx
      have hy' : y < F'.length := by simpa using hy
      have gx : F[is[x]'(by omega)]? = some F'[x] := by
        have := congrArg (fun l => l[x]?) hF
        simpa [hx', show x < is.length by omega] using this
      have gy : F[is[y]'(by omega)]? = some F'[y] := by
        have := congrArg (fun l => l[y]?) hF
        simpa [hy', show y < is.length by omega] using this
      have ne : is[x]'(by omega) ≠ is[y]'(by omega) := List.pairwise_iff_getElem.mp hn x y (by omega) (by omega) hxy
      have := nodup_ne n3.1 (i := is[x]'(by omega)) (j := is[y]'(by omega)) (x := F'[x].1) (y := F'[y].1) (by simp [gx]) (by simp [gy]) ne
      simpa using this
    · obtain ⟨e, he, rfl⟩ := List.mem_map.mp hx
      obtain ⟨i, -, h2⟩ := mem e he
      exact n3.2.2 _ (List.mem_map.mpr ⟨e, List.mem_of_getElem? h2, rfl⟩) y hy
/-- the fields of a new object: laid in the class, at their first values, their names different -/
def LaidL (Z : State) (a0 : Array Value) (C : String) : List FV → Prop
  | [] => True
  | f :: r => (Laid Z a0 C f.1 f.2.1 f.2.2.1 ∧ ∃ ty, parseFieldDescriptor f.2.2.1 = some ty ∧ f.2.2.2 = defaultValue ty) ∧ LaidL Z a0 C r
theorem LaidL.mem {a0 : Array Value} : ∀ (fs : List FV), LaidL Z a0 C fs → ∀ f ∈ fs, Laid Z a0 C f.1 f.2.1 f.2.2.1 ∧ ∃ ty, parseFieldDescriptor f.2.2.1 = some ty ∧ f.2.2.2 = defaultValue ty
  | [], _, _, q => nomatch q
  | _ :: r, L, f, q => (List.mem_cons.mp q).elim (fun e => e ▸ L.1) (LaidL.mem r L.2 f)
theorem LaidL.keys {a0 : Array Value} (L : LaidL Z a0 C fs) (hn : (fs.map fun f => f.2.1).Nodup) : (fs.map (key Z)).Nodup := by
  have M := LaidL.mem fs L
  refine List.pairwise_iff_getElem.mpr fun x y hx hy hxy => ?_
  have hx' : x < fs.length := by simpa using hx
  have hy' : y < fs.length := by simpa using hy
  have q := List.pairwise_iff_getElem.mp hn x y (by simpa using hx') (by simpa using hy') hxy
  simp only [List.getElem_map] at q ⊢
  obtain ⟨L1, t1, p1, -⟩ := M fs[x] (List.getElem_mem hx')
  obtain ⟨L2, t2, p2, -⟩ := M fs[y] (List.getElem_mem hy')
  exact RoadKit.slot_ne L1 L2 q p1 p2
end Kn
/-! Where a run stands, and where it must come. -/
def ONow (p : Program) (l : Launch) (e : Env) (R : Room) (s : State) (m : MethodId) (args : Array Value) (below : List Frame) (meth : Method) (c : Code) (Z : State) (own : String) (cd : ByteArray) (ml : Nat) (ret : Option FieldType) (nm : String) (T : State) (cells slots : Nat) (K : List Ent) : Prop :=
  ∃ locs, Stand p l e R s m args below meth c T locs cells slots ∧ Fr Z.heap.size locs ∧ OKnow Z T.heap K ∧ p.tables.exec = Jvm.exec ∧ Z.Warmed39 s.vm ∧ c.code = cd ∧ c.maxLocals = ml ∧ s.vm.findClass own = some m.cls ∧ meth.sig.returnType = ret ∧ meth.name = nm ∧ meth.locks = false
def OGo (p : Program) (e : Env) (below : List Frame) (Φ : Outcome → State → Prop) (T : State) (g : JFrame) : Prop := ∃ U o, Steps p.tables e below (T.setTop g) U ∧ U.status = .running ∧ Ended U below o ∧ Φ o U
def OPost (Z s : State) (Q : Option Value → List Ent → Prop) (rm : Room) (o : Outcome) (U : State) : Prop := ∃ v L, o = .returned v ∧ (Fr Z.heap.size L ∧ ∃ K', OKnow Z U.heap K' ∧ Q v K') ∧ FrameEnd s o U L rm.cells rm.slots
def OMeets (l : Launch) (y : MethodName) (bytes : ByteArray) (maxL : Nat) (ret : Option FieldType) (rm : Room) (Z : State) (as : List Value) (K : List Ent) (Q : Option Value → List Ent → Prop) : Prop :=
  ∀ (ws : List Cond) (h : Heap), OKnow Z h K → MetFree l y (head1 (Cond.code y bytes maxL ret :: ws) rm) (fun a U => a = as.toArray ∧ Z.Warmed39 U.vm ∧ U.heap = h) (fun _ _ _ _ _ => True) (fun _ U o U' => ∃ v L, o = .returned v ∧ (Fr Z.heap.size L ∧ ∃ K', OKnow Z U'.heap K' ∧ Q v K') ∧ FrameEnd U o U' L rm.cells rm.slots)
section St
variable {p : Program} {l : Launch} {e : Env} {R : Room} {s : State} {m : MethodId} {args : Array Value} {below : List Frame} {meth : Method} {c : Code} {Z : State} {own : String} {cd : ByteArray} {ml : Nat} {ret : Option FieldType} {nm : String} {T : State} {cells slots : Nat} {K : List Ent} {Φ : Outcome → State → Prop} {pc : Nat} {Ls : Array Slot} {st : List Value} {a0 : Array Value}
theorem OMeets.of_body {y : MethodName} {bytes : ByteArray} {maxL : Nat} {rm : Room} {as : List Value} {Q : Option Value → List Ent → Prop} (hpl : plainFor y = true) (Ls : Array Slot) (hL : ∀ m : MethodId, entryFrame m as.toArray maxL = mkF m 0 Ls [])
    (body : ∀ p e s m below meth c T, ONow p l e rm s m as.toArray below meth c Z y.cls bytes maxL ret y.name T 0 0 K → OGo p e below (OPost Z s Q rm) T (mkF m 0 Ls [])) : OMeets l y bytes maxL ret rm Z as K Q := fun ws h hK => by
  refine MetFree.of_bodySF hpl hisR ?_
  intro p e s m args below meth c s₁ Bd hml0 hP _
  obtain ⟨rfl, hZ, hh⟩ := hP
  have X0 : Stand p l e rm s m as.toArray below meth c s₁ [] 0 0 := Stand.of_body Bd
  have e0 : s₁.heap = h := by rw [← hh, Bd.state]; rfl
  rw [hL m]
  exact body p e s m below meth c s₁ ⟨[], X0, Fr.nil _, by rw [e0]; exact hK, Bd.exec, hZ, Bd.bytes, hml0, findClass_of_methodNamed Bd.named, Bd.returns, (name_of_methodNamed Bd.named Bd.method).1, Bd.notSynchronized⟩
theorem OMeets.weak {y : MethodName} {bytes : ByteArray} {maxL : Nat} {rm : Room} {as : List Value} {Q Q' : Option Value → List Ent → Prop} (M : OMeets l y bytes maxL ret rm Z as K Q) (hq : ∀ v K', Q v K' → Q' v K') : OMeets l y bytes maxL ret rm Z as K Q' := fun ws h hK => by
  intro p e ha hc hk s m args below hf happ hP hK2
  obtain ⟨n, o, h1, h2, h3, v, L, h4, ⟨h5, K', h6, h7⟩, h8⟩ := M ws h hK p e ha hc hk s m args below hf happ hP hK2
  exact ⟨n, o, h1, h2, h3, v, L, h4, ⟨h5, K', h6, hq v K' h7⟩, h8⟩
theorem OGo.weak {Φ' : Outcome → State → Prop} {g : JFrame} (G : OGo p e below Φ T g) (hq : ∀ o U, Φ o U → Φ' o U) : OGo p e below Φ' T g := by
  obtain ⟨U, o, h1, h2, h3, h4⟩ := G
  exact ⟨U, o, h1, h2, h3, hq o U h4⟩
theorem ONow.sel {F F' rest : List Ent} (N : ONow p l e R s m args below meth c Z own cd ml ret nm T cells slots (F ++ rest)) (is : List Nat) (hn : is.Nodup) (hF : is.map (fun i => F[i]?) = F'.map some) : ONow p l e R s m args below meth c Z own cd ml ret nm T cells slots (F' ++ rest) := by
  obtain ⟨locs, X, n1, n2, n3⟩ := N
  exact ⟨locs, X, n1, n2.sel is hn hF, n3⟩
theorem ONow.cast {K' : List Ent} (N : ONow p l e R s m args below meth c Z own cd ml ret nm T cells slots K) (q : K = K') : ONow p l e R s m args below meth c Z own cd ml ret nm T cells slots K' := q ▸ N
theorem ONow.more {c' s' : Nat} (N : ONow p l e R s m args below meth c Z own cd ml ret nm T cells slots K) (h1 : cells ≤ c') (h2 : slots ≤ s') : ONow p l e R s m args below meth c Z own cd ml ret nm T c' s' K := by
  obtain ⟨locs, X, n⟩ := N
  exact ⟨locs, X.more h1 h2, n⟩
theorem k_iload (N : ONow p l e R s m args below meth c Z own cd ml ret nm T cells slots K) {k : Nat} {v : Int32} (hd : decode cd pc = .ok (.iload k, 2)) (hl : Ls[k]? = some (.val (.int v))) (hr : OGo p e below Φ T (mkF m (pc + 2) Ls (.int v :: st))) : OGo p e below Φ T (mkF m pc Ls st) := by
  obtain ⟨_, X, -, -, hx, -, hc, -⟩ := N
  obtain ⟨U, o, h1, h2⟩ := hr
  exact ⟨U, o, XS.iload X.here hx rfl (hb hc hd) hl h1, h2⟩
theorem k_iload_n (N : ONow p l e R s m args below meth c Z own cd ml ret nm T cells slots K) {k : Fin 4} {v : Int32} (hd : decode cd pc = .ok (.iload_n k, 1)) (hl : Ls[k.val]? = some (.val (.int v))) (hr : OGo p e below Φ T (mkF m (pc + 1) Ls (.int v :: st))) : OGo p e below Φ T (mkF m pc Ls st) := by
  obtain ⟨_, X, -, -, hx, -, hc, -⟩ := N
  obtain ⟨U, o, h1, h2⟩ := hr
  exact ⟨U, o, XS.iloadN X.here hx rfl (hb hc hd) hl h1, h2⟩
theorem k_istore (N : ONow p l e R s m args below meth c Z own cd ml ret nm T cells slots K) {k : Nat} {v : Int32} {Ls' : Array Slot} (hd : decode cd pc = .ok (.istore k, 2)) (hl : storeLocals Ls k (.int v) = some Ls') (hr : OGo p e below Φ T (mkF m (pc + 2) Ls' st)) : OGo p e below Φ T (mkF m pc Ls (.int v :: st)) := by
  obtain ⟨_, X, -, -, hx, -, hc, -⟩ := N
  obtain ⟨U, o, h1, h2⟩ := hr
  exact ⟨U, o, XS.istore X.here hx rfl (hb hc hd) rfl hl h1, h2⟩
theorem k_istore_n (N : ONow p l e R s m args below meth c Z own cd ml ret nm T cells slots K) {k : Fin 4} {v : Int32} {Ls' : Array Slot} (hd : decode cd pc = .ok (.istore_n k, 1)) (hl : storeLocals Ls k.val (.int v) = some Ls') (hr : OGo p e below Φ T (mkF m (pc + 1) Ls' st)) : OGo p e below Φ T (mkF m pc Ls (.int v :: st)) := by
  obtain ⟨_, X, -, -, hx, -, hc, -⟩ := N
  obtain ⟨U, o, h1, h2⟩ := hr
  exact ⟨U, o, XS.istoreN X.here hx rfl (hb hc hd) rfl hl h1, h2⟩
theorem k_lload (N : ONow p l e R s m args below meth c Z own cd ml ret nm T cells slots K) {k : Nat} {v : Int64} (hd : decode cd pc = .ok (.lload k, 2)) (hl : Ls[k]? = some (.val (.long v))) (hr : OGo p e below Φ T (mkF m (pc + 2) Ls (.long v :: st))) : OGo p e below Φ T (mkF m pc Ls st) := by
  obtain ⟨_, X, -, -, hx, -, hc, -⟩ := N
  obtain ⟨U, o, h1, h2⟩ := hr
  exact ⟨U, o, XT.lload X.here hx rfl (hb hc hd) hl h1, h2⟩
theorem k_lload_n (N : ONow p l e R s m args below meth c Z own cd ml ret nm T cells slots K) {k : Fin 4} {v : Int64} (hd : decode cd pc = .ok (.lload_n k, 1)) (hl : Ls[k.val]? = some (.val (.long v))) (hr : OGo p e below Φ T (mkF m (pc + 1) Ls (.long v :: st))) : OGo p e below Φ T (mkF m pc Ls st) := by
  obtain ⟨_, X, -, -, hx, -, hc, -⟩ := N
  obtain ⟨U, o, h1, h2⟩ := hr
  exact ⟨U, o, XT.lloadN X.here hx rfl (hb hc hd) hl h1, h2⟩
theorem k_lstore (N : ONow p l e R s m args below meth c Z own cd ml ret nm T cells slots K) {k : Nat} {v : Int64} {Ls' : Array Slot} (hd : decode cd pc = .ok (.lstore k, 2)) (hl : storeLocals Ls k (.long v) = some Ls') (hr : OGo p e below Φ T (mkF m (pc + 2) Ls' st)) : OGo p e below Φ T (mkF m pc Ls (.long v :: st)) := by
  obtain ⟨_, X, -, -, hx, -, hc, -⟩ := N
  obtain ⟨U, o, h1, h2⟩ := hr
  exact ⟨U, o, XT.lstore X.here hx rfl (hb hc hd) rfl hl h1, h2⟩
theorem k_lstore_n (N : ONow p l e R s m args below meth c Z own cd ml ret nm T cells slots K) {k : Fin 4} {v : Int64} {Ls' : Array Slot} (hd : decode cd pc = .ok (.lstore_n k, 1)) (hl : storeLocals Ls k.val (.long v) = some Ls') (hr : OGo p e below Φ T (mkF m (pc + 1) Ls' st)) : OGo p e below Φ T (mkF m pc Ls (.long v :: st)) := by
  obtain ⟨_, X, -, -, hx, -, hc, -⟩ := N
  obtain ⟨U, o, h1, h2⟩ := hr
  exact ⟨U, o, XT.lstoreN X.here hx rfl (hb hc hd) rfl hl h1, h2⟩
theorem k_dload (N : ONow p l e R s m args below meth c Z own cd ml ret nm T cells slots K) {k : Nat} {v : UInt64} (hd : decode cd pc = .ok (.dload k, 2)) (hl : Ls[k]? = some (.val (.double v))) (hr : OGo p e below Φ T (mkF m (pc + 2) Ls (.double v :: st))) : OGo p e below Φ T (mkF m pc Ls st) := by
  obtain ⟨_, X, -, -, hx, -, hc, -⟩ := N
  obtain ⟨U, o, h1, h2⟩ := hr
  exact ⟨U, o, XS.dload X.here hx rfl (hb hc hd) hl h1, h2⟩
theorem k_dload_n (N : ONow p l e R s m args below meth c Z own cd ml ret nm T cells slots K) {k : Fin 4} {v : UInt64} (hd : decode cd pc = .ok (.dload_n k, 1)) (hl : Ls[k.val]? = some (.val (.double v))) (hr : OGo p e below Φ T (mkF m (pc + 1) Ls (.double v :: st))) : OGo p e below Φ T (mkF m pc Ls st) := by
  obtain ⟨_, X, -, -, hx, -, hc, -⟩ := N
  obtain ⟨U, o, h1, h2⟩ := hr
  exact ⟨U, o, XS.dloadN X.here hx rfl (hb hc hd) hl h1, h2⟩
theorem k_dstore (N : ONow p l e R s m args below meth c Z own cd ml ret nm T cells slots K) {k : Nat} {v : UInt64} {Ls' : Array Slot} (hd : decode cd pc = .ok (.dstore k, 2)) (hl : storeLocals Ls k (.double v) = some Ls') (hr : OGo p e below Φ T (mkF m (pc + 2) Ls' st)) : OGo p e below Φ T (mkF m pc Ls (.double v :: st)) := by
  obtain ⟨_, X, -, -, hx, -, hc, -⟩ := N
  obtain ⟨U, o, h1, h2⟩ := hr
  exact ⟨U, o, XS.dstore X.here hx rfl (hb hc hd) rfl hl h1, h2⟩
theorem k_dstore_n (N : ONow p l e R s m args below meth c Z own cd ml ret nm T cells slots K) {k : Fin 4} {v : UInt64} {Ls' : Array Slot} (hd : decode cd pc = .ok (.dstore_n k, 1)) (hl : storeLocals Ls k.val (.double v) = some Ls') (hr : OGo p e below Φ T (mkF m (pc + 1) Ls' st)) : OGo p e below Φ T (mkF m pc Ls (.double v :: st)) := by
  obtain ⟨_, X, -, -, hx, -, hc, -⟩ := N
  obtain ⟨U, o, h1, h2⟩ := hr
  exact ⟨U, o, XS.dstoreN X.here hx rfl (hb hc hd) rfl hl h1, h2⟩
theorem k_aload (N : ONow p l e R s m args below meth c Z own cd ml ret nm T cells slots K) {k : Nat} {v : Value} (hd : decode cd pc = .ok (.aload k, 2)) (hl : Ls[k]? = some (.val v)) (hv : v.isRef = true) (hr : OGo p e below Φ T (mkF m (pc + 2) Ls (v :: st))) : OGo p e below Φ T (mkF m pc Ls st) := by
  obtain ⟨_, X, -, -, hx, -, hc, -⟩ := N
  obtain ⟨U, o, h1, h2⟩ := hr
  exact ⟨U, o, XS.aload X.here hx rfl (hb hc hd) hl hv h1, h2⟩
theorem k_aload_n (N : ONow p l e R s m args below meth c Z own cd ml ret nm T cells slots K) {k : Fin 4} {v : Value} (hd : decode cd pc = .ok (.aload_n k, 1)) (hl : Ls[k.val]? = some (.val v)) (hv : v.isRef = true) (hr : OGo p e below Φ T (mkF m (pc + 1) Ls (v :: st))) : OGo p e below Φ T (mkF m pc Ls st) := by
  obtain ⟨_, X, -, -, hx, -, hc, -⟩ := N
  obtain ⟨U, o, h1, h2⟩ := hr
  exact ⟨U, o, XS.aloadN X.here hx rfl (hb hc hd) hl hv h1, h2⟩
theorem k_astore (N : ONow p l e R s m args below meth c Z own cd ml ret nm T cells slots K) {k : Nat} {v : Value} {Ls' : Array Slot} (hd : decode cd pc = .ok (.astore k, 2)) (hv : v.isRef = true) (hl : storeLocals Ls k v = some Ls') (hr : OGo p e below Φ T (mkF m (pc + 2) Ls' st)) : OGo p e below Φ T (mkF m pc Ls (v :: st)) := by
  obtain ⟨_, X, -, -, hx, -, hc, -⟩ := N
  obtain ⟨U, o, h1, h2⟩ := hr
  exact ⟨U, o, XS.astore X.here hx rfl (hb hc hd) rfl hv hl h1, h2⟩
theorem k_astore_n (N : ONow p l e R s m args below meth c Z own cd ml ret nm T cells slots K) {k : Fin 4} {v : Value} {Ls' : Array Slot} (hd : decode cd pc = .ok (.astore_n k, 1)) (hv : v.isRef = true) (hl : storeLocals Ls k.val v = some Ls') (hr : OGo p e below Φ T (mkF m (pc + 1) Ls' st)) : OGo p e below Φ T (mkF m pc Ls (v :: st)) := by
  obtain ⟨_, X, -, -, hx, -, hc, -⟩ := N
  obtain ⟨U, o, h1, h2⟩ := hr
  exact ⟨U, o, XS.astoreN X.here hx rfl (hb hc hd) rfl hv hl h1, h2⟩
theorem k_iconst (N : ONow p l e R s m args below meth c Z own cd ml ret nm T cells slots K) {i : Int} {v : Int32} (hd : decode cd pc = .ok (.iconst i, 1)) (hv : Int32.ofInt i = v) (hr : OGo p e below Φ T (mkF m (pc + 1) Ls (.int v :: st))) : OGo p e below Φ T (mkF m pc Ls st) := by
  subst hv
  obtain ⟨_, X, -, -, hx, -, hc, -⟩ := N
  obtain ⟨U, o, h1, h2⟩ := hr
  exact ⟨U, o, XS.iconst X.here hx rfl (hb hc hd) h1, h2⟩
theorem k_bipush (N : ONow p l e R s m args below meth c Z own cd ml ret nm T cells slots K) {i : Int} {v : Int32} (hd : decode cd pc = .ok (.bipush i, 2)) (hv : (Int8.ofInt i).toInt32 = v) (hr : OGo p e below Φ T (mkF m (pc + 2) Ls (.int v :: st))) : OGo p e below Φ T (mkF m pc Ls st) := by
  subst hv
  obtain ⟨_, X, -, -, hx, -, hc, -⟩ := N
  obtain ⟨U, o, h1, h2⟩ := hr
  exact ⟨U, o, XS.bipush X.here hx rfl (hb hc hd) h1, h2⟩
theorem k_sipush (N : ONow p l e R s m args below meth c Z own cd ml ret nm T cells slots K) {i : Int} {v : Int32} (hd : decode cd pc = .ok (.sipush i, 3)) (hv : (Int16.ofInt i).toInt32 = v) (hr : OGo p e below Φ T (mkF m (pc + 3) Ls (.int v :: st))) : OGo p e below Φ T (mkF m pc Ls st) := by
  subst hv
  obtain ⟨_, X, -, -, hx, -, hc, -⟩ := N
  obtain ⟨U, o, h1, h2⟩ := hr
  exact ⟨U, o, XS.sipush X.here hx rfl (hb hc hd) h1, h2⟩
theorem k_lconst (N : ONow p l e R s m args below meth c Z own cd ml ret nm T cells slots K) {k : Fin 2} {v : Int64} (hd : decode cd pc = .ok (.lconst k, 1)) (hv : Int64.ofNat k = v) (hr : OGo p e below Φ T (mkF m (pc + 1) Ls (.long v :: st))) : OGo p e below Φ T (mkF m pc Ls st) := by
  subst hv
  obtain ⟨_, X, -, -, hx, -, hc, -⟩ := N
  obtain ⟨U, o, h1, h2⟩ := hr
  exact ⟨U, o, XT.lconst X.here hx rfl (hb hc hd) h1, h2⟩
theorem k_dconst0 (N : ONow p l e R s m args below meth c Z own cd ml ret nm T cells slots K) {v : UInt64} (hd : decode cd pc = .ok (.dconst 0, 1)) (hv : FP.dconst0 = v) (hr : OGo p e below Φ T (mkF m (pc + 1) Ls (.double v :: st))) : OGo p e below Φ T (mkF m pc Ls st) := by
  obtain ⟨_, X, -, -, hx, -, hc, -⟩ := N
  obtain ⟨U, o, h1, h2⟩ := hr
  exact ⟨U, o, XS.dconst0 X.here hx rfl (hb hc hd) hv h1, h2⟩
theorem k_dconst1 (N : ONow p l e R s m args below meth c Z own cd ml ret nm T cells slots K) {v : UInt64} (hd : decode cd pc = .ok (.dconst 1, 1)) (hv : FP.dconst1 = v) (hr : OGo p e below Φ T (mkF m (pc + 1) Ls (.double v :: st))) : OGo p e below Φ T (mkF m pc Ls st) := by
  obtain ⟨_, X, -, -, hx, -, hc, -⟩ := N
  obtain ⟨U, o, h1, h2⟩ := hr
  exact ⟨U, o, XS.dconst1 X.here hx rfl (hb hc hd) hv h1, h2⟩
theorem k_null (N : ONow p l e R s m args below meth c Z own cd ml ret nm T cells slots K) (hd : decode cd pc = .ok (.aconst_null, 1)) (hr : OGo p e below Φ T (mkF m (pc + 1) Ls (.null :: st))) : OGo p e below Φ T (mkF m pc Ls st) := by
  obtain ⟨_, X, -, -, hx, -, hc, -⟩ := N
  obtain ⟨U, o, h1, h2⟩ := hr
  exact ⟨U, o, XS.aconstNull X.here hx rfl (hb hc hd) h1, h2⟩
theorem k_iadd (N : ONow p l e R s m args below meth c Z own cd ml ret nm T cells slots K) {x y : Int32} (hd : decode cd pc = .ok (.iadd, 1)) (hr : OGo p e below Φ T (mkF m (pc + 1) Ls (.int (x + y) :: st))) : OGo p e below Φ T (mkF m pc Ls (.int y :: .int x :: st)) := by
  obtain ⟨_, X, -, -, hx, -, hc, -⟩ := N
  obtain ⟨U, o, h1, h2⟩ := hr
  exact ⟨U, o, XS.iadd X.here hx rfl (hb hc hd) rfl h1, h2⟩
theorem k_isub (N : ONow p l e R s m args below meth c Z own cd ml ret nm T cells slots K) {x y : Int32} (hd : decode cd pc = .ok (.isub, 1)) (hr : OGo p e below Φ T (mkF m (pc + 1) Ls (.int (x - y) :: st))) : OGo p e below Φ T (mkF m pc Ls (.int y :: .int x :: st)) := by
  obtain ⟨_, X, -, -, hx, -, hc, -⟩ := N
  obtain ⟨U, o, h1, h2⟩ := hr
  exact ⟨U, o, XS.isub X.here hx rfl (hb hc hd) rfl h1, h2⟩
theorem k_imul (N : ONow p l e R s m args below meth c Z own cd ml ret nm T cells slots K) {x y : Int32} (hd : decode cd pc = .ok (.imul, 1)) (hr : OGo p e below Φ T (mkF m (pc + 1) Ls (.int (x * y) :: st))) : OGo p e below Φ T (mkF m pc Ls (.int y :: .int x :: st)) := by
  obtain ⟨_, X, -, -, hx, -, hc, -⟩ := N
  obtain ⟨U, o, h1, h2⟩ := hr
  exact ⟨U, o, XS.imul X.here hx rfl (hb hc hd) rfl h1, h2⟩
theorem k_iand (N : ONow p l e R s m args below meth c Z own cd ml ret nm T cells slots K) {x y : Int32} (hd : decode cd pc = .ok (.iand, 1)) (hr : OGo p e below Φ T (mkF m (pc + 1) Ls (.int (x &&& y) :: st))) : OGo p e below Φ T (mkF m pc Ls (.int y :: .int x :: st)) := by
  obtain ⟨_, X, -, -, hx, -, hc, -⟩ := N
  obtain ⟨U, o, h1, h2⟩ := hr
  exact ⟨U, o, XS.iand X.here hx rfl (hb hc hd) rfl h1, h2⟩
theorem k_ixor (N : ONow p l e R s m args below meth c Z own cd ml ret nm T cells slots K) {x y : Int32} (hd : decode cd pc = .ok (.ixor, 1)) (hr : OGo p e below Φ T (mkF m (pc + 1) Ls (.int (x ^^^ y) :: st))) : OGo p e below Φ T (mkF m pc Ls (.int y :: .int x :: st)) := by
  obtain ⟨_, X, -, -, hx, -, hc, -⟩ := N
  obtain ⟨U, o, h1, h2⟩ := hr
  exact ⟨U, o, XT.ixor X.here hx rfl (hb hc hd) rfl h1, h2⟩
theorem k_ior (N : ONow p l e R s m args below meth c Z own cd ml ret nm T cells slots K) {x y : Int32} (hd : decode cd pc = .ok (.ior, 1)) (hr : OGo p e below Φ T (mkF m (pc + 1) Ls (.int (x ||| y) :: st))) : OGo p e below Φ T (mkF m pc Ls (.int y :: .int x :: st)) := by
  obtain ⟨_, X, -, -, hx, -, hc, -⟩ := N
  obtain ⟨U, o, h1, h2⟩ := hr
  exact ⟨U, o, XT.ior X.here hx rfl (hb hc hd) rfl h1, h2⟩
theorem k_ishl (N : ONow p l e R s m args below meth c Z own cd ml ret nm T cells slots K) {x y : Int32} (hd : decode cd pc = .ok (.ishl, 1)) (hr : OGo p e below Φ T (mkF m (pc + 1) Ls (.int (x <<< (y &&& 31)) :: st))) : OGo p e below Φ T (mkF m pc Ls (.int y :: .int x :: st)) := by
  obtain ⟨_, X, -, -, hx, -, hc, -⟩ := N
  obtain ⟨U, o, h1, h2⟩ := hr
  exact ⟨U, o, XT.ishl X.here hx rfl (hb hc hd) rfl h1, h2⟩
theorem k_ishr (N : ONow p l e R s m args below meth c Z own cd ml ret nm T cells slots K) {x y : Int32} (hd : decode cd pc = .ok (.ishr, 1)) (hr : OGo p e below Φ T (mkF m (pc + 1) Ls (.int (x >>> (y &&& 31)) :: st))) : OGo p e below Φ T (mkF m pc Ls (.int y :: .int x :: st)) := by
  obtain ⟨_, X, -, -, hx, -, hc, -⟩ := N
  obtain ⟨U, o, h1, h2⟩ := hr
  exact ⟨U, o, XT.ishr X.here hx rfl (hb hc hd) rfl h1, h2⟩
theorem k_iushr (N : ONow p l e R s m args below meth c Z own cd ml ret nm T cells slots K) {x y : Int32} (hd : decode cd pc = .ok (.iushr, 1)) (hr : OGo p e below Φ T (mkF m (pc + 1) Ls (.int (XT.ushr x y) :: st))) : OGo p e below Φ T (mkF m pc Ls (.int y :: .int x :: st)) := by
  obtain ⟨_, X, -, -, hx, -, hc, -⟩ := N
  obtain ⟨U, o, h1, h2⟩ := hr
  exact ⟨U, o, XT.iushr X.here hx rfl (hb hc hd) rfl h1, h2⟩
theorem k_idiv (N : ONow p l e R s m args below meth c Z own cd ml ret nm T cells slots K) {x y : Int32} (hd : decode cd pc = .ok (.idiv, 1)) (hy : y ≠ 0) (hr : OGo p e below Φ T (mkF m (pc + 1) Ls (.int (x / y) :: st))) : OGo p e below Φ T (mkF m pc Ls (.int y :: .int x :: st)) := by
  obtain ⟨_, X, -, -, hx, -, hc, -⟩ := N
  obtain ⟨U, o, h1, h2⟩ := hr
  exact ⟨U, o, XS.idiv X.here hx rfl (hb hc hd) rfl hy h1, h2⟩
theorem k_irem (N : ONow p l e R s m args below meth c Z own cd ml ret nm T cells slots K) {x y : Int32} (hd : decode cd pc = .ok (.irem, 1)) (hy : y ≠ 0) (hr : OGo p e below Φ T (mkF m (pc + 1) Ls (.int (x % y) :: st))) : OGo p e below Φ T (mkF m pc Ls (.int y :: .int x :: st)) := by
  obtain ⟨_, X, -, -, hx, -, hc, -⟩ := N
  obtain ⟨U, o, h1, h2⟩ := hr
  exact ⟨U, o, iremM X hx rfl (hb hc hd) rfl hy h1, h2⟩
theorem k_ineg (N : ONow p l e R s m args below meth c Z own cd ml ret nm T cells slots K) {x : Int32} (hd : decode cd pc = .ok (.ineg, 1)) (hr : OGo p e below Φ T (mkF m (pc + 1) Ls (.int (-x) :: st))) : OGo p e below Φ T (mkF m pc Ls (.int x :: st)) := by
  obtain ⟨_, X, -, -, hx, -, hc, -⟩ := N
  obtain ⟨U, o, h1, h2⟩ := hr
  exact ⟨U, o, XS.ineg X.here hx rfl (hb hc hd) rfl h1, h2⟩
theorem k_ladd (N : ONow p l e R s m args below meth c Z own cd ml ret nm T cells slots K) {x y : Int64} (hd : decode cd pc = .ok (.ladd, 1)) (hr : OGo p e below Φ T (mkF m (pc + 1) Ls (.long (x + y) :: st))) : OGo p e below Φ T (mkF m pc Ls (.long y :: .long x :: st)) := by
  obtain ⟨_, X, -, -, hx, -, hc, -⟩ := N
  obtain ⟨U, o, h1, h2⟩ := hr
  exact ⟨U, o, XT.ladd X.here hx rfl (hb hc hd) rfl h1, h2⟩
theorem k_lsub (N : ONow p l e R s m args below meth c Z own cd ml ret nm T cells slots K) {x y : Int64} (hd : decode cd pc = .ok (.lsub, 1)) (hr : OGo p e below Φ T (mkF m (pc + 1) Ls (.long (x - y) :: st))) : OGo p e below Φ T (mkF m pc Ls (.long y :: .long x :: st)) := by
  obtain ⟨_, X, -, -, hx, -, hc, -⟩ := N
  obtain ⟨U, o, h1, h2⟩ := hr
  exact ⟨U, o, XT.lsub X.here hx rfl (hb hc hd) rfl h1, h2⟩
theorem k_lmul (N : ONow p l e R s m args below meth c Z own cd ml ret nm T cells slots K) {x y : Int64} (hd : decode cd pc = .ok (.lmul, 1)) (hr : OGo p e below Φ T (mkF m (pc + 1) Ls (.long (x * y) :: st))) : OGo p e below Φ T (mkF m pc Ls (.long y :: .long x :: st)) := by
  obtain ⟨_, X, -, -, hx, -, hc, -⟩ := N
  obtain ⟨U, o, h1, h2⟩ := hr
  exact ⟨U, o, XT.lmul X.here hx rfl (hb hc hd) rfl h1, h2⟩
theorem k_land (N : ONow p l e R s m args below meth c Z own cd ml ret nm T cells slots K) {x y : Int64} (hd : decode cd pc = .ok (.land, 1)) (hr : OGo p e below Φ T (mkF m (pc + 1) Ls (.long (x &&& y) :: st))) : OGo p e below Φ T (mkF m pc Ls (.long y :: .long x :: st)) := by
  obtain ⟨_, X, -, -, hx, -, hc, -⟩ := N
  obtain ⟨U, o, h1, h2⟩ := hr
  exact ⟨U, o, XT.land X.here hx rfl (hb hc hd) rfl h1, h2⟩
theorem k_lor (N : ONow p l e R s m args below meth c Z own cd ml ret nm T cells slots K) {x y : Int64} (hd : decode cd pc = .ok (.lor, 1)) (hr : OGo p e below Φ T (mkF m (pc + 1) Ls (.long (x ||| y) :: st))) : OGo p e below Φ T (mkF m pc Ls (.long y :: .long x :: st)) := by
  obtain ⟨_, X, -, -, hx, -, hc, -⟩ := N
  obtain ⟨U, o, h1, h2⟩ := hr
  exact ⟨U, o, XT.lor X.here hx rfl (hb hc hd) rfl h1, h2⟩
theorem k_lxor (N : ONow p l e R s m args below meth c Z own cd ml ret nm T cells slots K) {x y : Int64} (hd : decode cd pc = .ok (.lxor, 1)) (hr : OGo p e below Φ T (mkF m (pc + 1) Ls (.long (x ^^^ y) :: st))) : OGo p e below Φ T (mkF m pc Ls (.long y :: .long x :: st)) := by
  obtain ⟨_, X, -, -, hx, -, hc, -⟩ := N
  obtain ⟨U, o, h1, h2⟩ := hr
  exact ⟨U, o, XT.lxor X.here hx rfl (hb hc hd) rfl h1, h2⟩
theorem k_lshl (N : ONow p l e R s m args below meth c Z own cd ml ret nm T cells slots K) {x : Int64} {y : Int32} (hd : decode cd pc = .ok (.lshl, 1)) (hr : OGo p e below Φ T (mkF m (pc + 1) Ls (.long (x <<< (y.toInt64 &&& 63)) :: st))) : OGo p e below Φ T (mkF m pc Ls (.int y :: .long x :: st)) := by
  obtain ⟨_, X, -, -, hx, -, hc, -⟩ := N
  obtain ⟨U, o, h1, h2⟩ := hr
  exact ⟨U, o, XT.lshl X.here hx rfl (hb hc hd) rfl h1, h2⟩
theorem k_lshr (N : ONow p l e R s m args below meth c Z own cd ml ret nm T cells slots K) {x : Int64} {y : Int32} (hd : decode cd pc = .ok (.lshr, 1)) (hr : OGo p e below Φ T (mkF m (pc + 1) Ls (.long (x >>> (y.toInt64 &&& 63)) :: st))) : OGo p e below Φ T (mkF m pc Ls (.int y :: .long x :: st)) := by
  obtain ⟨_, X, -, -, hx, -, hc, -⟩ := N
  obtain ⟨U, o, h1, h2⟩ := hr
  exact ⟨U, o, XT.lshr X.here hx rfl (hb hc hd) rfl h1, h2⟩
theorem k_lushr (N : ONow p l e R s m args below meth c Z own cd ml ret nm T cells slots K) {x : Int64} {y : Int32} (hd : decode cd pc = .ok (.lushr, 1)) (hr : OGo p e below Φ T (mkF m (pc + 1) Ls (.long (XT.ushrL x y) :: st))) : OGo p e below Φ T (mkF m pc Ls (.int y :: .long x :: st)) := by
  obtain ⟨_, X, -, -, hx, -, hc, -⟩ := N
  obtain ⟨U, o, h1, h2⟩ := hr
  exact ⟨U, o, XT.lushr X.here hx rfl (hb hc hd) rfl h1, h2⟩
theorem k_lcmp (N : ONow p l e R s m args below meth c Z own cd ml ret nm T cells slots K) {x y : Int64} (hd : decode cd pc = .ok (.lcmp, 1)) (hr : OGo p e below Φ T (mkF m (pc + 1) Ls (.int (XT.cmpL x y) :: st))) : OGo p e below Φ T (mkF m pc Ls (.long y :: .long x :: st)) := by
  obtain ⟨_, X, -, -, hx, -, hc, -⟩ := N
  obtain ⟨U, o, h1, h2⟩ := hr
  exact ⟨U, o, XT.lcmp X.here hx rfl (hb hc hd) rfl h1, h2⟩
theorem k_i2l (N : ONow p l e R s m args below meth c Z own cd ml ret nm T cells slots K) {x : Int32} (hd : decode cd pc = .ok (.i2l, 1)) (hr : OGo p e below Φ T (mkF m (pc + 1) Ls (.long x.toInt64 :: st))) : OGo p e below Φ T (mkF m pc Ls (.int x :: st)) := by
  obtain ⟨_, X, -, -, hx, -, hc, -⟩ := N
  obtain ⟨U, o, h1, h2⟩ := hr
  exact ⟨U, o, XT.i2l X.here hx rfl (hb hc hd) rfl h1, h2⟩
theorem k_l2i (N : ONow p l e R s m args below meth c Z own cd ml ret nm T cells slots K) {x : Int64} (hd : decode cd pc = .ok (.l2i, 1)) (hr : OGo p e below Φ T (mkF m (pc + 1) Ls (.int x.toInt32 :: st))) : OGo p e below Φ T (mkF m pc Ls (.long x :: st)) := by
  obtain ⟨_, X, -, -, hx, -, hc, -⟩ := N
  obtain ⟨U, o, h1, h2⟩ := hr
  exact ⟨U, o, XT.l2i X.here hx rfl (hb hc hd) rfl h1, h2⟩
theorem k_i2b (N : ONow p l e R s m args below meth c Z own cd ml ret nm T cells slots K) {x : Int32} (hd : decode cd pc = .ok (.i2b, 1)) (hr : OGo p e below Φ T (mkF m (pc + 1) Ls (.int x.toInt8.toInt32 :: st))) : OGo p e below Φ T (mkF m pc Ls (.int x :: st)) := by
  obtain ⟨_, X, -, -, hx, -, hc, -⟩ := N
  obtain ⟨U, o, h1, h2⟩ := hr
  exact ⟨U, o, XT.i2b X.here hx rfl (hb hc hd) rfl h1, h2⟩
theorem k_i2c (N : ONow p l e R s m args below meth c Z own cd ml ret nm T cells slots K) {x : Int32} (hd : decode cd pc = .ok (.i2c, 1)) (hr : OGo p e below Φ T (mkF m (pc + 1) Ls (.int x.toUInt32.toUInt16.toUInt32.toInt32 :: st))) : OGo p e below Φ T (mkF m pc Ls (.int x :: st)) := by
  obtain ⟨_, X, -, -, hx, -, hc, -⟩ := N
  obtain ⟨U, o, h1, h2⟩ := hr
  exact ⟨U, o, XT.i2c X.here hx rfl (hb hc hd) rfl h1, h2⟩
theorem k_i2s (N : ONow p l e R s m args below meth c Z own cd ml ret nm T cells slots K) {x : Int32} (hd : decode cd pc = .ok (.i2s, 1)) (hr : OGo p e below Φ T (mkF m (pc + 1) Ls (.int x.toInt16.toInt32 :: st))) : OGo p e below Φ T (mkF m pc Ls (.int x :: st)) := by
  obtain ⟨_, X, -, -, hx, -, hc, -⟩ := N
  obtain ⟨U, o, h1, h2⟩ := hr
  exact ⟨U, o, XT.i2s X.here hx rfl (hb hc hd) rfl h1, h2⟩
theorem k_i2d (N : ONow p l e R s m args below meth c Z own cd ml ret nm T cells slots K) {x : Int32} (hd : decode cd pc = .ok (.i2d, 1)) (hr : OGo p e below Φ T (mkF m (pc + 1) Ls (.double (FP.i2d x) :: st))) : OGo p e below Φ T (mkF m pc Ls (.int x :: st)) := by
  obtain ⟨_, X, -, -, hx, -, hc, -⟩ := N
  obtain ⟨U, o, h1, h2⟩ := hr
  exact ⟨U, o, XS.i2dS X.here hx rfl (hb hc hd) rfl rfl h1, h2⟩
theorem k_l2d (N : ONow p l e R s m args below meth c Z own cd ml ret nm T cells slots K) {x : Int64} (hd : decode cd pc = .ok (.l2d, 1)) (hr : OGo p e below Φ T (mkF m (pc + 1) Ls (.double (FP.l2d x) :: st))) : OGo p e below Φ T (mkF m pc Ls (.long x :: st)) := by
  obtain ⟨_, X, -, -, hx, -, hc, -⟩ := N
  obtain ⟨U, o, h1, h2⟩ := hr
  exact ⟨U, o, XS.l2dS X.here hx rfl (hb hc hd) rfl rfl h1, h2⟩
theorem k_d2i (N : ONow p l e R s m args below meth c Z own cd ml ret nm T cells slots K) {x : UInt64} (hd : decode cd pc = .ok (.d2i, 1)) (hr : OGo p e below Φ T (mkF m (pc + 1) Ls (.int (FP.d2i x) :: st))) : OGo p e below Φ T (mkF m pc Ls (.double x :: st)) := by
  obtain ⟨_, X, -, -, hx, -, hc, -⟩ := N
  obtain ⟨U, o, h1, h2⟩ := hr
  exact ⟨U, o, XS.d2iS X.here hx rfl (hb hc hd) rfl rfl h1, h2⟩
theorem k_d2l (N : ONow p l e R s m args below meth c Z own cd ml ret nm T cells slots K) {x : UInt64} (hd : decode cd pc = .ok (.d2l, 1)) (hr : OGo p e below Φ T (mkF m (pc + 1) Ls (.long (FP.d2l x) :: st))) : OGo p e below Φ T (mkF m pc Ls (.double x :: st)) := by
  obtain ⟨_, X, -, -, hx, -, hc, -⟩ := N
  obtain ⟨U, o, h1, h2⟩ := hr
  exact ⟨U, o, XS.d2lS X.here hx rfl (hb hc hd) rfl rfl h1, h2⟩
theorem k_dneg (N : ONow p l e R s m args below meth c Z own cd ml ret nm T cells slots K) {x : UInt64} (hd : decode cd pc = .ok (.dneg, 1)) (hr : OGo p e below Φ T (mkF m (pc + 1) Ls (.double (FP.dneg x) :: st))) : OGo p e below Φ T (mkF m pc Ls (.double x :: st)) := by
  obtain ⟨_, X, -, -, hx, -, hc, -⟩ := N
  obtain ⟨U, o, h1, h2⟩ := hr
  exact ⟨U, o, XS.dnegS X.here hx rfl (hb hc hd) rfl rfl h1, h2⟩
theorem k_dadd (N : ONow p l e R s m args below meth c Z own cd ml ret nm T cells slots K) {x y v : UInt64} (hd : decode cd pc = .ok (.dadd, 1)) (hn : Jvm.Free.Fl.NoNaN64 (FP.dadd x y)) (hv : FP.dadd x y = v) (hr : OGo p e below Φ T (mkF m (pc + 1) Ls (.double v :: st))) : OGo p e below Φ T (mkF m pc Ls (.double y :: .double x :: st)) := by
  obtain ⟨_, X, -, -, hx, -, hc, -⟩ := N
  obtain ⟨U, o, h1, h2⟩ := hr
  exact ⟨U, o, XS.daddS X.here hx rfl (hb hc hd) rfl hn hv h1, h2⟩
theorem k_dsub (N : ONow p l e R s m args below meth c Z own cd ml ret nm T cells slots K) {x y v : UInt64} (hd : decode cd pc = .ok (.dsub, 1)) (hn : Jvm.Free.Fl.NoNaN64 (FP.dsub x y)) (hv : FP.dsub x y = v) (hr : OGo p e below Φ T (mkF m (pc + 1) Ls (.double v :: st))) : OGo p e below Φ T (mkF m pc Ls (.double y :: .double x :: st)) := by
  obtain ⟨_, X, -, -, hx, -, hc, -⟩ := N
  obtain ⟨U, o, h1, h2⟩ := hr
  exact ⟨U, o, XS.dsubS X.here hx rfl (hb hc hd) rfl hn hv h1, h2⟩
theorem k_dmul (N : ONow p l e R s m args below meth c Z own cd ml ret nm T cells slots K) {x y v : UInt64} (hd : decode cd pc = .ok (.dmul, 1)) (hn : Jvm.Free.Fl.NoNaN64 (FP.dmul x y)) (hv : FP.dmul x y = v) (hr : OGo p e below Φ T (mkF m (pc + 1) Ls (.double v :: st))) : OGo p e below Φ T (mkF m pc Ls (.double y :: .double x :: st)) := by
  obtain ⟨_, X, -, -, hx, -, hc, -⟩ := N
  obtain ⟨U, o, h1, h2⟩ := hr
  exact ⟨U, o, XS.dmulS X.here hx rfl (hb hc hd) rfl hn hv h1, h2⟩
theorem k_ddiv (N : ONow p l e R s m args below meth c Z own cd ml ret nm T cells slots K) {x y v : UInt64} (hd : decode cd pc = .ok (.ddiv, 1)) (hn : Jvm.Free.Fl.NoNaN64 (FP.ddiv x y)) (hv : FP.ddiv x y = v) (hr : OGo p e below Φ T (mkF m (pc + 1) Ls (.double v :: st))) : OGo p e below Φ T (mkF m pc Ls (.double y :: .double x :: st)) := by
  obtain ⟨_, X, -, -, hx, -, hc, -⟩ := N
  obtain ⟨U, o, h1, h2⟩ := hr
  exact ⟨U, o, XS.ddivS X.here hx rfl (hb hc hd) rfl hn hv h1, h2⟩
theorem k_dcmp (N : ONow p l e R s m args below meth c Z own cd ml ret nm T cells slots K) {k : CmpOp} {x y : UInt64} {v : Int32} (hd : decode cd pc = .ok (.dcmp k, 1)) (hv : cmpValue (FP.dcmp x y) k = v) (hr : OGo p e below Φ T (mkF m (pc + 1) Ls (.int v :: st))) : OGo p e below Φ T (mkF m pc Ls (.double y :: .double x :: st)) := by
  obtain ⟨_, X, -, -, hx, -, hc, -⟩ := N
  obtain ⟨U, o, h1, h2⟩ := hr
  exact ⟨U, o, XS.dcmpS X.here hx rfl (hb hc hd) rfl hv h1, h2⟩
theorem k_pop (N : ONow p l e R s m args below meth c Z own cd ml ret nm T cells slots K) {x : Value} (hd : decode cd pc = .ok (.pop, 1)) (hk1 : x.category = 1) (hr : OGo p e below Φ T (mkF m (pc + 1) Ls st)) : OGo p e below Φ T (mkF m pc Ls (x :: st)) := by
  obtain ⟨_, X, -, -, hx, -, hc, -⟩ := N
  obtain ⟨U, o, h1, h2⟩ := hr
  exact ⟨U, o, XT.pop X.here hx rfl (hb hc hd) rfl hk1 h1, h2⟩
theorem k_dup (N : ONow p l e R s m args below meth c Z own cd ml ret nm T cells slots K) {x : Value} (hd : decode cd pc = .ok (.dup, 1)) (hk1 : x.category = 1) (hr : OGo p e below Φ T (mkF m (pc + 1) Ls (x :: x :: st))) : OGo p e below Φ T (mkF m pc Ls (x :: st)) := by
  obtain ⟨_, X, -, -, hx, -, hc, -⟩ := N
  obtain ⟨U, o, h1, h2⟩ := hr
  exact ⟨U, o, XS.dup X.here hx rfl (hb hc hd) rfl hk1 h1, h2⟩
theorem k_dup_x1 (N : ONow p l e R s m args below meth c Z own cd ml ret nm T cells slots K) {x y : Value} (hd : decode cd pc = .ok (.dup_x1, 1)) (hk1 : x.category = 1) (hk2 : y.category = 1) (hr : OGo p e below Φ T (mkF m (pc + 1) Ls (x :: y :: x :: st))) : OGo p e below Φ T (mkF m pc Ls (x :: y :: st)) := by
  obtain ⟨_, X, -, -, hx, -, hc, -⟩ := N
  obtain ⟨U, o, h1, h2⟩ := hr
  exact ⟨U, o, XT.dupX1 X.here hx rfl (hb hc hd) rfl hk1 hk2 h1, h2⟩
theorem k_dup2 (N : ONow p l e R s m args below meth c Z own cd ml ret nm T cells slots K) {x y : Value} (hd : decode cd pc = .ok (.dup2, 1)) (hk1 : x.category = 1) (hk2 : y.category = 1) (hr : OGo p e below Φ T (mkF m (pc + 1) Ls (x :: y :: x :: y :: st))) : OGo p e below Φ T (mkF m pc Ls (x :: y :: st)) := by
  obtain ⟨_, X, -, -, hx, -, hc, -⟩ := N
  obtain ⟨U, o, h1, h2⟩ := hr
  exact ⟨U, o, XT.dup2 X.here hx rfl (hb hc hd) rfl hk1 hk2 h1, h2⟩
theorem k_iinc (N : ONow p l e R s m args below meth c Z own cd ml ret nm T cells slots K) {k : Nat} {i : Int} {x v : Int32} {Ls' : Array Slot} (hd : decode cd pc = .ok (.iinc k i, 3)) (hl : Ls[k]? = some (.val (.int x))) (hv : x + Int32.ofInt i = v) (hl' : storeLocals Ls k (.int v) = some Ls') (hr : OGo p e below Φ T (mkF m (pc + 3) Ls' st)) : OGo p e below Φ T (mkF m pc Ls st) := by
  subst hv
  obtain ⟨_, X, -, -, hx, -, hc, -⟩ := N
  obtain ⟨U, o, h1, h2⟩ := hr
  exact ⟨U, o, XS.iinc X.here hx rfl (hb hc hd) hl hl' h1, h2⟩
theorem k_goto (N : ONow p l e R s m args below meth c Z own cd ml ret nm T cells slots K) {i : Int} {pc' : Nat} (hd : decode cd pc = .ok (.goto i, 3)) (hp : 0 ≤ (pc : Int) + i ∧ ((pc : Int) + i).toNat = pc') (hr : OGo p e below Φ T (mkF m pc' Ls st)) : OGo p e below Φ T (mkF m pc Ls st) := by
  obtain ⟨_, X, -, -, hx, -, hc, -⟩ := N
  obtain ⟨U, o, h1, h2⟩ := hr
  exact ⟨U, o, XS.goto X.here hx rfl rfl (hb hc hd) hp.1 hp.2 h1, h2⟩
theorem k_if_eq (N : ONow p l e R s m args below meth c Z own cd ml ret nm T cells slots K) {x : Int32} {i : Int} {pc' : Nat} (hd : decode cd pc = .ok (.ifCond .eq i, 3)) (hp : 0 ≤ (pc : Int) + i ∧ ((pc : Int) + i).toNat = pc') (h1 : x = 0 → OGo p e below Φ T (mkF m pc' Ls st)) (h2 : ¬ x = 0 → OGo p e below Φ T (mkF m (pc + 3) Ls st)) : OGo p e below Φ T (mkF m pc Ls (.int x :: st)) := by
  obtain ⟨_, X, -, -, hx, -, hc, -⟩ := N
  by_cases q : x = 0
  · obtain ⟨U, o, g1, g2⟩ := h1 q
    exact ⟨U, o, XS.ifYes X.here hx rfl rfl (hb hc hd) rfl (XT.i0_eq_t q) hp.1 hp.2 g1, g2⟩
  · obtain ⟨U, o, g1, g2⟩ := h2 q
    exact ⟨U, o, XS.ifNo X.here hx rfl (hb hc hd) rfl (XT.i0_eq_f q) g1, g2⟩
theorem k_if_ne (N : ONow p l e R s m args below meth c Z own cd ml ret nm T cells slots K) {x : Int32} {i : Int} {pc' : Nat} (hd : decode cd pc = .ok (.ifCond .ne i, 3)) (hp : 0 ≤ (pc : Int) + i ∧ ((pc : Int) + i).toNat = pc') (h1 : ¬ x = 0 → OGo p e below Φ T (mkF m pc' Ls st)) (h2 : x = 0 → OGo p e below Φ T (mkF m (pc + 3) Ls st)) : OGo p e below Φ T (mkF m pc Ls (.int x :: st)) := by
  obtain ⟨_, X, -, -, hx, -, hc, -⟩ := N
  by_cases q : ¬ x = 0
  · obtain ⟨U, o, g1, g2⟩ := h1 q
    exact ⟨U, o, XS.ifYes X.here hx rfl rfl (hb hc hd) rfl (XT.i0_ne_t q) hp.1 hp.2 g1, g2⟩
  · obtain ⟨U, o, g1, g2⟩ := h2 (Decidable.not_not.mp q)
    exact ⟨U, o, XS.ifNo X.here hx rfl (hb hc hd) rfl (XT.i0_ne_f (Decidable.not_not.mp q)) g1, g2⟩
theorem k_if_lt (N : ONow p l e R s m args below meth c Z own cd ml ret nm T cells slots K) {x : Int32} {i : Int} {pc' : Nat} (hd : decode cd pc = .ok (.ifCond .lt i, 3)) (hp : 0 ≤ (pc : Int) + i ∧ ((pc : Int) + i).toNat = pc') (h1 : x < 0 → OGo p e below Φ T (mkF m pc' Ls st)) (h2 : ¬ x < 0 → OGo p e below Φ T (mkF m (pc + 3) Ls st)) : OGo p e below Φ T (mkF m pc Ls (.int x :: st)) := by
  obtain ⟨_, X, -, -, hx, -, hc, -⟩ := N
  by_cases q : x < 0
  · obtain ⟨U, o, g1, g2⟩ := h1 q
    exact ⟨U, o, XS.ifYes X.here hx rfl rfl (hb hc hd) rfl (XT.i0_lt_t q) hp.1 hp.2 g1, g2⟩
  · obtain ⟨U, o, g1, g2⟩ := h2 q
    exact ⟨U, o, XS.ifNo X.here hx rfl (hb hc hd) rfl (XT.i0_lt_f q) g1, g2⟩
theorem k_if_ge (N : ONow p l e R s m args below meth c Z own cd ml ret nm T cells slots K) {x : Int32} {i : Int} {pc' : Nat} (hd : decode cd pc = .ok (.ifCond .ge i, 3)) (hp : 0 ≤ (pc : Int) + i ∧ ((pc : Int) + i).toNat = pc') (h1 : ¬ x < 0 → OGo p e below Φ T (mkF m pc' Ls st)) (h2 : x < 0 → OGo p e below Φ T (mkF m (pc + 3) Ls st)) : OGo p e below Φ T (mkF m pc Ls (.int x :: st)) := by
  obtain ⟨_, X, -, -, hx, -, hc, -⟩ := N
  by_cases q : ¬ x < 0
  · obtain ⟨U, o, g1, g2⟩ := h1 q
    exact ⟨U, o, XS.ifYes X.here hx rfl rfl (hb hc hd) rfl (XT.i0_ge_t q) hp.1 hp.2 g1, g2⟩
  · obtain ⟨U, o, g1, g2⟩ := h2 (Decidable.not_not.mp q)
    exact ⟨U, o, XS.ifNo X.here hx rfl (hb hc hd) rfl (XT.i0_ge_f (Decidable.not_not.mp q)) g1, g2⟩
theorem k_if_gt (N : ONow p l e R s m args below meth c Z own cd ml ret nm T cells slots K) {x : Int32} {i : Int} {pc' : Nat} (hd : decode cd pc = .ok (.ifCond .gt i, 3)) (hp : 0 ≤ (pc : Int) + i ∧ ((pc : Int) + i).toNat = pc') (h1 : 0 < x → OGo p e below Φ T (mkF m pc' Ls st)) (h2 : ¬ 0 < x → OGo p e below Φ T (mkF m (pc + 3) Ls st)) : OGo p e below Φ T (mkF m pc Ls (.int x :: st)) := by
  obtain ⟨_, X, -, -, hx, -, hc, -⟩ := N
  by_cases q : 0 < x
  · obtain ⟨U, o, g1, g2⟩ := h1 q
    exact ⟨U, o, XS.ifYes X.here hx rfl rfl (hb hc hd) rfl (XT.i0_gt_t q) hp.1 hp.2 g1, g2⟩
  · obtain ⟨U, o, g1, g2⟩ := h2 q
    exact ⟨U, o, XS.ifNo X.here hx rfl (hb hc hd) rfl (XT.i0_gt_f q) g1, g2⟩
theorem k_if_le (N : ONow p l e R s m args below meth c Z own cd ml ret nm T cells slots K) {x : Int32} {i : Int} {pc' : Nat} (hd : decode cd pc = .ok (.ifCond .le i, 3)) (hp : 0 ≤ (pc : Int) + i ∧ ((pc : Int) + i).toNat = pc') (h1 : ¬ 0 < x → OGo p e below Φ T (mkF m pc' Ls st)) (h2 : 0 < x → OGo p e below Φ T (mkF m (pc + 3) Ls st)) : OGo p e below Φ T (mkF m pc Ls (.int x :: st)) := by
  obtain ⟨_, X, -, -, hx, -, hc, -⟩ := N
  by_cases q : ¬ 0 < x
  · obtain ⟨U, o, g1, g2⟩ := h1 q
    exact ⟨U, o, XS.ifYes X.here hx rfl rfl (hb hc hd) rfl (XT.i0_le_t q) hp.1 hp.2 g1, g2⟩
  · obtain ⟨U, o, g1, g2⟩ := h2 (Decidable.not_not.mp q)
    exact ⟨U, o, XS.ifNo X.here hx rfl (hb hc hd) rfl (XT.i0_le_f (Decidable.not_not.mp q)) g1, g2⟩
theorem k_icmp_eq (N : ONow p l e R s m args below meth c Z own cd ml ret nm T cells slots K) {x y : Int32} {i : Int} {pc' : Nat} (hd : decode cd pc = .ok (.if_icmp .eq i, 3)) (hp : 0 ≤ (pc : Int) + i ∧ ((pc : Int) + i).toNat = pc') (h1 : x = y → OGo p e below Φ T (mkF m pc' Ls st)) (h2 : ¬ x = y → OGo p e below Φ T (mkF m (pc + 3) Ls st)) : OGo p e below Φ T (mkF m pc Ls (.int y :: .int x :: st)) := by
  obtain ⟨_, X, -, -, hx, -, hc, -⟩ := N
  by_cases q : x = y
  · obtain ⟨U, o, g1, g2⟩ := h1 q
    exact ⟨U, o, XS.icmpYes X.here hx rfl rfl (hb hc hd) rfl (XT.ii_eq_t q) hp.1 hp.2 g1, g2⟩
  · obtain ⟨U, o, g1, g2⟩ := h2 q
    exact ⟨U, o, XS.icmpNo X.here hx rfl (hb hc hd) rfl (XT.ii_eq_f q) g1, g2⟩
theorem k_icmp_ne (N : ONow p l e R s m args below meth c Z own cd ml ret nm T cells slots K) {x y : Int32} {i : Int} {pc' : Nat} (hd : decode cd pc = .ok (.if_icmp .ne i, 3)) (hp : 0 ≤ (pc : Int) + i ∧ ((pc : Int) + i).toNat = pc') (h1 : ¬ x = y → OGo p e below Φ T (mkF m pc' Ls st)) (h2 : x = y → OGo p e below Φ T (mkF m (pc + 3) Ls st)) : OGo p e below Φ T (mkF m pc Ls (.int y :: .int x :: st)) := by
  obtain ⟨_, X, -, -, hx, -, hc, -⟩ := N
  by_cases q : ¬ x = y
  · obtain ⟨U, o, g1, g2⟩ := h1 q
    exact ⟨U, o, XS.icmpYes X.here hx rfl rfl (hb hc hd) rfl (XT.ii_ne_t q) hp.1 hp.2 g1, g2⟩
  · obtain ⟨U, o, g1, g2⟩ := h2 (Decidable.not_not.mp q)
    exact ⟨U, o, XS.icmpNo X.here hx rfl (hb hc hd) rfl (XT.ii_ne_f (Decidable.not_not.mp q)) g1, g2⟩
theorem k_icmp_lt (N : ONow p l e R s m args below meth c Z own cd ml ret nm T cells slots K) {x y : Int32} {i : Int} {pc' : Nat} (hd : decode cd pc = .ok (.if_icmp .lt i, 3)) (hp : 0 ≤ (pc : Int) + i ∧ ((pc : Int) + i).toNat = pc') (h1 : x < y → OGo p e below Φ T (mkF m pc' Ls st)) (h2 : ¬ x < y → OGo p e below Φ T (mkF m (pc + 3) Ls st)) : OGo p e below Φ T (mkF m pc Ls (.int y :: .int x :: st)) := by
  obtain ⟨_, X, -, -, hx, -, hc, -⟩ := N
  by_cases q : x < y
  · obtain ⟨U, o, g1, g2⟩ := h1 q
    exact ⟨U, o, XS.icmpYes X.here hx rfl rfl (hb hc hd) rfl (XT.ii_lt_t q) hp.1 hp.2 g1, g2⟩
  · obtain ⟨U, o, g1, g2⟩ := h2 q
    exact ⟨U, o, XS.icmpNo X.here hx rfl (hb hc hd) rfl (XT.ii_lt_f q) g1, g2⟩
theorem k_icmp_ge (N : ONow p l e R s m args below meth c Z own cd ml ret nm T cells slots K) {x y : Int32} {i : Int} {pc' : Nat} (hd : decode cd pc = .ok (.if_icmp .ge i, 3)) (hp : 0 ≤ (pc : Int) + i ∧ ((pc : Int) + i).toNat = pc') (h1 : ¬ x < y → OGo p e below Φ T (mkF m pc' Ls st)) (h2 : x < y → OGo p e below Φ T (mkF m (pc + 3) Ls st)) : OGo p e below Φ T (mkF m pc Ls (.int y :: .int x :: st)) := by
  obtain ⟨_, X, -, -, hx, -, hc, -⟩ := N
  by_cases q : ¬ x < y
  · obtain ⟨U, o, g1, g2⟩ := h1 q
    exact ⟨U, o, XS.icmpYes X.here hx rfl rfl (hb hc hd) rfl (XT.ii_ge_t q) hp.1 hp.2 g1, g2⟩
  · obtain ⟨U, o, g1, g2⟩ := h2 (Decidable.not_not.mp q)
    exact ⟨U, o, XS.icmpNo X.here hx rfl (hb hc hd) rfl (XT.ii_ge_f (Decidable.not_not.mp q)) g1, g2⟩
theorem k_icmp_gt (N : ONow p l e R s m args below meth c Z own cd ml ret nm T cells slots K) {x y : Int32} {i : Int} {pc' : Nat} (hd : decode cd pc = .ok (.if_icmp .gt i, 3)) (hp : 0 ≤ (pc : Int) + i ∧ ((pc : Int) + i).toNat = pc') (h1 : y < x → OGo p e below Φ T (mkF m pc' Ls st)) (h2 : ¬ y < x → OGo p e below Φ T (mkF m (pc + 3) Ls st)) : OGo p e below Φ T (mkF m pc Ls (.int y :: .int x :: st)) := by
  obtain ⟨_, X, -, -, hx, -, hc, -⟩ := N
  by_cases q : y < x
  · obtain ⟨U, o, g1, g2⟩ := h1 q
    exact ⟨U, o, XS.icmpYes X.here hx rfl rfl (hb hc hd) rfl (XT.ii_gt_t q) hp.1 hp.2 g1, g2⟩
  · obtain ⟨U, o, g1, g2⟩ := h2 q
    exact ⟨U, o, XS.icmpNo X.here hx rfl (hb hc hd) rfl (XT.ii_gt_f q) g1, g2⟩
theorem k_icmp_le (N : ONow p l e R s m args below meth c Z own cd ml ret nm T cells slots K) {x y : Int32} {i : Int} {pc' : Nat} (hd : decode cd pc = .ok (.if_icmp .le i, 3)) (hp : 0 ≤ (pc : Int) + i ∧ ((pc : Int) + i).toNat = pc') (h1 : ¬ y < x → OGo p e below Φ T (mkF m pc' Ls st)) (h2 : y < x → OGo p e below Φ T (mkF m (pc + 3) Ls st)) : OGo p e below Φ T (mkF m pc Ls (.int y :: .int x :: st)) := by
  obtain ⟨_, X, -, -, hx, -, hc, -⟩ := N
  by_cases q : ¬ y < x
  · obtain ⟨U, o, g1, g2⟩ := h1 q
    exact ⟨U, o, XS.icmpYes X.here hx rfl rfl (hb hc hd) rfl (XT.ii_le_t q) hp.1 hp.2 g1, g2⟩
  · obtain ⟨U, o, g1, g2⟩ := h2 (Decidable.not_not.mp q)
    exact ⟨U, o, XS.icmpNo X.here hx rfl (hb hc hd) rfl (XT.ii_le_f (Decidable.not_not.mp q)) g1, g2⟩
theorem k_ifnull_yes (N : ONow p l e R s m args below meth c Z own cd ml ret nm T cells slots K) {i : Int} {pc' : Nat} (hd : decode cd pc = .ok (.ifnull i, 3)) (hp : 0 ≤ (pc : Int) + i ∧ ((pc : Int) + i).toNat = pc') (hr : OGo p e below Φ T (mkF m pc' Ls st)) : OGo p e below Φ T (mkF m pc Ls (.null :: st)) := by
  obtain ⟨_, X, -, -, hx, -, hc, -⟩ := N
  obtain ⟨U, o, h1, h2⟩ := hr
  exact ⟨U, o, XS.ifnullYes X.here hx rfl rfl (hb hc hd) rfl hp.1 hp.2 h1, h2⟩
theorem k_ifnull_no (N : ONow p l e R s m args below meth c Z own cd ml ret nm T cells slots K) {b : Addr} {i : Int} (hd : decode cd pc = .ok (.ifnull i, 3)) (hr : OGo p e below Φ T (mkF m (pc + 3) Ls st)) : OGo p e below Φ T (mkF m pc Ls (.ref b :: st)) := by
  obtain ⟨_, X, -, -, hx, -, hc, -⟩ := N
  obtain ⟨U, o, h1, h2⟩ := hr
  exact ⟨U, o, XS.ifnullNo X.here hx rfl (hb hc hd) rfl h1, h2⟩
theorem k_ifnonnull_yes (N : ONow p l e R s m args below meth c Z own cd ml ret nm T cells slots K) {b : Addr} {i : Int} {pc' : Nat} (hd : decode cd pc = .ok (.ifnonnull i, 3)) (hp : 0 ≤ (pc : Int) + i ∧ ((pc : Int) + i).toNat = pc') (hr : OGo p e below Φ T (mkF m pc' Ls st)) : OGo p e below Φ T (mkF m pc Ls (.ref b :: st)) := by
  obtain ⟨_, X, -, -, hx, -, hc, -⟩ := N
  obtain ⟨U, o, h1, h2⟩ := hr
  exact ⟨U, o, XT.ifnonnullYes X.here hx rfl rfl (hb hc hd) rfl hp.1 hp.2 h1, h2⟩
theorem k_ifnonnull_no (N : ONow p l e R s m args below meth c Z own cd ml ret nm T cells slots K) {i : Int} (hd : decode cd pc = .ok (.ifnonnull i, 3)) (hr : OGo p e below Φ T (mkF m (pc + 3) Ls st)) : OGo p e below Φ T (mkF m pc Ls (.null :: st)) := by
  obtain ⟨_, X, -, -, hx, -, hc, -⟩ := N
  obtain ⟨U, o, h1, h2⟩ := hr
  exact ⟨U, o, XT.ifnonnullNo X.here hx rfl (hb hc hd) rfl h1, h2⟩
theorem k_acmp (N : ONow p l e R s m args below meth c Z own cd ml ret nm T cells slots K) {k : ACond} {x y : Value} {same : Bool} {i : Int} {pc' : Nat} (hd : decode cd pc = .ok (.if_acmp k i, 3)) (h1 : x.isRef = true) (h2 : y.isRef = true) (hq : decide (x = y) = same) (hp : 0 ≤ (pc : Int) + i ∧ pc' = if acV k same = true then ((pc : Int) + i).toNat else pc + 3) (hr : OGo p e below Φ T (mkF m pc' Ls st)) : OGo p e below Φ T (mkF m pc Ls (y :: x :: st)) := by
  obtain ⟨_, X, -, -, hx, -, hc, -⟩ := N
  obtain ⟨U, o, g1, g2⟩ := hr
  exact ⟨U, o, Jvm.RoadKit.acmp X hx rfl h1 h2 rfl (hb hc hd) rfl hq hp.1 hp.2 g1, g2⟩
theorem k_ldcI (N : ONow p l e R s m args below meth c Z own cd ml ret nm T cells slots K) {i : Nat} {v : Int32} (hd : decode cd pc = .ok (.ldc i, 2)) (w : (Cond.constant own i v).before a0 Z = true) (hr : OGo p e below Φ T (mkF m (pc + 2) Ls (.int v :: st))) : OGo p e below Φ T (mkF m pc Ls st) := by
  obtain ⟨_, X, -, -, hx, hZ, hc, -, ho, -⟩ := N
  obtain ⟨U, o, h1, h2⟩ := hr
  exact ⟨U, o, X.ldcInt hx ho (mv hZ w) (g := mkF m pc Ls st) rfl (hb hc hd) _ h1, h2⟩
theorem k_ldcJ (N : ONow p l e R s m args below meth c Z own cd ml ret nm T cells slots K) {i : Nat} {v : Int64} (hd : decode cd pc = .ok (.ldc2_w i, 3)) (w : (Cond.constantLong own i v).before a0 Z = true) (hr : OGo p e below Φ T (mkF m (pc + 3) Ls (.long v :: st))) : OGo p e below Φ T (mkF m pc Ls st) := by
  obtain ⟨_, X, -, -, hx, hZ, hc, -, ho, -⟩ := N
  obtain ⟨U, o, h1, h2⟩ := hr
  exact ⟨U, o, X.ldc2Long hx ho (mv hZ w) (g := mkF m pc Ls st) rfl (hb hc hd) _ h1, h2⟩
theorem k_ldcD (N : ONow p l e R s m args below meth c Z own cd ml ret nm T cells slots K) {i : Nat} {v : UInt64} (hd : decode cd pc = .ok (.ldc2_w i, 3)) (w : (Cond.constantDouble own i v).before a0 Z = true) (hr : OGo p e below Φ T (mkF m (pc + 3) Ls (.double v :: st))) : OGo p e below Φ T (mkF m pc Ls st) := by
  obtain ⟨_, X, -, -, hx, hZ, hc, -, ho, -⟩ := N
  obtain ⟨U, o, h1, h2⟩ := hr
  exact ⟨U, o, X.ldc2DoubleC hx ho (mv hZ w) (g := mkF m pc Ls st) rfl (hb hc hd) _ h1, h2⟩
theorem k_get (N : ONow p l e R s m args below meth c Z own cd ml ret nm T cells slots K) {R0 O n d host C : String} {idx : Nat} {a : Addr} {v : Value} {fs : List FV} (i j : Nat) (hd : decode cd pc = .ok (.getfield idx, 3)) (w : (Cond.fieldLink own idx R0 n d).before a0 Z = true ∨ (Cond.fieldLinkNest own idx R0 n d host).before a0 Z = true) (via : Via Z R0 O n d) (hi : K[i]? = some (oObj Z a C fs)) (hj : fs[j]? = some (O, n, d, v)) (hr : ∀ T', ONow p l e R s m args below meth c Z own cd ml ret nm T' cells slots K → OGo p e below Φ T' (mkF m (pc + 3) Ls (v :: st))) : OGo p e below Φ T (mkF m pc Ls (.ref a :: st)) := by
  obtain ⟨locs, X, n1, n2, hx, hZ, hc, hm, ho, r⟩ := N
  obtain ⟨T', X', e', stp⟩ := getF (host := host) X hx hZ ho w via rfl (n2.fld hi hj) (g := mkF m pc Ls (.ref a :: st)) rfl rfl (hb hc hd)
  obtain ⟨U, o, h1, h2⟩ := hr T' ⟨locs, X', n1, by rw [e']; exact n2, hx, hZ, hc, hm, ho, r⟩
  exact ⟨U, o, stp _ h1, h2⟩
theorem k_put (N : ONow p l e R s m args below meth c Z own cd ml ret nm T cells slots K) {R0 O n d host C : String} {idx kk : Nat} {a : Addr} {v old : Value} {fs : List FV} {ty : FieldType} {K' : List Ent} (i j : Nat) (hd : decode cd pc = .ok (.putfield idx, 3)) (w : (Cond.fieldLink own idx R0 n d).before a0 Z = true ∨ (Cond.fieldLinkNest own idx R0 n d host).before a0 Z = true) (via : Via Z R0 O n d) (hi : K[i]? = some (oObj Z a C fs)) (hj : fs[j]? = some (O, n, d, old))
    (L : (Cond.lays C O n d).before a0 Z = true ∨ ((Cond.laysFinal C O n d).before a0 Z = true ∧ own = O ∧ nm = "<init>")) (wi : (Cond.instantiable C kk).before a0 Z = true) (hty : parseFieldDescriptor d = some ty) (hn : narrow ty v = v) (hf : fits ty v = true) (hK : K.set i (oObj Z a C (fs.set j (O, n, d, v))) = K') (hr : ∀ T', ONow p l e R s m args below meth c Z own cd ml ret nm T' cells slots K' → OGo p e below Φ T' (mkF m (pc + 3) Ls st)) : OGo p e below Φ T (mkF m pc Ls (v :: .ref a :: st)) := by
  subst hK
  obtain ⟨locs, X, n1, n2, hx, hZ, hc, hm, ho, h5, hnm, h7⟩ := N
  obtain ⟨T', h', X', e', W, stp⟩ := putF (host := host) X hx hZ ho w via rfl (n2.fld hi hj) (n2.exa hi) (L.imp id fun q => ⟨q.1, q.2.1, hnm.trans q.2.2⟩) wi hty hn hf (g := mkF m pc Ls (v :: .ref a :: st)) rfl rfl (hb hc hd)
  subst e'
  obtain ⟨U, o, h1, h2⟩ := hr T' ⟨_, X', Fr.snoc X' n1 (n2.at hi).1, n2.put hi hj W, hx, hZ, hc, hm, ho, h5, hnm, h7⟩
  exact ⟨U, o, stp _ h1, h2⟩
theorem k_getS (N : ONow p l e R s m args below meth c Z own cd ml ret nm T cells slots K) {R0 O n d : String} {idx : Nat} {v : Value} (hd : decode cd pc = .ok (.getstatic idx, 3)) (w : (Cond.fieldLink own idx R0 n d).before a0 Z = true) (via : Via Z R0 O n d) (F : Sta Z Z.heap O n d v) (hr : ∀ T', ONow p l e R s m args below meth c Z own cd ml ret nm T' cells slots K → OGo p e below Φ T' (mkF m (pc + 3) Ls (v :: st))) : OGo p e below Φ T (mkF m pc Ls st) := by
  obtain ⟨locs, X, n1, n2, hx, hZ, hc, hm, ho, r⟩ := N
  obtain ⟨T', X', e', stp⟩ := getS (host := "") X hx hZ ho w via rfl (F.ext n2.1) (g := mkF m pc Ls st) rfl (hb hc hd)
  obtain ⟨U, o, h1, h2⟩ := hr T' ⟨locs, X', n1, by rw [e']; exact n2, hx, hZ, hc, hm, ho, r⟩
  exact ⟨U, o, stp _ h1, h2⟩
theorem k_getOld (N : ONow p l e R s m args below meth c Z own cd ml ret nm T cells slots K) {R0 O n d host : String} {idx : Nat} {a : Addr} {v : Value} (hd : decode cd pc = .ok (.getfield idx, 3)) (w : (Cond.fieldLink own idx R0 n d).before a0 Z = true ∨ (Cond.fieldLinkNest own idx R0 n d host).before a0 Z = true) (via : Via Z R0 O n d) (F : Fld Z Z.heap a O n d v) (hr : ∀ T', ONow p l e R s m args below meth c Z own cd ml ret nm T' cells slots K → OGo p e below Φ T' (mkF m (pc + 3) Ls (v :: st))) : OGo p e below Φ T (mkF m pc Ls (.ref a :: st)) := by
  obtain ⟨locs, X, n1, n2, hx, hZ, hc, hm, ho, r⟩ := N
  obtain ⟨T', X', e', stp⟩ := getF (host := host) X hx hZ ho w via rfl (F.ext n2.1) (g := mkF m pc Ls (.ref a :: st)) rfl rfl (hb hc hd)
  obtain ⟨U, o, h1, h2⟩ := hr T' ⟨locs, X', n1, by rw [e']; exact n2, hx, hZ, hc, hm, ho, r⟩
  exact ⟨U, o, stp _ h1, h2⟩
theorem k_new (N : ONow p l e R s m args below meth c Z own cd ml ret nm T cells slots K) {C : String} {idx n : Nat} {fs : List FV} (hd : decode cd pc = .ok (.new idx, 3)) (w : (Cond.classLink own idx C).before a0 Z = true) (wi : (Cond.instantiable C n).before a0 Z = true) (wz : (Cond.initialized C).before a0 Z = true) (L : LaidL Z a0 C fs) (hnd : (fs.map fun f => f.2.1).Nodup) (h1 : cells + 1 ≤ R.cells) (h2 : slots + n ≤ R.slots) (hr : ∀ T' a, ONow p l e R s m args below meth c Z own cd ml ret nm T' (cells + 1) (slots + n) (oObj Z a C fs :: K) → OGo p e below Φ T' (mkF m (pc + 3) Ls (.ref a :: st))) : OGo p e below Φ T (mkF m pc Ls st) := by
  obtain ⟨locs, X, n1, n2, hx, hZ, hc, hm, ho, r⟩ := N
  obtain ⟨T', h', X', e', E, A, D, -, stp⟩ := newO X hx hZ ho w wi wz rfl (g := mkF m pc Ls st) rfl (hb hc hd) h1 h2
  subst e'
  obtain ⟨cell, k, a1, a2, a3, a4, a5⟩ := A
  have M := LaidL.mem fs L
  have hP : (oObj Z T.heap.size C fs).2 cell := ⟨⟨k, a2, a3, a4, a5⟩, L.keys hnd, fun f hf => by
    obtain ⟨Lf, ty, p1, p2⟩ := M f hf
    obtain ⟨c2, cf, k2, i2, f2, g1, g2⟩ := D Lf p1
    cases a1.symm.trans g1
    rw [← p2] at g2
    exact ⟨cf, k2, i2, f2, g2⟩⟩
  obtain ⟨U, o, h1, h2⟩ := hr T' T.heap.size ⟨locs, X', n1, n2.cons E a1 hP, hx, hZ, hc, hm, ho, r⟩
  exact ⟨U, o, stp _ h1, h2⟩
theorem k_newarray (N : ONow p l e R s m args below meth c Z own cd ml ret nm T cells slots K) {aty : ArrayType} {n : Int32} {ty : FieldType} {vs : List Value} (cap : Nat) (hd : decode cd pc = .ok (.newarray aty, 2)) (ht : newarray.typeOf aty = ty) (w : (Cond.arrayClass ty).before a0 Z = true) (hn : ¬ n < 0) (hcap : n.toNatClampNeg ≤ cap) (hb0 : cap * 8 ≤ 536870912) (hv : List.replicate n.toNatClampNeg (defaultValue ty) = vs) (h1 : cells + 1 ≤ R.cells) (h2 : slots + cap ≤ R.slots) (hr : ∀ T' a k, ONow p l e R s m args below meth c Z own cd ml ret nm T' (cells + 1) (slots + cap) (oArr Z a k ty vs :: K) → OGo p e below Φ T' (mkF m (pc + 2) Ls (.ref a :: st))) : OGo p e below Φ T (mkF m pc Ls (.int n :: st)) := by
  subst ht hv
  obtain ⟨locs, X, n1, n2, hx, hZ, hc, hm, ho, r⟩ := N
  obtain ⟨T', h', cA, X', e', E, A, stp⟩ := newP X hx hZ w rfl (g := mkF m pc Ls (.int n :: st)) rfl (hb hc hd) rfl hn hcap hb0 h1 h2
  subst e'
  have hP : (oArr Z T.heap.size cA (newarray.typeOf aty) (List.replicate n.toNatClampNeg (defaultValue (newarray.typeOf aty)))).2 (newA cA (newarray.typeOf aty) n) := ⟨A.2.1, A.2.2, rfl, by simp [newA], by simp; omega⟩
  obtain ⟨U, o, h1, h2⟩ := hr T' T.heap.size cA ⟨locs, X', n1, n2.cons E A.1 hP, hx, hZ, hc, hm, ho, r⟩
  exact ⟨U, o, stp _ h1, h2⟩
theorem inb {j : Int32} {n : Nat} (h1 : ¬ j < 0) (h2 : j.toNatClampNeg < n) : ¬ (j < 0 ∨ n ≤ j.toNatClampNeg) := fun q => q.elim h1 fun r => absurd h2 (Nat.not_lt.mpr r)
theorem lt_of_some {α : Type} {l : List α} {i : Nat} {x : α} (h : l[i]? = some x) : i < l.length := (List.getElem?_eq_some_iff.mp h).1
theorem k_arraylength (N : ONow p l e R s m args below meth c Z own cd ml ret nm T cells slots K) {a : Addr} {k : ClassId} {ty : FieldType} {vs : List Value} {z : Int32} (i : Nat) (hd : decode cd pc = .ok (.arraylength, 1)) (hi : K[i]? = some (oArr Z a k ty vs)) (hz : vs.length.toInt32 = z) (hr : OGo p e below Φ T (mkF m (pc + 1) Ls (.int vs.length.toInt32 :: st))) : OGo p e below Φ T (mkF m pc Ls (.ref a :: st)) := by
  subst hz
  obtain ⟨locs, X, n1, n2, hx, hZ, hc, hm, ho, r⟩ := N
  obtain ⟨cl, A, -, A2, A3⟩ := n2.arr hi
  obtain ⟨U, o, h1, h2⟩ := hr
  exact ⟨U, o, X.arraylength hx A.1 (State.isArrayOf_alike hZ.alike A.2.1) (g := mkF m pc Ls (.ref a :: st)) rfl rfl (hb hc hd) _ (by rw [A2]; simpa using h1), h2⟩
theorem k_iaload (N : ONow p l e R s m args below meth c Z own cd ml ret nm T cells slots K) {a : Addr} {k : ClassId} {vs : List Value} {j : Int32} {v : Value} (i jn : Nat) (hd : decode cd pc = .ok (.iaload, 1)) (hi : K[i]? = some (oArr Z a k .int vs)) (h0 : ¬ j < 0) (hjn : j.toNatClampNeg = jn) (hv : vs[jn]? = some v) (hr : OGo p e below Φ T (mkF m (pc + 1) Ls (v :: st))) : OGo p e below Φ T (mkF m pc Ls (.int j :: .ref a :: st)) := by
  subst hjn
  obtain ⟨locs, X, n1, n2, hx, hZ, hc, hm, ho, r⟩ := N
  obtain ⟨cl, A, -, A2, A3⟩ := n2.arr hi
  obtain ⟨U, o, h1, h2⟩ := hr
  exact ⟨U, o, X.iaload hx A.1 (State.isArrayOf_alike hZ.alike A.2.1) A.2.2 (inb h0 (by rw [A2]; simpa using lt_of_some hv)) (by rw [A2]; simpa using hv) (g := mkF m pc Ls (.int j :: .ref a :: st)) rfl rfl (hb hc hd) _ h1, h2⟩
theorem k_laload (N : ONow p l e R s m args below meth c Z own cd ml ret nm T cells slots K) {a : Addr} {k : ClassId} {vs : List Value} {j : Int32} {v : Value} (i jn : Nat) (hd : decode cd pc = .ok (.laload, 1)) (hi : K[i]? = some (oArr Z a k .long vs)) (h0 : ¬ j < 0) (hjn : j.toNatClampNeg = jn) (hv : vs[jn]? = some v) (hr : OGo p e below Φ T (mkF m (pc + 1) Ls (v :: st))) : OGo p e below Φ T (mkF m pc Ls (.int j :: .ref a :: st)) := by
  subst hjn
  obtain ⟨locs, X, n1, n2, hx, hZ, hc, hm, ho, r⟩ := N
  obtain ⟨cl, A, -, A2, A3⟩ := n2.arr hi
  obtain ⟨U, o, h1, h2⟩ := hr
  exact ⟨U, o, X.laload hx A.1 (State.isArrayOf_alike hZ.alike A.2.1) A.2.2 (inb h0 (by rw [A2]; simpa using lt_of_some hv)) (by rw [A2]; simpa using hv) (g := mkF m pc Ls (.int j :: .ref a :: st)) rfl rfl (hb hc hd) _ h1, h2⟩
theorem k_daload (N : ONow p l e R s m args below meth c Z own cd ml ret nm T cells slots K) {a : Addr} {k : ClassId} {vs : List Value} {j : Int32} {v : Value} (i jn : Nat) (hd : decode cd pc = .ok (.daload, 1)) (hi : K[i]? = some (oArr Z a k .double vs)) (h0 : ¬ j < 0) (hjn : j.toNatClampNeg = jn) (hv : vs[jn]? = some v) (hr : OGo p e below Φ T (mkF m (pc + 1) Ls (v :: st))) : OGo p e below Φ T (mkF m pc Ls (.int j :: .ref a :: st)) := by
  subst hjn
  obtain ⟨locs, X, n1, n2, hx, hZ, hc, hm, ho, r⟩ := N
  obtain ⟨cl, A, -, A2, A3⟩ := n2.arr hi
  obtain ⟨U, o, h1, h2⟩ := hr
  exact ⟨U, o, X.daload hx A.1 (State.isArrayOf_alike hZ.alike A.2.1) A.2.2 (inb h0 (by rw [A2]; simpa using lt_of_some hv)) (by rw [A2]; simpa using hv) (g := mkF m pc Ls (.int j :: .ref a :: st)) rfl rfl (hb hc hd) _ h1, h2⟩
theorem k_caload (N : ONow p l e R s m args below meth c Z own cd ml ret nm T cells slots K) {a : Addr} {k : ClassId} {vs : List Value} {j : Int32} {v : Value} (i jn : Nat) (hd : decode cd pc = .ok (.caload, 1)) (hi : K[i]? = some (oArr Z a k .char vs)) (h0 : ¬ j < 0) (hjn : j.toNatClampNeg = jn) (hv : vs[jn]? = some v) (hr : OGo p e below Φ T (mkF m (pc + 1) Ls (v :: st))) : OGo p e below Φ T (mkF m pc Ls (.int j :: .ref a :: st)) := by
  subst hjn
  obtain ⟨locs, X, n1, n2, hx, hZ, hc, hm, ho, r⟩ := N
  obtain ⟨cl, A, -, A2, A3⟩ := n2.arr hi
  obtain ⟨U, o, h1, h2⟩ := hr
  exact ⟨U, o, X.caload hx A.1 (State.isArrayOf_alike hZ.alike A.2.1) A.2.2 (inb h0 (by rw [A2]; simpa using lt_of_some hv)) (by rw [A2]; simpa using hv) (g := mkF m pc Ls (.int j :: .ref a :: st)) rfl rfl (hb hc hd) _ h1, h2⟩
theorem k_baloadB (N : ONow p l e R s m args below meth c Z own cd ml ret nm T cells slots K) {a : Addr} {k : ClassId} {vs : List Value} {j : Int32} {v : Value} (i jn : Nat) (hd : decode cd pc = .ok (.baload, 1)) (hi : K[i]? = some (oArr Z a k .byte vs)) (h0 : ¬ j < 0) (hjn : j.toNatClampNeg = jn) (hv : vs[jn]? = some v) (hr : OGo p e below Φ T (mkF m (pc + 1) Ls (v :: st))) : OGo p e below Φ T (mkF m pc Ls (.int j :: .ref a :: st)) := by
  subst hjn
  obtain ⟨locs, X, n1, n2, hx, hZ, hc, hm, ho, r⟩ := N
  obtain ⟨cl, A, -, A2, A3⟩ := n2.arr hi
  obtain ⟨U, o, h1, h2⟩ := hr
  exact ⟨U, o, X.baloadBytes hx A.1 (State.isArrayOf_alike hZ.alike A.2.1) A.2.2 (inb h0 (by rw [A2]; simpa using lt_of_some hv)) (by rw [A2]; simpa using hv) (g := mkF m pc Ls (.int j :: .ref a :: st)) rfl rfl (hb hc hd) _ h1, h2⟩
theorem k_baloadZ (N : ONow p l e R s m args below meth c Z own cd ml ret nm T cells slots K) {a : Addr} {k : ClassId} {vs : List Value} {j : Int32} {v : Value} (i jn : Nat) (hd : decode cd pc = .ok (.baload, 1)) (hi : K[i]? = some (oArr Z a k .boolean vs)) (h0 : ¬ j < 0) (hjn : j.toNatClampNeg = jn) (hv : vs[jn]? = some v) (hr : OGo p e below Φ T (mkF m (pc + 1) Ls (v :: st))) : OGo p e below Φ T (mkF m pc Ls (.int j :: .ref a :: st)) := by
  subst hjn
  obtain ⟨locs, X, n1, n2, hx, hZ, hc, hm, ho, r⟩ := N
  obtain ⟨cl, A, -, A2, A3⟩ := n2.arr hi
  obtain ⟨U, o, h1, h2⟩ := hr
  exact ⟨U, o, X.baloadBooleans hx A.1 (State.isArrayOf_alike hZ.alike A.2.1) A.2.2 (inb h0 (by rw [A2]; simpa using lt_of_some hv)) (by rw [A2]; simpa using hv) (g := mkF m pc Ls (.int j :: .ref a :: st)) rfl rfl (hb hc hd) _ h1, h2⟩
theorem k_aaload (N : ONow p l e R s m args below meth c Z own cd ml ret nm T cells slots K) {a : Addr} {k : ClassId} {ty : FieldType} {vs : List Value} {j : Int32} {v : Value} (i jn : Nat) (hd : decode cd pc = .ok (.aaload, 1)) (hi : K[i]? = some (oArr Z a k ty vs)) (hrt : ty.isReference = true) (h0 : ¬ j < 0) (hjn : j.toNatClampNeg = jn) (hv : vs[jn]? = some v) (hr : OGo p e below Φ T (mkF m (pc + 1) Ls (v :: st))) : OGo p e below Φ T (mkF m pc Ls (.int j :: .ref a :: st)) := by
  subst hjn
  obtain ⟨locs, X, n1, n2, hx, hZ, hc, hm, ho, r⟩ := N
  obtain ⟨cl, A, -, A2, A3⟩ := n2.arr hi
  obtain ⟨U, o, h1, h2⟩ := hr
  exact ⟨U, o, X.aaload hx A.1 (State.isArrayOf_alike hZ.alike A.2.1) hrt A.2.2 (inb h0 (by rw [A2]; simpa using lt_of_some hv)) (by rw [A2]; simpa using hv) (g := mkF m pc Ls (.int j :: .ref a :: st)) rfl rfl (hb hc hd) _ h1, h2⟩
theorem k_iastore (N : ONow p l e R s m args below meth c Z own cd ml ret nm T cells slots K) {a : Addr} {k : ClassId} {vs : List Value} {j : Int32} {x : Int32} {v : Value} {K' : List Ent} (i jn : Nat) (hd : decode cd pc = .ok (.iastore, 1)) (hi : K[i]? = some (oArr Z a k .int vs)) (h0 : ¬ j < 0) (hjn : j.toNatClampNeg = jn) (hlt : jn < vs.length) (hv : Value.int x = v) (hK : K.set i (oArr Z a k .int (vs.set jn v)) = K') (hr : ∀ T', ONow p l e R s m args below meth c Z own cd ml ret nm T' cells slots K' → OGo p e below Φ T' (mkF m (pc + 1) Ls st)) : OGo p e below Φ T (mkF m pc Ls (.int x :: .int j :: .ref a :: st)) := by
  subst hjn hv hK
  obtain ⟨locs, X, n1, n2, hx, hZ, hc, hm, ho, r⟩ := N
  obtain ⟨cl, A, -, A2, A3⟩ := n2.arr hi
  obtain ⟨T', h', X', e', W, stp⟩ := stI X hx hZ rfl A (inb h0 (by rw [A2]; simpa using hlt)) (g := mkF m pc Ls (.int x :: .int j :: .ref a :: st)) rfl rfl (hb hc hd)
  subst e'
  obtain ⟨U, o, h1, h2⟩ := hr T' ⟨_, X', Fr.snoc X' n1 (n2.at hi).1, n2.putA hi W, hx, hZ, hc, hm, ho, r⟩
  exact ⟨U, o, stp _ h1, h2⟩
theorem k_lastore (N : ONow p l e R s m args below meth c Z own cd ml ret nm T cells slots K) {a : Addr} {k : ClassId} {vs : List Value} {j : Int32} {x : Int64} {v : Value} {K' : List Ent} (i jn : Nat) (hd : decode cd pc = .ok (.lastore, 1)) (hi : K[i]? = some (oArr Z a k .long vs)) (h0 : ¬ j < 0) (hjn : j.toNatClampNeg = jn) (hlt : jn < vs.length) (hv : Value.long x = v) (hK : K.set i (oArr Z a k .long (vs.set jn v)) = K') (hr : ∀ T', ONow p l e R s m args below meth c Z own cd ml ret nm T' cells slots K' → OGo p e below Φ T' (mkF m (pc + 1) Ls st)) : OGo p e below Φ T (mkF m pc Ls (.long x :: .int j :: .ref a :: st)) := by
  subst hjn hv hK
  obtain ⟨locs, X, n1, n2, hx, hZ, hc, hm, ho, r⟩ := N
  obtain ⟨cl, A, -, A2, A3⟩ := n2.arr hi
  obtain ⟨T', h', X', e', W, stp⟩ := stJ X hx hZ rfl A (inb h0 (by rw [A2]; simpa using hlt)) (g := mkF m pc Ls (.long x :: .int j :: .ref a :: st)) rfl rfl (hb hc hd)
  subst e'
  obtain ⟨U, o, h1, h2⟩ := hr T' ⟨_, X', Fr.snoc X' n1 (n2.at hi).1, n2.putA hi W, hx, hZ, hc, hm, ho, r⟩
  exact ⟨U, o, stp _ h1, h2⟩
theorem k_dastore (N : ONow p l e R s m args below meth c Z own cd ml ret nm T cells slots K) {a : Addr} {k : ClassId} {vs : List Value} {j : Int32} {x : UInt64} {v : Value} {K' : List Ent} (i jn : Nat) (hd : decode cd pc = .ok (.dastore, 1)) (hi : K[i]? = some (oArr Z a k .double vs)) (h0 : ¬ j < 0) (hjn : j.toNatClampNeg = jn) (hlt : jn < vs.length) (hv : Value.double x = v) (hK : K.set i (oArr Z a k .double (vs.set jn v)) = K') (hr : ∀ T', ONow p l e R s m args below meth c Z own cd ml ret nm T' cells slots K' → OGo p e below Φ T' (mkF m (pc + 1) Ls st)) : OGo p e below Φ T (mkF m pc Ls (.double x :: .int j :: .ref a :: st)) := by
  subst hjn hv hK
  obtain ⟨locs, X, n1, n2, hx, hZ, hc, hm, ho, r⟩ := N
  obtain ⟨cl, A, -, A2, A3⟩ := n2.arr hi
  obtain ⟨T', h', X', e', W, stp⟩ := stD X hx hZ rfl A (inb h0 (by rw [A2]; simpa using hlt)) (g := mkF m pc Ls (.double x :: .int j :: .ref a :: st)) rfl rfl (hb hc hd)
  subst e'
  obtain ⟨U, o, h1, h2⟩ := hr T' ⟨_, X', Fr.snoc X' n1 (n2.at hi).1, n2.putA hi W, hx, hZ, hc, hm, ho, r⟩
  exact ⟨U, o, stp _ h1, h2⟩
theorem k_castore (N : ONow p l e R s m args below meth c Z own cd ml ret nm T cells slots K) {a : Addr} {k : ClassId} {vs : List Value} {j : Int32} {x : Int32} {v : Value} {K' : List Ent} (i jn : Nat) (hd : decode cd pc = .ok (.castore, 1)) (hi : K[i]? = some (oArr Z a k .char vs)) (h0 : ¬ j < 0) (hjn : j.toNatClampNeg = jn) (hlt : jn < vs.length) (hv : Value.int (nar .char x) = v) (hK : K.set i (oArr Z a k .char (vs.set jn v)) = K') (hr : ∀ T', ONow p l e R s m args below meth c Z own cd ml ret nm T' cells slots K' → OGo p e below Φ T' (mkF m (pc + 1) Ls st)) : OGo p e below Φ T (mkF m pc Ls (.int x :: .int j :: .ref a :: st)) := by
  subst hjn hv hK
  obtain ⟨locs, X, n1, n2, hx, hZ, hc, hm, ho, r⟩ := N
  obtain ⟨cl, A, -, A2, A3⟩ := n2.arr hi
  obtain ⟨T', h', X', e', W, stp⟩ := stC X hx hZ rfl A (inb h0 (by rw [A2]; simpa using hlt)) (g := mkF m pc Ls (.int x :: .int j :: .ref a :: st)) rfl rfl (hb hc hd)
  subst e'
  obtain ⟨U, o, h1, h2⟩ := hr T' ⟨_, X', Fr.snoc X' n1 (n2.at hi).1, n2.putA hi W, hx, hZ, hc, hm, ho, r⟩
  exact ⟨U, o, stp _ h1, h2⟩
theorem k_bastoreB (N : ONow p l e R s m args below meth c Z own cd ml ret nm T cells slots K) {a : Addr} {k : ClassId} {vs : List Value} {j : Int32} {x : Int32} {v : Value} {K' : List Ent} (i jn : Nat) (hd : decode cd pc = .ok (.bastore, 1)) (hi : K[i]? = some (oArr Z a k .byte vs)) (h0 : ¬ j < 0) (hjn : j.toNatClampNeg = jn) (hlt : jn < vs.length) (hv : Value.int (nar .byte x) = v) (hK : K.set i (oArr Z a k .byte (vs.set jn v)) = K') (hr : ∀ T', ONow p l e R s m args below meth c Z own cd ml ret nm T' cells slots K' → OGo p e below Φ T' (mkF m (pc + 1) Ls st)) : OGo p e below Φ T (mkF m pc Ls (.int x :: .int j :: .ref a :: st)) := by
  subst hjn hv hK
  obtain ⟨locs, X, n1, n2, hx, hZ, hc, hm, ho, r⟩ := N
  obtain ⟨cl, A, -, A2, A3⟩ := n2.arr hi
  obtain ⟨T', h', X', e', W, stp⟩ := stB X hx hZ rfl A (inb h0 (by rw [A2]; simpa using hlt)) (g := mkF m pc Ls (.int x :: .int j :: .ref a :: st)) rfl rfl (hb hc hd)
  subst e'
  obtain ⟨U, o, h1, h2⟩ := hr T' ⟨_, X', Fr.snoc X' n1 (n2.at hi).1, n2.putA hi W, hx, hZ, hc, hm, ho, r⟩
  exact ⟨U, o, stp _ h1, h2⟩
theorem k_bastoreZ (N : ONow p l e R s m args below meth c Z own cd ml ret nm T cells slots K) {a : Addr} {k : ClassId} {vs : List Value} {j : Int32} {x : Int32} {v : Value} {K' : List Ent} (i jn : Nat) (hd : decode cd pc = .ok (.bastore, 1)) (hi : K[i]? = some (oArr Z a k .boolean vs)) (h0 : ¬ j < 0) (hjn : j.toNatClampNeg = jn) (hlt : jn < vs.length) (hv : Value.int (nar .boolean x) = v) (hK : K.set i (oArr Z a k .boolean (vs.set jn v)) = K') (hr : ∀ T', ONow p l e R s m args below meth c Z own cd ml ret nm T' cells slots K' → OGo p e below Φ T' (mkF m (pc + 1) Ls st)) : OGo p e below Φ T (mkF m pc Ls (.int x :: .int j :: .ref a :: st)) := by
  subst hjn hv hK
  obtain ⟨locs, X, n1, n2, hx, hZ, hc, hm, ho, r⟩ := N
  obtain ⟨cl, A, -, A2, A3⟩ := n2.arr hi
  obtain ⟨T', h', X', e', W, stp⟩ := stZ X hx hZ rfl A (inb h0 (by rw [A2]; simpa using hlt)) (g := mkF m pc Ls (.int x :: .int j :: .ref a :: st)) rfl rfl (hb hc hd)
  subst e'
  obtain ⟨U, o, h1, h2⟩ := hr T' ⟨_, X', Fr.snoc X' n1 (n2.at hi).1, n2.putA hi W, hx, hZ, hc, hm, ho, r⟩
  exact ⟨U, o, stp _ h1, h2⟩
theorem initO_k (N : ONow p l e R s m args below meth c Z own cd ml ret nm T cells slots K) {idx : Nat} {a : Addr} (W : Nat) (hd : decode cd pc = .ok (.invokespecial idx, 3)) (w1 : (Cond.methodLink own idx Lib.objectInit).before a0 Z = true) (w2 : (Cond.instanceMethod Lib.objectInit).before a0 Z = true) (w3 : (Cond.code Lib.objectInit ⟨#[0xb1]⟩ 1 none).before a0 Z = true) (hls : Ls.size = ml) (hW : (st.map fun v => v.category).sum = W) (hf : 1 ≤ R.frames) (hlo : W + 12 ≤ R.locals) (hr : ∀ T', ONow p l e R s m args below meth c Z own cd ml ret nm T' cells slots K → OGo p e below Φ T' (mkF m (pc + 3) Ls st)) : OGo p e below Φ T (mkF m pc Ls (.ref a :: st)) := by
  obtain ⟨locs, X, n1, n2, hx, hZ, hc, hm, ho, r⟩ := N
  obtain ⟨T', X', e', stp⟩ := initO X hx hZ ho w1 w2 w3 rfl (g := mkF m pc Ls (.ref a :: st)) rfl (by rw [hm]; exact hls) rfl (hb hc hd) hf (W := W) (by show 2 * 0 + _ ≤ _; rw [Nat.zero_add]; exact Nat.le_of_eq hW) hlo
  obtain ⟨U, o, h1, h2⟩ := hr T' ⟨locs, X', n1, by rw [e']; exact n2, hx, hZ, hc, hm, ho, r⟩
  exact ⟨U, o, stp _ h1, h2⟩
theorem k_static (N : ONow p l e R s m args below meth c Z own cd ml ret nm T cells slots K) {y : MethodName} {bytes : ByteArray} {maxL : Nat} {rt : Option FieldType} {rm : Room} {Q : Option Value → List Ent → Prop} {idx : Nat} {rest : List Value} {ps : List FieldType} {rp : Option FieldType} {cells' slots' : Nat} (as : List Value) (hd : decode cd pc = .ok (.invokestatic idx, 3)) (w1 : (Cond.methodLink own idx y).before a0 Z = true) (w2 : (Cond.static y).before a0 Z = true) (w3 : (Cond.initialized y.cls).before a0 Z = true) (w4 : (Cond.code y bytes maxL rt).before a0 Z = true) (hy : y.cls ≠ "java/lang/invoke/MethodHandle" ∧ y.cls ≠ "java/lang/invoke/VarHandle") (hpd : parseMethodDescriptor y.desc = some ⟨ps, rp⟩) (hlen : as.length = ps.length) (hM : OMeets l y bytes maxL rt rm Z as K Q) (hst : st = as.reverse ++ rest) (hls : Ls.size = ml) (W : Nat) (hW : (rest.map fun v => v.category).sum = W) (hf : rm.frames + 1 ≤ R.frames) (hlo : W + (maxL + 11) + rm.locals ≤ R.locals) (hce : cells + rm.cells = cells') (hse : slots + rm.slots = slots') (hc1 : cells' ≤ R.cells) (hs1 : slots' ≤ R.slots) (hr : ∀ T' v K', ONow p l e R s m args below meth c Z own cd ml ret nm T' cells' slots' K' → Q v K' → OGo p e below Φ T' (mkF m (pc + 3) Ls (v.toList ++ rest))) : OGo p e below Φ T (mkF m pc Ls st) := by
  subst hce hse hst
  obtain ⟨locs, X, n1, n2, hx, hZ, hc, hm, ho, r⟩ := N
  have := Jvm.LawKit.callS X hx (y := y) ho (mvT hZ w1) (mvT hZ w2) (mvT hZ w3) (mvT hZ w4) hy (backOf (W := W) (Q := fun v h L => Fr Z.heap.size L ∧ ∃ K', OKnow Z h K' ∧ Q v K') (hM [] T.heap n2) hZ w4 w3 hf hlo) (g := mkF m pc Ls (as.reverse ++ rest)) rfl (by rw [hm]; exact hls) (argsL := as) (rest := rest) (lenOf hpd hlen) rfl (by show 2 * 0 + _ ≤ _; rw [Nat.zero_add]; exact Nat.le_of_eq hW) (hb hc hd) (fun _ _ => ⟨rfl, rfl, hc1, hs1⟩)
  obtain ⟨v, vm₁, ⟨T', L', k', n'⟩, -, X', ⟨Lc, ⟨q1, K', q2, q3⟩, e1, e2, e3⟩, stp⟩ := this
  dsimp only [Pt.U, Pt.locs, Pt.cells, Pt.slots] at X' e1 e2 e3 stp q2
  subst e1 e2 e3
  obtain ⟨U, o, h1, h2⟩ := hr T' v K' ⟨_, X', Fr.app n1 q1, q2, hx, hZ, hc, hm, ho, r⟩ q3
  exact ⟨U, o, stp _ h1, h2⟩
theorem k_special (N : ONow p l e R s m args below meth c Z own cd ml ret nm T cells slots K) {y : MethodName} {bytes : ByteArray} {maxL : Nat} {rm : Room} {Q : Option Value → List Ent → Prop} {idx : Nat} {rest : List Value} {ps : List FieldType} {rp : Option FieldType} {cells' slots' : Nat} (as : List Value) {a : Addr} (hd : decode cd pc = .ok (.invokespecial idx, 3)) (hy1 : y.name = "<init>") (w1 : (Cond.methodLink own idx y).before a0 Z = true) (w2 : (Cond.instanceMethod y).before a0 Z = true) (w3 : (Cond.initialized y.cls).before a0 Z = true) (w4 : (Cond.code y bytes maxL none).before a0 Z = true) (hy : y.cls ≠ "java/lang/invoke/MethodHandle" ∧ y.cls ≠ "java/lang/invoke/VarHandle") (hpd : parseMethodDescriptor y.desc = some ⟨ps, rp⟩) (hlen : as.length = ps.length) (hM : OMeets l y bytes maxL none rm Z (.ref a :: as) K Q) (hst : st = as.reverse ++ .ref a :: rest) (hls : Ls.size = ml) (W : Nat) (hW : (rest.map fun v => v.category).sum = W) (hf : rm.frames + 1 ≤ R.frames) (hlo : W + (maxL + 11) + rm.locals ≤ R.locals) (hce : cells + rm.cells = cells') (hse : slots + rm.slots = slots') (hc1 : cells' ≤ R.cells) (hs1 : slots' ≤ R.slots) (hr : ∀ T' v K', ONow p l e R s m args below meth c Z own cd ml ret nm T' cells' slots' K' → Q v K' → OGo p e below Φ T' (mkF m (pc + 3) Ls (v.toList ++ rest))) : OGo p e below Φ T (mkF m pc Ls st) := by
  subst hce hse hst
  obtain ⟨locs, X, n1, n2, hx, hZ, hc, hm, ho, r⟩ := N
  have := X.specialBack hx (y := y) hy1 ho (mvT hZ w1) (mvT hZ w2) (mvT hZ w4) hy (backOf (W := W) (Q := fun v h L => Fr Z.heap.size L ∧ ∃ K', OKnow Z h K' ∧ Q v K') (hM [] T.heap n2) hZ w4 w3 hf hlo) (g := mkF m pc Ls (as.reverse ++ .ref a :: rest)) rfl (by rw [hm]; exact hls) (Steps.refl _) (a := a) (argsL := as) (rest := rest) (lenOf hpd hlen) rfl (by show 2 * 0 + _ ≤ _; rw [Nat.zero_add]; exact Nat.le_of_eq hW) (hb hc hd) (fun _ _ => ⟨rfl, rfl, hc1, hs1⟩)
  obtain ⟨v, vm₁, ⟨T', L', k', n'⟩, -, X', ⟨Lc, ⟨q1, K', q2, q3⟩, e1, e2, e3⟩, stp⟩ := this
  dsimp only [Pt.U, Pt.locs, Pt.cells, Pt.slots] at X' e1 e2 e3 stp q2
  subst e1 e2 e3
  obtain ⟨U, o, h1, h2⟩ := hr T' v K' ⟨_, X', Fr.app n1 q1, q2, hx, hZ, hc, hm, ho, r⟩ q3
  exact ⟨U, o, stp.trans h1, h2⟩
theorem k_virtual (N : ONow p l e R s m args below meth c Z own cd ml ret nm T cells slots K) {y : MethodName} {bytes : ByteArray} {maxL : Nat} {rt : Option FieldType} {rm : Room} {Q : Option Value → List Ent → Prop} {idx : Nat} {rest : List Value} {ps : List FieldType} {rp : Option FieldType} {cells' slots' : Nat} {C : String} {z : MethodName} (as : List Value) {a : Addr} (hd : decode cd pc = .ok (.invokevirtual idx, 3)) (hE : ∀ h, OKnow Z h K → Exa Z h a C) (w1 : (Cond.methodLink own idx z).before a0 Z = true) (w2 : (Cond.declares z).before a0 Z = true) (nf : ∀ s' : State, Z.Warmed39 s'.vm → NotFace s' z) (w5 : (Cond.selects C z y).before a0 Z = true) (w6 : (Cond.instanceMethod y).before a0 Z = true) (w3 : (Cond.initialized y.cls).before a0 Z = true) (w4 : (Cond.code y bytes maxL rt).before a0 Z = true) (hy : z.cls ≠ "java/lang/invoke/MethodHandle" ∧ z.cls ≠ "java/lang/invoke/VarHandle") (hpd : parseMethodDescriptor z.desc = some ⟨ps, rp⟩) (hlen : as.length = ps.length) (hM : OMeets l y bytes maxL rt rm Z (.ref a :: as) K Q) (hst : st = as.reverse ++ .ref a :: rest) (hls : Ls.size = ml) (W : Nat) (hW : (rest.map fun v => v.category).sum = W) (hf : rm.frames + 1 ≤ R.frames) (hlo : W + (maxL + 11) + rm.locals ≤ R.locals) (hce : cells + rm.cells = cells') (hse : slots + rm.slots = slots') (hc1 : cells' ≤ R.cells) (hs1 : slots' ≤ R.slots) (hr : ∀ T' v K', ONow p l e R s m args below meth c Z own cd ml ret nm T' cells' slots' K' → Q v K' → OGo p e below Φ T' (mkF m (pc + 3) Ls (v.toList ++ rest))) : OGo p e below Φ T (mkF m pc Ls st) := by
  subst hce hse hst
  obtain ⟨locs, X, n1, n2, hx, hZ, hc, hm, ho, r⟩ := N
  obtain ⟨cq, kq, qa, qb, qc⟩ := isOf hZ rfl (hE _ n2)
  have := X.virtualBack hx (y := z) (z := y) ho (mvT hZ w1) (mvT hZ w2) (nf s hZ) (mvT hZ w5) (mvT hZ w6) hy (backOf (W := W) (Q := fun v h L => Fr Z.heap.size L ∧ ∃ K', OKnow Z h K' ∧ Q v K') (hM [] T.heap n2) hZ w4 w3 hf hlo) qa qc (g := mkF m pc Ls (as.reverse ++ .ref a :: rest)) rfl (by rw [hm]; exact hls) (Steps.refl _) (argsL := as) (rest := rest) (lenOf hpd hlen) rfl (by show 2 * 0 + _ ≤ _; rw [Nat.zero_add]; exact Nat.le_of_eq hW) (hb hc hd) (fun _ _ => ⟨rfl, rfl, hc1, hs1⟩)
  obtain ⟨v, vm₁, ⟨T', L', k', n'⟩, -, X', ⟨Lc, ⟨q1, K', q2, q3⟩, e1, e2, e3⟩, stp⟩ := this
  dsimp only [Pt.U, Pt.locs, Pt.cells, Pt.slots] at X' e1 e2 e3 stp q2
  subst e1 e2 e3
  obtain ⟨U, o, h1, h2⟩ := hr T' v K' ⟨_, X', Fr.app n1 q1, q2, hx, hZ, hc, hm, ho, r⟩ q3
  exact ⟨U, o, stp.trans h1, h2⟩
theorem nf_self {C : String} {y : MethodName} (w : (Cond.selects C y y).before a0 Z = true) : ∀ s' : State, Z.Warmed39 s'.vm → NotFace s' y := fun s' hZ => notFace_of_selects (args := #[]) (mvT hZ w)
theorem k_private (N : ONow p l e R s m args below meth c Z own cd ml ret nm T cells slots K) {y : MethodName} {bytes : ByteArray} {maxL : Nat} {rt : Option FieldType} {rm : Room} {Q : Option Value → List Ent → Prop} {idx : Nat} {rest : List Value} {ps : List FieldType} {rp : Option FieldType} {cells' slots' : Nat} {fs : List FV} {kk : Nat} (as : List Value) {a : Addr} (i : Nat) (hd : decode cd pc = .ok (.invokevirtual idx, 3)) (hi : K[i]? = some (oObj Z a y.cls fs)) (wi : (Cond.instantiable y.cls kk).before a0 Z = true) (w1 : (Cond.methodLink own idx y).before a0 Z = true) (w2 : (Cond.instanceMethod y).before a0 Z = true) (w5 : (Cond.privateMethod y).before a0 Z = true) (w3 : (Cond.initialized y.cls).before a0 Z = true) (w4 : (Cond.code y bytes maxL rt).before a0 Z = true) (hy : y.cls ≠ "java/lang/invoke/MethodHandle" ∧ y.cls ≠ "java/lang/invoke/VarHandle") (hpd : parseMethodDescriptor y.desc = some ⟨ps, rp⟩) (hlen : as.length = ps.length) (hM : OMeets l y bytes maxL rt rm Z (.ref a :: as) K Q) (hst : st = as.reverse ++ .ref a :: rest) (hls : Ls.size = ml) (W : Nat) (hW : (rest.map fun v => v.category).sum = W) (hf : rm.frames + 1 ≤ R.frames) (hlo : W + (maxL + 11) + rm.locals ≤ R.locals) (hce : cells + rm.cells = cells') (hse : slots + rm.slots = slots') (hc1 : cells' ≤ R.cells) (hs1 : slots' ≤ R.slots) (hr : ∀ T' v K', ONow p l e R s m args below meth c Z own cd ml ret nm T' cells' slots' K' → Q v K' → OGo p e below Φ T' (mkF m (pc + 3) Ls (v.toList ++ rest))) : OGo p e below Φ T (mkF m pc Ls st) := by
  subst hce hse hst
  obtain ⟨locs, X, n1, n2, hx, hZ, hc, hm, ho, r⟩ := N
  obtain ⟨cq, q1, q2⟩ := (n2.exa hi).cell
  have hpv := Cond.privateMethod_at (mvP (args := #[]) hZ w5)
  obtain ⟨ci, ki, i1, i2, -, i4, -⟩ := Cond.instantiable_spec (mv (args := args) hZ wi)
  have hsel : (Cond.selects y.cls y y).before args s = true := selects_self_of_private i1 i2 (by simp only [Bool.or_eq_false_iff] at i4; exact i4.1) hpv (mvT hZ w2) hy
  have := X.privateBack hx (y := y) ho (mvT hZ w1) (mvT hZ w2) hsel hpv (mvT hZ w4) hy (backOf (W := W) (Q := fun v h L => Fr Z.heap.size L ∧ ∃ K', OKnow Z h K' ∧ Q v K') (hM [] T.heap n2) hZ w4 w3 hf hlo) (g := mkF m pc Ls (as.reverse ++ .ref a :: rest)) rfl (by rw [hm]; exact hls) (Steps.refl _) (a := a) q1 q2 (argsL := as) (rest := rest) (lenOf hpd hlen) rfl (by show 2 * 0 + _ ≤ _; rw [Nat.zero_add]; exact Nat.le_of_eq hW) (hb hc hd) (fun _ _ => ⟨rfl, rfl, hc1, hs1⟩)
  obtain ⟨v, vm₁, ⟨T', L', k', n'⟩, -, X', ⟨Lc, ⟨q1, K', q2, q3⟩, e1, e2, e3⟩, stp⟩ := this
  dsimp only [Pt.U, Pt.locs, Pt.cells, Pt.slots] at X' e1 e2 e3 stp q2
  subst e1 e2 e3
  obtain ⟨U, o, h1, h2⟩ := hr T' v K' ⟨_, X', Fr.app n1 q1, q2, hx, hZ, hc, hm, ho, r⟩ q3
  exact ⟨U, o, stp.trans h1, h2⟩
theorem k_doubleBits (N : ONow p l e R s m args below meth c Z own cd ml ret nm T cells slots K) {idx : Nat} {b : UInt64} (W : Nat) (hd : decode cd pc = .ok (.invokestatic idx, 3)) (w1 : (Cond.methodLink own idx Jvm.Free.NT.doubleBitsN).before a0 Z = true) (w2 : (Cond.static Jvm.Free.NT.doubleBitsN).before a0 Z = true) (w3 : (Cond.initialized "java/lang/Double").before a0 Z = true) (w4 : (Cond.native Jvm.Free.NT.doubleBitsN).before a0 Z = true) (hls : Ls.size = ml) (hW : (st.map fun v => v.category).sum = W) (hf : 1 ≤ R.frames) (hlo : W + 15 ≤ R.locals) (hr : ∀ T', ONow p l e R s m args below meth c Z own cd ml ret nm T' cells slots K → OGo p e below Φ T' (mkF m (pc + 3) Ls (.long b.toInt64 :: st))) : OGo p e below Φ T (mkF m pc Ls (.double b :: st)) := by
  obtain ⟨locs, X, n1, n2, hx, hZ, hc, hm, ho, r⟩ := N
  obtain ⟨mk, methM, hnamed, hmethM, -, -, -, hsig⟩ := Cond.native_spec (mvT (args := args) hZ w4)
  obtain ⟨v, vm₁, B, hW₁, X', ⟨hB, hv⟩, stp⟩ := Stand.staticBack X hx (y := Jvm.Free.NT.doubleBitsN) ho (mvT hZ w1) (mvT hZ w2) (mvT hZ w3) hnamed hmethM hsig (by decide) (Jvm.Free.NT.DoubleBits.pays (mvT hZ w4) (mvT hZ w2) hf hlo) (g := mkF m pc Ls (.double b :: st)) rfl (by rw [hm]; exact hls) (Steps.refl _) (argsL := [.double b]) (rest := st) (lenOf (ps := [.double]) (r := some .long) (by decide +kernel) rfl) rfl (by show 2 * 0 + _ ≤ _; rw [Nat.zero_add]; exact Nat.le_of_eq hW) (hb hc hd) (fun _ _ => ⟨b, rfl⟩)
  have hv1 : v = some (.long b.toInt64) := hv b rfl
  subst hB hv1
  obtain ⟨U, o, h1, h2⟩ := hr _ ⟨locs, X', n1, n2, hx, hZ, hc, hm, ho, r⟩
  exact ⟨U, o, stp.trans h1, h2⟩
theorem k_ireturn (N : ONow p l e R s m args below meth c Z own cd ml ret nm T cells slots K) {z : Int32} {Q : Option Value → List Ent → Prop} {rm : Room} (hd : decode cd pc = .ok (.ireturn, 1)) (hret : ret = some .int) (h1 : cells ≤ rm.cells) (h2 : slots ≤ rm.slots) (hq : Q (some (.int z)) K) : OGo p e below (OPost Z s Q rm) T (mkF m pc Ls (.int z :: st)) := by
  obtain ⟨locs, X, n1, n2, hx, hZ, hc, hm, ho, h5, hnm, h7⟩ := N
  rw [hret] at h5
  obtain ⟨fs, hr, hrun, hended, hW, hsame⟩ := X.leave (v := (some (.int z))) (fun h => by rw [h5] at h; cases h) h7
  exact ⟨_, _, retOut X hx h5 rfl (Or.inl ⟨rfl, Or.inl rfl, z, rfl⟩) (hb hc hd) hr, hrun, hended, _, _, rfl, ⟨n1, K, n2, hq⟩, ⟨_, rfl⟩, hW, hsame.mono h1 h2⟩
theorem k_zreturn (N : ONow p l e R s m args below meth c Z own cd ml ret nm T cells slots K) {z : Int32} {Q : Option Value → List Ent → Prop} {rm : Room} (hd : decode cd pc = .ok (.ireturn, 1)) (hret : ret = some .boolean) (h1 : cells ≤ rm.cells) (h2 : slots ≤ rm.slots) (hq : Q (some (.int (nar .boolean z))) K) : OGo p e below (OPost Z s Q rm) T (mkF m pc Ls (.int z :: st)) := by
  obtain ⟨locs, X, n1, n2, hx, hZ, hc, hm, ho, h5, hnm, h7⟩ := N
  rw [hret] at h5
  obtain ⟨fs, hr, hrun, hended, hW, hsame⟩ := X.leave (v := (some (.int (nar .boolean z)))) (fun h => by rw [h5] at h; cases h) h7
  exact ⟨_, _, retN X hx (t := .boolean) h5 (by simp) (hb hc hd) hr, hrun, hended, _, _, rfl, ⟨n1, K, n2, hq⟩, ⟨_, rfl⟩, hW, hsame.mono h1 h2⟩
theorem k_lreturn (N : ONow p l e R s m args below meth c Z own cd ml ret nm T cells slots K) {z : Int64} {Q : Option Value → List Ent → Prop} {rm : Room} (hd : decode cd pc = .ok (.lreturn, 1)) (hret : ret = some .long) (h1 : cells ≤ rm.cells) (h2 : slots ≤ rm.slots) (hq : Q (some (.long z)) K) : OGo p e below (OPost Z s Q rm) T (mkF m pc Ls (.long z :: st)) := by
  obtain ⟨locs, X, n1, n2, hx, hZ, hc, hm, ho, h5, hnm, h7⟩ := N
  rw [hret] at h5
  obtain ⟨fs, hr, hrun, hended, hW, hsame⟩ := X.leave (v := (some (.long z))) (fun h => by rw [h5] at h; cases h) h7
  exact ⟨_, _, retOut X hx h5 rfl (Or.inr (Or.inl ⟨rfl, rfl, z, rfl⟩)) (hb hc hd) hr, hrun, hended, _, _, rfl, ⟨n1, K, n2, hq⟩, ⟨_, rfl⟩, hW, hsame.mono h1 h2⟩
theorem k_dreturn (N : ONow p l e R s m args below meth c Z own cd ml ret nm T cells slots K) {z : UInt64} {Q : Option Value → List Ent → Prop} {rm : Room} (hd : decode cd pc = .ok (.dreturn, 1)) (hret : ret = some .double) (h1 : cells ≤ rm.cells) (h2 : slots ≤ rm.slots) (hq : Q (some (.double z)) K) : OGo p e below (OPost Z s Q rm) T (mkF m pc Ls (.double z :: st)) := by
  obtain ⟨locs, X, n1, n2, hx, hZ, hc, hm, ho, h5, hnm, h7⟩ := N
  rw [hret] at h5
  obtain ⟨fs, hr, hrun, hended, hW, hsame⟩ := X.leave (v := (some (.double z))) (fun h => by rw [h5] at h; cases h) h7
  exact ⟨_, _, retOut X hx h5 rfl (Or.inr (Or.inr (Or.inl ⟨rfl, rfl, z, rfl⟩))) (hb hc hd) hr, hrun, hended, _, _, rfl, ⟨n1, K, n2, hq⟩, ⟨_, rfl⟩, hW, hsame.mono h1 h2⟩
theorem nar_ref {t : FieldType} {w : Value} (h : w.isRef = true) : narrow t w = w := by cases t <;> cases w <;> first | rfl | cases h
theorem k_areturn (N : ONow p l e R s m args below meth c Z own cd ml ret nm T cells slots K) {w : Value} {t : FieldType} (ht : t.isReference = true) (hw : w.isRef = true) {Q : Option Value → List Ent → Prop} {rm : Room} (hd : decode cd pc = .ok (.areturn, 1)) (hret : ret = some t) (h1 : cells ≤ rm.cells) (h2 : slots ≤ rm.slots) (hq : Q (some w) K) : OGo p e below (OPost Z s Q rm) T (mkF m pc Ls (w :: st)) := by
  obtain ⟨locs, X, n1, n2, hx, hZ, hc, hm, ho, h5, hnm, h7⟩ := N
  rw [hret] at h5
  obtain ⟨fs, hr, hrun, hended, hW, hsame⟩ := X.leave (v := (some w)) (fun h => by rw [h5] at h; cases h) h7
  exact ⟨_, _, retOut X hx h5 (nar_ref hw) (Or.inr (Or.inr (Or.inr (Or.inr ⟨rfl, ht, hw⟩)))) (hb hc hd) hr, hrun, hended, _, _, rfl, ⟨n1, K, n2, hq⟩, ⟨_, rfl⟩, hW, hsame.mono h1 h2⟩
theorem k_return (N : ONow p l e R s m args below meth c Z own cd ml ret nm T cells slots K) {Q : Option Value → List Ent → Prop} {rm : Room} (hd : decode cd pc = .ok (.return_, 1)) (hret : ret = none) (h1 : cells ≤ rm.cells) (h2 : slots ≤ rm.slots) (hq : Q none K) : OGo p e below (OPost Z s Q rm) T (mkF m pc Ls []) := by
  obtain ⟨locs, X, n1, n2, hx, hZ, hc, hm, ho, h5, hnm, h7⟩ := N
  rw [hret] at h5
  obtain ⟨fs, hr, hrun, hended, hW, hsame⟩ := X.leave (v := none) (fun h => by rfl) h7
  exact ⟨_, _, X.returnOut hx h5 (hb hc hd) hr, hrun, hended, _, _, rfl, ⟨n1, K, n2, hq⟩, ⟨_, rfl⟩, hW, hsame.mono h1 h2⟩
end St
end Jvm.Own7
namespace Jvm.Own7F
open Jvm.FP.Core
/-! Laws of the rounded quotient, product and sum, by the values in units of the least double. -/
theorem signed_nonneg_iff {s : Bool} {m : Nat} : 0 < signed s m ↔ s = false ∧ 0 < m := by cases s <;> simp [signed] <;> omega
theorem ratio_le {s : Bool} {A B : Nat} {e e0 : Int} {V : Datum} (hB : 0 < B) (hV : FP.Core.fits b64 V) (hn : V ≠ .nan) (h0 : e0 ≤ b64.qmin) (h0e : e0 ≤ e)
    (h : signed s (inUnits A e e0) ≤ zval b64 V * ((2 ^ (b64.qmin - e0).toNat * B : Nat) : Int)) : zval b64 (roundRatio b64 s A B e) ≤ zval b64 V := by
  have le := zmag_roundRatio_le good_b64 (s := s) (A := A) hB hV hn h0 h0e
  have ge := zmag_roundRatio_ge good_b64 (s := s) (A := A) hB hV h0 h0e
  have hp : 0 < 2 ^ (b64.qmin - e0).toNat * B := Nat.mul_pos (Nat.two_pow_pos _) hB
  rw [Nat.mul_assoc] at le ge
  unfold zval at h ⊢
  rw [sgn_roundRatio]
  generalize 2 ^ (b64.qmin - e0).toNat * B = P at *
  generalize zmag b64 (roundRatio b64 s A B e) = r at *
  generalize inUnits A e e0 = a at *
  generalize zmag b64 V = v at *
  have e1 : ((v * P : Nat) : Int) = (v : Int) * (P : Int) := Int.natCast_mul v P
  generalize sgn V = t at *
  cases s <;> cases t <;> simp only [signed, if_true, Bool.false_eq_true, if_false] at h ⊢
  · have := le (by omega); omega
  · have hz : v * P = 0 := by rw [Int.neg_mul] at h; omega
    have hv : v = 0 := by rcases Nat.mul_eq_zero.mp hz with q | q <;> omega
    have := le (by rw [Int.neg_mul] at h; omega); omega
  · omega
  · have := ge (by rw [Int.neg_mul] at h; omega); omega
theorem ratio_neg (s : Bool) (A B : Nat) (e : Int) : zval b64 (roundRatio b64 (!s) A B e) = -zval b64 (roundRatio b64 s A B e) := by
  have : roundRatio b64 (!s) A B e = negate (roundRatio b64 s A B e) := by
    unfold roundRatio roundAt settle bound
    split
    · rfl
    · split <;> split <;> rfl
  rw [this, zval_negate]
theorem ratio_ge {s : Bool} {A B : Nat} {e e0 : Int} {V : Datum} (hB : 0 < B) (hV : FP.Core.fits b64 V) (hn : V ≠ .nan) (h0 : e0 ≤ b64.qmin) (h0e : e0 ≤ e)
    (h : zval b64 V * ((2 ^ (b64.qmin - e0).toNat * B : Nat) : Int) ≤ signed s (inUnits A e e0)) : zval b64 V ≤ zval b64 (roundRatio b64 s A B e) := by
  have q := ratio_le (s := !s) (A := A) (V := negate V) hB (negate_fits hV) (by cases V <;> first | exact absurd rfl hn | exact Datum.noConfusion) h0 h0e (by
    rw [zval_negate, Int.neg_mul]
    have : signed (!s) (inUnits A e e0) = -signed s (inUnits A e e0) := by cases s <;> simp [signed]
    rw [this]; omega)
  rw [zval_negate, ratio_neg] at q; omega
abbrev z (x : UInt64) : Int := zval b64 (val64 x)
def U : Nat := 2 ^ 1074
theorem qm : b64.qmin = -1074 := by decide
theorem fin_z {x : UInt64} (h : DFin x) : ∃ s c q, val64 x = .fin s c q ∧ -1074 ≤ q := by
  obtain ⟨s, c, q, e⟩ := h
  have f := val64_fits x
  rw [e] at f
  exact ⟨s, c, q, e, by have := f.2.1; rw [qm] at this; exact this⟩
theorem div_val {a b : UInt64} (ha : DFin a) (hb : DFin b) (hz : z b ≠ 0) : val64 (ddiv a b) = roundRatio b64 (sgn (val64 a) != sgn (val64 b)) (zmag b64 (val64 a)) (zmag b64 (val64 b)) 0 := by
  obtain ⟨s, c, q, e1, h1⟩ := fin_z ha
  obtain ⟨t, d, r, e2, h2⟩ := fin_z hb
  rw [val64_ddiv]
  unfold z zval at hz
  rw [e2] at hz
  simp only [sgn, zmag] at hz
  have hd : d ≠ 0 := fun q => hz (by subst q; cases t <;> simp [signed, inUnits])
  rw [e1, e2]
  simp only [quotient, hd, if_false, sgn, zmag, inUnits, qm]
  have p2 := Nat.two_pow_pos (r - -1074).toNat
  refine roundRatio_congr (by omega) (Nat.mul_pos (by omega) p2) ?_
  have x1 : c * (d * 2 ^ (r - -1074).toNat) * 2 ^ (q - r - 0).toNat = c * d * 2 ^ ((r - -1074).toNat + (q - r - 0).toNat) := by rw [Nat.pow_add]; ac_rfl
  have x2 : c * 2 ^ (q - -1074).toNat * d * 2 ^ (0 - (q - r)).toNat = c * d * 2 ^ ((q - -1074).toNat + (0 - (q - r)).toNat) := by rw [Nat.pow_add]; ac_rfl
  rw [x1, x2]
  congr 2; omega
theorem mul_val {a b : UInt64} (ha : DFin a) (hb : DFin b) : val64 (dmul a b) = roundRatio b64 (sgn (val64 a) != sgn (val64 b)) (zmag b64 (val64 a) * zmag b64 (val64 b)) 1 (-2148) := by
  obtain ⟨s, c, q, e1, h1⟩ := fin_z ha
  obtain ⟨t, d, r, e2, h2⟩ := fin_z hb
  rw [val64_dmul, e1, e2]
  simp only [exactProduct, round, sgn, zmag, inUnits, qm]
  refine roundRatio_congr (by decide) (by decide) ?_
  have x1 : c * d * 1 * 2 ^ (q + r - -2148).toNat = c * d * 2 ^ (q + r - -2148).toNat := by rw [Nat.mul_one]
  have x2 : c * 2 ^ (q - -1074).toNat * (d * 2 ^ (r - -1074).toNat) * 1 * 2 ^ (-2148 - (q + r)).toNat = c * d * 2 ^ ((q - -1074).toNat + (r - -1074).toNat + (-2148 - (q + r)).toNat) := by rw [Nat.pow_add, Nat.pow_add]; ac_rfl
  rw [x1, x2]
  congr 2; omega
theorem signed_mul' (s t : Bool) (m n : Nat) : signed (s != t) (m * n) = signed s m * signed t n := by
  cases s <;> cases t <;> simp [signed, Int.natCast_mul, Int.neg_mul, Int.mul_neg]
theorem signed_scale (s : Bool) (m n : Nat) : signed s (m * n) = signed s m * (n : Int) := by cases s <;> simp [signed, Int.natCast_mul, Int.neg_mul]
theorem U_pos : 0 < U := Nat.two_pow_pos _
/-- the quotient by a positive double -/
theorem div_le {a b V : UInt64} (ha : DFin a) (hb : DFin b) (hb0 : 0 < z b) (hV : val64 V ≠ .nan) (h : z a * (U : Int) ≤ z V * z b) : z (ddiv a b) ≤ z V := by
  have hb1 := signed_nonneg_iff.mp (show 0 < signed (sgn (val64 b)) (zmag b64 (val64 b)) from hb0)
  have e : z b = ((zmag b64 (val64 b) : Nat) : Int) := by show signed _ _ = _; rw [hb1.1]; simp [signed]
  show zval b64 (val64 (ddiv a b)) ≤ _
  rw [div_val ha hb (by omega), hb1.1, Bool.bne_false]
  refine ratio_le (e0 := -1074) hb1.2 (val64_fits V) hV (by rw [qm]; omega) (by omega) ?_
  rw [qm]
  simp only [inUnits, show (-1074 - -1074 : Int).toNat = 0 from rfl, show (0 - -1074 : Int).toNat = 1074 from rfl, Nat.pow_zero, Nat.one_mul]
  rw [signed_scale, ← e]; exact h
theorem div_ge {a b V : UInt64} (ha : DFin a) (hb : DFin b) (hb0 : 0 < z b) (hV : val64 V ≠ .nan) (h : z V * z b ≤ z a * (U : Int)) : z V ≤ z (ddiv a b) := by
  have hb1 := signed_nonneg_iff.mp (show 0 < signed (sgn (val64 b)) (zmag b64 (val64 b)) from hb0)
  have e : z b = ((zmag b64 (val64 b) : Nat) : Int) := by show signed _ _ = _; rw [hb1.1]; simp [signed]
  show _ ≤ zval b64 (val64 (ddiv a b))
  rw [div_val ha hb (by omega), hb1.1, Bool.bne_false]
  refine ratio_ge (e0 := -1074) hb1.2 (val64_fits V) hV (by rw [qm]; omega) (by omega) ?_
  rw [qm]
  simp only [inUnits, show (-1074 - -1074 : Int).toNat = 0 from rfl, show (0 - -1074 : Int).toNat = 1074 from rfl, Nat.pow_zero, Nat.one_mul]
  rw [signed_scale, ← e]; exact h
theorem z_l2d {a : Int64} (h : Small53 a) : z (l2d a) = a.toInt * (U : Int) := by
  have q := whole_zval good_b64 (val64_fits _) (l2d_whole h)
  rw [qm] at q; exact q
theorem z_i2d (x : Int32) : z (i2d x) = x.toInt * (U : Int) := by
  have h1 := Int32.toInt_lt x; have h2 := Int32.le_toInt x
  have e : x.toInt64.toInt = x.toInt := Int32.toInt_toInt64 x
  rw [i2d_l2d, z_l2d ⟨by rw [e]; omega, by rw [e]; omega⟩, e]
theorem mul_le {a b V : UInt64} (ha : DFin a) (hb : DFin b) (hV : val64 V ≠ .nan) (h : z a * z b ≤ z V * (U : Int)) : z (dmul a b) ≤ z V := by
  show zval b64 (val64 (dmul a b)) ≤ _
  rw [mul_val ha hb]
  refine ratio_le (e0 := -2148) (by decide) (val64_fits V) hV (by rw [qm]; omega) (by omega) ?_
  rw [qm]
  simp only [inUnits, show (-2148 - -2148 : Int).toNat = 0 from rfl, show (-1074 - -2148 : Int).toNat = 1074 from rfl, Nat.pow_zero, Nat.mul_one]
  rw [signed_mul']; exact h
theorem mul_ge {a b V : UInt64} (ha : DFin a) (hb : DFin b) (hV : val64 V ≠ .nan) (h : z V * (U : Int) ≤ z a * z b) : z V ≤ z (dmul a b) := by
  show _ ≤ zval b64 (val64 (dmul a b))
  rw [mul_val ha hb]
  refine ratio_ge (e0 := -2148) (by decide) (val64_fits V) hV (by rw [qm]; omega) (by omega) ?_
  rw [qm]
  simp only [inUnits, show (-2148 - -2148 : Int).toNat = 0 from rfl, show (-1074 - -2148 : Int).toNat = 1074 from rfl, Nat.pow_zero, Nat.mul_one]
  rw [signed_mul']; exact h
theorem add_le {a b V : UInt64} (ha : DFin a) (hb : DFin b) (hV : val64 V ≠ .nan) (h : z a + z b ≤ z V) : z (dadd a b) ≤ z V := by
  show zval b64 (val64 (dadd a b)) ≤ _
  rw [val64_dadd]; exact sum_le good_b64 ha hb (val64_fits a) (val64_fits b) (val64_fits V) hV h
theorem add_ge {a b V : UInt64} (ha : DFin a) (hb : DFin b) (hV : val64 V ≠ .nan) (h : z V ≤ z a + z b) : z V ≤ z (dadd a b) := by
  show _ ≤ zval b64 (val64 (dadd a b))
  rw [val64_dadd]; exact sum_ge good_b64 ha hb (val64_fits a) (val64_fits b) (val64_fits V) hV h
/-- the magnitudes of roundings are ordered as what was rounded -/
theorem mag_mono {s t : Bool} {A1 B1 A2 B2 : Nat} {e1 e2 e0 : Int} (hB1 : 0 < B1) (hB2 : 0 < B2) (h0 : e0 < b64.qmin) (h1 : e0 ≤ e1) (h2 : e0 ≤ e2)
    (h : inUnits A1 e1 e0 * B2 ≤ inUnits A2 e2 e0 * B1) : zmag b64 (roundRatio b64 s A1 B1 e1) ≤ zmag b64 (roundRatio b64 t A2 B2 e2) := by
  have f1 := roundRatio_fits good_b64 s A1 hB1 e1
  have f2 := roundRatio_fits good_b64 t A2 hB2 e2
  have le := zmag_roundRatio_le good_b64 (s := s) (A := A1) (V := roundRatio b64 t A2 B2 e2) hB1 f2 (by rcases roundRatio_cases b64 t A2 B2 e2 with ⟨c, q, e⟩ | e <;> rw [e] <;> exact Datum.noConfusion) (Int.le_of_lt h0) h1
  have ge := zmag_roundRatio_ge good_b64 (s := t) (A := A2) (V := roundRatio b64 s A1 B1 e1) hB2 f1 (Int.le_of_lt h0) h2
  refine Nat.le_of_not_lt fun lt => ?_
  have top1 := zmag_le_top good_b64 f1
  obtain ⟨c2, q2, r2⟩ : ∃ c2 q2, roundRatio b64 t A2 B2 e2 = .fin t c2 q2 := by
    rcases roundRatio_cases b64 t A2 B2 e2 with r2 | r2
    · exact r2
    · rw [r2] at lt; exact absurd (Nat.lt_of_lt_of_le lt top1) (Nat.lt_irrefl _)
  obtain ⟨c1, q1, r1⟩ : ∃ c1 q1, roundRatio b64 s A1 B1 e1 = .fin s c1 q1 := by
    rcases roundRatio_cases b64 s A1 B1 e1 with r1 | r1
    · exact r1
    have i1 := (roundRatio_inf good_b64 (s := s) (A := A1) hB1 h0 h1).mp r1
    have i2 : roundRatio b64 t A2 B2 e2 = .inf t := (roundRatio_inf good_b64 hB2 h0 h2).mpr (by
      generalize (2 ^ (b64.p + 1) - 1) * 2 ^ (b64.qmax - 1 - e0).toNat = W at *
      have x1 := Nat.mul_le_mul_right B2 i1
      have x2 := Nat.le_trans x1 h
      have x3 : W * B1 * B2 = W * B2 * B1 := by ac_rfl
      rw [x3] at x2
      exact Nat.le_of_mul_le_mul_right x2 hB1)
    rw [r2] at i2; cases i2
  have n1 := roundRatio_nearest good_b64 hB1 r1 (c' := c2) (q' := q2) (by rw [r2] at f2; exact f2.1) (by rw [r2] at f2; exact f2.2.1) (Int.le_of_lt h0) h1
  have n2 := roundRatio_nearest good_b64 hB2 r2 (c' := c1) (q' := q1) (by rw [r1] at f1; exact f1.1) (by rw [r1] at f1; exact f1.2.1) (Int.le_of_lt h0) h2
  have m1 : inUnits c1 q1 e0 = zmag b64 (roundRatio b64 s A1 B1 e1) * 2 ^ (b64.qmin - e0).toNat := by
    rw [r1]; exact inUnits_move c1 (Int.le_of_lt h0) (by rw [r1] at f1; exact f1.2.1)
  have m2 : inUnits c2 q2 e0 = zmag b64 (roundRatio b64 t A2 B2 e2) * 2 ^ (b64.qmin - e0).toNat := by
    rw [r2]; exact inUnits_move c2 (Int.le_of_lt h0) (by rw [r2] at f2; exact f2.2.1)
  unfold distance at n1 n2
  rw [m1, m2] at n1 n2
  have cong : inUnits A1 e1 e0 * B2 = inUnits A2 e2 e0 * B1 → zmag b64 (roundRatio b64 s A1 B1 e1) = zmag b64 (roundRatio b64 t A2 B2 e2) := fun q => by
    have u1 : roundRatio b64 s A1 B1 e1 = roundRatio b64 s (inUnits A1 e1 e0) B1 e0 := roundRatio_congr hB1 hB1 (by
      unfold inUnits; rw [show (e0 - e1).toNat = 0 by omega]; rw [Nat.pow_zero, Nat.mul_one]; ac_rfl)
    have u2 : roundRatio b64 t A2 B2 e2 = roundRatio b64 t (inUnits A2 e2 e0) B2 e0 := roundRatio_congr hB2 hB2 (by
      unfold inUnits; rw [show (e0 - e2).toNat = 0 by omega]; rw [Nat.pow_zero, Nat.mul_one]; ac_rfl)
    have u3 : roundRatio b64 s (inUnits A1 e1 e0) B1 e0 = roundRatio b64 s (inUnits A2 e2 e0) B2 e0 := roundRatio_congr hB1 hB2 (by rw [q])
    rw [u1, u2, u3]
    by_cases w0 : s = t
    · rw [w0]
    · have w : s = !t := by cases s <;> cases t <;> simp_all
      have := ratio_neg t (inUnits A2 e2 e0) B2 e0
      rw [w]
      have v : ∀ s', zmag b64 (roundRatio b64 s' (inUnits A2 e2 e0) B2 e0) = (zval b64 (roundRatio b64 s' (inUnits A2 e2 e0) B2 e0)).natAbs := fun s' => (natAbs_signed _ _).symm
      rw [v, v, this, Int.natAbs_neg]
  generalize 2 ^ (b64.qmin - e0).toNat = P at *
  generalize zmag b64 (roundRatio b64 s A1 B1 e1) = y1 at *
  generalize zmag b64 (roundRatio b64 t A2 B2 e2) = y2 at *
  generalize inUnits A1 e1 e0 = a1 at *
  generalize inUnits A2 e2 e0 = a2 at *
  have g1 : y2 * P * B1 < a1 := Nat.lt_of_not_le fun q => absurd (le q) (Nat.not_le.mpr lt)
  have g2 : a2 < y1 * P * B2 := Nat.lt_of_not_le fun q => absurd (ge q) (Nat.not_le.mpr lt)
  have g3 : a1 < y1 * P * B1 := by
    have x := Nat.mul_lt_mul_of_pos_right g2 hB1
    have : y1 * P * B2 * B1 = y1 * P * B1 * B2 := by ac_rfl
    rw [this] at x
    exact Nat.lt_of_mul_lt_mul_right (Nat.lt_of_le_of_lt h x)
  have g4 : y2 * P * B2 < a2 := by
    have x := Nat.mul_lt_mul_of_pos_right g1 hB2
    have : y2 * P * B1 * B2 = y2 * P * B2 * B1 := by ac_rfl
    rw [this] at x
    exact Nat.lt_of_mul_lt_mul_right (Nat.lt_of_lt_of_le x h)
  have k1 : (y1 * P + y2 * P) * B1 ≤ 2 * a1 := by rw [Nat.add_mul]; simp only [← Int.natCast_mul] at n1; omega
  have k2 : 2 * a2 ≤ (y1 * P + y2 * P) * B2 := by rw [Nat.add_mul]; simp only [← Int.natCast_mul] at n2; omega
  have k3 := Nat.mul_le_mul_right B2 k1
  have k4 := Nat.mul_le_mul_right B1 k2
  have k5 : (y1 * P + y2 * P) * B1 * B2 = (y1 * P + y2 * P) * B2 * B1 := by ac_rfl
  have k6 : a1 * B2 = a2 * B1 := by
    rw [k5] at k3
    have := Nat.le_trans k4 k3
    rw [Nat.mul_assoc, Nat.mul_assoc] at this
    omega
  exact absurd (cong k6) (Nat.ne_of_gt lt)
theorem ratio_mono {s t : Bool} {A1 B1 A2 B2 : Nat} {e1 e2 e0 : Int} (hB1 : 0 < B1) (hB2 : 0 < B2) (h0 : e0 < b64.qmin) (h1 : e0 ≤ e1) (h2 : e0 ≤ e2)
    (h : signed s (inUnits A1 e1 e0) * (B2 : Int) ≤ signed t (inUnits A2 e2 e0) * (B1 : Int)) : zval b64 (roundRatio b64 s A1 B1 e1) ≤ zval b64 (roundRatio b64 t A2 B2 e2) := by
  have p := mag_mono (s := s) (t := t) (A1 := A1) (A2 := A2) hB1 hB2 h0 h1 h2
  have q := mag_mono (s := t) (t := s) (A1 := A2) (A2 := A1) hB2 hB1 h0 h2 h1
  have zz : ∀ {s' : Bool} {A B : Nat} {e : Int}, 0 < B → e0 ≤ e → inUnits A e e0 = 0 → zmag b64 (roundRatio b64 s' A B e) = 0 := fun {s' A B e} hB he hz => by
    have hA : A = 0 := by
      unfold inUnits at hz
      rcases Nat.mul_eq_zero.mp hz with w | w
      · exact w
      · exact absurd w (Nat.ne_of_gt (Nat.two_pow_pos _))
    unfold roundRatio; rw [if_pos hA]; simp [zmag, inUnits]
  have z1 := zz (s' := s) (A := A1) hB1 h1
  have z2 := zz (s' := t) (A := A2) hB2 h2
  unfold zval
  rw [sgn_roundRatio, sgn_roundRatio]
  generalize zmag b64 (roundRatio b64 s A1 B1 e1) = y1 at *
  generalize zmag b64 (roundRatio b64 t A2 B2 e2) = y2 at *
  generalize inUnits A1 e1 e0 = a1 at *
  generalize inUnits A2 e2 e0 = a2 at *
  have x1 : ((a1 * B2 : Nat) : Int) = (a1 : Int) * (B2 : Int) := Int.natCast_mul _ _
  have x2 : ((a2 * B1 : Nat) : Int) = (a2 : Int) * (B1 : Int) := Int.natCast_mul _ _
  cases s <;> cases t <;> simp only [signed, if_true, Bool.false_eq_true, if_false] at h ⊢
  · have := p (by omega); omega
  · rw [Int.neg_mul] at h
    have w1 : a1 * B2 = 0 := by omega
    have w2 : a2 * B1 = 0 := by omega
    have v1 := z1 (by rcases Nat.mul_eq_zero.mp w1 with w | w <;> omega)
    have v2 := z2 (by rcases Nat.mul_eq_zero.mp w2 with w | w <;> omega)
    omega
  · omega
  · rw [Int.neg_mul, Int.neg_mul] at h
    have := q (by omega); omega
theorem div_mono {a b c d : UInt64} (ha : DFin a) (hb : DFin b) (hc : DFin c) (hd : DFin d) (hb0 : 0 < z b) (hd0 : 0 < z d) (h : z a * z d ≤ z c * z b) : z (ddiv a b) ≤ z (ddiv c d) := by
  have hb1 := signed_nonneg_iff.mp (show 0 < signed (sgn (val64 b)) (zmag b64 (val64 b)) from hb0)
  have hd1 := signed_nonneg_iff.mp (show 0 < signed (sgn (val64 d)) (zmag b64 (val64 d)) from hd0)
  have eb : z b = ((zmag b64 (val64 b) : Nat) : Int) := by show signed _ _ = _; rw [hb1.1]; simp [signed]
  have ed : z d = ((zmag b64 (val64 d) : Nat) : Int) := by show signed _ _ = _; rw [hd1.1]; simp [signed]
  show zval b64 (val64 (ddiv a b)) ≤ zval b64 (val64 (ddiv c d))
  rw [div_val ha hb (by omega), div_val hc hd (by omega), hb1.1, hd1.1, Bool.bne_false, Bool.bne_false]
  refine ratio_mono (e0 := -1075) hb1.2 hd1.2 (by rw [qm]; omega) (by omega) (by omega) ?_
  simp only [inUnits, signed_scale]
  rw [← eb, ← ed]
  have e1 : signed (sgn (val64 a)) (zmag b64 (val64 a)) = z a := rfl
  have e2 : signed (sgn (val64 c)) (zmag b64 (val64 c)) = z c := rfl
  rw [e1, e2, Int.mul_right_comm, Int.mul_right_comm (z c)]
  exact Int.mul_le_mul_of_nonneg_right h (Int.natCast_nonneg _)
theorem mul_mono {a b c : UInt64} (ha : DFin a) (hb : DFin b) (hc : DFin c) (h : z a * z b ≤ z a * z c) : z (dmul a b) ≤ z (dmul a c) := by
  show zval b64 (val64 (dmul a b)) ≤ zval b64 (val64 (dmul a c))
  rw [mul_val ha hb, mul_val ha hc]
  refine ratio_mono (e0 := -2148) (by decide) (by decide) (by rw [qm]; omega) (by omega) (by omega) ?_
  simp only [inUnits, show (-2148 - -2148 : Int).toNat = 0 from rfl, Nat.pow_zero, Nat.mul_one, signed_mul']
  have : ((1 : Nat) : Int) = 1 := rfl
  rw [this, Int.mul_one, Int.mul_one]; exact h
theorem add_val {a b : UInt64} (ha : DFin a) (hb : DFin b) : ∃ s, val64 (dadd a b) = roundRatio b64 s (z a + z b).natAbs 1 (-1074) ∧ signed s (z a + z b).natAbs = z a + z b := by
  obtain ⟨s, c, q, e1, h1⟩ := fin_z ha
  obtain ⟨t, d, r, e2, h2⟩ := fin_z hb
  have hz : z a + z b = sumUnits s c q t d r (-1074) := by
    unfold z zval; rw [e1, e2]; simp only [sgn, zmag, qm, sumUnits]
  have hm : sumUnits s c q t d r (-1074) = sumUnits s c q t d r (min q r) * ((2 ^ (min q r - -1074).toNat : Nat) : Int) := by
    unfold sumUnits
    rw [inUnits_move c (r := min q r) (by omega) (by omega), inUnits_move d (r := min q r) (by omega) (by omega), signed_mul, signed_mul, Int.add_mul]
  refine ⟨sumSign s t (sumUnits s c q t d r (min q r)), ?_, ?_⟩
  · rw [val64_dadd, e1, e2]
    simp only [exactSum, round]
    refine roundRatio_congr (by decide) (by decide) ?_
    rw [hz, hm, Int.natAbs_mul, Int.natAbs_natCast, Nat.mul_one, Nat.mul_one]
    rw [show (-1074 - min q r).toNat = 0 by omega, Nat.pow_zero, Nat.mul_one]
  · rw [hz, hm, Int.natAbs_mul, Int.natAbs_natCast, signed_mul]
    congr 1
    generalize sumUnits s c q t d r (min q r) = v
    unfold sumSign
    by_cases w : v = 0
    · subst w; simp [signed]
    · rw [if_neg w]
      by_cases w2 : v < 0
      · simp [w2, signed]; omega
      · simp [w2, signed]; omega
theorem add_mono {a b c : UInt64} (ha : DFin a) (hb : DFin b) (hc : DFin c) (h : z b ≤ z c) : z (dadd a b) ≤ z (dadd a c) := by
  obtain ⟨s, e1, s1⟩ := add_val ha hb
  obtain ⟨t, e2, s2⟩ := add_val ha hc
  show zval b64 (val64 (dadd a b)) ≤ zval b64 (val64 (dadd a c))
  rw [e1, e2]
  refine ratio_mono (e0 := -1075) (by decide) (by decide) (by rw [qm]; omega) (by omega) (by omega) ?_
  simp only [inUnits, show (-1074 - -1075 : Int).toNat = 1 from rfl, signed_scale, s1, s2]
  have : ((2 ^ 1 : Nat) : Int) = 2 := rfl
  have : ((1 : Nat) : Int) = 1 := rfl
  omega
/-- every v * 2^-t with v below 2^53 is a double -/
theorem grid {v : Nat} (hv : v < 9007199254740992) (t : Nat) (ht : t ≤ 1000) : ∃ V : UInt64, DFin V ∧ z V = ((v * 2 ^ (1074 - t) : Nat) : Int) := by
  by_cases h0 : v = 0
  · subst h0
    exact ⟨0, ⟨false, 0, _, val64_zero⟩, by rw [Nat.zero_mul]; exact zval64_zero⟩
  have e : (Int64.ofNat v).toInt = (v : Int) := by
    exact Int64.toInt_ofNat_of_lt (by omega)
  have w := l2d_whole (a := Int64.ofNat v) ⟨by rw [e]; omega, by rw [e]; omega⟩
  obtain ⟨s, c, q, e1, h1⟩ := fin_z (l2d_fin (Int64.ofNat v))
  have f := val64_fits (l2d (Int64.ofNat v))
  rw [e1] at f w
  rw [e] at w
  have w' : signed s (c * 2 ^ q.toNat) = (v : Int) * ((2 ^ (-q).toNat : Nat) : Int) := w
  have hs : s = false ∧ c * 2 ^ q.toNat = v * 2 ^ (-q).toNat := by
    have hp := Nat.two_pow_pos (-q).toNat
    have hpos : 0 < v * 2 ^ (-q).toNat := Nat.mul_pos (by omega) hp
    have e3 : ((v * 2 ^ (-q).toNat : Nat) : Int) = (v : Int) * ((2 ^ (-q).toNat : Nat) : Int) := Int.natCast_mul _ _
    rw [← e3] at w'
    generalize c * 2 ^ q.toNat = X at *
    generalize v * 2 ^ (-q).toNat = Y at *
    cases s <;> simp [signed] at w'
    · exact ⟨rfl, by omega⟩
    · omega
  obtain ⟨rfl, hc⟩ := hs
  have hq : -53 < q := by
    refine Int.lt_of_not_ge fun hq => ?_
    have c1 : c < 2 ^ 53 := f.1
    rw [show q.toNat = 0 by omega, Nat.pow_zero, Nat.mul_one] at hc
    have p2 : 2 ^ 53 ≤ 2 ^ (-q).toNat := Nat.pow_le_pow_right (by decide) (by omega)
    have := Nat.le_mul_of_pos_left (2 ^ (-q).toNat) (show 0 < v by omega)
    omega
  have hfit : FP.Core.fits b64 (.fin false c (q - t)) := by
    refine ⟨f.1, by rw [qm]; omega, by have := f.2.2.1; omega, ?_⟩
    rcases f.2.2.2 with w | w
    · rw [qm] at w; omega
    · exact Or.inr w
  refine ⟨of64 (.fin false c (q - t)), ⟨false, c, q - t, val64_of64 hfit⟩, ?_⟩
  show zval b64 (val64 _) = _
  rw [val64_of64 hfit]
  show signed false (inUnits c (q - t) b64.qmin) = _
  rw [qm]
  unfold inUnits
  simp only [signed, Bool.false_eq_true, if_false]
  congr 1
  have k1 : c * 2 ^ (q - t - -1074).toNat * 2 ^ (-q).toNat = c * 2 ^ q.toNat * 2 ^ (1074 - t) := by
    rw [Nat.mul_assoc, Nat.mul_assoc, ← Nat.pow_add, ← Nat.pow_add]; congr 2; omega
  rw [hc] at k1
  have k2 : v * 2 ^ (-q).toNat * 2 ^ (1074 - t) = v * 2 ^ (1074 - t) * 2 ^ (-q).toNat := by ac_rfl
  rw [k2] at k1
  exact Nat.eq_of_mul_eq_mul_right (Nat.two_pow_pos _) k1
theorem fne {x : UInt64} (h : DFin x) : val64 x ≠ .nan := by obtain ⟨s, c, q, e⟩ := h; rw [e]; exact Datum.noConfusion
theorem same_bits {a b : UInt64} (ha : DFin a) (hb : DFin b) (h : z a = z b) (h0 : z b ≠ 0) : a = b :=
  eq_bits (fun q => h0 q.zval) (dcmp_eq.mpr ⟨fne ha, fne hb, h⟩)
theorem alg1 {n u p q : Int} (hu : u = p * q) : n * u * u = n * q * (p * u) := by
  have : n * u * u = n * (p * q) * u := by rw [← hu]
  rw [this]; ac_rfl
theorem alg2 (v p d u : Int) : v * p * (d * u) = v * d * (p * u) := by ac_rfl
theorem U_split {t : Nat} (ht : t ≤ 1074) : (U : Int) = ((2 ^ (1074 - t) : Nat) : Int) * ((2 ^ t : Nat) : Int) := by
  rw [← Int.natCast_mul, ← Nat.pow_add, Nat.sub_add_cancel ht]; rfl
theorem idiv_le {n d : Int64} (hn : Small53 n) (hd : Small53 d) (h0 : 0 < d.toInt) {V : UInt64} (hV : val64 V ≠ .nan) {v : Int} (t : Nat) (ht : t ≤ 1074) (hz : z V = v * ((2 ^ (1074 - t) : Nat) : Int)) (h : n.toInt * ((2 ^ t : Nat) : Int) ≤ v * d.toInt) : z (ddiv (l2d n) (l2d d)) ≤ z V := by
  have hU : (0 : Int) < (U : Int) := Int.natCast_pos.mpr U_pos
  refine div_le (l2d_fin n) (l2d_fin d) (by rw [z_l2d hd]; exact Int.mul_pos h0 hU) hV ?_
  rw [z_l2d hn, z_l2d hd, hz]
  have e1 : n.toInt * (U : Int) * (U : Int) = n.toInt * ((2 ^ t : Nat) : Int) * (((2 ^ (1074 - t) : Nat) : Int) * (U : Int)) := alg1 (U_split ht)
  have e2 : v * ((2 ^ (1074 - t) : Nat) : Int) * (d.toInt * (U : Int)) = v * d.toInt * (((2 ^ (1074 - t) : Nat) : Int) * (U : Int)) := alg2 _ _ _ _
  rw [e1, e2]
  exact Int.mul_le_mul_of_nonneg_right h (Int.mul_nonneg (Int.natCast_nonneg _) (Int.natCast_nonneg _))
theorem idiv_ge {n d : Int64} (hn : Small53 n) (hd : Small53 d) (h0 : 0 < d.toInt) {V : UInt64} (hV : val64 V ≠ .nan) {v : Int} (t : Nat) (ht : t ≤ 1074) (hz : z V = v * ((2 ^ (1074 - t) : Nat) : Int)) (h : v * d.toInt ≤ n.toInt * ((2 ^ t : Nat) : Int)) : z V ≤ z (ddiv (l2d n) (l2d d)) := by
  have hU : (0 : Int) < (U : Int) := Int.natCast_pos.mpr U_pos
  refine div_ge (l2d_fin n) (l2d_fin d) (by rw [z_l2d hd]; exact Int.mul_pos h0 hU) hV ?_
  rw [z_l2d hn, z_l2d hd, hz]
  have e1 : n.toInt * (U : Int) * (U : Int) = n.toInt * ((2 ^ t : Nat) : Int) * (((2 ^ (1074 - t) : Nat) : Int) * (U : Int)) := alg1 (U_split ht)
  have e2 : v * ((2 ^ (1074 - t) : Nat) : Int) * (d.toInt * (U : Int)) = v * d.toInt * (((2 ^ (1074 - t) : Nat) : Int) * (U : Int)) := alg2 _ _ _ _
  rw [e1, e2]
  exact Int.mul_le_mul_of_nonneg_right h (Int.mul_nonneg (Int.natCast_nonneg _) (Int.natCast_nonneg _))
theorem idiv_mono {n d n' d' : Int64} (hn : Small53 n) (hd : Small53 d) (hn' : Small53 n') (hd' : Small53 d') (h0 : 0 < d.toInt) (h0' : 0 < d'.toInt) (h : n.toInt * d'.toInt ≤ n'.toInt * d.toInt) : z (ddiv (l2d n) (l2d d)) ≤ z (ddiv (l2d n') (l2d d')) := by
  have hU : (0 : Int) < (U : Int) := Int.natCast_pos.mpr U_pos
  refine div_mono (l2d_fin n) (l2d_fin d) (l2d_fin n') (l2d_fin d') (by rw [z_l2d hd]; exact Int.mul_pos h0 hU) (by rw [z_l2d hd']; exact Int.mul_pos h0' hU) ?_
  rw [z_l2d hn, z_l2d hd, z_l2d hn', z_l2d hd']
  have e1 : n.toInt * (U : Int) * (d'.toInt * (U : Int)) = n.toInt * d'.toInt * ((U : Int) * (U : Int)) := alg2 _ _ _ _
  have e2 : n'.toInt * (U : Int) * (d.toInt * (U : Int)) = n'.toInt * d.toInt * ((U : Int) * (U : Int)) := alg2 _ _ _ _
  rw [e1, e2]
  exact Int.mul_le_mul_of_nonneg_right h (Int.mul_nonneg (Int.natCast_nonneg _) (Int.natCast_nonneg _))
theorem cmp_z {x y : UInt64} (hx : val64 x ≠ .nan) (hy : val64 y ≠ .nan) (o : ClassFile.CmpOp) : Op.cmpValue (dcmp x y) o = if z x < z y then -1 else if z x = z y then 0 else 1 := by
  rw [dcmp_zval hx hy, compare_ite]
  by_cases h1 : z x < z y
  · simp [h1]; cases o <;> rfl
  · by_cases h2 : z x = z y
    · simp [h2]; cases o <;> rfl
    · simp [h1, h2]; cases o <;> rfl
theorem nn_val {x : UInt64} (h : Jvm.Free.Fl.NoNaN64 x) : val64 x ≠ .nan := Jvm.Free.Fl.val64_no.mp h
theorem cmp3_le {a b : Int} (h : a ≤ b) : ¬ (0 : Int32) < (if a < b then -1 else if a = b then 0 else 1) := by
  by_cases q : a < b
  · rw [if_pos q]; decide
  · rw [if_neg q, if_pos (by omega)]; decide
theorem cmp3_ge {a b : Int} (h : b ≤ a) : ¬ (if a < b then (-1 : Int32) else if a = b then 0 else 1) < 0 := by
  rw [if_neg (by omega)]
  by_cases q : a = b
  · rw [if_pos q]; decide
  · rw [if_neg q]; decide
end Jvm.Own7F
namespace Jvm.Pilot.@@N@@
open Jvm Jvm.ClassFile Sem Op Lib Jvm.Free Jvm.Stand Jvm.LawKit Jvm.RoadKit Bundle Jvm.Own7 Jvm.Own7F Jvm.FP Jvm.Free.Fl Jvm.Pilot.@@N@@.Jvm.D
theorem d3_0 : decode jdk_29_method_69_code 0 = .ok (.iload_n 0, 1) := by decide +kernel
theorem d3_1 : decode jdk_29_method_69_code 1 = .ok (.iload_n 1, 1) := by decide +kernel
theorem d3_2 : decode jdk_29_method_69_code 2 = .ok (.if_icmp .gt 7, 3) := by decide +kernel
theorem d3_9 : decode jdk_29_method_69_code 9 = .ok (.iload_n 1, 1) := by decide +kernel
theorem d3_10 : decode jdk_29_method_69_code 10 = .ok (.ireturn, 1) := by decide +kernel
theorem d3_5 : decode jdk_29_method_69_code 5 = .ok (.iload_n 0, 1) := by decide +kernel
theorem d3_6 : decode jdk_29_method_69_code 6 = .ok (.goto 4, 3) := by decide +kernel
theorem d1_0 : decode jdk_29_method_65_code 0 = .ok (.iload_n 0, 1) := by decide +kernel
theorem d1_1 : decode jdk_29_method_65_code 1 = .ok (.iload_n 1, 1) := by decide +kernel
theorem d1_2 : decode jdk_29_method_65_code 2 = .ok (.if_icmp .lt 7, 3) := by decide +kernel
theorem d1_9 : decode jdk_29_method_65_code 9 = .ok (.iload_n 1, 1) := by decide +kernel
theorem d1_10 : decode jdk_29_method_65_code 10 = .ok (.ireturn, 1) := by decide +kernel
theorem d1_5 : decode jdk_29_method_65_code 5 = .ok (.iload_n 0, 1) := by decide +kernel
theorem d1_6 : decode jdk_29_method_65_code 6 = .ok (.goto 4, 3) := by decide +kernel
theorem d2_0 : decode prog_13_method_4_code 0 = .ok (.ldc2_w 18, 3) := by decide +kernel
theorem d2_3 : decode prog_13_method_4_code 3 = .ok (.ldc2_w 20, 3) := by decide +kernel
theorem d2_6 : decode prog_13_method_4_code 6 = .ok (.ldc2_w 22, 3) := by decide +kernel
theorem d2_9 : decode prog_13_method_4_code 9 = .ok (.iload_n 0, 1) := by decide +kernel
theorem d2_10 : decode prog_13_method_4_code 10 = .ok (.i2d, 1) := by decide +kernel
theorem d2_11 : decode prog_13_method_4_code 11 = .ok (.dmul, 1) := by decide +kernel
theorem d2_12 : decode prog_13_method_4_code 12 = .ok (.dload_n 1, 1) := by decide +kernel
theorem d2_13 : decode prog_13_method_4_code 13 = .ok (.ddiv, 1) := by decide +kernel
theorem d2_14 : decode prog_13_method_4_code 14 = .ok (.dadd, 1) := by decide +kernel
theorem d2_15 : decode prog_13_method_4_code 15 = .ok (.dmul, 1) := by decide +kernel
theorem d2_16 : decode prog_13_method_4_code 16 = .ok (.dreturn, 1) := by decide +kernel
theorem pn_com_example_brigid_brigid_search_Okapi : plainName "com/example/brigid/brigid/search/Okapi" = true := by first | (simp [plainName, overriddenIn]; done) | decide +kernel
theorem pd__II_I : parseMethodDescriptor "(II)I" = some ⟨[.int, .int], some .int⟩ := by decide +kernel
theorem pd__ID_D : parseMethodDescriptor "(ID)D" = some ⟨[.int, .double], some .double⟩ := by decide +kernel
theorem pn_com_example_brigid_brigid_search_OkapiLengthNormPinLaw : plainName "com/example/brigid/brigid/search/OkapiLengthNormPinLaw" = true := by first | (simp [plainName, overriddenIn]; done) | decide +kernel
theorem div_exact {a b V : UInt64} (ha : FP.Core.DFin a) (hb : FP.Core.DFin b) (hb0 : 0 < z b) (hV : FP.Core.DFin V) (h : z a * (U : Int) = z V * z b) : z (FP.Core.ddiv a b) = z V :=
  Int.le_antisymm (div_le ha hb hb0 (fne hV) (Int.le_of_eq h)) (div_ge ha hb hb0 (fne hV) (Int.le_of_eq h.symm))
theorem add_exact {a b V : UInt64} (ha : FP.Core.DFin a) (hb : FP.Core.DFin b) (hV : FP.Core.DFin V) (h : z a + z b = z V) : z (FP.Core.dadd a b) = z V :=
  Int.le_antisymm (add_le ha hb (fne hV) (Int.le_of_eq h)) (add_ge ha hb (fne hV) (Int.le_of_eq h.symm))
theorem mul_exact {a b V : UInt64} (ha : FP.Core.DFin a) (hb : FP.Core.DFin b) (hV : FP.Core.DFin V) (h : z a * z b = z V * (U : Int)) : z (FP.Core.dmul a b) = z V :=
  Int.le_antisymm (mul_le ha hb (fne hV) (Int.le_of_eq h)) (mul_ge ha hb (fne hV) (Int.le_of_eq h.symm))
theorem fin_of_abs {x : UInt64} (h : NoNaN64 x) {V : UInt64} (hV : FP.Core.DFin V) (h0 : -z V ≤ z x) (h1 : z x ≤ z V) : FP.Core.DFin x := by
  have nn := nn_val h
  cases hx : FP.Core.val64 x with
  | nan => exact absurd hx nn
  | inf t =>
    have w1 := FP.Core.DFin.zval_lt hV
    have w2 : (z x).natAbs = FP.Core.zmag FP.Core.b64 (FP.Core.val64 x) := FP.Core.natAbs_signed _ _
    have w3 : (z V).natAbs = FP.Core.zmag FP.Core.b64 (FP.Core.val64 V) := FP.Core.natAbs_signed _ _
    rw [hx] at w2
    have w4 : FP.Core.zmag FP.Core.b64 (.inf t) = FP.Core.b64.tails * 2 ^ (FP.Core.b64.exps - 2) := rfl
    rw [w4] at w2
    rw [← w3, ← w2] at w1
    omega
  | fin t d r => exact ⟨t, d, r, hx⟩
abbrev cA : UInt64 := 4608083138725491507
abbrev cB : UInt64 := 4598175219545276416
abbrev cC : UInt64 := 4604930618986332160
theorem A_fin : Fin64 cA := by unfold Fin64; decide
theorem B_fin : Fin64 cB := by unfold Fin64; decide
theorem C_fin : Fin64 cC := by unfold Fin64; decide
theorem up_pos : (0 : Int) < (U : Int) := Int.natCast_pos.mpr U_pos
theorem zA : 0 < z cA := by decide +kernel
theorem zB : z cB = 1 * ((2 ^ (1074 - 2) : Nat) : Int) := by decide +kernel
theorem zC : z cC = 3 * ((2 ^ (1074 - 2) : Nat) : Int) := by decide +kernel
theorem U4 : (U : Int) = 4 * ((2 ^ (1074 - 2) : Nat) : Int) := by decide +kernel
theorem zM : z (4746794007248502784 : UInt64) = 2147483648 * (U : Int) := by decide +kernel
theorem zm : z (13970166044103278592 : UInt64) = -(2147483648 * (U : Int)) := by decide +kernel
theorem zN : z (4751297606875873280 : UInt64) = 4294967296 * (U : Int) := by decide +kernel
theorem zn : z (13974669643730649088 : UInt64) = -(4294967296 * (U : Int)) := by decide +kernel
theorem dfM : FP.Core.DFin (4746794007248502784 : UInt64) := fin64_core.mp (by unfold Fin64; decide)
theorem dfN : FP.Core.DFin (4751297606875873280 : UInt64) := fin64_core.mp (by unfold Fin64; decide)
def tT (n : Int32) : UInt64 := FP.dmul cC (FP.i2d n)
def tD (n : Int32) (av : UInt64) : UInt64 := FP.ddiv (tT n) av
def tS (n : Int32) (av : UInt64) : UInt64 := FP.dadd cB (tD n av)
def ln (n : Int32) (av : UInt64) : UInt64 := FP.dmul cA (tS n av)
theorem tT_nn (n : Int32) : NoNaN64 (tT n) := dmul_out C_fin (i2d_fin n)
theorem tT_le (n : Int32) : z (tT n) ≤ 2147483648 * (U : Int) := by
  have h1 := Int32.toInt_lt n
  rw [← zM]
  refine mul_le (fin64_core.mp C_fin) (FP.Core.i2d_fin n) (fne dfM) ?_
  rw [zC, z_i2d, zM]
  have := U4; have := up_pos
  generalize (U : Int) = u at *
  generalize ((2 ^ (1074 - 2) : Nat) : Int) = g at *
  rw [show 3 * g * (n.toInt * u) = (3 * g * n.toInt) * u by ac_rfl]
  refine Int.mul_le_mul_of_nonneg_right ?_ (by omega)
  rw [show (3 * g * n.toInt : Int) = 3 * n.toInt * g by ac_rfl]
  have : 3 * n.toInt * g ≤ 8589934592 * g := Int.mul_le_mul_of_nonneg_right (by omega) (by omega)
  omega
theorem tT_ge (n : Int32) : -(2147483648 * (U : Int)) ≤ z (tT n) := by
  have h1 := Int32.le_toInt n
  rw [← zm]
  refine mul_ge (fin64_core.mp C_fin) (FP.Core.i2d_fin n) (by decide +kernel) ?_
  rw [zC, z_i2d, zm]
  have := U4; have := up_pos
  generalize (U : Int) = u at *
  generalize ((2 ^ (1074 - 2) : Nat) : Int) = g at *
  rw [show 3 * g * (n.toInt * u) = (3 * g * n.toInt) * u by ac_rfl]
  refine Int.mul_le_mul_of_nonneg_right ?_ (by omega)
  rw [show (3 * g * n.toInt : Int) = 3 * n.toInt * g by ac_rfl]
  have : -8589934592 * g ≤ 3 * n.toInt * g := Int.mul_le_mul_of_nonneg_right (by omega) (by omega)
  omega
theorem tT_fin (n : Int32) : FP.Core.DFin (tT n) := fin_of_abs (tT_nn n) dfM (by rw [zM]; exact tT_ge n) (by rw [zM]; exact tT_le n)
section
variable {av : UInt64} (hv : FP.Core.DFin av) {a : Int} (ha : 1 ≤ a) (hz : z av = a * (U : Int))
theorem av_pos (ha : 1 ≤ a) (hz : z av = a * (U : Int)) : 0 < z av := by rw [hz]; exact Int.mul_pos (by omega) up_pos
theorem tD_nn (n : Int32) (hv : FP.Core.DFin av) (ha : 1 ≤ a) (hz : z av = a * (U : Int)) : NoNaN64 (tD n av) :=
  ddiv_out (tT_nn n) (fin64_core.mpr hv) (nz64_core.mpr fun q => by have w : z av = 0 := q.zval; have := av_pos ha hz; omega)
theorem tD_le (n : Int32) (hv : FP.Core.DFin av) (ha : 1 ≤ a) (hz : z av = a * (U : Int)) : z (tD n av) ≤ 2147483648 * (U : Int) := by
  rw [← zM]
  refine div_le (tT_fin n) hv (av_pos ha hz) (fne dfM) ?_
  rw [hz, zM]
  have t := tT_le n; have := up_pos
  generalize z (tT n) = x at *
  generalize (U : Int) = u at *
  have : 0 ≤ 2147483648 * u * u := Int.mul_nonneg (by omega) (by omega)
  have e1 : x * u ≤ 2147483648 * u * u := Int.mul_le_mul_of_nonneg_right t (by omega)
  have e2 : 2147483648 * u * u * 1 ≤ 2147483648 * u * u * a := Int.mul_le_mul_of_nonneg_left ha this
  rw [show 2147483648 * u * (a * u) = 2147483648 * u * u * a by ac_rfl]
  omega
theorem tD_ge (n : Int32) (hv : FP.Core.DFin av) (ha : 1 ≤ a) (hz : z av = a * (U : Int)) : -(2147483648 * (U : Int)) ≤ z (tD n av) := by
  rw [← zm]
  refine div_ge (tT_fin n) hv (av_pos ha hz) (by decide +kernel) ?_
  rw [hz, zm]
  have t := tT_ge n; have := up_pos
  generalize z (tT n) = x at *
  generalize (U : Int) = u at *
  have : 0 ≤ 2147483648 * u * u := Int.mul_nonneg (by omega) (by omega)
  have e1 : -(2147483648 * u) * u ≤ x * u := Int.mul_le_mul_of_nonneg_right t (by omega)
  have e2 : 2147483648 * u * u * 1 ≤ 2147483648 * u * u * a := Int.mul_le_mul_of_nonneg_left ha this
  rw [show -(2147483648 * u) * (a * u) = -(2147483648 * u * u * a) by rw [Int.neg_mul]; congr 1; ac_rfl]
  rw [Int.neg_mul] at e1
  omega
theorem tD_fin (n : Int32) (hv : FP.Core.DFin av) (ha : 1 ≤ a) (hz : z av = a * (U : Int)) : FP.Core.DFin (tD n av) := fin_of_abs (tD_nn n hv ha hz) dfM (by rw [zM]; exact tD_ge n hv ha hz) (by rw [zM]; exact tD_le n hv ha hz)
theorem tS_nn (n : Int32) (hv : FP.Core.DFin av) (ha : 1 ≤ a) (hz : z av = a * (U : Int)) : NoNaN64 (tS n av) := dadd_out' B_fin (tD_nn n hv ha hz)
theorem tS_fin (n : Int32) (hv : FP.Core.DFin av) (ha : 1 ≤ a) (hz : z av = a * (U : Int)) : FP.Core.DFin (tS n av) := by
  have d1 := tD_le n hv ha hz; have d2 := tD_ge n hv ha hz
  have f := tD_fin n hv ha hz
  have := U4; have := up_pos
  refine fin_of_abs (tS_nn n hv ha hz) dfN ?_ ?_
  · rw [zN, ← zn]
    refine add_ge (fin64_core.mp B_fin) f (by decide +kernel) ?_
    rw [zn, zB]
    generalize (U : Int) = u at *
    generalize ((2 ^ (1074 - 2) : Nat) : Int) = g at *
    omega
  · refine add_le (fin64_core.mp B_fin) f (fne dfN) ?_
    rw [zN, zB]
    generalize (U : Int) = u at *
    generalize ((2 ^ (1074 - 2) : Nat) : Int) = g at *
    omega
theorem ln_nn (n : Int32) (hv : FP.Core.DFin av) (ha : 1 ≤ a) (hz : z av = a * (U : Int)) : NoNaN64 (ln n av) := dmul_out A_fin (fin64_core.mpr (tS_fin n hv ha hz))
end
theorem ln_of_D {n n' : Int32} {av av' : UInt64} {a a' : Int} (hv : FP.Core.DFin av) (ha : 1 ≤ a) (hz : z av = a * (U : Int)) (hv' : FP.Core.DFin av') (ha' : 1 ≤ a') (hz' : z av' = a' * (U : Int)) (h : z (tD n av) ≤ z (tD n' av')) : z (ln n av) ≤ z (ln n' av') := by
  refine mul_mono (fin64_core.mp A_fin) (tS_fin n hv ha hz) (tS_fin n' hv' ha' hz') ?_
  refine Int.mul_le_mul_of_nonneg_left ?_ (Int.le_of_lt zA)
  exact add_mono (fin64_core.mp B_fin) (tD_fin n hv ha hz) (tD_fin n' hv' ha' hz') h
theorem ln_mono {n n' : Int32} {av : UInt64} {a : Int} (hv : FP.Core.DFin av) (ha : 1 ≤ a) (hz : z av = a * (U : Int)) (h : n.toInt ≤ n'.toInt) : z (ln n av) ≤ z (ln n' av) := by
  refine ln_of_D hv ha hz hv ha hz (div_mono (tT_fin n) hv (tT_fin n') hv (av_pos ha hz) (av_pos ha hz) ?_)
  refine Int.mul_le_mul_of_nonneg_right ?_ (Int.le_of_lt (av_pos ha hz))
  refine mul_mono (fin64_core.mp C_fin) (FP.Core.i2d_fin n) (FP.Core.i2d_fin n') ?_
  rw [z_i2d, z_i2d]
  exact Int.mul_le_mul_of_nonneg_left (Int.mul_le_mul_of_nonneg_right h (Int.natCast_nonneg U)) (by decide +kernel)
theorem z0 : z 0 = 0 := FP.Core.zval64_zero
theorem tT_sign_pos {n : Int32} (h : 0 ≤ n.toInt) : 0 ≤ z (tT n) := by
  rw [← z0]
  refine mul_ge (fin64_core.mp C_fin) (FP.Core.i2d_fin n) (by decide +kernel) ?_
  rw [z0, Int.zero_mul, z_i2d]
  exact Int.mul_nonneg (by decide +kernel) (Int.mul_nonneg h (Int.natCast_nonneg U))
theorem tT_sign_neg {n : Int32} (h : n.toInt ≤ 0) : z (tT n) ≤ 0 := by
  rw [← z0]
  refine mul_le (fin64_core.mp C_fin) (FP.Core.i2d_fin n) (by decide +kernel) ?_
  rw [z0, Int.zero_mul, z_i2d, zC]
  have := Int.mul_le_mul_of_nonneg_right h (Int.natCast_nonneg U)
  rw [Int.zero_mul] at this
  exact Int.mul_nonpos_of_nonneg_of_nonpos (by decide +kernel) this
theorem ln_anti_pos {n : Int32} {av av' : UInt64} {a a' : Int} (hv : FP.Core.DFin av) (ha : 1 ≤ a) (hz : z av = a * (U : Int)) (hv' : FP.Core.DFin av') (ha' : 1 ≤ a') (hz' : z av' = a' * (U : Int)) (haa : a ≤ a') (h : 0 ≤ n.toInt) : z (ln n av') ≤ z (ln n av) := by
  refine ln_of_D hv' ha' hz' hv ha hz (div_mono (tT_fin n) hv' (tT_fin n) hv (av_pos ha' hz') (av_pos ha hz) ?_)
  rw [hz, hz']
  exact Int.mul_le_mul_of_nonneg_left (Int.mul_le_mul_of_nonneg_right haa (Int.natCast_nonneg U)) (tT_sign_pos h)
theorem ln_anti_neg {n : Int32} {av av' : UInt64} {a a' : Int} (hv : FP.Core.DFin av) (ha : 1 ≤ a) (hz : z av = a * (U : Int)) (hv' : FP.Core.DFin av') (ha' : 1 ≤ a') (hz' : z av' = a' * (U : Int)) (haa : a ≤ a') (h : n.toInt ≤ 0) : z (ln n av) ≤ z (ln n av') := by
  refine ln_of_D hv ha hz hv' ha' hz' (div_mono (tT_fin n) hv (tT_fin n) hv' (av_pos ha hz) (av_pos ha' hz') ?_)
  rw [hz, hz']
  have t := tT_sign_neg h
  have w := Int.mul_le_mul_of_nonneg_right haa (Int.natCast_nonneg U)
  generalize z (tT n) = x at *
  generalize a * (U : Int) = p at *
  generalize a' * (U : Int) = q at *
  have := Int.mul_le_mul_of_nonneg_left w (show 0 ≤ -x by omega)
  rw [Int.neg_mul, Int.neg_mul] at this
  omega
/-- length k * m over average m -/
theorem ln_exact {k m : Nat} (hk : k < 4) (hm : 1 ≤ m) (hm2 : m < 536870912) {n : Int32} (hn : n.toInt = ((k * m : Nat) : Int)) {av : UInt64} (hv : FP.Core.DFin av) (hz : z av = (m : Int) * (U : Int)) : ∀ S : UInt64, FP.Core.DFin S → z S = ((1 + 3 * k : Nat) : Int) * ((2 ^ (1074 - 2) : Nat) : Int) → tS n av = S := by
  intro S hS eS
  have km : k * m < 2147483648 := by
    have := Nat.mul_le_mul (show k ≤ 3 by omega) (show m ≤ 536870911 by omega); omega
  obtain ⟨V, V1, V2⟩ := grid (v := 3 * (k * m)) (by omega) 2 (by decide)
  obtain ⟨Q, Q1, Q2⟩ := grid (v := 3 * k) (by omega) 2 (by decide)
  have ha : (1 : Int) ≤ (m : Int) := by omega
  have e1 : z (tT n) = z V := by
    refine mul_exact (fin64_core.mp C_fin) (FP.Core.i2d_fin n) V1 ?_
    rw [zC, z_i2d, V2, hn, Int.natCast_mul (3 * (k * m))]
    generalize (U : Int) = u at *
    generalize ((2 ^ (1074 - 2) : Nat) : Int) = g at *
    rw [Int.natCast_mul 3]
    generalize ((k * m : Nat) : Int) = w at *
    show 3 * g * (w * u) = 3 * w * g * u
    ac_rfl
  have e2 : z (tD n av) = z Q := by
    refine div_exact (tT_fin n) hv (av_pos ha hz) Q1 ?_
    rw [e1, V2, Q2, hz, Int.natCast_mul (3 * (k * m)), Int.natCast_mul (3 * k), Int.natCast_mul 3 (k * m), Int.natCast_mul k m, Int.natCast_mul 3 k]
    generalize (U : Int) = u at *
    generalize ((2 ^ (1074 - 2) : Nat) : Int) = g at *
    ac_rfl
  refine same_bits (tS_fin n hv ha hz) hS ?_ ?_
  · refine add_exact (fin64_core.mp B_fin) (tD_fin n hv ha hz) hS ?_
    rw [e2, zB, Q2, eS, Int.natCast_mul (3 * k), Int.natCast_add, Int.add_mul]
    rfl
  · rw [eS]
    have : (0 : Int) < ((2 ^ (1074 - 2) : Nat) : Int) := Int.natCast_pos.mpr (Nat.two_pow_pos _)
    exact Int.ne_of_gt (Int.mul_pos (by omega) this)

theorem tT_eq (n : Int32) : FP.dmul cC (FP.i2d n) = tT n := rfl
theorem tD_eq (n : Int32) (av : UInt64) : FP.ddiv (tT n) av = tD n av := rfl
theorem tS_eq (n : Int32) (av : UInt64) : FP.dadd cB (tD n av) = tS n av := rfl
theorem ln_eq (n : Int32) (av : UInt64) : FP.dmul cA (tS n av) = ln n av := rfl
theorem tT_nn' (n : Int32) : NoNaN64 (FP.dmul cC (FP.i2d n)) := tT_nn n
theorem tD_nn' {n : Int32} {av : UInt64} (h : NoNaN64 (tD n av)) : NoNaN64 (FP.ddiv (tT n) av) := h
theorem tS_nn' {n : Int32} {av : UInt64} (h : NoNaN64 (tS n av)) : NoNaN64 (FP.dadd cB (tD n av)) := h
theorem ln_nn' {n : Int32} {av : UInt64} (h : NoNaN64 (ln n av)) : NoNaN64 (FP.dmul cA (tS n av)) := h
theorem four (x : Int32) : x &&& 3 = 0 ∨ x &&& 3 = 1 ∨ x &&& 3 = 2 ∨ x &&& 3 = 3 := by
  have h : (x &&& 3).toBitVec.toNat < 4 := by
    simp only [Int32.toBitVec_and, BitVec.toNat_and]
    exact Nat.lt_succ_of_le Nat.and_le_right
  have e : ∀ y : Int32, y.toBitVec.toNat < 4 → y = 0 ∨ y = 1 ∨ y = 2 ∨ y = 3 := fun y hy => by
    have q : ∀ k : Int32, y.toBitVec.toNat = k.toBitVec.toNat → y = k := fun k w => Int32.toBitVec_inj.mp (BitVec.eq_of_toNat_eq w)
    have : y.toBitVec.toNat = 0 ∨ y.toBitVec.toNat = 1 ∨ y.toBitVec.toNat = 2 ∨ y.toBitVec.toNat = 3 := by omega
    rcases this with w | w | w | w
    · exact Or.inl (q 0 w)
    · exact Or.inr (Or.inl (q 1 w))
    · exact Or.inr (Or.inr (Or.inl (q 2 w)))
    · exact Or.inr (Or.inr (Or.inr (q 3 w)))
  exact e _ h
theorem msk (x : Int32) (M : Nat) (hM : M < 2147483648) (y : Int32) (hy : y.toBitVec.toNat = M) : 0 ≤ (x &&& y).toInt ∧ (x &&& y).toInt ≤ M := by
  have h : (x.toBitVec &&& y.toBitVec).toNat ≤ M := by
    rw [BitVec.toNat_and, hy]; exact Nat.and_le_right
  have e : (x &&& y).toInt = ((x.toBitVec &&& y.toBitVec).toNat : Int) := by
    show (x.toBitVec &&& y.toBitVec).toInt = _
    rw [BitVec.toInt_eq_toNat_cond, if_pos (by omega)]
  rw [e]; omega
theorem mx1 {x : Int32} {M : Int} (h : 0 ≤ x.toInt ∧ x.toInt ≤ M) (hM : 1 ≤ M) : 1 ≤ (if (1 : Int32) < x then x else 1).toInt ∧ (if (1 : Int32) < x then x else 1).toInt ≤ M := by
  have e : (1 : Int32).toInt = 1 := rfl
  split
  · rename_i q; rw [Int32.lt_iff_toInt_lt] at q; omega
  · omega
theorem mulk {k m : Int32} {K : Nat} (hk : k.toInt = K) (hK : K < 4) (h1 : 1 ≤ m.toInt) (h2 : m.toInt ≤ 536870911) : (k * m).toInt = ((K * m.toInt.toNat : Nat) : Int) := by
  rw [Int32.toInt_mul, hk, Int.natCast_mul, Int.toNat_of_nonneg (by omega)]
  have : K = 0 ∨ K = 1 ∨ K = 2 ∨ K = 3 := by omega
  rcases this with rfl | rfl | rfl | rfl <;> exact Int.bmod_eq_of_le (by omega) (by omega)
theorem avg_z (m : Int32) : FP.Core.DFin (FP.i2d m) ∧ z (FP.i2d m) = m.toInt * (U : Int) := ⟨FP.Core.i2d_fin m, z_i2d m⟩
theorem ex_all {k m : Int32} {K : Nat} (hk : k.toInt = K) (hK : K < 4) (h1 : 1 ≤ m.toInt) (h2 : m.toInt ≤ 536870911) {S : UInt64} (hS : FP.Core.DFin S) (eS : z S = ((1 + 3 * K : Nat) : Int) * ((2 ^ (1074 - 2) : Nat) : Int)) {E : UInt64} (hE : cmpValue (FP.dcmp (FP.dmul cA S) E) .l = 0) : cmpValue (FP.dcmp (ln (k * m) (FP.i2d m)) E) .l = 0 := by
  have e := ln_exact (k := K) (m := m.toInt.toNat) hK (by omega) (by omega) (n := k * m) (mulk hk hK h1 h2) (avg_z m).1 (by rw [(avg_z m).2]; congr 1; omega) S hS eS
  rw [← ln_eq, e]; exact hE
theorem avg2_eq {a d : Int32} (ha : 1 ≤ a.toInt) (hd : 0 ≤ d.toInt ∧ d.toInt ≤ 65535) : FP.dadd (FP.i2d a) (FP.i2d d) = FP.l2d (a.toInt64 + d.toInt64) := by
  have h1 := Int32.toInt_lt a; have h2 := Int32.le_toInt a
  have e1 : a.toInt64.toInt = a.toInt := Int32.toInt_toInt64 a
  have e2 : d.toInt64.toInt = d.toInt := Int32.toInt_toInt64 d
  rw [i2d_w, i2d_w]
  exact dadd_w ⟨by rw [e1]; omega, by rw [e1]; omega⟩ ⟨by rw [e2]; omega, by rw [e2]; omega⟩
theorem avg2_z {a d : Int32} (ha : 1 ≤ a.toInt) (hd : 0 ≤ d.toInt ∧ d.toInt ≤ 65535) : FP.Core.DFin (FP.l2d (a.toInt64 + d.toInt64)) ∧ z (FP.l2d (a.toInt64 + d.toInt64)) = (a.toInt + d.toInt) * (U : Int) := by
  have h1 := Int32.toInt_lt a
  have e1 : a.toInt64.toInt = a.toInt := Int32.toInt_toInt64 a
  have e2 : d.toInt64.toInt = d.toInt := Int32.toInt_toInt64 d
  have e : (a.toInt64 + d.toInt64).toInt = a.toInt + d.toInt := by
    rw [Int64.toInt_add, e1, e2]; exact Int.bmod_eq_of_le (by omega) (by omega)
  refine ⟨FP.Core.l2d_fin _, ?_⟩
  rw [z_l2d ⟨by rw [e]; omega, by rw [e]; omega⟩, e]

def rm_c_min : Room := { frames := 0, cells := 0, slots := 0, locals := 0 }
set_option maxRecDepth 65536 in
set_option maxHeartbeats 40000000 in
theorem c_min (l : Launch) (Z : State) (a0 : Array Value) (hw : ∀ d ∈ tables_1, d.before a0 Z = true) (x y : Int32) (rest : List Ent) :
    OMeets l (⟨"java/lang/Math", "min", "(II)I"⟩ : MethodName) jdk_29_method_69_code 2 (some .int) rm_c_min Z [.int x, .int y] rest (fun v K => v = some (.int (if y < x then y else x)) ∧ rest = K) := by
  refine OMeets.of_body (Jvm.Free.JP.mathPlain rfl (by decide +kernel)) #[.val (.int x), .val (.int y)] (fun m => by first | (simp [entryFrame, mkF, argsToLocals, Value.category]; done) | rfl) fun pP eE sS mM bB hH cC T N => ?_
  refine k_iload_n (pc := 0) N d3_0 rfl ?_
  refine k_iload_n (pc := 1) N d3_1 rfl ?_
  refine k_icmp_gt (pc := 2) N d3_2 (pc' := 9) (by decide) (fun c2 => ?_) (fun c2 => ?_)
  · refine k_iload_n (pc := 9) N d3_9 rfl ?_
    exact k_ireturn (pc := 10) N d3_10 rfl (by decide) (by decide) ⟨by simp [c2], rfl⟩
  · refine k_iload_n (pc := 5) N d3_5 rfl ?_
    refine k_goto (pc := 6) N d3_6 (pc' := 10) (by decide) ?_
    exact k_ireturn (pc := 10) N d3_10 rfl (by decide) (by decide) ⟨by simp [c2], rfl⟩
def rm_c_max : Room := { frames := 0, cells := 0, slots := 0, locals := 0 }
set_option maxRecDepth 65536 in
set_option maxHeartbeats 40000000 in
theorem c_max (l : Launch) (Z : State) (a0 : Array Value) (hw : ∀ d ∈ tables_1, d.before a0 Z = true) (x y : Int32) (rest : List Ent) :
    OMeets l (⟨"java/lang/Math", "max", "(II)I"⟩ : MethodName) jdk_29_method_65_code 2 (some .int) rm_c_max Z [.int x, .int y] rest (fun v K => v = some (.int (if x < y then y else x)) ∧ rest = K) := by
  refine OMeets.of_body (Jvm.Free.JP.mathPlain rfl (by decide +kernel)) #[.val (.int x), .val (.int y)] (fun m => by first | (simp [entryFrame, mkF, argsToLocals, Value.category]; done) | rfl) fun pP eE sS mM bB hH cC T N => ?_
  refine k_iload_n (pc := 0) N d1_0 rfl ?_
  refine k_iload_n (pc := 1) N d1_1 rfl ?_
  refine k_icmp_lt (pc := 2) N d1_2 (pc' := 9) (by decide) (fun c2 => ?_) (fun c2 => ?_)
  · refine k_iload_n (pc := 9) N d1_9 rfl ?_
    exact k_ireturn (pc := 10) N d1_10 rfl (by decide) (by decide) ⟨by simp [c2], rfl⟩
  · refine k_iload_n (pc := 5) N d1_5 rfl ?_
    refine k_goto (pc := 6) N d1_6 (pc' := 10) (by decide) ?_
    exact k_ireturn (pc := 10) N d1_10 rfl (by decide) (by decide) ⟨by simp [c2], rfl⟩
def rm_c_ln : Room := { frames := 0, cells := 0, slots := 0, locals := 0 }
set_option maxRecDepth 65536 in
set_option maxHeartbeats 40000000 in
theorem c_ln (l : Launch) (Z : State) (a0 : Array Value) (hw : ∀ d ∈ tables_1, d.before a0 Z = true) (n : Int32) (av : UInt64) (h2 : NoNaN64 (tD n av)) (h3 : NoNaN64 (tS n av)) (h4 : NoNaN64 (ln n av)) (rest : List Ent) :
    OMeets l (⟨"com/example/brigid/brigid/search/Okapi", "lengthNorm", "(ID)D"⟩ : MethodName) prog_13_method_4_code 3 (some .double) rm_c_ln Z [.int n, .double av] rest (fun v K => v = some (.double (ln n av)) ∧ rest = K) := by
  refine OMeets.of_body (plainFor_of_name pn_com_example_brigid_brigid_search_Okapi) #[.val (.int n), .val (.double av), .second] (fun m => by first | (simp [entryFrame, mkF, argsToLocals, Value.category]; done) | rfl) fun pP eE sS mM bB hH cC T N => ?_
  refine k_ldcD (pc := 0) N d2_0 (hw _ (List.mem_of_getElem? (i := 10) rfl)) ?_
  refine k_ldcD (pc := 3) N d2_3 (hw _ (List.mem_of_getElem? (i := 11) rfl)) ?_
  refine k_ldcD (pc := 6) N d2_6 (hw _ (List.mem_of_getElem? (i := 12) rfl)) ?_
  refine k_iload_n (pc := 9) N d2_9 rfl ?_
  refine k_i2d (pc := 10) N d2_10 ?_
  refine k_dmul (pc := 11) N d2_11 (v := (tT n)) (tT_nn' n) (tT_eq n) ?_
  refine k_dload_n (pc := 12) N d2_12 rfl ?_
  refine k_ddiv (pc := 13) N d2_13 (v := (tD n av)) (tD_nn' h2) (tD_eq n av) ?_
  refine k_dadd (pc := 14) N d2_14 (v := (tS n av)) (tS_nn' h3) (tS_eq n av) ?_
  refine k_dmul (pc := 15) N d2_15 (v := (ln n av)) (ln_nn' h4) (ln_eq n av) ?_
  exact k_dreturn (pc := 16) N d2_16 rfl (by decide) (by decide) ⟨rfl, rfl⟩
set_option maxRecDepth 65536 in
set_option maxHeartbeats 40000000 in
theorem c_law (l : Launch) (Z : State) (a0 : Array Value) (hw : ∀ d ∈ tables_1, d.before a0 Z = true) (p0 p1 p2 p3 : Int32) :
    OMeets l x code maxLocals ret room_1 Z [.int p0, .int p1, .int p2, .int p3] [] (fun v K => v = some (.int 1)) := by
  refine OMeets.of_body (plainFor_of_name pn_com_example_brigid_brigid_search_OkapiLengthNormPinLaw) #[.val (.int p0), .val (.int p1), .val (.int p2), .val (.int p3), .unset, .unset, .unset, .unset, .unset, .unset, .unset, .unset, .unset, .unset, .unset, .unset, .unset, .unset, .unset, .unset, .unset, .unset, .unset] (fun m => by first | (simp [entryFrame, mkF, argsToLocals, Value.category, maxLocals]; done) | rfl) fun pP eE sS mM bB hH cC T N => ?_
  refine k_iload_n (pc := 0) N at_0 rfl ?_
  refine k_iconst (pc := 1) N at_1 (v := (3 : Int32)) (by decide) ?_
  refine k_iand (pc := 2) N at_2 ?_
  refine k_istore (pc := 3) N at_3 (Ls' := #[.val (.int p0), .val (.int p1), .val (.int p2), .val (.int p3), .val (.int (p3 &&& (3 : Int32))), .unset, .unset, .unset, .unset, .unset, .unset, .unset, .unset, .unset, .unset, .unset, .unset, .unset, .unset, .unset, .unset, .unset, .unset]) rfl ?_
  refine k_iconst (pc := 5) N at_5 (v := (1 : Int32)) (by decide) ?_
  refine k_iload_n (pc := 6) N at_6 rfl ?_
  refine k_ldcI (pc := 7) N at_7 (hw _ (List.mem_of_getElem? (i := 0) rfl)) ?_
  refine k_iand (pc := 9) N at_9 ?_
  refine k_static (pc := 10) N (y := (⟨"java/lang/Math", "max", "(II)I"⟩ : MethodName)) (rest := []) [.int (1 : Int32), .int (p2 &&& (536870911 : Int32))] at_10 (hw _ (List.mem_of_getElem? (i := 1) rfl)) (hw _ (List.mem_of_getElem? (i := 2) rfl)) (hw _ (List.mem_of_getElem? (i := 3) rfl)) (hw _ (List.mem_of_getElem? (i := 4) rfl)) (by decide) pd__II_I rfl (c_max l Z a0 hw (1 : Int32) (p2 &&& (536870911 : Int32)) []) rfl rfl 0 rfl (by decide) (by decide) (cells' := 0) rfl (slots' := 0) rfl (by decide) (by decide) fun T vV K' N qQ => ?_
  obtain ⟨rfl, rfl⟩ := qQ
  generalize hm0 : (if (1 : Int32) < (p2 &&& (536870911 : Int32)) then (p2 &&& (536870911 : Int32)) else (1 : Int32)) = mx
  have m1 : 1 ≤ mx.toInt := by rw [← hm0]; exact (mx1 (msk p2 536870911 (by decide) 536870911 rfl) (by decide)).1
  have m2 : mx.toInt ≤ 536870911 := by rw [← hm0]; exact (mx1 (msk p2 536870911 (by decide) 536870911 rfl) (by decide)).2
  refine k_istore (pc := 13) N at_13 (Ls' := #[.val (.int p0), .val (.int p1), .val (.int p2), .val (.int p3), .val (.int (p3 &&& (3 : Int32))), .val (.int mx), .unset, .unset, .unset, .unset, .unset, .unset, .unset, .unset, .unset, .unset, .unset, .unset, .unset, .unset, .unset, .unset, .unset]) rfl ?_
  have J83 : ∀ T, ONow pP l eE room_1 sS mM ([.int p0, .int p1, .int p2, .int p3] : List Value).toArray bB hH cC Z x.cls code maxLocals ret x.name T 0 0 [] → ∀ ex : UInt64, OGo pP eE bB (OPost Z sS (fun v K => v = some (.int 1)) room_1) T (mkF mM 83 #[.val (.int p0), .val (.int p1), .val (.int p2), .val (.int p3), .val (.int (p3 &&& (3 : Int32))), .val (.int mx), .val (.double ex), .second, .unset, .unset, .unset, .unset, .unset, .unset, .unset, .unset, .unset, .unset, .unset, .unset, .unset, .unset, .unset] [.int (1 : Int32)]) := by
    intro T N ex
    refine k_istore (pc := 83) N at_83 (Ls' := #[.val (.int p0), .val (.int p1), .val (.int p2), .val (.int p3), .val (.int (p3 &&& (3 : Int32))), .val (.int mx), .val (.double ex), .second, .val (.int (1 : Int32)), .unset, .unset, .unset, .unset, .unset, .unset, .unset, .unset, .unset, .unset, .unset, .unset, .unset, .unset]) rfl ?_
    refine k_iconst (pc := 85) N at_85 (v := (1 : Int32)) (by decide) ?_
    refine k_iload_n (pc := 86) N at_86 rfl ?_
    refine k_ldcI (pc := 87) N at_87 (hw _ (List.mem_of_getElem? (i := 13) rfl)) ?_
    refine k_iand (pc := 89) N at_89 ?_
    refine k_static (pc := 90) N (y := (⟨"java/lang/Math", "max", "(II)I"⟩ : MethodName)) (rest := []) [.int (1 : Int32), .int (p2 &&& (2147483647 : Int32))] at_90 (hw _ (List.mem_of_getElem? (i := 1) rfl)) (hw _ (List.mem_of_getElem? (i := 2) rfl)) (hw _ (List.mem_of_getElem? (i := 3) rfl)) (hw _ (List.mem_of_getElem? (i := 4) rfl)) (by decide) pd__II_I rfl (c_max l Z a0 hw (1 : Int32) (p2 &&& (2147483647 : Int32)) []) rfl rfl 0 rfl (by decide) (by decide) (cells' := 0) rfl (slots' := 0) rfl (by decide) (by decide) fun T vV K' N qQ => ?_
    obtain ⟨rfl, rfl⟩ := qQ
    generalize ha0 : (if (1 : Int32) < (p2 &&& (2147483647 : Int32)) then (p2 &&& (2147483647 : Int32)) else (1 : Int32)) = a1
    have a1p : 1 ≤ a1.toInt := by rw [← ha0]; exact (mx1 (msk p2 2147483647 (by decide) 2147483647 rfl) (by decide)).1
    refine k_istore (pc := 93) N at_93 (Ls' := #[.val (.int p0), .val (.int p1), .val (.int p2), .val (.int p3), .val (.int (p3 &&& (3 : Int32))), .val (.int mx), .val (.double ex), .second, .val (.int (1 : Int32)), .val (.int a1), .unset, .unset, .unset, .unset, .unset, .unset, .unset, .unset, .unset, .unset, .unset, .unset, .unset]) rfl ?_
    refine k_iload_n (pc := 95) N at_95 rfl ?_
    refine k_iconst (pc := 96) N at_96 (v := (2 : Int32)) (by decide) ?_
    refine k_iushr (pc := 97) N at_97 ?_
    refine k_ldcI (pc := 98) N at_98 (hw _ (List.mem_of_getElem? (i := 14) rfl)) ?_
    refine k_iand (pc := 100) N at_100 ?_
    generalize hd0 : ((XT.ushr p3 (2 : Int32)) &&& (65535 : Int32)) = dd
    have d1 : 0 ≤ dd.toInt ∧ dd.toInt ≤ 65535 := by rw [← hd0]; exact msk _ 65535 (by decide) 65535 rfl
    have a2p : 1 ≤ a1.toInt + dd.toInt := by omega
    refine k_istore (pc := 101) N at_101 (Ls' := #[.val (.int p0), .val (.int p1), .val (.int p2), .val (.int p3), .val (.int (p3 &&& (3 : Int32))), .val (.int mx), .val (.double ex), .second, .val (.int (1 : Int32)), .val (.int a1), .val (.int dd), .unset, .unset, .unset, .unset, .unset, .unset, .unset, .unset, .unset, .unset, .unset, .unset]) rfl ?_
    refine k_iload (pc := 103) N at_103 rfl ?_
    refine k_i2d (pc := 105) N at_105 ?_
    refine k_dstore (pc := 106) N at_106 (Ls' := #[.val (.int p0), .val (.int p1), .val (.int p2), .val (.int p3), .val (.int (p3 &&& (3 : Int32))), .val (.int mx), .val (.double ex), .second, .val (.int (1 : Int32)), .val (.int a1), .val (.int dd), .val (.double (FP.i2d a1)), .second, .unset, .unset, .unset, .unset, .unset, .unset, .unset, .unset, .unset, .unset]) rfl ?_
    refine k_dload (pc := 108) N at_108 rfl ?_
    refine k_iload (pc := 110) N at_110 rfl ?_
    refine k_i2d (pc := 112) N at_112 ?_
    refine k_dadd (pc := 113) N at_113 (v := (FP.l2d (a1.toInt64 + dd.toInt64))) (nn_w (avg2_eq a1p d1)) (avg2_eq a1p d1) ?_
    refine k_dstore (pc := 114) N at_114 (Ls' := #[.val (.int p0), .val (.int p1), .val (.int p2), .val (.int p3), .val (.int (p3 &&& (3 : Int32))), .val (.int mx), .val (.double ex), .second, .val (.int (1 : Int32)), .val (.int a1), .val (.int dd), .val (.double (FP.i2d a1)), .second, .val (.double (FP.l2d (a1.toInt64 + dd.toInt64))), .second, .unset, .unset, .unset, .unset, .unset, .unset, .unset, .unset]) rfl ?_
    refine k_iload_n (pc := 116) N at_116 rfl ?_
    refine k_iload_n (pc := 117) N at_117 rfl ?_
    refine k_static (pc := 118) N (y := (⟨"java/lang/Math", "min", "(II)I"⟩ : MethodName)) (rest := []) [.int p0, .int p1] at_118 (hw _ (List.mem_of_getElem? (i := 15) rfl)) (hw _ (List.mem_of_getElem? (i := 16) rfl)) (hw _ (List.mem_of_getElem? (i := 3) rfl)) (hw _ (List.mem_of_getElem? (i := 17) rfl)) (by decide) pd__II_I rfl (c_min l Z a0 hw p0 p1 []) rfl rfl 0 rfl (by decide) (by decide) (cells' := 0) rfl (slots' := 0) rfl (by decide) (by decide) fun T vV K' N qQ => ?_
    obtain ⟨rfl, rfl⟩ := qQ
    generalize hlo : (if p1 < p0 then p1 else p0) = lo
    refine k_istore (pc := 121) N at_121 (Ls' := #[.val (.int p0), .val (.int p1), .val (.int p2), .val (.int p3), .val (.int (p3 &&& (3 : Int32))), .val (.int mx), .val (.double ex), .second, .val (.int (1 : Int32)), .val (.int a1), .val (.int dd), .val (.double (FP.i2d a1)), .second, .val (.double (FP.l2d (a1.toInt64 + dd.toInt64))), .second, .val (.int lo), .unset, .unset, .unset, .unset, .unset, .unset, .unset]) rfl ?_
    refine k_iload_n (pc := 123) N at_123 rfl ?_
    refine k_iload_n (pc := 124) N at_124 rfl ?_
    refine k_static (pc := 125) N (y := (⟨"java/lang/Math", "max", "(II)I"⟩ : MethodName)) (rest := []) [.int p0, .int p1] at_125 (hw _ (List.mem_of_getElem? (i := 1) rfl)) (hw _ (List.mem_of_getElem? (i := 2) rfl)) (hw _ (List.mem_of_getElem? (i := 3) rfl)) (hw _ (List.mem_of_getElem? (i := 4) rfl)) (by decide) pd__II_I rfl (c_max l Z a0 hw p0 p1 []) rfl rfl 0 rfl (by decide) (by decide) (cells' := 0) rfl (slots' := 0) rfl (by decide) (by decide) fun T vV K' N qQ => ?_
    obtain ⟨rfl, rfl⟩ := qQ
    generalize hhi : (if p0 < p1 then p1 else p0) = hi
    have hle : lo.toInt ≤ hi.toInt := by rw [← hlo, ← hhi]; simp only [Int32.lt_iff_toInt_lt]; split <;> split <;> omega
    refine k_istore (pc := 128) N at_128 (Ls' := #[.val (.int p0), .val (.int p1), .val (.int p2), .val (.int p3), .val (.int (p3 &&& (3 : Int32))), .val (.int mx), .val (.double ex), .second, .val (.int (1 : Int32)), .val (.int a1), .val (.int dd), .val (.double (FP.i2d a1)), .second, .val (.double (FP.l2d (a1.toInt64 + dd.toInt64))), .second, .val (.int lo), .val (.int hi), .unset, .unset, .unset, .unset, .unset, .unset]) rfl ?_
    refine k_iload (pc := 130) N at_130 rfl ?_
    refine k_dload (pc := 132) N at_132 rfl ?_
    refine k_static (pc := 134) N (y := (⟨"com/example/brigid/brigid/search/Okapi", "lengthNorm", "(ID)D"⟩ : MethodName)) (rest := []) [.int lo, .double (FP.i2d a1)] at_134 (hw _ (List.mem_of_getElem? (i := 6) rfl)) (hw _ (List.mem_of_getElem? (i := 7) rfl)) (hw _ (List.mem_of_getElem? (i := 8) rfl)) (hw _ (List.mem_of_getElem? (i := 9) rfl)) (by decide) pd__ID_D rfl (c_ln l Z a0 hw lo (FP.i2d a1) (tD_nn _ (avg_z a1).1 a1p (avg_z a1).2) (tS_nn _ (avg_z a1).1 a1p (avg_z a1).2) (ln_nn _ (avg_z a1).1 a1p (avg_z a1).2) []) rfl rfl 0 rfl (by decide) (by decide) (cells' := 0) rfl (slots' := 0) rfl (by decide) (by decide) fun T vV K' N qQ => ?_
    obtain ⟨rfl, rfl⟩ := qQ
    refine k_iload (pc := 137) N at_137 rfl ?_
    refine k_dload (pc := 139) N at_139 rfl ?_
    refine k_static (pc := 141) N (y := (⟨"com/example/brigid/brigid/search/Okapi", "lengthNorm", "(ID)D"⟩ : MethodName)) (rest := [.double (ln lo (FP.i2d a1))]) [.int hi, .double (FP.i2d a1)] at_141 (hw _ (List.mem_of_getElem? (i := 6) rfl)) (hw _ (List.mem_of_getElem? (i := 7) rfl)) (hw _ (List.mem_of_getElem? (i := 8) rfl)) (hw _ (List.mem_of_getElem? (i := 9) rfl)) (by decide) pd__ID_D rfl (c_ln l Z a0 hw hi (FP.i2d a1) (tD_nn _ (avg_z a1).1 a1p (avg_z a1).2) (tS_nn _ (avg_z a1).1 a1p (avg_z a1).2) (ln_nn _ (avg_z a1).1 a1p (avg_z a1).2) []) rfl rfl 2 rfl (by decide) (by decide) (cells' := 0) rfl (slots' := 0) rfl (by decide) (by decide) fun T vV K' N qQ => ?_
    obtain ⟨rfl, rfl⟩ := qQ
    refine k_dcmp (pc := 144) N at_144 (v := (if z (ln lo (FP.i2d a1)) < z (ln hi (FP.i2d a1)) then -1 else if z (ln lo (FP.i2d a1)) = z (ln hi (FP.i2d a1)) then 0 else 1)) (cmp_z (nn_val (ln_nn _ (avg_z a1).1 a1p (avg_z a1).2)) (nn_val (ln_nn _ (avg_z a1).1 a1p (avg_z a1).2)) _) ?_
    refine k_if_gt (pc := 145) N at_145 (pc' := 152) (by decide) (fun qQ => absurd qQ (cmp3_le (ln_mono (avg_z a1).1 a1p (avg_z a1).2 hle))) (fun _ => ?_)
    refine k_iconst (pc := 148) N at_148 (v := (1 : Int32)) (by decide) ?_
    refine k_goto (pc := 149) N at_149 (pc' := 153) (by decide) ?_
    refine k_istore (pc := 153) N at_153 (Ls' := #[.val (.int p0), .val (.int p1), .val (.int p2), .val (.int p3), .val (.int (p3 &&& (3 : Int32))), .val (.int mx), .val (.double ex), .second, .val (.int (1 : Int32)), .val (.int a1), .val (.int dd), .val (.double (FP.i2d a1)), .second, .val (.double (FP.l2d (a1.toInt64 + dd.toInt64))), .second, .val (.int lo), .val (.int hi), .val (.int (1 : Int32)), .unset, .unset, .unset, .unset, .unset]) rfl ?_
    refine k_iload_n (pc := 155) N at_155 rfl ?_
    refine k_dload (pc := 156) N at_156 rfl ?_
    refine k_static (pc := 158) N (y := (⟨"com/example/brigid/brigid/search/Okapi", "lengthNorm", "(ID)D"⟩ : MethodName)) (rest := []) [.int p0, .double (FP.i2d a1)] at_158 (hw _ (List.mem_of_getElem? (i := 6) rfl)) (hw _ (List.mem_of_getElem? (i := 7) rfl)) (hw _ (List.mem_of_getElem? (i := 8) rfl)) (hw _ (List.mem_of_getElem? (i := 9) rfl)) (by decide) pd__ID_D rfl (c_ln l Z a0 hw p0 (FP.i2d a1) (tD_nn _ (avg_z a1).1 a1p (avg_z a1).2) (tS_nn _ (avg_z a1).1 a1p (avg_z a1).2) (ln_nn _ (avg_z a1).1 a1p (avg_z a1).2) []) rfl rfl 0 rfl (by decide) (by decide) (cells' := 0) rfl (slots' := 0) rfl (by decide) (by decide) fun T vV K' N qQ => ?_
    obtain ⟨rfl, rfl⟩ := qQ
    refine k_dstore (pc := 161) N at_161 (Ls' := #[.val (.int p0), .val (.int p1), .val (.int p2), .val (.int p3), .val (.int (p3 &&& (3 : Int32))), .val (.int mx), .val (.double ex), .second, .val (.int (1 : Int32)), .val (.int a1), .val (.int dd), .val (.double (FP.i2d a1)), .second, .val (.double (FP.l2d (a1.toInt64 + dd.toInt64))), .second, .val (.int lo), .val (.int hi), .val (.int (1 : Int32)), .val (.double (ln p0 (FP.i2d a1))), .second, .unset, .unset, .unset]) rfl ?_
    refine k_iload_n (pc := 163) N at_163 rfl ?_
    refine k_dload (pc := 164) N at_164 rfl ?_
    refine k_static (pc := 166) N (y := (⟨"com/example/brigid/brigid/search/Okapi", "lengthNorm", "(ID)D"⟩ : MethodName)) (rest := []) [.int p0, .double (FP.l2d (a1.toInt64 + dd.toInt64))] at_166 (hw _ (List.mem_of_getElem? (i := 6) rfl)) (hw _ (List.mem_of_getElem? (i := 7) rfl)) (hw _ (List.mem_of_getElem? (i := 8) rfl)) (hw _ (List.mem_of_getElem? (i := 9) rfl)) (by decide) pd__ID_D rfl (c_ln l Z a0 hw p0 (FP.l2d (a1.toInt64 + dd.toInt64)) (tD_nn _ (avg2_z a1p d1).1 a2p (avg2_z a1p d1).2) (tS_nn _ (avg2_z a1p d1).1 a2p (avg2_z a1p d1).2) (ln_nn _ (avg2_z a1p d1).1 a2p (avg2_z a1p d1).2) []) rfl rfl 0 rfl (by decide) (by decide) (cells' := 0) rfl (slots' := 0) rfl (by decide) (by decide) fun T vV K' N qQ => ?_
    obtain ⟨rfl, rfl⟩ := qQ
    refine k_dstore (pc := 169) N at_169 (Ls' := #[.val (.int p0), .val (.int p1), .val (.int p2), .val (.int p3), .val (.int (p3 &&& (3 : Int32))), .val (.int mx), .val (.double ex), .second, .val (.int (1 : Int32)), .val (.int a1), .val (.int dd), .val (.double (FP.i2d a1)), .second, .val (.double (FP.l2d (a1.toInt64 + dd.toInt64))), .second, .val (.int lo), .val (.int hi), .val (.int (1 : Int32)), .val (.double (ln p0 (FP.i2d a1))), .second, .val (.double (ln p0 (FP.l2d (a1.toInt64 + dd.toInt64)))), .second, .unset]) rfl ?_
    refine k_iload_n (pc := 171) N at_171 rfl ?_
    refine k_if_lt (pc := 172) N at_172 (pc' := 191) (by decide) (fun c172 => ?_) (fun c172 => ?_)
    · refine k_dload (pc := 191) N at_191 rfl ?_
      refine k_dload (pc := 193) N at_193 rfl ?_
      refine k_dcmp (pc := 195) N at_195 (v := (if z (ln p0 (FP.i2d a1)) < z (ln p0 (FP.l2d (a1.toInt64 + dd.toInt64))) then -1 else if z (ln p0 (FP.i2d a1)) = z (ln p0 (FP.l2d (a1.toInt64 + dd.toInt64))) then 0 else 1)) (cmp_z (nn_val (ln_nn _ (avg_z a1).1 a1p (avg_z a1).2)) (nn_val (ln_nn _ (avg2_z a1p d1).1 a2p (avg2_z a1p d1).2)) _) ?_
      refine k_if_gt (pc := 196) N at_196 (pc' := 203) (by decide) (fun qQ => absurd qQ (cmp3_le (ln_anti_neg (avg_z a1).1 a1p (avg_z a1).2 (avg2_z a1p d1).1 a2p (avg2_z a1p d1).2 (by omega) (by rw [Int32.lt_iff_toInt_lt] at c172; have e : (0 : Int32).toInt = 0 := rfl; omega)))) (fun _ => ?_)
      refine k_iconst (pc := 199) N at_199 (v := (1 : Int32)) (by decide) ?_
      refine k_goto (pc := 200) N at_200 (pc' := 204) (by decide) ?_
      refine k_istore (pc := 204) N at_204 (Ls' := #[.val (.int p0), .val (.int p1), .val (.int p2), .val (.int p3), .val (.int (p3 &&& (3 : Int32))), .val (.int mx), .val (.double ex), .second, .val (.int (1 : Int32)), .val (.int a1), .val (.int dd), .val (.double (FP.i2d a1)), .second, .val (.double (FP.l2d (a1.toInt64 + dd.toInt64))), .second, .val (.int lo), .val (.int hi), .val (.int (1 : Int32)), .val (.double (ln p0 (FP.i2d a1))), .second, .val (.double (ln p0 (FP.l2d (a1.toInt64 + dd.toInt64)))), .second, .val (.int (1 : Int32))]) rfl ?_
      refine k_iload (pc := 206) N at_206 rfl ?_
      refine k_if_eq (pc := 208) N at_208 (pc' := 225) (by decide) (fun qQ => absurd qQ (by decide)) (fun _ => ?_)
      refine k_iload (pc := 211) N at_211 rfl ?_
      refine k_if_eq (pc := 213) N at_213 (pc' := 225) (by decide) (fun qQ => absurd qQ (by decide)) (fun _ => ?_)
      refine k_iload (pc := 216) N at_216 rfl ?_
      refine k_if_eq (pc := 218) N at_218 (pc' := 225) (by decide) (fun qQ => absurd qQ (by decide)) (fun _ => ?_)
      refine k_iconst (pc := 221) N at_221 (v := (1 : Int32)) (by decide) ?_
      refine k_goto (pc := 222) N at_222 (pc' := 226) (by decide) ?_
      exact k_zreturn (pc := 226) N at_226 rfl (by decide) (by decide) rfl
    · refine k_dload (pc := 175) N at_175 rfl ?_
      refine k_dload (pc := 177) N at_177 rfl ?_
      refine k_dcmp (pc := 179) N at_179 (v := (if z (ln p0 (FP.i2d a1)) < z (ln p0 (FP.l2d (a1.toInt64 + dd.toInt64))) then -1 else if z (ln p0 (FP.i2d a1)) = z (ln p0 (FP.l2d (a1.toInt64 + dd.toInt64))) then 0 else 1)) (cmp_z (nn_val (ln_nn _ (avg_z a1).1 a1p (avg_z a1).2)) (nn_val (ln_nn _ (avg2_z a1p d1).1 a2p (avg2_z a1p d1).2)) _) ?_
      refine k_if_lt (pc := 180) N at_180 (pc' := 187) (by decide) (fun qQ => absurd qQ (cmp3_ge (ln_anti_pos (avg_z a1).1 a1p (avg_z a1).2 (avg2_z a1p d1).1 a2p (avg2_z a1p d1).2 (by omega) (by rw [Int32.lt_iff_toInt_lt] at c172; have e : (0 : Int32).toInt = 0 := rfl; omega)))) (fun _ => ?_)
      refine k_iconst (pc := 183) N at_183 (v := (1 : Int32)) (by decide) ?_
      refine k_goto (pc := 184) N at_184 (pc' := 204) (by decide) ?_
      refine k_istore (pc := 204) N at_204 (Ls' := #[.val (.int p0), .val (.int p1), .val (.int p2), .val (.int p3), .val (.int (p3 &&& (3 : Int32))), .val (.int mx), .val (.double ex), .second, .val (.int (1 : Int32)), .val (.int a1), .val (.int dd), .val (.double (FP.i2d a1)), .second, .val (.double (FP.l2d (a1.toInt64 + dd.toInt64))), .second, .val (.int lo), .val (.int hi), .val (.int (1 : Int32)), .val (.double (ln p0 (FP.i2d a1))), .second, .val (.double (ln p0 (FP.l2d (a1.toInt64 + dd.toInt64)))), .second, .val (.int (1 : Int32))]) rfl ?_
      refine k_iload (pc := 206) N at_206 rfl ?_
      refine k_if_eq (pc := 208) N at_208 (pc' := 225) (by decide) (fun qQ => absurd qQ (by decide)) (fun _ => ?_)
      refine k_iload (pc := 211) N at_211 rfl ?_
      refine k_if_eq (pc := 213) N at_213 (pc' := 225) (by decide) (fun qQ => absurd qQ (by decide)) (fun _ => ?_)
      refine k_iload (pc := 216) N at_216 rfl ?_
      refine k_if_eq (pc := 218) N at_218 (pc' := 225) (by decide) (fun qQ => absurd qQ (by decide)) (fun _ => ?_)
      refine k_iconst (pc := 221) N at_221 (v := (1 : Int32)) (by decide) ?_
      refine k_goto (pc := 222) N at_222 (pc' := 226) (by decide) ?_
      exact k_zreturn (pc := 226) N at_226 rfl (by decide) (by decide) rfl
  rcases four p3 with hk | hk | hk | hk
  · rw [hk] at J83 ⊢
    refine k_iload (pc := 15) N at_15 rfl ?_
    refine k_if_ne (pc := 17) N at_17 (pc' := 28) (by decide) (fun qQ => absurd qQ (fun z => z rfl)) (fun _ => ?_)
    refine k_ldcD (pc := 20) N at_20 (hw _ (List.mem_of_getElem? (i := 19) rfl)) ?_
    refine k_dstore (pc := 23) N at_23 (Ls' := #[.val (.int p0), .val (.int p1), .val (.int p2), .val (.int p3), .val (.int (0 : Int32)), .val (.int mx), .val (.double (4599075939470750515 : UInt64)), .second, .unset, .unset, .unset, .unset, .unset, .unset, .unset, .unset, .unset, .unset, .unset, .unset, .unset, .unset, .unset]) rfl ?_
    refine k_goto (pc := 25) N at_25 (pc' := 61) (by decide) ?_
    refine k_iload (pc := 61) N at_61 rfl ?_
    refine k_iload (pc := 63) N at_63 rfl ?_
    refine k_imul (pc := 65) N at_65 ?_
    refine k_iload (pc := 66) N at_66 rfl ?_
    refine k_i2d (pc := 68) N at_68 ?_
    refine k_static (pc := 69) N (y := (⟨"com/example/brigid/brigid/search/Okapi", "lengthNorm", "(ID)D"⟩ : MethodName)) (rest := []) [.int ((0 : Int32) * mx), .double (FP.i2d mx)] at_69 (hw _ (List.mem_of_getElem? (i := 6) rfl)) (hw _ (List.mem_of_getElem? (i := 7) rfl)) (hw _ (List.mem_of_getElem? (i := 8) rfl)) (hw _ (List.mem_of_getElem? (i := 9) rfl)) (by decide) pd__ID_D rfl (c_ln l Z a0 hw ((0 : Int32) * mx) (FP.i2d mx) (tD_nn _ (avg_z mx).1 m1 (avg_z mx).2) (tS_nn _ (avg_z mx).1 m1 (avg_z mx).2) (ln_nn _ (avg_z mx).1 m1 (avg_z mx).2) []) rfl rfl 0 rfl (by decide) (by decide) (cells' := 0) rfl (slots' := 0) rfl (by decide) (by decide) fun T vV K' N qQ => ?_
    obtain ⟨rfl, rfl⟩ := qQ
    refine k_dload (pc := 72) N at_72 rfl ?_
    refine k_dcmp (pc := 74) N at_74 (v := (0 : Int32)) (ex_all (K := 0) rfl (by decide) m1 m2 (S := 4598175219545276416) (fin64_core.mp (by unfold Fin64; decide)) (by decide +kernel) (by decide +kernel)) ?_
    refine k_if_ne (pc := 75) N at_75 (pc' := 82) (by decide) (fun qQ => absurd qQ (fun z => z rfl)) (fun _ => ?_)
    refine k_iconst (pc := 78) N at_78 (v := (1 : Int32)) (by decide) ?_
    refine k_goto (pc := 79) N at_79 (pc' := 83) (by decide) ?_
    exact J83 _ N _
  · rw [hk] at J83 ⊢
    refine k_iload (pc := 15) N at_15 rfl ?_
    refine k_if_ne (pc := 17) N at_17 (pc' := 28) (by decide) (fun _ => ?_) (fun qQ => absurd qQ (by decide))
    refine k_iload (pc := 28) N at_28 rfl ?_
    refine k_iconst (pc := 30) N at_30 (v := (1 : Int32)) (by decide) ?_
    refine k_icmp_ne (pc := 31) N at_31 (pc' := 42) (by decide) (fun qQ => absurd qQ (fun z => z rfl)) (fun _ => ?_)
    refine k_ldcD (pc := 34) N at_34 (hw _ (List.mem_of_getElem? (i := 5) rfl)) ?_
    refine k_dstore (pc := 37) N at_37 (Ls' := #[.val (.int p0), .val (.int p1), .val (.int p2), .val (.int p3), .val (.int (1 : Int32)), .val (.int mx), .val (.double (4608083138725491507 : UInt64)), .second, .unset, .unset, .unset, .unset, .unset, .unset, .unset, .unset, .unset, .unset, .unset, .unset, .unset, .unset, .unset]) rfl ?_
    refine k_goto (pc := 39) N at_39 (pc' := 61) (by decide) ?_
    refine k_iload (pc := 61) N at_61 rfl ?_
    refine k_iload (pc := 63) N at_63 rfl ?_
    refine k_imul (pc := 65) N at_65 ?_
    refine k_iload (pc := 66) N at_66 rfl ?_
    refine k_i2d (pc := 68) N at_68 ?_
    refine k_static (pc := 69) N (y := (⟨"com/example/brigid/brigid/search/Okapi", "lengthNorm", "(ID)D"⟩ : MethodName)) (rest := []) [.int ((1 : Int32) * mx), .double (FP.i2d mx)] at_69 (hw _ (List.mem_of_getElem? (i := 6) rfl)) (hw _ (List.mem_of_getElem? (i := 7) rfl)) (hw _ (List.mem_of_getElem? (i := 8) rfl)) (hw _ (List.mem_of_getElem? (i := 9) rfl)) (by decide) pd__ID_D rfl (c_ln l Z a0 hw ((1 : Int32) * mx) (FP.i2d mx) (tD_nn _ (avg_z mx).1 m1 (avg_z mx).2) (tS_nn _ (avg_z mx).1 m1 (avg_z mx).2) (ln_nn _ (avg_z mx).1 m1 (avg_z mx).2) []) rfl rfl 0 rfl (by decide) (by decide) (cells' := 0) rfl (slots' := 0) rfl (by decide) (by decide) fun T vV K' N qQ => ?_
    obtain ⟨rfl, rfl⟩ := qQ
    refine k_dload (pc := 72) N at_72 rfl ?_
    refine k_dcmp (pc := 74) N at_74 (v := (0 : Int32)) (ex_all (K := 1) rfl (by decide) m1 m2 (S := 4607182418800017408) (fin64_core.mp (by unfold Fin64; decide)) (by decide +kernel) (by decide +kernel)) ?_
    refine k_if_ne (pc := 75) N at_75 (pc' := 82) (by decide) (fun qQ => absurd qQ (fun z => z rfl)) (fun _ => ?_)
    refine k_iconst (pc := 78) N at_78 (v := (1 : Int32)) (by decide) ?_
    refine k_goto (pc := 79) N at_79 (pc' := 83) (by decide) ?_
    exact J83 _ N _
  · rw [hk] at J83 ⊢
    refine k_iload (pc := 15) N at_15 rfl ?_
    refine k_if_ne (pc := 17) N at_17 (pc' := 28) (by decide) (fun _ => ?_) (fun qQ => absurd qQ (by decide))
    refine k_iload (pc := 28) N at_28 rfl ?_
    refine k_iconst (pc := 30) N at_30 (v := (1 : Int32)) (by decide) ?_
    refine k_icmp_ne (pc := 31) N at_31 (pc' := 42) (by decide) (fun _ => ?_) (fun qQ => absurd qQ (by decide))
    refine k_iload (pc := 42) N at_42 rfl ?_
    refine k_iconst (pc := 44) N at_44 (v := (2 : Int32)) (by decide) ?_
    refine k_icmp_ne (pc := 45) N at_45 (pc' := 56) (by decide) (fun qQ => absurd qQ (fun z => z rfl)) (fun _ => ?_)
    refine k_ldcD (pc := 48) N at_48 (hw _ (List.mem_of_getElem? (i := 18) rfl)) ?_
    refine k_dstore (pc := 51) N at_51 (Ls' := #[.val (.int p0), .val (.int p1), .val (.int p2), .val (.int p3), .val (.int (2 : Int32)), .val (.int mx), .val (.double (4611911198408756429 : UInt64)), .second, .unset, .unset, .unset, .unset, .unset, .unset, .unset, .unset, .unset, .unset, .unset, .unset, .unset, .unset, .unset]) rfl ?_
    refine k_goto (pc := 53) N at_53 (pc' := 61) (by decide) ?_
    refine k_iload (pc := 61) N at_61 rfl ?_
    refine k_iload (pc := 63) N at_63 rfl ?_
    refine k_imul (pc := 65) N at_65 ?_
    refine k_iload (pc := 66) N at_66 rfl ?_
    refine k_i2d (pc := 68) N at_68 ?_
    refine k_static (pc := 69) N (y := (⟨"com/example/brigid/brigid/search/Okapi", "lengthNorm", "(ID)D"⟩ : MethodName)) (rest := []) [.int ((2 : Int32) * mx), .double (FP.i2d mx)] at_69 (hw _ (List.mem_of_getElem? (i := 6) rfl)) (hw _ (List.mem_of_getElem? (i := 7) rfl)) (hw _ (List.mem_of_getElem? (i := 8) rfl)) (hw _ (List.mem_of_getElem? (i := 9) rfl)) (by decide) pd__ID_D rfl (c_ln l Z a0 hw ((2 : Int32) * mx) (FP.i2d mx) (tD_nn _ (avg_z mx).1 m1 (avg_z mx).2) (tS_nn _ (avg_z mx).1 m1 (avg_z mx).2) (ln_nn _ (avg_z mx).1 m1 (avg_z mx).2) []) rfl rfl 0 rfl (by decide) (by decide) (cells' := 0) rfl (slots' := 0) rfl (by decide) (by decide) fun T vV K' N qQ => ?_
    obtain ⟨rfl, rfl⟩ := qQ
    refine k_dload (pc := 72) N at_72 rfl ?_
    refine k_dcmp (pc := 74) N at_74 (v := (0 : Int32)) (ex_all (K := 2) rfl (by decide) m1 m2 (S := 4610560118520545280) (fin64_core.mp (by unfold Fin64; decide)) (by decide +kernel) (by decide +kernel)) ?_
    refine k_if_ne (pc := 75) N at_75 (pc' := 82) (by decide) (fun qQ => absurd qQ (fun z => z rfl)) (fun _ => ?_)
    refine k_iconst (pc := 78) N at_78 (v := (1 : Int32)) (by decide) ?_
    refine k_goto (pc := 79) N at_79 (pc' := 83) (by decide) ?_
    exact J83 _ N _
  · rw [hk] at J83 ⊢
    refine k_iload (pc := 15) N at_15 rfl ?_
    refine k_if_ne (pc := 17) N at_17 (pc' := 28) (by decide) (fun _ => ?_) (fun qQ => absurd qQ (by decide))
    refine k_iload (pc := 28) N at_28 rfl ?_
    refine k_iconst (pc := 30) N at_30 (v := (1 : Int32)) (by decide) ?_
    refine k_icmp_ne (pc := 31) N at_31 (pc' := 42) (by decide) (fun _ => ?_) (fun qQ => absurd qQ (by decide))
    refine k_iload (pc := 42) N at_42 rfl ?_
    refine k_iconst (pc := 44) N at_44 (v := (2 : Int32)) (by decide) ?_
    refine k_icmp_ne (pc := 45) N at_45 (pc' := 56) (by decide) (fun _ => ?_) (fun qQ => absurd qQ (by decide))
    refine k_ldcD (pc := 56) N at_56 (hw _ (List.mem_of_getElem? (i := 20) rfl)) ?_
    refine k_dstore (pc := 59) N at_59 (Ls' := #[.val (.int p0), .val (.int p1), .val (.int p2), .val (.int p3), .val (.int (3 : Int32)), .val (.int mx), .val (.double (4613937818241073152 : UInt64)), .second, .unset, .unset, .unset, .unset, .unset, .unset, .unset, .unset, .unset, .unset, .unset, .unset, .unset, .unset, .unset]) rfl ?_
    refine k_iload (pc := 61) N at_61 rfl ?_
    refine k_iload (pc := 63) N at_63 rfl ?_
    refine k_imul (pc := 65) N at_65 ?_
    refine k_iload (pc := 66) N at_66 rfl ?_
    refine k_i2d (pc := 68) N at_68 ?_
    refine k_static (pc := 69) N (y := (⟨"com/example/brigid/brigid/search/Okapi", "lengthNorm", "(ID)D"⟩ : MethodName)) (rest := []) [.int ((3 : Int32) * mx), .double (FP.i2d mx)] at_69 (hw _ (List.mem_of_getElem? (i := 6) rfl)) (hw _ (List.mem_of_getElem? (i := 7) rfl)) (hw _ (List.mem_of_getElem? (i := 8) rfl)) (hw _ (List.mem_of_getElem? (i := 9) rfl)) (by decide) pd__ID_D rfl (c_ln l Z a0 hw ((3 : Int32) * mx) (FP.i2d mx) (tD_nn _ (avg_z mx).1 m1 (avg_z mx).2) (tS_nn _ (avg_z mx).1 m1 (avg_z mx).2) (ln_nn _ (avg_z mx).1 m1 (avg_z mx).2) []) rfl rfl 0 rfl (by decide) (by decide) (cells' := 0) rfl (slots' := 0) rfl (by decide) (by decide) fun T vV K' N qQ => ?_
    obtain ⟨rfl, rfl⟩ := qQ
    refine k_dload (pc := 72) N at_72 rfl ?_
    refine k_dcmp (pc := 74) N at_74 (v := (0 : Int32)) (ex_all (K := 3) rfl (by decide) m1 m2 (S := 4612811918334230528) (fin64_core.mp (by unfold Fin64; decide)) (by decide +kernel) (by decide +kernel)) ?_
    refine k_if_ne (pc := 75) N at_75 (pc' := 82) (by decide) (fun qQ => absurd qQ (fun z => z rfl)) (fun _ => ?_)
    refine k_iconst (pc := 78) N at_78 (v := (1 : Int32)) (by decide) ?_
    refine k_goto (pc := 79) N at_79 (pc' := 83) (by decide) ?_
    exact J83 _ N _
set_option maxRecDepth 65536 in
set_option maxHeartbeats 40000000 in
theorem comes_1 {Post : Tables → Env → Array Value → State → Outcome → State → Prop} (hpost : ∀ tb e args s v u, (limb_1_1.after args s (.returned v) u = true ∧ limb_1_2.after args s (.returned v) u = true ∧ True) → FrameEnd s (.returned v) u (Jvm.fieldLocs frame_1_writes args s ++ Jvm.arrayLocs frame_1_arrays args s ++ Jvm.staticLocs frame_1_statics s) 0 0 → Post tb e args s (.returned v) u) :
    ArmFor flags0 classFile x code maxLocals ret World_1 tables_1 room_1 Calls_1 rest_1 Pre_1 Post := by
  intro l hfl _ _ p e ha hc hk s m args below hf hA hF happ hP
  obtain ⟨hcalls, hrest, hpre⟩ := hP
  obtain ⟨-, -, -, hnamed, -, -, -, hat⟩ := (Spec.applies_iff hf).mp happ
  obtain ⟨hg, hn⟩ := and_e (Cond.before_iff.mp (show (Jvm.Cond.and given_1 narrow_1).before args s = true from hpre))
  obtain ⟨g1, g2⟩ := and_e hg
  obtain ⟨g3, g4⟩ := and_e g2
  obtain ⟨g5, g6⟩ := and_e g4
  obtain ⟨g7, g8⟩ := and_e g6
  obtain ⟨w0, w1, w2, w3, rfl⟩ : ∃ w0 w1 w2 w3 : Value, args = #[w0, w1, w2, w3] := by
    have hs : args.size = 4 := by simpa [Cond.value, given_1] using g1
    obtain ⟨L⟩ := args
    match L, hs with
    | [w0, w1, w2, w3], _ => exact ⟨w0, w1, w2, w3, rfl⟩
  have hw := fun d (hd : d ∈ tables_1) => atoms_spec (ws := Jvm.Cond.code x code maxLocals ret :: tables_1) hat d (List.mem_cons_of_mem _ hd)
  have hfit : Fit s := fun {y c} hc i hi => by
    obtain ⟨ha, rfl⟩ := Array.getElem?_eq_some_iff.mp hc
    have q := List.all_eq_true.mp ((Array.all_eq_true_iff_forall_mem.mp hF) _ (Array.getElem_mem ha)) i (List.mem_range.mpr hi)
    simpa [Array.getElem?_eq_getElem hi] using q
  obtain ⟨i0, ei0⟩ := is_v g3
  obtain rfl : w0 = (.int i0) := Option.some.inj ei0
  obtain ⟨i1, ei1⟩ := is_v g5
  obtain rfl : w1 = (.int i1) := Option.some.inj ei1
  obtain ⟨i2, ei2⟩ := is_v g7
  obtain rfl : w2 = (.int i2) := Option.some.inj ei2
  obtain ⟨i3, ei3⟩ := is_v g8
  obtain rfl : w3 = (.int i3) := Option.some.inj ei3
  obtain ⟨n, o, h1, h2, h3, _, L, rfl, ⟨N, K', -, rfl⟩, hq⟩ := c_law l s _ hw i0 i1 i2 i3 tables_1 s.heap (OKnow.start s) p e ha hc hk s m _ below hf ((Spec.applies_iff_loose hf).mp happ).1 ⟨rfl, State.Warmed39.refl s, rfl⟩ trivial
  refine ⟨n, _, h1, h2, h3, hpost _ _ _ _ _ _ ⟨Cond.after_iff.mpr rfl, Cond.after_iff.mpr (eq_i res_at (Term.int_eval (1)) rfl), trivial⟩ ⟨hq.1, hq.2.1, (hq.2.2.sift fun y hy => Or.inr (N y hy)).mono (by decide) (by decide)⟩⟩
theorem main_1_1 : Claimed_1_1 := comes_1 fun _ _ _ _ _ _ h hF => ⟨h.1, hF⟩
theorem main_1_2 : Claimed_1_2 := comes_1 fun _ _ _ _ _ _ h hF => ⟨h.2.1, hF⟩
end Jvm.Pilot.@@N@@
namespace Jvm.Pilot.@@N@@
open Jvm Jvm.ClassFile Sem Op Lib Jvm.Free Jvm.Stand Jvm.Pilot.@@N@@.Jvm.D
/-! MADE BY PROGRAM (witnessworld.py) out of the Statement's table words and the real class files: 10 classes; the members and pool entries that the words name. The judged class is class 1, her method 1. -/
namespace start1
open Jvm.ClassFile
def u (s : String) : CpInfo := .utf8 (stringToUtf16 s)
/-- a pool by its gaps: so many unusable entries, then the entry; so many at the end -/
def gap : Nat → List CpInfo → List CpInfo
  | 0, r => r
  | n + 1, r => .unusable :: gap n r
def poolList (es : List (Nat × CpInfo)) (last : Nat) : List CpInfo := es.foldr (fun e r => gap e.1 (e.2 :: r)) (gap last [])
def pool (es : List (Nat × CpInfo)) (last : Nat) : Array CpInfo := ⟨poolList es last⟩
def fileOf (pool : Array CpInfo) (this : Nat) (attrs : Array Attribute := #[]) (ms : Array MethodInfo := #[]) (fl : Nat := 33) (sup : Nat := 0) (ifs : Array Nat := #[]) (fds : Array FieldInfo := #[]) : ClassFile where
  minorVersion := 0
  majorVersion := 65
  constantPool := pool
  accessFlags := fl
  thisClass := this
  superClass := sup
  interfaces := ifs
  fields := fds
  methods := ms
  attributes := attrs
def plain (name : String) (sup : Option ClassId) : Class where
  name := name
  kind := .ordinary
  loader := none
  accessFlags := 33
  super := sup
  interfaces := #[]
  cf := none
  fields := #[]
  methods := #[]
  instanceTypes := #[]
  staticTypes := #[]
  resolved := #[]
  callSites := []
  init := .initialized
  statics := none
  mirror := none

def pool0 : Array CpInfo := pool [(5, u "<init>"), (0, u "()V"), (1, .class_ 10), (1, u "java/lang/Object")] 113

def k0m0 : Method := { name := "<init>", desc := "()V", sig := { parameters := [], returnType := none }, accessFlags := 1, code := none }
/-- java/lang/Object -/
def k0 : Class := { plain "java/lang/Object" none with
  accessFlags := 33
  interfaces := #[]
  cf := some (fileOf pool0 8 #[] #[{ accessFlags := 1, nameIndex := 5, descriptorIndex := 6, attributes := #[] }] 33 0 #[] #[])
  fields := #[]
  methods := #[k0m0]
  instanceTypes := #[]
  staticTypes := #[]
  resolved := Array.replicate 124 none
  statics := none }

def pool1 : Array CpInfo := pool [(2, .class_ 4), (1, u "java/lang/Object"), (0, u "<init>"), (0, u "()V"), (0, .integer 536870911), (0, .methodref 9 10), (0, .class_ 11), (0, .nameAndType 12 13), (0, u "java/lang/Math"), (0, u "max"), (0, u "(II)I"), (0, .double 4599075939470750515), (1, .double 4608083138725491507), (1, .double 4611911198408756429), (1, .double 4613937818241073152), (1, .methodref 23 24), (0, .class_ 25), (0, .nameAndType 26 27), (0, u "com/example/brigid/brigid/search/Okapi"), (0, u "lengthNorm"), (0, u "(ID)D"), (0, .integer 2147483647), (0, .integer 65535), (0, .methodref 9 31), (0, .nameAndType 32 13), (0, u "min"), (0, .class_ 34), (0, u "com/example/brigid/brigid/search/OkapiLengthNormPinLaw"), (2, u "law"), (0, u "(IIII)Z")] 3

def k1m0 : Method := { name := "<init>", desc := "()V", sig := { parameters := [], returnType := none }, accessFlags := 2, code := none }
def k1c1 : Code := { maxStack := 5, maxLocals := 23, code := code, exceptionTable := #[], attributes := #[] }
def k1m1 : Method := { name := "law", desc := "(IIII)Z", sig := { parameters := [.int, .int, .int, .int], returnType := some .boolean }, accessFlags := 9, code := some k1c1 }
/-- com/example/brigid/brigid/search/OkapiLengthNormPinLaw -/
def k1 : Class := { plain "com/example/brigid/brigid/search/OkapiLengthNormPinLaw" (some 0) with
  accessFlags := 49
  interfaces := #[]
  cf := some (fileOf pool1 33 #[] #[{ accessFlags := 2, nameIndex := 5, descriptorIndex := 6, attributes := #[] }, { accessFlags := 9, nameIndex := 37, descriptorIndex := 38, attributes := #[] }] 49 2 #[] #[])
  fields := #[]
  methods := #[k1m0, k1m1]
  instanceTypes := #[]
  staticTypes := #[]
  resolved := Array.replicate 42 none
  statics := none }

def pool2 : Array CpInfo := pool [(1, .class_ 2), (0, u "java/lang/Math"), (1, .class_ 6), (1, u "java/lang/Object"), (0, u "<init>"), (0, u "()V"), (89, .class_ 100), (1, u "java/lang/Math$RandomNumberGeneratorHolder"), (71, u "negativeZeroFloatBits"), (0, u "J"), (2, u "negativeZeroDoubleBits"), (21, u "max"), (2, u "min"), (43, u "$assertionsDisabled"), (0, u "Z"), (88, u "(II)I"), (2, u "twoToTheDoubleScaleDown"), (0, u "D"), (4, u "twoToTheDoubleScaleUp"), (9, u "E"), (3, u "PI"), (2, u "TAU"), (2, u "DEGREES_TO_RADIANS"), (0, u "RADIANS_TO_DEGREES")] 94

def k2m0 : Method := { name := "<init>", desc := "()V", sig := { parameters := [], returnType := none }, accessFlags := 2, code := none }
def k2c1 : Code := { maxStack := 2, maxLocals := 2, code := jdk_29_method_65_code, exceptionTable := #[], attributes := #[] }
def k2m1 : Method := { name := "max", desc := "(II)I", sig := { parameters := [.int, .int], returnType := some .int }, accessFlags := 9, code := some k2c1 }
def k2c2 : Code := { maxStack := 2, maxLocals := 2, code := jdk_29_method_69_code, exceptionTable := #[], attributes := #[] }
def k2m2 : Method := { name := "min", desc := "(II)I", sig := { parameters := [.int, .int], returnType := some .int }, accessFlags := 9, code := some k2c2 }
/-- java/lang/Math -/
def k2 : Class := { plain "java/lang/Math" (some 0) with
  accessFlags := 49
  interfaces := #[]
  cf := some (fileOf pool2 1 #[.nestMembers #[98]] #[{ accessFlags := 2, nameIndex := 7, descriptorIndex := 8, attributes := #[] }, { accessFlags := 9, nameIndex := 198, descriptorIndex := 335, attributes := #[] }, { accessFlags := 9, nameIndex := 201, descriptorIndex := 335, attributes := #[] }] 49 4 #[] #[{ accessFlags := 25, nameIndex := 354, descriptorIndex := 339, attributes := #[] }, { accessFlags := 25, nameIndex := 358, descriptorIndex := 339, attributes := #[] }, { accessFlags := 25, nameIndex := 361, descriptorIndex := 339, attributes := #[] }, { accessFlags := 26, nameIndex := 364, descriptorIndex := 339, attributes := #[] }, { accessFlags := 26, nameIndex := 365, descriptorIndex := 339, attributes := #[] }, { accessFlags := 26, nameIndex := 172, descriptorIndex := 173, attributes := #[] }, { accessFlags := 26, nameIndex := 176, descriptorIndex := 173, attributes := #[] }, { accessFlags := 8, nameIndex := 344, descriptorIndex := 339, attributes := #[] }, { accessFlags := 8, nameIndex := 338, descriptorIndex := 339, attributes := #[] }, { accessFlags := 4120, nameIndex := 245, descriptorIndex := 246, attributes := #[] }])
  fields := #[{ name := "E", type := .double, accessFlags := 25, slot := 0, constantValue := 0 }, { name := "PI", type := .double, accessFlags := 25, slot := 1, constantValue := 0 }, { name := "TAU", type := .double, accessFlags := 25, slot := 2, constantValue := 0 }, { name := "DEGREES_TO_RADIANS", type := .double, accessFlags := 26, slot := 3, constantValue := 0 }, { name := "RADIANS_TO_DEGREES", type := .double, accessFlags := 26, slot := 4, constantValue := 0 }, { name := "negativeZeroFloatBits", type := .long, accessFlags := 26, slot := 5, constantValue := 0 }, { name := "negativeZeroDoubleBits", type := .long, accessFlags := 26, slot := 6, constantValue := 0 }, { name := "twoToTheDoubleScaleUp", type := .double, accessFlags := 8, slot := 7, constantValue := 0 }, { name := "twoToTheDoubleScaleDown", type := .double, accessFlags := 8, slot := 8, constantValue := 0 }, { name := "$assertionsDisabled", type := .boolean, accessFlags := 4120, slot := 9, constantValue := 0 }]
  methods := #[k2m0, k2m1, k2m2]
  instanceTypes := #[]
  staticTypes := #[.double, .double, .double, .double, .double, .long, .long, .double, .double, .boolean]
  resolved := Array.replicate 460 none
  statics := none }

def pool3 : Array CpInfo := pool [(2, .class_ 4), (1, u "java/lang/Object"), (0, u "<init>"), (0, u "()V"), (1, .class_ 10), (1, u "com/example/brigid/brigid/search/Okapi"), (0, u "lengthNorm"), (0, u "(ID)D"), (5, .double 4608083138725491507), (1, .double 4598175219545276416), (1, .double 4604930618986332160), (15, u "K1"), (0, u "D"), (1, u "B"), (0, u "K3")] 11

def k3m0 : Method := { name := "<init>", desc := "()V", sig := { parameters := [], returnType := none }, accessFlags := 2, code := none }
def k3c1 : Code := { maxStack := 8, maxLocals := 3, code := prog_13_method_4_code, exceptionTable := #[], attributes := #[] }
def k3m1 : Method := { name := "lengthNorm", desc := "(ID)D", sig := { parameters := [.int, .double], returnType := some .double }, accessFlags := 9, code := some k3c1 }
/-- com/example/brigid/brigid/search/Okapi -/
def k3 : Class := { plain "com/example/brigid/brigid/search/Okapi" (some 0) with
  accessFlags := 49
  interfaces := #[]
  cf := some (fileOf pool3 8 #[] #[{ accessFlags := 2, nameIndex := 5, descriptorIndex := 6, attributes := #[] }, { accessFlags := 9, nameIndex := 11, descriptorIndex := 12, attributes := #[] }] 49 2 #[] #[{ accessFlags := 25, nameIndex := 38, descriptorIndex := 39, attributes := #[] }, { accessFlags := 25, nameIndex := 41, descriptorIndex := 39, attributes := #[] }, { accessFlags := 25, nameIndex := 42, descriptorIndex := 39, attributes := #[] }])
  fields := #[{ name := "K1", type := .double, accessFlags := 25, slot := 0, constantValue := 0 }, { name := "B", type := .double, accessFlags := 25, slot := 1, constantValue := 0 }, { name := "K3", type := .double, accessFlags := 25, slot := 2, constantValue := 0 }]
  methods := #[k3m0, k3m1]
  instanceTypes := #[]
  staticTypes := #[.double, .double, .double]
  resolved := Array.replicate 54 none
  statics := none }

def pool4 : Array CpInfo := pool [(1, u "java/lang/Cloneable"), (0, .class_ 1), (0, u "java/lang/Object"), (0, .class_ 3)] 3

/-- java/lang/Cloneable -/
def k4 : Class := { plain "java/lang/Cloneable" (some 0) with
  accessFlags := 1537
  interfaces := #[]
  cf := some (fileOf pool4 2 #[] #[] 1537 4 #[] #[])
  fields := #[]
  methods := #[]
  instanceTypes := #[]
  staticTypes := #[]
  resolved := Array.replicate 8 none
  statics := none }

def pool5 : Array CpInfo := pool [(1, u "java/io/Serializable"), (0, .class_ 1), (0, u "java/lang/Object"), (0, .class_ 3)] 3

/-- java/io/Serializable -/
def k5 : Class := { plain "java/io/Serializable" (some 0) with
  accessFlags := 1537
  interfaces := #[]
  cf := some (fileOf pool5 2 #[] #[] 1537 4 #[] #[])
  fields := #[]
  methods := #[]
  instanceTypes := #[]
  staticTypes := #[]
  resolved := Array.replicate 8 none
  statics := none }

/-- the primitive byte -/
def k6 : Class := { plain "byte" none with kind := .primitive 'B', accessFlags := 0x411 }
/-- [B -/
def k7 : Class := { plain "[B" (some 0) with kind := .array 6 .byte, interfaces := #[4, 5], accessFlags := 1041 }

/-- the primitive int -/
def k8 : Class := { plain "int" none with kind := .primitive 'I', accessFlags := 0x411 }
/-- [I -/
def k9 : Class := { plain "[I" (some 0) with kind := .array 8 .int, interfaces := #[4, 5], accessFlags := 1041 }

def heap : Heap := #[]
def classes : Array Class := #[k0, k1, k2, k3, k4, k5, k6, k7, k8, k9]
def interned : List (Array UInt16 × Addr) := []
def slotsUsed : Nat := 0
def theMethod : MethodId := ⟨1, 1⟩
def args0 : Array Value := #[.int 5, .int 3, .int 1, .int 2]
def aboutOver (below : List Frame) : State where
  vm := { classes := classes, interned := interned.toArray }
  heap := heap
  slotsUsed := slotsUsed
  threads := #[{ frames := .invoking theMethod args0 :: below }]
def below0 : List Frame := [.native { method := ⟨0, 0⟩, args := #[] }]
def about1 : State := aboutOver below0
def p0 : Program := .bare "" "" ""
def e0 : Env := launch0.env 0 0 0
theorem w_frames : about1.frames = Frame.invoking theMethod args0 :: below0 := rfl
set_option maxRecDepth 65536 in
theorem w_args : argsFit about1.vm theMethod args0 = true := by decide +kernel
set_option maxRecDepth 65536 in
theorem w_heap : heapFits about1 = true := by decide +kernel
set_option maxRecDepth 65536 in
theorem w_runnable : about1.curStatus? = some .runnable := by decide +kernel
set_option maxRecDepth 65536 in
theorem w_alone : about1.alone = true := by decide +kernel
set_option maxRecDepth 65536 in
theorem w_named : about1.methodNamed? x = some theMethod := by decide +kernel
set_option maxRecDepth 65536 in
theorem w_hears : about1.hears theMethod below0 = true := by decide +kernel
set_option maxRecDepth 65536 in
theorem w_ripe : about1.ripe theMethod args0 below0 = true := by decide +kernel
theorem w_running : about1.status = .running := rfl
set_option maxRecDepth 65536 in
theorem w_room : about1.hasRoom e0.platform room_1 = true :=
  launch0.hasRoom_least _ room_1 (by decide +kernel) (by decide +kernel) (by decide +kernel) (by decide +kernel) (by decide +kernel) (by decide +kernel)
theorem allAtoms_all (ts : List Jvm.Cond) (a : Array Jvm.Value) (st : Jvm.State) : (allAtoms ts).before a st = ts.all (fun c => c.before a st) := by
  induction ts with
  | nil => rfl
  | cons c t ih =>
    show (Jvm.Cond.and c (allAtoms t)).before a st = _
    rw [Jvm.Cond.before_and, ih, List.all_cons]
def words1 : List Jvm.Cond := Jvm.Cond.code x code maxLocals ret :: tables_1
/-- a 'code' word, met by the world's own term for the bytes: nothing is compared byte by byte -/
theorem code_word {y : MethodName} {bytes : ByteArray} {mx : Nat} {rt : Option FieldType} {a : Array Value} {s : State} {m : MethodId} {meth : Method} {c : Code} (h1 : s.methodNamed? y = some m) (h2 : s.vm.method? m = some meth) (h3 : meth.code = some c) (h4 : c.code = bytes)
    (h5 : (c.maxLocals == mx && c.exceptionTable.isEmpty && decide (c.maxStack ≤ mostOperands) && decide (meth.sig.returnType = rt) && !meth.locks && decide (parseMethodDescriptor y.desc = some meth.sig)) = true) : (Jvm.Cond.code y bytes mx rt).before a s = true := by
  simp only [Bool.and_eq_true, beq_iff_eq, Bool.not_eq_true', decide_eq_true_eq] at h5
  obtain ⟨⟨⟨⟨⟨g1, g2⟩, g3⟩, g4⟩, g5⟩, g6⟩ := h5
  simp [Cond.before, Cond.holds, Cond.value, h1, h2, h3, h4, g1, g2, g3, g4, g5, g6]
def isCode : Jvm.Cond → Bool
  | .code _ _ _ _ => true
  | _ => false
theorem all_split {L : List Jvm.Cond} {P : Jvm.Cond → Bool} (h1 : L.all (fun c => isCode c || P c) = true) (h2 : ∀ c ∈ L.filter isCode, P c = true) : L.all P = true := by
  refine List.all_eq_true.mpr fun c hc => ?_
  have h := List.all_eq_true.mp h1 c hc
  rcases Bool.eq_false_or_eq_true (isCode c) with hi | hi
  · exact h2 c (List.mem_filter.mpr ⟨hc, hi⟩)
  · simpa [hi] using h
set_option maxRecDepth 65536 in
theorem w_c0 : (Jvm.Cond.code x code maxLocals ret).before args0 about1 = true := code_word (m := ⟨1, 1⟩) (meth := k1m1) (c := k1c1) (by decide +kernel) rfl rfl rfl (by decide +kernel)
set_option maxRecDepth 65536 in
theorem w_c1 : (Jvm.Cond.code ({ cls := "java/lang/Math", name := "max", desc := "(II)I" } : Jvm.MethodName) jdk_29_method_65_code (2 : Nat) (Option.some Jvm.ClassFile.FieldType.int)).before args0 about1 = true := code_word (m := ⟨2, 1⟩) (meth := k2m1) (c := k2c1) (by decide +kernel) rfl rfl rfl (by decide +kernel)
set_option maxRecDepth 65536 in
theorem w_c2 : (Jvm.Cond.code ({ cls := "com/example/brigid/brigid/search/Okapi", name := "lengthNorm", desc := "(ID)D" } : Jvm.MethodName) prog_13_method_4_code (3 : Nat) (Option.some Jvm.ClassFile.FieldType.double)).before args0 about1 = true := code_word (m := ⟨3, 1⟩) (meth := k3m1) (c := k3c1) (by decide +kernel) rfl rfl rfl (by decide +kernel)
set_option maxRecDepth 65536 in
theorem w_c3 : (Jvm.Cond.code ({ cls := "java/lang/Math", name := "min", desc := "(II)I" } : Jvm.MethodName) jdk_29_method_69_code (2 : Nat) (Option.some Jvm.ClassFile.FieldType.int)).before args0 about1 = true := code_word (m := ⟨2, 2⟩) (meth := k2m2) (c := k2c2) (by decide +kernel) rfl rfl rfl (by decide +kernel)
def codes1 : List Jvm.Cond := [Jvm.Cond.code x code maxLocals ret, Jvm.Cond.code ({ cls := "java/lang/Math", name := "max", desc := "(II)I" } : Jvm.MethodName) jdk_29_method_65_code (2 : Nat) (Option.some Jvm.ClassFile.FieldType.int), Jvm.Cond.code ({ cls := "com/example/brigid/brigid/search/Okapi", name := "lengthNorm", desc := "(ID)D" } : Jvm.MethodName) prog_13_method_4_code (3 : Nat) (Option.some Jvm.ClassFile.FieldType.double), Jvm.Cond.code ({ cls := "java/lang/Math", name := "min", desc := "(II)I" } : Jvm.MethodName) jdk_29_method_69_code (2 : Nat) (Option.some Jvm.ClassFile.FieldType.int)]
set_option maxRecDepth 65536 in
theorem codes_eq : words1.filter isCode = codes1 := rfl
theorem w_codes : ∀ c ∈ words1.filter isCode, c.before args0 about1 = true := by
  rw [codes_eq]
  intro c hc
  simp only [codes1, List.mem_cons, List.not_mem_nil, or_false] at hc
  rcases hc with rfl | rfl | rfl | rfl
  · exact w_c0
  · exact w_c1
  · exact w_c2
  · exact w_c3
set_option maxRecDepth 65536 in
theorem w_t1 : words1.all (fun c => isCode c || c.before args0 about1) = true := by decide +kernel
theorem w_tables : (allAtoms (Jvm.Cond.code x code maxLocals ret :: tables_1)).before args0 about1 = true := by
  rw [allAtoms_all]
  show words1.all (fun c => c.before args0 about1) = true
  refine all_split ?_ w_codes
  rw [w_t1]
set_option maxRecDepth 65536 in
theorem w_case : (Jvm.Cond.and given_1 narrow_1).before args0 about1 = true := by decide +kernel
theorem w_applies : (headSpec (Jvm.Cond.code x code maxLocals ret :: tables_1) room_1).applies x e0.platform about1 = true :=
  (Spec.applies_iff w_frames).mpr ⟨w_running, w_runnable, w_alone, w_named, w_hears, w_ripe, w_room, w_tables⟩
theorem atStart : AtStart classFile x code maxLocals ret World_1 tables_1 room_1 Calls_1 rest_1 Pre_1 launch0 p0 e0 about1 theMethod args0 below0 :=
  ⟨lists_1, trivial, launch0.admits_env _ _ _, launch0.least_env, fairChoices_fair.cas, fairChoices_fair.clock, w_frames, w_args, w_heap, w_applies, trivial, trivial, w_case⟩
end start1
theorem witness_1 : WitnessClaimed_1 := ⟨start1.p0, start1.e0, start1.about1, start1.theMethod, start1.args0, start1.below0, start1.atStart⟩
end Jvm.Pilot.@@N@@
