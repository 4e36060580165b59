import JvmDerived
import JvmDerived.Pilot.@@N@@Statement
import JvmDerived.Pilot.@@N@@Code
set_option linter.unusedVariables false
set_option linter.unusedSimpArgs false
namespace Jvm.Pilot.@@N@@
open Jvm Jvm.ClassFile Sem Op Lib Jvm.Free Jvm.Stand Jvm.LawKit Jvm.RoadKit Bundle Jvm.Pilot.@@N@@.Jvm.D
section GoKit
theorem aN {a b : Addr} (h : a = b) : @Eq Nat a b := h
theorem aL {a : Addr} {n : Nat} (h : a < n) : @LT.lt Nat _ a n := h
theorem aM {a : Addr} {n : Nat} (h : n ≤ a) : @LE.le Nat _ n a := h
abbrev ush (x y : Int32) : Int32 := (x.toUInt32 >>> (y &&& 31).toUInt32).toInt32
abbrev ushL (x : Int64) (y : Int32) : Int64 := (x.toUInt64 >>> (y &&& 0x3f).toInt64.toUInt64).toInt64
/-! The walk's own calculus: a run that stands in a method's body, its heap told by two lists of entries (D: cells of its own, which it may write; S: cells that nobody writes), all else hidden. -/
abbrev Ob : Type := (String × List (String × String × String × Value)) ⊕ (FieldType × List Value)
abbrev Ent : Type := Addr × Ob
def KnO (Z : State) (h : Heap) (a : Addr) (C : String) (fs : List (String × String × String × Value)) : Prop :=
  Exa Z h a C ∧ (∀ f ∈ fs, Fld Z h a f.1 f.2.1 f.2.2.1 f.2.2.2) ∧ (fs.map fun f => Jvm.RoadKit.slotOf Z f.1 f.2.1 f.2.2.1).Nodup
/-- the one class whose arrays are read alone (what an array class lies over is not said of them) -/
def nstC : String := "com/example/gyro/gyro/webhook/EventType"
def KnA (Z : State) (h : Heap) (a : Addr) (ty : FieldType) (vs : List Value) : Prop :=
  ∃ c : Cell, Arr Z h a c ty ∧ c.slots = vs.toArray ∧ vs.length < 2147483648 ∧ (∀ v ∈ vs, fits ty v = true) ∧ ∀ C, ty = .object C → C ≠ nstC → Ovr Z c.cls C
def Kn (Z : State) (h : Heap) (x : Ent) : Prop :=
  match x.2 with
  | .inl o => KnO Z h x.1 o.1 o.2
  | .inr o => KnA Z h x.1 o.1 o.2
theorem KnO.keep {Z : State} {h h' : Heap} {a : Addr} {C : String} {fs : List (String × String × String × Value)} {ws : List Addr} (F : KnO Z h a C fs) (K : Keep h h' ws) (q : a ∉ ws) : KnO Z h' a C fs :=
  ⟨F.1.keep K, fun f hf => (F.2.1 f hf).keep K q, F.2.2⟩
theorem KnA.keep {Z : State} {h h' : Heap} {a : Addr} {ty : FieldType} {vs : List Value} {ws : List Addr} (F : KnA Z h a ty vs) (K : Keep h h' ws) (q : a ∉ ws) : KnA Z h' a ty vs := by
  obtain ⟨c, A, r⟩ := F
  exact ⟨c, ⟨K.2.1 a c A.1 q, A.2⟩, r⟩
theorem Kn.keep {Z : State} {h h' : Heap} {x : Ent} {ws : List Addr} (F : Kn Z h x) (K : Keep h h' ws) (q : x.1 ∉ ws) : Kn Z h' x := by
  obtain ⟨a, o | o⟩ := x
  · exact KnO.keep (show KnO Z h a o.1 o.2 from F) K q
  · exact KnA.keep (show KnA Z h a o.1 o.2 from F) K q
theorem Kn.lt {Z : State} {h : Heap} {x : Ent} (F : Kn Z h x) : x.1 < h.size := by
  obtain ⟨a, o | o⟩ := x
  · exact (show KnO Z h a o.1 o.2 from F).1.lt
  · obtain ⟨c, A, -⟩ := (show KnA Z h a o.1 o.2 from F)
    exact A.lt
theorem Kn.ext {Z : State} {h h' : Heap} {x : Ent} (F : Kn Z h x) (E : Ext h h') : Kn Z h' x := F.keep ((Keep.refl h []).ext E) (fun q => nomatch q)
def HH (Z : State) (h : Heap) (D S : List Ent) : Prop :=
  (∀ x ∈ D, Kn Z h x) ∧ (∀ x ∈ S, Kn Z h x) ∧ (D.map Prod.fst).Nodup ∧ ∀ x ∈ S, x.1 ∉ D.map Prod.fst
def In (x : Ent) (D S : List Ent) : Prop := x ∈ D ∨ x ∈ S
theorem inD {x : Ent} {D S : List Ent} {i : Nat} (h : D[i]? = some x) : In x D S := Or.inl (List.mem_of_getElem? h)
theorem inS {x : Ent} {D S : List Ent} {i : Nat} (h : S[i]? = some x) : In x D S := Or.inr (List.mem_of_getElem? h)
theorem HH.at {Z : State} {h : Heap} {D S : List Ent} {x : Ent} (H : HH Z h D S) (q : In x D S) : Kn Z h x := q.elim (H.1 x) (H.2.1 x)
def Inv (Z : State) (a0 : Array Value) (EL : List (String × Nat)) (b : Bool) (n0 : Nat) (W0 : List Addr) (fr : Addr → Prop) (D S : List Ent) (s : State) (vm0 : Vm) (h : Heap) (locs : List Loc) : Prop :=
  (EW Z a0 EL ∧ Z.Warmed39 vm0 ∧ (∃ k0, s.Since vm0 k0 ∧ k0 ≤ h.size) ∧ (b = false → s.WarmedH vm0)) ∧
  (CHr Z EL s.vm s.heap vm0 h ∧ Fr n0 locs ∧ Old Z n0 h ∧ Keep s.heap h W0) ∧
  HH Z h D S ∧
  (∀ x ∈ D, n0 ≤ x.1 ∧ Safe Z EL vm0 h x.1 ∧ ¬ fr x.1 ∧ (x.1 ∈ W0 ∨ s.heap.size ≤ x.1)) ∧ (∀ x ∈ S, ¬ fr x.1) ∧ (∀ y, fr y → n0 ≤ y ∧ Safe Z EL vm0 h y ∧ y < s.heap.size)
def PreC (Z : State) (a0 : Array Value) (EL : List (String × Nat)) (n0 : Nat) (fr : Addr → Prop) (D S : List Ent) (U : State) : Prop :=
  EW Z a0 EL ∧ Z.Warmed39 U.vm ∧ CHv Z EL U.vm U.heap ∧ Old Z n0 U.heap ∧ HH Z U.heap D S ∧ (∀ x ∈ D, n0 ≤ x.1 ∧ Safe Z EL U.vm U.heap x.1 ∧ ¬ fr x.1) ∧ (∀ x ∈ S, ¬ fr x.1) ∧ (∀ y, fr y → n0 ≤ y ∧ Safe Z EL U.vm U.heap y ∧ y < U.heap.size)
def PostC (Z : State) (EL : List (String × Nat)) (b : Bool) (n0 : Nat) (W0 : List Addr) (fr : Addr → Prop) (Q : Option Value → List Ent → List Ent → Prop) (U U' : State) (v : Option Value) (L : List Loc) : Prop :=
  ∃ D' S', Q v D' S' ∧ HH Z U'.heap D' S' ∧ (∀ x ∈ D', n0 ≤ x.1 ∧ Safe Z EL U'.vm U'.heap x.1 ∧ ¬ fr x.1 ∧ (x.1 ∈ W0 ∨ U.heap.size ≤ x.1)) ∧ (∀ x ∈ S', ¬ fr x.1) ∧
    Keep U.heap U'.heap W0 ∧ Fr n0 L ∧ Old Z n0 U'.heap ∧ CHr Z EL U.vm U.heap U'.vm U'.heap ∧ (b = false → U.WarmedH U'.vm)
def Met (l : Launch) (Z : State) (a0 : Array Value) (EL : List (String × Nat)) (b : Bool) (n0 : Nat) (y : MethodName) (bytes : ByteArray) (maxL : Nat) (ret : Option FieldType) (ws : List Jvm.Cond) (rm : Room) (as' : List Value) (D S : List Ent) (Q : Option Value → List Ent → List Ent → Prop) : Prop :=
  ∀ fr : Addr → Prop, MetFree l y (head1 (Jvm.Cond.code y bytes maxL ret :: ws) rm) (fun a U => a = as'.toArray ∧ PreC Z a0 EL n0 fr D S U) (fun _ _ _ _ _ => True)
    (fun _ U o U' => ∃ v L, o = .returned v ∧ PostC Z EL b n0 (D.map Prod.fst) fr Q U U' v L ∧ ReturnedEndW U o U' L rm.cells rm.slots)
def Sst (own : String) (code : ByteArray) (maxL : Nat) (ret : Option FieldType) (nm : String) (p : Program) (m : MethodId) (meth : Method) (c : Code) (vm0 : Vm) : Prop :=
  p.tables.exec = Jvm.exec ∧ c.code = code ∧ c.maxLocals = maxL ∧ meth.sig.returnType = ret ∧ meth.name = nm ∧ meth.locks = false ∧ vm0.findClass own = some m.cls
def Go (l : Launch) (Z : State) (a0 : Array Value) (EL : List (String × Nat)) (b : Bool) (n0 : Nat) (own : String) (code : ByteArray) (maxL : Nat) (ret : Option FieldType) (nm : String) (R : Room) (W0 : List Addr) (Q : Option Value → List Ent → List Ent → Prop)
    (D S : List Ent) (cells slots pc : Nat) (Ls : Array Slot) (st : List Value) : Prop :=
  ∀ (fr : Addr → Prop) (p : Program) (e : Env) (s : State) (m : MethodId) (args : Array Value) (below : List Frame) (meth : Method) (c : Code) (vm0 : Vm) (T : State) (locs : List Loc),
    Sst own code maxL ret nm p m meth c vm0 → Stand p l e R (s.setVm vm0) m args below meth c T locs cells slots → Inv Z a0 EL b n0 W0 fr D S s vm0 T.heap locs →
    ∃ (t : State) (v : Option Value), Steps p.tables e below (T.setTop (mkF m pc Ls st)) t ∧ t.status = .running ∧ Ended t below (.returned v) ∧ ∃ L, PostC Z EL b n0 W0 fr Q s t v L ∧ ReturnedEndW s (.returned v) t L R.cells R.slots
def Dx (code : ByteArray) (pc : Nat) (i : Instr) (n pc' : Nat) : Prop := decode code pc = .ok (i, n) ∧ pc + n = pc'
variable {l : Launch} {Z : State} {a0 : Array Value} {EL : List (String × Nat)} {b : Bool} {n0 : Nat} {own : String} {code : ByteArray} {maxL : Nat} {ret : Option FieldType} {nm : String} {R : Room} {W0 : List Addr} {Q : Option Value → List Ent → List Ent → Prop}
  {D D' S S' : List Ent} {cells slots pc pc' : Nat} {Ls Ls' : Array Slot} {st st' rest : List Value}
theorem Met.of_go {y : MethodName} {bytes : ByteArray} {ws : List Jvm.Cond} {rm : Room} {as' : List Value} (hpf : plainFor y = true) (hL : ∀ m, entryFrame m as'.toArray maxL = mkF m 0 Ls [])
    (G : Go l Z a0 EL b n0 own bytes maxL ret nm rm (D.map Prod.fst) Q D S 0 0 0 Ls []) (ho : y.cls = own := by rfl) (hn : y.name = nm := by rfl) : Met l Z a0 EL b n0 y bytes maxL ret ws rm as' D S Q := by
  subst ho hn
  intro fr
  refine MetFree.of_bodySF hpf hisR ?_
  intro p e s m args below meth c s₁ Bd hml hP hK
  obtain ⟨rfl, q1, q2, q3, q4, q5, q6, q7, q8⟩ := hP
  have X0 : Stand p l e rm s m as'.toArray below meth c s₁ [] 0 0 := Stand.of_body Bd
  have e0 : s₁.heap = s.heap := by rw [Bd.state]; rfl
  obtain ⟨t, v, st, h1, h2, L, hp, hr⟩ := G fr p e s m _ below meth c s.vm s₁ [] ⟨Bd.exec, Bd.bytes, hml, Bd.returns, (name_of_methodNamed Bd.named Bd.method).1, Bd.notSynchronized, findClass_of_methodNamed Bd.named⟩ X0
    (by
      rw [e0]
      exact ⟨⟨q1, q2, ⟨s.heap.size, (State.WarmedH.refl s).since _, Nat.le_refl _⟩, fun _ => State.WarmedH.refl s⟩, ⟨CHr.refl q3, Fr.nil _, q4, Keep.refl _ _⟩, q5, fun x hx => ⟨(q6 x hx).1, (q6 x hx).2.1, (q6 x hx).2.2, Or.inl (List.mem_map.mpr ⟨x, hx, rfl⟩)⟩, q7, q8⟩)
  exact ⟨t, _, castTop (hL m) st, h1, h2, v, L, rfl, hp, hr⟩
/-- a step that leaves the heap as it is -/
theorem Go.same (H : ∀ {p : Program} {e : Env} {s : State} {m : MethodId} {args : Array Value} {below : List Frame} {meth : Method} {c : Code} {vm0 : Vm} {T : State} {locs : List Loc}, Sst own code maxL ret nm p m meth c vm0 → Stand p l e R (s.setVm vm0) m args below meth c T locs cells slots → Z.Warmed39 (s.setVm vm0).vm → Old Z n0 T.heap → HH Z T.heap D S →
      ∃ T', Stand p l e R (s.setVm vm0) m args below meth c T' locs cells slots ∧ T'.heap = T.heap ∧ ∀ t, Steps p.tables e below (T'.setTop (mkF m pc' Ls' st')) t → Steps p.tables e below (T.setTop (mkF m pc Ls st)) t)
    (G : Go l Z a0 EL b n0 own code maxL ret nm R W0 Q D S cells slots pc' Ls' st') : Go l Z a0 EL b n0 own code maxL ret nm R W0 Q D S cells slots pc Ls st := by
  intro fr p e s m args below meth c vm0 T locs hs X I
  obtain ⟨T', X', e', k⟩ := H hs X I.1.2.1 I.2.1.2.2.1 I.2.2.1
  obtain ⟨t, v, k', r⟩ := G fr p e s m args below meth c vm0 T' locs hs X' (by rw [e']; exact I)
  exact ⟨t, v, k t k', r⟩
/-- a step that reads frames alone -/
theorem Go.plain (H : ∀ {p : Program} {e : Env} {m : MethodId} {c : Code} {below : List Frame} {T : State}, p.tables.exec = Jvm.exec → c.code = code → At T m c below → ∀ t, Steps p.tables e below (T.setTop (mkF m pc' Ls' st')) t → Steps p.tables e below (T.setTop (mkF m pc Ls st)) t)
    (G : Go l Z a0 EL b n0 own code maxL ret nm R W0 Q D S cells slots pc' Ls' st') : Go l Z a0 EL b n0 own code maxL ret nm R W0 Q D S cells slots pc Ls st :=
  Go.same (fun hs X _ _ _ => ⟨_, X, rfl, H hs.1 hs.2.1 X.here⟩) G
theorem Go.more {cells' slots' : Nat} (hc : cells ≤ cells') (hs : slots ≤ slots') (G : Go l Z a0 EL b n0 own code maxL ret nm R W0 Q D S cells' slots' pc Ls st) : Go l Z a0 EL b n0 own code maxL ret nm R W0 Q D S cells slots pc Ls st := by
  intro fr p e s m args below meth c vm0 T locs h X I
  exact G fr p e s m args below meth c vm0 T locs h (X.mono hc hs) I
/-- less is known -/
theorem HH.sub {h : Heap} (H : HH Z h D S) (h1 : ∀ x ∈ D', x ∈ D) (h2 : (D'.map Prod.fst).Nodup) (h3 : ∀ x ∈ S', x ∈ S ∨ (x ∈ D ∧ x.1 ∉ D'.map Prod.fst)) : HH Z h D' S' := by
  refine ⟨fun x hx => H.1 x (h1 x hx), fun x hx => ?_, h2, fun x hx q => ?_⟩
  · rcases h3 x hx with q | ⟨q, -⟩
    · exact H.2.1 x q
    · exact H.1 x q
  · rcases h3 x hx with r | ⟨-, r⟩
    · obtain ⟨y, hy, e⟩ := List.mem_map.mp q
      exact H.2.2.2 x r (List.mem_map.mpr ⟨y, h1 y hy, e⟩)
    · exact r q
theorem nodup_pick {α : Type} (dv : α) {L : List α} (hn : L.Nodup) {idx : List Nat} (h1 : idx.Nodup) (h2 : ∀ i ∈ idx, i < L.length) : (idx.map fun i => L.getD i dv).Nodup := by
  induction idx with
  | nil => simp
  | cons i r ih =>
    rw [List.map_cons, List.nodup_cons]
    rw [List.nodup_cons] at h1
    refine ⟨fun q => ?_, ih h1.2 fun j hj => h2 j (List.mem_cons_of_mem _ hj)⟩
    obtain ⟨j, hj, e⟩ := List.mem_map.mp q
    have hi := h2 i (List.mem_cons_self ..)
    have hj' := h2 j (List.mem_cons_of_mem _ hj)
    have : j = i := by
      refine (List.getElem?_inj hj' hn).mp ?_
      rw [List.getElem?_eq_getElem hj', List.getElem?_eq_getElem hi]
      simpa [List.getD, List.getElem?_eq_getElem hj', List.getElem?_eq_getElem hi] using e
    exact h1.1 (this ▸ hj)
def dE : Ent := (0, .inr (.int, []))
def pick (D : List Ent) (idx : List Nat) : List Ent := idx.map fun i => D.getD i dE
theorem pick_mem {D : List Ent} {idx : List Nat} (h2 : ∀ i ∈ idx, i < D.length) : ∀ x ∈ pick D idx, x ∈ D := fun x hx => by
  obtain ⟨i, hi, rfl⟩ := List.mem_map.mp hx
  have := h2 i hi
  simp [List.getD, List.getElem?_eq_getElem this]
theorem pick_nodup {D : List Ent} (hn : (D.map Prod.fst).Nodup) {idx : List Nat} (h1 : idx.Nodup) (h2 : ∀ i ∈ idx, i < D.length) : ((pick D idx).map Prod.fst).Nodup := by
  have e : (pick D idx).map Prod.fst = idx.map fun i => (D.map Prod.fst).getD i 0 := by
    rw [pick, List.map_map]
    refine List.map_congr_left fun i hi => ?_
    have := h2 i hi
    simp [List.getD, List.getElem?_eq_getElem this]
  rw [e]
  exact nodup_pick 0 hn h1 (by simpa using h2)
/-- forget, order anew, freeze -/
theorem Go.sub (idx : List Nat) (h1 : idx.Nodup) (h2' : (idx.all fun i => Nat.blt i D.length) = true) (hD : D' = pick D idx) (h3 : ∀ x ∈ S', x ∈ S ∨ (x ∈ D ∧ x.1 ∉ D'.map Prod.fst))
    (G : Go l Z a0 EL b n0 own code maxL ret nm R W0 Q D' S' cells slots pc Ls st) : Go l Z a0 EL b n0 own code maxL ret nm R W0 Q D S cells slots pc Ls st := by
  have h2 : ∀ i ∈ idx, i < D.length := fun i hi => Nat.blt_eq.mp (List.all_eq_true.mp h2' i hi)
  intro fr p e s m args below meth c vm0 T locs h X I
  obtain ⟨i1, i2, i3, i4, i5, i6⟩ := I
  have hm : ∀ x ∈ D', x ∈ D := by rw [hD]; exact pick_mem h2
  refine G fr p e s m args below meth c vm0 T locs h X ⟨i1, i2, i3.sub hm (by rw [hD]; exact pick_nodup i3.2.2.1 h1 h2) h3, fun x hx => i4 x (hm x hx), fun x hx => ?_, i6⟩
  rcases h3 x hx with q | ⟨q, -⟩
  · exact i5 x q
  · exact (i4 x q).2.2.1
/-- forget and order anew, D alone -/
theorem Go.perm (idx : List Nat) (h1 : idx.Nodup) (h2 : (idx.all fun i => Nat.blt i D.length) = true) (hD : D' = pick D idx)
    (G : Go l Z a0 EL b n0 own code maxL ret nm R W0 Q D' S cells slots pc Ls st) : Go l Z a0 EL b n0 own code maxL ret nm R W0 Q D S cells slots pc Ls st :=
  Go.sub idx h1 h2 hD (fun x hx => Or.inl hx) G
/-- two own cells are two -/
theorem Go.ne (i j : Nat) {x y : Ent} (hi : D[i]? = some x) (hj : D[j]? = some y) (hij : i ≠ j) (G : x.1 ≠ y.1 → Go l Z a0 EL b n0 own code maxL ret nm R W0 Q D S cells slots pc Ls st) : Go l Z a0 EL b n0 own code maxL ret nm R W0 Q D S cells slots pc Ls st := by
  intro fr p e s m args below meth c vm0 T locs h X I
  refine G (fun q => hij ?_) fr p e s m args below meth c vm0 T locs h X I
  have hn := I.2.2.1.2.2.1
  have li : i < (D.map Prod.fst).length := by simpa using (List.getElem?_eq_some_iff.mp hi).1
  refine (List.getElem?_inj li hn).mp ?_
  simp [hi, hj, q]
/-- an own cell and a frozen one are two -/
theorem Go.neS {x y : Ent} (hi : x ∈ D) (hj : y ∈ S) (G : x.1 ≠ y.1 → Go l Z a0 EL b n0 own code maxL ret nm R W0 Q D S cells slots pc Ls st) : Go l Z a0 EL b n0 own code maxL ret nm R W0 Q D S cells slots pc Ls st := by
  intro fr p e s m args below meth c vm0 T locs h X I
  exact G (fun q => I.2.2.1.2.2.2 y hj (List.mem_map.mpr ⟨x, hi, q⟩)) fr p e s m args below meth c vm0 T locs h X I
/-- a cell of the start's heap, taken up as frozen -/
theorem Go.old {x : Ent} (F : Kn Z Z.heap x) (G : Go l Z a0 EL b n0 own code maxL ret nm R W0 Q D (x :: S) cells slots pc Ls st) : Go l Z a0 EL b n0 own code maxL ret nm R W0 Q D S cells slots pc Ls st := by
  intro fr p e s m args below meth c vm0 T locs h X I
  obtain ⟨i1, i2, i3, i4, i5, i6⟩ := I
  have hO := i2.2.2.1
  have hlt : x.1 < n0 := hO.1 ▸ F.lt
  refine G fr p e s m args below meth c vm0 T locs h X ⟨i1, i2, ⟨i3.1, fun y hy => ?_, i3.2.2.1, fun y hy => ?_⟩, i4, fun y hy => ?_, i6⟩
  · rcases List.mem_cons.mp hy with rfl | hy
    · exact F.ext hO.2
    · exact i3.2.1 y hy
  · rcases List.mem_cons.mp hy with rfl | hy
    · intro q
      obtain ⟨z, hz, e⟩ := List.mem_map.mp q
      exact absurd (Nat.lt_of_lt_of_le hlt (i4 z hz).1) (by rw [e]; exact Nat.lt_irrefl _)
    · exact i3.2.2.2 y hy
  · rcases List.mem_cons.mp hy with rfl | hy
    · intro q
      exact absurd (Nat.lt_of_lt_of_le hlt (i6 _ q).1) (Nat.lt_irrefl _)
    · exact i5 y hy
/-! the plain steps -/
theorem Go.aloadN {k : Fin 4} {v : Value} (hd : Dx code pc (.aload_n k) 1 pc') (hl : Ls[k.val]? = some (.val v)) (hv : v.isRef = true := by rfl) (G : Go l Z a0 EL b n0 own code maxL ret nm R W0 Q D S cells slots pc' Ls (v :: st)) : Go l Z a0 EL b n0 own code maxL ret nm R W0 Q D S cells slots pc Ls (st) := by
  obtain ⟨h1, rfl⟩ := hd
  exact Go.plain (fun hx hc h t k => XS.aloadN h hx rfl (hb hc h1) hl hv k) G
theorem Go.aload {k : Nat} {v : Value} (hd : Dx code pc (.aload k) 2 pc') (hl : Ls[k]? = some (.val v)) (hv : v.isRef = true := by rfl) (G : Go l Z a0 EL b n0 own code maxL ret nm R W0 Q D S cells slots pc' Ls (v :: st)) : Go l Z a0 EL b n0 own code maxL ret nm R W0 Q D S cells slots pc Ls (st) := by
  obtain ⟨h1, rfl⟩ := hd
  exact Go.plain (fun hx hc h t k => XS.aload h hx rfl (hb hc h1) hl hv k) G
theorem Go.iloadN {k : Fin 4} {v : Int32} (hd : Dx code pc (.iload_n k) 1 pc') (hl : Ls[k.val]? = some (.val (.int v))) (G : Go l Z a0 EL b n0 own code maxL ret nm R W0 Q D S cells slots pc' Ls (.int v :: st)) : Go l Z a0 EL b n0 own code maxL ret nm R W0 Q D S cells slots pc Ls (st) := by
  obtain ⟨h1, rfl⟩ := hd
  exact Go.plain (fun hx hc h t k => XS.iloadN h hx rfl (hb hc h1) hl k) G
theorem Go.iload {k : Nat} {v : Int32} (hd : Dx code pc (.iload k) 2 pc') (hl : Ls[k]? = some (.val (.int v))) (G : Go l Z a0 EL b n0 own code maxL ret nm R W0 Q D S cells slots pc' Ls (.int v :: st)) : Go l Z a0 EL b n0 own code maxL ret nm R W0 Q D S cells slots pc Ls (st) := by
  obtain ⟨h1, rfl⟩ := hd
  exact Go.plain (fun hx hc h t k => XS.iload h hx rfl (hb hc h1) hl k) G
theorem Go.lloadN {k : Fin 4} {v : Int64} (hd : Dx code pc (.lload_n k) 1 pc') (hl : Ls[k.val]? = some (.val (.long v))) (G : Go l Z a0 EL b n0 own code maxL ret nm R W0 Q D S cells slots pc' Ls (.long v :: st)) : Go l Z a0 EL b n0 own code maxL ret nm R W0 Q D S cells slots pc Ls (st) := by
  obtain ⟨h1, rfl⟩ := hd
  exact Go.plain (fun hx hc h t k => XS.lloadN h hx rfl (hb hc h1) hl k) G
theorem Go.lload {k : Nat} {v : Int64} (hd : Dx code pc (.lload k) 2 pc') (hl : Ls[k]? = some (.val (.long v))) (G : Go l Z a0 EL b n0 own code maxL ret nm R W0 Q D S cells slots pc' Ls (.long v :: st)) : Go l Z a0 EL b n0 own code maxL ret nm R W0 Q D S cells slots pc Ls (st) := by
  obtain ⟨h1, rfl⟩ := hd
  exact Go.plain (fun hx hc h t k => XS.lload h hx rfl (hb hc h1) hl k) G
theorem Go.iconst {i : Int} {v : Int32} (hd : Dx code pc (.iconst i) 1 pc') (hv : Int32.ofInt i = v) (G : Go l Z a0 EL b n0 own code maxL ret nm R W0 Q D S cells slots pc' Ls (.int v :: st)) : Go l Z a0 EL b n0 own code maxL ret nm R W0 Q D S cells slots pc Ls (st) := by
  obtain ⟨h1, rfl⟩ := hd
  exact Go.plain (fun hx hc h t k => XS.iconst h hx rfl (hb hc h1) (by rw [hv]; exact k)) G
theorem Go.bipush {i : Int} {v : Int32} (hd : Dx code pc (.bipush i) 2 pc') (hv : (Int8.ofInt i).toInt32 = v) (G : Go l Z a0 EL b n0 own code maxL ret nm R W0 Q D S cells slots pc' Ls (.int v :: st)) : Go l Z a0 EL b n0 own code maxL ret nm R W0 Q D S cells slots pc Ls (st) := by
  obtain ⟨h1, rfl⟩ := hd
  exact Go.plain (fun hx hc h t k => XS.bipush h hx rfl (hb hc h1) (by rw [hv]; exact k)) G
theorem Go.sipush {i : Int} {v : Int32} (hd : Dx code pc (.sipush i) 3 pc') (hv : (Int16.ofInt i).toInt32 = v) (G : Go l Z a0 EL b n0 own code maxL ret nm R W0 Q D S cells slots pc' Ls (.int v :: st)) : Go l Z a0 EL b n0 own code maxL ret nm R W0 Q D S cells slots pc Ls (st) := by
  obtain ⟨h1, rfl⟩ := hd
  exact Go.plain (fun hx hc h t k => XT.sipushV h hx rfl v (hb hc h1) hv k) G
theorem Go.lconst {i : Fin 2} {v : Int64} (hd : Dx code pc (.lconst i) 1 pc') (hv : Int64.ofNat i = v) (G : Go l Z a0 EL b n0 own code maxL ret nm R W0 Q D S cells slots pc' Ls (.long v :: st)) : Go l Z a0 EL b n0 own code maxL ret nm R W0 Q D S cells slots pc Ls (st) := by
  obtain ⟨h1, rfl⟩ := hd
  exact Go.plain (fun hx hc h t k => XT.lconstV h hx rfl v (hb hc h1) hv k) G
theorem Go.aconstNull (hd : Dx code pc (.aconst_null) 1 pc') (G : Go l Z a0 EL b n0 own code maxL ret nm R W0 Q D S cells slots pc' Ls (.null :: st)) : Go l Z a0 EL b n0 own code maxL ret nm R W0 Q D S cells slots pc Ls (st) := by
  obtain ⟨h1, rfl⟩ := hd
  exact Go.plain (fun hx hc h t k => XS.aconstNull h hx rfl (hb hc h1) k) G
theorem Go.istoreN {k : Fin 4} {x : Int32} (hd : Dx code pc (.istore_n k) 1 pc') (hl : storeLocals Ls k.val (.int x) = some Ls') (G : Go l Z a0 EL b n0 own code maxL ret nm R W0 Q D S cells slots pc' Ls' (rest)) : Go l Z a0 EL b n0 own code maxL ret nm R W0 Q D S cells slots pc Ls (.int x :: rest) := by
  obtain ⟨h1, rfl⟩ := hd
  exact Go.plain (fun hx hc h t k => XS.istoreN h hx rfl (hb hc h1) rfl hl k) G
theorem Go.istore {k : Nat} {x : Int32} (hd : Dx code pc (.istore k) 2 pc') (hl : storeLocals Ls k (.int x) = some Ls') (G : Go l Z a0 EL b n0 own code maxL ret nm R W0 Q D S cells slots pc' Ls' (rest)) : Go l Z a0 EL b n0 own code maxL ret nm R W0 Q D S cells slots pc Ls (.int x :: rest) := by
  obtain ⟨h1, rfl⟩ := hd
  exact Go.plain (fun hx hc h t k => XS.istore h hx rfl (hb hc h1) rfl hl k) G
theorem Go.lstoreN {k : Fin 4} {x : Int64} (hd : Dx code pc (.lstore_n k) 1 pc') (hl : storeLocals Ls k.val (.long x) = some Ls') (G : Go l Z a0 EL b n0 own code maxL ret nm R W0 Q D S cells slots pc' Ls' (rest)) : Go l Z a0 EL b n0 own code maxL ret nm R W0 Q D S cells slots pc Ls (.long x :: rest) := by
  obtain ⟨h1, rfl⟩ := hd
  exact Go.plain (fun hx hc h t k => XS.lstoreN h hx rfl (hb hc h1) rfl hl k) G
theorem Go.lstore {k : Nat} {x : Int64} (hd : Dx code pc (.lstore k) 2 pc') (hl : storeLocals Ls k (.long x) = some Ls') (G : Go l Z a0 EL b n0 own code maxL ret nm R W0 Q D S cells slots pc' Ls' (rest)) : Go l Z a0 EL b n0 own code maxL ret nm R W0 Q D S cells slots pc Ls (.long x :: rest) := by
  obtain ⟨h1, rfl⟩ := hd
  exact Go.plain (fun hx hc h t k => XS.lstore h hx rfl (hb hc h1) rfl hl k) G
theorem Go.astoreN {k : Fin 4} {x : Value} (hd : Dx code pc (.astore_n k) 1 pc') (hl : storeLocals Ls k.val x = some Ls') (hv : x.isRef = true := by rfl) (G : Go l Z a0 EL b n0 own code maxL ret nm R W0 Q D S cells slots pc' Ls' (rest)) : Go l Z a0 EL b n0 own code maxL ret nm R W0 Q D S cells slots pc Ls (x :: rest) := by
  obtain ⟨h1, rfl⟩ := hd
  exact Go.plain (fun hx hc h t k => XS.astoreN h hx rfl (hb hc h1) rfl hv hl k) G
theorem Go.astore {k : Nat} {x : Value} (hd : Dx code pc (.astore k) 2 pc') (hl : storeLocals Ls k x = some Ls') (hv : x.isRef = true := by rfl) (G : Go l Z a0 EL b n0 own code maxL ret nm R W0 Q D S cells slots pc' Ls' (rest)) : Go l Z a0 EL b n0 own code maxL ret nm R W0 Q D S cells slots pc Ls (x :: rest) := by
  obtain ⟨h1, rfl⟩ := hd
  exact Go.plain (fun hx hc h t k => XS.astore h hx rfl (hb hc h1) rfl hv hl k) G
theorem Go.iinc {i : Nat} {cst : Int} {x v z : Int32} (hd : Dx code pc (.iinc i cst) 3 pc') (hl : Ls[i]? = some (.val (.int x))) (hv : Int32.ofInt cst = v) (hz : x + v = z) (hl' : storeLocals Ls i (.int z) = some Ls') (G : Go l Z a0 EL b n0 own code maxL ret nm R W0 Q D S cells slots pc' Ls' (st)) : Go l Z a0 EL b n0 own code maxL ret nm R W0 Q D S cells slots pc Ls (st) := by
  obtain ⟨h1, rfl⟩ := hd
  subst hz
  exact Go.plain (fun hx hc h t k => XT.iincV h hx rfl v (hb hc h1) hv hl hl' k) G
theorem Go.iadd {x y z : Int32} (hd : Dx code pc (.iadd) 1 pc') (hz : x + y = z) (G : Go l Z a0 EL b n0 own code maxL ret nm R W0 Q D S cells slots pc' Ls (.int z :: rest)) : Go l Z a0 EL b n0 own code maxL ret nm R W0 Q D S cells slots pc Ls (.int y :: .int x :: rest) := by
  obtain ⟨h1, rfl⟩ := hd
  subst hz
  exact Go.plain (fun hx hc h t k => XS.iadd h hx rfl (hb hc h1) rfl k) G
theorem Go.isub {x y z : Int32} (hd : Dx code pc (.isub) 1 pc') (hz : x - y = z) (G : Go l Z a0 EL b n0 own code maxL ret nm R W0 Q D S cells slots pc' Ls (.int z :: rest)) : Go l Z a0 EL b n0 own code maxL ret nm R W0 Q D S cells slots pc Ls (.int y :: .int x :: rest) := by
  obtain ⟨h1, rfl⟩ := hd
  subst hz
  exact Go.plain (fun hx hc h t k => XS.isub h hx rfl (hb hc h1) rfl k) G
theorem Go.imul {x y z : Int32} (hd : Dx code pc (.imul) 1 pc') (hz : x * y = z) (G : Go l Z a0 EL b n0 own code maxL ret nm R W0 Q D S cells slots pc' Ls (.int z :: rest)) : Go l Z a0 EL b n0 own code maxL ret nm R W0 Q D S cells slots pc Ls (.int y :: .int x :: rest) := by
  obtain ⟨h1, rfl⟩ := hd
  subst hz
  exact Go.plain (fun hx hc h t k => XS.imul h hx rfl (hb hc h1) rfl k) G
theorem Go.iand {x y z : Int32} (hd : Dx code pc (.iand) 1 pc') (hz : x &&& y = z) (G : Go l Z a0 EL b n0 own code maxL ret nm R W0 Q D S cells slots pc' Ls (.int z :: rest)) : Go l Z a0 EL b n0 own code maxL ret nm R W0 Q D S cells slots pc Ls (.int y :: .int x :: rest) := by
  obtain ⟨h1, rfl⟩ := hd
  subst hz
  exact Go.plain (fun hx hc h t k => XS.iand h hx rfl (hb hc h1) rfl k) G
theorem Go.ior {x y z : Int32} (hd : Dx code pc (.ior) 1 pc') (hz : x ||| y = z) (G : Go l Z a0 EL b n0 own code maxL ret nm R W0 Q D S cells slots pc' Ls (.int z :: rest)) : Go l Z a0 EL b n0 own code maxL ret nm R W0 Q D S cells slots pc Ls (.int y :: .int x :: rest) := by
  obtain ⟨h1, rfl⟩ := hd
  subst hz
  exact Go.plain (fun hx hc h t k => XS.ior h hx rfl (hb hc h1) rfl k) G
theorem Go.ixor {x y z : Int32} (hd : Dx code pc (.ixor) 1 pc') (hz : x ^^^ y = z) (G : Go l Z a0 EL b n0 own code maxL ret nm R W0 Q D S cells slots pc' Ls (.int z :: rest)) : Go l Z a0 EL b n0 own code maxL ret nm R W0 Q D S cells slots pc Ls (.int y :: .int x :: rest) := by
  obtain ⟨h1, rfl⟩ := hd
  subst hz
  exact Go.plain (fun hx hc h t k => XS.ixor h hx rfl (hb hc h1) rfl k) G
theorem Go.ishl {x y z : Int32} (hd : Dx code pc (.ishl) 1 pc') (hz : x <<< (y &&& 31) = z) (G : Go l Z a0 EL b n0 own code maxL ret nm R W0 Q D S cells slots pc' Ls (.int z :: rest)) : Go l Z a0 EL b n0 own code maxL ret nm R W0 Q D S cells slots pc Ls (.int y :: .int x :: rest) := by
  obtain ⟨h1, rfl⟩ := hd
  subst hz
  exact Go.plain (fun hx hc h t k => XS.ishl h hx rfl (hb hc h1) rfl k) G
theorem Go.ishr {x y z : Int32} (hd : Dx code pc (.ishr) 1 pc') (hz : x >>> (y &&& 31) = z) (G : Go l Z a0 EL b n0 own code maxL ret nm R W0 Q D S cells slots pc' Ls (.int z :: rest)) : Go l Z a0 EL b n0 own code maxL ret nm R W0 Q D S cells slots pc Ls (.int y :: .int x :: rest) := by
  obtain ⟨h1, rfl⟩ := hd
  subst hz
  exact Go.plain (fun hx hc h t k => XS.ishr h hx rfl (hb hc h1) rfl k) G
theorem Go.iushr {x y z : Int32} (hd : Dx code pc (.iushr) 1 pc') (hz : ush x y = z) (G : Go l Z a0 EL b n0 own code maxL ret nm R W0 Q D S cells slots pc' Ls (.int z :: rest)) : Go l Z a0 EL b n0 own code maxL ret nm R W0 Q D S cells slots pc Ls (.int y :: .int x :: rest) := by
  obtain ⟨h1, rfl⟩ := hd
  subst hz
  exact Go.plain (fun hx hc h t k => XS.iushr h hx rfl (hb hc h1) rfl k) G
theorem Go.ladd {x y z : Int64} (hd : Dx code pc (.ladd) 1 pc') (hz : x + y = z) (G : Go l Z a0 EL b n0 own code maxL ret nm R W0 Q D S cells slots pc' Ls (.long z :: rest)) : Go l Z a0 EL b n0 own code maxL ret nm R W0 Q D S cells slots pc Ls (.long y :: .long x :: rest) := by
  obtain ⟨h1, rfl⟩ := hd
  subst hz
  exact Go.plain (fun hx hc h t k => XS.ladd h hx rfl (hb hc h1) rfl k) G
theorem Go.lsub {x y z : Int64} (hd : Dx code pc (.lsub) 1 pc') (hz : x - y = z) (G : Go l Z a0 EL b n0 own code maxL ret nm R W0 Q D S cells slots pc' Ls (.long z :: rest)) : Go l Z a0 EL b n0 own code maxL ret nm R W0 Q D S cells slots pc Ls (.long y :: .long x :: rest) := by
  obtain ⟨h1, rfl⟩ := hd
  subst hz
  exact Go.plain (fun hx hc h t k => XS.lsub h hx rfl (hb hc h1) rfl k) G
theorem Go.lmul {x y z : Int64} (hd : Dx code pc (.lmul) 1 pc') (hz : x * y = z) (G : Go l Z a0 EL b n0 own code maxL ret nm R W0 Q D S cells slots pc' Ls (.long z :: rest)) : Go l Z a0 EL b n0 own code maxL ret nm R W0 Q D S cells slots pc Ls (.long y :: .long x :: rest) := by
  obtain ⟨h1, rfl⟩ := hd
  subst hz
  exact Go.plain (fun hx hc h t k => XS.lmul h hx rfl (hb hc h1) rfl k) G
theorem Go.land {x y z : Int64} (hd : Dx code pc (.land) 1 pc') (hz : x &&& y = z) (G : Go l Z a0 EL b n0 own code maxL ret nm R W0 Q D S cells slots pc' Ls (.long z :: rest)) : Go l Z a0 EL b n0 own code maxL ret nm R W0 Q D S cells slots pc Ls (.long y :: .long x :: rest) := by
  obtain ⟨h1, rfl⟩ := hd
  subst hz
  exact Go.plain (fun hx hc h t k => XS.land h hx rfl (hb hc h1) rfl k) G
theorem Go.lor {x y z : Int64} (hd : Dx code pc (.lor) 1 pc') (hz : x ||| y = z) (G : Go l Z a0 EL b n0 own code maxL ret nm R W0 Q D S cells slots pc' Ls (.long z :: rest)) : Go l Z a0 EL b n0 own code maxL ret nm R W0 Q D S cells slots pc Ls (.long y :: .long x :: rest) := by
  obtain ⟨h1, rfl⟩ := hd
  subst hz
  exact Go.plain (fun hx hc h t k => XS.lor h hx rfl (hb hc h1) rfl k) G
theorem Go.lxor {x y z : Int64} (hd : Dx code pc (.lxor) 1 pc') (hz : x ^^^ y = z) (G : Go l Z a0 EL b n0 own code maxL ret nm R W0 Q D S cells slots pc' Ls (.long z :: rest)) : Go l Z a0 EL b n0 own code maxL ret nm R W0 Q D S cells slots pc Ls (.long y :: .long x :: rest) := by
  obtain ⟨h1, rfl⟩ := hd
  subst hz
  exact Go.plain (fun hx hc h t k => XS.lxor h hx rfl (hb hc h1) rfl k) G
theorem Go.lshl {x z : Int64} {y : Int32} (hd : Dx code pc (.lshl) 1 pc') (hz : x <<< (y &&& 0x3f).toInt64 = z) (G : Go l Z a0 EL b n0 own code maxL ret nm R W0 Q D S cells slots pc' Ls (.long z :: rest)) : Go l Z a0 EL b n0 own code maxL ret nm R W0 Q D S cells slots pc Ls (.int y :: .long x :: rest) := by
  obtain ⟨h1, rfl⟩ := hd
  subst hz
  exact Go.plain (fun hx hc h t k => XS.lshl h hx rfl (hb hc h1) rfl k) G
theorem Go.lshr {x z : Int64} {y : Int32} (hd : Dx code pc (.lshr) 1 pc') (hz : x >>> (y &&& 0x3f).toInt64 = z) (G : Go l Z a0 EL b n0 own code maxL ret nm R W0 Q D S cells slots pc' Ls (.long z :: rest)) : Go l Z a0 EL b n0 own code maxL ret nm R W0 Q D S cells slots pc Ls (.int y :: .long x :: rest) := by
  obtain ⟨h1, rfl⟩ := hd
  subst hz
  exact Go.plain (fun hx hc h t k => XS.lshr h hx rfl (hb hc h1) rfl k) G
theorem Go.lushr {x z : Int64} {y : Int32} (hd : Dx code pc (.lushr) 1 pc') (hz : ushL x y = z) (G : Go l Z a0 EL b n0 own code maxL ret nm R W0 Q D S cells slots pc' Ls (.long z :: rest)) : Go l Z a0 EL b n0 own code maxL ret nm R W0 Q D S cells slots pc Ls (.int y :: .long x :: rest) := by
  obtain ⟨h1, rfl⟩ := hd
  subst hz
  exact Go.plain (fun hx hc h t k => XS.lushr h hx rfl (hb hc h1) rfl k) G
theorem Go.lcmp {x y : Int64} {z : Int32} (hd : Dx code pc (.lcmp) 1 pc') (hz : lcmpW x y = z) (G : Go l Z a0 EL b n0 own code maxL ret nm R W0 Q D S cells slots pc' Ls (.int z :: rest)) : Go l Z a0 EL b n0 own code maxL ret nm R W0 Q D S cells slots pc Ls (.long y :: .long x :: rest) := by
  obtain ⟨h1, rfl⟩ := hd
  subst hz
  exact Go.plain (fun hx hc h t k => XS.lcmp h hx rfl (hb hc h1) rfl k) G
theorem Go.idiv {x y z : Int32} (hd : Dx code pc (.idiv) 1 pc') (hy : y ≠ 0) (hz : x / y = z) (G : Go l Z a0 EL b n0 own code maxL ret nm R W0 Q D S cells slots pc' Ls (.int z :: rest)) : Go l Z a0 EL b n0 own code maxL ret nm R W0 Q D S cells slots pc Ls (.int y :: .int x :: rest) := by
  obtain ⟨h1, rfl⟩ := hd
  subst hz
  exact Go.plain (fun hx hc h t k => XS.idiv h hx rfl (hb hc h1) rfl hy k) G
theorem Go.ineg {x z : Int32} (hd : Dx code pc (.ineg) 1 pc') (hz : -x = z) (G : Go l Z a0 EL b n0 own code maxL ret nm R W0 Q D S cells slots pc' Ls (.int z :: rest)) : Go l Z a0 EL b n0 own code maxL ret nm R W0 Q D S cells slots pc Ls (.int x :: rest) := by
  obtain ⟨h1, rfl⟩ := hd
  subst hz
  exact Go.plain (fun hx hc h t k => XS.ineg h hx rfl (hb hc h1) rfl k) G
theorem Go.lneg {x z : Int64} (hd : Dx code pc (.lneg) 1 pc') (hz : -x = z) (G : Go l Z a0 EL b n0 own code maxL ret nm R W0 Q D S cells slots pc' Ls (.long z :: rest)) : Go l Z a0 EL b n0 own code maxL ret nm R W0 Q D S cells slots pc Ls (.long x :: rest) := by
  obtain ⟨h1, rfl⟩ := hd
  subst hz
  exact Go.plain (fun hx hc h t k => XS.lneg h hx rfl (hb hc h1) rfl k) G
theorem Go.i2l {x : Int32} {z : Int64} (hd : Dx code pc (.i2l) 1 pc') (hz : x.toInt64 = z) (G : Go l Z a0 EL b n0 own code maxL ret nm R W0 Q D S cells slots pc' Ls (.long z :: rest)) : Go l Z a0 EL b n0 own code maxL ret nm R W0 Q D S cells slots pc Ls (.int x :: rest) := by
  obtain ⟨h1, rfl⟩ := hd
  subst hz
  exact Go.plain (fun hx hc h t k => XS.i2l h hx rfl (hb hc h1) rfl k) G
theorem Go.l2i {x : Int64} {z : Int32} (hd : Dx code pc (.l2i) 1 pc') (hz : x.toInt32 = z) (G : Go l Z a0 EL b n0 own code maxL ret nm R W0 Q D S cells slots pc' Ls (.int z :: rest)) : Go l Z a0 EL b n0 own code maxL ret nm R W0 Q D S cells slots pc Ls (.long x :: rest) := by
  obtain ⟨h1, rfl⟩ := hd
  subst hz
  exact Go.plain (fun hx hc h t k => XS.l2i h hx rfl (hb hc h1) rfl k) G
theorem Go.i2b {x : Int32} {z : Int32} (hd : Dx code pc (.i2b) 1 pc') (hz : x.toInt8.toInt32 = z) (G : Go l Z a0 EL b n0 own code maxL ret nm R W0 Q D S cells slots pc' Ls (.int z :: rest)) : Go l Z a0 EL b n0 own code maxL ret nm R W0 Q D S cells slots pc Ls (.int x :: rest) := by
  obtain ⟨h1, rfl⟩ := hd
  subst hz
  exact Go.plain (fun hx hc h t k => XS.i2b h hx rfl (hb hc h1) rfl k) G
theorem Go.i2c {x : Int32} {z : Int32} (hd : Dx code pc (.i2c) 1 pc') (hz : x.toUInt32.toUInt16.toUInt32.toInt32 = z) (G : Go l Z a0 EL b n0 own code maxL ret nm R W0 Q D S cells slots pc' Ls (.int z :: rest)) : Go l Z a0 EL b n0 own code maxL ret nm R W0 Q D S cells slots pc Ls (.int x :: rest) := by
  obtain ⟨h1, rfl⟩ := hd
  subst hz
  exact Go.plain (fun hx hc h t k => XS.i2c h hx rfl (hb hc h1) rfl k) G
theorem Go.i2s {x : Int32} {z : Int32} (hd : Dx code pc (.i2s) 1 pc') (hz : x.toInt16.toInt32 = z) (G : Go l Z a0 EL b n0 own code maxL ret nm R W0 Q D S cells slots pc' Ls (.int z :: rest)) : Go l Z a0 EL b n0 own code maxL ret nm R W0 Q D S cells slots pc Ls (.int x :: rest) := by
  obtain ⟨h1, rfl⟩ := hd
  subst hz
  exact Go.plain (fun hx hc h t k => XS.i2s h hx rfl (hb hc h1) rfl k) G
theorem Go.dup {x : Value} (hd : Dx code pc (.dup) 1 pc') (hc1 : x.category = 1 := by rfl) (G : Go l Z a0 EL b n0 own code maxL ret nm R W0 Q D S cells slots pc' Ls (x :: x :: rest)) : Go l Z a0 EL b n0 own code maxL ret nm R W0 Q D S cells slots pc Ls (x :: rest) := by
  obtain ⟨h1, rfl⟩ := hd
  exact Go.plain (fun hx hc h t k => XS.dup h hx rfl (hb hc h1) rfl hc1 k) G
theorem Go.pop {x : Value} (hd : Dx code pc (.pop) 1 pc') (hc1 : x.category = 1 := by rfl) (G : Go l Z a0 EL b n0 own code maxL ret nm R W0 Q D S cells slots pc' Ls (rest)) : Go l Z a0 EL b n0 own code maxL ret nm R W0 Q D S cells slots pc Ls (x :: rest) := by
  obtain ⟨h1, rfl⟩ := hd
  exact Go.plain (fun hx hc h t k => XS.pop h hx rfl (hb hc h1) rfl hc1 k) G
theorem Go.dupX1 {x y : Value} (hd : Dx code pc (.dup_x1) 1 pc') (hc1 : x.category = 1 := by rfl) (hc2 : y.category = 1 := by rfl) (G : Go l Z a0 EL b n0 own code maxL ret nm R W0 Q D S cells slots pc' Ls (x :: y :: x :: rest)) : Go l Z a0 EL b n0 own code maxL ret nm R W0 Q D S cells slots pc Ls (x :: y :: rest) := by
  obtain ⟨h1, rfl⟩ := hd
  exact Go.plain (fun hx hc h t k => XS.dupX1 h hx rfl (hb hc h1) rfl hc1 hc2 k) G
theorem Go.dup2 {x y : Value} (hd : Dx code pc (.dup2) 1 pc') (hc1 : x.category = 1 := by rfl) (hc2 : y.category = 1 := by rfl) (G : Go l Z a0 EL b n0 own code maxL ret nm R W0 Q D S cells slots pc' Ls (x :: y :: x :: y :: rest)) : Go l Z a0 EL b n0 own code maxL ret nm R W0 Q D S cells slots pc Ls (x :: y :: rest) := by
  obtain ⟨h1, rfl⟩ := hd
  exact Go.plain (fun hx hc h t k => XT.dup2 h hx rfl (hb hc h1) rfl hc1 hc2 k) G
theorem Go.irem {x y z : Int32} (hd : Dx code pc .irem 1 pc') (hy : y ≠ 0) (hz : x % y = z) (G : Go l Z a0 EL b n0 own code maxL ret nm R W0 Q D S cells slots pc' Ls (.int z :: rest)) : Go l Z a0 EL b n0 own code maxL ret nm R W0 Q D S cells slots pc Ls (.int y :: .int x :: rest) := by
  obtain ⟨h1, rfl⟩ := hd
  subst hz
  refine Go.same (fun hs X _ _ _ => ⟨_, X, rfl, fun t k => iremM X hs.1 rfl (hb hs.2.1 h1) rfl hy k⟩) G
theorem Go.goto {o : Int} {pc2 : Nat} (hd : Dx code pc (.goto o) 3 pc') (hp : ((pc : Int) + o).toNat = pc2 := by decide) (ho : 0 ≤ (pc : Int) + o := by decide) (G : Go l Z a0 EL b n0 own code maxL ret nm R W0 Q D S cells slots pc2 Ls st) : Go l Z a0 EL b n0 own code maxL ret nm R W0 Q D S cells slots pc Ls st := by
  obtain ⟨h1, rfl⟩ := hd
  exact Go.plain (fun hx hc h t k => XS.goto h hx rfl rfl (hb hc h1) ho hp k) G
/-- what a comparison says -/
def cP : ClassFile.Cond → Int32 → Int32 → Prop
  | .eq, x, y => x = y
  | .ne, x, y => ¬ x = y
  | .lt, x, y => x < y
  | .ge, x, y => ¬ x < y
  | .gt, x, y => y < x
  | .le, x, y => ¬ y < x
theorem cP_t {cd : ClassFile.Cond} {x y : Int32} (h : cP cd x y) : if_icmp.holds cd x y = true := by
  cases cd
  · exact XT.ii_eq_t h
  · exact XT.ii_ne_t h
  · exact XT.ii_lt_t h
  · exact XT.ii_ge_t h
  · exact XT.ii_gt_t h
  · exact XT.ii_le_t h
theorem cP_f {cd : ClassFile.Cond} {x y : Int32} (h : ¬ cP cd x y) : if_icmp.holds cd x y = false := by
  cases cd
  · exact XT.ii_eq_f h
  · exact XT.ii_ne_f (Classical.not_not.mp h)
  · exact XT.ii_lt_f h
  · exact XT.ii_ge_f (Classical.not_not.mp h)
  · exact XT.ii_gt_f h
  · exact XT.ii_le_f (Classical.not_not.mp h)
theorem cP0_t {cd : ClassFile.Cond} {x : Int32} (h : cP cd x 0) : ifCond.holds cd x = true := by
  cases cd
  · exact XT.i0_eq_t h
  · exact XT.i0_ne_t h
  · exact XT.i0_lt_t h
  · exact XT.i0_ge_t h
  · exact XT.i0_gt_t h
  · exact XT.i0_le_t h
theorem cP0_f {cd : ClassFile.Cond} {x : Int32} (h : ¬ cP cd x 0) : ifCond.holds cd x = false := by
  cases cd
  · exact XT.i0_eq_f h
  · exact XT.i0_ne_f (Classical.not_not.mp h)
  · exact XT.i0_lt_f h
  · exact XT.i0_ge_f (Classical.not_not.mp h)
  · exact XT.i0_gt_f h
  · exact XT.i0_le_f (Classical.not_not.mp h)
theorem Go.icmp {cd : ClassFile.Cond} {x y : Int32} {o : Int} {pc2 : Nat} (hd : Dx code pc (.if_icmp cd o) 3 pc') (hp : ((pc : Int) + o).toNat = pc2 := by decide) (ho : 0 ≤ (pc : Int) + o := by decide)
    (Gy : cP cd x y → Go l Z a0 EL b n0 own code maxL ret nm R W0 Q D S cells slots pc2 Ls rest) (Gn : ¬ cP cd x y → Go l Z a0 EL b n0 own code maxL ret nm R W0 Q D S cells slots pc' Ls rest) : Go l Z a0 EL b n0 own code maxL ret nm R W0 Q D S cells slots pc Ls (.int y :: .int x :: rest) := by
  obtain ⟨h1, rfl⟩ := hd
  by_cases q : cP cd x y
  · exact Go.plain (fun hx hc h t k => XS.icmpYes h hx rfl rfl (hb hc h1) rfl (cP_t q) ho hp k) (Gy q)
  · exact Go.plain (fun hx hc h t k => XS.icmpNo h hx rfl (hb hc h1) rfl (cP_f q) k) (Gn q)
theorem Go.ifc {cd : ClassFile.Cond} {x : Int32} {o : Int} {pc2 : Nat} (hd : Dx code pc (.ifCond cd o) 3 pc') (hp : ((pc : Int) + o).toNat = pc2 := by decide) (ho : 0 ≤ (pc : Int) + o := by decide)
    (Gy : cP cd x 0 → Go l Z a0 EL b n0 own code maxL ret nm R W0 Q D S cells slots pc2 Ls rest) (Gn : ¬ cP cd x 0 → Go l Z a0 EL b n0 own code maxL ret nm R W0 Q D S cells slots pc' Ls rest) : Go l Z a0 EL b n0 own code maxL ret nm R W0 Q D S cells slots pc Ls (.int x :: rest) := by
  obtain ⟨h1, rfl⟩ := hd
  by_cases q : cP cd x 0
  · exact Go.plain (fun hx hc h t k => XS.ifYes h hx rfl rfl (hb hc h1) rfl (cP0_t q) ho hp k) (Gy q)
  · exact Go.plain (fun hx hc h t k => XS.ifNo h hx rfl (hb hc h1) rfl (cP0_f q) k) (Gn q)
theorem Go.ifnullY {o : Int} {pc2 : Nat} (hd : Dx code pc (.ifnull o) 3 pc') (hp : ((pc : Int) + o).toNat = pc2 := by decide) (ho : 0 ≤ (pc : Int) + o := by decide)
    (G : Go l Z a0 EL b n0 own code maxL ret nm R W0 Q D S cells slots pc2 Ls rest) : Go l Z a0 EL b n0 own code maxL ret nm R W0 Q D S cells slots pc Ls (.null :: rest) := by
  obtain ⟨h1, rfl⟩ := hd
  exact Go.plain (fun hx hc h t k => XS.ifnullYes h hx rfl rfl (hb hc h1) rfl ho hp k) G
theorem Go.ifnullN {o : Int} {a : Addr} (hd : Dx code pc (.ifnull o) 3 pc') (G : Go l Z a0 EL b n0 own code maxL ret nm R W0 Q D S cells slots pc' Ls rest) : Go l Z a0 EL b n0 own code maxL ret nm R W0 Q D S cells slots pc Ls (.ref a :: rest) := by
  obtain ⟨h1, rfl⟩ := hd
  exact Go.plain (fun hx hc h t k => XS.ifnullNo h hx rfl (hb hc h1) rfl k) G
theorem Go.ifnonnullY {o : Int} {a : Addr} {pc2 : Nat} (hd : Dx code pc (.ifnonnull o) 3 pc') (hp : ((pc : Int) + o).toNat = pc2 := by decide) (ho : 0 ≤ (pc : Int) + o := by decide)
    (G : Go l Z a0 EL b n0 own code maxL ret nm R W0 Q D S cells slots pc2 Ls rest) : Go l Z a0 EL b n0 own code maxL ret nm R W0 Q D S cells slots pc Ls (.ref a :: rest) := by
  obtain ⟨h1, rfl⟩ := hd
  exact Go.plain (fun hx hc h t k => XS.ifnonnullYes h hx rfl rfl (hb hc h1) rfl ho hp k) G
theorem Go.ifnonnullN {o : Int} (hd : Dx code pc (.ifnonnull o) 3 pc') (G : Go l Z a0 EL b n0 own code maxL ret nm R W0 Q D S cells slots pc' Ls rest) : Go l Z a0 EL b n0 own code maxL ret nm R W0 Q D S cells slots pc Ls (.null :: rest) := by
  obtain ⟨h1, rfl⟩ := hd
  exact Go.plain (fun hx hc h t k => XS.ifnonnullNo h hx rfl (hb hc h1) rfl k) G
theorem Go.acmpeq {o : Int} {x y : Value} {pc2 : Nat} (hd : Dx code pc (.if_acmp .eq o) 3 pc') (hx' : x.isRef = true := by rfl) (hy' : y.isRef = true := by rfl) (hp : ((pc : Int) + o).toNat = pc2 := by decide) (ho : 0 ≤ (pc : Int) + o := by decide)
    (Gy : x = y → Go l Z a0 EL b n0 own code maxL ret nm R W0 Q D S cells slots pc2 Ls rest) (Gn : ¬ x = y → Go l Z a0 EL b n0 own code maxL ret nm R W0 Q D S cells slots pc' Ls rest) : Go l Z a0 EL b n0 own code maxL ret nm R W0 Q D S cells slots pc Ls (y :: x :: rest) := by
  obtain ⟨h1, rfl⟩ := hd
  by_cases q : x = y
  · exact Go.plain (fun hx hc h t k => XT.acmpYes h hx rfl rfl (hb hc h1) rfl hx' hy' (XT.aa_eq_t q) ho hp k) (Gy q)
  · exact Go.plain (fun hx hc h t k => XT.acmpNo h hx rfl (hb hc h1) rfl hx' hy' (XT.aa_eq_f q) k) (Gn q)
theorem Go.acmpne {o : Int} {x y : Value} {pc2 : Nat} (hd : Dx code pc (.if_acmp .ne o) 3 pc') (hx' : x.isRef = true := by rfl) (hy' : y.isRef = true := by rfl) (hp : ((pc : Int) + o).toNat = pc2 := by decide) (ho : 0 ≤ (pc : Int) + o := by decide)
    (Gy : ¬ x = y → Go l Z a0 EL b n0 own code maxL ret nm R W0 Q D S cells slots pc2 Ls rest) (Gn : x = y → Go l Z a0 EL b n0 own code maxL ret nm R W0 Q D S cells slots pc' Ls rest) : Go l Z a0 EL b n0 own code maxL ret nm R W0 Q D S cells slots pc Ls (y :: x :: rest) := by
  obtain ⟨h1, rfl⟩ := hd
  by_cases q : x = y
  · exact Go.plain (fun hx hc h t k => XT.acmpNo h hx rfl (hb hc h1) rfl hx' hy' (XT.aa_ne_f q) k) (Gn q)
  · exact Go.plain (fun hx hc h t k => XT.acmpYes h hx rfl rfl (hb hc h1) rfl hx' hy' (XT.aa_ne_t q) ho hp k) (Gy q)
/-! the steps that read or write the heap -/
theorem Inv.alike {fr : Addr → Prop} {s : State} {vm0 : Vm} {h : Heap} {locs : List Loc} (I : Inv Z a0 EL b n0 W0 fr D S s vm0 h locs) : Z.Warmed39 vm0 := I.1.2.1
theorem Inv.ext {fr : Addr → Prop} {s : State} {vm0 : Vm} {h h' : Heap} {locs : List Loc} (I : Inv Z a0 EL b n0 W0 fr D S s vm0 h locs) (E : Ext h h') {x : Ent} (hx : x.1 = h.size) (F : Kn Z h' x) :
    Inv Z a0 EL b n0 W0 fr (x :: D) S s vm0 h' locs := by
  obtain ⟨⟨e1, e2, ⟨k0, e3, e4⟩, e5⟩, ⟨c1, c2, c3, c4⟩, ⟨g1, g2, g3, g4⟩, i4, i5, i6⟩ := I
  have hs : s.heap.size ≤ h.size := c1.2.1
  have hx' := aN hx
  refine ⟨⟨e1, e2, ⟨k0, e3, Nat.le_trans e4 E.1⟩, e5⟩, ⟨c1.trans (CHr.ext E c1.1), c2, c3.ext E, c4.ext E⟩, ⟨fun y hy => ?_, fun y hy => (g2 y hy).ext E, ?_, fun y hy => ?_⟩, fun y hy => ?_, i5, fun y hy => ?_⟩
  · rcases List.mem_cons.mp hy with rfl | hy
    · exact F
    · exact (g1 y hy).ext E
  · rw [List.map_cons, List.nodup_cons]
    refine ⟨fun q => ?_, g3⟩
    obtain ⟨y, hy, e⟩ := List.mem_map.mp q
    have e := aN e
    have := aL (g1 y hy).lt
    omega
  · rw [List.map_cons, List.mem_cons]
    rintro (q | q)
    · have q := aN q
      have := aL (g2 y hy).lt
      omega
    · exact g4 y hy q
  · rcases List.mem_cons.mp hy with rfl | hy
    · refine ⟨?_, ?_, fun q => ?_, Or.inr (by rw [hx]; exact hs)⟩
      · rw [hx]; have a1 := c3.1; have a2 := c3.2.1; omega
      · rw [hx]; exact (Safe.new (Nat.le_refl _)).ext E c1.1
      · have := aL (i6 _ q).2.2
        omega
    · obtain ⟨r1, r2, r3, r4⟩ := i4 y hy
      exact ⟨r1, r2.ext E c1.1, r3, r4⟩
  · obtain ⟨r1, r2, r3⟩ := i6 y hy
    exact ⟨r1, r2.ext E c1.1, r3⟩
theorem set_mem {α : Type} {L : List α} {i : Nat} {y x : α} (h : x ∈ L.set i y) : x = y ∨ ∃ j, j ≠ i ∧ L[j]? = some x := by
  obtain ⟨j, hj⟩ := List.mem_iff_getElem?.mp h
  rw [List.getElem?_set] at hj
  by_cases q : i = j
  · rw [if_pos q] at hj
    split at hj
    · exact Or.inl (Option.some.inj hj).symm
    · cases hj
  · rw [if_neg q] at hj
    exact Or.inr ⟨j, fun e => q e.symm, hj⟩
theorem map_set_same {D : List Ent} {i : Nat} {x y : Ent} (hi : D[i]? = some x) (e : y.1 = x.1) : (D.set i y).map Prod.fst = D.map Prod.fst := by
  apply List.ext_getElem?
  intro j
  rw [List.getElem?_map, List.getElem?_map, List.getElem?_set]
  by_cases q : i = j
  · subst q
    rw [if_pos rfl, hi]
    simp [(List.getElem?_eq_some_iff.mp hi).1, e]
  · rw [if_neg q]
theorem Inv.wr {fr : Addr → Prop} {s : State} {vm0 : Vm} {h h' : Heap} {locs : List Loc} {sl : Nat} {v : Value} {x y : Ent} {i : Nat} (I : Inv Z a0 EL b n0 W0 fr D S s vm0 h locs) (hi : D[i]? = some x) (W : Wr h h' x.1 sl v) (e : y.1 = x.1) (F : Kn Z h' y) :
    Inv Z a0 EL b n0 W0 fr (D.set i y) S s vm0 h' (locs ++ [⟨x.1, sl⟩]) := by
  obtain ⟨⟨e1, e2, ⟨k0, e3, e4⟩, e5⟩, ⟨c1, c2, c3, c4⟩, ⟨g1, g2, g3, g4⟩, i4, i5, i6⟩ := I
  have hx : x ∈ D := List.mem_of_getElem? hi
  obtain ⟨r1, r2, r3, r4⟩ := i4 x hx
  have K := Keep.of_wr W
  have apart : ∀ z j, j ≠ i → D[j]? = some z → z.1 ≠ x.1 := fun z j hj hz q => hj (by
    have lj : j < (D.map Prod.fst).length := by simpa using (List.getElem?_eq_some_iff.mp hz).1
    refine (List.getElem?_inj lj g3).mp ?_
    simp [hz, hi, q])
  refine ⟨⟨e1, e2, ⟨k0, e3, by rw [W.size]; exact e4⟩, e5⟩, ⟨c1.trans (CHr.wr W r2 c1.1), c2.app (fun z hz => by cases List.mem_singleton.mp hz; exact r1), c3.wr W r1, c4.wr W r4⟩, ⟨fun z hz => ?_, fun z hz => ?_, ?_, fun z hz => ?_⟩, fun z hz => ?_, i5, fun z hz => ?_⟩
  · rcases set_mem hz with rfl | ⟨j, hj, q⟩
    · exact F
    · exact (g1 z (List.mem_of_getElem? q)).keep K (fun r => apart z j hj q (List.mem_singleton.mp r))
  · exact (g2 z hz).keep K (fun r => g4 z hz (List.mem_map.mpr ⟨x, hx, (List.mem_singleton.mp r).symm⟩))
  · rw [map_set_same hi e]; exact g3
  · rw [map_set_same hi e]; exact g4 z hz
  · rcases set_mem hz with rfl | ⟨j, hj, q⟩
    · rw [e]; exact ⟨r1, Safe.wr W r2 c1.1 r2, r3, r4⟩
    · obtain ⟨t1, t2, t3, t4⟩ := i4 z (List.mem_of_getElem? q)
      exact ⟨t1, Safe.wr W r2 c1.1 t2, t3, t4⟩
  · obtain ⟨t1, t2, t3⟩ := i6 z hz
    exact ⟨t1, Safe.wr W r2 c1.1 t2, t3⟩
/-- a step that makes one cell -/
theorem Go.grow {k n : Nat} {o : Ob} (H : ∀ {p : Program} {e : Env} {s : State} {m : MethodId} {args : Array Value} {below : List Frame} {meth : Method} {c : Code} {vm0 : Vm} {T : State} {locs : List Loc}, Sst own code maxL ret nm p m meth c vm0 → Stand p l e R (s.setVm vm0) m args below meth c T locs cells slots → Z.Warmed39 (s.setVm vm0).vm → HH Z T.heap D S →
      ∃ T', Stand p l e R (s.setVm vm0) m args below meth c T' locs k n ∧ Ext T.heap T'.heap ∧ Kn Z T'.heap (T.heap.size, o) ∧ ∀ t, Steps p.tables e below (T'.setTop (mkF m pc' Ls' (.ref T.heap.size :: st'))) t → Steps p.tables e below (T.setTop (mkF m pc Ls st)) t)
    (G : ∀ a, Go l Z a0 EL b n0 own code maxL ret nm R W0 Q ((a, o) :: D) S k n pc' Ls' (.ref a :: st')) : Go l Z a0 EL b n0 own code maxL ret nm R W0 Q D S cells slots pc Ls st := by
  intro fr p e s m args below meth c vm0 T locs hs X I
  obtain ⟨T', X', E, F, st⟩ := H hs X I.1.2.1 I.2.2.1
  obtain ⟨t, v, k', r⟩ := G T.heap.size fr p e s m args below meth c vm0 T' locs hs X' (I.ext E (x := (T.heap.size, o)) rfl F)
  exact ⟨t, v, st t k', r⟩
/-- a step that writes one slot of an own cell -/
theorem Go.write {i : Nat} {x y : Ent} (hi : D[i]? = some x) (hD : D' = D.set i y) (e : y.1 = x.1) (H : ∀ {p : Program} {e : Env} {s : State} {m : MethodId} {args : Array Value} {below : List Frame} {meth : Method} {c : Code} {vm0 : Vm} {T : State} {locs : List Loc}, Sst own code maxL ret nm p m meth c vm0 → Stand p l e R (s.setVm vm0) m args below meth c T locs cells slots → Z.Warmed39 (s.setVm vm0).vm → HH Z T.heap D S →
      ∃ T' sl v, Stand p l e R (s.setVm vm0) m args below meth c T' (locs ++ [⟨x.1, sl⟩]) cells slots ∧ Wr T.heap T'.heap x.1 sl v ∧ Kn Z T'.heap y ∧ ∀ t, Steps p.tables e below (T'.setTop (mkF m pc' Ls' st')) t → Steps p.tables e below (T.setTop (mkF m pc Ls st)) t)
    (G : Go l Z a0 EL b n0 own code maxL ret nm R W0 Q D' S cells slots pc' Ls' st') : Go l Z a0 EL b n0 own code maxL ret nm R W0 Q D S cells slots pc Ls st := by
  intro fr p e' s m args below meth c vm0 T locs hs X I
  obtain ⟨T', sl, v, X', W, F, st⟩ := H hs X I.1.2.1 I.2.2.1
  subst hD
  obtain ⟨t, v, k', r⟩ := G fr p e' s m args below meth c vm0 T' _ hs X' (I.wr hi W e F)
  exact ⟨t, v, st t k', r⟩
/-- the fields of a new object -/
def NewF (Z : State) (a0 : Array Value) (C : String) (fs : List (String × String × String × Value)) : Prop :=
  (∀ f ∈ fs, Laid Z a0 C f.1 f.2.1 f.2.2.1 ∧ ∃ ty, parseFieldDescriptor f.2.2.1 = some ty ∧ defaultValue ty = f.2.2.2) ∧ (fs.map fun f => Jvm.RoadKit.slotOf Z f.1 f.2.1 f.2.2.1).Nodup
theorem NewF.nil {C : String} : NewF Z a0 C [] := ⟨fun _ q => (nomatch q), List.nodup_nil⟩
theorem NewF.cons {C O n d : String} {v : Value} {ty : FieldType} {fs : List (String × String × String × Value)} (L : Laid Z a0 C O n d) (ht : parseFieldDescriptor d = some ty) (hv : defaultValue ty = v) (hne : ∀ f ∈ fs, n ≠ f.2.1) (F : NewF Z a0 C fs) : NewF Z a0 C ((O, n, d, v) :: fs) := by
  refine ⟨fun f hf => ?_, ?_⟩
  · rcases List.mem_cons.mp hf with rfl | hf
    · exact ⟨L, ty, ht, hv⟩
    · exact F.1 f hf
  · rw [List.map_cons, List.nodup_cons]
    refine ⟨fun q => ?_, F.2⟩
    obtain ⟨f, hf, e⟩ := List.mem_map.mp q
    obtain ⟨L', ty', ht', -⟩ := F.1 f hf
    exact slot_ne L L' (hne f hf) ht ht' e.symm
theorem Go.new {idx n : Nat} {C : String} {fs : List (String × String × String × Value)} (hd : Dx code pc (.new idx) 3 pc') (w1 : (Jvm.Cond.classLink own idx C).before a0 Z = true) (w2 : (Jvm.Cond.instantiable C n).before a0 Z = true) (w3 : (Jvm.Cond.initialized C).before a0 Z = true) (hf : NewF Z a0 C fs)
    (hc : cells + 1 ≤ R.cells := by exact Nat.le_of_ble_eq_true rfl) (hl : slots + n ≤ R.slots := by exact Nat.le_of_ble_eq_true rfl) (G : ∀ a, Go l Z a0 EL b n0 own code maxL ret nm R W0 Q ((a, .inl (C, fs)) :: D) S (cells + 1) (slots + n) pc' Ls (.ref a :: st)) : Go l Z a0 EL b n0 own code maxL ret nm R W0 Q D S cells slots pc Ls st := by
  obtain ⟨h1, rfl⟩ := hd
  refine Go.grow (fun {p e s m args below meth c vm0 T locs} hs X hZ hH => ?_) G
  obtain ⟨T', h', X', rfl, E, A, F, -, k⟩ := newO X hs.1 hZ hs.2.2.2.2.2.2 w1 w2 w3 rfl (g := mkF m pc Ls st) rfl (hb hs.2.1 h1) hc hl
  refine ⟨T', X', E, ⟨A, fun f hf' => ?_, hf.2⟩, k⟩
  obtain ⟨L, ty, ht, hv⟩ := hf.1 f hf'
  rw [← hv]
  exact F L ht
theorem rep_fits {ty : FieldType} {v : Value} {k : Nat} (hv : fits ty v = true) : ∀ x ∈ List.replicate k v, fits ty x = true := fun x hx => by rw [List.eq_of_mem_replicate hx]; exact hv
theorem def_fits (ty : FieldType) : fits ty (defaultValue ty) = true := by cases ty <;> rfl
theorem Go.newarray {aty : ArrayType} {n : Int32} {k : Nat} {vs : List Value} (hd : Dx code pc (.newarray aty) 2 pc') (w : (Jvm.Cond.arrayClass (newarray.typeOf aty)).before a0 Z = true) (hk : n.toNatClampNeg = k) (hn : ¬ n < 0) (hb' : k * 8 ≤ 536870912) (hvs : vs = List.replicate k (defaultValue (newarray.typeOf aty)))
    (hc : cells + 1 ≤ R.cells := by exact Nat.le_of_ble_eq_true rfl) (hl : slots + k ≤ R.slots := by exact Nat.le_of_ble_eq_true rfl) (G : ∀ a, Go l Z a0 EL b n0 own code maxL ret nm R W0 Q ((a, .inr (newarray.typeOf aty, vs)) :: D) S (cells + 1) (slots + k) pc' Ls (.ref a :: rest)) : Go l Z a0 EL b n0 own code maxL ret nm R W0 Q D S cells slots pc Ls (.int n :: rest) := by
  obtain ⟨h1, rfl⟩ := hd
  refine Go.grow (fun {p e s m args below meth c vm0 T locs} hs X hZ hH => ?_) G
  obtain ⟨T', h', cA, X', rfl, E, A, k'⟩ := newP X hs.1 hZ w rfl (g := mkF m pc Ls (.int n :: rest)) rfl (hb hs.2.1 h1) rfl hn (cap := k) (by omega) hb' hc hl
  refine ⟨T', X', E, ⟨_, A, ?_, ?_, ?_, ?_⟩, k'⟩
  · subst hvs hk; simp [newA]
  · subst hvs; simp; omega
  · subst hvs; exact rep_fits (def_fits _)
  · intro C q; cases aty <;> cases q
theorem Go.anewarray {idx : Nat} {C : String} {n : Int32} {k : Nat} {vs : List Value} (hd : Dx code pc (.anewarray idx) 3 pc') (w1 : (Jvm.Cond.classLink own idx C).before a0 Z = true) (w2 : (Jvm.Cond.arrayOver (.object C)).before a0 Z = true) (hk : n.toNatClampNeg = k) (hn : ¬ n < 0) (hb' : k * 8 ≤ 536870912) (hvs : vs = List.replicate k .null)
    (hc : cells + 1 ≤ R.cells := by exact Nat.le_of_ble_eq_true rfl) (hl : slots + k ≤ R.slots := by exact Nat.le_of_ble_eq_true rfl) (G : ∀ a, Go l Z a0 EL b n0 own code maxL ret nm R W0 Q ((a, .inr (.object C, vs)) :: D) S (cells + 1) (slots + k) pc' Ls (.ref a :: rest)) : Go l Z a0 EL b n0 own code maxL ret nm R W0 Q D S cells slots pc Ls (.int n :: rest) := by
  obtain ⟨h1, rfl⟩ := hd
  refine Go.grow (fun {p e s m args below meth c vm0 T locs} hs X hZ hH => ?_) G
  obtain ⟨T', h', cA, X', rfl, E, A, O, k'⟩ := newR X hs.1 hZ hs.2.2.2.2.2.2 w1 w2 rfl (g := mkF m pc Ls (.int n :: rest)) rfl (hb hs.2.1 h1) rfl hn (cap := k) (by omega) hb' hc hl
  refine ⟨T', X', E, ⟨_, A, ?_, ?_, ?_, ?_⟩, k'⟩
  · subst hvs hk; simp [newA, defaultValue]
  · subst hvs; simp; omega
  · subst hvs; exact rep_fits rfl
  · intro C' q _; cases q; exact O
theorem in_of {vs : List Value} {j : Int32} {v : Value} {c : Cell} (hc : c.slots = vs.toArray) (hv : vs[j.toNatClampNeg]? = some v) (hj : ¬ j < 0) : ¬ (j < 0 ∨ c.slots.size ≤ j.toNatClampNeg) ∧ c.slots[j.toNatClampNeg]? = some v := by
  have h := (List.getElem?_eq_some_iff.mp hv).1
  refine ⟨fun q => q.elim hj fun r => ?_, ?_⟩
  · rw [hc, List.size_toArray] at r; omega
  · rw [hc, List.getElem?_toArray]; exact hv
theorem Go.caload {a : Addr} {vs : List Value} {j : Int32} {v : Value} (hd : Dx code pc .caload 1 pc') (hm : In (a, .inr (.char, vs)) D S) (hv : vs[j.toNatClampNeg]? = some v) (hj : ¬ j < 0 := by decide) (G : Go l Z a0 EL b n0 own code maxL ret nm R W0 Q D S cells slots pc' Ls (v :: rest)) : Go l Z a0 EL b n0 own code maxL ret nm R W0 Q D S cells slots pc Ls (.int j :: .ref a :: rest) := by
  obtain ⟨h1, rfl⟩ := hd
  refine Go.same (fun {p e s m args below meth c vm0 T locs} hs X hZ _ hH => ?_) G
  obtain ⟨cl, A, hc, -⟩ := (show KnA Z T.heap a .char vs from hH.at hm)
  obtain ⟨q1, q2⟩ := in_of hc hv hj
  exact ⟨_, X, rfl, fun t k => X.caload hs.1 A.1 (State.isArrayOf_alike hZ.alike A.2.1) A.2.2 q1 q2 (g := mkF m pc Ls (.int j :: .ref a :: rest)) rfl rfl (hb hs.2.1 h1) t k⟩
theorem Go.baload {a : Addr} {vs : List Value} {j : Int32} {v : Value} (hd : Dx code pc .baload 1 pc') (hm : In (a, .inr (.byte, vs)) D S) (hv : vs[j.toNatClampNeg]? = some v) (hj : ¬ j < 0 := by decide) (G : Go l Z a0 EL b n0 own code maxL ret nm R W0 Q D S cells slots pc' Ls (v :: rest)) : Go l Z a0 EL b n0 own code maxL ret nm R W0 Q D S cells slots pc Ls (.int j :: .ref a :: rest) := by
  obtain ⟨h1, rfl⟩ := hd
  refine Go.same (fun {p e s m args below meth c vm0 T locs} hs X hZ _ hH => ?_) G
  obtain ⟨cl, A, hc, -⟩ := (show KnA Z T.heap a .byte vs from hH.at hm)
  obtain ⟨q1, q2⟩ := in_of hc hv hj
  exact ⟨_, X, rfl, fun t k => X.baloadBytes hs.1 A.1 (State.isArrayOf_alike hZ.alike A.2.1) A.2.2 q1 q2 (g := mkF m pc Ls (.int j :: .ref a :: rest)) rfl rfl (hb hs.2.1 h1) t k⟩
theorem Go.iaload {a : Addr} {vs : List Value} {j : Int32} {v : Value} (hd : Dx code pc .iaload 1 pc') (hm : In (a, .inr (.int, vs)) D S) (hv : vs[j.toNatClampNeg]? = some v) (hj : ¬ j < 0 := by decide) (G : Go l Z a0 EL b n0 own code maxL ret nm R W0 Q D S cells slots pc' Ls (v :: rest)) : Go l Z a0 EL b n0 own code maxL ret nm R W0 Q D S cells slots pc Ls (.int j :: .ref a :: rest) := by
  obtain ⟨h1, rfl⟩ := hd
  refine Go.same (fun {p e s m args below meth c vm0 T locs} hs X hZ _ hH => ?_) G
  obtain ⟨cl, A, hc, -⟩ := (show KnA Z T.heap a .int vs from hH.at hm)
  obtain ⟨q1, q2⟩ := in_of hc hv hj
  exact ⟨_, X, rfl, fun t k => X.iaload hs.1 A.1 (State.isArrayOf_alike hZ.alike A.2.1) A.2.2 q1 q2 (g := mkF m pc Ls (.int j :: .ref a :: rest)) rfl rfl (hb hs.2.1 h1) t k⟩
theorem Go.aaload {a : Addr} {ty : FieldType} {vs : List Value} {j : Int32} {v : Value} (hd : Dx code pc .aaload 1 pc') (hm : In (a, .inr (ty, vs)) D S) (hv : vs[j.toNatClampNeg]? = some v) (hty : ty.isReference = true := by rfl) (hj : ¬ j < 0 := by decide) (G : Go l Z a0 EL b n0 own code maxL ret nm R W0 Q D S cells slots pc' Ls (v :: rest)) : Go l Z a0 EL b n0 own code maxL ret nm R W0 Q D S cells slots pc Ls (.int j :: .ref a :: rest) := by
  obtain ⟨h1, rfl⟩ := hd
  refine Go.same (fun {p e s m args below meth c vm0 T locs} hs X hZ _ hH => ?_) G
  obtain ⟨cl, A, hc, -⟩ := (show KnA Z T.heap a ty vs from hH.at hm)
  obtain ⟨q1, q2⟩ := in_of hc hv hj
  exact ⟨_, X, rfl, fun t k => X.aaload hs.1 A.1 (State.isArrayOf_alike hZ.alike A.2.1) hty A.2.2 q1 q2 (g := mkF m pc Ls (.int j :: .ref a :: rest)) rfl rfl (hb hs.2.1 h1) t k⟩
theorem Go.arraylength {a : Addr} {ty : FieldType} {vs : List Value} {n : Int32} (hd : Dx code pc .arraylength 1 pc') (hm : In (a, .inr (ty, vs)) D S) (hn : vs.length.toInt32 = n) (G : Go l Z a0 EL b n0 own code maxL ret nm R W0 Q D S cells slots pc' Ls (.int n :: rest)) : Go l Z a0 EL b n0 own code maxL ret nm R W0 Q D S cells slots pc Ls (.ref a :: rest) := by
  obtain ⟨h1, rfl⟩ := hd
  refine Go.same (fun {p e s m args below meth c vm0 T locs} hs X hZ _ hH => ?_) G
  obtain ⟨cl, A, hc, -⟩ := (show KnA Z T.heap a ty vs from hH.at hm)
  have e : cl.slots.size.toInt32 = n := by rw [hc, List.size_toArray]; exact hn
  exact ⟨_, X, rfl, fun t k => X.arraylength hs.1 A.1 (State.isArrayOf_alike hZ.alike A.2.1) (g := mkF m pc Ls (.ref a :: rest)) rfl rfl (hb hs.2.1 h1) t (by rw [e]; exact k)⟩
theorem KnA.set {h h' : Heap} {a : Addr} {ty : FieldType} {vs : List Value} {j : Nat} {v : Value} {c : Cell} (A : Arr Z h a c ty) (hc : c.slots = vs.toArray) (hlen : vs.length < 2147483648) (hf : ∀ v ∈ vs, fits ty v = true) (hO : ∀ C, ty = .object C → C ≠ nstC → Ovr Z c.cls C) (hv : fits ty v = true) (W : Wr h h' a j v) : KnA Z h' a ty (vs.set j v) := by
  refine ⟨c.setSlot j v, A.same W, ?_, by simpa using hlen, fun x hx => ?_, hO⟩
  · have : (c.setSlot j v).slots = c.slots.setIfInBounds j v := rfl
    rw [this, hc]; simp
  · rcases List.mem_or_eq_of_mem_set hx with q | rfl
    · exact hf x q
    · exact hv
theorem st_in {vs : List Value} {j : Int32} {c : Cell} (hc : c.slots = vs.toArray) (hj : ¬ j < 0) (hlt : j.toNatClampNeg < vs.length) : ¬ (j < 0 ∨ c.slots.size ≤ j.toNatClampNeg) := by
  rintro (q | q)
  · exact hj q
  · rw [hc, List.size_toArray] at q; omega
theorem Go.castore {a : Addr} {vs : List Value} {j x x' : Int32} (hd : Dx code pc .castore 1 pc') (i : Nat) (hi : D[i]? = some (a, .inr (.char, vs))) (hx : nar .char x = x') (hlt : j.toNatClampNeg < vs.length) (hD : D' = D.set i (a, .inr (.char, vs.set j.toNatClampNeg (.int x')))) (hj : ¬ j < 0 := by decide) (G : Go l Z a0 EL b n0 own code maxL ret nm R W0 Q D' S cells slots pc' Ls rest) : Go l Z a0 EL b n0 own code maxL ret nm R W0 Q D S cells slots pc Ls (.int x :: .int j :: .ref a :: rest) := by
  obtain ⟨h1, rfl⟩ := hd
  subst hx
  refine Go.write hi hD rfl (fun {p e s m args below meth c vm0 T locs} hs X hZ hH => ?_) G
  obtain ⟨cl, A, hc, r1, r2, r3⟩ := (show KnA Z T.heap a .char vs from hH.1 _ (List.mem_of_getElem? hi))
  obtain ⟨T', h', X', rfl, W, k⟩ := stC X hs.1 hZ rfl A (st_in hc hj hlt) (g := mkF m pc Ls (.int x :: .int j :: .ref a :: rest)) rfl rfl (hb hs.2.1 h1)
  exact ⟨T', _, _, X', W, KnA.set A hc r1 r2 r3 (fits_nar_char x) W, k⟩
theorem Go.bastore {a : Addr} {vs : List Value} {j x x' : Int32} (hd : Dx code pc .bastore 1 pc') (i : Nat) (hi : D[i]? = some (a, .inr (.byte, vs))) (hx : nar .byte x = x') (hlt : j.toNatClampNeg < vs.length) (hD : D' = D.set i (a, .inr (.byte, vs.set j.toNatClampNeg (.int x')))) (hj : ¬ j < 0 := by decide) (G : Go l Z a0 EL b n0 own code maxL ret nm R W0 Q D' S cells slots pc' Ls rest) : Go l Z a0 EL b n0 own code maxL ret nm R W0 Q D S cells slots pc Ls (.int x :: .int j :: .ref a :: rest) := by
  obtain ⟨h1, rfl⟩ := hd
  subst hx
  refine Go.write hi hD rfl (fun {p e s m args below meth c vm0 T locs} hs X hZ hH => ?_) G
  obtain ⟨cl, A, hc, r1, r2, r3⟩ := (show KnA Z T.heap a .byte vs from hH.1 _ (List.mem_of_getElem? hi))
  obtain ⟨T', h', X', rfl, W, k⟩ := stB X hs.1 hZ rfl A (st_in hc hj hlt) (g := mkF m pc Ls (.int x :: .int j :: .ref a :: rest)) rfl rfl (hb hs.2.1 h1)
  exact ⟨T', _, _, X', W, KnA.set A hc r1 r2 r3 (fits_nar_byte x) W, k⟩
theorem Go.iastore {a : Addr} {vs : List Value} {j x : Int32} (hd : Dx code pc .iastore 1 pc') (i : Nat) (hi : D[i]? = some (a, .inr (.int, vs))) (hlt : j.toNatClampNeg < vs.length) (hD : D' = D.set i (a, .inr (.int, vs.set j.toNatClampNeg (.int x)))) (hj : ¬ j < 0 := by decide) (G : Go l Z a0 EL b n0 own code maxL ret nm R W0 Q D' S cells slots pc' Ls rest) : Go l Z a0 EL b n0 own code maxL ret nm R W0 Q D S cells slots pc Ls (.int x :: .int j :: .ref a :: rest) := by
  obtain ⟨h1, rfl⟩ := hd
  refine Go.write hi hD rfl (fun {p e s m args below meth c vm0 T locs} hs X hZ hH => ?_) G
  obtain ⟨cl, A, hc, r1, r2, r3⟩ := (show KnA Z T.heap a .int vs from hH.1 _ (List.mem_of_getElem? hi))
  obtain ⟨T', h', X', rfl, W, k⟩ := stI X hs.1 hZ rfl A (st_in hc hj hlt) (g := mkF m pc Ls (.int x :: .int j :: .ref a :: rest)) rfl rfl (hb hs.2.1 h1)
  exact ⟨T', _, _, X', W, KnA.set A hc r1 r2 r3 rfl W, k⟩
/-- what may lie in an array of C -/
def Fit1 (Z : State) (a0 : Array Value) (D S : List Ent) (C : String) (v : Value) : Prop :=
  v = .null ∨ ∃ y K fs, v = .ref y ∧ In (y, .inl (K, fs)) D S ∧ (K = C ∨ (Jvm.Cond.castable K C).before a0 Z = true)
theorem Go.aastore {a : Addr} {C : String} {vs : List Value} {j : Int32} {v : Value} (hd : Dx code pc .aastore 1 pc') (i : Nat) (hi : D[i]? = some (a, .inr (.object C, vs))) (hF : Fit1 Z a0 D S C v) (hlt : j.toNatClampNeg < vs.length) (hD : D' = D.set i (a, .inr (.object C, vs.set j.toNatClampNeg v))) (hj : ¬ j < 0 := by decide) (hst : C ≠ nstC := by decide) (G : Go l Z a0 EL b n0 own code maxL ret nm R W0 Q D' S cells slots pc' Ls rest) : Go l Z a0 EL b n0 own code maxL ret nm R W0 Q D S cells slots pc Ls (v :: .int j :: .ref a :: rest) := by
  obtain ⟨h1, rfl⟩ := hd
  refine Go.write hi hD rfl (fun {p e s m args below meth c vm0 T locs} hs X hZ hH => ?_) G
  obtain ⟨cl, A, hc, r1, r2, r3⟩ := (show KnA Z T.heap a (.object C) vs from hH.1 _ (List.mem_of_getElem? hi))
  have hsto : Sto Z T.heap a v ∧ fits (.object C) v = true := by
    rcases hF with rfl | ⟨y, K, fs, rfl, hy, hK⟩
    · exact ⟨Or.inl rfl, rfl⟩
    · obtain ⟨E, -⟩ := (show KnO Z T.heap y K fs from hH.at hy)
      refine ⟨Sto.of A (r3 C rfl hst) ?_, rfl⟩
      rcases hK with rfl | hK
      · exact Ins.self E
      · exact Ins.of_exa E hK
  obtain ⟨T', h', X', rfl, W, k⟩ := stR X hs.1 hZ rfl A (st_in hc hj hlt) rfl hsto.1 (g := mkF m pc Ls (v :: .int j :: .ref a :: rest)) rfl rfl (hb hs.2.1 h1)
  exact ⟨T', _, _, X', W, KnA.set A hc r1 r2 r3 hsto.2 W, k⟩
theorem Go.getfield {a : Addr} {idx : Nat} {C R0 O n d host : String} {fs : List (String × String × String × Value)} {v : Value} (hd : Dx code pc (.getfield idx) 3 pc') (w : (Jvm.Cond.fieldLink own idx R0 n d).before a0 Z = true ∨ (Jvm.Cond.fieldLinkNest own idx R0 n d host).before a0 Z = true) (via : Via Z R0 O n d) (hm : In (a, .inl (C, fs)) D S) (j : Nat) (hj : fs[j]? = some (O, n, d, v))
    (G : Go l Z a0 EL b n0 own code maxL ret nm R W0 Q D S cells slots pc' Ls (v :: rest)) : Go l Z a0 EL b n0 own code maxL ret nm R W0 Q D S cells slots pc Ls (.ref a :: rest) := by
  obtain ⟨h1, rfl⟩ := hd
  refine Go.same (fun {p e s m args below meth c vm0 T locs} hs X hZ _ hH => ?_) G
  obtain ⟨E, F, -⟩ := (show KnO Z T.heap a C fs from hH.at hm)
  obtain ⟨T', X', e', k⟩ := getF X hs.1 hZ hs.2.2.2.2.2.2 w via rfl (F _ (List.mem_of_getElem? hj)) (g := mkF m pc Ls (.ref a :: rest)) rfl rfl (hb hs.2.1 h1)
  exact ⟨T', X', e', k⟩
theorem Go.getstatic {idx : Nat} {R0 O n d host : String} {v : Value} (hd : Dx code pc (.getstatic idx) 3 pc') (w : (Jvm.Cond.fieldLink own idx R0 n d).before a0 Z = true ∨ (Jvm.Cond.fieldLinkNest own idx R0 n d host).before a0 Z = true) (via : Via Z R0 O n d) (F : Sta Z Z.heap O n d v)
    (G : Go l Z a0 EL b n0 own code maxL ret nm R W0 Q D S cells slots pc' Ls (v :: st)) : Go l Z a0 EL b n0 own code maxL ret nm R W0 Q D S cells slots pc Ls st := by
  obtain ⟨h1, rfl⟩ := hd
  refine Go.same (fun {p e s m args below meth c vm0 T locs} hs X hZ hO hH => ?_) G
  obtain ⟨T', X', e', k⟩ := getS2 X hs.1 hZ hs.2.2.2.2.2.2 w via rfl (F.ext hO.2) (g := mkF m pc Ls st) rfl (hb hs.2.1 h1)
  exact ⟨T', X', e', k⟩
theorem KnO.set {h h' : Heap} {a : Addr} {C O n d : String} {fs : List (String × String × String × Value)} {j : Nat} {v old : Value} (F : KnO Z h a C fs) (hj : fs[j]? = some (O, n, d, old)) (W : Wr h h' a (Jvm.RoadKit.slotOf Z O n d) v) : KnO Z h' a C (fs.set j (O, n, d, v)) := by
  obtain ⟨E, G, N⟩ := F
  refine ⟨E.wr W, fun f hf => ?_, ?_⟩
  · rcases set_mem hf with rfl | ⟨i, hi, q⟩
    · exact Fld.same (w := old) W (G _ (List.mem_of_getElem? hj))
    · refine Fld.other W (G f (List.mem_of_getElem? q)) (Or.inr fun e => hi ?_)
      have li : i < (fs.map fun f => Jvm.RoadKit.slotOf Z f.1 f.2.1 f.2.2.1).length := by simpa using (List.getElem?_eq_some_iff.mp q).1
      refine (List.getElem?_inj li N).mp ?_
      simp [q, hj, e]
  · have e : (fs.set j (O, n, d, v)).map (fun f => Jvm.RoadKit.slotOf Z f.1 f.2.1 f.2.2.1) = fs.map fun f => Jvm.RoadKit.slotOf Z f.1 f.2.1 f.2.2.1 := by
      apply List.ext_getElem?
      intro i
      rw [List.getElem?_map, List.getElem?_map, List.getElem?_set]
      by_cases q : j = i
      · subst q; rw [if_pos rfl, hj]; simp [(List.getElem?_eq_some_iff.mp hj).1]
      · rw [if_neg q]
    rw [e]; exact N
theorem Go.putfield {a : Addr} {idx kk : Nat} {C R0 O n d : String} {fs : List (String × String × String × Value)} {v v' old : Value} {ty : FieldType} (hd : Dx code pc (.putfield idx) 3 pc') (w : (Jvm.Cond.fieldLink own idx R0 n d).before a0 Z = true) (via : Via Z R0 O n d) (i : Nat) (hi : D[i]? = some (a, .inl (C, fs))) (j : Nat) (hj : fs[j]? = some (O, n, d, old))
    (hL : (Jvm.Cond.lays C O n d).before a0 Z = true ∨ ((Jvm.Cond.laysFinal C O n d).before a0 Z = true ∧ own = O ∧ nm = "<init>")) (wi : (Jvm.Cond.instantiable C kk).before a0 Z = true) (hty : parseFieldDescriptor d = some ty) (hn : narrow ty v = v') (hf : fits ty v' = true) (hD : D' = D.set i (a, .inl (C, fs.set j (O, n, d, v'))))
    (G : Go l Z a0 EL b n0 own code maxL ret nm R W0 Q D' S cells slots pc' Ls rest) : Go l Z a0 EL b n0 own code maxL ret nm R W0 Q D S cells slots pc Ls (v :: .ref a :: rest) := by
  obtain ⟨h1, rfl⟩ := hd
  refine Go.write hi hD rfl (fun {p e s m args below meth c vm0 T locs} hs X hZ hH => ?_) G
  have F := (show KnO Z T.heap a C fs from hH.1 _ (List.mem_of_getElem? hi))
  obtain ⟨T', h', X', rfl, W, k⟩ := putFN X hs.1 hZ hs.2.2.2.2.2.2 w via rfl (F.2.1 _ (List.mem_of_getElem? hj)) F.1 (hL.imp id fun q => ⟨q.1, q.2.1, hs.2.2.2.2.1.trans q.2.2⟩) wi hty hn hf (g := mkF m pc Ls (v :: .ref a :: rest)) rfl rfl (hb hs.2.1 h1)
  exact ⟨T', _, _, X', W, F.set hj W, k⟩
theorem Go.objInit {idx : Nat} {a : Addr} (hd : Dx code pc (.invokespecial idx) 3 pc') (w1 : (Jvm.Cond.methodLink own idx Lib.objectInit).before a0 Z = true) (w2 : (Jvm.Cond.instanceMethod Lib.objectInit).before a0 Z = true) (w3 : (Jvm.Cond.code Lib.objectInit ⟨#[0xb1]⟩ 1 none).before a0 Z = true) (hls : Ls.size = maxL) (hf : 1 ≤ R.frames) (hlo : (rest.map fun v => v.category).sum + 12 ≤ R.locals)
    (G : Go l Z a0 EL b n0 own code maxL ret nm R W0 Q D S cells slots pc' Ls rest) : Go l Z a0 EL b n0 own code maxL ret nm R W0 Q D S cells slots pc Ls (.ref a :: rest) := by
  obtain ⟨h1, rfl⟩ := hd
  refine Go.same (fun {p e s m args below meth c vm0 T locs} hs X hZ _ hH => ?_) G
  obtain ⟨T', X', e', k⟩ := initO X hs.1 hZ hs.2.2.2.2.2.2 w1 w2 w3 rfl (g := mkF m pc Ls (.ref a :: rest)) rfl (hls.trans hs.2.2.1.symm) rfl (hb hs.2.1 h1) hf (W := (rest.map fun v => v.category).sum) (by show 2 * 0 + _ ≤ _; omega) hlo
  exact ⟨T', X', e', k⟩
theorem Go.ldcInt {idx : Nat} {v : Int32} (hd : Dx code pc (.ldc idx) 2 pc') (w : (Jvm.Cond.constant own idx v).before a0 Z = true) (G : Go l Z a0 EL b n0 own code maxL ret nm R W0 Q D S cells slots pc' Ls (.int v :: st)) : Go l Z a0 EL b n0 own code maxL ret nm R W0 Q D S cells slots pc Ls st := by
  obtain ⟨h1, rfl⟩ := hd
  exact Go.same (fun {p e s m args below meth c vm0 T locs} hs X hZ _ hH => ⟨_, X, rfl, X.ldcInt hs.1 hs.2.2.2.2.2.2 (mvT hZ w) (g := mkF m pc Ls st) rfl (hb hs.2.1 h1)⟩) G
theorem Go.ldc2Long {idx : Nat} {v : Int64} (hd : Dx code pc (.ldc2_w idx) 3 pc') (w : (Jvm.Cond.constantLong own idx v).before a0 Z = true) (G : Go l Z a0 EL b n0 own code maxL ret nm R W0 Q D S cells slots pc' Ls (.long v :: st)) : Go l Z a0 EL b n0 own code maxL ret nm R W0 Q D S cells slots pc Ls st := by
  obtain ⟨h1, rfl⟩ := hd
  exact Go.same (fun {p e s m args below meth c vm0 T locs} hs X hZ _ hH => ⟨_, X, rfl, X.ldc2Long hs.1 hs.2.2.2.2.2.2 (mvT hZ w) (g := mkF m pc Ls st) rfl (hb hs.2.1 h1)⟩) G
theorem Go.checkcast {idx : Nat} {K C : String} {a : Addr} {fs : List (String × String × String × Value)} (hd : Dx code pc (.checkcast idx) 3 pc') (w : (Jvm.Cond.classLink own idx K).before a0 Z = true) (hm : In (a, .inl (C, fs)) D S) (hC : C = K ∨ (Jvm.Cond.castable C K).before a0 Z = true)
    (G : Go l Z a0 EL b n0 own code maxL ret nm R W0 Q D S cells slots pc' Ls (.ref a :: rest)) : Go l Z a0 EL b n0 own code maxL ret nm R W0 Q D S cells slots pc Ls (.ref a :: rest) := by
  obtain ⟨h1, rfl⟩ := hd
  refine Go.same (fun {p e s m args below meth c vm0 T locs} hs X hZ _ hH => ?_) G
  obtain ⟨E, -⟩ := (show KnO Z T.heap a C fs from hH.at hm)
  have I : Ins Z T.heap a K true := by
    rcases hC with rfl | hC
    · exact Ins.self E
    · exact Ins.of_exa E hC
  obtain ⟨T', X', e', k⟩ := castY X hs.1 hZ hs.2.2.2.2.2.2 w rfl I (g := mkF m pc Ls (.ref a :: rest)) rfl rfl (hb hs.2.1 h1)
  exact ⟨T', X', e', k⟩
theorem Go.instanceofY {idx : Nat} {K C : String} {a : Addr} {fs : List (String × String × String × Value)} (hd : Dx code pc (.instanceof idx) 3 pc') (w : (Jvm.Cond.classLink own idx K).before a0 Z = true) (hm : In (a, .inl (C, fs)) D S) (hC : C = K ∨ (Jvm.Cond.castable C K).before a0 Z = true)
    (G : Go l Z a0 EL b n0 own code maxL ret nm R W0 Q D S cells slots pc' Ls (.int 1 :: rest)) : Go l Z a0 EL b n0 own code maxL ret nm R W0 Q D S cells slots pc Ls (.ref a :: rest) := by
  obtain ⟨h1, rfl⟩ := hd
  refine Go.same (fun {p e s m args below meth c vm0 T locs} hs X hZ _ hH => ?_) G
  obtain ⟨E, -⟩ := (show KnO Z T.heap a C fs from hH.at hm)
  have I : Ins Z T.heap a K true := by
    rcases hC with rfl | hC
    · exact Ins.self E
    · exact Ins.of_exa E hC
  obtain ⟨T', X', e', k⟩ := instY X hs.1 hZ hs.2.2.2.2.2.2 w rfl I (g := mkF m pc Ls (.ref a :: rest)) rfl rfl (hb hs.2.1 h1)
  exact ⟨T', X', e', k⟩
theorem Go.lookupHit {d : Int} {ps : Array (Int × Int)} {len : Nat} {k : Int32} {a off : Int} {pc2 : Nat} (hd : Dx code pc (.lookupswitch d ps) len pc') (hs : (ps.toList.zip (ps.toList.drop 1)).all (fun (a, next) => a.1 < next.1) = true) (hf : ps.find? (·.1 == k.toInt) = some (a, off)) (hp : ((pc : Int) + off).toNat = pc2) (ho : 0 ≤ (pc : Int) + off)
    (G : Go l Z a0 EL b n0 own code maxL ret nm R W0 Q D S cells slots pc2 Ls rest) : Go l Z a0 EL b n0 own code maxL ret nm R W0 Q D S cells slots pc Ls (.int k :: rest) := by
  obtain ⟨h1, rfl⟩ := hd
  subst hp
  exact Go.same (fun {p e s m args below meth c vm0 T locs} h X hZ _ hH => ⟨_, X, rfl, fun t q => X.lookupswitchHit h.1 (g := mkF m pc Ls (.int k :: rest)) rfl rfl (hb h.2.1 h1) hs hf ho t q⟩) G
theorem Go.lookupMiss {d : Int} {ps : Array (Int × Int)} {len : Nat} {k : Int32} {pc2 : Nat} (hd : Dx code pc (.lookupswitch d ps) len pc') (hs : (ps.toList.zip (ps.toList.drop 1)).all (fun (a, next) => a.1 < next.1) = true) (hf : ps.find? (·.1 == k.toInt) = none) (hp : ((pc : Int) + d).toNat = pc2) (ho : 0 ≤ (pc : Int) + d)
    (G : Go l Z a0 EL b n0 own code maxL ret nm R W0 Q D S cells slots pc2 Ls rest) : Go l Z a0 EL b n0 own code maxL ret nm R W0 Q D S cells slots pc Ls (.int k :: rest) := by
  obtain ⟨h1, rfl⟩ := hd
  subst hp
  exact Go.same (fun {p e s m args below meth c vm0 T locs} h X hZ _ hH => ⟨_, X, rfl, fun t q => X.lookupswitchMiss h.1 (g := mkF m pc Ls (.int k :: rest)) rfl rfl (hb h.2.1 h1) hs hf ho t q⟩) G
theorem Go.instanceofN {idx : Nat} {K C : String} {a : Addr} {fs : List (String × String × String × Value)} (hd : Dx code pc (.instanceof idx) 3 pc') (w : (Jvm.Cond.classLink own idx K).before a0 Z = true) (hm : In (a, .inl (C, fs)) D S) (F : ∃ c t, Z.vm.findClass C = some c ∧ Z.vm.findClass K = some t ∧ Z.vm.assignable c t = false)
    (G : Go l Z a0 EL b n0 own code maxL ret nm R W0 Q D S cells slots pc' Ls (.int 0 :: rest)) : Go l Z a0 EL b n0 own code maxL ret nm R W0 Q D S cells slots pc Ls (.ref a :: rest) := by
  obtain ⟨h1, rfl⟩ := hd
  refine Go.same (fun {p e s m args below meth c vm0 T locs} hs X hZ _ hH => ?_) G
  obtain ⟨E, -⟩ := (show KnO Z T.heap a C fs from hH.at hm)
  obtain ⟨T', X', e', k⟩ := instNo X hs.1 hZ hs.2.2.2.2.2.2 w rfl E F (g := mkF m pc Ls (.ref a :: rest)) rfl rfl (hb hs.2.1 h1)
  exact ⟨T', X', e', k⟩
theorem Go.instanceofNull {idx : Nat} (hd : Dx code pc (.instanceof idx) 3 pc') (G : Go l Z a0 EL b n0 own code maxL ret nm R W0 Q D S cells slots pc' Ls (.int 0 :: rest)) : Go l Z a0 EL b n0 own code maxL ret nm R W0 Q D S cells slots pc Ls (.null :: rest) := by
  obtain ⟨h1, rfl⟩ := hd
  exact Go.same (fun {p e s m args below meth c vm0 T locs} hs X hZ _ hH => ⟨_, X, rfl, X.instanceofNull hs.1 (g := mkF m pc Ls (.null :: rest)) rfl rfl (hb hs.2.1 h1)⟩) G
theorem Go.checkcastNull {idx : Nat} (hd : Dx code pc (.checkcast idx) 3 pc') (G : Go l Z a0 EL b n0 own code maxL ret nm R W0 Q D S cells slots pc' Ls (.null :: rest)) : Go l Z a0 EL b n0 own code maxL ret nm R W0 Q D S cells slots pc Ls (.null :: rest) := by
  obtain ⟨h1, rfl⟩ := hd
  exact Go.same (fun {p e s m args below meth c vm0 T locs} hs X hZ _ hH => ⟨_, X, rfl, X.checkcastNull hs.1 (g := mkF m pc Ls (.null :: rest)) rfl rfl (hb hs.2.1 h1)⟩) G
/-- a class whose chain of superclasses misses K, K known by what is said of its objects -/
theorem NSroot {O K : String} {n : Nat} (w : (Jvm.Cond.noSuperclass O).before a0 Z = true) (wk : (Jvm.Cond.instantiable K n).before a0 Z = true) (hn : O ≠ K) : NS Z O K := by
  obtain ⟨c, k, h1, h2, h3, -⟩ := Cond.noSuperclass_spec w
  obtain ⟨t, kt, g1, -⟩ := Cond.instantiable_spec wk
  have hne := ids_ne h1 g1 hn
  exact ⟨c, t, h1, g1, fun fuel => by cases fuel <;> simp [Vm.isSubclassAux, hne, h2, h3]⟩
theorem NSno {C S K : String} {n : Nat} (w : (Jvm.Cond.superclass C S).before a0 Z = true) (wk : (Jvm.Cond.instantiable K n).before a0 Z = true) (N : NS Z C K) (hn : C ≠ K) : ∃ c t, Z.vm.findClass C = some c ∧ Z.vm.findClass K = some t ∧ Z.vm.assignable c t = false := by
  obtain ⟨c, t, h0, g0, n3⟩ := N
  obtain ⟨-, k, -, -, h2, -, -, h5, -, -⟩ := Cond.superclass_spec h0 w
  obtain ⟨t', kt, g1, g2, g5, g7, -⟩ := Cond.instantiable_spec wk
  cases g0.symm.trans g1
  have g8 : kt.isInterface = false := by simp at g7; exact g7.1
  have hne := ids_ne h0 g0 hn
  refine ⟨c, t, h0, g0, ?_⟩
  show Z.vm.assignableAux (255 + 1) c t = false
  simp [Vm.assignableAux, hne, h2, g2, h5, g5, g8, Vm.isSubclass, n3]
/-! the end of a body -/
theorem Go.retCore {v : Option Value} (hQ : Q v D S) (hc : cells ≤ R.cells) (hl : slots ≤ R.slots) (hv : ret = none → v = none)
    (H : ∀ {p : Program} {e : Env} {s : State} {m : MethodId} {args : Array Value} {below : List Frame} {meth : Method} {c : Code} {vm0 : Vm} {T : State} {locs : List Loc}, Sst own code maxL ret nm p m meth c vm0 → Stand p l e R (s.setVm vm0) m args below meth c T locs cells slots → ∀ fs, (∀ (f : JFrame) (acts : List Action), f.method = m → f.locked = none → f.entered = [] → (doReturn e (T.setTop f) acts v).1 = T.setFrames fs) → Steps p.tables e below (T.setTop (mkF m pc Ls st)) (T.setFrames fs)) :
    Go l Z a0 EL b n0 own code maxL ret nm R W0 Q D S cells slots pc Ls st := by
  intro fr p e s m args below meth c vm0 T locs hs X I
  obtain ⟨⟨e1, e2, ⟨k0, e3, e4⟩, e5⟩, ⟨c1, c2, c3, c4⟩, hH, i4, i5, i6⟩ := I
  have hlk : meth.locks = false := hs.2.2.2.2.2.1
  obtain ⟨fs, k1, k2, k3, k4⟩ := X.leaveW e3 e4 (v := v) (fun q => hv (hs.2.2.2.1.symm.trans q))
  have hA := CHv.at X e2 e1 c1.1
  refine ⟨T.setFrames fs, v, H hs X fs k1, k2, k3, locs, ⟨D, S, hQ, hH, fun x hx => ?_, i5, c4, c2, c3, c1.trans hA, fun q => State.WarmedH.trans (e5 q) X.warmed⟩, ?_⟩
  · obtain ⟨r1, r2, r3, r4⟩ := i4 x hx
    exact ⟨r1, hA.safe (hH.1 x hx).lt r2, r3, r4⟩
  · obtain ⟨a1, a2, a3, a4⟩ := k4
    exact ⟨a1, a2, a3, a4.mono hc hl⟩
theorem Go.retB {t : FieldType} {z z' : Int32} (hd : Dx code pc .ireturn 1 pc') (ht : t = .boolean ∨ t = .byte ∨ t = .char ∨ t = .short) (hz : nar t z = z') (hQ : Q (some (.int z')) D S) (hc : cells ≤ R.cells := by exact Nat.le_of_ble_eq_true rfl) (hl : slots ≤ R.slots := by exact Nat.le_of_ble_eq_true rfl) :
    Go l Z a0 EL b n0 own code maxL (some t) nm R W0 Q D S cells slots pc Ls (.int z :: rest) := by
  obtain ⟨h1, rfl⟩ := hd
  subst hz
  exact Go.retCore hQ hc hl (fun q => by cases q) (fun {p e s m args below meth c vm0 T locs} hs X fs hfs => retN X hs.1 hs.2.2.2.1 ht (hb hs.2.1 h1) hfs)
theorem Go.retI {z : Int32} (hd : Dx code pc .ireturn 1 pc') (hQ : Q (some (.int z)) D S) (hc : cells ≤ R.cells := by exact Nat.le_of_ble_eq_true rfl) (hl : slots ≤ R.slots := by exact Nat.le_of_ble_eq_true rfl) :
    Go l Z a0 EL b n0 own code maxL (some .int) nm R W0 Q D S cells slots pc Ls (.int z :: rest) := by
  obtain ⟨h1, rfl⟩ := hd
  exact Go.retCore hQ hc hl (fun q => by cases q) (fun {p e s m args below meth c vm0 T locs} hs X fs hfs => retOut X hs.1 hs.2.2.2.1 rfl (Or.inl ⟨rfl, Or.inl rfl, z, rfl⟩) (hb hs.2.1 h1) hfs)
theorem Go.retL {z : Int64} (hd : Dx code pc .lreturn 1 pc') (hQ : Q (some (.long z)) D S) (hc : cells ≤ R.cells := by exact Nat.le_of_ble_eq_true rfl) (hl : slots ≤ R.slots := by exact Nat.le_of_ble_eq_true rfl) :
    Go l Z a0 EL b n0 own code maxL (some .long) nm R W0 Q D S cells slots pc Ls (.long z :: rest) := by
  obtain ⟨h1, rfl⟩ := hd
  exact Go.retCore hQ hc hl (fun q => by cases q) (fun {p e s m args below meth c vm0 T locs} hs X fs hfs => retOut X hs.1 hs.2.2.2.1 rfl (Or.inr (Or.inl ⟨rfl, rfl, z, rfl⟩)) (hb hs.2.1 h1) hfs)
theorem Go.retA {t : FieldType} {w : Value} (hd : Dx code pc .areturn 1 pc') (hQ : Q (some w) D S) (ht : t.isReference = true := by rfl) (hw : w.isRef = true := by rfl) (hn : narrow t w = w := by rfl) (hc : cells ≤ R.cells := by exact Nat.le_of_ble_eq_true rfl) (hl : slots ≤ R.slots := by exact Nat.le_of_ble_eq_true rfl) :
    Go l Z a0 EL b n0 own code maxL (some t) nm R W0 Q D S cells slots pc Ls (w :: rest) := by
  obtain ⟨h1, rfl⟩ := hd
  exact Go.retCore hQ hc hl (fun q => by cases q) (fun {p e s m args below meth c vm0 T locs} hs X fs hfs => retOut X hs.1 hs.2.2.2.1 hn (Or.inr (Or.inr (Or.inr (Or.inr ⟨rfl, ht, hw⟩)))) (hb hs.2.1 h1) hfs)
theorem Go.retV (hd : Dx code pc .return_ 1 pc') (hQ : Q none D S) (hc : cells ≤ R.cells := by exact Nat.le_of_ble_eq_true rfl) (hl : slots ≤ R.slots := by exact Nat.le_of_ble_eq_true rfl) :
    Go l Z a0 EL b n0 own code maxL none nm R W0 Q D S cells slots pc Ls [] := by
  obtain ⟨h1, rfl⟩ := hd
  exact Go.retCore hQ hc hl (fun _ => rfl) (fun {p e s m args below meth c vm0 T locs} hs X fs hfs => X.returnOut hs.1 hs.2.2.2.1 (hb hs.2.1 h1) hfs)
/-! a String constant -/
abbrev sob (c : Addr) : Ob := .inl ("java/lang/String", [("java/lang/String", "value", "[B", .ref c), ("java/lang/String", "coder", "B", .int 0)])
def LayS (Z : State) (a0 : Array Value) : Prop := (Jvm.Cond.laysFinal "java/lang/String" "java/lang/String" "value" "[B").before a0 Z = true ∧ (Jvm.Cond.laysFinal "java/lang/String" "java/lang/String" "coder" "B").before a0 Z = true
theorem LayS.nodup (h : LayS Z a0) : [Jvm.RoadKit.slotOf Z "java/lang/String" "value" "[B", Jvm.RoadKit.slotOf Z "java/lang/String" "coder" "B"].Nodup := by
  have q := slot_ne (Or.inr h.1) (Or.inr h.2) (by decide) (t := .array .byte) (t' := .byte) (by decide) (by decide)
  simp [q]
theorem knA_of_arv {h : Heap} {a : Addr} {k : ClassId} {z : Int32} {vs : List Value} {d : Value} {ty : FieldType} (F : Arv Z h a k ty z vs d) (hz : z.toNatClampNeg = vs.length) (hlt : vs.length < 2147483648) (hty : ∀ C, ty ≠ .object C) : KnA Z h a ty vs := by
  obtain ⟨c, A, -, h1, -, H, G⟩ := F
  have e : c.slots = vs.toArray := by
    apply Array.ext_getElem?
    intro i
    by_cases q : i < c.slots.size
    · rw [H i q]
      have : i < vs.length := by omega
      simp [List.getD, this]
    · rw [Array.getElem?_eq_none (by omega)]
      simp; omega
  refine ⟨c, A, e, hlt, fun v hv => ?_, fun C q => absurd q (hty C)⟩
  obtain ⟨i, hi, rfl⟩ := List.getElem_of_mem hv
  have := G i (by omega)
  simpa [List.getD, hi] using this
theorem Go.ldcStr {idx n : Nat} {text : String} {vs : List Value} (hd : Dx code pc (.ldc idx) 2 pc') (w : (Jvm.Cond.stringLink own idx text).before a0 Z = true) (wS : ∀ a ∈ Bundle.stringAtoms, a.before a0 Z = true) (hmem : (own, idx) ∈ EL) (hb1 : b = true) (hlay : LayS Z a0)
    (ht : (∀ c ∈ text.toList, c.toNat < 256) ∧ text.toList.map (fun c => Value.int (Jvm.Lit.byteI c.toNat.toUInt16)) = vs) (hn : 4 * text.toList.length ≤ n) (hbig : n ≤ 536870912) (hc : cells + 2 ≤ R.cells := by exact Nat.le_of_ble_eq_true rfl) (hl : slots + (n + 4) ≤ R.slots := by exact Nat.le_of_ble_eq_true rfl)
    (G : ∀ a c, Go l Z a0 EL b n0 own code maxL ret nm R W0 Q D ((a, sob c) :: (c, .inr (.byte, vs)) :: S) (cells + 2) (slots + (n + 4)) pc' Ls (.ref a :: st)) : Go l Z a0 EL b n0 own code maxL ret nm R W0 Q D S cells slots pc Ls st := by
  obtain ⟨h1, rfl⟩ := hd
  intro fr p e s m args below meth c vm0 T locs hs X I
  obtain ⟨⟨e1, e2, ⟨k0, e3, e4⟩, e5⟩, ⟨c1, c2, c3, c4⟩, hH, i4, i5, i6⟩ := I
  have hlen : vs.length = text.toList.length := by rw [← ht.2, List.length_map]
  have hvl : vs.length < 2147483648 := by omega
  have hz : (vs.length.toInt32).toNatClampNeg = vs.length := by
    have q : vs.length.toInt32.toInt = vs.length := len_toInt hvl
    simp only [Int32.toNatClampNeg, q]; omega
  have hz0 : ¬ vs.length.toInt32 < 0 := by
    have q : vs.length.toInt32.toInt = vs.length := len_toInt hvl
    simp only [Int32.lt_iff_toInt_lt, q, Int32.reduceToInt]; omega
  obtain ⟨a, T', h', k1, cb, k, X', rfl, E, hS', hk', hW', hf', F1, F2, F3, F4, l1, l2, hC, hL, hne, st⟩ := ldcCH X hs.1 e2 hs.2.2.2.2.2.2 w wS rfl e3 e4 e1 hmem c1.1 ht hz0 hz (g := mkF m pc Ls st) rfl (hb hs.2.1 h1) hn hbig hc hl
  have sf : ∀ x ∈ D, Safe Z EL T'.vm T'.heap x.1 := fun x hx => hC.safe (hH.1 x hx).lt (i4 x hx).2.1
  have ff : ∀ y, fr y → Safe Z EL T'.vm T'.heap y := fun y hy => hC.safe (Nat.lt_of_lt_of_le (i6 y hy).2.2 c1.2.1) (i6 y hy).2.1
  obtain ⟨t, v, k', r⟩ := G a cb fr p e s m args below meth c T'.vm T' locs ⟨hs.1, hs.2.1, hs.2.2.1, hs.2.2.2.1, hs.2.2.2.2.1, hs.2.2.2.2.2.1, hf'⟩ X'
    ⟨⟨e1, hW', ⟨k1, hS', hk'⟩, fun q => by rw [hb1] at q; cases q⟩, ⟨c1.trans hC, c2, c3.ext E, c4.ext E⟩, ⟨fun x hx => (hH.1 x hx).ext E, fun x hx => by
        rcases List.mem_cons.mp hx with rfl | hx
        · refine ⟨F1, fun f hf => ?_, hlay.nodup⟩
          rcases List.mem_cons.mp hf with rfl | hf
          · exact F3
          · cases List.mem_singleton.mp hf; exact F2
        · rcases List.mem_cons.mp hx with rfl | hx
          · exact knA_of_arv F4 hz hvl (by simp)
          · exact (hH.2.1 x hx).ext E, hH.2.2.1, fun x hx q => by
        obtain ⟨z, hz', ez⟩ := List.mem_map.mp q
        rcases List.mem_cons.mp hx with rfl | hx
        · exact (hne _ (sf z hz')).1 ez
        · rcases List.mem_cons.mp hx with rfl | hx
          · exact (hne _ (sf z hz')).2 ez
          · exact hH.2.2.2 x hx q⟩, fun x hx => ⟨(i4 x hx).1, sf x hx, (i4 x hx).2.2⟩, fun x hx q => by
        rcases List.mem_cons.mp hx with rfl | hx
        · exact (hne _ (ff _ q)).1 rfl
        · rcases List.mem_cons.mp hx with rfl | hx
          · exact (hne _ (ff _ q)).2 rfl
          · exact i5 x hx q, fun y hy => ⟨(i6 y hy).1, ff y hy, (i6 y hy).2.2⟩⟩
  exact ⟨t, v, st t k', r⟩
/-! calls -/
theorem Met.backS {y : MethodName} {bytes : ByteArray} {mL : Nat} {rt : Option FieldType} {rm : Room} {as' : List Value} {D0 S0 : List Ent} {Q' : Option Value → List Ent → List Ent → Prop} {p : Program} {e : Env} {below : List Frame} {s : State} {vm0 : Vm} {args : Array Value} {len W : Nat} (hM : Met l Z a0 EL b n0 y bytes mL rt [] rm as' D0 S0 Q') (fr : Addr → Prop)
    (hZ : Z.Warmed39 vm0) (wc : (Jvm.Cond.code y bytes mL rt).before a0 Z = true) (wz : (Jvm.Cond.initialized y.cls).before a0 Z = true) (hf : rm.frames + 1 ≤ R.frames) (hl : W + (mL + 11) + rm.locals ≤ R.locals) :
    BackS l R p e below (s.setVm vm0) args y len W (fun A a => a = as'.toArray ∧ PreC Z a0 EL n0 fr D0 S0 A.U ∧ A.cells + rm.cells ≤ R.cells ∧ A.slots + rm.slots ≤ R.slots)
      (fun A _ v B => ∃ L, PostC Z EL b n0 (D0.map Prod.fst) fr Q' A.U B.U v L ∧ B.locs = A.locs ++ L ∧ B.cells = A.cells + rm.cells ∧ B.slots = A.slots + rm.slots) :=
  BackS.of_freeW (bytes := bytes) (maxL := mL) (ret := rt) (E := fun _ first o t L k n => k = rm.cells ∧ n = rm.slots ∧ ∃ v, o = .returned v ∧ PostC Z EL b n0 (D0.map Prod.fst) fr Q' first t v L) (hM fr) hf hl
    (fun m meth c A a Y hp => have hU : Z.Warmed39 A.U.vm := wtrans (s := s.setVm vm0) hZ Y.warmed
      ⟨by show (Jvm.Cond.and _ .tt).before a A.U = true; rw [Cond.before_and, mv hU wc]; rfl, mv hU wc, mv hU wz, hp.2.2.1, hp.2.2.2⟩)
    (fun m meth c A a g mk Y hp => ⟨hp.1, hp.2.1⟩) (fun _ _ _ _ _ _ _ _ _ => trivial)
    (fun _ _ _ _ ⟨v, L, h1, h2, h3⟩ => ⟨L, _, _, h3, rfl, rfl, v, h1, h2⟩)
    (fun m meth c A a g mk v t L k n Y hp _ _ ⟨e1, e2, v', e3, e4⟩ => by cases e3; subst e1 e2; exact ⟨L, e4, rfl, rfl, rfl⟩)
theorem Go.callCore {y : MethodName} {bytes : ByteArray} {mL : Nat} {rt : Option FieldType} {rm : Room} {as' : List Value} {D0 Dr S0 : List Ent} {Q' : Option Value → List Ent → List Ent → Prop} {len W : Nat} (lend : Bool) (hM : Met l Z a0 EL b n0 y bytes mL rt [] rm as' D0 S0 Q')
    (wc : (Jvm.Cond.code y bytes mL rt).before a0 Z = true) (wz : (Jvm.Cond.initialized y.cls).before a0 Z = true) (hf : rm.frames + 1 ≤ R.frames) (hlo : W + (mL + 11) + rm.locals ≤ R.locals) (hce : cells + rm.cells ≤ R.cells) (hsl : slots + rm.slots ≤ R.slots)
    (hD : D = D0 ++ Dr) (hS : ∀ x ∈ S0, x ∈ S ∨ (lend = true ∧ x ∈ Dr))
    (H : ∀ {p : Program} {e : Env} {s : State} {m : MethodId} {args : Array Value} {below : List Frame} {meth : Method} {c : Code} {vm0 : Vm} {T : State} {locs : List Loc}, Sst own code maxL ret nm p m meth c vm0 → Stand p l e R (s.setVm vm0) m args below meth c T locs cells slots → Z.Warmed39 (s.setVm vm0).vm → HH Z T.heap D S →
      ∀ {Pre : Pt → Array Value → Prop} {Post : Pt → Array Value → Option Value → Pt → Prop}, BackS l R p e below (s.setVm vm0) args y len W Pre Post → (∀ vm₁, (s.setVm vm0).WarmedH vm₁ → Pre ⟨T.setVm vm₁, locs, cells, slots⟩ as'.toArray) →
      ∃ (v : Option Value) (vm₁ : Vm) (B : Pt), (s.setVm vm0).WarmedH vm₁ ∧ Stand p l e R ((s.setVm vm0).setVm B.U.vm) m args below meth c B.U B.locs B.cells B.slots ∧ (s.setVm vm0).Since B.U.vm B.U.heap.size ∧ T.heap.size ≤ B.U.heap.size ∧ Post ⟨T.setVm vm₁, locs, cells, slots⟩ as'.toArray v B ∧
        Steps p.tables e below (T.setTop (mkF m pc Ls st)) (B.U.setTop (mkF m pc' Ls (v.toList ++ rest))))
    (G : ∀ v D' S', Q' v D' S' → Go l Z a0 EL b n0 own code maxL ret nm R W0 Q (D' ++ Dr) (bif lend then S else S' ++ S) (cells + rm.cells) (slots + rm.slots) pc' Ls (v.toList ++ rest)) : Go l Z a0 EL b n0 own code maxL ret nm R W0 Q D S cells slots pc Ls st := by
  intro fr p e s m args below meth c vm0 T locs hs X I
  obtain ⟨⟨e1, e2, ⟨k0, e3, e4⟩, e5⟩, ⟨c1, c2, c3, c4⟩, hH, i4, i5, i6⟩ := I
  subst hD
  have nd := hH.2.2.1
  rw [List.map_append, List.nodup_append] at nd
  obtain ⟨nd0, ndr, ndx⟩ := nd
  have sep : ∀ x ∈ D0, x.1 ∉ Dr.map Prod.fst := fun x hx q => ndx _ (List.mem_map.mpr ⟨x, hx, rfl⟩) _ q rfl
  have sep' : ∀ x ∈ Dr, x.1 ∉ D0.map Prod.fst := fun x hx q => ndx _ q _ (List.mem_map.mpr ⟨x, hx, rfl⟩) rfl
  have hA : ∀ vm₁, (s.setVm vm0).WarmedH vm₁ → CHr Z EL vm0 T.heap vm₁ T.heap := fun vm₁ hW => by
    have q := CHv.later (h' := T.heap) e2 (hW := (show (Wst Z vm0 T.heap).Warmed39 vm₁ from hW.wide)) e1 ⟨Nat.le_refl _, fun _ _ q => q⟩ (Or.inl hW.interned_eq) c1.1
    exact ⟨q.1, Nat.le_refl _, q.2⟩
  have hss : s.heap.size ≤ T.heap.size := c1.2.1
  have hpre : ∀ vm₁, (s.setVm vm0).WarmedH vm₁ → PreC Z a0 EL n0 (fun y => fr y ∨ (lend = false ∧ y ∈ Dr.map Prod.fst)) D0 S0 (T.setVm vm₁) := fun vm₁ hW => by
    have A := hA vm₁ hW
    refine ⟨e1, wtrans (s := s.setVm vm0) (U := T.setVm vm₁) e2 hW, A.1, c3, hH.sub (fun x hx => List.mem_append_left _ hx) nd0 (fun x hx => ?_), fun x hx => ?_, fun x hx q => ?_, fun y hy => ?_⟩
    · rcases hS x hx with q | ⟨-, q⟩
      · exact Or.inl q
      · exact Or.inr ⟨List.mem_append_right _ q, sep' x q⟩
    · obtain ⟨r1, r2, r3, r4⟩ := i4 x (List.mem_append_left _ hx)
      exact ⟨r1, A.safe (hH.1 x (List.mem_append_left _ hx)).lt r2, fun q => q.elim r3 fun r => sep x hx r.2⟩
    · rcases hS x hx with r | ⟨r0, r⟩
      · rcases q with q | ⟨-, q⟩
        · exact i5 x r q
        · exact hH.2.2.2 x r (by rw [List.map_append]; exact List.mem_append_right _ q)
      · rcases q with q | ⟨q0, -⟩
        · exact (i4 x (List.mem_append_right _ r)).2.2.1 q
        · rw [r0] at q0; cases q0
    · rcases hy with hy | ⟨-, hy⟩
      · obtain ⟨r1, r2, r3⟩ := i6 y hy
        exact ⟨r1, A.safe (Nat.lt_of_lt_of_le r3 hss) r2, Nat.lt_of_lt_of_le r3 hss⟩
      · obtain ⟨x, hx, rfl⟩ := List.mem_map.mp hy
        obtain ⟨r1, r2, r3, r4⟩ := i4 x (List.mem_append_right _ hx)
        have lt := (hH.1 x (List.mem_append_right _ hx)).lt
        exact ⟨r1, A.safe lt r2, lt⟩
  obtain ⟨v, vm₁, ⟨U, Lc, kc, nc⟩, hW, X', hS', hg, ⟨L, hP, l1, l2, l3⟩, k⟩ := H hs X e2 hH (hM.backS (fun y => fr y ∨ (lend = false ∧ y ∈ Dr.map Prod.fst)) e2 wc wz hf hlo) (fun vm₁ hW => ⟨rfl, hpre vm₁ hW, hce, hsl⟩)
  dsimp only [Pt.U, Pt.locs, Pt.cells, Pt.slots] at X' hS' hg hP l1 l2 l3 k
  subst l1 l2 l3
  obtain ⟨D', S', hq, hH', hD', hS'', hK, hFr, hO, hC, hWb⟩ := hP
  have hK : Keep T.heap U.heap (D0.map Prod.fst) := hK
  have hC0 : CHr Z EL vm₁ T.heap U.vm U.heap := hC
  have hC1 : CHr Z EL vm0 T.heap U.vm U.heap := (hA vm₁ hW).trans hC0
  have new' : ∀ x ∈ D', x.1 ∉ Dr.map Prod.fst ∧ (∀ z ∈ S, z.1 ≠ x.1) := fun x hx => by
    rcases (hD' x hx).2.2.2 with q | q
    · refine ⟨fun r => ndx _ q _ r rfl, fun z hz r => hH.2.2.2 z hz ?_⟩
      rw [List.map_append, r]; exact List.mem_append_left _ q
    · have q : T.heap.size ≤ x.1 := q
      refine ⟨fun r => ?_, fun z hz r => ?_⟩
      · obtain ⟨z, hz, ez⟩ := List.mem_map.mp r
        have ez := aN ez; have q := aM q; have := aL (hH.1 z (List.mem_append_right _ hz)).lt; omega
      · have r := aN r; have q := aM q; have := aL (hH.2.1 z hz).lt; omega
  have kdr : ∀ x ∈ Dr, Kn Z U.heap x := fun x hx => (hH.1 x (List.mem_append_right _ hx)).keep hK (sep' x hx)
  have ks : ∀ x ∈ S, Kn Z U.heap x := fun x hx => (hH.2.1 x hx).keep hK (fun q => hH.2.2.2 x hx (by rw [List.map_append]; exact List.mem_append_left _ q))
  have hHH : HH Z U.heap (D' ++ Dr) (bif lend then S else S' ++ S) := by
    refine ⟨fun x hx => (List.mem_append.mp hx).elim (hH'.1 x) (kdr x), fun x hx => ?_, ?_, fun x hx => ?_⟩
    · cases lend
      · exact (List.mem_append.mp hx).elim (hH'.2.1 x) (ks x)
      · exact ks x hx
    · rw [List.map_append, List.nodup_append]
      refine ⟨hH'.2.2.1, ndr, fun a ha b hb e => ?_⟩
      obtain ⟨x, hx, rfl⟩ := List.mem_map.mp ha
      exact (new' x hx).1 (e ▸ hb)
    · have hSs : ∀ x ∈ S, x.1 ∉ (D' ++ Dr).map Prod.fst := fun x hx q => by
        rw [List.map_append, List.mem_append] at q
        rcases q with q | q
        · obtain ⟨z, hz, ez⟩ := List.mem_map.mp q
          exact (new' z hz).2 x hx ez.symm
        · exact hH.2.2.2 x hx (by rw [List.map_append]; exact List.mem_append_right _ q)
      cases lend
      · rcases List.mem_append.mp hx with hx | hx
        · rw [List.map_append, List.mem_append]
          rintro (q | q)
          · exact hH'.2.2.2 x hx q
          · exact hS'' x hx (Or.inr ⟨rfl, q⟩)
        · exact hSs x hx
      · exact hSs x hx
  have hZU : Z.Warmed39 U.vm := State.Warmed39.trans (t := s.setVm vm0) e2 hS'.1
  obtain ⟨t, v', k', r⟩ := G v D' S' hq fr p e s m args below meth c U.vm U (locs ++ L) ⟨hs.1, hs.2.1, hs.2.2.1, hs.2.2.2.1, hs.2.2.2.2.1, hs.2.2.2.2.2.1, by rw [hS'.1.alike.findClass]; exact hs.2.2.2.2.2.2⟩ X'
    ⟨⟨e1, hZU, ⟨U.heap.size, e3.trans hS' (Nat.le_trans e4 hg), Nat.le_refl _⟩, fun q => State.WarmedH.trans (State.WarmedH.trans (t := s.setVm vm0) (e5 q) hW) (hWb q)⟩,
      ⟨c1.trans hC1, c2.app hFr, hO, c4.trans hK (fun x hx => by
        obtain ⟨z, hz, rfl⟩ := List.mem_map.mp hx
        exact (i4 z (List.mem_append_left _ hz)).2.2.2)⟩, hHH, fun x hx => by
        rcases List.mem_append.mp hx with hx | hx
        · obtain ⟨r1, r2, r3, r4⟩ := hD' x hx
          refine ⟨r1, r2, fun q => r3 (Or.inl q), ?_⟩
          rcases r4 with q | q
          · obtain ⟨z, hz, ez⟩ := List.mem_map.mp q
            rw [← ez]; exact (i4 z (List.mem_append_left _ hz)).2.2.2
          · exact Or.inr (Nat.le_trans hss q)
        · obtain ⟨r1, r2, r3, r4⟩ := i4 x (List.mem_append_right _ hx)
          exact ⟨r1, hC1.safe (hH.1 x (List.mem_append_right _ hx)).lt r2, r3, r4⟩, fun x hx => by
        cases lend
        · rcases List.mem_append.mp hx with hx | hx
          · exact fun q => hS'' x hx (Or.inl q)
          · exact i5 x hx
        · exact i5 x hx, fun y hy => by
        obtain ⟨r1, r2, r3⟩ := i6 y hy
        exact ⟨r1, hC1.safe (Nat.lt_of_lt_of_le r3 hss) r2, r3⟩⟩
  exact ⟨t, v', k.trans k', r⟩
/-- the state, written anew -/
theorem Go.norm {D2 S2 : List Ent} {c2 s2 pc2 : Nat} {Ls2 : Array Slot} {st2 : List Value} (G : Go l Z a0 EL b n0 own code maxL ret nm R W0 Q D2 S2 c2 s2 pc2 Ls2 st2) (h1 : D = D2 := by rfl) (h2 : S = S2 := by rfl) (h3 : cells = c2 := by rfl) (h4 : slots = s2 := by rfl) (h5 : pc = pc2 := by rfl) (h6 : Ls = Ls2 := by rfl) (h7 : st = st2 := by rfl) :
    Go l Z a0 EL b n0 own code maxL ret nm R W0 Q D S cells slots pc Ls st := by
  subst h1 h2 h3 h4 h5 h6 h7; exact G
section Calls
variable {y : MethodName} {bytes : ByteArray} {mL : Nat} {rt : Option FieldType} {rm : Room} {argsL : List Value} {D0 Dr S0 : List Ent} {Q' : Option Value → List Ent → List Ent → Prop} {idx : Nat} {ps : List FieldType} {rr : Option FieldType}
theorem Go.invokestatic (lend : Bool) (hd : Dx code pc (.invokestatic idx) 3 pc') (w1 : (Jvm.Cond.methodLink own idx y).before a0 Z = true) (w2 : (Jvm.Cond.static y).before a0 Z = true) (w3 : (Jvm.Cond.initialized y.cls).before a0 Z = true) (w4 : (Jvm.Cond.code y bytes mL rt).before a0 Z = true) (hM : Met l Z a0 EL b n0 y bytes mL rt [] rm argsL D0 S0 Q')
    (hp : parseMethodDescriptor y.desc = some ⟨ps, rr⟩) (hlen : argsL.length = ps.length) (hst : st = argsL.reverse ++ rest) (hls : Ls.size = maxL) (hD : D = D0 ++ Dr) (hS : ∀ x ∈ S0, x ∈ S ∨ (lend = true ∧ x ∈ Dr)) (hy : y.cls ≠ "java/lang/invoke/MethodHandle" ∧ y.cls ≠ "java/lang/invoke/VarHandle" := by decide)
    (hf : rm.frames + 1 ≤ R.frames := by exact Nat.le_of_ble_eq_true rfl) (hlo : (rest.map fun v => v.category).sum + (mL + 11) + rm.locals ≤ R.locals := by exact Nat.le_of_ble_eq_true rfl) (hce : cells + rm.cells ≤ R.cells := by exact Nat.le_of_ble_eq_true rfl) (hsl : slots + rm.slots ≤ R.slots := by exact Nat.le_of_ble_eq_true rfl)
    (G : ∀ v D' S', Q' v D' S' → Go l Z a0 EL b n0 own code maxL ret nm R W0 Q (D' ++ Dr) (bif lend then S else S' ++ S) (cells + rm.cells) (slots + rm.slots) pc' Ls (v.toList ++ rest)) : Go l Z a0 EL b n0 own code maxL ret nm R W0 Q D S cells slots pc Ls st := by
  obtain ⟨h1, rfl⟩ := hd
  subst hst
  refine Go.callCore (len := 3) lend hM w4 w3 hf hlo hce hsl hD hS (fun {p e s m args below meth c vm0 T locs} hs X hZ hH {Pre Post} hB hpre => ?_) G
  exact callSS X hs.1 hs.2.2.2.2.2.2 (mvT hZ w1) (mvT hZ w2) (mvT hZ w3) (mvT hZ w4) hy hB (g := mkF m pc Ls (argsL.reverse ++ rest)) rfl (hls.trans hs.2.2.1.symm) (argsL := argsL) (rest := rest) (lenOf hp hlen) rfl (by show 2 * 0 + _ ≤ _; omega) (hb hs.2.1 h1) hpre
theorem Go.invokeinit {a : Addr} (lend : Bool) (hd : Dx code pc (.invokespecial idx) 3 pc') (hy1 : y.name = "<init>") (w1 : (Jvm.Cond.methodLink own idx y).before a0 Z = true) (w2 : (Jvm.Cond.instanceMethod y).before a0 Z = true) (w3 : (Jvm.Cond.initialized y.cls).before a0 Z = true) (w4 : (Jvm.Cond.code y bytes mL none).before a0 Z = true) (hM : Met l Z a0 EL b n0 y bytes mL none [] rm (.ref a :: argsL) D0 S0 Q')
    (hp : parseMethodDescriptor y.desc = some ⟨ps, rr⟩) (hlen : argsL.length = ps.length) (hst : st = argsL.reverse ++ .ref a :: rest) (hls : Ls.size = maxL) (hD : D = D0 ++ Dr) (hS : ∀ x ∈ S0, x ∈ S ∨ (lend = true ∧ x ∈ Dr)) (hy : y.cls ≠ "java/lang/invoke/MethodHandle" ∧ y.cls ≠ "java/lang/invoke/VarHandle" := by decide)
    (hf : rm.frames + 1 ≤ R.frames := by exact Nat.le_of_ble_eq_true rfl) (hlo : (rest.map fun v => v.category).sum + (mL + 11) + rm.locals ≤ R.locals := by exact Nat.le_of_ble_eq_true rfl) (hce : cells + rm.cells ≤ R.cells := by exact Nat.le_of_ble_eq_true rfl) (hsl : slots + rm.slots ≤ R.slots := by exact Nat.le_of_ble_eq_true rfl)
    (G : ∀ v D' S', Q' v D' S' → Go l Z a0 EL b n0 own code maxL ret nm R W0 Q (D' ++ Dr) (bif lend then S else S' ++ S) (cells + rm.cells) (slots + rm.slots) pc' Ls (v.toList ++ rest)) : Go l Z a0 EL b n0 own code maxL ret nm R W0 Q D S cells slots pc Ls st := by
  obtain ⟨h1, rfl⟩ := hd
  subst hst
  refine Go.callCore (len := 3) lend hM w4 w3 hf hlo hce hsl hD hS (fun {p e s m args below meth c vm0 T locs} hs X hZ hH {Pre Post} hB hpre => ?_) G
  exact X.specialBackS hs.1 hy1 hs.2.2.2.2.2.2 (mvT hZ w1) (mvT hZ w2) (mvT hZ w4) hy hB (g := mkF m pc Ls (argsL.reverse ++ .ref a :: rest)) rfl (hls.trans hs.2.2.1.symm) (Steps.refl _) (a := a) (argsL := argsL) (rest := rest) (lenOf hp hlen) rfl (by show 2 * 0 + _ ≤ _; omega) (hb hs.2.1 h1) hpre
theorem Go.invokevirtual {a : Addr} {z : MethodName} {C : String} {fs : List (String × String × String × Value)} (lend : Bool) (hd : Dx code pc (.invokevirtual idx) 3 pc') (w1 : (Jvm.Cond.methodLink own idx y).before a0 Z = true) (w2 : (Jvm.Cond.declares y).before a0 Z = true) (w5 : (Jvm.Cond.selects C y z).before a0 Z = true) (w6 : (Jvm.Cond.instanceMethod z).before a0 Z = true) (w3 : (Jvm.Cond.initialized z.cls).before a0 Z = true) (w4 : (Jvm.Cond.code z bytes mL rt).before a0 Z = true)
    (hnf : ∀ s : State, Z.Warmed39 s.vm → NotFace s y) (hm : In (a, .inl (C, fs)) D S) (hM : Met l Z a0 EL b n0 z bytes mL rt [] rm (.ref a :: argsL) D0 S0 Q')
    (hp : parseMethodDescriptor y.desc = some ⟨ps, rr⟩) (hlen : argsL.length = ps.length) (hst : st = argsL.reverse ++ .ref a :: rest) (hls : Ls.size = maxL) (hD : D = D0 ++ Dr) (hS : ∀ x ∈ S0, x ∈ S ∨ (lend = true ∧ x ∈ Dr)) (hy : y.cls ≠ "java/lang/invoke/MethodHandle" ∧ y.cls ≠ "java/lang/invoke/VarHandle" := by decide)
    (hf : rm.frames + 1 ≤ R.frames := by exact Nat.le_of_ble_eq_true rfl) (hlo : (rest.map fun v => v.category).sum + (mL + 11) + rm.locals ≤ R.locals := by exact Nat.le_of_ble_eq_true rfl) (hce : cells + rm.cells ≤ R.cells := by exact Nat.le_of_ble_eq_true rfl) (hsl : slots + rm.slots ≤ R.slots := by exact Nat.le_of_ble_eq_true rfl)
    (G : ∀ v D' S', Q' v D' S' → Go l Z a0 EL b n0 own code maxL ret nm R W0 Q (D' ++ Dr) (bif lend then S else S' ++ S) (cells + rm.cells) (slots + rm.slots) pc' Ls (v.toList ++ rest)) : Go l Z a0 EL b n0 own code maxL ret nm R W0 Q D S cells slots pc Ls st := by
  obtain ⟨h1, rfl⟩ := hd
  subst hst
  refine Go.callCore (len := 3) lend hM w4 w3 hf hlo hce hsl hD hS (fun {p e s m args below meth c vm0 T locs} hs X hZ hH {Pre Post} hB hpre => ?_) G
  obtain ⟨E, -⟩ := (show KnO Z T.heap a C fs from hH.at hm)
  obtain ⟨cB, kB, q1, q2, q3⟩ := isOf hZ rfl E
  exact X.virtualBackS hs.1 hs.2.2.2.2.2.2 (mvT hZ w1) (mvT hZ w2) (hnf _ hZ) (mvT hZ w5) (mvT hZ w6) hy hB q1 q3 (g := mkF m pc Ls (argsL.reverse ++ .ref a :: rest)) rfl (hls.trans hs.2.2.1.symm) (Steps.refl _) (argsL := argsL) (rest := rest) (lenOf hp hlen) rfl (by show 2 * 0 + _ ≤ _; omega) (hb hs.2.1 h1) hpre
/-- the class that declares it selects it: no interface -/
theorem nfSel {C : String} (w : (Jvm.Cond.selects C y y).before a0 Z = true) : ∀ s : State, Z.Warmed39 s.vm → NotFace s y := fun s hZ => notFace_of_selects (args := #[]) (mvT hZ w)
theorem Go.invokeprivate {a : Addr} {C : String} {fs : List (String × String × String × Value)} (lend : Bool) (hd : Dx code pc (.invokevirtual idx) 3 pc') (w1 : (Jvm.Cond.methodLink own idx y).before a0 Z = true) (w2 : (Jvm.Cond.instanceMethod y).before a0 Z = true) (w5 : (Jvm.Cond.selects y.cls y y).before a0 Z = true) (w6 : (Jvm.Cond.privateMethod y).before a0 Z = true) (w3 : (Jvm.Cond.initialized y.cls).before a0 Z = true) (w4 : (Jvm.Cond.code y bytes mL rt).before a0 Z = true)
    (hm : In (a, .inl (C, fs)) D S) (hM : Met l Z a0 EL b n0 y bytes mL rt [] rm (.ref a :: argsL) D0 S0 Q')
    (hp : parseMethodDescriptor y.desc = some ⟨ps, rr⟩) (hlen : argsL.length = ps.length) (hst : st = argsL.reverse ++ .ref a :: rest) (hls : Ls.size = maxL) (hD : D = D0 ++ Dr) (hS : ∀ x ∈ S0, x ∈ S ∨ (lend = true ∧ x ∈ Dr)) (hy : y.cls ≠ "java/lang/invoke/MethodHandle" ∧ y.cls ≠ "java/lang/invoke/VarHandle" := by decide)
    (hf : rm.frames + 1 ≤ R.frames := by exact Nat.le_of_ble_eq_true rfl) (hlo : (rest.map fun v => v.category).sum + (mL + 11) + rm.locals ≤ R.locals := by exact Nat.le_of_ble_eq_true rfl) (hce : cells + rm.cells ≤ R.cells := by exact Nat.le_of_ble_eq_true rfl) (hsl : slots + rm.slots ≤ R.slots := by exact Nat.le_of_ble_eq_true rfl)
    (G : ∀ v D' S', Q' v D' S' → Go l Z a0 EL b n0 own code maxL ret nm R W0 Q (D' ++ Dr) (bif lend then S else S' ++ S) (cells + rm.cells) (slots + rm.slots) pc' Ls (v.toList ++ rest)) : Go l Z a0 EL b n0 own code maxL ret nm R W0 Q D S cells slots pc Ls st := by
  obtain ⟨h1, rfl⟩ := hd
  subst hst
  refine Go.callCore (len := 3) lend hM w4 w3 hf hlo hce hsl hD hS (fun {p e s m args below meth c vm0 T locs} hs X hZ hH {Pre Post} hB hpre => ?_) G
  obtain ⟨E, -⟩ := (show KnO Z T.heap a C fs from hH.at hm)
  obtain ⟨cq, q1, q2⟩ := E.cell
  exact X.privateBackS hs.1 hs.2.2.2.2.2.2 (mvT hZ w1) (mvT hZ w2) (mvT hZ w5) (Cond.privateMethod_at (mvP hZ w6 (args := #[]))) (mvT hZ w4) hy hB (g := mkF m pc Ls (argsL.reverse ++ .ref a :: rest)) rfl (hls.trans hs.2.2.1.symm) (Steps.refl _) q1 q2 (argsL := argsL) (rest := rest) (lenOf hp hlen) rfl (by show 2 * 0 + _ ≤ _; omega) (hb hs.2.1 h1) hpre
theorem Go.invokeinterface {a : Addr} {xi : MethodName} {count : Nat} {C : String} {fs : List (String × String × String × Value)} (lend : Bool) (hd : Dx code pc (.invokeinterface idx count) 5 pc') (w1 : (Jvm.Cond.methodLink own idx xi).before a0 Z = true) (w2 : (Jvm.Cond.declares xi).before a0 Z = true) (w7 : (Jvm.Cond.interfaceMethod xi.cls xi.cls xi.name xi.desc).before a0 Z = true) (w5 : (Jvm.Cond.selects C xi y).before a0 Z = true) (w6 : (Jvm.Cond.instanceMethod y).before a0 Z = true) (w8 : (Jvm.Cond.publicMethod y).before a0 Z = true) (w9 : (Jvm.Cond.unhidden C xi.name xi.desc).before a0 Z = true) (w10 : (Jvm.Cond.castable C xi.cls).before a0 Z = true)
    (w3 : (Jvm.Cond.initialized y.cls).before a0 Z = true) (w4 : (Jvm.Cond.code y bytes mL rt).before a0 Z = true) (hm : In (a, .inl (C, fs)) D S) (hM : Met l Z a0 EL b n0 y bytes mL rt [] rm (.ref a :: argsL) D0 S0 Q')
    (hp : parseMethodDescriptor xi.desc = some ⟨ps, rr⟩) (hlen : argsL.length = ps.length) (hst : st = argsL.reverse ++ .ref a :: rest) (hls : Ls.size = maxL) (hD : D = D0 ++ Dr) (hS : ∀ x ∈ S0, x ∈ S ∨ (lend = true ∧ x ∈ Dr)) (hy : xi.cls ≠ "java/lang/invoke/MethodHandle" ∧ xi.cls ≠ "java/lang/invoke/VarHandle" := by decide)
    (hk7 : ((Jvm.Cond.interfaceMethod xi.cls xi.cls xi.name xi.desc).onTables && (Jvm.Cond.interfaceMethod xi.cls xi.cls xi.name xi.desc).keepsFace) = true := by first | rfl | decide)
    (hf : rm.frames + 1 ≤ R.frames := by exact Nat.le_of_ble_eq_true rfl) (hlo : (rest.map fun v => v.category).sum + (mL + 11) + rm.locals ≤ R.locals := by exact Nat.le_of_ble_eq_true rfl) (hce : cells + rm.cells ≤ R.cells := by exact Nat.le_of_ble_eq_true rfl) (hsl : slots + rm.slots ≤ R.slots := by exact Nat.le_of_ble_eq_true rfl)
    (G : ∀ v D' S', Q' v D' S' → Go l Z a0 EL b n0 own code maxL ret nm R W0 Q (D' ++ Dr) (bif lend then S else S' ++ S) (cells + rm.cells) (slots + rm.slots) pc' Ls (v.toList ++ rest)) : Go l Z a0 EL b n0 own code maxL ret nm R W0 Q D S cells slots pc Ls st := by
  obtain ⟨h1, rfl⟩ := hd
  subst hst
  refine Go.callCore (len := 5) lend hM w4 w3 hf hlo hce hsl hD hS (fun {p e s m args below meth c vm0 T locs} hs X hZ hH {Pre Post} hB hpre => ?_) G
  obtain ⟨E, -⟩ := (show KnO Z T.heap a C fs from hH.at hm)
  obtain ⟨cB, kB, q1, q2, q3⟩ := isOf hZ rfl E
  exact X.interfaceBackS hs.1 hs.2.2.2.2.2.2 (mvT hZ w1) (mvT hZ w2) (mvT hZ w7 hk7) (mvT hZ w5) (mvT hZ w6) (mvT hZ w8) (mvT hZ w9) (mvT hZ w10) hy hB q1 q2 q3 (g := mkF m pc Ls (argsL.reverse ++ .ref a :: rest)) rfl (hls.trans hs.2.2.1.symm) (Steps.refl _) (argsL := argsL) (rest := rest) (lenOf hp hlen) rfl (by show 2 * 0 + _ ≤ _; omega) (hb hs.2.1 h1) hpre
/-- an array of the start's heap, cloned, and the cast behind it -/
theorem Go.cloneCast {k2 : Nat} {a : Addr} {ad : String} {ty : FieldType} {vs : List Value} {pc2 : Nat} (hd : Dx code pc (.invokevirtual idx) 3 pc') (hd2 : Dx code pc' (.checkcast k2) 3 pc2) (w1 : (Jvm.Cond.methodLink own idx ⟨ad, "clone", "()Ljava/lang/Object;"⟩).before a0 Z = true) (w2 : (Jvm.Cond.sameMethod ad "java/lang/Object" "clone" "()Ljava/lang/Object;").before a0 Z = true) (w3 : (Jvm.Cond.native ⟨"java/lang/Object", "clone", "()Ljava/lang/Object;"⟩).before a0 Z = true)
    (w4 : (Jvm.Cond.instanceMethod ⟨"java/lang/Object", "clone", "()Ljava/lang/Object;"⟩).before a0 Z = true) (w5 : (Jvm.Cond.selects ad ⟨ad, "clone", "()Ljava/lang/Object;"⟩ ⟨"java/lang/Object", "clone", "()Ljava/lang/Object;"⟩).before a0 Z = true) (w6 : (Jvm.Cond.castable ad "java/lang/Cloneable").before a0 Z = true) (w7 : (Jvm.Cond.classLink own k2 ad).before a0 Z = true)
    (hm : In (a, .inr (ty, vs)) D S) (E : Exa Z Z.heap a ad) (hls : Ls.size = maxL := by rfl) (hf : 1 ≤ R.frames := by exact Nat.le_of_ble_eq_true rfl) (hlo : (rest.map fun v => v.category).sum + 14 ≤ R.locals := by exact Nat.le_of_ble_eq_true rfl) (hce : cells + 1 ≤ R.cells := by exact Nat.le_of_ble_eq_true rfl) (hsl : slots + vs.length ≤ R.slots := by exact Nat.le_of_ble_eq_true rfl)
    (G : ∀ d, Go l Z a0 EL b n0 own code maxL ret nm R W0 Q ((d, .inr (ty, vs)) :: D) S (cells + 1) (slots + vs.length) pc2 Ls (.ref d :: rest)) : Go l Z a0 EL b n0 own code maxL ret nm R W0 Q D S cells slots pc Ls (.ref a :: rest) := by
  obtain ⟨h1, rfl⟩ := hd
  obtain ⟨h2, rfl⟩ := hd2
  intro fr p e s m args below meth c vm0 T locs hs X I
  have hO := I.2.1.2.2.1
  have E' : Exa Z T.heap a ad := E.keep ((Keep.refl _ []).ext hO.2)
  obtain ⟨cl, A, hc', r1, r2, r3⟩ := (show KnA Z T.heap a ty vs from I.2.2.1.at hm)
  have F : FitC Z cl := fitC_of A fun i hi v hv => r2 v (by rw [hc', List.getElem?_toArray] at hv; exact List.mem_of_getElem? hv)
  obtain ⟨T', h', X', rfl, EE, A', E2, k⟩ := cloneA X hs.1 I.1.2.1 hs.2.2.2.2.2.2 w1 w2 w3 w4 w5 w6 rfl A E' F (g := mkF m pc Ls (.ref a :: rest)) rfl (hls.trans hs.2.2.1.symm) rfl (hb hs.2.1 h1) hf (W := (rest.map fun v => v.category).sum) (by show 2 * 0 + _ ≤ _; omega) hlo (cap := vs.length) (by rw [hc', List.size_toArray]; exact Nat.le_refl _) hce hsl
  obtain ⟨T2, X2, e2, k2⟩ := castY X' hs.1 I.1.2.1 hs.2.2.2.2.2.2 w7 rfl (Ins.self E2) (g := mkF m (pc + 3) Ls (.ref T.heap.size :: rest)) rfl rfl (hb hs.2.1 h2)
  obtain ⟨t, v, k', r⟩ := G T.heap.size fr p e s m args below meth c vm0 T2 locs hs X2 (by rw [e2]; exact I.ext EE (x := (T.heap.size, .inr (ty, vs))) rfl ⟨_, A', hc', r1, r2, r3⟩)
  exact ⟨t, v, k t (k2 t k'), r⟩
end Calls
end GoKit
abbrev rm4 (f c s l : Nat) : Room := { frames := f, cells := c, slots := s, locals := l }
theorem eN {α : Type} {P : α → Prop} : ∀ x ∈ ([] : List α), P x := fun _ q => nomatch q
theorem eS {α : Type} {P : α → Prop} {y : α} {L : List α} (q : P y) (r : ∀ x ∈ L, P x) : ∀ x ∈ y :: L, P x := fun x z => (List.mem_cons.mp z).elim (fun u => u ▸ q) (r x)
theorem nI_int {i : Nat} (h : i < 2147483648) : (Int32.ofNat i).toInt = i := len_toInt h
theorem nI_nn {i : Nat} (h : i < 2147483648) : ¬ Int32.ofNat i < 0 := by
  rw [Int32.lt_iff_toInt_lt, nI_int h]; simp
theorem nI_nat {i : Nat} (h : i < 2147483648) : (Int32.ofNat i).toNatClampNeg = i := by
  simp only [Int32.toNatClampNeg, nI_int h]; omega
theorem nI_lt {i n : Nat} (h : i < 2147483648) (hn : n < 2147483648) : Int32.ofNat i < Int32.ofNat n ↔ i < n := by
  rw [Int32.lt_iff_toInt_lt, nI_int h, nI_int hn]; omega
theorem nI_succ (i : Nat) : Int32.ofNat i + 1 = Int32.ofNat (i + 1) := (Int32.ofNat_add i 1).symm
theorem nI_eq {i n : Nat} (h : i < 2147483648) (hn : n < 2147483648) : Int32.ofNat i = Int32.ofNat n ↔ i = n := by
  rw [← Int32.toInt_inj, nI_int h, nI_int hn]; omega
theorem nar_b (x : Int32) : nar .byte x.toInt8.toInt32 = x.toInt8.toInt32 := by
  show x.toInt8.toInt32.toInt8.toInt32 = _
  simp
theorem nar_c (x : Int32) : nar .char x.toUInt32.toUInt16.toUInt32.toInt32 = x.toUInt32.toUInt16.toUInt32.toInt32 := by
  show x.toUInt32.toUInt16.toUInt32.toInt32.toUInt32.toUInt16.toUInt32.toInt32 = _
  simp only [UInt32.toUInt32_toInt32, UInt16.toUInt16_toUInt32]

theorem strW {Z : State} {a0 : Array Value} (hw : ∀ d ∈ tables_1, d.before a0 Z = true) : ∀ a ∈ Bundle.stringAtoms, a.before a0 Z = true := fun a ha => hw a ((show ∀ a ∈ Bundle.stringAtoms, a ∈ tables_1 by decide +kernel) a ha)
theorem layS {Z : State} {a0 : Array Value} (hw : ∀ d ∈ tables_1, d.before a0 Z = true) : LayS Z a0 := ⟨(hw _ (List.mem_of_getElem? (i := 33) rfl)), (hw _ (List.mem_of_getElem? (i := 31) rfl))⟩


theorem m255_int (x : Int32) : 0 ≤ (x &&& 255).toInt ∧ (x &&& 255).toInt ≤ 255 := by
  have h1 : 0 ≤ (x &&& 255).toInt := (c_andS x 255).2.2 (by decide)
  refine ⟨h1, ?_⟩
  have h : (x &&& 255).toBitVec.toNat < 256 := by
    simp only [Int32.toBitVec_and, BitVec.toNat_and]
    exact Nat.lt_succ_of_le Nat.and_le_right
  have e : (x &&& 255).toInt = (x &&& 255).toBitVec.toInt := rfl
  rw [e, BitVec.toInt_eq_toNat_cond]; split <;> omega
theorem m255_le (x : Int32) : ¬ (255 : Int32) < x &&& 255 := by
  rw [Int32.lt_iff_toInt_lt]; have := (m255_int x).2; have : (255 : Int32).toInt = 255 := rfl; omega
theorem m255_c (x : Int32) : nar .char (x &&& 255) = x &&& 255 := i2c_mask x

theorem c16_nar {c : Int32} (h0 : 0 ≤ c.toInt) (h1 : c.toInt ≤ 65535) : nar .char c = c := by
  have q := c_i2c c
  show c.toUInt32.toUInt16.toUInt32.toInt32 = c
  apply Int32.toInt_inj.mp
  omega


theorem st6 {z0 z1 z2 z3 z4 z5 : Value} {s6 : Slot} {v : Int32} (h : s6 = .unset ∨ ∃ w : Int32, s6 = .val (.int w)) : storeLocals #[.val z0, .val z1, .val z2, .val z3, .val z4, .val z5, s6] 6 (.int v) = some #[.val z0, .val z1, .val z2, .val z3, .val z4, .val z5, .val (.int v)] := by
  rcases h with rfl | ⟨w, rfl⟩ <;> rfl
/-- how many of the first chars fit a byte -/
def latN : List Int32 → Nat
  | [] => 0
  | c :: r => if (255 : Int32) < c then 0 else latN r + 1
theorem latN_le : ∀ cs, latN cs ≤ cs.length
  | [] => Nat.le_refl _
  | c :: r => by unfold latN; split <;> simp; exact latN_le r
theorem latN_all : ∀ {cs : List Int32}, (∀ c ∈ cs, ¬ (255 : Int32) < c) → latN cs = cs.length
  | [], _ => rfl
  | c :: r, h => by
    unfold latN; rw [if_neg (h c (by simp)), latN_all fun x hx => h x (by simp [hx])]; rfl
theorem latN_at : ∀ {cs : List Int32} {i : Nat}, (∀ j x, j < i → cs[j]? = some x → ¬ (255 : Int32) < x) → (∀ x, cs[i]? = some x → (255 : Int32) < x) → i ≤ cs.length → latN cs = i
  | [], i, _, _, h => by simp at h; subst h; rfl
  | c :: r, 0, _, h, _ => by unfold latN; rw [if_pos (h c rfl)]
  | c :: r, i + 1, h1, h2, h3 => by
    unfold latN
    rw [if_neg (h1 0 c (by omega) rfl), latN_at (fun j x hj hx => h1 (j + 1) x (by omega) hx) (fun x hx => h2 x hx) (by simpa using h3)]
def byV (c : Int32) : Value := .int c.toInt8.toInt32
/-- the byte array while compress fills it -/
def part (cs : List Int32) (n i : Nat) : List Value := (cs.take i).map byV ++ List.replicate (n - i) (.int 0)
theorem part_len {cs : List Int32} {n i : Nat} (h : i ≤ n) (hn : cs.length = n) : (part cs n i).length = n := by simp [part]; omega
theorem part_set {cs : List Int32} {n i : Nat} {x : Int32} (hx : cs[i]? = some x) (hn : cs.length = n) : (part cs n i).set i (byV x) = part cs n (i + 1) := by
  have hi := (List.getElem?_eq_some_iff.mp hx).1
  have e1 : n - i = (n - (i + 1)) + 1 := by omega
  unfold part
  rw [List.set_append_right _ _ (by simp; omega), e1, List.replicate_succ]
  have e2 : i - (List.map byV (List.take i cs)).length = 0 := by simp; omega
  rw [e2, List.set_cons_zero, List.take_add_one, hx]
  simp

theorem png_0 : plainName "java/lang/StringUTF16" = true := by first | (simp [plainName, overriddenIn]; done) | decide +kernel
theorem d1_0 : Dx jdk_52_method_15_code 0 (.iload_n 1) 1 1 := ⟨by decide +kernel, rfl⟩
theorem d1_1 : Dx jdk_52_method_15_code 1 (.aload_n 0) 1 2 := ⟨by decide +kernel, rfl⟩
theorem d1_2 : Dx jdk_52_method_15_code 2 (.arraylength) 1 3 := ⟨by decide +kernel, rfl⟩
theorem d1_3 : Dx jdk_52_method_15_code 3 (.isub) 1 4 := ⟨by decide +kernel, rfl⟩
theorem d1_4 : Dx jdk_52_method_15_code 4 (.bipush 31) 2 6 := ⟨by decide +kernel, rfl⟩
theorem d1_6 : Dx jdk_52_method_15_code 6 (.iushr) 1 7 := ⟨by decide +kernel, rfl⟩
theorem d1_7 : Dx jdk_52_method_15_code 7 (.i2b) 1 8 := ⟨by decide +kernel, rfl⟩
theorem d1_8 : Dx jdk_52_method_15_code 8 (.ireturn) 1 9 := ⟨by decide +kernel, rfl⟩
set_option maxRecDepth 65536 in
set_option maxHeartbeats 40000000 in
theorem c_coderFrom {l : Launch} {Z : State} {a0 : Array Value} {EL : List (String × Nat)} {b : Bool} {n0 : Nat} (hw : ∀ d ∈ tables_1, d.before a0 Z = true) (t : Addr) (vs : List Value) (m k : Int32) (hk : (ush (m - Int32.ofNat vs.length) 31).toInt8.toInt32 = k) (hk2 : nar .byte k = k) :
    Met l Z a0 EL b n0 (⟨"java/lang/StringUTF16", "coderFromArrayLen", "([BI)B"⟩ : MethodName) jdk_52_method_15_code 2 (some .byte) [] (rm4 0 0 0 0) [.ref t, .int m] [] [(t, .inr (.byte, vs))] (fun v D' S' => v = some (.int k) ∧ D' = [] ∧ S' = []) := by
  refine Met.of_go (own := "java/lang/StringUTF16") (nm := "coderFromArrayLen") (Ls := #[.val (.ref t), .val (.int m)]) (plainFor_of_name png_0) (fun m => by first | rfl | (simp [entryFrame, mkF, argsToLocals, Value.category]; done)) ?_
  refine Go.iloadN d1_0 rfl (G := ?_)
  refine Go.aloadN d1_1 rfl (G := ?_)
  refine Go.arraylength d1_2 (inS (i := 0) rfl) (n := (Int32.ofNat vs.length)) rfl (G := ?_)
  refine Go.isub d1_3 (z := (m - (Int32.ofNat vs.length))) rfl (G := ?_)
  refine Go.bipush d1_4 (v := 31) rfl (G := ?_)
  refine Go.iushr d1_6 (z := (ush (m - (Int32.ofNat vs.length)) 31)) rfl (G := ?_)
  refine Go.i2b d1_7 (z := k) hk (G := ?_)
  refine Go.sub [] (by decide) rfl (D' := []) rfl (S' := []) eN (G := ?_)
  exact Go.retB d1_8 (by simp) (z' := k) hk2 ⟨rfl, rfl, rfl⟩
theorem d2_0 : Dx jdk_52_method_21_code 0 (.iconst 0) 1 1 := ⟨by decide +kernel, rfl⟩
theorem d2_1 : Dx jdk_52_method_21_code 1 (.istore 5) 2 3 := ⟨by decide +kernel, rfl⟩
theorem d2_3 : Dx jdk_52_method_21_code 3 (.iload 5) 2 5 := ⟨by decide +kernel, rfl⟩
theorem d2_5 : Dx jdk_52_method_21_code 5 (.iload 4) 2 7 := ⟨by decide +kernel, rfl⟩
theorem d2_7 : Dx jdk_52_method_21_code 7 (.if_icmp .ge 37) 3 10 := ⟨by decide +kernel, rfl⟩
theorem d2_10 : Dx jdk_52_method_21_code 10 (.aload_n 0) 1 11 := ⟨by decide +kernel, rfl⟩
theorem d2_11 : Dx jdk_52_method_21_code 11 (.iload_n 1) 1 12 := ⟨by decide +kernel, rfl⟩
theorem d2_12 : Dx jdk_52_method_21_code 12 (.caload) 1 13 := ⟨by decide +kernel, rfl⟩
theorem d2_13 : Dx jdk_52_method_21_code 13 (.istore 6) 2 15 := ⟨by decide +kernel, rfl⟩
theorem d2_15 : Dx jdk_52_method_21_code 15 (.iload 6) 2 17 := ⟨by decide +kernel, rfl⟩
theorem d2_17 : Dx jdk_52_method_21_code 17 (.sipush 255) 3 20 := ⟨by decide +kernel, rfl⟩
theorem d2_20 : Dx jdk_52_method_21_code 20 (.if_icmp .le 6) 3 23 := ⟨by decide +kernel, rfl⟩
theorem d2_23 : Dx jdk_52_method_21_code 23 (.iload 5) 2 25 := ⟨by decide +kernel, rfl⟩
theorem d2_25 : Dx jdk_52_method_21_code 25 (.ireturn) 1 26 := ⟨by decide +kernel, rfl⟩
theorem d2_26 : Dx jdk_52_method_21_code 26 (.aload_n 2) 1 27 := ⟨by decide +kernel, rfl⟩
theorem d2_27 : Dx jdk_52_method_21_code 27 (.iload_n 3) 1 28 := ⟨by decide +kernel, rfl⟩
theorem d2_28 : Dx jdk_52_method_21_code 28 (.iload 6) 2 30 := ⟨by decide +kernel, rfl⟩
theorem d2_30 : Dx jdk_52_method_21_code 30 (.i2b) 1 31 := ⟨by decide +kernel, rfl⟩
theorem d2_31 : Dx jdk_52_method_21_code 31 (.bastore) 1 32 := ⟨by decide +kernel, rfl⟩
theorem d2_32 : Dx jdk_52_method_21_code 32 (.iinc 1 1) 3 35 := ⟨by decide +kernel, rfl⟩
theorem d2_35 : Dx jdk_52_method_21_code 35 (.iinc 3 1) 3 38 := ⟨by decide +kernel, rfl⟩
theorem d2_38 : Dx jdk_52_method_21_code 38 (.iinc 5 1) 3 41 := ⟨by decide +kernel, rfl⟩
theorem d2_41 : Dx jdk_52_method_21_code 41 (.goto (-38)) 3 44 := ⟨by decide +kernel, rfl⟩
theorem d2_44 : Dx jdk_52_method_21_code 44 (.iload 4) 2 46 := ⟨by decide +kernel, rfl⟩
theorem d2_46 : Dx jdk_52_method_21_code 46 (.ireturn) 1 47 := ⟨by decide +kernel, rfl⟩
set_option maxRecDepth 65536 in
set_option maxHeartbeats 40000000 in
theorem c_comprLoop {l : Launch} {Z : State} {a0 : Array Value} {EL : List (String × Nat)} {b : Bool} {n0 : Nat} (hw : ∀ d ∈ tables_1, d.before a0 Z = true) (src dst : Addr) (cs : List Int32) (n : Nat) (hn : cs.length = n) (hb : n ≤ 4000) :
    Met l Z a0 EL b n0 (⟨"java/lang/StringUTF16", "compress", "([CI[BII)I"⟩ : MethodName) jdk_52_method_21_code 7 (some .int) [] (rm4 0 0 0 0) [.ref src, .int 0, .ref dst, .int 0, .int (Int32.ofNat n)] [(dst, .inr (.byte, List.replicate n (.int 0)))] [(src, .inr (.char, cs.map Value.int))] (fun v D' S' => v = some (.int (Int32.ofNat (latN cs))) ∧ D' = [(dst, .inr (.byte, part cs n (latN cs)))] ∧ S' = []) := by
  refine Met.of_go (own := "java/lang/StringUTF16") (nm := "compress") (Ls := #[.val (.ref src), .val (.int 0), .val (.ref dst), .val (.int 0), .val (.int (Int32.ofNat n)), .unset, .unset]) (plainFor_of_name png_0) (fun m => by first | rfl | (simp [entryFrame, mkF, argsToLocals, Value.category]; done)) ?_
  refine Go.iconst d2_0 (v := 0) rfl (G := ?_)
  refine Go.istore d2_1 (Ls' := #[.val (.ref src), .val (.int 0), .val (.ref dst), .val (.int 0), .val (.int (Int32.ofNat n)), .val (.int 0), .unset]) rfl (G := ?_)
  refine Go.norm (D2 := [(dst, .inr (.byte, part cs n 0))]) ?_
  have main : ∀ m i (s6 : Slot), i + m = n → (s6 = .unset ∨ ∃ w : Int32, s6 = .val (.int w)) → (∀ j x, j < i → cs[j]? = some x → ¬ (255 : Int32) < x) →
      Go l Z a0 EL b n0 "java/lang/StringUTF16" jdk_52_method_21_code 7 (some .int) "compress" (rm4 0 0 0 0) ([(dst, (.inr (.byte, List.replicate n (.int 0)) : Ob))].map Prod.fst) (fun v D' S' => v = some (.int (Int32.ofNat (latN cs))) ∧ D' = [(dst, .inr (.byte, part cs n (latN cs)))] ∧ S' = []) [(dst, .inr (.byte, part cs n i))] [(src, .inr (.char, cs.map Value.int))] 0 0 3 #[.val (.ref src), .val (.int (Int32.ofNat i)), .val (.ref dst), .val (.int (Int32.ofNat i)), .val (.int (Int32.ofNat n)), .val (.int (Int32.ofNat i)), s6] [] := by
    intro m
    induction m with
    | zero =>
      intro i s6 hi h6 hall
      obtain rfl : i = n := by omega
      refine Go.iload d2_3 rfl (G := ?_)
      refine Go.iload d2_5 rfl (G := ?_)
      refine Go.icmp d2_7 (pc2 := 44) (Gy := fun _ => ?_) (Gn := fun h => absurd (show ¬ (Int32.ofNat i < Int32.ofNat i) from Int32.lt_irrefl) h)
      refine Go.iload d2_44 rfl (G := ?_)
      have e : latN cs = i := latN_at hall (fun x hx => absurd (List.getElem?_eq_some_iff.mp hx).1 (by omega)) (by omega)
      refine Go.sub [0] (by decide) rfl (D' := [(dst, .inr (.byte, part cs i i))]) rfl (S' := []) eN (G := ?_)
      exact Go.retI d2_46 ⟨by rw [e], by rw [e], rfl⟩
    | succ m ih =>
      intro i s6 hi h6 hall
      have hin : i < n := by omega
      have hi31 : i < 2147483648 := by omega
      have hn31 : n < 2147483648 := by omega
      obtain ⟨x, hx⟩ : ∃ x, cs[i]? = some x := ⟨_, List.getElem?_eq_getElem (by omega)⟩
      refine Go.iload d2_3 rfl (G := ?_)
      refine Go.iload d2_5 rfl (G := ?_)
      refine Go.icmp d2_7 (pc2 := 44) (Gy := fun h => absurd ((nI_lt hi31 hn31).mpr hin) h) (Gn := fun _ => ?_)
      refine Go.aloadN d2_10 rfl (G := ?_)
      refine Go.iloadN d2_11 rfl (G := ?_)
      refine Go.caload d2_12 (inS (i := 0) rfl) (v := .int x) (by rw [nI_nat hi31, List.getElem?_map, hx]; rfl) (nI_nn hi31) (G := ?_)
      refine Go.istore d2_13 (Ls' := #[.val (.ref src), .val (.int (Int32.ofNat i)), .val (.ref dst), .val (.int (Int32.ofNat i)), .val (.int (Int32.ofNat n)), .val (.int (Int32.ofNat i)), .val (.int x)]) (st6 h6) (G := ?_)
      refine Go.iload d2_15 rfl (G := ?_)
      refine Go.sipush d2_17 (v := 255) rfl (G := ?_)
      refine Go.icmp d2_20 (pc2 := 26) (Gy := fun hle => ?_) (Gn := fun hgt => ?_)
      · have hle : ¬ (255 : Int32) < x := hle
        refine Go.aloadN d2_26 rfl (G := ?_)
        refine Go.iloadN d2_27 rfl (G := ?_)
        refine Go.iload d2_28 rfl (G := ?_)
        refine Go.i2b d2_30 (z := (x.toInt8.toInt32)) rfl (G := ?_)
        refine Go.bastore d2_31 0 rfl (x' := (x.toInt8.toInt32)) (nar_b x) (by rw [nI_nat hi31, part_len (by omega) hn]; exact hin) (D' := [(dst, .inr (.byte, part cs n (i + 1)))]) (by rw [nI_nat hi31]; show _ = [(dst, Sum.inr (FieldType.byte, (part cs n i).set i (byV x)))]; rw [part_set hx hn]) (nI_nn hi31) (G := ?_)
        refine Go.iinc d2_32 rfl (v := 1) rfl (z := (Int32.ofNat (i + 1))) (nI_succ i) (Ls' := #[.val (.ref src), .val (.int (Int32.ofNat (i + 1))), .val (.ref dst), .val (.int (Int32.ofNat i)), .val (.int (Int32.ofNat n)), .val (.int (Int32.ofNat i)), .val (.int x)]) rfl (G := ?_)
        refine Go.iinc d2_35 rfl (v := 1) rfl (z := (Int32.ofNat (i + 1))) (nI_succ i) (Ls' := #[.val (.ref src), .val (.int (Int32.ofNat (i + 1))), .val (.ref dst), .val (.int (Int32.ofNat (i + 1))), .val (.int (Int32.ofNat n)), .val (.int (Int32.ofNat i)), .val (.int x)]) rfl (G := ?_)
        refine Go.iinc d2_38 rfl (v := 1) rfl (z := (Int32.ofNat (i + 1))) (nI_succ i) (Ls' := #[.val (.ref src), .val (.int (Int32.ofNat (i + 1))), .val (.ref dst), .val (.int (Int32.ofNat (i + 1))), .val (.int (Int32.ofNat n)), .val (.int (Int32.ofNat (i + 1))), .val (.int x)]) rfl (G := ?_)
        refine Go.goto d2_41 (pc2 := 3) (G := ?_)
        exact ih (i + 1) _ (by omega) (Or.inr ⟨x, rfl⟩) (fun j z hj hz => by
          rcases Nat.lt_or_ge j i with q | q
          · exact hall j z q hz
          · obtain rfl : j = i := by omega
            cases hx.symm.trans hz; exact hle)
      · have hgt : (255 : Int32) < x := Classical.not_not.mp hgt
        refine Go.iload d2_23 rfl (G := ?_)
        have e : latN cs = i := latN_at hall (fun z hz => by cases hx.symm.trans hz; exact hgt) (by omega)
        refine Go.sub [0] (by decide) rfl (D' := [(dst, .inr (.byte, part cs n i))]) rfl (S' := []) eN (G := ?_)
        exact Go.retI d2_25 ⟨by rw [e], by rw [e], rfl⟩
  exact main n 0 .unset (by omega) (Or.inl rfl) (fun j x hj => absurd hj (by omega))
theorem d3_0 : Dx jdk_52_method_16_code 0 (.iload_n 2) 1 1 := ⟨by decide +kernel, rfl⟩
theorem d3_1 : Dx jdk_52_method_16_code 1 (.newarray .byte) 2 3 := ⟨by decide +kernel, rfl⟩
theorem d3_3 : Dx jdk_52_method_16_code 3 (.astore_n 3) 1 4 := ⟨by decide +kernel, rfl⟩
theorem d3_4 : Dx jdk_52_method_16_code 4 (.aload_n 0) 1 5 := ⟨by decide +kernel, rfl⟩
theorem d3_5 : Dx jdk_52_method_16_code 5 (.iload_n 1) 1 6 := ⟨by decide +kernel, rfl⟩
theorem d3_6 : Dx jdk_52_method_16_code 6 (.aload_n 3) 1 7 := ⟨by decide +kernel, rfl⟩
theorem d3_7 : Dx jdk_52_method_16_code 7 (.iconst 0) 1 8 := ⟨by decide +kernel, rfl⟩
theorem d3_8 : Dx jdk_52_method_16_code 8 (.iload_n 2) 1 9 := ⟨by decide +kernel, rfl⟩
theorem d3_9 : Dx jdk_52_method_16_code 9 (.invokestatic 115) 3 12 := ⟨by decide +kernel, rfl⟩
theorem d3_12 : Dx jdk_52_method_16_code 12 (.istore 4) 2 14 := ⟨by decide +kernel, rfl⟩
theorem d3_14 : Dx jdk_52_method_16_code 14 (.iload 4) 2 16 := ⟨by decide +kernel, rfl⟩
theorem d3_16 : Dx jdk_52_method_16_code 16 (.iload_n 2) 1 17 := ⟨by decide +kernel, rfl⟩
theorem d3_17 : Dx jdk_52_method_16_code 17 (.if_icmp .eq 40) 3 20 := ⟨by decide +kernel, rfl⟩
theorem d3_20 : Dx jdk_52_method_16_code 20 (.aload_n 0) 1 21 := ⟨by decide +kernel, rfl⟩
theorem d3_21 : Dx jdk_52_method_16_code 21 (.iload_n 1) 1 22 := ⟨by decide +kernel, rfl⟩
theorem d3_22 : Dx jdk_52_method_16_code 22 (.iload_n 2) 1 23 := ⟨by decide +kernel, rfl⟩
theorem d3_23 : Dx jdk_52_method_16_code 23 (.invokestatic 119) 3 26 := ⟨by decide +kernel, rfl⟩
theorem d3_26 : Dx jdk_52_method_16_code 26 (.astore 5) 2 28 := ⟨by decide +kernel, rfl⟩
theorem d3_28 : Dx jdk_52_method_16_code 28 (.aload 5) 2 30 := ⟨by decide +kernel, rfl⟩
theorem d3_30 : Dx jdk_52_method_16_code 30 (.iload 4) 2 32 := ⟨by decide +kernel, rfl⟩
theorem d3_32 : Dx jdk_52_method_16_code 32 (.invokestatic 71) 3 35 := ⟨by decide +kernel, rfl⟩
theorem d3_35 : Dx jdk_52_method_16_code 35 (.sipush 255) 3 38 := ⟨by decide +kernel, rfl⟩
theorem d3_38 : Dx jdk_52_method_16_code 38 (.if_icmp .gt 16) 3 41 := ⟨by decide +kernel, rfl⟩
theorem d3_41 : Dx jdk_52_method_16_code 41 (.aload 5) 2 43 := ⟨by decide +kernel, rfl⟩
theorem d3_43 : Dx jdk_52_method_16_code 43 (.iconst 0) 1 44 := ⟨by decide +kernel, rfl⟩
theorem d3_44 : Dx jdk_52_method_16_code 44 (.aload_n 3) 1 45 := ⟨by decide +kernel, rfl⟩
theorem d3_45 : Dx jdk_52_method_16_code 45 (.iconst 0) 1 46 := ⟨by decide +kernel, rfl⟩
theorem d3_46 : Dx jdk_52_method_16_code 46 (.iload_n 2) 1 47 := ⟨by decide +kernel, rfl⟩
theorem d3_47 : Dx jdk_52_method_16_code 47 (.invokestatic 123) 3 50 := ⟨by decide +kernel, rfl⟩
theorem d3_50 : Dx jdk_52_method_16_code 50 (.iload_n 2) 1 51 := ⟨by decide +kernel, rfl⟩
theorem d3_51 : Dx jdk_52_method_16_code 51 (.if_icmp .eq 6) 3 54 := ⟨by decide +kernel, rfl⟩
theorem d3_54 : Dx jdk_52_method_16_code 54 (.aload 5) 2 56 := ⟨by decide +kernel, rfl⟩
theorem d3_56 : Dx jdk_52_method_16_code 56 (.areturn) 1 57 := ⟨by decide +kernel, rfl⟩
theorem d3_57 : Dx jdk_52_method_16_code 57 (.aload_n 3) 1 58 := ⟨by decide +kernel, rfl⟩
theorem d3_58 : Dx jdk_52_method_16_code 58 (.areturn) 1 59 := ⟨by decide +kernel, rfl⟩
theorem pdg_0 : parseMethodDescriptor "([CI[BII)I" = some ⟨[.array .char, .int, .array .byte, .int, .int], some .int⟩ := by decide +kernel
set_option maxRecDepth 65536 in
set_option maxHeartbeats 40000000 in
theorem c_compress {l : Launch} {Z : State} {a0 : Array Value} {EL : List (String × Nat)} {b : Bool} {n0 : Nat} (hw : ∀ d ∈ tables_1, d.before a0 Z = true) (src : Addr) (cs : List Int32) (n : Nat) (hn : cs.length = n) (hb : n ≤ 4000) (hlat : ∀ c ∈ cs, ¬ (255 : Int32) < c) :
    Met l Z a0 EL b n0 (⟨"java/lang/StringUTF16", "compress", "([CII)[B"⟩ : MethodName) jdk_52_method_16_code 6 (some (.array .byte)) [] (rm4 1 1 n 18) [.ref src, .int 0, .int (Int32.ofNat n)] [] [(src, .inr (.char, cs.map Value.int))] (fun v D' S' => ∃ t, v = some (.ref t) ∧ D' = [(t, .inr (.byte, cs.map byV))] ∧ S' = []) := by
  refine Met.of_go (own := "java/lang/StringUTF16") (nm := "compress") (Ls := #[.val (.ref src), .val (.int 0), .val (.int (Int32.ofNat n)), .unset, .unset, .unset]) (plainFor_of_name png_0) (fun m => by first | rfl | (simp [entryFrame, mkF, argsToLocals, Value.category]; done)) ?_
  refine Go.iloadN d3_0 rfl (G := ?_)
  refine Go.newarray d3_1 (hw _ (List.mem_of_getElem? (i := 23) rfl)) (k := n) (nI_nat (by omega)) (nI_nn (by omega)) (by omega) (vs := List.replicate n (.int 0)) rfl (hl := by show 0 + n ≤ n; omega) (G := fun t => ?_)
  refine Go.astoreN d3_3 (Ls' := #[.val (.ref src), .val (.int 0), .val (.int (Int32.ofNat n)), .val (.ref t), .unset, .unset]) rfl (G := ?_)
  refine Go.aloadN d3_4 rfl (G := ?_)
  refine Go.iloadN d3_5 rfl (G := ?_)
  refine Go.aloadN d3_6 rfl (G := ?_)
  refine Go.iconst d3_7 (v := 0) rfl (G := ?_)
  refine Go.iloadN d3_8 rfl (G := ?_)
  refine Go.invokestatic false d3_9 (hw _ (List.mem_of_getElem? (i := 24) rfl)) (hw _ (List.mem_of_getElem? (i := 25) rfl)) (hw _ (List.mem_of_getElem? (i := 21) rfl)) (hw _ (List.mem_of_getElem? (i := 26) rfl)) (c_comprLoop hw src t cs n hn hb) pdg_0 rfl (argsL := [.ref src, .int 0, .ref t, .int 0, .int (Int32.ofNat n)]) (rest := []) rfl rfl (Dr := []) rfl (eS (Or.inl (List.mem_of_getElem? (i := 0) rfl)) eN) (hsl := by show 0 + n + 0 ≤ n; omega) (G := ?_)
  rintro _ _ _ ⟨rfl, rfl, rfl⟩
  refine Go.norm (D2 := [(t, .inr (.byte, part cs n (latN cs)))]) (S2 := [(src, .inr (.char, cs.map Value.int))]) (c2 := 1) (s2 := 0 + n + 0) (st2 := [.int (Int32.ofNat (latN cs))]) ?_
  refine Go.istore d3_12 (Ls' := #[.val (.ref src), .val (.int 0), .val (.int (Int32.ofNat n)), .val (.ref t), .val (.int (Int32.ofNat (latN cs))), .unset]) rfl (G := ?_)
  refine Go.iload d3_14 rfl (G := ?_)
  refine Go.iloadN d3_16 rfl (G := ?_)
  have e : latN cs = n := by rw [latN_all hlat, hn]
  refine Go.icmp d3_17 (pc2 := 57) (Gy := fun _ => ?_) (Gn := fun h => absurd (show Int32.ofNat (latN cs) = Int32.ofNat n by rw [e]) h)
  refine Go.aloadN d3_57 rfl (G := ?_)
  have e2 : part cs n (latN cs) = cs.map byV := by rw [e, part, Nat.sub_self, ← hn, List.take_length]; simp
  refine Go.sub [0] (by decide) rfl (D' := [(t, .inr (.byte, part cs n (latN cs)))]) rfl (S' := []) eN (G := ?_)
  exact Go.retA d3_58 ⟨t, rfl, by rw [e2], rfl⟩ (hl := by show 0 + n + 0 ≤ n; omega)
theorem png_1 : plainName "java/lang/String" = true := by first | (simp [plainName, overriddenIn]; done) | decide +kernel
theorem d4_0 : Dx jdk_42_method_149_code 0 (.aload_n 0) 1 1 := ⟨by decide +kernel, rfl⟩
theorem d4_1 : Dx jdk_42_method_149_code 1 (.invokespecial 1) 3 4 := ⟨by decide +kernel, rfl⟩
theorem d4_4 : Dx jdk_42_method_149_code 4 (.iload_n 3) 1 5 := ⟨by decide +kernel, rfl⟩
theorem d4_5 : Dx jdk_42_method_149_code 5 (.ifCond .ne 22) 3 8 := ⟨by decide +kernel, rfl⟩
theorem d4_8 : Dx jdk_42_method_149_code 8 (.aload_n 0) 1 9 := ⟨by decide +kernel, rfl⟩
theorem d4_9 : Dx jdk_42_method_149_code 9 (.ldc 7) 2 11 := ⟨by decide +kernel, rfl⟩
theorem d4_11 : Dx jdk_42_method_149_code 11 (.getfield 9) 3 14 := ⟨by decide +kernel, rfl⟩
theorem d4_14 : Dx jdk_42_method_149_code 14 (.putfield 9) 3 17 := ⟨by decide +kernel, rfl⟩
theorem d4_17 : Dx jdk_42_method_149_code 17 (.aload_n 0) 1 18 := ⟨by decide +kernel, rfl⟩
theorem d4_18 : Dx jdk_42_method_149_code 18 (.ldc 7) 2 20 := ⟨by decide +kernel, rfl⟩
theorem d4_20 : Dx jdk_42_method_149_code 20 (.getfield 15) 3 23 := ⟨by decide +kernel, rfl⟩
theorem d4_23 : Dx jdk_42_method_149_code 23 (.putfield 15) 3 26 := ⟨by decide +kernel, rfl⟩
theorem d4_26 : Dx jdk_42_method_149_code 26 (.return_) 1 27 := ⟨by decide +kernel, rfl⟩
theorem d4_27 : Dx jdk_42_method_149_code 27 (.getstatic 38) 3 30 := ⟨by decide +kernel, rfl⟩
theorem d4_30 : Dx jdk_42_method_149_code 30 (.ifCond .eq 28) 3 33 := ⟨by decide +kernel, rfl⟩
theorem d4_33 : Dx jdk_42_method_149_code 33 (.aload_n 1) 1 34 := ⟨by decide +kernel, rfl⟩
theorem d4_34 : Dx jdk_42_method_149_code 34 (.iload_n 2) 1 35 := ⟨by decide +kernel, rfl⟩
theorem d4_35 : Dx jdk_42_method_149_code 35 (.iload_n 3) 1 36 := ⟨by decide +kernel, rfl⟩
theorem d4_36 : Dx jdk_42_method_149_code 36 (.invokestatic 177) 3 39 := ⟨by decide +kernel, rfl⟩
theorem d4_39 : Dx jdk_42_method_149_code 39 (.astore 5) 2 41 := ⟨by decide +kernel, rfl⟩
theorem d4_41 : Dx jdk_42_method_149_code 41 (.aload_n 0) 1 42 := ⟨by decide +kernel, rfl⟩
theorem d4_42 : Dx jdk_42_method_149_code 42 (.aload 5) 2 44 := ⟨by decide +kernel, rfl⟩
theorem d4_44 : Dx jdk_42_method_149_code 44 (.iload_n 3) 1 45 := ⟨by decide +kernel, rfl⟩
theorem d4_45 : Dx jdk_42_method_149_code 45 (.invokestatic 47) 3 48 := ⟨by decide +kernel, rfl⟩
theorem d4_48 : Dx jdk_42_method_149_code 48 (.putfield 15) 3 51 := ⟨by decide +kernel, rfl⟩
theorem d4_51 : Dx jdk_42_method_149_code 51 (.aload_n 0) 1 52 := ⟨by decide +kernel, rfl⟩
theorem d4_52 : Dx jdk_42_method_149_code 52 (.aload 5) 2 54 := ⟨by decide +kernel, rfl⟩
theorem d4_54 : Dx jdk_42_method_149_code 54 (.putfield 9) 3 57 := ⟨by decide +kernel, rfl⟩
theorem d4_57 : Dx jdk_42_method_149_code 57 (.return_) 1 58 := ⟨by decide +kernel, rfl⟩
theorem d4_58 : Dx jdk_42_method_149_code 58 (.aload_n 0) 1 59 := ⟨by decide +kernel, rfl⟩
theorem d4_59 : Dx jdk_42_method_149_code 59 (.iconst 1) 1 60 := ⟨by decide +kernel, rfl⟩
theorem d4_60 : Dx jdk_42_method_149_code 60 (.putfield 15) 3 63 := ⟨by decide +kernel, rfl⟩
theorem d4_63 : Dx jdk_42_method_149_code 63 (.aload_n 0) 1 64 := ⟨by decide +kernel, rfl⟩
theorem d4_64 : Dx jdk_42_method_149_code 64 (.aload_n 1) 1 65 := ⟨by decide +kernel, rfl⟩
theorem d4_65 : Dx jdk_42_method_149_code 65 (.iload_n 2) 1 66 := ⟨by decide +kernel, rfl⟩
theorem d4_66 : Dx jdk_42_method_149_code 66 (.iload_n 3) 1 67 := ⟨by decide +kernel, rfl⟩
theorem d4_67 : Dx jdk_42_method_149_code 67 (.invokestatic 180) 3 70 := ⟨by decide +kernel, rfl⟩
theorem d4_70 : Dx jdk_42_method_149_code 70 (.putfield 9) 3 73 := ⟨by decide +kernel, rfl⟩
theorem d4_73 : Dx jdk_42_method_149_code 73 (.return_) 1 74 := ⟨by decide +kernel, rfl⟩
theorem pdg_1 : parseMethodDescriptor "([CII)[B" = some ⟨[.array .char, .int, .int], some (.array .byte)⟩ := by decide +kernel
theorem pdg_2 : parseMethodDescriptor "([BI)B" = some ⟨[.array .byte, .int], some .byte⟩ := by decide +kernel
set_option maxRecDepth 65536 in
set_option maxHeartbeats 40000000 in
theorem c_initV {l : Launch} {Z : State} {a0 : Array Value} {EL : List (String × Nat)} {b : Bool} {n0 : Nat} (hw : ∀ d ∈ tables_1, d.before a0 Z = true) (x src : Addr) (cs : List Int32) (n : Nat) (more : List (String × String × String × Value)) (cpt : Int32) (hCS : Sta Z Z.heap "java/lang/String" "COMPACT_STRINGS" "Z" (.int cpt)) (hcpt : ¬ cpt = 0) (hn : cs.length = n) (hb : n ≤ 4000) (hpos : 0 < n) (hlat : ∀ c ∈ cs, ¬ (255 : Int32) < c) :
    Met l Z a0 EL b n0 (⟨"java/lang/String", "<init>", "([CIILjava/lang/Void;)V"⟩ : MethodName) jdk_42_method_149_code 6 none [] (rm4 2 1 n 35) [.ref x, .ref src, .int 0, .int (Int32.ofNat n), .null] [(x, .inl ("java/lang/String", ("java/lang/String", "value", "[B", .null) :: ("java/lang/String", "coder", "B", .int 0) :: more))] [(src, .inr (.char, cs.map Value.int))] (fun v D' S' => ∃ t, v = none ∧ D' = [(x, .inl ("java/lang/String", ("java/lang/String", "value", "[B", .ref t) :: ("java/lang/String", "coder", "B", .int 0) :: more)), (t, .inr (.byte, cs.map byV))] ∧ S' = []) := by
  refine Met.of_go (own := "java/lang/String") (nm := "<init>") (Ls := #[.val (.ref x), .val (.ref src), .val (.int 0), .val (.int (Int32.ofNat n)), .val .null, .unset]) (plainFor_of_name png_1) (fun m => by first | rfl | (simp [entryFrame, mkF, argsToLocals, Value.category]; done)) ?_
  refine Go.aloadN d4_0 rfl (G := ?_)
  refine Go.objInit d4_1 (hw _ (List.mem_of_getElem? (i := 15) rfl)) (hw _ (List.mem_of_getElem? (i := 16) rfl)) (hw _ (List.mem_of_getElem? (i := 17) rfl)) rfl (Nat.le_of_ble_eq_true rfl) (Nat.le_of_ble_eq_true rfl) (G := ?_)
  refine Go.iloadN d4_4 rfl (G := ?_)
  refine Go.ifc d4_5 (pc2 := 27) (Gy := fun _ => ?_) (Gn := fun h => absurd (fun (e : Int32.ofNat n = 0) => by have := (nI_eq (n := 0) (by omega) (by omega)).mp e; omega) h)
  refine Go.getstatic d4_27 (host := "") (Or.inl (hw _ (List.mem_of_getElem? (i := 18) rfl))) Via.refl hCS (G := ?_)
  refine Go.ifc d4_30 (pc2 := 58) (Gy := fun h => absurd h hcpt) (Gn := fun _ => ?_)
  refine Go.aloadN d4_33 rfl (G := ?_)
  refine Go.iloadN d4_34 rfl (G := ?_)
  refine Go.iloadN d4_35 rfl (G := ?_)
  refine Go.invokestatic false d4_36 (hw _ (List.mem_of_getElem? (i := 19) rfl)) (hw _ (List.mem_of_getElem? (i := 20) rfl)) (hw _ (List.mem_of_getElem? (i := 21) rfl)) (hw _ (List.mem_of_getElem? (i := 22) rfl)) (c_compress hw src cs n hn hb hlat) pdg_1 rfl (argsL := [.ref src, .int 0, .int (Int32.ofNat n)]) (rest := []) rfl rfl (Dr := [(x, .inl ("java/lang/String", ("java/lang/String", "value", "[B", .null) :: ("java/lang/String", "coder", "B", .int 0) :: more))]) rfl (eS (Or.inl (List.mem_of_getElem? (i := 0) rfl)) eN) (hsl := by show 0 + n ≤ n; omega) (G := ?_)
  rintro _ _ _ ⟨t, rfl, rfl, rfl⟩
  refine Go.norm (D2 := [(t, .inr (.byte, cs.map byV)), (x, .inl ("java/lang/String", ("java/lang/String", "value", "[B", .null) :: ("java/lang/String", "coder", "B", .int 0) :: more))]) (S2 := [(src, .inr (.char, cs.map Value.int))]) (c2 := 1) (s2 := 0 + n) (st2 := [.ref t]) ?_
  refine Go.astore d4_39 (Ls' := #[.val (.ref x), .val (.ref src), .val (.int 0), .val (.int (Int32.ofNat n)), .val .null, .val (.ref t)]) rfl (G := ?_)
  refine Go.aloadN d4_41 rfl (G := ?_)
  refine Go.aload d4_42 rfl (G := ?_)
  refine Go.iloadN d4_44 rfl (G := ?_)
  refine Go.invokestatic true d4_45 (hw _ (List.mem_of_getElem? (i := 27) rfl)) (hw _ (List.mem_of_getElem? (i := 28) rfl)) (hw _ (List.mem_of_getElem? (i := 21) rfl)) (hw _ (List.mem_of_getElem? (i := 29) rfl)) (c_coderFrom hw t (cs.map byV) (Int32.ofNat n) 0 (by rw [List.length_map, hn, Int32.sub_self]; decide) rfl) pdg_2 rfl (argsL := [.ref t, .int (Int32.ofNat n)]) (rest := [.ref x]) rfl rfl (Dr := [(t, .inr (.byte, cs.map byV)), (x, .inl ("java/lang/String", ("java/lang/String", "value", "[B", .null) :: ("java/lang/String", "coder", "B", .int 0) :: more))]) rfl (eS (Or.inr ⟨rfl, List.mem_of_getElem? (i := 0) rfl⟩) eN) (hsl := by show 0 + n + 0 ≤ n; omega) (G := ?_)
  rintro _ _ _ ⟨rfl, rfl, rfl⟩
  refine Go.norm (D2 := [(t, .inr (.byte, cs.map byV)), (x, .inl ("java/lang/String", ("java/lang/String", "value", "[B", .null) :: ("java/lang/String", "coder", "B", .int 0) :: more))]) (S2 := [(src, .inr (.char, cs.map Value.int))]) (c2 := 1) (s2 := 0 + n + 0) (st2 := [.int 0, .ref x]) ?_
  refine Go.putfield d4_48 (hw _ (List.mem_of_getElem? (i := 30) rfl)) Via.refl 1 rfl 1 rfl (Or.inr ⟨(hw _ (List.mem_of_getElem? (i := 31) rfl)), rfl, rfl⟩) (hw _ (List.mem_of_getElem? (i := 6) rfl)) (ty := .byte) (by decide +kernel) (v' := .int 0) rfl rfl (D' := [(t, .inr (.byte, cs.map byV)), (x, .inl ("java/lang/String", ("java/lang/String", "value", "[B", .null) :: ("java/lang/String", "coder", "B", .int 0) :: more))]) rfl (G := ?_)
  refine Go.aloadN d4_51 rfl (G := ?_)
  refine Go.aload d4_52 rfl (G := ?_)
  refine Go.putfield d4_54 (hw _ (List.mem_of_getElem? (i := 32) rfl)) Via.refl 1 rfl 0 rfl (Or.inr ⟨(hw _ (List.mem_of_getElem? (i := 33) rfl)), rfl, rfl⟩) (hw _ (List.mem_of_getElem? (i := 6) rfl)) (ty := .array .byte) (by decide +kernel) (v' := .ref t) rfl rfl (D' := [(t, .inr (.byte, cs.map byV)), (x, .inl ("java/lang/String", ("java/lang/String", "value", "[B", .ref t) :: ("java/lang/String", "coder", "B", .int 0) :: more))]) rfl (G := ?_)
  refine Go.sub [1, 0] (by decide) rfl (D' := [(x, .inl ("java/lang/String", ("java/lang/String", "value", "[B", .ref t) :: ("java/lang/String", "coder", "B", .int 0) :: more)), (t, .inr (.byte, cs.map byV))]) rfl (S' := []) eN (G := ?_)
  exact Go.retV d4_57 ⟨t, rfl, rfl, rfl⟩ (hl := by show 0 + n + 0 ≤ n; omega)
theorem d5_0 : Dx jdk_42_method_3_code 0 (.aload_n 0) 1 1 := ⟨by decide +kernel, rfl⟩
theorem d5_1 : Dx jdk_42_method_3_code 1 (.aload_n 1) 1 2 := ⟨by decide +kernel, rfl⟩
theorem d5_2 : Dx jdk_42_method_3_code 2 (.iconst 0) 1 3 := ⟨by decide +kernel, rfl⟩
theorem d5_3 : Dx jdk_42_method_3_code 3 (.aload_n 1) 1 4 := ⟨by decide +kernel, rfl⟩
theorem d5_4 : Dx jdk_42_method_3_code 4 (.arraylength) 1 5 := ⟨by decide +kernel, rfl⟩
theorem d5_5 : Dx jdk_42_method_3_code 5 (.aconst_null) 1 6 := ⟨by decide +kernel, rfl⟩
theorem d5_6 : Dx jdk_42_method_3_code 6 (.invokespecial 27) 3 9 := ⟨by decide +kernel, rfl⟩
theorem d5_9 : Dx jdk_42_method_3_code 9 (.return_) 1 10 := ⟨by decide +kernel, rfl⟩
theorem pdg_3 : parseMethodDescriptor "([CIILjava/lang/Void;)V" = some ⟨[.array .char, .int, .int, .object "java/lang/Void"], none⟩ := by decide +kernel
set_option maxRecDepth 65536 in
set_option maxHeartbeats 40000000 in
theorem c_init {l : Launch} {Z : State} {a0 : Array Value} {EL : List (String × Nat)} {b : Bool} {n0 : Nat} (hw : ∀ d ∈ tables_1, d.before a0 Z = true) (x src : Addr) (cs : List Int32) (n : Nat) (more : List (String × String × String × Value)) (cpt : Int32) (hCS : Sta Z Z.heap "java/lang/String" "COMPACT_STRINGS" "Z" (.int cpt)) (hcpt : ¬ cpt = 0) (hn : cs.length = n) (hb : n ≤ 4000) (hpos : 0 < n) (hlat : ∀ c ∈ cs, ¬ (255 : Int32) < c) :
    Met l Z a0 EL b n0 (⟨"java/lang/String", "<init>", "([C)V"⟩ : MethodName) jdk_42_method_3_code 2 none [] (rm4 3 1 n 52) [.ref x, .ref src] [(x, .inl ("java/lang/String", ("java/lang/String", "value", "[B", .null) :: ("java/lang/String", "coder", "B", .int 0) :: more))] [(src, .inr (.char, cs.map Value.int))] (fun v D' S' => ∃ t, v = none ∧ D' = [(x, .inl ("java/lang/String", ("java/lang/String", "value", "[B", .ref t) :: ("java/lang/String", "coder", "B", .int 0) :: more)), (t, .inr (.byte, cs.map byV))] ∧ S' = []) := by
  refine Met.of_go (own := "java/lang/String") (nm := "<init>") (Ls := #[.val (.ref x), .val (.ref src)]) (plainFor_of_name png_1) (fun m => by first | rfl | (simp [entryFrame, mkF, argsToLocals, Value.category]; done)) ?_
  refine Go.aloadN d5_0 rfl (G := ?_)
  refine Go.aloadN d5_1 rfl (G := ?_)
  refine Go.iconst d5_2 (v := 0) rfl (G := ?_)
  refine Go.aloadN d5_3 rfl (G := ?_)
  refine Go.arraylength d5_4 (inS (i := 0) rfl) (n := (Int32.ofNat n)) (by rw [List.length_map, hn]) (G := ?_)
  refine Go.aconstNull d5_5 (G := ?_)
  refine Go.invokeinit false d5_6 rfl (hw _ (List.mem_of_getElem? (i := 11) rfl)) (hw _ (List.mem_of_getElem? (i := 12) rfl)) (hw _ (List.mem_of_getElem? (i := 7) rfl)) (hw _ (List.mem_of_getElem? (i := 14) rfl)) (c_initV hw x src cs n more cpt hCS hcpt hn hb hpos hlat) pdg_3 rfl (argsL := [.ref src, .int 0, .int (Int32.ofNat n), .null]) (rest := []) rfl rfl (Dr := []) rfl (eS (Or.inl (List.mem_of_getElem? (i := 0) rfl)) eN) (hsl := by show 0 + n ≤ n; omega) (G := ?_)
  rintro _ _ _ ⟨t, rfl, rfl, rfl⟩
  refine Go.norm (D2 := [(x, .inl ("java/lang/String", ("java/lang/String", "value", "[B", .ref t) :: ("java/lang/String", "coder", "B", .int 0) :: more)), (t, .inr (.byte, cs.map byV))]) (S2 := [(src, .inr (.char, cs.map Value.int))]) (c2 := 1) (s2 := 0 + n) (st2 := []) ?_
  refine Go.sub [0, 1] (by decide) rfl (D' := [(x, .inl ("java/lang/String", ("java/lang/String", "value", "[B", .ref t) :: ("java/lang/String", "coder", "B", .int 0) :: more)), (t, .inr (.byte, cs.map byV))]) rfl (S' := []) eN (G := ?_)
  exact Go.retV d5_9 ⟨t, rfl, rfl, rfl⟩ (hl := by show 0 + n ≤ n; omega)
theorem d6_0 : Dx jdk_42_method_152_code 0 (.getstatic 38) 3 3 := ⟨by decide +kernel, rfl⟩
theorem d6_3 : Dx jdk_42_method_152_code 3 (.ifCond .eq 10) 3 6 := ⟨by decide +kernel, rfl⟩
theorem d6_6 : Dx jdk_42_method_152_code 6 (.aload_n 0) 1 7 := ⟨by decide +kernel, rfl⟩
theorem d6_7 : Dx jdk_42_method_152_code 7 (.getfield 15) 3 10 := ⟨by decide +kernel, rfl⟩
theorem d6_10 : Dx jdk_42_method_152_code 10 (.goto 4) 3 13 := ⟨by decide +kernel, rfl⟩
theorem d6_13 : Dx jdk_42_method_152_code 13 (.iconst 1) 1 14 := ⟨by decide +kernel, rfl⟩
theorem d6_14 : Dx jdk_42_method_152_code 14 (.ireturn) 1 15 := ⟨by decide +kernel, rfl⟩
set_option maxRecDepth 65536 in
set_option maxHeartbeats 40000000 in
theorem c_coder {l : Launch} {Z : State} {a0 : Array Value} {EL : List (String × Nat)} {b : Bool} {n0 : Nat} (hw : ∀ d ∈ tables_1, d.before a0 Z = true) (a c : Addr) (k : Int32) (more : List (String × String × String × Value)) (cpt : Int32) (hCS : Sta Z Z.heap "java/lang/String" "COMPACT_STRINGS" "Z" (.int cpt)) (hcpt : ¬ cpt = 0) (hk : nar .byte k = k) :
    Met l Z a0 EL b n0 (⟨"java/lang/String", "coder", "()B"⟩ : MethodName) jdk_42_method_152_code 1 (some .byte) [] (rm4 0 0 0 0) [.ref a] [] [(a, .inl ("java/lang/String", ("java/lang/String", "value", "[B", .ref c) :: ("java/lang/String", "coder", "B", .int k) :: more))] (fun v D' S' => v = some (.int k) ∧ D' = [] ∧ S' = []) := by
  refine Met.of_go (own := "java/lang/String") (nm := "coder") (Ls := #[.val (.ref a)]) (plainFor_of_name png_1) (fun m => by first | rfl | (simp [entryFrame, mkF, argsToLocals, Value.category]; done)) ?_
  refine Go.getstatic d6_0 (host := "") (Or.inl (hw _ (List.mem_of_getElem? (i := 18) rfl))) Via.refl hCS (G := ?_)
  refine Go.ifc d6_3 (pc2 := 13) (Gy := fun h => absurd h hcpt) (Gn := fun _ => ?_)
  refine Go.aloadN d6_6 rfl (G := ?_)
  refine Go.getfield d6_7 (host := "") (Or.inl (hw _ (List.mem_of_getElem? (i := 30) rfl))) Via.refl (inS (i := 0) rfl) 1 rfl (G := ?_)
  refine Go.goto d6_10 (pc2 := 14) (G := ?_)
  refine Go.sub [] (by decide) rfl (D' := []) rfl (S' := []) eN (G := ?_)
  exact Go.retB d6_14 (by simp) (z' := k) hk ⟨rfl, rfl, rfl⟩
theorem d7_0 : Dx jdk_42_method_54_code 0 (.aload_n 0) 1 1 := ⟨by decide +kernel, rfl⟩
theorem d7_1 : Dx jdk_42_method_54_code 1 (.getfield 9) 3 4 := ⟨by decide +kernel, rfl⟩
theorem d7_4 : Dx jdk_42_method_54_code 4 (.arraylength) 1 5 := ⟨by decide +kernel, rfl⟩
theorem d7_5 : Dx jdk_42_method_54_code 5 (.aload_n 0) 1 6 := ⟨by decide +kernel, rfl⟩
theorem d7_6 : Dx jdk_42_method_54_code 6 (.invokevirtual 335) 3 9 := ⟨by decide +kernel, rfl⟩
theorem d7_9 : Dx jdk_42_method_54_code 9 (.ishr) 1 10 := ⟨by decide +kernel, rfl⟩
theorem d7_10 : Dx jdk_42_method_54_code 10 (.ireturn) 1 11 := ⟨by decide +kernel, rfl⟩
theorem pdg_4 : parseMethodDescriptor "()B" = some ⟨[], some .byte⟩ := by decide +kernel
set_option maxRecDepth 65536 in
set_option maxHeartbeats 40000000 in
theorem c_length {l : Launch} {Z : State} {a0 : Array Value} {EL : List (String × Nat)} {b : Bool} {n0 : Nat} (hw : ∀ d ∈ tables_1, d.before a0 Z = true) (a c : Addr) (k z : Int32) (vs : List Value) (more : List (String × String × String × Value)) (cpt : Int32) (hCS : Sta Z Z.heap "java/lang/String" "COMPACT_STRINGS" "Z" (.int cpt)) (hcpt : ¬ cpt = 0) (hk : nar .byte k = k) (hz : Int32.ofNat vs.length >>> (k &&& 31) = z) :
    Met l Z a0 EL b n0 (⟨"java/lang/String", "length", "()I"⟩ : MethodName) jdk_42_method_54_code 1 (some .int) [] (rm4 1 0 0 13) [.ref a] [] [(a, .inl ("java/lang/String", ("java/lang/String", "value", "[B", .ref c) :: ("java/lang/String", "coder", "B", .int k) :: more)), (c, .inr (.byte, vs))] (fun v D' S' => v = some (.int z) ∧ D' = [] ∧ S' = []) := by
  refine Met.of_go (own := "java/lang/String") (nm := "length") (Ls := #[.val (.ref a)]) (plainFor_of_name png_1) (fun m => by first | rfl | (simp [entryFrame, mkF, argsToLocals, Value.category]; done)) ?_
  refine Go.aloadN d7_0 rfl (G := ?_)
  refine Go.getfield d7_1 (host := "") (Or.inl (hw _ (List.mem_of_getElem? (i := 32) rfl))) Via.refl (inS (i := 0) rfl) 0 rfl (G := ?_)
  refine Go.arraylength d7_4 (inS (i := 1) rfl) (n := (Int32.ofNat vs.length)) rfl (G := ?_)
  refine Go.aloadN d7_5 rfl (G := ?_)
  refine Go.invokevirtual false d7_6 (hw _ (List.mem_of_getElem? (i := 89) rfl)) (hw _ (List.mem_of_getElem? (i := 90) rfl)) (hw _ (List.mem_of_getElem? (i := 92) rfl)) (hw _ (List.mem_of_getElem? (i := 91) rfl)) (hw _ (List.mem_of_getElem? (i := 7) rfl)) (hw _ (List.mem_of_getElem? (i := 93) rfl)) (nfSel (hw _ (List.mem_of_getElem? (i := 92) rfl))) (inS (i := 0) rfl) (c_coder hw a c k more cpt hCS hcpt hk) pdg_4 rfl (argsL := []) (rest := [.int (Int32.ofNat vs.length)]) rfl rfl (Dr := []) rfl (eS (Or.inl (List.mem_of_getElem? (i := 0) rfl)) eN) (G := ?_)
  rintro _ _ _ ⟨rfl, rfl, rfl⟩
  refine Go.norm (D2 := []) (S2 := [(a, .inl ("java/lang/String", ("java/lang/String", "value", "[B", .ref c) :: ("java/lang/String", "coder", "B", .int k) :: more)), (c, .inr (.byte, vs))]) (c2 := 0) (s2 := 0) (st2 := [.int k, .int (Int32.ofNat vs.length)]) ?_
  refine Go.ishr d7_9 (z := z) hz (G := ?_)
  refine Go.sub [] (by decide) rfl (D' := []) rfl (S' := []) eN (G := ?_)
  exact Go.retI d7_10 ⟨rfl, rfl, rfl⟩
theorem d8_0 : Dx jdk_42_method_154_code 0 (.getstatic 38) 3 3 := ⟨by decide +kernel, rfl⟩
theorem d8_3 : Dx jdk_42_method_154_code 3 (.ifCond .eq 14) 3 6 := ⟨by decide +kernel, rfl⟩
theorem d8_6 : Dx jdk_42_method_154_code 6 (.aload_n 0) 1 7 := ⟨by decide +kernel, rfl⟩
theorem d8_7 : Dx jdk_42_method_154_code 7 (.getfield 15) 3 10 := ⟨by decide +kernel, rfl⟩
theorem d8_10 : Dx jdk_42_method_154_code 10 (.ifCond .ne 7) 3 13 := ⟨by decide +kernel, rfl⟩
theorem d8_13 : Dx jdk_42_method_154_code 13 (.iconst 1) 1 14 := ⟨by decide +kernel, rfl⟩
theorem d8_14 : Dx jdk_42_method_154_code 14 (.goto 4) 3 17 := ⟨by decide +kernel, rfl⟩
theorem d8_17 : Dx jdk_42_method_154_code 17 (.iconst 0) 1 18 := ⟨by decide +kernel, rfl⟩
theorem d8_18 : Dx jdk_42_method_154_code 18 (.ireturn) 1 19 := ⟨by decide +kernel, rfl⟩
set_option maxRecDepth 65536 in
set_option maxHeartbeats 40000000 in
theorem c_isLatin1 {l : Launch} {Z : State} {a0 : Array Value} {EL : List (String × Nat)} {b : Bool} {n0 : Nat} (hw : ∀ d ∈ tables_1, d.before a0 Z = true) (a c : Addr) (more : List (String × String × String × Value)) (cpt : Int32) (hCS : Sta Z Z.heap "java/lang/String" "COMPACT_STRINGS" "Z" (.int cpt)) (hcpt : ¬ cpt = 0) :
    Met l Z a0 EL b n0 (⟨"java/lang/String", "isLatin1", "()Z"⟩ : MethodName) jdk_42_method_154_code 1 (some .boolean) [] (rm4 0 0 0 0) [.ref a] [] [(a, .inl ("java/lang/String", ("java/lang/String", "value", "[B", .ref c) :: ("java/lang/String", "coder", "B", .int 0) :: more))] (fun v D' S' => v = some (.int 1) ∧ D' = [] ∧ S' = []) := by
  refine Met.of_go (own := "java/lang/String") (nm := "isLatin1") (Ls := #[.val (.ref a)]) (plainFor_of_name png_1) (fun m => by first | rfl | (simp [entryFrame, mkF, argsToLocals, Value.category]; done)) ?_
  refine Go.getstatic d8_0 (host := "") (Or.inl (hw _ (List.mem_of_getElem? (i := 18) rfl))) Via.refl hCS (G := ?_)
  refine Go.ifc d8_3 (pc2 := 17) (Gy := fun h => absurd h hcpt) (Gn := fun _ => ?_)
  refine Go.aloadN d8_6 rfl (G := ?_)
  refine Go.getfield d8_7 (host := "") (Or.inl (hw _ (List.mem_of_getElem? (i := 30) rfl))) Via.refl (inS (i := 0) rfl) 1 rfl (G := ?_)
  refine Go.ifc d8_10 (pc2 := 17) (Gy := fun h => absurd rfl h) (Gn := fun _ => ?_)
  refine Go.iconst d8_13 (v := 1) rfl (G := ?_)
  refine Go.goto d8_14 (pc2 := 18) (G := ?_)
  refine Go.sub [] (by decide) rfl (D' := []) rfl (S' := []) eN (G := ?_)
  exact Go.retB d8_18 (by simp) (z' := 1) rfl ⟨rfl, rfl, rfl⟩
theorem png_2 : plainName "jdk/internal/util/Preconditions" = true := by first | (simp [plainName, overriddenIn]; done) | decide +kernel
theorem d9_0 : Dx jdk_41_method_11_code 0 (.iload_n 0) 1 1 := ⟨by decide +kernel, rfl⟩
theorem d9_1 : Dx jdk_41_method_11_code 1 (.ifCond .lt 8) 3 4 := ⟨by decide +kernel, rfl⟩
theorem d9_4 : Dx jdk_41_method_11_code 4 (.iload_n 0) 1 5 := ⟨by decide +kernel, rfl⟩
theorem d9_5 : Dx jdk_41_method_11_code 5 (.iload_n 1) 1 6 := ⟨by decide +kernel, rfl⟩
theorem d9_6 : Dx jdk_41_method_11_code 6 (.if_icmp .lt 10) 3 9 := ⟨by decide +kernel, rfl⟩
theorem d9_9 : Dx jdk_41_method_11_code 9 (.aload_n 2) 1 10 := ⟨by decide +kernel, rfl⟩
theorem d9_10 : Dx jdk_41_method_11_code 10 (.iload_n 0) 1 11 := ⟨by decide +kernel, rfl⟩
theorem d9_11 : Dx jdk_41_method_11_code 11 (.iload_n 1) 1 12 := ⟨by decide +kernel, rfl⟩
theorem d9_12 : Dx jdk_41_method_11_code 12 (.invokestatic 95) 3 15 := ⟨by decide +kernel, rfl⟩
theorem d9_15 : Dx jdk_41_method_11_code 15 (.athrow) 1 16 := ⟨by decide +kernel, rfl⟩
theorem d9_16 : Dx jdk_41_method_11_code 16 (.iload_n 0) 1 17 := ⟨by decide +kernel, rfl⟩
theorem d9_17 : Dx jdk_41_method_11_code 17 (.ireturn) 1 18 := ⟨by decide +kernel, rfl⟩
set_option maxRecDepth 65536 in
set_option maxHeartbeats 40000000 in
theorem c_preIndex {l : Launch} {Z : State} {a0 : Array Value} {EL : List (String × Nat)} {b : Bool} {n0 : Nat} (hw : ∀ d ∈ tables_1, d.before a0 Z = true) (j m : Int32) (fmt : Value) (hfm : fmt.isRef = true) (h0 : ¬ j < 0) (h1 : j < m) :
    Met l Z a0 EL b n0 (⟨"jdk/internal/util/Preconditions", "checkIndex", "(IILjava/util/function/BiFunction;)I"⟩ : MethodName) jdk_41_method_11_code 3 (some .int) [] (rm4 0 0 0 0) [.int j, .int m, fmt] [] [] (fun v D' S' => v = some (.int j) ∧ D' = [] ∧ S' = []) := by
  refine Met.of_go (own := "jdk/internal/util/Preconditions") (nm := "checkIndex") (Ls := #[.val (.int j), .val (.int m), .val fmt]) (plainFor_of_name png_2) (fun m => by rcases ref_cases hfm with rfl | ⟨a, rfl⟩ <;> first | rfl | (simp [entryFrame, mkF, argsToLocals, Value.category]; done)) ?_
  refine Go.iloadN d9_0 rfl (G := ?_)
  refine Go.ifc d9_1 (pc2 := 9) (Gy := fun h => absurd h h0) (Gn := fun _ => ?_)
  refine Go.iloadN d9_4 rfl (G := ?_)
  refine Go.iloadN d9_5 rfl (G := ?_)
  refine Go.icmp d9_6 (pc2 := 16) (Gy := fun _ => ?_) (Gn := fun h => absurd h1 h)
  refine Go.iloadN d9_16 rfl (G := ?_)
  exact Go.retI d9_17 ⟨rfl, rfl, rfl⟩
theorem d10_0 : Dx jdk_42_method_155_code 0 (.iload_n 0) 1 1 := ⟨by decide +kernel, rfl⟩
theorem d10_1 : Dx jdk_42_method_155_code 1 (.iload_n 1) 1 2 := ⟨by decide +kernel, rfl⟩
theorem d10_2 : Dx jdk_42_method_155_code 2 (.getstatic 1053) 3 5 := ⟨by decide +kernel, rfl⟩
theorem d10_5 : Dx jdk_42_method_155_code 5 (.invokestatic 1059) 3 8 := ⟨by decide +kernel, rfl⟩
theorem d10_8 : Dx jdk_42_method_155_code 8 (.pop) 1 9 := ⟨by decide +kernel, rfl⟩
theorem d10_9 : Dx jdk_42_method_155_code 9 (.return_) 1 10 := ⟨by decide +kernel, rfl⟩
theorem pdg_5 : parseMethodDescriptor "(IILjava/util/function/BiFunction;)I" = some ⟨[.int, .int, .object "java/util/function/BiFunction"], some .int⟩ := by decide +kernel
set_option maxRecDepth 65536 in
set_option maxHeartbeats 40000000 in
theorem c_checkIndex {l : Launch} {Z : State} {a0 : Array Value} {EL : List (String × Nat)} {b : Bool} {n0 : Nat} (hw : ∀ d ∈ tables_1, d.before a0 Z = true) (j m : Int32) (fmt : Value) (hFM : Sta Z Z.heap "jdk/internal/util/Preconditions" "SIOOBE_FORMATTER" "Ljava/util/function/BiFunction;" fmt) (hfm : fmt.isRef = true) (h0 : ¬ j < 0) (h1 : j < m) :
    Met l Z a0 EL b n0 (⟨"java/lang/String", "checkIndex", "(II)V"⟩ : MethodName) jdk_42_method_155_code 2 none [] (rm4 1 0 0 14) [.int j, .int m] [] [] (fun v D' S' => v = none ∧ D' = [] ∧ S' = []) := by
  refine Met.of_go (own := "java/lang/String") (nm := "checkIndex") (Ls := #[.val (.int j), .val (.int m)]) (plainFor_of_name png_1) (fun m => by first | rfl | (simp [entryFrame, mkF, argsToLocals, Value.category]; done)) ?_
  refine Go.iloadN d10_0 rfl (G := ?_)
  refine Go.iloadN d10_1 rfl (G := ?_)
  refine Go.getstatic d10_2 (host := "") (Or.inl (hw _ (List.mem_of_getElem? (i := 73) rfl))) Via.refl hFM (G := ?_)
  refine Go.invokestatic false d10_5 (hw _ (List.mem_of_getElem? (i := 75) rfl)) (hw _ (List.mem_of_getElem? (i := 76) rfl)) (hw _ (List.mem_of_getElem? (i := 74) rfl)) (hw _ (List.mem_of_getElem? (i := 77) rfl)) (c_preIndex hw j m fmt hfm h0 h1) pdg_5 rfl (argsL := [.int j, .int m, fmt]) (rest := []) rfl rfl (Dr := []) rfl eN (G := ?_)
  rintro _ _ _ ⟨rfl, rfl, rfl⟩
  refine Go.norm (D2 := []) (S2 := []) (c2 := 0) (s2 := 0) (st2 := [.int j]) ?_
  refine Go.pop d10_8 (G := ?_)
  exact Go.retV d10_9 ⟨rfl, rfl, rfl⟩
theorem png_3 : plainName "java/lang/StringLatin1" = true := by first | (simp [plainName, overriddenIn]; done) | decide +kernel
theorem d11_0 : Dx jdk_43_method_2_code 0 (.iload_n 1) 1 1 := ⟨by decide +kernel, rfl⟩
theorem d11_1 : Dx jdk_43_method_2_code 1 (.aload_n 0) 1 2 := ⟨by decide +kernel, rfl⟩
theorem d11_2 : Dx jdk_43_method_2_code 2 (.arraylength) 1 3 := ⟨by decide +kernel, rfl⟩
theorem d11_3 : Dx jdk_43_method_2_code 3 (.invokestatic 9) 3 6 := ⟨by decide +kernel, rfl⟩
theorem d11_6 : Dx jdk_43_method_2_code 6 (.aload_n 0) 1 7 := ⟨by decide +kernel, rfl⟩
theorem d11_7 : Dx jdk_43_method_2_code 7 (.iload_n 1) 1 8 := ⟨by decide +kernel, rfl⟩
theorem d11_8 : Dx jdk_43_method_2_code 8 (.baload) 1 9 := ⟨by decide +kernel, rfl⟩
theorem d11_9 : Dx jdk_43_method_2_code 9 (.sipush 255) 3 12 := ⟨by decide +kernel, rfl⟩
theorem d11_12 : Dx jdk_43_method_2_code 12 (.iand) 1 13 := ⟨by decide +kernel, rfl⟩
theorem d11_13 : Dx jdk_43_method_2_code 13 (.i2c) 1 14 := ⟨by decide +kernel, rfl⟩
theorem d11_14 : Dx jdk_43_method_2_code 14 (.ireturn) 1 15 := ⟨by decide +kernel, rfl⟩
theorem pdg_6 : parseMethodDescriptor "(II)V" = some ⟨[.int, .int], none⟩ := by decide +kernel
set_option maxRecDepth 65536 in
set_option maxHeartbeats 40000000 in
theorem c_charL {l : Launch} {Z : State} {a0 : Array Value} {EL : List (String × Nat)} {b : Bool} {n0 : Nat} (hw : ∀ d ∈ tables_1, d.before a0 Z = true) (c : Addr) (vs : List Value) (j y z : Int32) (fmt : Value) (hFM : Sta Z Z.heap "jdk/internal/util/Preconditions" "SIOOBE_FORMATTER" "Ljava/util/function/BiFunction;" fmt) (hfm : fmt.isRef = true) (h0 : ¬ j < 0) (h1 : j < Int32.ofNat vs.length) (hv : vs[j.toNatClampNeg]? = some (.int y)) (hz : (y &&& 255).toUInt32.toUInt16.toUInt32.toInt32 = z) (hz2 : nar .char z = z) :
    Met l Z a0 EL b n0 (⟨"java/lang/StringLatin1", "charAt", "([BI)C"⟩ : MethodName) jdk_43_method_2_code 2 (some .char) [] (rm4 2 0 0 27) [.ref c, .int j] [] [(c, .inr (.byte, vs))] (fun v D' S' => v = some (.int z) ∧ D' = [] ∧ S' = []) := by
  refine Met.of_go (own := "java/lang/StringLatin1") (nm := "charAt") (Ls := #[.val (.ref c), .val (.int j)]) (plainFor_of_name png_3) (fun m => by first | rfl | (simp [entryFrame, mkF, argsToLocals, Value.category]; done)) ?_
  refine Go.iloadN d11_0 rfl (G := ?_)
  refine Go.aloadN d11_1 rfl (G := ?_)
  refine Go.arraylength d11_2 (inS (i := 0) rfl) (n := (Int32.ofNat vs.length)) rfl (G := ?_)
  refine Go.invokestatic false d11_3 (hw _ (List.mem_of_getElem? (i := 70) rfl)) (hw _ (List.mem_of_getElem? (i := 71) rfl)) (hw _ (List.mem_of_getElem? (i := 7) rfl)) (hw _ (List.mem_of_getElem? (i := 72) rfl)) (c_checkIndex hw j (Int32.ofNat vs.length) fmt hFM hfm h0 h1) pdg_6 rfl (argsL := [.int j, .int (Int32.ofNat vs.length)]) (rest := []) rfl rfl (Dr := []) rfl eN (G := ?_)
  rintro _ _ _ ⟨rfl, rfl, rfl⟩
  refine Go.norm (D2 := []) (S2 := [(c, .inr (.byte, vs))]) (c2 := 0) (s2 := 0) (st2 := []) ?_
  refine Go.aloadN d11_6 rfl (G := ?_)
  refine Go.iloadN d11_7 rfl (G := ?_)
  refine Go.baload d11_8 (inS (i := 0) rfl) hv h0 (G := ?_)
  refine Go.sipush d11_9 (v := 255) rfl (G := ?_)
  refine Go.iand d11_12 (z := (y &&& 255)) rfl (G := ?_)
  refine Go.i2c d11_13 (z := z) hz (G := ?_)
  refine Go.sub [] (by decide) rfl (D' := []) rfl (S' := []) eN (G := ?_)
  exact Go.retB d11_14 (by simp) (z' := z) hz2 ⟨rfl, rfl, rfl⟩
theorem d12_0 : Dx jdk_42_method_56_code 0 (.aload_n 0) 1 1 := ⟨by decide +kernel, rfl⟩
theorem d12_1 : Dx jdk_42_method_56_code 1 (.invokevirtual 492) 3 4 := ⟨by decide +kernel, rfl⟩
theorem d12_4 : Dx jdk_42_method_56_code 4 (.ifCond .eq 12) 3 7 := ⟨by decide +kernel, rfl⟩
theorem d12_7 : Dx jdk_42_method_56_code 7 (.aload_n 0) 1 8 := ⟨by decide +kernel, rfl⟩
theorem d12_8 : Dx jdk_42_method_56_code 8 (.getfield 9) 3 11 := ⟨by decide +kernel, rfl⟩
theorem d12_11 : Dx jdk_42_method_56_code 11 (.iload_n 1) 1 12 := ⟨by decide +kernel, rfl⟩
theorem d12_12 : Dx jdk_42_method_56_code 12 (.invokestatic 495) 3 15 := ⟨by decide +kernel, rfl⟩
theorem d12_15 : Dx jdk_42_method_56_code 15 (.ireturn) 1 16 := ⟨by decide +kernel, rfl⟩
theorem d12_16 : Dx jdk_42_method_56_code 16 (.aload_n 0) 1 17 := ⟨by decide +kernel, rfl⟩
theorem d12_17 : Dx jdk_42_method_56_code 17 (.getfield 9) 3 20 := ⟨by decide +kernel, rfl⟩
theorem d12_20 : Dx jdk_42_method_56_code 20 (.iload_n 1) 1 21 := ⟨by decide +kernel, rfl⟩
theorem d12_21 : Dx jdk_42_method_56_code 21 (.invokestatic 498) 3 24 := ⟨by decide +kernel, rfl⟩
theorem d12_24 : Dx jdk_42_method_56_code 24 (.ireturn) 1 25 := ⟨by decide +kernel, rfl⟩
theorem pdg_7 : parseMethodDescriptor "()Z" = some ⟨[], some .boolean⟩ := by decide +kernel
theorem pdg_8 : parseMethodDescriptor "([BI)C" = some ⟨[.array .byte, .int], some .char⟩ := by decide +kernel
set_option maxRecDepth 65536 in
set_option maxHeartbeats 40000000 in
theorem c_charAt {l : Launch} {Z : State} {a0 : Array Value} {EL : List (String × Nat)} {b : Bool} {n0 : Nat} (hw : ∀ d ∈ tables_1, d.before a0 Z = true) (a c : Addr) (more : List (String × String × String × Value)) (cpt : Int32) (hCS : Sta Z Z.heap "java/lang/String" "COMPACT_STRINGS" "Z" (.int cpt)) (hcpt : ¬ cpt = 0) (vs : List Value) (j y z : Int32) (fmt : Value) (hFM : Sta Z Z.heap "jdk/internal/util/Preconditions" "SIOOBE_FORMATTER" "Ljava/util/function/BiFunction;" fmt) (hfm : fmt.isRef = true) (h0 : ¬ j < 0) (h1 : j < Int32.ofNat vs.length) (hv : vs[j.toNatClampNeg]? = some (.int y)) (hz : (y &&& 255).toUInt32.toUInt16.toUInt32.toInt32 = z) (hz2 : nar .char z = z) :
    Met l Z a0 EL b n0 (⟨"java/lang/String", "charAt", "(I)C"⟩ : MethodName) jdk_42_method_56_code 2 (some .char) [] (rm4 3 0 0 40) [.ref a, .int j] [] [(a, .inl ("java/lang/String", ("java/lang/String", "value", "[B", .ref c) :: ("java/lang/String", "coder", "B", .int 0) :: more)), (c, .inr (.byte, vs))] (fun v D' S' => v = some (.int z) ∧ D' = [] ∧ S' = []) := by
  refine Met.of_go (own := "java/lang/String") (nm := "charAt") (Ls := #[.val (.ref a), .val (.int j)]) (plainFor_of_name png_1) (fun m => by first | rfl | (simp [entryFrame, mkF, argsToLocals, Value.category]; done)) ?_
  refine Go.aloadN d12_0 rfl (G := ?_)
  refine Go.invokevirtual false d12_1 (hw _ (List.mem_of_getElem? (i := 61) rfl)) (hw _ (List.mem_of_getElem? (i := 62) rfl)) (hw _ (List.mem_of_getElem? (i := 64) rfl)) (hw _ (List.mem_of_getElem? (i := 63) rfl)) (hw _ (List.mem_of_getElem? (i := 7) rfl)) (hw _ (List.mem_of_getElem? (i := 65) rfl)) (nfSel (hw _ (List.mem_of_getElem? (i := 64) rfl))) (inS (i := 0) rfl) (c_isLatin1 hw a c more cpt hCS hcpt) pdg_7 rfl (argsL := []) (rest := []) rfl rfl (Dr := []) rfl (eS (Or.inl (List.mem_of_getElem? (i := 0) rfl)) eN) (G := ?_)
  rintro _ _ _ ⟨rfl, rfl, rfl⟩
  refine Go.norm (D2 := []) (S2 := [(a, .inl ("java/lang/String", ("java/lang/String", "value", "[B", .ref c) :: ("java/lang/String", "coder", "B", .int 0) :: more)), (c, .inr (.byte, vs))]) (c2 := 0) (s2 := 0) (st2 := [.int 1]) ?_
  refine Go.ifc d12_4 (pc2 := 16) (Gy := fun h => absurd h (show ¬ (1 : Int32) = 0 by decide)) (Gn := fun _ => ?_)
  refine Go.aloadN d12_7 rfl (G := ?_)
  refine Go.getfield d12_8 (host := "") (Or.inl (hw _ (List.mem_of_getElem? (i := 32) rfl))) Via.refl (inS (i := 0) rfl) 0 rfl (G := ?_)
  refine Go.iloadN d12_11 rfl (G := ?_)
  refine Go.invokestatic false d12_12 (hw _ (List.mem_of_getElem? (i := 66) rfl)) (hw _ (List.mem_of_getElem? (i := 67) rfl)) (hw _ (List.mem_of_getElem? (i := 68) rfl)) (hw _ (List.mem_of_getElem? (i := 69) rfl)) (c_charL hw c vs j y z fmt hFM hfm h0 h1 hv hz hz2) pdg_8 rfl (argsL := [.ref c, .int j]) (rest := []) rfl rfl (Dr := []) rfl (eS (Or.inl (List.mem_of_getElem? (i := 1) rfl)) eN) (G := ?_)
  rintro _ _ _ ⟨rfl, rfl, rfl⟩
  refine Go.norm (D2 := []) (S2 := [(a, .inl ("java/lang/String", ("java/lang/String", "value", "[B", .ref c) :: ("java/lang/String", "coder", "B", .int 0) :: more)), (c, .inr (.byte, vs))]) (c2 := 0) (s2 := 0) (st2 := [.int z]) ?_
  refine Go.sub [] (by decide) rfl (D' := []) rfl (S' := []) eN (G := ?_)
  exact Go.retB d12_15 (by simp) (z' := z) hz2 ⟨rfl, rfl, rfl⟩

theorem bT {r : Int32} {P : Prop} (h : (r = 1 ∧ P) ∨ (r = 0 ∧ ¬ P)) (q : ¬ r = 0) : P := h.elim (fun x => x.2) (fun x => absurd x.1 q)
theorem bF {r : Int32} {P : Prop} (h : (r = 1 ∧ P) ∨ (r = 0 ∧ ¬ P)) (q : r = 0) : ¬ P := h.elim (fun x => absurd (x.1.symm.trans q) (by decide)) (fun x => x.2)
theorem shr0 (x : Int32) : x >>> ((0 : Int32) &&& 31) = x := by
  apply Int32.toBitVec_inj.mp; simp
theorem nI_pred {n : Nat} (h : 0 < n) : Int32.ofNat n - 1 = Int32.ofNat (n - 1) := by
  obtain ⟨k, rfl⟩ : ∃ k, n = k + 1 := ⟨n - 1, by omega⟩
  rw [← nI_succ, Nat.add_sub_cancel, Int32.add_sub_cancel]
theorem byv_at {cs : List Int32} {i : Nat} {x : Int32} (hi : i < 2147483648) (hx : cs[i]? = some x) : (cs.map byV)[(Int32.ofNat i).toNatClampNeg]? = some (.int x.toInt8.toInt32) := by
  rw [nI_nat hi, List.getElem?_map, hx]; rfl
theorem lat_y {c : Int32} (h0 : 0 ≤ c.toInt) (h1 : c.toInt ≤ 255) : (c.toInt8.toInt32 &&& 255).toUInt32.toUInt16.toUInt32.toInt32 = c := by
  have a2 := c_i2b c
  rw [i2c_mask]
  have a3 := c_mask c.toInt8.toInt32 255 8 (by omega) (by decide)
  apply Int32.toInt_inj.mp
  simp only [Nat.reducePow, Int.reducePow] at *
  omega
theorem m16_lat {x : Int32} (h : ¬ (255 : Int32) < x) : x.toInt ≤ 255 := by
  rw [Int32.lt_iff_toInt_lt] at h; have : (255 : Int32).toInt = 255 := rfl; omega
theorem latN_full : ∀ {cs : List Int32}, latN cs = cs.length → ∀ c ∈ cs, ¬ (255 : Int32) < c
  | [], _, _, h => by cases h
  | c :: r, e, x, hx => by
    by_cases q : (255 : Int32) < c
    · rw [latN, if_pos q] at e; simp at e
    · rw [latN, if_neg q] at e
      rcases List.mem_cons.mp hx with rfl | hx
      · exact q
      · exact latN_full (cs := r) (by simpa using e) x hx

theorem d13_0 : Dx jdk_29_method_65_code 0 (.iload_n 0) 1 1 := ⟨by decide +kernel, rfl⟩
theorem d13_1 : Dx jdk_29_method_65_code 1 (.iload_n 1) 1 2 := ⟨by decide +kernel, rfl⟩
theorem d13_2 : Dx jdk_29_method_65_code 2 (.if_icmp .lt 7) 3 5 := ⟨by decide +kernel, rfl⟩
theorem d13_5 : Dx jdk_29_method_65_code 5 (.iload_n 0) 1 6 := ⟨by decide +kernel, rfl⟩
theorem d13_6 : Dx jdk_29_method_65_code 6 (.goto 4) 3 9 := ⟨by decide +kernel, rfl⟩
theorem d13_9 : Dx jdk_29_method_65_code 9 (.iload_n 1) 1 10 := ⟨by decide +kernel, rfl⟩
theorem d13_10 : Dx jdk_29_method_65_code 10 (.ireturn) 1 11 := ⟨by decide +kernel, rfl⟩
set_option maxRecDepth 65536 in
set_option maxHeartbeats 40000000 in
theorem c_max {l : Launch} {Z : State} {a0 : Array Value} {EL : List (String × Nat)} {b : Bool} {n0 : Nat} (hw : ∀ d ∈ tables_1, d.before a0 Z = true) (x y : Int32) :
    Met l Z a0 EL b n0 (⟨"java/lang/Math", "max", "(II)I"⟩ : MethodName) jdk_29_method_65_code 2 (some .int) [] (rm4 0 0 0 0) [.int x, .int y] [] [] (fun v D' S' => v = some (.int (if x < y then y else x)) ∧ D' = [] ∧ S' = []) := by
  refine Met.of_go (own := "java/lang/Math") (nm := "max") (Ls := #[.val (.int x), .val (.int y)]) (by decide +kernel) (fun m => by first | rfl | (simp [entryFrame, mkF, argsToLocals, Value.category]; done)) ?_
  refine Go.iloadN d13_0 rfl (G := ?_)
  refine Go.iloadN d13_1 rfl (G := ?_)
  refine Go.icmp d13_2 (pc2 := 9) (Gy := fun h => ?_) (Gn := fun h => ?_)
  · have h : x < y := h
    refine Go.iloadN d13_9 rfl (G := ?_)
    exact Go.retI d13_10 ⟨by rw [if_pos h], rfl, rfl⟩
  · have h : ¬ x < y := h
    refine Go.iloadN d13_5 rfl (G := ?_)
    refine Go.goto d13_6 (pc2 := 10) (G := ?_)
    exact Go.retI d13_10 ⟨by rw [if_neg h], rfl, rfl⟩
theorem d14_0 : Dx jdk_29_method_69_code 0 (.iload_n 0) 1 1 := ⟨by decide +kernel, rfl⟩
theorem d14_1 : Dx jdk_29_method_69_code 1 (.iload_n 1) 1 2 := ⟨by decide +kernel, rfl⟩
theorem d14_2 : Dx jdk_29_method_69_code 2 (.if_icmp .gt 7) 3 5 := ⟨by decide +kernel, rfl⟩
theorem d14_5 : Dx jdk_29_method_69_code 5 (.iload_n 0) 1 6 := ⟨by decide +kernel, rfl⟩
theorem d14_6 : Dx jdk_29_method_69_code 6 (.goto 4) 3 9 := ⟨by decide +kernel, rfl⟩
theorem d14_9 : Dx jdk_29_method_69_code 9 (.iload_n 1) 1 10 := ⟨by decide +kernel, rfl⟩
theorem d14_10 : Dx jdk_29_method_69_code 10 (.ireturn) 1 11 := ⟨by decide +kernel, rfl⟩
set_option maxRecDepth 65536 in
set_option maxHeartbeats 40000000 in
theorem c_min {l : Launch} {Z : State} {a0 : Array Value} {EL : List (String × Nat)} {b : Bool} {n0 : Nat} (hw : ∀ d ∈ tables_1, d.before a0 Z = true) (x y : Int32) :
    Met l Z a0 EL b n0 (⟨"java/lang/Math", "min", "(II)I"⟩ : MethodName) jdk_29_method_69_code 2 (some .int) [] (rm4 0 0 0 0) [.int x, .int y] [] [] (fun v D' S' => v = some (.int (if y < x then y else x)) ∧ D' = [] ∧ S' = []) := by
  refine Met.of_go (own := "java/lang/Math") (nm := "min") (Ls := #[.val (.int x), .val (.int y)]) (by decide +kernel) (fun m => by first | rfl | (simp [entryFrame, mkF, argsToLocals, Value.category]; done)) ?_
  refine Go.iloadN d14_0 rfl (G := ?_)
  refine Go.iloadN d14_1 rfl (G := ?_)
  refine Go.icmp d14_2 (pc2 := 9) (Gy := fun h => ?_) (Gn := fun h => ?_)
  · have h : y < x := h
    refine Go.iloadN d14_9 rfl (G := ?_)
    exact Go.retI d14_10 ⟨by rw [if_pos h], rfl, rfl⟩
  · have h : ¬ y < x := h
    refine Go.iloadN d14_5 rfl (G := ?_)
    refine Go.goto d14_6 (pc2 := 10) (G := ?_)
    exact Go.retI d14_10 ⟨by rw [if_neg h], rfl, rfl⟩
def isB (c : Int32) : Prop := c = 60 ∨ c = 62 ∨ c = 34 ∨ c = 123 ∨ c = 125 ∨ c = 124 ∨ c = 94 ∨ c = 96 ∨ c = 92
theorem isB_b {c : Int32} (h0 : ¬ c < 0) (h1 : ¬ (255 : Int32) < c) : isB c.toInt8.toInt32 ↔ isB c := by
  have q := c_i2b c
  simp only [isB, Int32.lt_iff_toInt_lt, ← Int32.toInt_inj, Int32.reduceToInt] at h0 h1 ⊢
  omega
theorem isB_big {c : Int32} (h1 : (255 : Int32) < c) : ¬ isB c := by
  rintro (rfl | rfl | rfl | rfl | rfl | rfl | rfl | rfl | rfl) <;> revert h1 <;> decide
theorem d15_0 : Dx jdk_43_method_4_code 0 (.iload_n 0) 1 1 := ⟨by decide +kernel, rfl⟩
theorem d15_1 : Dx jdk_43_method_4_code 1 (.ifCond .lt 14) 3 4 := ⟨by decide +kernel, rfl⟩
theorem d15_4 : Dx jdk_43_method_4_code 4 (.iload_n 0) 1 5 := ⟨by decide +kernel, rfl⟩
theorem d15_5 : Dx jdk_43_method_4_code 5 (.sipush 255) 3 8 := ⟨by decide +kernel, rfl⟩
theorem d15_8 : Dx jdk_43_method_4_code 8 (.if_icmp .gt 7) 3 11 := ⟨by decide +kernel, rfl⟩
theorem d15_11 : Dx jdk_43_method_4_code 11 (.iconst 1) 1 12 := ⟨by decide +kernel, rfl⟩
theorem d15_12 : Dx jdk_43_method_4_code 12 (.goto 4) 3 15 := ⟨by decide +kernel, rfl⟩
theorem d15_15 : Dx jdk_43_method_4_code 15 (.iconst 0) 1 16 := ⟨by decide +kernel, rfl⟩
theorem d15_16 : Dx jdk_43_method_4_code 16 (.ireturn) 1 17 := ⟨by decide +kernel, rfl⟩
set_option maxRecDepth 65536 in
set_option maxHeartbeats 40000000 in
theorem c_canEnc {l : Launch} {Z : State} {a0 : Array Value} {EL : List (String × Nat)} {b : Bool} {n0 : Nat} (hw : ∀ d ∈ tables_1, d.before a0 Z = true) (ch : Int32) :
    Met l Z a0 EL b n0 (⟨"java/lang/StringLatin1", "canEncode", "(I)Z"⟩ : MethodName) jdk_43_method_4_code 1 (some .boolean) [] (rm4 0 0 0 0) [.int ch] [] [] (fun v D' S' => v = some (.int (if ch < 0 ∨ (255 : Int32) < ch then (0 : Int32) else 1)) ∧ D' = [] ∧ S' = []) := by
  refine Met.of_go (own := "java/lang/StringLatin1") (nm := "canEncode") (Ls := #[.val (.int ch)]) (plainFor_of_name png_3) (fun m => by first | rfl | (simp [entryFrame, mkF, argsToLocals, Value.category]; done)) ?_
  refine Go.iloadN d15_0 rfl (G := ?_)
  refine Go.ifc d15_1 (pc2 := 15) (Gy := fun h => ?_) (Gn := fun h => ?_)
  · have h : ch < 0 := h
    refine Go.iconst d15_15 (v := 0) rfl (G := ?_)
    exact Go.retB d15_16 (by simp) (z' := 0) rfl ⟨by rw [if_pos (Or.inl h)], rfl, rfl⟩
  · have h : ¬ ch < 0 := h
    refine Go.iloadN d15_4 rfl (G := ?_)
    refine Go.sipush d15_5 (v := 255) rfl (G := ?_)
    refine Go.icmp d15_8 (pc2 := 15) (Gy := fun h2 => ?_) (Gn := fun h2 => ?_)
    · have h2 : 255 < ch := h2
      refine Go.iconst d15_15 (v := 0) rfl (G := ?_)
      exact Go.retB d15_16 (by simp) (z' := 0) rfl ⟨by rw [if_pos (Or.inr h2)], rfl, rfl⟩
    · have h2 : ¬ 255 < ch := h2
      refine Go.iconst d15_11 (v := 1) rfl (G := ?_)
      refine Go.goto d15_12 (pc2 := 16) (G := ?_)
      exact Go.retB d15_16 (by simp) (z' := 1) rfl ⟨by rw [if_neg (fun q => q.elim h h2)], rfl, rfl⟩
theorem d16_0 : Dx jdk_43_method_23_code 0 (.iload_n 1) 1 1 := ⟨by decide +kernel, rfl⟩
theorem d16_1 : Dx jdk_43_method_23_code 1 (.i2b) 1 2 := ⟨by decide +kernel, rfl⟩
theorem d16_2 : Dx jdk_43_method_23_code 2 (.istore 4) 2 4 := ⟨by decide +kernel, rfl⟩
theorem d16_4 : Dx jdk_43_method_23_code 4 (.iload_n 2) 1 5 := ⟨by decide +kernel, rfl⟩
theorem d16_5 : Dx jdk_43_method_23_code 5 (.istore 5) 2 7 := ⟨by decide +kernel, rfl⟩
theorem d16_7 : Dx jdk_43_method_23_code 7 (.iload 5) 2 9 := ⟨by decide +kernel, rfl⟩
theorem d16_9 : Dx jdk_43_method_23_code 9 (.iload_n 3) 1 10 := ⟨by decide +kernel, rfl⟩
theorem d16_10 : Dx jdk_43_method_23_code 10 (.if_icmp .ge 21) 3 13 := ⟨by decide +kernel, rfl⟩
theorem d16_13 : Dx jdk_43_method_23_code 13 (.aload_n 0) 1 14 := ⟨by decide +kernel, rfl⟩
theorem d16_14 : Dx jdk_43_method_23_code 14 (.iload 5) 2 16 := ⟨by decide +kernel, rfl⟩
theorem d16_16 : Dx jdk_43_method_23_code 16 (.baload) 1 17 := ⟨by decide +kernel, rfl⟩
theorem d16_17 : Dx jdk_43_method_23_code 17 (.iload 4) 2 19 := ⟨by decide +kernel, rfl⟩
theorem d16_19 : Dx jdk_43_method_23_code 19 (.if_icmp .ne 6) 3 22 := ⟨by decide +kernel, rfl⟩
theorem d16_22 : Dx jdk_43_method_23_code 22 (.iload 5) 2 24 := ⟨by decide +kernel, rfl⟩
theorem d16_24 : Dx jdk_43_method_23_code 24 (.ireturn) 1 25 := ⟨by decide +kernel, rfl⟩
theorem d16_25 : Dx jdk_43_method_23_code 25 (.iinc 5 1) 3 28 := ⟨by decide +kernel, rfl⟩
theorem d16_28 : Dx jdk_43_method_23_code 28 (.goto (-21)) 3 31 := ⟨by decide +kernel, rfl⟩
theorem d16_31 : Dx jdk_43_method_23_code 31 (.iconst (-1)) 1 32 := ⟨by decide +kernel, rfl⟩
theorem d16_32 : Dx jdk_43_method_23_code 32 (.ireturn) 1 33 := ⟨by decide +kernel, rfl⟩
set_option maxRecDepth 65536 in
set_option maxHeartbeats 40000000 in
theorem c_ioc {l : Launch} {Z : State} {a0 : Array Value} {EL : List (String × Nat)} {b : Bool} {n0 : Nat} (hw : ∀ d ∈ tables_1, d.before a0 Z = true) (t : Addr) (ch bb : Int32) (hbb : ch.toInt8.toInt32 = bb) :
    Met l Z a0 EL b n0 (⟨"java/lang/StringLatin1", "indexOfChar", "([BIII)I"⟩ : MethodName) jdk_43_method_23_code 6 (some .int) [] (rm4 0 0 0 0) [.ref t, .int ch, .int 0, .int 9] [] [(t, .inr (.byte, [.int 60, .int 62, .int 34, .int 123, .int 125, .int 124, .int 94, .int 96, .int 92]))] (fun v D' S' => ∃ r, ((¬ r < 0) ↔ isB bb) ∧ v = some (.int r) ∧ D' = [] ∧ S' = []) := by
  refine Met.of_go (own := "java/lang/StringLatin1") (nm := "indexOfChar") (Ls := #[.val (.ref t), .val (.int ch), .val (.int 0), .val (.int 9), .unset, .unset]) (plainFor_of_name png_3) (fun m => by first | rfl | (simp [entryFrame, mkF, argsToLocals, Value.category]; done)) ?_
  refine Go.iloadN d16_0 rfl (G := ?_)
  refine Go.i2b d16_1 (z := bb) hbb (G := ?_)
  refine Go.istore d16_2 (Ls' := #[.val (.ref t), .val (.int ch), .val (.int 0), .val (.int 9), .val (.int bb), .unset]) rfl (G := ?_)
  refine Go.iloadN d16_4 rfl (G := ?_)
  refine Go.istore d16_5 (Ls' := #[.val (.ref t), .val (.int ch), .val (.int 0), .val (.int 9), .val (.int bb), .val (.int 0)]) rfl (G := ?_)
  refine Go.iload d16_7 rfl (G := ?_)
  refine Go.iloadN d16_9 rfl (G := ?_)
  refine Go.icmp d16_10 (pc2 := 31) (Gy := fun h => absurd h (show ¬ (¬ (0 : Int32) < 9) by decide)) (Gn := fun _ => ?_)
  refine Go.aloadN d16_13 rfl (G := ?_)
  refine Go.iload d16_14 rfl (G := ?_)
  refine Go.baload d16_16 (inS (i := 0) rfl) rfl (G := ?_)
  refine Go.iload d16_17 rfl (G := ?_)
  refine Go.icmp d16_19 (pc2 := 25) (Gy := fun h2 => ?_) (Gn := fun h2 => ?_)
  · have h2 : ¬ 60 = bb := h2
    refine Go.iinc d16_25 rfl (v := 1) rfl (z := 1) rfl (Ls' := #[.val (.ref t), .val (.int ch), .val (.int 0), .val (.int 9), .val (.int bb), .val (.int 1)]) rfl (G := ?_)
    refine Go.goto d16_28 (pc2 := 7) (G := ?_)
    refine Go.iload d16_7 rfl (G := ?_)
    refine Go.iloadN d16_9 rfl (G := ?_)
    refine Go.icmp d16_10 (pc2 := 31) (Gy := fun h => absurd h (show ¬ (¬ (1 : Int32) < 9) by decide)) (Gn := fun _ => ?_)
    refine Go.aloadN d16_13 rfl (G := ?_)
    refine Go.iload d16_14 rfl (G := ?_)
    refine Go.baload d16_16 (inS (i := 0) rfl) rfl (G := ?_)
    refine Go.iload d16_17 rfl (G := ?_)
    refine Go.icmp d16_19 (pc2 := 25) (Gy := fun h4 => ?_) (Gn := fun h4 => ?_)
    · have h4 : ¬ 62 = bb := h4
      refine Go.iinc d16_25 rfl (v := 1) rfl (z := 2) rfl (Ls' := #[.val (.ref t), .val (.int ch), .val (.int 0), .val (.int 9), .val (.int bb), .val (.int 2)]) rfl (G := ?_)
      refine Go.goto d16_28 (pc2 := 7) (G := ?_)
      refine Go.iload d16_7 rfl (G := ?_)
      refine Go.iloadN d16_9 rfl (G := ?_)
      refine Go.icmp d16_10 (pc2 := 31) (Gy := fun h => absurd h (show ¬ (¬ (2 : Int32) < 9) by decide)) (Gn := fun _ => ?_)
      refine Go.aloadN d16_13 rfl (G := ?_)
      refine Go.iload d16_14 rfl (G := ?_)
      refine Go.baload d16_16 (inS (i := 0) rfl) rfl (G := ?_)
      refine Go.iload d16_17 rfl (G := ?_)
      refine Go.icmp d16_19 (pc2 := 25) (Gy := fun h6 => ?_) (Gn := fun h6 => ?_)
      · have h6 : ¬ 34 = bb := h6
        refine Go.iinc d16_25 rfl (v := 1) rfl (z := 3) rfl (Ls' := #[.val (.ref t), .val (.int ch), .val (.int 0), .val (.int 9), .val (.int bb), .val (.int 3)]) rfl (G := ?_)
        refine Go.goto d16_28 (pc2 := 7) (G := ?_)
        refine Go.iload d16_7 rfl (G := ?_)
        refine Go.iloadN d16_9 rfl (G := ?_)
        refine Go.icmp d16_10 (pc2 := 31) (Gy := fun h => absurd h (show ¬ (¬ (3 : Int32) < 9) by decide)) (Gn := fun _ => ?_)
        refine Go.aloadN d16_13 rfl (G := ?_)
        refine Go.iload d16_14 rfl (G := ?_)
        refine Go.baload d16_16 (inS (i := 0) rfl) rfl (G := ?_)
        refine Go.iload d16_17 rfl (G := ?_)
        refine Go.icmp d16_19 (pc2 := 25) (Gy := fun h8 => ?_) (Gn := fun h8 => ?_)
        · have h8 : ¬ 123 = bb := h8
          refine Go.iinc d16_25 rfl (v := 1) rfl (z := 4) rfl (Ls' := #[.val (.ref t), .val (.int ch), .val (.int 0), .val (.int 9), .val (.int bb), .val (.int 4)]) rfl (G := ?_)
          refine Go.goto d16_28 (pc2 := 7) (G := ?_)
          refine Go.iload d16_7 rfl (G := ?_)
          refine Go.iloadN d16_9 rfl (G := ?_)
          refine Go.icmp d16_10 (pc2 := 31) (Gy := fun h => absurd h (show ¬ (¬ (4 : Int32) < 9) by decide)) (Gn := fun _ => ?_)
          refine Go.aloadN d16_13 rfl (G := ?_)
          refine Go.iload d16_14 rfl (G := ?_)
          refine Go.baload d16_16 (inS (i := 0) rfl) rfl (G := ?_)
          refine Go.iload d16_17 rfl (G := ?_)
          refine Go.icmp d16_19 (pc2 := 25) (Gy := fun h10 => ?_) (Gn := fun h10 => ?_)
          · have h10 : ¬ 125 = bb := h10
            refine Go.iinc d16_25 rfl (v := 1) rfl (z := 5) rfl (Ls' := #[.val (.ref t), .val (.int ch), .val (.int 0), .val (.int 9), .val (.int bb), .val (.int 5)]) rfl (G := ?_)
            refine Go.goto d16_28 (pc2 := 7) (G := ?_)
            refine Go.iload d16_7 rfl (G := ?_)
            refine Go.iloadN d16_9 rfl (G := ?_)
            refine Go.icmp d16_10 (pc2 := 31) (Gy := fun h => absurd h (show ¬ (¬ (5 : Int32) < 9) by decide)) (Gn := fun _ => ?_)
            refine Go.aloadN d16_13 rfl (G := ?_)
            refine Go.iload d16_14 rfl (G := ?_)
            refine Go.baload d16_16 (inS (i := 0) rfl) rfl (G := ?_)
            refine Go.iload d16_17 rfl (G := ?_)
            refine Go.icmp d16_19 (pc2 := 25) (Gy := fun h12 => ?_) (Gn := fun h12 => ?_)
            · have h12 : ¬ 124 = bb := h12
              refine Go.iinc d16_25 rfl (v := 1) rfl (z := 6) rfl (Ls' := #[.val (.ref t), .val (.int ch), .val (.int 0), .val (.int 9), .val (.int bb), .val (.int 6)]) rfl (G := ?_)
              refine Go.goto d16_28 (pc2 := 7) (G := ?_)
              refine Go.iload d16_7 rfl (G := ?_)
              refine Go.iloadN d16_9 rfl (G := ?_)
              refine Go.icmp d16_10 (pc2 := 31) (Gy := fun h => absurd h (show ¬ (¬ (6 : Int32) < 9) by decide)) (Gn := fun _ => ?_)
              refine Go.aloadN d16_13 rfl (G := ?_)
              refine Go.iload d16_14 rfl (G := ?_)
              refine Go.baload d16_16 (inS (i := 0) rfl) rfl (G := ?_)
              refine Go.iload d16_17 rfl (G := ?_)
              refine Go.icmp d16_19 (pc2 := 25) (Gy := fun h14 => ?_) (Gn := fun h14 => ?_)
              · have h14 : ¬ 94 = bb := h14
                refine Go.iinc d16_25 rfl (v := 1) rfl (z := 7) rfl (Ls' := #[.val (.ref t), .val (.int ch), .val (.int 0), .val (.int 9), .val (.int bb), .val (.int 7)]) rfl (G := ?_)
                refine Go.goto d16_28 (pc2 := 7) (G := ?_)
                refine Go.iload d16_7 rfl (G := ?_)
                refine Go.iloadN d16_9 rfl (G := ?_)
                refine Go.icmp d16_10 (pc2 := 31) (Gy := fun h => absurd h (show ¬ (¬ (7 : Int32) < 9) by decide)) (Gn := fun _ => ?_)
                refine Go.aloadN d16_13 rfl (G := ?_)
                refine Go.iload d16_14 rfl (G := ?_)
                refine Go.baload d16_16 (inS (i := 0) rfl) rfl (G := ?_)
                refine Go.iload d16_17 rfl (G := ?_)
                refine Go.icmp d16_19 (pc2 := 25) (Gy := fun h16 => ?_) (Gn := fun h16 => ?_)
                · have h16 : ¬ 96 = bb := h16
                  refine Go.iinc d16_25 rfl (v := 1) rfl (z := 8) rfl (Ls' := #[.val (.ref t), .val (.int ch), .val (.int 0), .val (.int 9), .val (.int bb), .val (.int 8)]) rfl (G := ?_)
                  refine Go.goto d16_28 (pc2 := 7) (G := ?_)
                  refine Go.iload d16_7 rfl (G := ?_)
                  refine Go.iloadN d16_9 rfl (G := ?_)
                  refine Go.icmp d16_10 (pc2 := 31) (Gy := fun h => absurd h (show ¬ (¬ (8 : Int32) < 9) by decide)) (Gn := fun _ => ?_)
                  refine Go.aloadN d16_13 rfl (G := ?_)
                  refine Go.iload d16_14 rfl (G := ?_)
                  refine Go.baload d16_16 (inS (i := 0) rfl) rfl (G := ?_)
                  refine Go.iload d16_17 rfl (G := ?_)
                  refine Go.icmp d16_19 (pc2 := 25) (Gy := fun h18 => ?_) (Gn := fun h18 => ?_)
                  · have h18 : ¬ 92 = bb := h18
                    refine Go.iinc d16_25 rfl (v := 1) rfl (z := 9) rfl (Ls' := #[.val (.ref t), .val (.int ch), .val (.int 0), .val (.int 9), .val (.int bb), .val (.int 9)]) rfl (G := ?_)
                    refine Go.goto d16_28 (pc2 := 7) (G := ?_)
                    refine Go.iload d16_7 rfl (G := ?_)
                    refine Go.iloadN d16_9 rfl (G := ?_)
                    refine Go.icmp d16_10 (pc2 := 31) (Gy := fun _ => ?_) (Gn := fun h => absurd (show ¬ (9 : Int32) < 9 by decide) h)
                    refine Go.iconst d16_31 (v := (-1)) rfl (G := ?_)
                    refine Go.sub [] (by decide) rfl (D' := []) rfl (S' := []) eN (G := ?_)
                    exact Go.retI d16_32 ⟨_, iff_of_false (by decide) (fun q => by rcases q with q | q | q | q | q | q | q | q | q; exact h2 q.symm; exact h4 q.symm; exact h6 q.symm; exact h8 q.symm; exact h10 q.symm; exact h12 q.symm; exact h14 q.symm; exact h16 q.symm; exact h18 q.symm), rfl, rfl, rfl⟩
                  · have h18 : 92 = bb := Classical.not_not.mp h18
                    refine Go.iload d16_22 rfl (G := ?_)
                    refine Go.sub [] (by decide) rfl (D' := []) rfl (S' := []) eN (G := ?_)
                    exact Go.retI d16_24 ⟨_, iff_of_true (by decide) (by rw [← h18]; simp [isB]), rfl, rfl, rfl⟩
                · have h16 : 96 = bb := Classical.not_not.mp h16
                  refine Go.iload d16_22 rfl (G := ?_)
                  refine Go.sub [] (by decide) rfl (D' := []) rfl (S' := []) eN (G := ?_)
                  exact Go.retI d16_24 ⟨_, iff_of_true (by decide) (by rw [← h16]; simp [isB]), rfl, rfl, rfl⟩
              · have h14 : 94 = bb := Classical.not_not.mp h14
                refine Go.iload d16_22 rfl (G := ?_)
                refine Go.sub [] (by decide) rfl (D' := []) rfl (S' := []) eN (G := ?_)
                exact Go.retI d16_24 ⟨_, iff_of_true (by decide) (by rw [← h14]; simp [isB]), rfl, rfl, rfl⟩
            · have h12 : 124 = bb := Classical.not_not.mp h12
              refine Go.iload d16_22 rfl (G := ?_)
              refine Go.sub [] (by decide) rfl (D' := []) rfl (S' := []) eN (G := ?_)
              exact Go.retI d16_24 ⟨_, iff_of_true (by decide) (by rw [← h12]; simp [isB]), rfl, rfl, rfl⟩
          · have h10 : 125 = bb := Classical.not_not.mp h10
            refine Go.iload d16_22 rfl (G := ?_)
            refine Go.sub [] (by decide) rfl (D' := []) rfl (S' := []) eN (G := ?_)
            exact Go.retI d16_24 ⟨_, iff_of_true (by decide) (by rw [← h10]; simp [isB]), rfl, rfl, rfl⟩
        · have h8 : 123 = bb := Classical.not_not.mp h8
          refine Go.iload d16_22 rfl (G := ?_)
          refine Go.sub [] (by decide) rfl (D' := []) rfl (S' := []) eN (G := ?_)
          exact Go.retI d16_24 ⟨_, iff_of_true (by decide) (by rw [← h8]; simp [isB]), rfl, rfl, rfl⟩
      · have h6 : 34 = bb := Classical.not_not.mp h6
        refine Go.iload d16_22 rfl (G := ?_)
        refine Go.sub [] (by decide) rfl (D' := []) rfl (S' := []) eN (G := ?_)
        exact Go.retI d16_24 ⟨_, iff_of_true (by decide) (by rw [← h6]; simp [isB]), rfl, rfl, rfl⟩
    · have h4 : 62 = bb := Classical.not_not.mp h4
      refine Go.iload d16_22 rfl (G := ?_)
      refine Go.sub [] (by decide) rfl (D' := []) rfl (S' := []) eN (G := ?_)
      exact Go.retI d16_24 ⟨_, iff_of_true (by decide) (by rw [← h4]; simp [isB]), rfl, rfl, rfl⟩
  · have h2 : 60 = bb := Classical.not_not.mp h2
    refine Go.iload d16_22 rfl (G := ?_)
    refine Go.sub [] (by decide) rfl (D' := []) rfl (S' := []) eN (G := ?_)
    exact Go.retI d16_24 ⟨_, iff_of_true (by decide) (by rw [← h2]; simp [isB]), rfl, rfl, rfl⟩
theorem d17_0 : Dx jdk_43_method_22_code 0 (.iload_n 1) 1 1 := ⟨by decide +kernel, rfl⟩
theorem d17_1 : Dx jdk_43_method_22_code 1 (.invokestatic 88) 3 4 := ⟨by decide +kernel, rfl⟩
theorem d17_4 : Dx jdk_43_method_22_code 4 (.ifCond .ne 5) 3 7 := ⟨by decide +kernel, rfl⟩
theorem d17_7 : Dx jdk_43_method_22_code 7 (.iconst (-1)) 1 8 := ⟨by decide +kernel, rfl⟩
theorem d17_8 : Dx jdk_43_method_22_code 8 (.ireturn) 1 9 := ⟨by decide +kernel, rfl⟩
theorem d17_9 : Dx jdk_43_method_22_code 9 (.iload_n 2) 1 10 := ⟨by decide +kernel, rfl⟩
theorem d17_10 : Dx jdk_43_method_22_code 10 (.iconst 0) 1 11 := ⟨by decide +kernel, rfl⟩
theorem d17_11 : Dx jdk_43_method_22_code 11 (.invokestatic 92) 3 14 := ⟨by decide +kernel, rfl⟩
theorem d17_14 : Dx jdk_43_method_22_code 14 (.istore_n 2) 1 15 := ⟨by decide +kernel, rfl⟩
theorem d17_15 : Dx jdk_43_method_22_code 15 (.iload_n 3) 1 16 := ⟨by decide +kernel, rfl⟩
theorem d17_16 : Dx jdk_43_method_22_code 16 (.aload_n 0) 1 17 := ⟨by decide +kernel, rfl⟩
theorem d17_17 : Dx jdk_43_method_22_code 17 (.arraylength) 1 18 := ⟨by decide +kernel, rfl⟩
theorem d17_18 : Dx jdk_43_method_22_code 18 (.invokestatic 38) 3 21 := ⟨by decide +kernel, rfl⟩
theorem d17_21 : Dx jdk_43_method_22_code 21 (.istore_n 3) 1 22 := ⟨by decide +kernel, rfl⟩
theorem d17_22 : Dx jdk_43_method_22_code 22 (.iload_n 2) 1 23 := ⟨by decide +kernel, rfl⟩
theorem d17_23 : Dx jdk_43_method_22_code 23 (.iload_n 3) 1 24 := ⟨by decide +kernel, rfl⟩
theorem d17_24 : Dx jdk_43_method_22_code 24 (.if_icmp .lt 5) 3 27 := ⟨by decide +kernel, rfl⟩
theorem d17_27 : Dx jdk_43_method_22_code 27 (.iconst (-1)) 1 28 := ⟨by decide +kernel, rfl⟩
theorem d17_28 : Dx jdk_43_method_22_code 28 (.ireturn) 1 29 := ⟨by decide +kernel, rfl⟩
theorem d17_29 : Dx jdk_43_method_22_code 29 (.aload_n 0) 1 30 := ⟨by decide +kernel, rfl⟩
theorem d17_30 : Dx jdk_43_method_22_code 30 (.iload_n 1) 1 31 := ⟨by decide +kernel, rfl⟩
theorem d17_31 : Dx jdk_43_method_22_code 31 (.iload_n 2) 1 32 := ⟨by decide +kernel, rfl⟩
theorem d17_32 : Dx jdk_43_method_22_code 32 (.iload_n 3) 1 33 := ⟨by decide +kernel, rfl⟩
theorem d17_33 : Dx jdk_43_method_22_code 33 (.invokestatic 95) 3 36 := ⟨by decide +kernel, rfl⟩
theorem d17_36 : Dx jdk_43_method_22_code 36 (.ireturn) 1 37 := ⟨by decide +kernel, rfl⟩
theorem pdg_9 : parseMethodDescriptor "(I)Z" = some ⟨[.int], some .boolean⟩ := by decide +kernel
theorem pdg_10 : parseMethodDescriptor "(II)I" = some ⟨[.int, .int], some .int⟩ := by decide +kernel
theorem pdg_11 : parseMethodDescriptor "([BIII)I" = some ⟨[.array .byte, .int, .int, .int], some .int⟩ := by decide +kernel
set_option maxRecDepth 65536 in
set_option maxHeartbeats 40000000 in
theorem c_ioB {l : Launch} {Z : State} {a0 : Array Value} {EL : List (String × Nat)} {b : Bool} {n0 : Nat} (hw : ∀ d ∈ tables_1, d.before a0 Z = true) (t : Addr) (ch : Int32) (h0 : ¬ ch < 0) :
    Met l Z a0 EL b n0 (⟨"java/lang/StringLatin1", "indexOf", "([BIII)I"⟩ : MethodName) jdk_43_method_22_code 4 (some .int) [] (rm4 1 0 0 17) [.ref t, .int ch, .int 0, .int 9] [] [(t, .inr (.byte, [.int 60, .int 62, .int 34, .int 123, .int 125, .int 124, .int 94, .int 96, .int 92]))] (fun v D' S' => ∃ r, ((¬ r < 0) ↔ isB ch) ∧ v = some (.int r) ∧ D' = [] ∧ S' = []) := by
  refine Met.of_go (own := "java/lang/StringLatin1") (nm := "indexOf") (Ls := #[.val (.ref t), .val (.int ch), .val (.int 0), .val (.int 9)]) (plainFor_of_name png_3) (fun m => by first | rfl | (simp [entryFrame, mkF, argsToLocals, Value.category]; done)) ?_
  refine Go.iloadN d17_0 rfl (G := ?_)
  refine Go.invokestatic false d17_1 (hw _ (List.mem_of_getElem? (i := 149) rfl)) (hw _ (List.mem_of_getElem? (i := 150) rfl)) (hw _ (List.mem_of_getElem? (i := 68) rfl)) (hw _ (List.mem_of_getElem? (i := 151) rfl)) (c_canEnc hw ch) pdg_9 rfl (argsL := [.int ch]) (rest := []) rfl rfl (Dr := []) rfl eN (G := ?_)
  rintro _ _ _ ⟨rfl, rfl, rfl⟩
  refine Go.norm (D2 := []) (S2 := [(t, .inr (.byte, [.int 60, .int 62, .int 34, .int 123, .int 125, .int 124, .int 94, .int 96, .int 92]))]) (c2 := 0) (s2 := 0) (st2 := [.int (if ch < 0 ∨ (255 : Int32) < ch then (0 : Int32) else 1)]) ?_
  by_cases hlt : (255 : Int32) < ch
  · refine Go.ifc d17_4 (pc2 := 9) (Gy := fun h => absurd h (show ¬ (¬ (if ch < 0 ∨ (255 : Int32) < ch then (0 : Int32) else 1) = 0) from (by simp [hlt]))) (Gn := fun _ => ?_)
    refine Go.iconst d17_7 (v := (-1)) rfl (G := ?_)
    refine Go.sub [] (by decide) rfl (D' := []) rfl (S' := []) eN (G := ?_)
    exact Go.retI d17_8 ⟨-1, by simp [isB_big hlt], rfl, rfl, rfl⟩
  · refine Go.ifc d17_4 (pc2 := 9) (Gy := fun _ => ?_) (Gn := fun h => absurd (show ¬ (if ch < 0 ∨ (255 : Int32) < ch then (0 : Int32) else 1) = 0 from (by simp [hlt, h0])) h)
    refine Go.iloadN d17_9 rfl (G := ?_)
    refine Go.iconst d17_10 (v := 0) rfl (G := ?_)
    refine Go.invokestatic false d17_11 (hw _ (List.mem_of_getElem? (i := 152) rfl)) (hw _ (List.mem_of_getElem? (i := 153) rfl)) (hw _ (List.mem_of_getElem? (i := 154) rfl)) (hw _ (List.mem_of_getElem? (i := 155) rfl)) (c_max hw 0 0) pdg_10 rfl (argsL := [.int 0, .int 0]) (rest := []) rfl rfl (Dr := []) rfl eN (G := ?_)
    rintro _ _ _ ⟨rfl, rfl, rfl⟩
    refine Go.norm (D2 := []) (S2 := [(t, .inr (.byte, [.int 60, .int 62, .int 34, .int 123, .int 125, .int 124, .int 94, .int 96, .int 92]))]) (c2 := 0) (s2 := 0) (st2 := [.int 0]) ?_
    refine Go.istoreN d17_14 (Ls' := #[.val (.ref t), .val (.int ch), .val (.int 0), .val (.int 9)]) rfl (G := ?_)
    refine Go.iloadN d17_15 rfl (G := ?_)
    refine Go.aloadN d17_16 rfl (G := ?_)
    refine Go.arraylength d17_17 (inS (i := 0) rfl) (n := 9) rfl (G := ?_)
    refine Go.invokestatic false d17_18 (hw _ (List.mem_of_getElem? (i := 156) rfl)) (hw _ (List.mem_of_getElem? (i := 157) rfl)) (hw _ (List.mem_of_getElem? (i := 154) rfl)) (hw _ (List.mem_of_getElem? (i := 158) rfl)) (c_min hw 9 9) pdg_10 rfl (argsL := [.int 9, .int 9]) (rest := []) rfl rfl (Dr := []) rfl eN (G := ?_)
    rintro _ _ _ ⟨rfl, rfl, rfl⟩
    refine Go.norm (D2 := []) (S2 := [(t, .inr (.byte, [.int 60, .int 62, .int 34, .int 123, .int 125, .int 124, .int 94, .int 96, .int 92]))]) (c2 := 0) (s2 := 0) (st2 := [.int 9]) ?_
    refine Go.istoreN d17_21 (Ls' := #[.val (.ref t), .val (.int ch), .val (.int 0), .val (.int 9)]) rfl (G := ?_)
    refine Go.iloadN d17_22 rfl (G := ?_)
    refine Go.iloadN d17_23 rfl (G := ?_)
    refine Go.icmp d17_24 (pc2 := 29) (Gy := fun _ => ?_) (Gn := fun h => absurd (show (0 : Int32) < 9 by decide) h)
    refine Go.aloadN d17_29 rfl (G := ?_)
    refine Go.iloadN d17_30 rfl (G := ?_)
    refine Go.iloadN d17_31 rfl (G := ?_)
    refine Go.iloadN d17_32 rfl (G := ?_)
    refine Go.invokestatic false d17_33 (hw _ (List.mem_of_getElem? (i := 159) rfl)) (hw _ (List.mem_of_getElem? (i := 160) rfl)) (hw _ (List.mem_of_getElem? (i := 68) rfl)) (hw _ (List.mem_of_getElem? (i := 161) rfl)) (c_ioc hw t ch _ rfl) pdg_11 rfl (argsL := [.ref t, .int ch, .int 0, .int 9]) (rest := []) rfl rfl (Dr := []) rfl (eS (Or.inl (List.mem_of_getElem? (i := 0) rfl)) eN) (G := ?_)
    rintro _ _ _ ⟨r, hr, rfl, rfl, rfl⟩
    refine Go.norm (D2 := []) (S2 := [(t, .inr (.byte, [.int 60, .int 62, .int 34, .int 123, .int 125, .int 124, .int 94, .int 96, .int 92]))]) (c2 := 0) (s2 := 0) (st2 := [.int r]) ?_
    refine Go.sub [] (by decide) rfl (D' := []) rfl (S' := []) eN (G := ?_)
    exact Go.retI d17_36 ⟨r, by rw [hr]; exact isB_b h0 hlt, rfl, rfl, rfl⟩
theorem d18_0 : Dx jdk_42_method_80_code 0 (.aload_n 0) 1 1 := ⟨by decide +kernel, rfl⟩
theorem d18_1 : Dx jdk_42_method_80_code 1 (.invokevirtual 492) 3 4 := ⟨by decide +kernel, rfl⟩
theorem d18_4 : Dx jdk_42_method_80_code 4 (.ifCond .eq 19) 3 7 := ⟨by decide +kernel, rfl⟩
theorem d18_7 : Dx jdk_42_method_80_code 7 (.aload_n 0) 1 8 := ⟨by decide +kernel, rfl⟩
theorem d18_8 : Dx jdk_42_method_80_code 8 (.getfield 9) 3 11 := ⟨by decide +kernel, rfl⟩
theorem d18_11 : Dx jdk_42_method_80_code 11 (.iload_n 1) 1 12 := ⟨by decide +kernel, rfl⟩
theorem d18_12 : Dx jdk_42_method_80_code 12 (.iload_n 2) 1 13 := ⟨by decide +kernel, rfl⟩
theorem d18_13 : Dx jdk_42_method_80_code 13 (.aload_n 0) 1 14 := ⟨by decide +kernel, rfl⟩
theorem d18_14 : Dx jdk_42_method_80_code 14 (.invokevirtual 505) 3 17 := ⟨by decide +kernel, rfl⟩
theorem d18_17 : Dx jdk_42_method_80_code 17 (.invokestatic 637) 3 20 := ⟨by decide +kernel, rfl⟩
theorem d18_20 : Dx jdk_42_method_80_code 20 (.goto 16) 3 23 := ⟨by decide +kernel, rfl⟩
theorem d18_23 : Dx jdk_42_method_80_code 23 (.aload_n 0) 1 24 := ⟨by decide +kernel, rfl⟩
theorem d18_24 : Dx jdk_42_method_80_code 24 (.getfield 9) 3 27 := ⟨by decide +kernel, rfl⟩
theorem d18_27 : Dx jdk_42_method_80_code 27 (.iload_n 1) 1 28 := ⟨by decide +kernel, rfl⟩
theorem d18_28 : Dx jdk_42_method_80_code 28 (.iload_n 2) 1 29 := ⟨by decide +kernel, rfl⟩
theorem d18_29 : Dx jdk_42_method_80_code 29 (.aload_n 0) 1 30 := ⟨by decide +kernel, rfl⟩
theorem d18_30 : Dx jdk_42_method_80_code 30 (.invokevirtual 505) 3 33 := ⟨by decide +kernel, rfl⟩
theorem d18_33 : Dx jdk_42_method_80_code 33 (.invokestatic 640) 3 36 := ⟨by decide +kernel, rfl⟩
theorem d18_36 : Dx jdk_42_method_80_code 36 (.ireturn) 1 37 := ⟨by decide +kernel, rfl⟩
theorem pdg_12 : parseMethodDescriptor "()I" = some ⟨[], some .int⟩ := by decide +kernel
set_option maxRecDepth 65536 in
set_option maxHeartbeats 40000000 in
theorem c_io2 {l : Launch} {Z : State} {a0 : Array Value} {EL : List (String × Nat)} {b : Bool} {n0 : Nat} (hw : ∀ d ∈ tables_1, d.before a0 Z = true) (a t : Addr) (ch : Int32) (h0 : ¬ ch < 0) (more : List (String × String × String × Value)) (cpt : Int32) (hCS : Sta Z Z.heap "java/lang/String" "COMPACT_STRINGS" "Z" (.int cpt)) (hcpt : ¬ cpt = 0) :
    Met l Z a0 EL b n0 (⟨"java/lang/String", "indexOf", "(II)I"⟩ : MethodName) jdk_42_method_80_code 3 (some .int) [] (rm4 2 0 0 32) [.ref a, .int ch, .int 0] [] [(a, .inl ("java/lang/String", ("java/lang/String", "value", "[B", .ref t) :: ("java/lang/String", "coder", "B", .int 0) :: more)), (t, .inr (.byte, [.int 60, .int 62, .int 34, .int 123, .int 125, .int 124, .int 94, .int 96, .int 92]))] (fun v D' S' => ∃ r, ((¬ r < 0) ↔ isB ch) ∧ v = some (.int r) ∧ D' = [] ∧ S' = []) := by
  refine Met.of_go (own := "java/lang/String") (nm := "indexOf") (Ls := #[.val (.ref a), .val (.int ch), .val (.int 0)]) (plainFor_of_name png_1) (fun m => by first | rfl | (simp [entryFrame, mkF, argsToLocals, Value.category]; done)) ?_
  refine Go.aloadN d18_0 rfl (G := ?_)
  refine Go.invokevirtual false d18_1 (hw _ (List.mem_of_getElem? (i := 61) rfl)) (hw _ (List.mem_of_getElem? (i := 62) rfl)) (hw _ (List.mem_of_getElem? (i := 64) rfl)) (hw _ (List.mem_of_getElem? (i := 63) rfl)) (hw _ (List.mem_of_getElem? (i := 7) rfl)) (hw _ (List.mem_of_getElem? (i := 65) rfl)) (nfSel (hw _ (List.mem_of_getElem? (i := 64) rfl))) (inS (i := 0) rfl) (c_isLatin1 hw a t more cpt hCS hcpt) pdg_7 rfl (argsL := []) (rest := []) rfl rfl (Dr := []) rfl (eS (Or.inl (List.mem_of_getElem? (i := 0) rfl)) eN) (G := ?_)
  rintro _ _ _ ⟨rfl, rfl, rfl⟩
  refine Go.norm (D2 := []) (S2 := [(a, .inl ("java/lang/String", ("java/lang/String", "value", "[B", .ref t) :: ("java/lang/String", "coder", "B", .int 0) :: more)), (t, .inr (.byte, [.int 60, .int 62, .int 34, .int 123, .int 125, .int 124, .int 94, .int 96, .int 92]))]) (c2 := 0) (s2 := 0) (st2 := [.int 1]) ?_
  refine Go.ifc d18_4 (pc2 := 23) (Gy := fun h => absurd h (show ¬ ((1 : Int32) = 0) by decide)) (Gn := fun _ => ?_)
  refine Go.aloadN d18_7 rfl (G := ?_)
  refine Go.getfield d18_8 (host := "") (Or.inl (hw _ (List.mem_of_getElem? (i := 32) rfl))) Via.refl (inS (i := 0) rfl) 0 rfl (G := ?_)
  refine Go.iloadN d18_11 rfl (G := ?_)
  refine Go.iloadN d18_12 rfl (G := ?_)
  refine Go.aloadN d18_13 rfl (G := ?_)
  refine Go.invokevirtual false d18_14 (hw _ (List.mem_of_getElem? (i := 145) rfl)) (hw _ (List.mem_of_getElem? (i := 85) rfl)) (hw _ (List.mem_of_getElem? (i := 87) rfl)) (hw _ (List.mem_of_getElem? (i := 86) rfl)) (hw _ (List.mem_of_getElem? (i := 7) rfl)) (hw _ (List.mem_of_getElem? (i := 88) rfl)) (nfSel (hw _ (List.mem_of_getElem? (i := 87) rfl))) (inS (i := 0) rfl) (c_length hw a t 0 9 _ more cpt hCS hcpt rfl rfl) pdg_12 rfl (argsL := []) (rest := [.int 0, .int ch, .ref t]) rfl rfl (Dr := []) rfl (eS (Or.inl (List.mem_of_getElem? (i := 0) rfl)) (eS (Or.inl (List.mem_of_getElem? (i := 1) rfl)) eN)) (G := ?_)
  rintro _ _ _ ⟨rfl, rfl, rfl⟩
  refine Go.norm (D2 := []) (S2 := [(a, .inl ("java/lang/String", ("java/lang/String", "value", "[B", .ref t) :: ("java/lang/String", "coder", "B", .int 0) :: more)), (t, .inr (.byte, [.int 60, .int 62, .int 34, .int 123, .int 125, .int 124, .int 94, .int 96, .int 92]))]) (c2 := 0) (s2 := 0) (st2 := [.int 9, .int 0, .int ch, .ref t]) ?_
  refine Go.invokestatic false d18_17 (hw _ (List.mem_of_getElem? (i := 146) rfl)) (hw _ (List.mem_of_getElem? (i := 147) rfl)) (hw _ (List.mem_of_getElem? (i := 68) rfl)) (hw _ (List.mem_of_getElem? (i := 148) rfl)) (c_ioB hw t ch h0) pdg_11 rfl (argsL := [.ref t, .int ch, .int 0, .int 9]) (rest := []) rfl rfl (Dr := []) rfl (eS (Or.inl (List.mem_of_getElem? (i := 1) rfl)) eN) (G := ?_)
  rintro _ _ _ ⟨r, hr, rfl, rfl, rfl⟩
  refine Go.norm (D2 := []) (S2 := [(a, .inl ("java/lang/String", ("java/lang/String", "value", "[B", .ref t) :: ("java/lang/String", "coder", "B", .int 0) :: more)), (t, .inr (.byte, [.int 60, .int 62, .int 34, .int 123, .int 125, .int 124, .int 94, .int 96, .int 92]))]) (c2 := 0) (s2 := 0) (st2 := [.int r]) ?_
  refine Go.goto d18_20 (pc2 := 36) (G := ?_)
  refine Go.sub [] (by decide) rfl (D' := []) rfl (S' := []) eN (G := ?_)
  exact Go.retI d18_36 ⟨r, hr, rfl, rfl, rfl⟩
theorem d19_0 : Dx jdk_42_method_79_code 0 (.aload_n 0) 1 1 := ⟨by decide +kernel, rfl⟩
theorem d19_1 : Dx jdk_42_method_79_code 1 (.iload_n 1) 1 2 := ⟨by decide +kernel, rfl⟩
theorem d19_2 : Dx jdk_42_method_79_code 2 (.iconst 0) 1 3 := ⟨by decide +kernel, rfl⟩
theorem d19_3 : Dx jdk_42_method_79_code 3 (.invokevirtual 633) 3 6 := ⟨by decide +kernel, rfl⟩
theorem d19_6 : Dx jdk_42_method_79_code 6 (.ireturn) 1 7 := ⟨by decide +kernel, rfl⟩
set_option maxRecDepth 65536 in
set_option maxHeartbeats 40000000 in
theorem c_io {l : Launch} {Z : State} {a0 : Array Value} {EL : List (String × Nat)} {b : Bool} {n0 : Nat} (hw : ∀ d ∈ tables_1, d.before a0 Z = true) (a t : Addr) (ch : Int32) (h0 : ¬ ch < 0) (more : List (String × String × String × Value)) (cpt : Int32) (hCS : Sta Z Z.heap "java/lang/String" "COMPACT_STRINGS" "Z" (.int cpt)) (hcpt : ¬ cpt = 0) :
    Met l Z a0 EL b n0 (⟨"java/lang/String", "indexOf", "(I)I"⟩ : MethodName) jdk_42_method_79_code 2 (some .int) [] (rm4 3 0 0 46) [.ref a, .int ch] [] [(a, .inl ("java/lang/String", ("java/lang/String", "value", "[B", .ref t) :: ("java/lang/String", "coder", "B", .int 0) :: more)), (t, .inr (.byte, [.int 60, .int 62, .int 34, .int 123, .int 125, .int 124, .int 94, .int 96, .int 92]))] (fun v D' S' => ∃ r, ((¬ r < 0) ↔ isB ch) ∧ v = some (.int r) ∧ D' = [] ∧ S' = []) := by
  refine Met.of_go (own := "java/lang/String") (nm := "indexOf") (Ls := #[.val (.ref a), .val (.int ch)]) (plainFor_of_name png_1) (fun m => by first | rfl | (simp [entryFrame, mkF, argsToLocals, Value.category]; done)) ?_
  refine Go.aloadN d19_0 rfl (G := ?_)
  refine Go.iloadN d19_1 rfl (G := ?_)
  refine Go.iconst d19_2 (v := 0) rfl (G := ?_)
  refine Go.invokevirtual false d19_3 (hw _ (List.mem_of_getElem? (i := 140) rfl)) (hw _ (List.mem_of_getElem? (i := 141) rfl)) (hw _ (List.mem_of_getElem? (i := 143) rfl)) (hw _ (List.mem_of_getElem? (i := 142) rfl)) (hw _ (List.mem_of_getElem? (i := 7) rfl)) (hw _ (List.mem_of_getElem? (i := 144) rfl)) (nfSel (hw _ (List.mem_of_getElem? (i := 143) rfl))) (inS (i := 0) rfl) (c_io2 hw a t ch h0 more cpt hCS hcpt) pdg_10 rfl (argsL := [.int ch, .int 0]) (rest := []) rfl rfl (Dr := []) rfl (eS (Or.inl (List.mem_of_getElem? (i := 0) rfl)) (eS (Or.inl (List.mem_of_getElem? (i := 1) rfl)) eN)) (G := ?_)
  rintro _ _ _ ⟨r, hr, rfl, rfl, rfl⟩
  refine Go.norm (D2 := []) (S2 := [(a, .inl ("java/lang/String", ("java/lang/String", "value", "[B", .ref t) :: ("java/lang/String", "coder", "B", .int 0) :: more)), (t, .inr (.byte, [.int 60, .int 62, .int 34, .int 123, .int 125, .int 124, .int 94, .int 96, .int 92]))]) (c2 := 0) (s2 := 0) (st2 := [.int r]) ?_
  refine Go.sub [] (by decide) rfl (D' := []) rfl (S' := []) eN (G := ?_)
  exact Go.retI d19_6 ⟨r, hr, rfl, rfl, rfl⟩

theorem byV_inj {x y : Int32} (hx : 0 ≤ x.toInt ∧ x.toInt ≤ 255) (hy : 0 ≤ y.toInt ∧ y.toInt ≤ 255) (h : x.toInt8.toInt32 = y.toInt8.toInt32) : x = y := by
  have a := c_i2b x; have c := c_i2b y
  have h := congrArg Int32.toInt h
  apply Int32.toInt_inj.mp; omega
theorem eq_of_at {cs ds : List Int32} (hl : cs.length = ds.length) (h : ∀ (j : Nat) (x y : Int32), cs[j]? = some x → ds[j]? = some y → x = y) : cs = ds := by
  apply List.ext_getElem?
  intro j
  by_cases q : j < cs.length
  · rw [List.getElem?_eq_getElem q, List.getElem?_eq_getElem (by omega), h j _ _ (List.getElem?_eq_getElem q) (List.getElem?_eq_getElem (by omega))]
  · rw [List.getElem?_eq_none (by omega), List.getElem?_eq_none (by omega)]

theorem d20_0 : Dx jdk_43_method_13_code 0 (.aload_n 0) 1 1 := ⟨by decide +kernel, rfl⟩
theorem d20_1 : Dx jdk_43_method_13_code 1 (.arraylength) 1 2 := ⟨by decide +kernel, rfl⟩
theorem d20_2 : Dx jdk_43_method_13_code 2 (.aload_n 1) 1 3 := ⟨by decide +kernel, rfl⟩
theorem d20_3 : Dx jdk_43_method_13_code 3 (.arraylength) 1 4 := ⟨by decide +kernel, rfl⟩
theorem d20_4 : Dx jdk_43_method_13_code 4 (.if_icmp .ne 30) 3 7 := ⟨by decide +kernel, rfl⟩
theorem d20_7 : Dx jdk_43_method_13_code 7 (.iconst 0) 1 8 := ⟨by decide +kernel, rfl⟩
theorem d20_8 : Dx jdk_43_method_13_code 8 (.istore_n 2) 1 9 := ⟨by decide +kernel, rfl⟩
theorem d20_9 : Dx jdk_43_method_13_code 9 (.iload_n 2) 1 10 := ⟨by decide +kernel, rfl⟩
theorem d20_10 : Dx jdk_43_method_13_code 10 (.aload_n 0) 1 11 := ⟨by decide +kernel, rfl⟩
theorem d20_11 : Dx jdk_43_method_13_code 11 (.arraylength) 1 12 := ⟨by decide +kernel, rfl⟩
theorem d20_12 : Dx jdk_43_method_13_code 12 (.if_icmp .ge 20) 3 15 := ⟨by decide +kernel, rfl⟩
theorem d20_15 : Dx jdk_43_method_13_code 15 (.aload_n 0) 1 16 := ⟨by decide +kernel, rfl⟩
theorem d20_16 : Dx jdk_43_method_13_code 16 (.iload_n 2) 1 17 := ⟨by decide +kernel, rfl⟩
theorem d20_17 : Dx jdk_43_method_13_code 17 (.baload) 1 18 := ⟨by decide +kernel, rfl⟩
theorem d20_18 : Dx jdk_43_method_13_code 18 (.aload_n 1) 1 19 := ⟨by decide +kernel, rfl⟩
theorem d20_19 : Dx jdk_43_method_13_code 19 (.iload_n 2) 1 20 := ⟨by decide +kernel, rfl⟩
theorem d20_20 : Dx jdk_43_method_13_code 20 (.baload) 1 21 := ⟨by decide +kernel, rfl⟩
theorem d20_21 : Dx jdk_43_method_13_code 21 (.if_icmp .eq 5) 3 24 := ⟨by decide +kernel, rfl⟩
theorem d20_24 : Dx jdk_43_method_13_code 24 (.iconst 0) 1 25 := ⟨by decide +kernel, rfl⟩
theorem d20_25 : Dx jdk_43_method_13_code 25 (.ireturn) 1 26 := ⟨by decide +kernel, rfl⟩
theorem d20_26 : Dx jdk_43_method_13_code 26 (.iinc 2 1) 3 29 := ⟨by decide +kernel, rfl⟩
theorem d20_29 : Dx jdk_43_method_13_code 29 (.goto (-20)) 3 32 := ⟨by decide +kernel, rfl⟩
theorem d20_32 : Dx jdk_43_method_13_code 32 (.iconst 1) 1 33 := ⟨by decide +kernel, rfl⟩
theorem d20_33 : Dx jdk_43_method_13_code 33 (.ireturn) 1 34 := ⟨by decide +kernel, rfl⟩
theorem d20_34 : Dx jdk_43_method_13_code 34 (.iconst 0) 1 35 := ⟨by decide +kernel, rfl⟩
theorem d20_35 : Dx jdk_43_method_13_code 35 (.ireturn) 1 36 := ⟨by decide +kernel, rfl⟩
set_option maxRecDepth 65536 in
set_option maxHeartbeats 40000000 in
theorem c_eqB {l : Launch} {Z : State} {a0 : Array Value} {EL : List (String × Nat)} {b : Bool} {n0 : Nat} (hw : ∀ d ∈ tables_1, d.before a0 Z = true) (c d : Addr) (cs ds : List Int32) (n m : Nat) (hn : cs.length = n) (hm : ds.length = m) (hb : n ≤ 4000) (hb2 : m ≤ 4000) (hc : ∀ c ∈ cs, 0 ≤ c.toInt ∧ c.toInt ≤ 255) (hd : ∀ c ∈ ds, 0 ≤ c.toInt ∧ c.toInt ≤ 255) :
    Met l Z a0 EL b n0 (⟨"java/lang/StringLatin1", "equals", "([B[B)Z"⟩ : MethodName) jdk_43_method_13_code 3 (some .boolean) [] (rm4 0 0 0 0) [.ref c, .ref d] [] [(c, .inr (.byte, cs.map byV)), (d, .inr (.byte, ds.map byV))] (fun v D' S' => ∃ r, ((r = 1 ∧ cs = ds) ∨ (r = 0 ∧ ¬ cs = ds)) ∧ v = some (.int r) ∧ D' = [] ∧ S' = []) := by
  refine Met.of_go (own := "java/lang/StringLatin1") (nm := "equals") (Ls := #[.val (.ref c), .val (.ref d), .unset]) (plainFor_of_name png_3) (fun m => by first | rfl | (simp [entryFrame, mkF, argsToLocals, Value.category]; done)) ?_
  refine Go.aloadN d20_0 rfl (G := ?_)
  refine Go.arraylength d20_1 (inS (i := 0) rfl) (n := (Int32.ofNat n)) (by rw [List.length_map, hn]) (G := ?_)
  refine Go.aloadN d20_2 rfl (G := ?_)
  refine Go.arraylength d20_3 (inS (i := 1) rfl) (n := (Int32.ofNat m)) (by rw [List.length_map, hm]) (G := ?_)
  refine Go.icmp d20_4 (pc2 := 34) (Gy := fun h => ?_) (Gn := fun h => ?_)
  · have h : ¬ (Int32.ofNat n) = (Int32.ofNat m) := h
    refine Go.iconst d20_34 (v := 0) rfl (G := ?_)
    refine Go.sub [] (by decide) rfl (D' := []) rfl (S' := []) eN (G := ?_)
    exact Go.retB d20_35 (by simp) (z' := 0) rfl ⟨0, Or.inr ⟨rfl, fun q => h (by rw [← hn, ← hm, q])⟩, rfl, rfl, rfl⟩
  · have h : (Int32.ofNat n) = (Int32.ofNat m) := Classical.not_not.mp h
    have hnm : n = m := (nI_eq (by omega) (by omega)).mp h
    refine Go.iconst d20_7 (v := 0) rfl (G := ?_)
    refine Go.istoreN d20_8 (Ls' := #[.val (.ref c), .val (.ref d), .val (.int 0)]) rfl (G := ?_)
    have main : ∀ k i, i + k = n → (∀ j x y, j < i → cs[j]? = some x → ds[j]? = some y → x = y) →
        Go l Z a0 EL b n0 "java/lang/StringLatin1" jdk_43_method_13_code 3 (some .boolean) "equals" (rm4 0 0 0 0) [] (fun v D' S' => ∃ r, ((r = 1 ∧ cs = ds) ∨ (r = 0 ∧ ¬ cs = ds)) ∧ v = some (.int r) ∧ D' = [] ∧ S' = []) [] [(c, .inr (.byte, cs.map byV)), (d, .inr (.byte, ds.map byV))] 0 0 9 #[.val (.ref c), .val (.ref d), .val (.int (Int32.ofNat i))] [] := by
      intro k
      induction k with
      | zero =>
        intro i hi hall
        have hin : i = n := by omega
        refine Go.iloadN d20_9 rfl (G := ?_)
        refine Go.aloadN d20_10 rfl (G := ?_)
        refine Go.arraylength d20_11 (inS (i := 0) rfl) (n := (Int32.ofNat n)) (by rw [List.length_map, hn]) (G := ?_)
        refine Go.icmp d20_12 (pc2 := 32) (Gy := fun _ => ?_) (Gn := fun h => absurd (show ¬ (Int32.ofNat i < Int32.ofNat n) by rw [hin]; exact Int32.lt_irrefl) h)
        refine Go.iconst d20_32 (v := 1) rfl (G := ?_)
        refine Go.sub [] (by decide) rfl (D' := []) rfl (S' := []) eN (G := ?_)
        exact Go.retB d20_33 (by simp) (z' := 1) rfl ⟨1, Or.inl ⟨rfl, eq_of_at (by omega) (fun j x y hx hy => hall j x y (by have := (List.getElem?_eq_some_iff.mp hx).1; omega) hx hy)⟩, rfl, rfl, rfl⟩
      | succ k ih =>
        intro i hi hall
        have hin : i < n := by omega
        have hi31 : i < 2147483648 := by omega
        obtain ⟨x, hx⟩ : ∃ x, cs[i]? = some x := ⟨_, List.getElem?_eq_getElem (by omega)⟩
        obtain ⟨y, hy⟩ : ∃ y, ds[i]? = some y := ⟨_, List.getElem?_eq_getElem (by omega)⟩
        refine Go.iloadN d20_9 rfl (G := ?_)
        refine Go.aloadN d20_10 rfl (G := ?_)
        refine Go.arraylength d20_11 (inS (i := 0) rfl) (n := (Int32.ofNat n)) (by rw [List.length_map, hn]) (G := ?_)
        refine Go.icmp d20_12 (pc2 := 32) (Gy := fun h => absurd ((nI_lt hi31 (by omega)).mpr hin) h) (Gn := fun _ => ?_)
        refine Go.aloadN d20_15 rfl (G := ?_)
        refine Go.iloadN d20_16 rfl (G := ?_)
        refine Go.baload d20_17 (inS (i := 0) rfl) (v := .int x.toInt8.toInt32) (byv_at hi31 hx) (nI_nn hi31) (G := ?_)
        refine Go.aloadN d20_18 rfl (G := ?_)
        refine Go.iloadN d20_19 rfl (G := ?_)
        refine Go.baload d20_20 (inS (i := 1) rfl) (v := .int y.toInt8.toInt32) (byv_at hi31 hy) (nI_nn hi31) (G := ?_)
        refine Go.icmp d20_21 (pc2 := 26) (Gy := fun hq => ?_) (Gn := fun hq => ?_)
        · have hq : x.toInt8.toInt32 = y.toInt8.toInt32 := hq
          have hxy : x = y := byV_inj (hc x (List.mem_of_getElem? hx)) (hd y (List.mem_of_getElem? hy)) hq
          refine Go.iinc d20_26 rfl (v := 1) rfl (z := (Int32.ofNat (i + 1))) (nI_succ i) (Ls' := #[.val (.ref c), .val (.ref d), .val (.int (Int32.ofNat (i + 1)))]) rfl (G := ?_)
          refine Go.goto d20_29 (pc2 := 9) (G := ?_)
          exact ih (i + 1) (by omega) (fun j u v hj hu hv => by
            rcases Nat.lt_or_ge j i with q | q
            · exact hall j u v q hu hv
            · obtain rfl : j = i := by omega
              cases hx.symm.trans hu; cases hy.symm.trans hv; exact hxy)
        · have hq : ¬ x.toInt8.toInt32 = y.toInt8.toInt32 := hq
          refine Go.iconst d20_24 (v := 0) rfl (G := ?_)
          refine Go.sub [] (by decide) rfl (D' := []) rfl (S' := []) eN (G := ?_)
          exact Go.retB d20_25 (by simp) (z' := 0) rfl ⟨0, Or.inr ⟨rfl, fun q => hq (by subst q; cases hx.symm.trans hy; rfl)⟩, rfl, rfl, rfl⟩
    exact main n 0 (by omega) (fun j x y hj => absurd hj (by omega))
theorem d21_0 : Dx jdk_42_method_66_code 0 (.aload_n 0) 1 1 := ⟨by decide +kernel, rfl⟩
theorem d21_1 : Dx jdk_42_method_66_code 1 (.aload_n 1) 1 2 := ⟨by decide +kernel, rfl⟩
theorem d21_2 : Dx jdk_42_method_66_code 2 (.if_acmp .ne 5) 3 5 := ⟨by decide +kernel, rfl⟩
theorem d21_5 : Dx jdk_42_method_66_code 5 (.iconst 1) 1 6 := ⟨by decide +kernel, rfl⟩
theorem d21_6 : Dx jdk_42_method_66_code 6 (.ireturn) 1 7 := ⟨by decide +kernel, rfl⟩
theorem d21_7 : Dx jdk_42_method_66_code 7 (.aload_n 1) 1 8 := ⟨by decide +kernel, rfl⟩
theorem d21_8 : Dx jdk_42_method_66_code 8 (.instanceof 10) 3 11 := ⟨by decide +kernel, rfl⟩
theorem d21_11 : Dx jdk_42_method_66_code 11 (.ifCond .eq 43) 3 14 := ⟨by decide +kernel, rfl⟩
theorem d21_14 : Dx jdk_42_method_66_code 14 (.aload_n 1) 1 15 := ⟨by decide +kernel, rfl⟩
theorem d21_15 : Dx jdk_42_method_66_code 15 (.checkcast 10) 3 18 := ⟨by decide +kernel, rfl⟩
theorem d21_18 : Dx jdk_42_method_66_code 18 (.astore_n 2) 1 19 := ⟨by decide +kernel, rfl⟩
theorem d21_19 : Dx jdk_42_method_66_code 19 (.getstatic 38) 3 22 := ⟨by decide +kernel, rfl⟩
theorem d21_22 : Dx jdk_42_method_66_code 22 (.ifCond .eq 14) 3 25 := ⟨by decide +kernel, rfl⟩
theorem d21_25 : Dx jdk_42_method_66_code 25 (.aload_n 0) 1 26 := ⟨by decide +kernel, rfl⟩
theorem d21_26 : Dx jdk_42_method_66_code 26 (.getfield 15) 3 29 := ⟨by decide +kernel, rfl⟩
theorem d21_29 : Dx jdk_42_method_66_code 29 (.aload_n 2) 1 30 := ⟨by decide +kernel, rfl⟩
theorem d21_30 : Dx jdk_42_method_66_code 30 (.getfield 15) 3 33 := ⟨by decide +kernel, rfl⟩
theorem d21_33 : Dx jdk_42_method_66_code 33 (.if_icmp .ne 21) 3 36 := ⟨by decide +kernel, rfl⟩
theorem d21_36 : Dx jdk_42_method_66_code 36 (.aload_n 0) 1 37 := ⟨by decide +kernel, rfl⟩
theorem d21_37 : Dx jdk_42_method_66_code 37 (.getfield 9) 3 40 := ⟨by decide +kernel, rfl⟩
theorem d21_40 : Dx jdk_42_method_66_code 40 (.aload_n 2) 1 41 := ⟨by decide +kernel, rfl⟩
theorem d21_41 : Dx jdk_42_method_66_code 41 (.getfield 9) 3 44 := ⟨by decide +kernel, rfl⟩
theorem d21_44 : Dx jdk_42_method_66_code 44 (.invokestatic 541) 3 47 := ⟨by decide +kernel, rfl⟩
theorem d21_47 : Dx jdk_42_method_66_code 47 (.ifCond .eq 7) 3 50 := ⟨by decide +kernel, rfl⟩
theorem d21_50 : Dx jdk_42_method_66_code 50 (.iconst 1) 1 51 := ⟨by decide +kernel, rfl⟩
theorem d21_51 : Dx jdk_42_method_66_code 51 (.goto 4) 3 54 := ⟨by decide +kernel, rfl⟩
theorem d21_54 : Dx jdk_42_method_66_code 54 (.iconst 0) 1 55 := ⟨by decide +kernel, rfl⟩
theorem d21_55 : Dx jdk_42_method_66_code 55 (.ireturn) 1 56 := ⟨by decide +kernel, rfl⟩
theorem pdg_13 : parseMethodDescriptor "([B[B)Z" = some ⟨[.array .byte, .array .byte], some .boolean⟩ := by decide +kernel
set_option maxRecDepth 65536 in
set_option maxHeartbeats 40000000 in
theorem c_eqL {l : Launch} {Z : State} {a0 : Array Value} {EL : List (String × Nat)} {b : Bool} {n0 : Nat} (hw : ∀ d ∈ tables_1, d.before a0 Z = true) (a c b' d : Addr) (cs ds : List Int32) (n m : Nat) (more1 more2 : List (String × String × String × Value)) (cpt : Int32) (hCS : Sta Z Z.heap "java/lang/String" "COMPACT_STRINGS" "Z" (.int cpt)) (hcpt : ¬ cpt = 0) (hne : a ≠ b') (hn : cs.length = n) (hm : ds.length = m) (hb : n ≤ 4000) (hb2 : m ≤ 4000) (hc : ∀ c ∈ cs, 0 ≤ c.toInt ∧ c.toInt ≤ 255) (hd : ∀ c ∈ ds, 0 ≤ c.toInt ∧ c.toInt ≤ 255) :
    Met l Z a0 EL b n0 (⟨"java/lang/String", "equals", "(Ljava/lang/Object;)Z"⟩ : MethodName) jdk_42_method_66_code 3 (some .boolean) [] (rm4 1 0 0 14) [.ref a, .ref b'] [] [(a, .inl ("java/lang/String", ("java/lang/String", "value", "[B", .ref c) :: ("java/lang/String", "coder", "B", .int 0) :: more1)), (c, .inr (.byte, cs.map byV)), (b', .inl ("java/lang/String", ("java/lang/String", "value", "[B", .ref d) :: ("java/lang/String", "coder", "B", .int 0) :: more2)), (d, .inr (.byte, ds.map byV))] (fun v D' S' => ∃ r, ((r = 1 ∧ cs = ds) ∨ (r = 0 ∧ ¬ cs = ds)) ∧ v = some (.int r) ∧ D' = [] ∧ S' = []) := by
  refine Met.of_go (own := "java/lang/String") (nm := "equals") (Ls := #[.val (.ref a), .val (.ref b'), .unset]) (plainFor_of_name png_1) (fun m => by first | rfl | (simp [entryFrame, mkF, argsToLocals, Value.category]; done)) ?_
  refine Go.aloadN d21_0 rfl (G := ?_)
  refine Go.aloadN d21_1 rfl (G := ?_)
  refine Go.acmpne d21_2 (pc2 := 7) (Gy := fun _ => ?_) (Gn := fun h => absurd (Value.ref.inj h) hne)
  refine Go.aloadN d21_7 rfl (G := ?_)
  refine Go.instanceofY d21_8 (hw _ (List.mem_of_getElem? (i := 124) rfl)) (inS (i := 2) rfl) (Or.inl rfl) (G := ?_)
  refine Go.ifc d21_11 (pc2 := 54) (Gy := fun h => absurd h (show ¬ ((1 : Int32) = 0) by decide)) (Gn := fun _ => ?_)
  refine Go.aloadN d21_14 rfl (G := ?_)
  refine Go.checkcast d21_15 (hw _ (List.mem_of_getElem? (i := 124) rfl)) (inS (i := 2) rfl) (Or.inl rfl) (G := ?_)
  refine Go.astoreN d21_18 (Ls' := #[.val (.ref a), .val (.ref b'), .val (.ref b')]) rfl (G := ?_)
  refine Go.getstatic d21_19 (host := "") (Or.inl (hw _ (List.mem_of_getElem? (i := 18) rfl))) Via.refl hCS (G := ?_)
  refine Go.ifc d21_22 (pc2 := 36) (Gy := fun h => absurd h hcpt) (Gn := fun _ => ?_)
  refine Go.aloadN d21_25 rfl (G := ?_)
  refine Go.getfield d21_26 (host := "") (Or.inl (hw _ (List.mem_of_getElem? (i := 30) rfl))) Via.refl (inS (i := 0) rfl) 1 rfl (G := ?_)
  refine Go.aloadN d21_29 rfl (G := ?_)
  refine Go.getfield d21_30 (host := "") (Or.inl (hw _ (List.mem_of_getElem? (i := 30) rfl))) Via.refl (inS (i := 2) rfl) 1 rfl (G := ?_)
  refine Go.icmp d21_33 (pc2 := 54) (Gy := fun h => absurd h (show ¬ (¬ (0 : Int32) = 0) by decide)) (Gn := fun _ => ?_)
  refine Go.aloadN d21_36 rfl (G := ?_)
  refine Go.getfield d21_37 (host := "") (Or.inl (hw _ (List.mem_of_getElem? (i := 32) rfl))) Via.refl (inS (i := 0) rfl) 0 rfl (G := ?_)
  refine Go.aloadN d21_40 rfl (G := ?_)
  refine Go.getfield d21_41 (host := "") (Or.inl (hw _ (List.mem_of_getElem? (i := 32) rfl))) Via.refl (inS (i := 2) rfl) 0 rfl (G := ?_)
  refine Go.invokestatic false d21_44 (hw _ (List.mem_of_getElem? (i := 125) rfl)) (hw _ (List.mem_of_getElem? (i := 126) rfl)) (hw _ (List.mem_of_getElem? (i := 68) rfl)) (hw _ (List.mem_of_getElem? (i := 127) rfl)) (c_eqB hw c d cs ds n m hn hm hb hb2 hc hd) pdg_13 rfl (argsL := [.ref c, .ref d]) (rest := []) rfl rfl (Dr := []) rfl (eS (Or.inl (List.mem_of_getElem? (i := 1) rfl)) (eS (Or.inl (List.mem_of_getElem? (i := 3) rfl)) eN)) (G := ?_)
  rintro _ _ _ ⟨r, hr, rfl, rfl, rfl⟩
  refine Go.norm (D2 := []) (S2 := [(a, .inl ("java/lang/String", ("java/lang/String", "value", "[B", .ref c) :: ("java/lang/String", "coder", "B", .int 0) :: more1)), (c, .inr (.byte, cs.map byV)), (b', .inl ("java/lang/String", ("java/lang/String", "value", "[B", .ref d) :: ("java/lang/String", "coder", "B", .int 0) :: more2)), (d, .inr (.byte, ds.map byV))]) (c2 := 0) (s2 := 0) (st2 := [.int r]) ?_
  refine Go.ifc d21_47 (pc2 := 54) (Gy := fun hq => ?_) (Gn := fun hq => ?_)
  · have hq : r = 0 := hq
    refine Go.iconst d21_54 (v := 0) rfl (G := ?_)
    refine Go.sub [] (by decide) rfl (D' := []) rfl (S' := []) eN (G := ?_)
    exact Go.retB d21_55 (by simp) (z' := 0) rfl ⟨0, Or.inr ⟨rfl, bF hr hq⟩, rfl, rfl, rfl⟩
  · have hq : ¬ r = 0 := hq
    refine Go.iconst d21_50 (v := 1) rfl (G := ?_)
    refine Go.goto d21_51 (pc2 := 55) (G := ?_)
    refine Go.sub [] (by decide) rfl (D' := []) rfl (S' := []) eN (G := ?_)
    exact Go.retB d21_55 (by simp) (z' := 1) rfl ⟨1, Or.inl ⟨rfl, bT hr hq⟩, rfl, rfl, rfl⟩
set_option maxRecDepth 65536 in
set_option maxHeartbeats 40000000 in
theorem c_eqSame {l : Launch} {Z : State} {a0 : Array Value} {EL : List (String × Nat)} {b : Bool} {n0 : Nat} (hw : ∀ d ∈ tables_1, d.before a0 Z = true) (a : Addr) :
    Met l Z a0 EL b n0 (⟨"java/lang/String", "equals", "(Ljava/lang/Object;)Z"⟩ : MethodName) jdk_42_method_66_code 3 (some .boolean) [] (rm4 0 0 0 0) [.ref a, .ref a] [] [] (fun v D' S' => v = some (.int 1) ∧ D' = [] ∧ S' = []) := by
  refine Met.of_go (own := "java/lang/String") (nm := "equals") (Ls := #[.val (.ref a), .val (.ref a), .unset]) (plainFor_of_name png_1) (fun m => by first | rfl | (simp [entryFrame, mkF, argsToLocals, Value.category]; done)) ?_
  refine Go.aloadN d21_0 rfl (G := ?_)
  refine Go.aloadN d21_1 rfl (G := ?_)
  refine Go.acmpne d21_2 (pc2 := 7) (Gy := fun h => absurd rfl h) (Gn := fun _ => ?_)
  refine Go.iconst d21_5 (v := 1) rfl (G := ?_)
  exact Go.retB d21_6 (by simp) (z' := 1) rfl ⟨rfl, rfl, rfl⟩

def upP (c : Int32) : Prop := ¬ c < 65 ∧ ¬ (90 : Int32) < c
def letP (c : Int32) : Prop := (¬ c < 65 ∧ ¬ (90 : Int32) < c) ∨ (¬ c < 97 ∧ ¬ (122 : Int32) < c)
def idcP (c : Int32) : Prop := letP c ∨ (¬ c < 48 ∧ ¬ (57 : Int32) < c) ∨ c = 95
def idP (cs : List Int32) : Prop := (∃ c, cs[0]? = some c ∧ letP c) ∧ ∀ j x, 1 ≤ j → cs[j]? = some x → idcP x
def badP (x : Int32) : Prop := ¬ (32 : Int32) < x ∨ isB x
def iriP (cs : List Int32) (n : Nat) : Prop := 2 ≤ n ∧ cs[0]? = some 60 ∧ cs[n - 1]? = some 62 ∧ ∀ j x, 1 ≤ j → j < n - 1 → cs[j]? = some x → ¬ badP x
theorem st32 {z0 z1 : Value} {s2 : Slot} {v : Int32} (h : s2 = .unset ∨ ∃ w : Int32, s2 = .val (.int w)) : storeLocals #[.val z0, .val z1, s2] 2 (.int v) = some #[.val z0, .val z1, .val (.int v)] := by
  rcases h with rfl | ⟨w, rfl⟩ <;> rfl
theorem nn_of {x : Int32} (h : 0 ≤ x.toInt) : ¬ x < 0 := by rw [Int32.lt_iff_toInt_lt]; have : (0 : Int32).toInt = 0 := rfl; omega

theorem png_4 : plainName "com/example/iffley/iffley/model/Term" = true := by first | (simp [plainName, overriddenIn]; done) | decide +kernel
theorem d22_0 : Dx prog_13_method_10_code 0 (.iload_n 0) 1 1 := ⟨by decide +kernel, rfl⟩
theorem d22_1 : Dx prog_13_method_10_code 1 (.bipush 65) 2 3 := ⟨by decide +kernel, rfl⟩
theorem d22_3 : Dx prog_13_method_10_code 3 (.if_icmp .lt 13) 3 6 := ⟨by decide +kernel, rfl⟩
theorem d22_6 : Dx prog_13_method_10_code 6 (.iload_n 0) 1 7 := ⟨by decide +kernel, rfl⟩
theorem d22_7 : Dx prog_13_method_10_code 7 (.bipush 90) 2 9 := ⟨by decide +kernel, rfl⟩
theorem d22_9 : Dx prog_13_method_10_code 9 (.if_icmp .gt 7) 3 12 := ⟨by decide +kernel, rfl⟩
theorem d22_12 : Dx prog_13_method_10_code 12 (.iconst 1) 1 13 := ⟨by decide +kernel, rfl⟩
theorem d22_13 : Dx prog_13_method_10_code 13 (.goto 4) 3 16 := ⟨by decide +kernel, rfl⟩
theorem d22_16 : Dx prog_13_method_10_code 16 (.iconst 0) 1 17 := ⟨by decide +kernel, rfl⟩
theorem d22_17 : Dx prog_13_method_10_code 17 (.ireturn) 1 18 := ⟨by decide +kernel, rfl⟩
set_option maxRecDepth 65536 in
set_option maxHeartbeats 40000000 in
theorem c_upper {l : Launch} {Z : State} {a0 : Array Value} {EL : List (String × Nat)} {b : Bool} {n0 : Nat} (hw : ∀ d ∈ tables_1, d.before a0 Z = true) (c : Int32) :
    Met l Z a0 EL b n0 (⟨"com/example/iffley/iffley/model/Term", "isAsciiUpperCase", "(C)Z"⟩ : MethodName) prog_13_method_10_code 1 (some .boolean) [] (rm4 0 0 0 0) [.int c] [] [] (fun v D' S' => ∃ r, ((r = 1 ∧ upP c) ∨ (r = 0 ∧ ¬ upP c)) ∧ v = some (.int r) ∧ D' = [] ∧ S' = []) := by
  refine Met.of_go (own := "com/example/iffley/iffley/model/Term") (nm := "isAsciiUpperCase") (Ls := #[.val (.int c)]) (plainFor_of_name png_4) (fun m => by first | rfl | (simp [entryFrame, mkF, argsToLocals, Value.category]; done)) ?_
  refine Go.iloadN d22_0 rfl (G := ?_)
  refine Go.bipush d22_1 (v := 65) rfl (G := ?_)
  refine Go.icmp d22_3 (pc2 := 16) (Gy := fun h1 => ?_) (Gn := fun h1 => ?_)
  · have h1 : c < 65 := h1
    refine Go.iconst d22_16 (v := 0) rfl (G := ?_)
    exact Go.retB d22_17 (by simp) (z' := 0) rfl ⟨_, Or.inr ⟨rfl, by simp only [upP, Int32.lt_iff_toInt_lt, ← Int32.toInt_inj, Int32.reduceToInt] at h1 ⊢; omega⟩, rfl, rfl, rfl⟩
  · have h1 : ¬ c < 65 := h1
    refine Go.iloadN d22_6 rfl (G := ?_)
    refine Go.bipush d22_7 (v := 90) rfl (G := ?_)
    refine Go.icmp d22_9 (pc2 := 16) (Gy := fun h2 => ?_) (Gn := fun h2 => ?_)
    · have h2 : 90 < c := h2
      refine Go.iconst d22_16 (v := 0) rfl (G := ?_)
      exact Go.retB d22_17 (by simp) (z' := 0) rfl ⟨_, Or.inr ⟨rfl, by simp only [upP, Int32.lt_iff_toInt_lt, ← Int32.toInt_inj, Int32.reduceToInt] at h1 h2 ⊢; omega⟩, rfl, rfl, rfl⟩
    · have h2 : ¬ 90 < c := h2
      refine Go.iconst d22_12 (v := 1) rfl (G := ?_)
      refine Go.goto d22_13 (pc2 := 17) (G := ?_)
      exact Go.retB d22_17 (by simp) (z' := 1) rfl ⟨_, Or.inl ⟨rfl, by simp only [upP, Int32.lt_iff_toInt_lt, ← Int32.toInt_inj, Int32.reduceToInt] at h1 h2 ⊢; omega⟩, rfl, rfl, rfl⟩
theorem d23_0 : Dx prog_13_method_9_code 0 (.iload_n 0) 1 1 := ⟨by decide +kernel, rfl⟩
theorem d23_1 : Dx prog_13_method_9_code 1 (.invokestatic 43) 3 4 := ⟨by decide +kernel, rfl⟩
theorem d23_4 : Dx prog_13_method_9_code 4 (.ifCond .ne 15) 3 7 := ⟨by decide +kernel, rfl⟩
theorem d23_7 : Dx prog_13_method_9_code 7 (.iload_n 0) 1 8 := ⟨by decide +kernel, rfl⟩
theorem d23_8 : Dx prog_13_method_9_code 8 (.bipush 97) 2 10 := ⟨by decide +kernel, rfl⟩
theorem d23_10 : Dx prog_13_method_9_code 10 (.if_icmp .lt 13) 3 13 := ⟨by decide +kernel, rfl⟩
theorem d23_13 : Dx prog_13_method_9_code 13 (.iload_n 0) 1 14 := ⟨by decide +kernel, rfl⟩
theorem d23_14 : Dx prog_13_method_9_code 14 (.bipush 122) 2 16 := ⟨by decide +kernel, rfl⟩
theorem d23_16 : Dx prog_13_method_9_code 16 (.if_icmp .gt 7) 3 19 := ⟨by decide +kernel, rfl⟩
theorem d23_19 : Dx prog_13_method_9_code 19 (.iconst 1) 1 20 := ⟨by decide +kernel, rfl⟩
theorem d23_20 : Dx prog_13_method_9_code 20 (.goto 4) 3 23 := ⟨by decide +kernel, rfl⟩
theorem d23_23 : Dx prog_13_method_9_code 23 (.iconst 0) 1 24 := ⟨by decide +kernel, rfl⟩
theorem d23_24 : Dx prog_13_method_9_code 24 (.ireturn) 1 25 := ⟨by decide +kernel, rfl⟩
theorem pdg_14 : parseMethodDescriptor "(C)Z" = some ⟨[.char], some .boolean⟩ := by decide +kernel
set_option maxRecDepth 65536 in
set_option maxHeartbeats 40000000 in
theorem c_letter {l : Launch} {Z : State} {a0 : Array Value} {EL : List (String × Nat)} {b : Bool} {n0 : Nat} (hw : ∀ d ∈ tables_1, d.before a0 Z = true) (c : Int32) :
    Met l Z a0 EL b n0 (⟨"com/example/iffley/iffley/model/Term", "isAsciiLetter", "(C)Z"⟩ : MethodName) prog_13_method_9_code 1 (some .boolean) [] (rm4 1 0 0 12) [.int c] [] [] (fun v D' S' => ∃ r, ((r = 1 ∧ letP c) ∨ (r = 0 ∧ ¬ letP c)) ∧ v = some (.int r) ∧ D' = [] ∧ S' = []) := by
  refine Met.of_go (own := "com/example/iffley/iffley/model/Term") (nm := "isAsciiLetter") (Ls := #[.val (.int c)]) (plainFor_of_name png_4) (fun m => by first | rfl | (simp [entryFrame, mkF, argsToLocals, Value.category]; done)) ?_
  refine Go.iloadN d23_0 rfl (G := ?_)
  refine Go.invokestatic false d23_1 (hw _ (List.mem_of_getElem? (i := 81) rfl)) (hw _ (List.mem_of_getElem? (i := 82) rfl)) (hw _ (List.mem_of_getElem? (i := 39) rfl)) (hw _ (List.mem_of_getElem? (i := 83) rfl)) (c_upper hw c) pdg_14 rfl (argsL := [.int c]) (rest := []) rfl rfl (Dr := []) rfl eN (G := ?_)
  rintro _ _ _ ⟨r, hr, rfl, rfl, rfl⟩
  refine Go.norm (D2 := []) (S2 := []) (c2 := 0) (s2 := 0) (st2 := [.int r]) ?_
  refine Go.ifc d23_4 (pc2 := 19) (Gy := fun h1 => ?_) (Gn := fun h1 => ?_)
  · have h1 : ¬ r = 0 := h1
    refine Go.iconst d23_19 (v := 1) rfl (G := ?_)
    refine Go.goto d23_20 (pc2 := 24) (G := ?_)
    exact Go.retB d23_24 (by simp) (z' := 1) rfl ⟨_, Or.inl ⟨rfl, by simp only [letP, upP, Int32.lt_iff_toInt_lt, ← Int32.toInt_inj, Int32.reduceToInt] at h1 hr ⊢; omega⟩, rfl, rfl, rfl⟩
  · have h1 : r = 0 := Classical.not_not.mp h1
    refine Go.iloadN d23_7 rfl (G := ?_)
    refine Go.bipush d23_8 (v := 97) rfl (G := ?_)
    refine Go.icmp d23_10 (pc2 := 23) (Gy := fun h2 => ?_) (Gn := fun h2 => ?_)
    · have h2 : c < 97 := h2
      refine Go.iconst d23_23 (v := 0) rfl (G := ?_)
      exact Go.retB d23_24 (by simp) (z' := 0) rfl ⟨_, Or.inr ⟨rfl, by simp only [letP, upP, Int32.lt_iff_toInt_lt, ← Int32.toInt_inj, Int32.reduceToInt] at h1 h2 hr ⊢; omega⟩, rfl, rfl, rfl⟩
    · have h2 : ¬ c < 97 := h2
      refine Go.iloadN d23_13 rfl (G := ?_)
      refine Go.bipush d23_14 (v := 122) rfl (G := ?_)
      refine Go.icmp d23_16 (pc2 := 23) (Gy := fun h3 => ?_) (Gn := fun h3 => ?_)
      · have h3 : 122 < c := h3
        refine Go.iconst d23_23 (v := 0) rfl (G := ?_)
        exact Go.retB d23_24 (by simp) (z' := 0) rfl ⟨_, Or.inr ⟨rfl, by simp only [letP, upP, Int32.lt_iff_toInt_lt, ← Int32.toInt_inj, Int32.reduceToInt] at h1 h2 h3 hr ⊢; omega⟩, rfl, rfl, rfl⟩
      · have h3 : ¬ 122 < c := h3
        refine Go.iconst d23_19 (v := 1) rfl (G := ?_)
        refine Go.goto d23_20 (pc2 := 24) (G := ?_)
        exact Go.retB d23_24 (by simp) (z' := 1) rfl ⟨_, Or.inl ⟨rfl, by simp only [letP, upP, Int32.lt_iff_toInt_lt, ← Int32.toInt_inj, Int32.reduceToInt] at h1 h2 h3 hr ⊢; omega⟩, rfl, rfl, rfl⟩
theorem d24_0 : Dx jdk_42_method_55_code 0 (.aload_n 0) 1 1 := ⟨by decide +kernel, rfl⟩
theorem d24_1 : Dx jdk_42_method_55_code 1 (.getfield 9) 3 4 := ⟨by decide +kernel, rfl⟩
theorem d24_4 : Dx jdk_42_method_55_code 4 (.arraylength) 1 5 := ⟨by decide +kernel, rfl⟩
theorem d24_5 : Dx jdk_42_method_55_code 5 (.ifCond .ne 7) 3 8 := ⟨by decide +kernel, rfl⟩
theorem d24_8 : Dx jdk_42_method_55_code 8 (.iconst 1) 1 9 := ⟨by decide +kernel, rfl⟩
theorem d24_9 : Dx jdk_42_method_55_code 9 (.goto 4) 3 12 := ⟨by decide +kernel, rfl⟩
theorem d24_12 : Dx jdk_42_method_55_code 12 (.iconst 0) 1 13 := ⟨by decide +kernel, rfl⟩
theorem d24_13 : Dx jdk_42_method_55_code 13 (.ireturn) 1 14 := ⟨by decide +kernel, rfl⟩
set_option maxRecDepth 65536 in
set_option maxHeartbeats 40000000 in
theorem c_isEmpty0 {l : Launch} {Z : State} {a0 : Array Value} {EL : List (String × Nat)} {b : Bool} {n0 : Nat} (hw : ∀ d ∈ tables_1, d.before a0 Z = true) (a c : Addr) (cs : List Int32) (n : Nat) (more : List (String × String × String × Value)) (hn : cs.length = n) (hb : n ≤ 4000) (hpos : 0 < n) :
    Met l Z a0 EL b n0 (⟨"java/lang/String", "isEmpty", "()Z"⟩ : MethodName) jdk_42_method_55_code 1 (some .boolean) [] (rm4 0 0 0 0) [.ref a] [] [(a, .inl ("java/lang/String", ("java/lang/String", "value", "[B", .ref c) :: ("java/lang/String", "coder", "B", .int 0) :: more)), (c, .inr (.byte, cs.map byV))] (fun v D' S' => v = some (.int 0) ∧ D' = [] ∧ S' = []) := by
  refine Met.of_go (own := "java/lang/String") (nm := "isEmpty") (Ls := #[.val (.ref a)]) (plainFor_of_name png_1) (fun m => by first | rfl | (simp [entryFrame, mkF, argsToLocals, Value.category]; done)) ?_
  refine Go.aloadN d24_0 rfl (G := ?_)
  refine Go.getfield d24_1 (host := "") (Or.inl (hw _ (List.mem_of_getElem? (i := 32) rfl))) Via.refl (inS (i := 0) rfl) 0 rfl (G := ?_)
  refine Go.arraylength d24_4 (inS (i := 1) rfl) (n := (Int32.ofNat n)) (by rw [List.length_map, hn]) (G := ?_)
  refine Go.ifc d24_5 (pc2 := 12) (Gy := fun _ => ?_) (Gn := fun h => absurd (fun (e : Int32.ofNat n = 0) => by have := (nI_eq (n := 0) (by omega) (by omega)).mp e; omega) h)
  refine Go.iconst d24_12 (v := 0) rfl (G := ?_)
  refine Go.sub [] (by decide) rfl (D' := []) rfl (S' := []) eN (G := ?_)
  exact Go.retB d24_13 (by simp) (z' := 0) rfl ⟨rfl, rfl, rfl⟩
theorem d25_0 : Dx prog_13_method_7_code 0 (.aload_n 0) 1 1 := ⟨by decide +kernel, rfl⟩
theorem d25_1 : Dx prog_13_method_7_code 1 (.invokevirtual 55) 3 4 := ⟨by decide +kernel, rfl⟩
theorem d25_4 : Dx prog_13_method_7_code 4 (.ifCond .ne 14) 3 7 := ⟨by decide +kernel, rfl⟩
theorem d25_7 : Dx prog_13_method_7_code 7 (.aload_n 0) 1 8 := ⟨by decide +kernel, rfl⟩
theorem d25_8 : Dx prog_13_method_7_code 8 (.iconst 0) 1 9 := ⟨by decide +kernel, rfl⟩
theorem d25_9 : Dx prog_13_method_7_code 9 (.invokevirtual 37) 3 12 := ⟨by decide +kernel, rfl⟩
theorem d25_12 : Dx prog_13_method_7_code 12 (.invokestatic 59) 3 15 := ⟨by decide +kernel, rfl⟩
theorem d25_15 : Dx prog_13_method_7_code 15 (.ifCond .ne 5) 3 18 := ⟨by decide +kernel, rfl⟩
theorem d25_18 : Dx prog_13_method_7_code 18 (.iconst 0) 1 19 := ⟨by decide +kernel, rfl⟩
theorem d25_19 : Dx prog_13_method_7_code 19 (.ireturn) 1 20 := ⟨by decide +kernel, rfl⟩
theorem d25_20 : Dx prog_13_method_7_code 20 (.iconst 1) 1 21 := ⟨by decide +kernel, rfl⟩
theorem d25_21 : Dx prog_13_method_7_code 21 (.istore_n 1) 1 22 := ⟨by decide +kernel, rfl⟩
theorem d25_22 : Dx prog_13_method_7_code 22 (.iload_n 1) 1 23 := ⟨by decide +kernel, rfl⟩
theorem d25_23 : Dx prog_13_method_7_code 23 (.aload_n 0) 1 24 := ⟨by decide +kernel, rfl⟩
theorem d25_24 : Dx prog_13_method_7_code 24 (.invokevirtual 62) 3 27 := ⟨by decide +kernel, rfl⟩
theorem d25_27 : Dx prog_13_method_7_code 27 (.if_icmp .ge 42) 3 30 := ⟨by decide +kernel, rfl⟩
theorem d25_30 : Dx prog_13_method_7_code 30 (.aload_n 0) 1 31 := ⟨by decide +kernel, rfl⟩
theorem d25_31 : Dx prog_13_method_7_code 31 (.iload_n 1) 1 32 := ⟨by decide +kernel, rfl⟩
theorem d25_32 : Dx prog_13_method_7_code 32 (.invokevirtual 37) 3 35 := ⟨by decide +kernel, rfl⟩
theorem d25_35 : Dx prog_13_method_7_code 35 (.istore_n 2) 1 36 := ⟨by decide +kernel, rfl⟩
theorem d25_36 : Dx prog_13_method_7_code 36 (.iload_n 2) 1 37 := ⟨by decide +kernel, rfl⟩
theorem d25_37 : Dx prog_13_method_7_code 37 (.invokestatic 59) 3 40 := ⟨by decide +kernel, rfl⟩
theorem d25_40 : Dx prog_13_method_7_code 40 (.ifCond .ne 23) 3 43 := ⟨by decide +kernel, rfl⟩
theorem d25_43 : Dx prog_13_method_7_code 43 (.iload_n 2) 1 44 := ⟨by decide +kernel, rfl⟩
theorem d25_44 : Dx prog_13_method_7_code 44 (.bipush 48) 2 46 := ⟨by decide +kernel, rfl⟩
theorem d25_46 : Dx prog_13_method_7_code 46 (.if_icmp .lt 9) 3 49 := ⟨by decide +kernel, rfl⟩
theorem d25_49 : Dx prog_13_method_7_code 49 (.iload_n 2) 1 50 := ⟨by decide +kernel, rfl⟩
theorem d25_50 : Dx prog_13_method_7_code 50 (.bipush 57) 2 52 := ⟨by decide +kernel, rfl⟩
theorem d25_52 : Dx prog_13_method_7_code 52 (.if_icmp .le 11) 3 55 := ⟨by decide +kernel, rfl⟩
theorem d25_55 : Dx prog_13_method_7_code 55 (.iload_n 2) 1 56 := ⟨by decide +kernel, rfl⟩
theorem d25_56 : Dx prog_13_method_7_code 56 (.bipush 95) 2 58 := ⟨by decide +kernel, rfl⟩
theorem d25_58 : Dx prog_13_method_7_code 58 (.if_icmp .eq 5) 3 61 := ⟨by decide +kernel, rfl⟩
theorem d25_61 : Dx prog_13_method_7_code 61 (.iconst 0) 1 62 := ⟨by decide +kernel, rfl⟩
theorem d25_62 : Dx prog_13_method_7_code 62 (.ireturn) 1 63 := ⟨by decide +kernel, rfl⟩
theorem d25_63 : Dx prog_13_method_7_code 63 (.iinc 1 1) 3 66 := ⟨by decide +kernel, rfl⟩
theorem d25_66 : Dx prog_13_method_7_code 66 (.goto (-44)) 3 69 := ⟨by decide +kernel, rfl⟩
theorem d25_69 : Dx prog_13_method_7_code 69 (.iconst 1) 1 70 := ⟨by decide +kernel, rfl⟩
theorem d25_70 : Dx prog_13_method_7_code 70 (.ireturn) 1 71 := ⟨by decide +kernel, rfl⟩
theorem pdg_15 : parseMethodDescriptor "(I)C" = some ⟨[.int], some .char⟩ := by decide +kernel
set_option maxRecDepth 65536 in
set_option maxHeartbeats 40000000 in
theorem c_isId {l : Launch} {Z : State} {a0 : Array Value} {EL : List (String × Nat)} {b : Bool} {n0 : Nat} (hw : ∀ d ∈ tables_1, d.before a0 Z = true) (a c : Addr) (cs : List Int32) (n : Nat) (cpt : Int32) (fmt : Value) (hCS : Sta Z Z.heap "java/lang/String" "COMPACT_STRINGS" "Z" (.int cpt)) (hcpt : ¬ cpt = 0) (hFM : Sta Z Z.heap "jdk/internal/util/Preconditions" "SIOOBE_FORMATTER" "Ljava/util/function/BiFunction;" fmt) (hfm : fmt.isRef = true) (hn : cs.length = n) (hb : n ≤ 4000) (hpos : 0 < n) (hc : ∀ c ∈ cs, 0 ≤ c.toInt ∧ c.toInt ≤ 255) :
    Met l Z a0 EL b n0 (⟨"com/example/iffley/iffley/model/Term", "isIdentifier", "(Ljava/lang/String;)Z"⟩ : MethodName) prog_13_method_7_code 3 (some .boolean) [] (rm4 4 0 0 53) [.ref a] [] [(a, .inl ("java/lang/String", [("java/lang/String", "value", "[B", .ref c), ("java/lang/String", "coder", "B", .int 0)])), (c, .inr (.byte, cs.map byV))] (fun v D' S' => ∃ r, ((r = 1 ∧ idP cs) ∨ (r = 0 ∧ ¬ idP cs)) ∧ v = some (.int r) ∧ D' = [] ∧ S' = []) := by
  refine Met.of_go (own := "com/example/iffley/iffley/model/Term") (nm := "isIdentifier") (Ls := #[.val (.ref a), .unset, .unset]) (plainFor_of_name png_4) (fun m => by first | rfl | (simp [entryFrame, mkF, argsToLocals, Value.category]; done)) ?_
  obtain ⟨x0, hx0⟩ : ∃ x, cs[0]? = some x := ⟨_, List.getElem?_eq_getElem (by omega)⟩
  refine Go.aloadN d25_0 rfl (G := ?_)
  refine Go.invokevirtual false d25_1 (hw _ (List.mem_of_getElem? (i := 51) rfl)) (hw _ (List.mem_of_getElem? (i := 52) rfl)) (hw _ (List.mem_of_getElem? (i := 54) rfl)) (hw _ (List.mem_of_getElem? (i := 53) rfl)) (hw _ (List.mem_of_getElem? (i := 7) rfl)) (hw _ (List.mem_of_getElem? (i := 55) rfl)) (nfSel (hw _ (List.mem_of_getElem? (i := 54) rfl))) (inS (i := 0) rfl) (c_isEmpty0 hw a c cs n [] hn hb hpos) pdg_7 rfl (argsL := []) (rest := []) rfl rfl (Dr := []) rfl (eS (Or.inl (List.mem_of_getElem? (i := 0) rfl)) (eS (Or.inl (List.mem_of_getElem? (i := 1) rfl)) eN)) (G := ?_)
  rintro _ _ _ ⟨rfl, rfl, rfl⟩
  refine Go.norm (D2 := []) (S2 := [(a, .inl ("java/lang/String", [("java/lang/String", "value", "[B", .ref c), ("java/lang/String", "coder", "B", .int 0)])), (c, .inr (.byte, cs.map byV))]) (c2 := 0) (s2 := 0) (st2 := [.int 0]) ?_
  refine Go.ifc d25_4 (pc2 := 18) (Gy := fun h => absurd h (show ¬ (¬ (0 : Int32) = 0) by decide)) (Gn := fun _ => ?_)
  refine Go.aloadN d25_7 rfl (G := ?_)
  refine Go.iconst d25_8 (v := 0) rfl (G := ?_)
  refine Go.invokevirtual false d25_9 (hw _ (List.mem_of_getElem? (i := 56) rfl)) (hw _ (List.mem_of_getElem? (i := 57) rfl)) (hw _ (List.mem_of_getElem? (i := 59) rfl)) (hw _ (List.mem_of_getElem? (i := 58) rfl)) (hw _ (List.mem_of_getElem? (i := 7) rfl)) (hw _ (List.mem_of_getElem? (i := 60) rfl)) (nfSel (hw _ (List.mem_of_getElem? (i := 59) rfl))) (inS (i := 0) rfl) (c_charAt hw a c [] cpt hCS hcpt (cs.map byV) (Int32.ofNat 0) x0.toInt8.toInt32 x0 fmt hFM hfm (nI_nn (by omega)) (by rw [List.length_map, hn]; exact (nI_lt (by omega) (by omega)).mpr hpos) (byv_at (by omega) hx0) (lat_y (hc _ (List.mem_of_getElem? hx0)).1 (hc _ (List.mem_of_getElem? hx0)).2) (c16_nar (hc _ (List.mem_of_getElem? hx0)).1 (Int.le_trans (hc _ (List.mem_of_getElem? hx0)).2 (by decide)))) pdg_15 rfl (argsL := [.int 0]) (rest := []) rfl rfl (Dr := []) rfl (eS (Or.inl (List.mem_of_getElem? (i := 0) rfl)) (eS (Or.inl (List.mem_of_getElem? (i := 1) rfl)) eN)) (G := ?_)
  rintro _ _ _ ⟨rfl, rfl, rfl⟩
  refine Go.norm (D2 := []) (S2 := [(a, .inl ("java/lang/String", [("java/lang/String", "value", "[B", .ref c), ("java/lang/String", "coder", "B", .int 0)])), (c, .inr (.byte, cs.map byV))]) (c2 := 0) (s2 := 0) (st2 := [.int x0]) ?_
  refine Go.invokestatic false d25_12 (hw _ (List.mem_of_getElem? (i := 78) rfl)) (hw _ (List.mem_of_getElem? (i := 79) rfl)) (hw _ (List.mem_of_getElem? (i := 39) rfl)) (hw _ (List.mem_of_getElem? (i := 80) rfl)) (c_letter hw x0) pdg_14 rfl (argsL := [.int x0]) (rest := []) rfl rfl (Dr := []) rfl eN (G := ?_)
  rintro _ _ _ ⟨r0, hr0, rfl, rfl, rfl⟩
  refine Go.norm (D2 := []) (S2 := [(a, .inl ("java/lang/String", [("java/lang/String", "value", "[B", .ref c), ("java/lang/String", "coder", "B", .int 0)])), (c, .inr (.byte, cs.map byV))]) (c2 := 0) (s2 := 0) (st2 := [.int r0]) ?_
  refine Go.ifc d25_15 (pc2 := 20) (Gy := fun h0 => ?_) (Gn := fun h0 => ?_)
  · have h0 : ¬ r0 = 0 := h0
    have hl0 : letP x0 := bT hr0 h0
    refine Go.iconst d25_20 (v := 1) rfl (G := ?_)
    refine Go.istoreN d25_21 (Ls' := #[.val (.ref a), .val (.int 1), .unset]) rfl (G := ?_)
    have main : ∀ m i (s2 : Slot), 1 ≤ i → i + m = n → (s2 = .unset ∨ ∃ w : Int32, s2 = .val (.int w)) → (∀ j x, 1 ≤ j → j < i → cs[j]? = some x → idcP x) →
        Go l Z a0 EL b n0 "com/example/iffley/iffley/model/Term" prog_13_method_7_code 3 (some .boolean) "isIdentifier" (rm4 4 0 0 53) [] (fun v D' S' => ∃ r, ((r = 1 ∧ idP cs) ∨ (r = 0 ∧ ¬ idP cs)) ∧ v = some (.int r) ∧ D' = [] ∧ S' = []) [] [(a, .inl ("java/lang/String", [("java/lang/String", "value", "[B", .ref c), ("java/lang/String", "coder", "B", .int 0)])), (c, .inr (.byte, cs.map byV))] 0 0 22 #[.val (.ref a), .val (.int (Int32.ofNat i)), s2] [] := by
      intro m
      induction m with
      | zero =>
        intro i s2 hi1 hi h2 hall
        have hin : i = n := by omega
        refine Go.iloadN d25_22 rfl (G := ?_)
        refine Go.aloadN d25_23 rfl (G := ?_)
        refine Go.invokevirtual false d25_24 (hw _ (List.mem_of_getElem? (i := 84) rfl)) (hw _ (List.mem_of_getElem? (i := 85) rfl)) (hw _ (List.mem_of_getElem? (i := 87) rfl)) (hw _ (List.mem_of_getElem? (i := 86) rfl)) (hw _ (List.mem_of_getElem? (i := 7) rfl)) (hw _ (List.mem_of_getElem? (i := 88) rfl)) (nfSel (hw _ (List.mem_of_getElem? (i := 87) rfl))) (inS (i := 0) rfl) (c_length hw a c 0 (Int32.ofNat n) (cs.map byV) [] cpt hCS hcpt rfl (by rw [List.length_map, hn]; exact shr0 _)) pdg_12 rfl (argsL := []) (rest := [.int (Int32.ofNat i)]) rfl rfl (Dr := []) rfl (eS (Or.inl (List.mem_of_getElem? (i := 0) rfl)) (eS (Or.inl (List.mem_of_getElem? (i := 1) rfl)) eN)) (G := ?_)
        rintro _ _ _ ⟨rfl, rfl, rfl⟩
        refine Go.norm (D2 := []) (S2 := [(a, .inl ("java/lang/String", [("java/lang/String", "value", "[B", .ref c), ("java/lang/String", "coder", "B", .int 0)])), (c, .inr (.byte, cs.map byV))]) (c2 := 0) (s2 := 0) (st2 := [.int (Int32.ofNat n), .int (Int32.ofNat i)]) ?_
        refine Go.icmp d25_27 (pc2 := 69) (Gy := fun _ => ?_) (Gn := fun h => absurd (show ¬ (Int32.ofNat i < Int32.ofNat n) by rw [hin]; exact Int32.lt_irrefl) h)
        refine Go.iconst d25_69 (v := 1) rfl (G := ?_)
        refine Go.sub [] (by decide) rfl (D' := []) rfl (S' := []) eN (G := ?_)
        exact Go.retB d25_70 (by simp) (z' := 1) rfl ⟨1, Or.inl ⟨rfl, ⟨x0, hx0, hl0⟩, fun j x hj hx => hall j x hj (by have := (List.getElem?_eq_some_iff.mp hx).1; omega) hx⟩, rfl, rfl, rfl⟩
      | succ m ih =>
        intro i s2 hi1 hi h2 hall
        have hin : i < n := by omega
        have hi31 : i < 2147483648 := by omega
        have hn31 : n < 2147483648 := by omega
        obtain ⟨x, hx⟩ : ∃ x, cs[i]? = some x := ⟨_, List.getElem?_eq_getElem (by omega)⟩
        refine Go.iloadN d25_22 rfl (G := ?_)
        refine Go.aloadN d25_23 rfl (G := ?_)
        refine Go.invokevirtual false d25_24 (hw _ (List.mem_of_getElem? (i := 84) rfl)) (hw _ (List.mem_of_getElem? (i := 85) rfl)) (hw _ (List.mem_of_getElem? (i := 87) rfl)) (hw _ (List.mem_of_getElem? (i := 86) rfl)) (hw _ (List.mem_of_getElem? (i := 7) rfl)) (hw _ (List.mem_of_getElem? (i := 88) rfl)) (nfSel (hw _ (List.mem_of_getElem? (i := 87) rfl))) (inS (i := 0) rfl) (c_length hw a c 0 (Int32.ofNat n) (cs.map byV) [] cpt hCS hcpt rfl (by rw [List.length_map, hn]; exact shr0 _)) pdg_12 rfl (argsL := []) (rest := [.int (Int32.ofNat i)]) rfl rfl (Dr := []) rfl (eS (Or.inl (List.mem_of_getElem? (i := 0) rfl)) (eS (Or.inl (List.mem_of_getElem? (i := 1) rfl)) eN)) (G := ?_)
        rintro _ _ _ ⟨rfl, rfl, rfl⟩
        refine Go.norm (D2 := []) (S2 := [(a, .inl ("java/lang/String", [("java/lang/String", "value", "[B", .ref c), ("java/lang/String", "coder", "B", .int 0)])), (c, .inr (.byte, cs.map byV))]) (c2 := 0) (s2 := 0) (st2 := [.int (Int32.ofNat n), .int (Int32.ofNat i)]) ?_
        refine Go.icmp d25_27 (pc2 := 69) (Gy := fun h => absurd ((nI_lt hi31 hn31).mpr hin) h) (Gn := fun _ => ?_)
        refine Go.aloadN d25_30 rfl (G := ?_)
        refine Go.iloadN d25_31 rfl (G := ?_)
        refine Go.invokevirtual false d25_32 (hw _ (List.mem_of_getElem? (i := 56) rfl)) (hw _ (List.mem_of_getElem? (i := 57) rfl)) (hw _ (List.mem_of_getElem? (i := 59) rfl)) (hw _ (List.mem_of_getElem? (i := 58) rfl)) (hw _ (List.mem_of_getElem? (i := 7) rfl)) (hw _ (List.mem_of_getElem? (i := 60) rfl)) (nfSel (hw _ (List.mem_of_getElem? (i := 59) rfl))) (inS (i := 0) rfl) (c_charAt hw a c [] cpt hCS hcpt (cs.map byV) (Int32.ofNat i) x.toInt8.toInt32 x fmt hFM hfm (nI_nn (by omega)) (by rw [List.length_map, hn]; exact (nI_lt (by omega) (by omega)).mpr hin) (byv_at (by omega) hx) (lat_y (hc _ (List.mem_of_getElem? hx)).1 (hc _ (List.mem_of_getElem? hx)).2) (c16_nar (hc _ (List.mem_of_getElem? hx)).1 (Int.le_trans (hc _ (List.mem_of_getElem? hx)).2 (by decide)))) pdg_15 rfl (argsL := [.int (Int32.ofNat i)]) (rest := []) rfl rfl (Dr := []) rfl (eS (Or.inl (List.mem_of_getElem? (i := 0) rfl)) (eS (Or.inl (List.mem_of_getElem? (i := 1) rfl)) eN)) (G := ?_)
        rintro _ _ _ ⟨rfl, rfl, rfl⟩
        refine Go.norm (D2 := []) (S2 := [(a, .inl ("java/lang/String", [("java/lang/String", "value", "[B", .ref c), ("java/lang/String", "coder", "B", .int 0)])), (c, .inr (.byte, cs.map byV))]) (c2 := 0) (s2 := 0) (st2 := [.int x]) ?_
        refine Go.istoreN d25_35 (Ls' := #[.val (.ref a), .val (.int (Int32.ofNat i)), .val (.int x)]) (st32 h2) (G := ?_)
        refine Go.iloadN d25_36 rfl (G := ?_)
        refine Go.invokestatic false d25_37 (hw _ (List.mem_of_getElem? (i := 78) rfl)) (hw _ (List.mem_of_getElem? (i := 79) rfl)) (hw _ (List.mem_of_getElem? (i := 39) rfl)) (hw _ (List.mem_of_getElem? (i := 80) rfl)) (c_letter hw x) pdg_14 rfl (argsL := [.int x]) (rest := []) rfl rfl (Dr := []) rfl eN (G := ?_)
        rintro _ _ _ ⟨r, hr, rfl, rfl, rfl⟩
        refine Go.norm (D2 := []) (S2 := [(a, .inl ("java/lang/String", [("java/lang/String", "value", "[B", .ref c), ("java/lang/String", "coder", "B", .int 0)])), (c, .inr (.byte, cs.map byV))]) (c2 := 0) (s2 := 0) (st2 := [.int r]) ?_
        refine Go.ifc d25_40 (pc2 := 63) (Gy := fun h1 => ?_) (Gn := fun h1 => ?_)
        · have h1 : ¬ r = 0 := h1
          have hok : idcP x := by simp only [idcP, letP, Int32.lt_iff_toInt_lt, ← Int32.toInt_inj, Int32.reduceToInt] at h1 hr ⊢; omega
          refine Go.iinc d25_63 rfl (v := 1) rfl (z := (Int32.ofNat (i + 1))) (nI_succ i) (Ls' := #[.val (.ref a), .val (.int (Int32.ofNat (i + 1))), .val (.int x)]) rfl (G := ?_)
          refine Go.goto d25_66 (pc2 := 22) (G := ?_)
          exact ih (i + 1) _ (by omega) (by omega) (Or.inr ⟨x, rfl⟩) (fun j z hj1 hj hz => by
            rcases Nat.lt_or_ge j i with q | q
            · exact hall j z hj1 q hz
            · obtain rfl : j = i := by omega
              cases hx.symm.trans hz; exact hok)
        · have h1 : r = 0 := Classical.not_not.mp h1
          refine Go.iloadN d25_43 rfl (G := ?_)
          refine Go.bipush d25_44 (v := 48) rfl (G := ?_)
          refine Go.icmp d25_46 (pc2 := 55) (Gy := fun h2 => ?_) (Gn := fun h2 => ?_)
          · have h2 : x < 48 := h2
            refine Go.iloadN d25_55 rfl (G := ?_)
            refine Go.bipush d25_56 (v := 95) rfl (G := ?_)
            refine Go.icmp d25_58 (pc2 := 63) (Gy := fun h3 => ?_) (Gn := fun h3 => ?_)
            · have h3 : x = 95 := h3
              have hok : idcP x := by simp only [idcP, letP, Int32.lt_iff_toInt_lt, ← Int32.toInt_inj, Int32.reduceToInt] at h1 h2 h3 hr ⊢; omega
              refine Go.iinc d25_63 rfl (v := 1) rfl (z := (Int32.ofNat (i + 1))) (nI_succ i) (Ls' := #[.val (.ref a), .val (.int (Int32.ofNat (i + 1))), .val (.int x)]) rfl (G := ?_)
              refine Go.goto d25_66 (pc2 := 22) (G := ?_)
              exact ih (i + 1) _ (by omega) (by omega) (Or.inr ⟨x, rfl⟩) (fun j z hj1 hj hz => by
                rcases Nat.lt_or_ge j i with q | q
                · exact hall j z hj1 q hz
                · obtain rfl : j = i := by omega
                  cases hx.symm.trans hz; exact hok)
            · have h3 : ¬ x = 95 := h3
              refine Go.iconst d25_61 (v := 0) rfl (G := ?_)
              have hno : ¬ idcP x := by simp only [idcP, letP, Int32.lt_iff_toInt_lt, ← Int32.toInt_inj, Int32.reduceToInt] at h1 h2 h3 hr ⊢; omega
              refine Go.sub [] (by decide) rfl (D' := []) rfl (S' := []) eN (G := ?_)
              exact Go.retB d25_62 (by simp) (z' := 0) rfl ⟨0, Or.inr ⟨rfl, fun q => hno (q.2 i x hi1 hx)⟩, rfl, rfl, rfl⟩
          · have h2 : ¬ x < 48 := h2
            refine Go.iloadN d25_49 rfl (G := ?_)
            refine Go.bipush d25_50 (v := 57) rfl (G := ?_)
            refine Go.icmp d25_52 (pc2 := 63) (Gy := fun h4 => ?_) (Gn := fun h4 => ?_)
            · have h4 : ¬ 57 < x := h4
              have hok : idcP x := by simp only [idcP, letP, Int32.lt_iff_toInt_lt, ← Int32.toInt_inj, Int32.reduceToInt] at h1 h2 h4 hr ⊢; omega
              refine Go.iinc d25_63 rfl (v := 1) rfl (z := (Int32.ofNat (i + 1))) (nI_succ i) (Ls' := #[.val (.ref a), .val (.int (Int32.ofNat (i + 1))), .val (.int x)]) rfl (G := ?_)
              refine Go.goto d25_66 (pc2 := 22) (G := ?_)
              exact ih (i + 1) _ (by omega) (by omega) (Or.inr ⟨x, rfl⟩) (fun j z hj1 hj hz => by
                rcases Nat.lt_or_ge j i with q | q
                · exact hall j z hj1 q hz
                · obtain rfl : j = i := by omega
                  cases hx.symm.trans hz; exact hok)
            · have h4 : 57 < x := Classical.not_not.mp h4
              refine Go.iloadN d25_55 rfl (G := ?_)
              refine Go.bipush d25_56 (v := 95) rfl (G := ?_)
              refine Go.icmp d25_58 (pc2 := 63) (Gy := fun h5 => ?_) (Gn := fun h5 => ?_)
              · have h5 : x = 95 := h5
                have hok : idcP x := by simp only [idcP, letP, Int32.lt_iff_toInt_lt, ← Int32.toInt_inj, Int32.reduceToInt] at h1 h2 h4 h5 hr ⊢; omega
                refine Go.iinc d25_63 rfl (v := 1) rfl (z := (Int32.ofNat (i + 1))) (nI_succ i) (Ls' := #[.val (.ref a), .val (.int (Int32.ofNat (i + 1))), .val (.int x)]) rfl (G := ?_)
                refine Go.goto d25_66 (pc2 := 22) (G := ?_)
                exact ih (i + 1) _ (by omega) (by omega) (Or.inr ⟨x, rfl⟩) (fun j z hj1 hj hz => by
                  rcases Nat.lt_or_ge j i with q | q
                  · exact hall j z hj1 q hz
                  · obtain rfl : j = i := by omega
                    cases hx.symm.trans hz; exact hok)
              · have h5 : ¬ x = 95 := h5
                refine Go.iconst d25_61 (v := 0) rfl (G := ?_)
                have hno : ¬ idcP x := by simp only [idcP, letP, Int32.lt_iff_toInt_lt, ← Int32.toInt_inj, Int32.reduceToInt] at h1 h2 h4 h5 hr ⊢; omega
                refine Go.sub [] (by decide) rfl (D' := []) rfl (S' := []) eN (G := ?_)
                exact Go.retB d25_62 (by simp) (z' := 0) rfl ⟨0, Or.inr ⟨rfl, fun q => hno (q.2 i x hi1 hx)⟩, rfl, rfl, rfl⟩
    exact main (n - 1) 1 .unset (by omega) (by omega) (Or.inl rfl) (fun j x h1 hj => absurd hj (by omega))
  · have h0 : r0 = 0 := Classical.not_not.mp h0
    refine Go.iconst d25_18 (v := 0) rfl (G := ?_)
    refine Go.sub [] (by decide) rfl (D' := []) rfl (S' := []) eN (G := ?_)
    exact Go.retB d25_19 (by simp) (z' := 0) rfl ⟨0, Or.inr ⟨rfl, fun q => by obtain ⟨⟨c, q1, q2⟩, -⟩ := q; cases hx0.symm.trans q1; exact bF hr0 h0 q2⟩, rfl, rfl, rfl⟩
theorem d26_0 : Dx prog_13_method_8_code 0 (.aload_n 0) 1 1 := ⟨by decide +kernel, rfl⟩
theorem d26_1 : Dx prog_13_method_8_code 1 (.invokevirtual 62) 3 4 := ⟨by decide +kernel, rfl⟩
theorem d26_4 : Dx prog_13_method_8_code 4 (.iconst 2) 1 5 := ⟨by decide +kernel, rfl⟩
theorem d26_5 : Dx prog_13_method_8_code 5 (.if_icmp .lt 28) 3 8 := ⟨by decide +kernel, rfl⟩
theorem d26_8 : Dx prog_13_method_8_code 8 (.aload_n 0) 1 9 := ⟨by decide +kernel, rfl⟩
theorem d26_9 : Dx prog_13_method_8_code 9 (.iconst 0) 1 10 := ⟨by decide +kernel, rfl⟩
theorem d26_10 : Dx prog_13_method_8_code 10 (.invokevirtual 37) 3 13 := ⟨by decide +kernel, rfl⟩
theorem d26_13 : Dx prog_13_method_8_code 13 (.bipush 60) 2 15 := ⟨by decide +kernel, rfl⟩
theorem d26_15 : Dx prog_13_method_8_code 15 (.if_icmp .ne 18) 3 18 := ⟨by decide +kernel, rfl⟩
theorem d26_18 : Dx prog_13_method_8_code 18 (.aload_n 0) 1 19 := ⟨by decide +kernel, rfl⟩
theorem d26_19 : Dx prog_13_method_8_code 19 (.aload_n 0) 1 20 := ⟨by decide +kernel, rfl⟩
theorem d26_20 : Dx prog_13_method_8_code 20 (.invokevirtual 62) 3 23 := ⟨by decide +kernel, rfl⟩
theorem d26_23 : Dx prog_13_method_8_code 23 (.iconst 1) 1 24 := ⟨by decide +kernel, rfl⟩
theorem d26_24 : Dx prog_13_method_8_code 24 (.isub) 1 25 := ⟨by decide +kernel, rfl⟩
theorem d26_25 : Dx prog_13_method_8_code 25 (.invokevirtual 37) 3 28 := ⟨by decide +kernel, rfl⟩
theorem d26_28 : Dx prog_13_method_8_code 28 (.bipush 62) 2 30 := ⟨by decide +kernel, rfl⟩
theorem d26_30 : Dx prog_13_method_8_code 30 (.if_icmp .eq 5) 3 33 := ⟨by decide +kernel, rfl⟩
theorem d26_33 : Dx prog_13_method_8_code 33 (.iconst 0) 1 34 := ⟨by decide +kernel, rfl⟩
theorem d26_34 : Dx prog_13_method_8_code 34 (.ireturn) 1 35 := ⟨by decide +kernel, rfl⟩
theorem d26_35 : Dx prog_13_method_8_code 35 (.iconst 1) 1 36 := ⟨by decide +kernel, rfl⟩
theorem d26_36 : Dx prog_13_method_8_code 36 (.istore_n 1) 1 37 := ⟨by decide +kernel, rfl⟩
theorem d26_37 : Dx prog_13_method_8_code 37 (.iload_n 1) 1 38 := ⟨by decide +kernel, rfl⟩
theorem d26_38 : Dx prog_13_method_8_code 38 (.aload_n 0) 1 39 := ⟨by decide +kernel, rfl⟩
theorem d26_39 : Dx prog_13_method_8_code 39 (.invokevirtual 62) 3 42 := ⟨by decide +kernel, rfl⟩
theorem d26_42 : Dx prog_13_method_8_code 42 (.iconst 1) 1 43 := ⟨by decide +kernel, rfl⟩
theorem d26_43 : Dx prog_13_method_8_code 43 (.isub) 1 44 := ⟨by decide +kernel, rfl⟩
theorem d26_44 : Dx prog_13_method_8_code 44 (.if_icmp .ge 32) 3 47 := ⟨by decide +kernel, rfl⟩
theorem d26_47 : Dx prog_13_method_8_code 47 (.aload_n 0) 1 48 := ⟨by decide +kernel, rfl⟩
theorem d26_48 : Dx prog_13_method_8_code 48 (.iload_n 1) 1 49 := ⟨by decide +kernel, rfl⟩
theorem d26_49 : Dx prog_13_method_8_code 49 (.invokevirtual 37) 3 52 := ⟨by decide +kernel, rfl⟩
theorem d26_52 : Dx prog_13_method_8_code 52 (.istore_n 2) 1 53 := ⟨by decide +kernel, rfl⟩
theorem d26_53 : Dx prog_13_method_8_code 53 (.iload_n 2) 1 54 := ⟨by decide +kernel, rfl⟩
theorem d26_54 : Dx prog_13_method_8_code 54 (.bipush 32) 2 56 := ⟨by decide +kernel, rfl⟩
theorem d26_56 : Dx prog_13_method_8_code 56 (.if_icmp .le 12) 3 59 := ⟨by decide +kernel, rfl⟩
theorem d26_59 : Dx prog_13_method_8_code 59 (.ldc 65) 2 61 := ⟨by decide +kernel, rfl⟩
theorem d26_61 : Dx prog_13_method_8_code 61 (.iload_n 2) 1 62 := ⟨by decide +kernel, rfl⟩
theorem d26_62 : Dx prog_13_method_8_code 62 (.invokevirtual 67) 3 65 := ⟨by decide +kernel, rfl⟩
theorem d26_65 : Dx prog_13_method_8_code 65 (.ifCond .lt 5) 3 68 := ⟨by decide +kernel, rfl⟩
theorem d26_68 : Dx prog_13_method_8_code 68 (.iconst 0) 1 69 := ⟨by decide +kernel, rfl⟩
theorem d26_69 : Dx prog_13_method_8_code 69 (.ireturn) 1 70 := ⟨by decide +kernel, rfl⟩
theorem d26_70 : Dx prog_13_method_8_code 70 (.iinc 1 1) 3 73 := ⟨by decide +kernel, rfl⟩
theorem d26_73 : Dx prog_13_method_8_code 73 (.goto (-36)) 3 76 := ⟨by decide +kernel, rfl⟩
theorem d26_76 : Dx prog_13_method_8_code 76 (.iconst 1) 1 77 := ⟨by decide +kernel, rfl⟩
theorem d26_77 : Dx prog_13_method_8_code 77 (.ireturn) 1 78 := ⟨by decide +kernel, rfl⟩
theorem pdg_16 : parseMethodDescriptor "(I)I" = some ⟨[.int], some .int⟩ := by decide +kernel
set_option maxRecDepth 65536 in
set_option maxHeartbeats 40000000 in
theorem c_isIri {l : Launch} {Z : State} {a0 : Array Value} {EL : List (String × Nat)} {b : Bool} {n0 : Nat} (hw : ∀ d ∈ tables_1, d.before a0 Z = true) (a c : Addr) (cs : List Int32) (n : Nat) (cpt : Int32) (fmt : Value) (hCS : Sta Z Z.heap "java/lang/String" "COMPACT_STRINGS" "Z" (.int cpt)) (hcpt : ¬ cpt = 0) (hFM : Sta Z Z.heap "jdk/internal/util/Preconditions" "SIOOBE_FORMATTER" "Ljava/util/function/BiFunction;" fmt) (hfm : fmt.isRef = true) (hn : cs.length = n) (hb : n ≤ 4000) (hpos : 0 < n) (hc : ∀ c ∈ cs, 0 ≤ c.toInt ∧ c.toInt ≤ 255) (hb1 : b = true) (hE_Term_65 : ("com/example/iffley/iffley/model/Term", 65) ∈ EL) :
    Met l Z a0 EL b n0 (⟨"com/example/iffley/iffley/model/Term", "isIri", "(Ljava/lang/String;)Z"⟩ : MethodName) prog_13_method_8_code 3 (some .boolean) [] (rm4 4 (2 * n) (40 * n) 59) [.ref a] [] [(a, .inl ("java/lang/String", [("java/lang/String", "value", "[B", .ref c), ("java/lang/String", "coder", "B", .int 0)])), (c, .inr (.byte, cs.map byV))] (fun v D' S' => ∃ r, ((r = 1 ∧ iriP cs n) ∨ (r = 0 ∧ ¬ iriP cs n)) ∧ v = some (.int r) ∧ D' = [] ∧ S' = []) := by
  refine Met.of_go (own := "com/example/iffley/iffley/model/Term") (nm := "isIri") (Ls := #[.val (.ref a), .unset, .unset]) (plainFor_of_name png_4) (fun m => by first | rfl | (simp [entryFrame, mkF, argsToLocals, Value.category]; done)) ?_
  obtain ⟨x0, hx0⟩ : ∃ x, cs[0]? = some x := ⟨_, List.getElem?_eq_getElem (by omega)⟩
  obtain ⟨xl, hxl⟩ : ∃ x, cs[n - 1]? = some x := ⟨_, List.getElem?_eq_getElem (by omega)⟩
  refine Go.aloadN d26_0 rfl (G := ?_)
  refine Go.invokevirtual false d26_1 (hw _ (List.mem_of_getElem? (i := 84) rfl)) (hw _ (List.mem_of_getElem? (i := 85) rfl)) (hw _ (List.mem_of_getElem? (i := 87) rfl)) (hw _ (List.mem_of_getElem? (i := 86) rfl)) (hw _ (List.mem_of_getElem? (i := 7) rfl)) (hw _ (List.mem_of_getElem? (i := 88) rfl)) (nfSel (hw _ (List.mem_of_getElem? (i := 87) rfl))) (inS (i := 0) rfl) (c_length hw a c 0 (Int32.ofNat n) (cs.map byV) [] cpt hCS hcpt rfl (by rw [List.length_map, hn]; exact shr0 _)) pdg_12 rfl (argsL := []) (rest := []) rfl rfl (Dr := []) rfl (eS (Or.inl (List.mem_of_getElem? (i := 0) rfl)) (eS (Or.inl (List.mem_of_getElem? (i := 1) rfl)) eN)) (G := ?_)
  rintro _ _ _ ⟨rfl, rfl, rfl⟩
  refine Go.norm (D2 := []) (S2 := [(a, .inl ("java/lang/String", [("java/lang/String", "value", "[B", .ref c), ("java/lang/String", "coder", "B", .int 0)])), (c, .inr (.byte, cs.map byV))]) (c2 := 0) (s2 := 0) (st2 := [.int (Int32.ofNat n)]) ?_
  refine Go.iconst d26_4 (v := 2) rfl (G := ?_)
  refine Go.icmp d26_5 (pc2 := 33) (Gy := fun h1 => ?_) (Gn := fun h1 => ?_)
  · have h1 : (Int32.ofNat n) < 2 := h1
    have hlt : n < 2 := (nI_lt (n := 2) (by omega) (by omega)).mp h1
    refine Go.iconst d26_33 (v := 0) rfl (G := ?_)
    refine Go.sub [] (by decide) rfl (D' := []) rfl (S' := []) eN (G := ?_)
    exact Go.retB d26_34 (by simp) (z' := 0) rfl ⟨0, Or.inr ⟨rfl, fun q => by have := q.1; omega⟩, rfl, rfl, rfl⟩ (hc := Nat.zero_le _) (hl := Nat.zero_le _)
  · have h1 : ¬ (Int32.ofNat n) < 2 := h1
    have hge : 2 ≤ n := by have := mt (nI_lt (i := n) (n := 2) (by omega) (by omega)).mpr h1; omega
    refine Go.aloadN d26_8 rfl (G := ?_)
    refine Go.iconst d26_9 (v := 0) rfl (G := ?_)
    refine Go.invokevirtual false d26_10 (hw _ (List.mem_of_getElem? (i := 56) rfl)) (hw _ (List.mem_of_getElem? (i := 57) rfl)) (hw _ (List.mem_of_getElem? (i := 59) rfl)) (hw _ (List.mem_of_getElem? (i := 58) rfl)) (hw _ (List.mem_of_getElem? (i := 7) rfl)) (hw _ (List.mem_of_getElem? (i := 60) rfl)) (nfSel (hw _ (List.mem_of_getElem? (i := 59) rfl))) (inS (i := 0) rfl) (c_charAt hw a c [] cpt hCS hcpt (cs.map byV) (Int32.ofNat 0) x0.toInt8.toInt32 x0 fmt hFM hfm (nI_nn (by omega)) (by rw [List.length_map, hn]; exact (nI_lt (by omega) (by omega)).mpr hpos) (byv_at (by omega) hx0) (lat_y (hc _ (List.mem_of_getElem? hx0)).1 (hc _ (List.mem_of_getElem? hx0)).2) (c16_nar (hc _ (List.mem_of_getElem? hx0)).1 (Int.le_trans (hc _ (List.mem_of_getElem? hx0)).2 (by decide)))) pdg_15 rfl (argsL := [.int 0]) (rest := []) rfl rfl (Dr := []) rfl (eS (Or.inl (List.mem_of_getElem? (i := 0) rfl)) (eS (Or.inl (List.mem_of_getElem? (i := 1) rfl)) eN)) (G := ?_)
    rintro _ _ _ ⟨rfl, rfl, rfl⟩
    refine Go.norm (D2 := []) (S2 := [(a, .inl ("java/lang/String", [("java/lang/String", "value", "[B", .ref c), ("java/lang/String", "coder", "B", .int 0)])), (c, .inr (.byte, cs.map byV))]) (c2 := 0) (s2 := 0) (st2 := [.int x0]) ?_
    refine Go.bipush d26_13 (v := 60) rfl (G := ?_)
    refine Go.icmp d26_15 (pc2 := 33) (Gy := fun h2 => ?_) (Gn := fun h2 => ?_)
    · have h2 : ¬ x0 = 60 := h2
      refine Go.iconst d26_33 (v := 0) rfl (G := ?_)
      refine Go.sub [] (by decide) rfl (D' := []) rfl (S' := []) eN (G := ?_)
      exact Go.retB d26_34 (by simp) (z' := 0) rfl ⟨0, Or.inr ⟨rfl, fun q => h2 (by have := hx0.symm.trans q.2.1; simpa using this)⟩, rfl, rfl, rfl⟩ (hc := Nat.zero_le _) (hl := Nat.zero_le _)
    · have h2 : x0 = 60 := Classical.not_not.mp h2
      refine Go.aloadN d26_18 rfl (G := ?_)
      refine Go.aloadN d26_19 rfl (G := ?_)
      refine Go.invokevirtual false d26_20 (hw _ (List.mem_of_getElem? (i := 84) rfl)) (hw _ (List.mem_of_getElem? (i := 85) rfl)) (hw _ (List.mem_of_getElem? (i := 87) rfl)) (hw _ (List.mem_of_getElem? (i := 86) rfl)) (hw _ (List.mem_of_getElem? (i := 7) rfl)) (hw _ (List.mem_of_getElem? (i := 88) rfl)) (nfSel (hw _ (List.mem_of_getElem? (i := 87) rfl))) (inS (i := 0) rfl) (c_length hw a c 0 (Int32.ofNat n) (cs.map byV) [] cpt hCS hcpt rfl (by rw [List.length_map, hn]; exact shr0 _)) pdg_12 rfl (argsL := []) (rest := [.ref a]) rfl rfl (Dr := []) rfl (eS (Or.inl (List.mem_of_getElem? (i := 0) rfl)) (eS (Or.inl (List.mem_of_getElem? (i := 1) rfl)) eN)) (G := ?_)
      rintro _ _ _ ⟨rfl, rfl, rfl⟩
      refine Go.norm (D2 := []) (S2 := [(a, .inl ("java/lang/String", [("java/lang/String", "value", "[B", .ref c), ("java/lang/String", "coder", "B", .int 0)])), (c, .inr (.byte, cs.map byV))]) (c2 := 0) (s2 := 0) (st2 := [.int (Int32.ofNat n), .ref a]) ?_
      refine Go.iconst d26_23 (v := 1) rfl (G := ?_)
      refine Go.isub d26_24 (z := (Int32.ofNat (n - 1))) (nI_pred hpos) (G := ?_)
      refine Go.invokevirtual false d26_25 (hw _ (List.mem_of_getElem? (i := 56) rfl)) (hw _ (List.mem_of_getElem? (i := 57) rfl)) (hw _ (List.mem_of_getElem? (i := 59) rfl)) (hw _ (List.mem_of_getElem? (i := 58) rfl)) (hw _ (List.mem_of_getElem? (i := 7) rfl)) (hw _ (List.mem_of_getElem? (i := 60) rfl)) (nfSel (hw _ (List.mem_of_getElem? (i := 59) rfl))) (inS (i := 0) rfl) (c_charAt hw a c [] cpt hCS hcpt (cs.map byV) (Int32.ofNat (n - 1)) xl.toInt8.toInt32 xl fmt hFM hfm (nI_nn (by omega)) (by rw [List.length_map, hn]; exact (nI_lt (by omega) (by omega)).mpr (by omega)) (byv_at (by omega) hxl) (lat_y (hc _ (List.mem_of_getElem? hxl)).1 (hc _ (List.mem_of_getElem? hxl)).2) (c16_nar (hc _ (List.mem_of_getElem? hxl)).1 (Int.le_trans (hc _ (List.mem_of_getElem? hxl)).2 (by decide)))) pdg_15 rfl (argsL := [.int (Int32.ofNat (n - 1))]) (rest := []) rfl rfl (Dr := []) rfl (eS (Or.inl (List.mem_of_getElem? (i := 0) rfl)) (eS (Or.inl (List.mem_of_getElem? (i := 1) rfl)) eN)) (G := ?_)
      rintro _ _ _ ⟨rfl, rfl, rfl⟩
      refine Go.norm (D2 := []) (S2 := [(a, .inl ("java/lang/String", [("java/lang/String", "value", "[B", .ref c), ("java/lang/String", "coder", "B", .int 0)])), (c, .inr (.byte, cs.map byV))]) (c2 := 0) (s2 := 0) (st2 := [.int xl]) ?_
      refine Go.bipush d26_28 (v := 62) rfl (G := ?_)
      refine Go.icmp d26_30 (pc2 := 35) (Gy := fun h3 => ?_) (Gn := fun h3 => ?_)
      · have h3 : xl = 62 := h3
        refine Go.iconst d26_35 (v := 1) rfl (G := ?_)
        refine Go.istoreN d26_36 (Ls' := #[.val (.ref a), .val (.int 1), .unset]) rfl (G := ?_)
        have main : ∀ m k (s2 : Slot), k + 1 + m = n - 1 → (s2 = .unset ∨ ∃ w : Int32, s2 = .val (.int w)) → (∀ j x, 1 ≤ j → j < k + 1 → cs[j]? = some x → ¬ badP x) →
            Go l Z a0 EL b n0 "com/example/iffley/iffley/model/Term" prog_13_method_8_code 3 (some .boolean) "isIri" (rm4 4 (2 * n) (40 * n) 59) [] (fun v D' S' => ∃ r, ((r = 1 ∧ iriP cs n) ∨ (r = 0 ∧ ¬ iriP cs n)) ∧ v = some (.int r) ∧ D' = [] ∧ S' = []) [] [(a, .inl ("java/lang/String", [("java/lang/String", "value", "[B", .ref c), ("java/lang/String", "coder", "B", .int 0)])), (c, .inr (.byte, cs.map byV))] (2 * k) (40 * k) 37 #[.val (.ref a), .val (.int (Int32.ofNat (k + 1))), s2] [] := by
          intro m
          induction m with
          | zero =>
            intro k s2 hi h2' hall
            have hin : k + 1 = n - 1 := by omega
            refine Go.iloadN d26_37 rfl (G := ?_)
            refine Go.aloadN d26_38 rfl (G := ?_)
            refine Go.invokevirtual false d26_39 (hw _ (List.mem_of_getElem? (i := 84) rfl)) (hw _ (List.mem_of_getElem? (i := 85) rfl)) (hw _ (List.mem_of_getElem? (i := 87) rfl)) (hw _ (List.mem_of_getElem? (i := 86) rfl)) (hw _ (List.mem_of_getElem? (i := 7) rfl)) (hw _ (List.mem_of_getElem? (i := 88) rfl)) (nfSel (hw _ (List.mem_of_getElem? (i := 87) rfl))) (inS (i := 0) rfl) (c_length hw a c 0 (Int32.ofNat n) (cs.map byV) [] cpt hCS hcpt rfl (by rw [List.length_map, hn]; exact shr0 _)) pdg_12 rfl (argsL := []) (rest := [.int (Int32.ofNat (k + 1))]) rfl rfl (Dr := []) rfl (eS (Or.inl (List.mem_of_getElem? (i := 0) rfl)) (eS (Or.inl (List.mem_of_getElem? (i := 1) rfl)) eN)) (hsl := by show 40 * k + 0 ≤ 40 * n; omega) (hce := by show 2 * k + 0 ≤ 2 * n; omega) (G := ?_)
            rintro _ _ _ ⟨rfl, rfl, rfl⟩
            refine Go.norm (D2 := []) (S2 := [(a, .inl ("java/lang/String", [("java/lang/String", "value", "[B", .ref c), ("java/lang/String", "coder", "B", .int 0)])), (c, .inr (.byte, cs.map byV))]) (c2 := 2 * k + 0) (s2 := 40 * k + 0) (st2 := [.int (Int32.ofNat n), .int (Int32.ofNat (k + 1))]) ?_
            refine Go.iconst d26_42 (v := 1) rfl (G := ?_)
            refine Go.isub d26_43 (z := (Int32.ofNat (n - 1))) (nI_pred hpos) (G := ?_)
            refine Go.icmp d26_44 (pc2 := 76) (Gy := fun _ => ?_) (Gn := fun h => absurd (show ¬ (Int32.ofNat (k + 1) < Int32.ofNat (n - 1)) by rw [hin]; exact Int32.lt_irrefl) h)
            refine Go.iconst d26_76 (v := 1) rfl (G := ?_)
            refine Go.sub [] (by decide) rfl (D' := []) rfl (S' := []) eN (G := ?_)
            exact Go.retB d26_77 (by simp) (z' := 1) rfl ⟨1, Or.inl ⟨rfl, hge, by rw [hx0, h2], by rw [hxl, h3], fun j x hj1 hj hx => hall j x hj1 (by omega) hx⟩, rfl, rfl, rfl⟩ (hc := by show 2 * k + 0 ≤ 2 * n; omega) (hl := by show 40 * k + 0 ≤ 40 * n; omega)
          | succ m ih =>
            intro k s2 hi h2' hall
            have hin : k + 1 < n - 1 := by omega
            obtain ⟨x, hx⟩ : ∃ x, cs[k + 1]? = some x := ⟨_, List.getElem?_eq_getElem (by omega)⟩
            have hxc := hc x (List.mem_of_getElem? hx)
            refine Go.iloadN d26_37 rfl (G := ?_)
            refine Go.aloadN d26_38 rfl (G := ?_)
            refine Go.invokevirtual false d26_39 (hw _ (List.mem_of_getElem? (i := 84) rfl)) (hw _ (List.mem_of_getElem? (i := 85) rfl)) (hw _ (List.mem_of_getElem? (i := 87) rfl)) (hw _ (List.mem_of_getElem? (i := 86) rfl)) (hw _ (List.mem_of_getElem? (i := 7) rfl)) (hw _ (List.mem_of_getElem? (i := 88) rfl)) (nfSel (hw _ (List.mem_of_getElem? (i := 87) rfl))) (inS (i := 0) rfl) (c_length hw a c 0 (Int32.ofNat n) (cs.map byV) [] cpt hCS hcpt rfl (by rw [List.length_map, hn]; exact shr0 _)) pdg_12 rfl (argsL := []) (rest := [.int (Int32.ofNat (k + 1))]) rfl rfl (Dr := []) rfl (eS (Or.inl (List.mem_of_getElem? (i := 0) rfl)) (eS (Or.inl (List.mem_of_getElem? (i := 1) rfl)) eN)) (hsl := by show 40 * k + 0 ≤ 40 * n; omega) (hce := by show 2 * k + 0 ≤ 2 * n; omega) (G := ?_)
            rintro _ _ _ ⟨rfl, rfl, rfl⟩
            refine Go.norm (D2 := []) (S2 := [(a, .inl ("java/lang/String", [("java/lang/String", "value", "[B", .ref c), ("java/lang/String", "coder", "B", .int 0)])), (c, .inr (.byte, cs.map byV))]) (c2 := 2 * k + 0) (s2 := 40 * k + 0) (st2 := [.int (Int32.ofNat n), .int (Int32.ofNat (k + 1))]) ?_
            refine Go.iconst d26_42 (v := 1) rfl (G := ?_)
            refine Go.isub d26_43 (z := (Int32.ofNat (n - 1))) (nI_pred hpos) (G := ?_)
            refine Go.icmp d26_44 (pc2 := 76) (Gy := fun h => absurd ((nI_lt (by omega) (by omega)).mpr hin) h) (Gn := fun _ => ?_)
            refine Go.aloadN d26_47 rfl (G := ?_)
            refine Go.iloadN d26_48 rfl (G := ?_)
            refine Go.invokevirtual false d26_49 (hw _ (List.mem_of_getElem? (i := 56) rfl)) (hw _ (List.mem_of_getElem? (i := 57) rfl)) (hw _ (List.mem_of_getElem? (i := 59) rfl)) (hw _ (List.mem_of_getElem? (i := 58) rfl)) (hw _ (List.mem_of_getElem? (i := 7) rfl)) (hw _ (List.mem_of_getElem? (i := 60) rfl)) (nfSel (hw _ (List.mem_of_getElem? (i := 59) rfl))) (inS (i := 0) rfl) (c_charAt hw a c [] cpt hCS hcpt (cs.map byV) (Int32.ofNat (k + 1)) x.toInt8.toInt32 x fmt hFM hfm (nI_nn (by omega)) (by rw [List.length_map, hn]; exact (nI_lt (by omega) (by omega)).mpr (by omega)) (byv_at (by omega) hx) (lat_y (hc _ (List.mem_of_getElem? hx)).1 (hc _ (List.mem_of_getElem? hx)).2) (c16_nar (hc _ (List.mem_of_getElem? hx)).1 (Int.le_trans (hc _ (List.mem_of_getElem? hx)).2 (by decide)))) pdg_15 rfl (argsL := [.int (Int32.ofNat (k + 1))]) (rest := []) rfl rfl (Dr := []) rfl (eS (Or.inl (List.mem_of_getElem? (i := 0) rfl)) (eS (Or.inl (List.mem_of_getElem? (i := 1) rfl)) eN)) (hsl := by show 40 * k + 0 + 0 ≤ 40 * n; omega) (hce := by show 2 * k + 0 + 0 ≤ 2 * n; omega) (G := ?_)
            rintro _ _ _ ⟨rfl, rfl, rfl⟩
            refine Go.norm (D2 := []) (S2 := [(a, .inl ("java/lang/String", [("java/lang/String", "value", "[B", .ref c), ("java/lang/String", "coder", "B", .int 0)])), (c, .inr (.byte, cs.map byV))]) (c2 := 2 * k + 0 + 0) (s2 := 40 * k + 0 + 0) (st2 := [.int x]) ?_
            refine Go.istoreN d26_52 (Ls' := #[.val (.ref a), .val (.int (Int32.ofNat (k + 1))), .val (.int x)]) (st32 h2') (G := ?_)
            refine Go.iloadN d26_53 rfl (G := ?_)
            refine Go.bipush d26_54 (v := 32) rfl (G := ?_)
            refine Go.icmp d26_56 (pc2 := 68) (Gy := fun h5 => ?_) (Gn := fun h5 => ?_)
            · have h5 : ¬ 32 < x := h5
              refine Go.iconst d26_68 (v := 0) rfl (G := ?_)
              refine Go.sub [] (by decide) rfl (D' := []) rfl (S' := []) eN (G := ?_)
              exact Go.retB d26_69 (by simp) (z' := 0) rfl ⟨0, Or.inr ⟨rfl, fun q => q.2.2.2 (k + 1) x (by omega) hin hx (Or.inl h5)⟩, rfl, rfl, rfl⟩ (hc := by show 2 * k + 0 + 0 ≤ 2 * n; omega) (hl := by show 40 * k + 0 + 0 ≤ 40 * n; omega)
            · have h5 : 32 < x := Classical.not_not.mp h5
              refine Go.ldcStr d26_59 (hw _ (List.mem_of_getElem? (i := 134) rfl)) (strW hw) hE_Term_65 hb1 (layS hw) (text := "<>\"{}|^`\\") (vs := [.int 60, .int 62, .int 34, .int 123, .int 125, .int 124, .int 94, .int 96, .int 92]) ⟨by decide, rfl⟩ (n := 36) (by decide) (by decide) (hc := by show 2 * k + 0 + 0 + 2 ≤ 2 * n; omega) (hl := by show 40 * k + 0 + 0 + (36 + 4) ≤ 40 * n; omega) (G := fun k1 k2 => ?_)
              refine Go.iloadN d26_61 rfl (G := ?_)
              refine Go.invokevirtual false d26_62 (hw _ (List.mem_of_getElem? (i := 135) rfl)) (hw _ (List.mem_of_getElem? (i := 136) rfl)) (hw _ (List.mem_of_getElem? (i := 138) rfl)) (hw _ (List.mem_of_getElem? (i := 137) rfl)) (hw _ (List.mem_of_getElem? (i := 7) rfl)) (hw _ (List.mem_of_getElem? (i := 139) rfl)) (nfSel (hw _ (List.mem_of_getElem? (i := 138) rfl))) (inS (i := 0) rfl) (c_io hw k1 k2 x (nn_of hxc.1) [] cpt hCS hcpt) pdg_16 rfl (argsL := [.int x]) (rest := []) rfl rfl (Dr := []) rfl (eS (Or.inl (List.mem_of_getElem? (i := 0) rfl)) (eS (Or.inl (List.mem_of_getElem? (i := 1) rfl)) eN)) (hsl := by show 40 * k + 0 + 0 + 40 + 0 ≤ 40 * n; omega) (hce := by show 2 * k + 0 + 0 + 2 + 0 ≤ 2 * n; omega) (G := ?_)
              rintro _ _ _ ⟨r, hr, rfl, rfl, rfl⟩
              refine Go.norm (D2 := []) (S2 := [(k1, .inl ("java/lang/String", [("java/lang/String", "value", "[B", .ref k2), ("java/lang/String", "coder", "B", .int 0)])), (k2, .inr (.byte, [.int 60, .int 62, .int 34, .int 123, .int 125, .int 124, .int 94, .int 96, .int 92])), (a, .inl ("java/lang/String", [("java/lang/String", "value", "[B", .ref c), ("java/lang/String", "coder", "B", .int 0)])), (c, .inr (.byte, cs.map byV))]) (c2 := 2 * k + 0 + 0 + 2 + 0) (s2 := 40 * k + 0 + 0 + 40 + 0) (st2 := [.int r]) ?_
              refine Go.ifc d26_65 (pc2 := 70) (Gy := fun h6 => ?_) (Gn := fun h6 => ?_)
              · have h6 : r < 0 := h6
                have hok : ¬ badP x := fun q => q.elim (fun q => q h5) (fun q => hr.mpr q h6)
                refine Go.sub [] (by decide) rfl (D' := []) rfl (S' := [(a, .inl ("java/lang/String", [("java/lang/String", "value", "[B", .ref c), ("java/lang/String", "coder", "B", .int 0)])), (c, .inr (.byte, cs.map byV))]) (eS (Or.inl (List.mem_of_getElem? (i := 2) rfl)) (eS (Or.inl (List.mem_of_getElem? (i := 3) rfl)) eN)) (G := ?_)
                refine Go.iinc d26_70 rfl (v := 1) rfl (z := (Int32.ofNat (k + 1 + 1))) (nI_succ (k + 1)) (Ls' := #[.val (.ref a), .val (.int (Int32.ofNat (k + 1 + 1))), .val (.int x)]) rfl (G := ?_)
                refine Go.goto d26_73 (pc2 := 37) (G := ?_)
                refine Go.more (cells' := 2 * (k + 1)) (slots' := 40 * (k + 1)) (by show 2 * k + 0 + 0 + 2 + 0 ≤ 2 * (k + 1); omega) (by show 40 * k + 0 + 0 + 40 + 0 ≤ 40 * (k + 1); omega) ?_
                exact ih (k + 1) _ (by omega) (Or.inr ⟨x, rfl⟩) (fun j z hj1 hj hz => by
                  rcases Nat.lt_or_ge j (k + 1) with q | q
                  · exact hall j z hj1 q hz
                  · obtain rfl : j = k + 1 := by omega
                    cases hx.symm.trans hz; exact hok)
              · have h6 : ¬ r < 0 := h6
                refine Go.iconst d26_68 (v := 0) rfl (G := ?_)
                refine Go.sub [] (by decide) rfl (D' := []) rfl (S' := []) eN (G := ?_)
                exact Go.retB d26_69 (by simp) (z' := 0) rfl ⟨0, Or.inr ⟨rfl, fun q => q.2.2.2 (k + 1) x (by omega) hin hx (Or.inr (hr.mp h6))⟩, rfl, rfl, rfl⟩ (hc := by show 2 * k + 0 + 0 + 2 + 0 ≤ 2 * n; omega) (hl := by show 40 * k + 0 + 0 + 40 + 0 ≤ 40 * n; omega)
        exact main (n - 2) 0 .unset (by omega) (Or.inl rfl) (fun j x h1 hj => absurd hj (by omega))
      · have h3 : ¬ xl = 62 := h3
        refine Go.iconst d26_33 (v := 0) rfl (G := ?_)
        refine Go.sub [] (by decide) rfl (D' := []) rfl (S' := []) eN (G := ?_)
        exact Go.retB d26_34 (by simp) (z' := 0) rfl ⟨0, Or.inr ⟨rfl, fun q => h3 (by have := hxl.symm.trans q.2.2.1; simpa using this)⟩, rfl, rfl, rfl⟩ (hc := Nat.zero_le _) (hl := Nat.zero_le _)
theorem png_5 : plainName "java/util/Objects" = true := by first | (simp [plainName, overriddenIn]; done) | decide +kernel
theorem d27_0 : Dx jdk_31_method_11_code 0 (.aload_n 0) 1 1 := ⟨by decide +kernel, rfl⟩
theorem d27_1 : Dx jdk_31_method_11_code 1 (.ifnonnull 12) 3 4 := ⟨by decide +kernel, rfl⟩
theorem d27_4 : Dx jdk_31_method_11_code 4 (.new 84) 3 7 := ⟨by decide +kernel, rfl⟩
theorem d27_7 : Dx jdk_31_method_11_code 7 (.dup) 1 8 := ⟨by decide +kernel, rfl⟩
theorem d27_8 : Dx jdk_31_method_11_code 8 (.aload_n 1) 1 9 := ⟨by decide +kernel, rfl⟩
theorem d27_9 : Dx jdk_31_method_11_code 9 (.invokespecial 87) 3 12 := ⟨by decide +kernel, rfl⟩
theorem d27_12 : Dx jdk_31_method_11_code 12 (.athrow) 1 13 := ⟨by decide +kernel, rfl⟩
theorem d27_13 : Dx jdk_31_method_11_code 13 (.aload_n 0) 1 14 := ⟨by decide +kernel, rfl⟩
theorem d27_14 : Dx jdk_31_method_11_code 14 (.areturn) 1 15 := ⟨by decide +kernel, rfl⟩
set_option maxRecDepth 65536 in
set_option maxHeartbeats 40000000 in
theorem c_rnn {l : Launch} {Z : State} {a0 : Array Value} {EL : List (String × Nat)} {b : Bool} {n0 : Nat} (hw : ∀ d ∈ tables_1, d.before a0 Z = true) (a m : Addr) :
    Met l Z a0 EL b n0 (⟨"java/util/Objects", "requireNonNull", "(Ljava/lang/Object;Ljava/lang/String;)Ljava/lang/Object;"⟩ : MethodName) jdk_31_method_11_code 2 (some (.object "java/lang/Object")) [] (rm4 0 0 0 0) [.ref a, .ref m] [] [] (fun v D' S' => v = some (.ref a) ∧ D' = [] ∧ S' = []) := by
  refine Met.of_go (own := "java/util/Objects") (nm := "requireNonNull") (Ls := #[.val (.ref a), .val (.ref m)]) (plainFor_of_name png_5) (fun m => by first | rfl | (simp [entryFrame, mkF, argsToLocals, Value.category]; done)) ?_
  refine Go.aloadN d27_0 rfl (G := ?_)
  refine Go.ifnonnullY d27_1 (pc2 := 13) (G := ?_)
  refine Go.aloadN d27_13 rfl (G := ?_)
  exact Go.retA d27_14 ⟨rfl, rfl, rfl⟩
theorem d28_0 : Dx prog_13_method_1_code 0 (.aload_n 0) 1 1 := ⟨by decide +kernel, rfl⟩
theorem d28_1 : Dx prog_13_method_1_code 1 (.invokespecial 1) 3 4 := ⟨by decide +kernel, rfl⟩
theorem d28_4 : Dx prog_13_method_1_code 4 (.aload_n 0) 1 5 := ⟨by decide +kernel, rfl⟩
theorem d28_5 : Dx prog_13_method_1_code 5 (.aload_n 1) 1 6 := ⟨by decide +kernel, rfl⟩
theorem d28_6 : Dx prog_13_method_1_code 6 (.putfield 7) 3 9 := ⟨by decide +kernel, rfl⟩
theorem d28_9 : Dx prog_13_method_1_code 9 (.return_) 1 10 := ⟨by decide +kernel, rfl⟩
set_option maxRecDepth 65536 in
set_option maxHeartbeats 40000000 in
theorem c_tm {l : Launch} {Z : State} {a0 : Array Value} {EL : List (String × Nat)} {b : Bool} {n0 : Nat} (hw : ∀ d ∈ tables_1, d.before a0 Z = true) (t a : Addr) :
    Met l Z a0 EL b n0 (⟨"com/example/iffley/iffley/model/Term", "<init>", "(Ljava/lang/String;)V"⟩ : MethodName) prog_13_method_1_code 2 none [] (rm4 1 0 0 12) [.ref t, .ref a] [(t, .inl ("com/example/iffley/iffley/model/Term", [("com/example/iffley/iffley/model/Term", "text", "Ljava/lang/String;", .null)]))] [] (fun v D' S' => v = none ∧ D' = [(t, .inl ("com/example/iffley/iffley/model/Term", [("com/example/iffley/iffley/model/Term", "text", "Ljava/lang/String;", .ref a)]))] ∧ S' = []) := by
  refine Met.of_go (own := "com/example/iffley/iffley/model/Term") (nm := "<init>") (Ls := #[.val (.ref t), .val (.ref a)]) (plainFor_of_name png_4) (fun m => by first | rfl | (simp [entryFrame, mkF, argsToLocals, Value.category]; done)) ?_
  refine Go.aloadN d28_0 rfl (G := ?_)
  refine Go.objInit d28_1 (hw _ (List.mem_of_getElem? (i := 99) rfl)) (hw _ (List.mem_of_getElem? (i := 16) rfl)) (hw _ (List.mem_of_getElem? (i := 17) rfl)) rfl (Nat.le_of_ble_eq_true rfl) (Nat.le_of_ble_eq_true rfl) (G := ?_)
  refine Go.aloadN d28_4 rfl (G := ?_)
  refine Go.aloadN d28_5 rfl (G := ?_)
  refine Go.putfield d28_6 (hw _ (List.mem_of_getElem? (i := 100) rfl)) Via.refl 0 rfl 0 rfl (Or.inr ⟨(hw _ (List.mem_of_getElem? (i := 101) rfl)), rfl, rfl⟩) (hw _ (List.mem_of_getElem? (i := 95) rfl)) (ty := .object "java/lang/String") (by decide +kernel) (v' := .ref a) rfl rfl (D' := [(t, .inl ("com/example/iffley/iffley/model/Term", [("com/example/iffley/iffley/model/Term", "text", "Ljava/lang/String;", .ref a)]))]) rfl (G := ?_)
  exact Go.retV d28_9 ⟨rfl, rfl, rfl⟩
theorem d29_0 : Dx prog_13_method_2_code 0 (.aload_n 0) 1 1 := ⟨by decide +kernel, rfl⟩
theorem d29_1 : Dx prog_13_method_2_code 1 (.ldc 13) 2 3 := ⟨by decide +kernel, rfl⟩
theorem d29_3 : Dx prog_13_method_2_code 3 (.invokestatic 14) 3 6 := ⟨by decide +kernel, rfl⟩
theorem d29_6 : Dx prog_13_method_2_code 6 (.pop) 1 7 := ⟨by decide +kernel, rfl⟩
theorem d29_7 : Dx prog_13_method_2_code 7 (.aload_n 0) 1 8 := ⟨by decide +kernel, rfl⟩
theorem d29_8 : Dx prog_13_method_2_code 8 (.invokestatic 20) 3 11 := ⟨by decide +kernel, rfl⟩
theorem d29_11 : Dx prog_13_method_2_code 11 (.ifCond .ne 24) 3 14 := ⟨by decide +kernel, rfl⟩
theorem d29_14 : Dx prog_13_method_2_code 14 (.aload_n 0) 1 15 := ⟨by decide +kernel, rfl⟩
theorem d29_15 : Dx prog_13_method_2_code 15 (.invokestatic 24) 3 18 := ⟨by decide +kernel, rfl⟩
theorem d29_18 : Dx prog_13_method_2_code 18 (.ifCond .ne 17) 3 21 := ⟨by decide +kernel, rfl⟩
theorem d29_21 : Dx prog_13_method_2_code 21 (.new 27) 3 24 := ⟨by decide +kernel, rfl⟩
theorem d29_24 : Dx prog_13_method_2_code 24 (.dup) 1 25 := ⟨by decide +kernel, rfl⟩
theorem d29_25 : Dx prog_13_method_2_code 25 (.aload_n 0) 1 26 := ⟨by decide +kernel, rfl⟩
theorem d29_26 : Dx prog_13_method_2_code 26 (.invokedynamic 29) 5 31 := ⟨by decide +kernel, rfl⟩
theorem d29_31 : Dx prog_13_method_2_code 31 (.invokespecial 33) 3 34 := ⟨by decide +kernel, rfl⟩
theorem d29_34 : Dx prog_13_method_2_code 34 (.athrow) 1 35 := ⟨by decide +kernel, rfl⟩
theorem d29_35 : Dx prog_13_method_2_code 35 (.new 8) 3 38 := ⟨by decide +kernel, rfl⟩
theorem d29_38 : Dx prog_13_method_2_code 38 (.dup) 1 39 := ⟨by decide +kernel, rfl⟩
theorem d29_39 : Dx prog_13_method_2_code 39 (.aload_n 0) 1 40 := ⟨by decide +kernel, rfl⟩
theorem d29_40 : Dx prog_13_method_2_code 40 (.invokespecial 36) 3 43 := ⟨by decide +kernel, rfl⟩
theorem d29_43 : Dx prog_13_method_2_code 43 (.areturn) 1 44 := ⟨by decide +kernel, rfl⟩
theorem pdg_17 : parseMethodDescriptor "(Ljava/lang/Object;Ljava/lang/String;)Ljava/lang/Object;" = some ⟨[.object "java/lang/Object", .object "java/lang/String"], some (.object "java/lang/Object")⟩ := by decide +kernel
theorem pdg_18 : parseMethodDescriptor "(Ljava/lang/String;)Z" = some ⟨[.object "java/lang/String"], some .boolean⟩ := by decide +kernel
theorem pdg_19 : parseMethodDescriptor "(Ljava/lang/String;)V" = some ⟨[.object "java/lang/String"], none⟩ := by decide +kernel
set_option maxRecDepth 65536 in
set_option maxHeartbeats 40000000 in
theorem c_parse {l : Launch} {Z : State} {a0 : Array Value} {EL : List (String × Nat)} {b : Bool} {n0 : Nat} (hw : ∀ d ∈ tables_1, d.before a0 Z = true) (a c : Addr) (cs : List Int32) (n : Nat) (cpt : Int32) (fmt : Value) (hCS : Sta Z Z.heap "java/lang/String" "COMPACT_STRINGS" "Z" (.int cpt)) (hcpt : ¬ cpt = 0) (hFM : Sta Z Z.heap "jdk/internal/util/Preconditions" "SIOOBE_FORMATTER" "Ljava/util/function/BiFunction;" fmt) (hfm : fmt.isRef = true) (hn : cs.length = n) (hb : n ≤ 4000) (hpos : 0 < n) (hc : ∀ c ∈ cs, 0 ≤ c.toInt ∧ c.toInt ≤ 255) (hgood : idP cs ∨ iriP cs n) (hb1 : b = true) (hE_Term_65 : ("com/example/iffley/iffley/model/Term", 65) ∈ EL) (hE_Term_13 : ("com/example/iffley/iffley/model/Term", 13) ∈ EL) :
    Met l Z a0 EL b n0 (⟨"com/example/iffley/iffley/model/Term", "parse", "(Ljava/lang/String;)Lcom/example/iffley/iffley/model/Term;"⟩ : MethodName) prog_13_method_2_code 1 (some (.object "com/example/iffley/iffley/model/Term")) [] (rm4 5 (2 * n + 3) (40 * n + 21) 73) [.ref a] [] [(a, .inl ("java/lang/String", [("java/lang/String", "value", "[B", .ref c), ("java/lang/String", "coder", "B", .int 0)])), (c, .inr (.byte, cs.map byV))] (fun v D' S' => ∃ t, v = some (.ref t) ∧ D' = [(t, .inl ("com/example/iffley/iffley/model/Term", [("com/example/iffley/iffley/model/Term", "text", "Ljava/lang/String;", .ref a)]))] ∧ S' = []) := by
  refine Met.of_go (own := "com/example/iffley/iffley/model/Term") (nm := "parse") (Ls := #[.val (.ref a)]) (plainFor_of_name png_4) (fun m => by first | rfl | (simp [entryFrame, mkF, argsToLocals, Value.category]; done)) ?_
  refine Go.aloadN d29_0 rfl (G := ?_)
  refine Go.ldcStr d29_1 (hw _ (List.mem_of_getElem? (i := 41) rfl)) (strW hw) hE_Term_13 hb1 (layS hw) (text := "text") (vs := [.int 116, .int 101, .int 120, .int 116]) ⟨by decide, rfl⟩ (n := 16) (by decide) (by decide) (hc := by show 0 + 2 ≤ 2 * n + 3; omega) (hl := by show 0 + (16 + 4) ≤ 40 * n + 21; omega) (G := fun k1 k2 => ?_)
  refine Go.invokestatic false d29_3 (hw _ (List.mem_of_getElem? (i := 44) rfl)) (hw _ (List.mem_of_getElem? (i := 45) rfl)) (hw _ (List.mem_of_getElem? (i := 46) rfl)) (hw _ (List.mem_of_getElem? (i := 47) rfl)) (c_rnn hw a k1) pdg_17 rfl (argsL := [.ref a, .ref k1]) (rest := []) rfl rfl (Dr := []) rfl eN (G := ?_)
  rintro _ _ _ ⟨rfl, rfl, rfl⟩
  refine Go.norm (D2 := []) (S2 := [(k1, .inl ("java/lang/String", [("java/lang/String", "value", "[B", .ref k2), ("java/lang/String", "coder", "B", .int 0)])), (k2, .inr (.byte, [.int 116, .int 101, .int 120, .int 116])), (a, .inl ("java/lang/String", [("java/lang/String", "value", "[B", .ref c), ("java/lang/String", "coder", "B", .int 0)])), (c, .inr (.byte, cs.map byV))]) (c2 := 2) (s2 := 20) (st2 := [.ref a]) ?_
  refine Go.pop d29_6 (G := ?_)
  refine Go.aloadN d29_7 rfl (G := ?_)
  refine Go.invokestatic false d29_8 (hw _ (List.mem_of_getElem? (i := 48) rfl)) (hw _ (List.mem_of_getElem? (i := 49) rfl)) (hw _ (List.mem_of_getElem? (i := 39) rfl)) (hw _ (List.mem_of_getElem? (i := 50) rfl)) (c_isId hw a c cs n cpt fmt hCS hcpt hFM hfm hn hb hpos hc) pdg_18 rfl (argsL := [.ref a]) (rest := []) rfl rfl (Dr := []) rfl (eS (Or.inl (List.mem_of_getElem? (i := 2) rfl)) (eS (Or.inl (List.mem_of_getElem? (i := 3) rfl)) eN)) (G := ?_)
  rintro _ _ _ ⟨r1, hr1, rfl, rfl, rfl⟩
  refine Go.norm (D2 := []) (S2 := [(k1, .inl ("java/lang/String", [("java/lang/String", "value", "[B", .ref k2), ("java/lang/String", "coder", "B", .int 0)])), (k2, .inr (.byte, [.int 116, .int 101, .int 120, .int 116])), (a, .inl ("java/lang/String", [("java/lang/String", "value", "[B", .ref c), ("java/lang/String", "coder", "B", .int 0)])), (c, .inr (.byte, cs.map byV))]) (c2 := 2) (s2 := 20) (st2 := [.int r1]) ?_
  refine Go.ifc d29_11 (pc2 := 35) (Gy := fun h1 => ?_) (Gn := fun h1 => ?_)
  · have h1 : ¬ r1 = 0 := h1
    refine Go.new d29_35 (hw _ (List.mem_of_getElem? (i := 94) rfl)) (hw _ (List.mem_of_getElem? (i := 95) rfl)) (hw _ (List.mem_of_getElem? (i := 39) rfl)) (NewF.cons (Or.inr (hw _ (List.mem_of_getElem? (i := 101) rfl))) (ty := .object "java/lang/String") (by decide +kernel) rfl (by simp) NewF.nil) (hc := by show 2 + 1 ≤ 2 * n + 3; omega) (hl := by show 20 + 1 ≤ 40 * n + 21; omega) (G := fun o3 => ?_)
    refine Go.dup d29_38 (G := ?_)
    refine Go.aloadN d29_39 rfl (G := ?_)
    refine Go.invokeinit false d29_40 rfl (hw _ (List.mem_of_getElem? (i := 96) rfl)) (hw _ (List.mem_of_getElem? (i := 97) rfl)) (hw _ (List.mem_of_getElem? (i := 39) rfl)) (hw _ (List.mem_of_getElem? (i := 98) rfl)) (c_tm hw o3 a) pdg_19 rfl (argsL := [.ref a]) (rest := [.ref o3]) rfl rfl (Dr := []) rfl eN (G := ?_)
    rintro _ _ _ ⟨rfl, rfl, rfl⟩
    refine Go.norm (D2 := [(o3, .inl ("com/example/iffley/iffley/model/Term", [("com/example/iffley/iffley/model/Term", "text", "Ljava/lang/String;", .ref a)]))]) (S2 := [(k1, .inl ("java/lang/String", [("java/lang/String", "value", "[B", .ref k2), ("java/lang/String", "coder", "B", .int 0)])), (k2, .inr (.byte, [.int 116, .int 101, .int 120, .int 116])), (a, .inl ("java/lang/String", [("java/lang/String", "value", "[B", .ref c), ("java/lang/String", "coder", "B", .int 0)])), (c, .inr (.byte, cs.map byV))]) (c2 := 3) (s2 := 21) (st2 := [.ref o3]) ?_
    refine Go.sub [0] (by decide) rfl (D' := [(o3, .inl ("com/example/iffley/iffley/model/Term", [("com/example/iffley/iffley/model/Term", "text", "Ljava/lang/String;", .ref a)]))]) rfl (S' := []) eN (G := ?_)
    exact Go.retA d29_43 ⟨o3, rfl, rfl, rfl⟩ (hc := by show 3 ≤ 2 * n + 3; omega) (hl := by show 21 ≤ 40 * n + 21; omega)
  · have h1 : r1 = 0 := Classical.not_not.mp h1
    refine Go.aloadN d29_14 rfl (G := ?_)
    refine Go.invokestatic false d29_15 (hw _ (List.mem_of_getElem? (i := 131) rfl)) (hw _ (List.mem_of_getElem? (i := 132) rfl)) (hw _ (List.mem_of_getElem? (i := 39) rfl)) (hw _ (List.mem_of_getElem? (i := 133) rfl)) (c_isIri hw a c cs n cpt fmt hCS hcpt hFM hfm hn hb hpos hc hb1 hE_Term_65) pdg_18 rfl (argsL := [.ref a]) (rest := []) rfl rfl (Dr := []) rfl (eS (Or.inl (List.mem_of_getElem? (i := 2) rfl)) (eS (Or.inl (List.mem_of_getElem? (i := 3) rfl)) eN)) (hsl := by show 20 + 40 * n ≤ 40 * n + 21; omega) (hce := by show 2 + 2 * n ≤ 2 * n + 3; omega) (G := ?_)
    rintro _ _ _ ⟨r2, hr2, rfl, rfl, rfl⟩
    refine Go.norm (D2 := []) (S2 := [(k1, .inl ("java/lang/String", [("java/lang/String", "value", "[B", .ref k2), ("java/lang/String", "coder", "B", .int 0)])), (k2, .inr (.byte, [.int 116, .int 101, .int 120, .int 116])), (a, .inl ("java/lang/String", [("java/lang/String", "value", "[B", .ref c), ("java/lang/String", "coder", "B", .int 0)])), (c, .inr (.byte, cs.map byV))]) (c2 := 2 + 2 * n) (s2 := 20 + 40 * n) (st2 := [.int r2]) ?_
    refine Go.ifc d29_18 (pc2 := 35) (Gy := fun _ => ?_) (Gn := fun h => absurd (show ¬ r2 = 0 from (fun e0 => hgood.elim (bF hr1 h1) (bF hr2 e0))) h)
    refine Go.new d29_35 (hw _ (List.mem_of_getElem? (i := 94) rfl)) (hw _ (List.mem_of_getElem? (i := 95) rfl)) (hw _ (List.mem_of_getElem? (i := 39) rfl)) (NewF.cons (Or.inr (hw _ (List.mem_of_getElem? (i := 101) rfl))) (ty := .object "java/lang/String") (by decide +kernel) rfl (by simp) NewF.nil) (hc := by show 2 + 2 * n + 1 ≤ 2 * n + 3; omega) (hl := by show 20 + 40 * n + 1 ≤ 40 * n + 21; omega) (G := fun o4 => ?_)
    refine Go.dup d29_38 (G := ?_)
    refine Go.aloadN d29_39 rfl (G := ?_)
    refine Go.invokeinit false d29_40 rfl (hw _ (List.mem_of_getElem? (i := 96) rfl)) (hw _ (List.mem_of_getElem? (i := 97) rfl)) (hw _ (List.mem_of_getElem? (i := 39) rfl)) (hw _ (List.mem_of_getElem? (i := 98) rfl)) (c_tm hw o4 a) pdg_19 rfl (argsL := [.ref a]) (rest := [.ref o4]) rfl rfl (Dr := []) rfl eN (hsl := by show 20 + 40 * n + 1 + 0 ≤ 40 * n + 21; omega) (hce := by show 2 + 2 * n + 1 + 0 ≤ 2 * n + 3; omega) (G := ?_)
    rintro _ _ _ ⟨rfl, rfl, rfl⟩
    refine Go.norm (D2 := [(o4, .inl ("com/example/iffley/iffley/model/Term", [("com/example/iffley/iffley/model/Term", "text", "Ljava/lang/String;", .ref a)]))]) (S2 := [(k1, .inl ("java/lang/String", [("java/lang/String", "value", "[B", .ref k2), ("java/lang/String", "coder", "B", .int 0)])), (k2, .inr (.byte, [.int 116, .int 101, .int 120, .int 116])), (a, .inl ("java/lang/String", [("java/lang/String", "value", "[B", .ref c), ("java/lang/String", "coder", "B", .int 0)])), (c, .inr (.byte, cs.map byV))]) (c2 := 2 + 2 * n + 1 + 0) (s2 := 20 + 40 * n + 1 + 0) (st2 := [.ref o4]) ?_
    refine Go.sub [0] (by decide) rfl (D' := [(o4, .inl ("com/example/iffley/iffley/model/Term", [("com/example/iffley/iffley/model/Term", "text", "Ljava/lang/String;", .ref a)]))]) rfl (S' := []) eN (G := ?_)
    exact Go.retA d29_43 ⟨o4, rfl, rfl, rfl⟩ (hc := by show 2 + 2 * n + 1 + 0 ≤ 2 * n + 3; omega) (hl := by show 20 + 40 * n + 1 + 0 ≤ 40 * n + 21; omega)
theorem d30_0 : Dx prog_13_method_3_code 0 (.aload_n 0) 1 1 := ⟨by decide +kernel, rfl⟩
theorem d30_1 : Dx prog_13_method_3_code 1 (.getfield 7) 3 4 := ⟨by decide +kernel, rfl⟩
theorem d30_4 : Dx prog_13_method_3_code 4 (.iconst 0) 1 5 := ⟨by decide +kernel, rfl⟩
theorem d30_5 : Dx prog_13_method_3_code 5 (.invokevirtual 37) 3 8 := ⟨by decide +kernel, rfl⟩
theorem d30_8 : Dx prog_13_method_3_code 8 (.invokestatic 43) 3 11 := ⟨by decide +kernel, rfl⟩
theorem d30_11 : Dx prog_13_method_3_code 11 (.ireturn) 1 12 := ⟨by decide +kernel, rfl⟩
set_option maxRecDepth 65536 in
set_option maxHeartbeats 40000000 in
theorem c_isVar {l : Launch} {Z : State} {a0 : Array Value} {EL : List (String × Nat)} {b : Bool} {n0 : Nat} (hw : ∀ d ∈ tables_1, d.before a0 Z = true) (t : Addr) (a c : Addr) (cs : List Int32) (n : Nat) (cpt : Int32) (fmt : Value) (hCS : Sta Z Z.heap "java/lang/String" "COMPACT_STRINGS" "Z" (.int cpt)) (hcpt : ¬ cpt = 0) (hFM : Sta Z Z.heap "jdk/internal/util/Preconditions" "SIOOBE_FORMATTER" "Ljava/util/function/BiFunction;" fmt) (hfm : fmt.isRef = true) (hn : cs.length = n) (hb : n ≤ 4000) (hpos : 0 < n) (hc : ∀ c ∈ cs, 0 ≤ c.toInt ∧ c.toInt ≤ 255) (x0 : Int32) (hx0 : cs[0]? = some x0) :
    Met l Z a0 EL b n0 (⟨"com/example/iffley/iffley/model/Term", "isVariable", "()Z"⟩ : MethodName) prog_13_method_3_code 1 (some .boolean) [] (rm4 4 0 0 53) [.ref t] [] [(t, .inl ("com/example/iffley/iffley/model/Term", [("com/example/iffley/iffley/model/Term", "text", "Ljava/lang/String;", .ref a)])), (a, .inl ("java/lang/String", [("java/lang/String", "value", "[B", .ref c), ("java/lang/String", "coder", "B", .int 0)])), (c, .inr (.byte, cs.map byV))] (fun v D' S' => ∃ r, ((r = 1 ∧ upP x0) ∨ (r = 0 ∧ ¬ upP x0)) ∧ v = some (.int r) ∧ D' = [] ∧ S' = []) := by
  refine Met.of_go (own := "com/example/iffley/iffley/model/Term") (nm := "isVariable") (Ls := #[.val (.ref t)]) (plainFor_of_name png_4) (fun m => by first | rfl | (simp [entryFrame, mkF, argsToLocals, Value.category]; done)) ?_
  refine Go.aloadN d30_0 rfl (G := ?_)
  refine Go.getfield d30_1 (host := "") (Or.inl (hw _ (List.mem_of_getElem? (i := 100) rfl))) Via.refl (inS (i := 0) rfl) 0 rfl (G := ?_)
  refine Go.iconst d30_4 (v := 0) rfl (G := ?_)
  refine Go.invokevirtual false d30_5 (hw _ (List.mem_of_getElem? (i := 56) rfl)) (hw _ (List.mem_of_getElem? (i := 57) rfl)) (hw _ (List.mem_of_getElem? (i := 59) rfl)) (hw _ (List.mem_of_getElem? (i := 58) rfl)) (hw _ (List.mem_of_getElem? (i := 7) rfl)) (hw _ (List.mem_of_getElem? (i := 60) rfl)) (nfSel (hw _ (List.mem_of_getElem? (i := 59) rfl))) (inS (i := 1) rfl) (c_charAt hw a c [] cpt hCS hcpt (cs.map byV) (Int32.ofNat 0) x0.toInt8.toInt32 x0 fmt hFM hfm (nI_nn (by omega)) (by rw [List.length_map, hn]; exact (nI_lt (by omega) (by omega)).mpr hpos) (byv_at (by omega) hx0) (lat_y (hc _ (List.mem_of_getElem? hx0)).1 (hc _ (List.mem_of_getElem? hx0)).2) (c16_nar (hc _ (List.mem_of_getElem? hx0)).1 (Int.le_trans (hc _ (List.mem_of_getElem? hx0)).2 (by decide)))) pdg_15 rfl (argsL := [.int 0]) (rest := []) rfl rfl (Dr := []) rfl (eS (Or.inl (List.mem_of_getElem? (i := 1) rfl)) (eS (Or.inl (List.mem_of_getElem? (i := 2) rfl)) eN)) (G := ?_)
  rintro _ _ _ ⟨rfl, rfl, rfl⟩
  refine Go.norm (D2 := []) (S2 := [(t, .inl ("com/example/iffley/iffley/model/Term", [("com/example/iffley/iffley/model/Term", "text", "Ljava/lang/String;", .ref a)])), (a, .inl ("java/lang/String", [("java/lang/String", "value", "[B", .ref c), ("java/lang/String", "coder", "B", .int 0)])), (c, .inr (.byte, cs.map byV))]) (c2 := 0) (s2 := 0) (st2 := [.int x0]) ?_
  refine Go.invokestatic false d30_8 (hw _ (List.mem_of_getElem? (i := 81) rfl)) (hw _ (List.mem_of_getElem? (i := 82) rfl)) (hw _ (List.mem_of_getElem? (i := 39) rfl)) (hw _ (List.mem_of_getElem? (i := 83) rfl)) (c_upper hw x0) pdg_14 rfl (argsL := [.int x0]) (rest := []) rfl rfl (Dr := []) rfl eN (G := ?_)
  rintro _ _ _ ⟨r, hr, rfl, rfl, rfl⟩
  refine Go.norm (D2 := []) (S2 := [(t, .inl ("com/example/iffley/iffley/model/Term", [("com/example/iffley/iffley/model/Term", "text", "Ljava/lang/String;", .ref a)])), (a, .inl ("java/lang/String", [("java/lang/String", "value", "[B", .ref c), ("java/lang/String", "coder", "B", .int 0)])), (c, .inr (.byte, cs.map byV))]) (c2 := 0) (s2 := 0) (st2 := [.int r]) ?_
  refine Go.sub [] (by decide) rfl (D' := []) rfl (S' := []) eN (G := ?_)
  exact Go.retB d30_11 (by simp) (z' := r) (by rcases hr with ⟨rfl, -⟩ | ⟨rfl, -⟩ <;> rfl) ⟨r, hr, rfl, rfl, rfl⟩

theorem idP_of {c0 : Int32} {r : List Int32} (h : letP c0) (hr : ∀ x ∈ r, idcP x) : idP (c0 :: r) := by
  refine ⟨⟨c0, rfl, h⟩, fun j x hj hx => ?_⟩
  obtain ⟨k, rfl⟩ : ∃ k, j = k + 1 := ⟨j - 1, by omega⟩
  exact hr x (List.mem_of_getElem? (i := k) (by simpa using hx))
theorem iri2 {a z : Int32} (h0 : a = 60) (h1 : z = 62) : iriP [a, z] 2 := by
  subst h0 h1; exact ⟨by decide, rfl, rfl, fun j y h1 h2 hy => absurd h2 (by omega)⟩
theorem iri3 {a x z : Int32} (h0 : a = 60) (h1 : z = 62) (hx : ¬ badP x) : iriP [a, x, z] 3 := by
  subst h0 h1
  refine ⟨by decide, rfl, rfl, fun j y h1 h2 hy => ?_⟩
  obtain rfl : j = 1 := by omega
  cases hy; exact hx
theorem iri4 {a x y z : Int32} (h0 : a = 60) (h1 : z = 62) (hx : ¬ badP x) (hy : ¬ badP y) : iriP [a, x, y, z] 4 := by
  subst h0 h1
  refine ⟨by decide, rfl, rfl, fun j w h1 h2 hw => ?_⟩
  obtain rfl | rfl : j = 1 ∨ j = 2 := by omega
  · cases hw; exact hx
  · cases hw; exact hy
theorem nlat {c : Int32} (h : 0 ≤ c.toInt ∧ c.toInt ≤ 255) : ¬ (255 : Int32) < c := by
  rw [Int32.lt_iff_toInt_lt]; have : (255 : Int32).toInt = 255 := rfl; omega
theorem nc_of {c : Int32} (h : 0 ≤ c.toInt ∧ c.toInt ≤ 255) : nar .char c = c := c16_nar h.1 (by omega)
theorem and3 (x : Int32) : 1 + (x &&& 3) = 1 ∨ 1 + (x &&& 3) = 2 ∨ 1 + (x &&& 3) = 3 ∨ 1 + (x &&& 3) = 4 := by
  have a := c_mask x 3 2 (by omega) (by decide)
  have k := c_iadd 1 (x &&& 3)
  have b1 := Int32.toInt_lt (1 + (x &&& 3))
  have b2 := Int32.le_toInt (1 + (x &&& 3))
  simp only [← Int32.toInt_inj, Int32.reduceToInt, Nat.reducePow] at *
  omega
theorem upeq {r v : Int32} {P : Prop} (hr : (r = 1 ∧ P) ∨ (r = 0 ∧ ¬ P)) (hv : (v = 1 ∧ P) ∨ (v = 0 ∧ ¬ P)) : r = v := by
  rcases hr with ⟨rfl, p⟩ | ⟨rfl, p⟩ <;> rcases hv with ⟨rfl, q⟩ | ⟨rfl, q⟩ <;> first | rfl | exact absurd p q | exact absurd q p

theorem png_6 : plainName "com/example/iffley/iffley/model/TermParsePinLaw" = true := by first | (simp [plainName, overriddenIn]; done) | decide +kernel
theorem d31_0 : Dx method_3_code 0 (.iload_n 0) 1 1 := ⟨by decide +kernel, rfl⟩
theorem d31_1 : Dx method_3_code 1 (.sipush 256) 3 4 := ⟨by decide +kernel, rfl⟩
theorem d31_4 : Dx method_3_code 4 (.iand) 1 5 := ⟨by decide +kernel, rfl⟩
theorem d31_5 : Dx method_3_code 5 (.ifCond .eq 10) 3 8 := ⟨by decide +kernel, rfl⟩
theorem d31_8 : Dx method_3_code 8 (.iload_n 0) 1 9 := ⟨by decide +kernel, rfl⟩
theorem d31_9 : Dx method_3_code 9 (.sipush 255) 3 12 := ⟨by decide +kernel, rfl⟩
theorem d31_12 : Dx method_3_code 12 (.iand) 1 13 := ⟨by decide +kernel, rfl⟩
theorem d31_13 : Dx method_3_code 13 (.i2c) 1 14 := ⟨by decide +kernel, rfl⟩
theorem d31_14 : Dx method_3_code 14 (.ireturn) 1 15 := ⟨by decide +kernel, rfl⟩
theorem d31_15 : Dx method_3_code 15 (.iload_n 0) 1 16 := ⟨by decide +kernel, rfl⟩
theorem d31_16 : Dx method_3_code 16 (.bipush 63) 2 18 := ⟨by decide +kernel, rfl⟩
theorem d31_18 : Dx method_3_code 18 (.iand) 1 19 := ⟨by decide +kernel, rfl⟩
theorem d31_19 : Dx method_3_code 19 (.istore_n 1) 1 20 := ⟨by decide +kernel, rfl⟩
theorem d31_20 : Dx method_3_code 20 (.iload_n 1) 1 21 := ⟨by decide +kernel, rfl⟩
theorem d31_21 : Dx method_3_code 21 (.bipush 26) 2 23 := ⟨by decide +kernel, rfl⟩
theorem d31_23 : Dx method_3_code 23 (.if_icmp .ge 9) 3 26 := ⟨by decide +kernel, rfl⟩
theorem d31_26 : Dx method_3_code 26 (.bipush 65) 2 28 := ⟨by decide +kernel, rfl⟩
theorem d31_28 : Dx method_3_code 28 (.iload_n 1) 1 29 := ⟨by decide +kernel, rfl⟩
theorem d31_29 : Dx method_3_code 29 (.iadd) 1 30 := ⟨by decide +kernel, rfl⟩
theorem d31_30 : Dx method_3_code 30 (.i2c) 1 31 := ⟨by decide +kernel, rfl⟩
theorem d31_31 : Dx method_3_code 31 (.ireturn) 1 32 := ⟨by decide +kernel, rfl⟩
theorem d31_32 : Dx method_3_code 32 (.iload_n 1) 1 33 := ⟨by decide +kernel, rfl⟩
theorem d31_33 : Dx method_3_code 33 (.bipush 52) 2 35 := ⟨by decide +kernel, rfl⟩
theorem d31_35 : Dx method_3_code 35 (.if_icmp .ge 12) 3 38 := ⟨by decide +kernel, rfl⟩
theorem d31_38 : Dx method_3_code 38 (.bipush 97) 2 40 := ⟨by decide +kernel, rfl⟩
theorem d31_40 : Dx method_3_code 40 (.iload_n 1) 1 41 := ⟨by decide +kernel, rfl⟩
theorem d31_41 : Dx method_3_code 41 (.bipush 26) 2 43 := ⟨by decide +kernel, rfl⟩
theorem d31_43 : Dx method_3_code 43 (.isub) 1 44 := ⟨by decide +kernel, rfl⟩
theorem d31_44 : Dx method_3_code 44 (.iadd) 1 45 := ⟨by decide +kernel, rfl⟩
theorem d31_45 : Dx method_3_code 45 (.i2c) 1 46 := ⟨by decide +kernel, rfl⟩
theorem d31_46 : Dx method_3_code 46 (.ireturn) 1 47 := ⟨by decide +kernel, rfl⟩
theorem d31_47 : Dx method_3_code 47 (.iload_n 1) 1 48 := ⟨by decide +kernel, rfl⟩
theorem d31_48 : Dx method_3_code 48 (.bipush 62) 2 50 := ⟨by decide +kernel, rfl⟩
theorem d31_50 : Dx method_3_code 50 (.if_icmp .ge 12) 3 53 := ⟨by decide +kernel, rfl⟩
theorem d31_53 : Dx method_3_code 53 (.bipush 48) 2 55 := ⟨by decide +kernel, rfl⟩
theorem d31_55 : Dx method_3_code 55 (.iload_n 1) 1 56 := ⟨by decide +kernel, rfl⟩
theorem d31_56 : Dx method_3_code 56 (.bipush 52) 2 58 := ⟨by decide +kernel, rfl⟩
theorem d31_58 : Dx method_3_code 58 (.isub) 1 59 := ⟨by decide +kernel, rfl⟩
theorem d31_59 : Dx method_3_code 59 (.iadd) 1 60 := ⟨by decide +kernel, rfl⟩
theorem d31_60 : Dx method_3_code 60 (.i2c) 1 61 := ⟨by decide +kernel, rfl⟩
theorem d31_61 : Dx method_3_code 61 (.ireturn) 1 62 := ⟨by decide +kernel, rfl⟩
theorem d31_62 : Dx method_3_code 62 (.iload_n 1) 1 63 := ⟨by decide +kernel, rfl⟩
theorem d31_63 : Dx method_3_code 63 (.bipush 62) 2 65 := ⟨by decide +kernel, rfl⟩
theorem d31_65 : Dx method_3_code 65 (.if_icmp .ne 6) 3 68 := ⟨by decide +kernel, rfl⟩
theorem d31_68 : Dx method_3_code 68 (.bipush 95) 2 70 := ⟨by decide +kernel, rfl⟩
theorem d31_70 : Dx method_3_code 70 (.ireturn) 1 71 := ⟨by decide +kernel, rfl⟩
theorem d31_71 : Dx method_3_code 71 (.bipush 46) 2 73 := ⟨by decide +kernel, rfl⟩
theorem d31_73 : Dx method_3_code 73 (.ireturn) 1 74 := ⟨by decide +kernel, rfl⟩
set_option maxRecDepth 65536 in
set_option maxHeartbeats 40000000 in
theorem c_pick {l : Launch} {Z : State} {a0 : Array Value} {EL : List (String × Nat)} {b : Bool} {n0 : Nat} (hw : ∀ d ∈ tables_1, d.before a0 Z = true) (x : Int32) :
    Met l Z a0 EL b n0 (⟨"com/example/iffley/iffley/model/TermParsePinLaw", "pick", "(I)C"⟩ : MethodName) method_3_code 2 (some .char) [] (rm4 0 0 0 0) [.int x] [] [] (fun v D' S' => ∃ r, (0 ≤ r.toInt ∧ r.toInt ≤ 255) ∧ v = some (.int r) ∧ D' = [] ∧ S' = []) := by
  refine Met.of_go (own := "com/example/iffley/iffley/model/TermParsePinLaw") (nm := "pick") (Ls := #[.val (.int x), .unset]) (plainFor_of_name png_6) (fun m => by first | rfl | (simp [entryFrame, mkF, argsToLocals, Value.category]; done)) ?_
  refine Go.iloadN d31_0 rfl (G := ?_)
  refine Go.sipush d31_1 (v := 256) rfl (G := ?_)
  refine Go.iand d31_4 (z := (x &&& 256)) rfl (G := ?_)
  refine Go.ifc d31_5 (pc2 := 15) (Gy := fun h1 => ?_) (Gn := fun h1 => ?_)
  · have h1 : (x &&& 256) = 0 := h1
    refine Go.iloadN d31_15 rfl (G := ?_)
    refine Go.bipush d31_16 (v := 63) rfl (G := ?_)
    refine Go.iand d31_18 (z := (x &&& 63)) rfl (G := ?_)
    refine Go.istoreN d31_19 (Ls' := #[.val (.int x), .val (.int (x &&& 63))]) rfl (G := ?_)
    refine Go.iloadN d31_20 rfl (G := ?_)
    refine Go.bipush d31_21 (v := 26) rfl (G := ?_)
    refine Go.icmp d31_23 (pc2 := 32) (Gy := fun h2 => ?_) (Gn := fun h2 => ?_)
    · have h2 : ¬ (x &&& 63) < 26 := h2
      refine Go.iloadN d31_32 rfl (G := ?_)
      refine Go.bipush d31_33 (v := 52) rfl (G := ?_)
      refine Go.icmp d31_35 (pc2 := 47) (Gy := fun h3 => ?_) (Gn := fun h3 => ?_)
      · have h3 : ¬ (x &&& 63) < 52 := h3
        refine Go.iloadN d31_47 rfl (G := ?_)
        refine Go.bipush d31_48 (v := 62) rfl (G := ?_)
        refine Go.icmp d31_50 (pc2 := 62) (Gy := fun h4 => ?_) (Gn := fun h4 => ?_)
        · have h4 : ¬ (x &&& 63) < 62 := h4
          refine Go.iloadN d31_62 rfl (G := ?_)
          refine Go.bipush d31_63 (v := 62) rfl (G := ?_)
          refine Go.icmp d31_65 (pc2 := 71) (Gy := fun h5 => ?_) (Gn := fun h5 => ?_)
          · have h5 : ¬ (x &&& 63) = 62 := h5
            refine Go.bipush d31_71 (v := 46) rfl (G := ?_)
            exact Go.retB d31_73 (by simp) (z' := 46) rfl ⟨_, by decide, rfl, rfl, rfl⟩
          · have h5 : (x &&& 63) = 62 := Classical.not_not.mp h5
            refine Go.bipush d31_68 (v := 95) rfl (G := ?_)
            exact Go.retB d31_70 (by simp) (z' := 95) rfl ⟨_, by decide, rfl, rfl, rfl⟩
        · have h4 : (x &&& 63) < 62 := Classical.not_not.mp h4
          refine Go.bipush d31_53 (v := 48) rfl (G := ?_)
          refine Go.iloadN d31_55 rfl (G := ?_)
          refine Go.bipush d31_56 (v := 52) rfl (G := ?_)
          refine Go.isub d31_58 (z := ((x &&& 63) - 52)) rfl (G := ?_)
          refine Go.iadd d31_59 (z := (48 + ((x &&& 63) - 52))) rfl (G := ?_)
          refine Go.i2c d31_60 (z := ((48 + ((x &&& 63) - 52)).toUInt32.toUInt16.toUInt32.toInt32)) rfl (G := ?_)
          exact Go.retB d31_61 (by simp) (z' := ((48 + ((x &&& 63) - 52)).toUInt32.toUInt16.toUInt32.toInt32)) (nar_c _) ⟨_, (by have q := c_i2c (48 + ((x &&& 63) - 52)); have m := c_mask x 63 6 (by omega) (by decide); have m2 := c_mask x 255 8 (by omega) (by decide); have k1 := c_iadd 48 ((x &&& 63) - 52); have k2 := c_isub (x &&& 63) 52; simp only [Int32.lt_iff_toInt_lt, Int32.reduceToInt, Nat.reducePow] at q m m2 k1 k2 h2 h3 h4 ⊢; omega), rfl, rfl, rfl⟩
      · have h3 : (x &&& 63) < 52 := Classical.not_not.mp h3
        refine Go.bipush d31_38 (v := 97) rfl (G := ?_)
        refine Go.iloadN d31_40 rfl (G := ?_)
        refine Go.bipush d31_41 (v := 26) rfl (G := ?_)
        refine Go.isub d31_43 (z := ((x &&& 63) - 26)) rfl (G := ?_)
        refine Go.iadd d31_44 (z := (97 + ((x &&& 63) - 26))) rfl (G := ?_)
        refine Go.i2c d31_45 (z := ((97 + ((x &&& 63) - 26)).toUInt32.toUInt16.toUInt32.toInt32)) rfl (G := ?_)
        exact Go.retB d31_46 (by simp) (z' := ((97 + ((x &&& 63) - 26)).toUInt32.toUInt16.toUInt32.toInt32)) (nar_c _) ⟨_, (by have q := c_i2c (97 + ((x &&& 63) - 26)); have m := c_mask x 63 6 (by omega) (by decide); have m2 := c_mask x 255 8 (by omega) (by decide); have k1 := c_iadd 97 ((x &&& 63) - 26); have k2 := c_isub (x &&& 63) 26; simp only [Int32.lt_iff_toInt_lt, Int32.reduceToInt, Nat.reducePow] at q m m2 k1 k2 h2 h3 ⊢; omega), rfl, rfl, rfl⟩
    · have h2 : (x &&& 63) < 26 := Classical.not_not.mp h2
      refine Go.bipush d31_26 (v := 65) rfl (G := ?_)
      refine Go.iloadN d31_28 rfl (G := ?_)
      refine Go.iadd d31_29 (z := (65 + (x &&& 63))) rfl (G := ?_)
      refine Go.i2c d31_30 (z := ((65 + (x &&& 63)).toUInt32.toUInt16.toUInt32.toInt32)) rfl (G := ?_)
      exact Go.retB d31_31 (by simp) (z' := ((65 + (x &&& 63)).toUInt32.toUInt16.toUInt32.toInt32)) (nar_c _) ⟨_, (by have q := c_i2c (65 + (x &&& 63)); have m := c_mask x 63 6 (by omega) (by decide); have m2 := c_mask x 255 8 (by omega) (by decide); have k1 := c_iadd 65 (x &&& 63); simp only [Int32.lt_iff_toInt_lt, Int32.reduceToInt, Nat.reducePow] at q m m2 k1 h2 ⊢; omega), rfl, rfl, rfl⟩
  · have h1 : ¬ (x &&& 256) = 0 := h1
    refine Go.iloadN d31_8 rfl (G := ?_)
    refine Go.sipush d31_9 (v := 255) rfl (G := ?_)
    refine Go.iand d31_12 (z := (x &&& 255)) rfl (G := ?_)
    refine Go.i2c d31_13 (z := ((x &&& 255).toUInt32.toUInt16.toUInt32.toInt32)) rfl (G := ?_)
    exact Go.retB d31_14 (by simp) (z' := ((x &&& 255).toUInt32.toUInt16.toUInt32.toInt32)) (nar_c _) ⟨_, (by have q := c_i2c (x &&& 255); have m := c_mask x 63 6 (by omega) (by decide); have m2 := c_mask x 255 8 (by omega) (by decide); simp only [Int32.lt_iff_toInt_lt, Int32.reduceToInt, Nat.reducePow] at q m m2 ⊢; omega), rfl, rfl, rfl⟩
theorem d32_0 : Dx method_4_code 0 (.iload_n 0) 1 1 := ⟨by decide +kernel, rfl⟩
theorem d32_1 : Dx method_4_code 1 (.bipush 65) 2 3 := ⟨by decide +kernel, rfl⟩
theorem d32_3 : Dx method_4_code 3 (.if_icmp .lt 9) 3 6 := ⟨by decide +kernel, rfl⟩
theorem d32_6 : Dx method_4_code 6 (.iload_n 0) 1 7 := ⟨by decide +kernel, rfl⟩
theorem d32_7 : Dx method_4_code 7 (.bipush 90) 2 9 := ⟨by decide +kernel, rfl⟩
theorem d32_9 : Dx method_4_code 9 (.if_icmp .le 15) 3 12 := ⟨by decide +kernel, rfl⟩
theorem d32_12 : Dx method_4_code 12 (.iload_n 0) 1 13 := ⟨by decide +kernel, rfl⟩
theorem d32_13 : Dx method_4_code 13 (.bipush 97) 2 15 := ⟨by decide +kernel, rfl⟩
theorem d32_15 : Dx method_4_code 15 (.if_icmp .lt 13) 3 18 := ⟨by decide +kernel, rfl⟩
theorem d32_18 : Dx method_4_code 18 (.iload_n 0) 1 19 := ⟨by decide +kernel, rfl⟩
theorem d32_19 : Dx method_4_code 19 (.bipush 122) 2 21 := ⟨by decide +kernel, rfl⟩
theorem d32_21 : Dx method_4_code 21 (.if_icmp .gt 7) 3 24 := ⟨by decide +kernel, rfl⟩
theorem d32_24 : Dx method_4_code 24 (.iconst 1) 1 25 := ⟨by decide +kernel, rfl⟩
theorem d32_25 : Dx method_4_code 25 (.goto 4) 3 28 := ⟨by decide +kernel, rfl⟩
theorem d32_28 : Dx method_4_code 28 (.iconst 0) 1 29 := ⟨by decide +kernel, rfl⟩
theorem d32_29 : Dx method_4_code 29 (.ireturn) 1 30 := ⟨by decide +kernel, rfl⟩
set_option maxRecDepth 65536 in
set_option maxHeartbeats 40000000 in
theorem c_let2 {l : Launch} {Z : State} {a0 : Array Value} {EL : List (String × Nat)} {b : Bool} {n0 : Nat} (hw : ∀ d ∈ tables_1, d.before a0 Z = true) (c : Int32) :
    Met l Z a0 EL b n0 (⟨"com/example/iffley/iffley/model/TermParsePinLaw", "letter", "(C)Z"⟩ : MethodName) method_4_code 1 (some .boolean) [] (rm4 0 0 0 0) [.int c] [] [] (fun v D' S' => ∃ r, ((r = 1 ∧ letP c) ∨ (r = 0 ∧ ¬ letP c)) ∧ v = some (.int r) ∧ D' = [] ∧ S' = []) := by
  refine Met.of_go (own := "com/example/iffley/iffley/model/TermParsePinLaw") (nm := "letter") (Ls := #[.val (.int c)]) (plainFor_of_name png_6) (fun m => by first | rfl | (simp [entryFrame, mkF, argsToLocals, Value.category]; done)) ?_
  refine Go.iloadN d32_0 rfl (G := ?_)
  refine Go.bipush d32_1 (v := 65) rfl (G := ?_)
  refine Go.icmp d32_3 (pc2 := 12) (Gy := fun h1 => ?_) (Gn := fun h1 => ?_)
  · have h1 : c < 65 := h1
    refine Go.iloadN d32_12 rfl (G := ?_)
    refine Go.bipush d32_13 (v := 97) rfl (G := ?_)
    refine Go.icmp d32_15 (pc2 := 28) (Gy := fun h2 => ?_) (Gn := fun h2 => ?_)
    · have h2 : c < 97 := h2
      refine Go.iconst d32_28 (v := 0) rfl (G := ?_)
      exact Go.retB d32_29 (by simp) (z' := 0) rfl ⟨_, Or.inr ⟨rfl, by simp only [letP, Int32.lt_iff_toInt_lt, ← Int32.toInt_inj, Int32.reduceToInt] at h1 h2 ⊢; omega⟩, rfl, rfl, rfl⟩
    · have h2 : ¬ c < 97 := h2
      refine Go.iloadN d32_18 rfl (G := ?_)
      refine Go.bipush d32_19 (v := 122) rfl (G := ?_)
      refine Go.icmp d32_21 (pc2 := 28) (Gy := fun h3 => ?_) (Gn := fun h3 => ?_)
      · have h3 : 122 < c := h3
        refine Go.iconst d32_28 (v := 0) rfl (G := ?_)
        exact Go.retB d32_29 (by simp) (z' := 0) rfl ⟨_, Or.inr ⟨rfl, by simp only [letP, Int32.lt_iff_toInt_lt, ← Int32.toInt_inj, Int32.reduceToInt] at h1 h2 h3 ⊢; omega⟩, rfl, rfl, rfl⟩
      · have h3 : ¬ 122 < c := h3
        refine Go.iconst d32_24 (v := 1) rfl (G := ?_)
        refine Go.goto d32_25 (pc2 := 29) (G := ?_)
        exact Go.retB d32_29 (by simp) (z' := 1) rfl ⟨_, Or.inl ⟨rfl, by simp only [letP, Int32.lt_iff_toInt_lt, ← Int32.toInt_inj, Int32.reduceToInt] at h1 h2 h3 ⊢; omega⟩, rfl, rfl, rfl⟩
  · have h1 : ¬ c < 65 := h1
    refine Go.iloadN d32_6 rfl (G := ?_)
    refine Go.bipush d32_7 (v := 90) rfl (G := ?_)
    refine Go.icmp d32_9 (pc2 := 24) (Gy := fun h4 => ?_) (Gn := fun h4 => ?_)
    · have h4 : ¬ 90 < c := h4
      refine Go.iconst d32_24 (v := 1) rfl (G := ?_)
      refine Go.goto d32_25 (pc2 := 29) (G := ?_)
      exact Go.retB d32_29 (by simp) (z' := 1) rfl ⟨_, Or.inl ⟨rfl, by simp only [letP, Int32.lt_iff_toInt_lt, ← Int32.toInt_inj, Int32.reduceToInt] at h1 h4 ⊢; omega⟩, rfl, rfl, rfl⟩
    · have h4 : 90 < c := Classical.not_not.mp h4
      refine Go.iloadN d32_12 rfl (G := ?_)
      refine Go.bipush d32_13 (v := 97) rfl (G := ?_)
      refine Go.icmp d32_15 (pc2 := 28) (Gy := fun h5 => ?_) (Gn := fun h5 => ?_)
      · have h5 : c < 97 := h5
        refine Go.iconst d32_28 (v := 0) rfl (G := ?_)
        exact Go.retB d32_29 (by simp) (z' := 0) rfl ⟨_, Or.inr ⟨rfl, by simp only [letP, Int32.lt_iff_toInt_lt, ← Int32.toInt_inj, Int32.reduceToInt] at h1 h4 h5 ⊢; omega⟩, rfl, rfl, rfl⟩
      · have h5 : ¬ c < 97 := h5
        refine Go.iloadN d32_18 rfl (G := ?_)
        refine Go.bipush d32_19 (v := 122) rfl (G := ?_)
        refine Go.icmp d32_21 (pc2 := 28) (Gy := fun h6 => ?_) (Gn := fun h6 => ?_)
        · have h6 : 122 < c := h6
          refine Go.iconst d32_28 (v := 0) rfl (G := ?_)
          exact Go.retB d32_29 (by simp) (z' := 0) rfl ⟨_, Or.inr ⟨rfl, by simp only [letP, Int32.lt_iff_toInt_lt, ← Int32.toInt_inj, Int32.reduceToInt] at h1 h4 h5 h6 ⊢; omega⟩, rfl, rfl, rfl⟩
        · have h6 : ¬ 122 < c := h6
          refine Go.iconst d32_24 (v := 1) rfl (G := ?_)
          refine Go.goto d32_25 (pc2 := 29) (G := ?_)
          exact Go.retB d32_29 (by simp) (z' := 1) rfl ⟨_, Or.inl ⟨rfl, by simp only [letP, Int32.lt_iff_toInt_lt, ← Int32.toInt_inj, Int32.reduceToInt] at h1 h4 h5 h6 ⊢; omega⟩, rfl, rfl, rfl⟩
theorem d33_0 : Dx method_5_code 0 (.iload_n 0) 1 1 := ⟨by decide +kernel, rfl⟩
theorem d33_1 : Dx method_5_code 1 (.invokestatic 18) 3 4 := ⟨by decide +kernel, rfl⟩
theorem d33_4 : Dx method_5_code 4 (.ifCond .ne 21) 3 7 := ⟨by decide +kernel, rfl⟩
theorem d33_7 : Dx method_5_code 7 (.iload_n 0) 1 8 := ⟨by decide +kernel, rfl⟩
theorem d33_8 : Dx method_5_code 8 (.bipush 48) 2 10 := ⟨by decide +kernel, rfl⟩
theorem d33_10 : Dx method_5_code 10 (.if_icmp .lt 9) 3 13 := ⟨by decide +kernel, rfl⟩
theorem d33_13 : Dx method_5_code 13 (.iload_n 0) 1 14 := ⟨by decide +kernel, rfl⟩
theorem d33_14 : Dx method_5_code 14 (.bipush 57) 2 16 := ⟨by decide +kernel, rfl⟩
theorem d33_16 : Dx method_5_code 16 (.if_icmp .le 9) 3 19 := ⟨by decide +kernel, rfl⟩
theorem d33_19 : Dx method_5_code 19 (.iload_n 0) 1 20 := ⟨by decide +kernel, rfl⟩
theorem d33_20 : Dx method_5_code 20 (.bipush 95) 2 22 := ⟨by decide +kernel, rfl⟩
theorem d33_22 : Dx method_5_code 22 (.if_icmp .ne 7) 3 25 := ⟨by decide +kernel, rfl⟩
theorem d33_25 : Dx method_5_code 25 (.iconst 1) 1 26 := ⟨by decide +kernel, rfl⟩
theorem d33_26 : Dx method_5_code 26 (.goto 4) 3 29 := ⟨by decide +kernel, rfl⟩
theorem d33_29 : Dx method_5_code 29 (.iconst 0) 1 30 := ⟨by decide +kernel, rfl⟩
theorem d33_30 : Dx method_5_code 30 (.ireturn) 1 31 := ⟨by decide +kernel, rfl⟩
set_option maxRecDepth 65536 in
set_option maxHeartbeats 40000000 in
theorem c_idc {l : Launch} {Z : State} {a0 : Array Value} {EL : List (String × Nat)} {b : Bool} {n0 : Nat} (hw : ∀ d ∈ tables_1, d.before a0 Z = true) (c : Int32) :
    Met l Z a0 EL b n0 (⟨"com/example/iffley/iffley/model/TermParsePinLaw", "idc", "(C)Z"⟩ : MethodName) method_5_code 1 (some .boolean) [] (rm4 1 0 0 12) [.int c] [] [] (fun v D' S' => ∃ r, ((r = 1 ∧ idcP c) ∨ (r = 0 ∧ ¬ idcP c)) ∧ v = some (.int r) ∧ D' = [] ∧ S' = []) := by
  refine Met.of_go (own := "com/example/iffley/iffley/model/TermParsePinLaw") (nm := "idc") (Ls := #[.val (.int c)]) (plainFor_of_name png_6) (fun m => by first | rfl | (simp [entryFrame, mkF, argsToLocals, Value.category]; done)) ?_
  refine Go.iloadN d33_0 rfl (G := ?_)
  refine Go.invokestatic false d33_1 (hw _ (List.mem_of_getElem? (i := 34) rfl)) (hw _ (List.mem_of_getElem? (i := 35) rfl)) (hw _ (List.mem_of_getElem? (i := 3) rfl)) (hw _ (List.mem_of_getElem? (i := 36) rfl)) (c_let2 hw c) pdg_14 rfl (argsL := [.int c]) (rest := []) rfl rfl (Dr := []) rfl eN (G := ?_)
  rintro _ _ _ ⟨r, hr, rfl, rfl, rfl⟩
  refine Go.norm (D2 := []) (S2 := []) (c2 := 0) (s2 := 0) (st2 := [.int r]) ?_
  refine Go.ifc d33_4 (pc2 := 25) (Gy := fun h1 => ?_) (Gn := fun h1 => ?_)
  · have h1 : ¬ r = 0 := h1
    refine Go.iconst d33_25 (v := 1) rfl (G := ?_)
    refine Go.goto d33_26 (pc2 := 30) (G := ?_)
    exact Go.retB d33_30 (by simp) (z' := 1) rfl ⟨_, Or.inl ⟨rfl, by simp only [idcP, letP, Int32.lt_iff_toInt_lt, ← Int32.toInt_inj, Int32.reduceToInt] at h1 hr ⊢; omega⟩, rfl, rfl, rfl⟩
  · have h1 : r = 0 := Classical.not_not.mp h1
    refine Go.iloadN d33_7 rfl (G := ?_)
    refine Go.bipush d33_8 (v := 48) rfl (G := ?_)
    refine Go.icmp d33_10 (pc2 := 19) (Gy := fun h2 => ?_) (Gn := fun h2 => ?_)
    · have h2 : c < 48 := h2
      refine Go.iloadN d33_19 rfl (G := ?_)
      refine Go.bipush d33_20 (v := 95) rfl (G := ?_)
      refine Go.icmp d33_22 (pc2 := 29) (Gy := fun h3 => ?_) (Gn := fun h3 => ?_)
      · have h3 : ¬ c = 95 := h3
        refine Go.iconst d33_29 (v := 0) rfl (G := ?_)
        exact Go.retB d33_30 (by simp) (z' := 0) rfl ⟨_, Or.inr ⟨rfl, by simp only [idcP, letP, Int32.lt_iff_toInt_lt, ← Int32.toInt_inj, Int32.reduceToInt] at h1 h2 h3 hr ⊢; omega⟩, rfl, rfl, rfl⟩
      · have h3 : c = 95 := Classical.not_not.mp h3
        refine Go.iconst d33_25 (v := 1) rfl (G := ?_)
        refine Go.goto d33_26 (pc2 := 30) (G := ?_)
        exact Go.retB d33_30 (by simp) (z' := 1) rfl ⟨_, Or.inl ⟨rfl, by simp only [idcP, letP, Int32.lt_iff_toInt_lt, ← Int32.toInt_inj, Int32.reduceToInt] at h1 h2 h3 hr ⊢; omega⟩, rfl, rfl, rfl⟩
    · have h2 : ¬ c < 48 := h2
      refine Go.iloadN d33_13 rfl (G := ?_)
      refine Go.bipush d33_14 (v := 57) rfl (G := ?_)
      refine Go.icmp d33_16 (pc2 := 25) (Gy := fun h4 => ?_) (Gn := fun h4 => ?_)
      · have h4 : ¬ 57 < c := h4
        refine Go.iconst d33_25 (v := 1) rfl (G := ?_)
        refine Go.goto d33_26 (pc2 := 30) (G := ?_)
        exact Go.retB d33_30 (by simp) (z' := 1) rfl ⟨_, Or.inl ⟨rfl, by simp only [idcP, letP, Int32.lt_iff_toInt_lt, ← Int32.toInt_inj, Int32.reduceToInt] at h1 h2 h4 hr ⊢; omega⟩, rfl, rfl, rfl⟩
      · have h4 : 57 < c := Classical.not_not.mp h4
        refine Go.iloadN d33_19 rfl (G := ?_)
        refine Go.bipush d33_20 (v := 95) rfl (G := ?_)
        refine Go.icmp d33_22 (pc2 := 29) (Gy := fun h5 => ?_) (Gn := fun h5 => ?_)
        · have h5 : ¬ c = 95 := h5
          refine Go.iconst d33_29 (v := 0) rfl (G := ?_)
          exact Go.retB d33_30 (by simp) (z' := 0) rfl ⟨_, Or.inr ⟨rfl, by simp only [idcP, letP, Int32.lt_iff_toInt_lt, ← Int32.toInt_inj, Int32.reduceToInt] at h1 h2 h4 h5 hr ⊢; omega⟩, rfl, rfl, rfl⟩
        · have h5 : c = 95 := Classical.not_not.mp h5
          refine Go.iconst d33_25 (v := 1) rfl (G := ?_)
          refine Go.goto d33_26 (pc2 := 30) (G := ?_)
          exact Go.retB d33_30 (by simp) (z' := 1) rfl ⟨_, Or.inl ⟨rfl, by simp only [idcP, letP, Int32.lt_iff_toInt_lt, ← Int32.toInt_inj, Int32.reduceToInt] at h1 h2 h4 h5 hr ⊢; omega⟩, rfl, rfl, rfl⟩
theorem d34_0 : Dx method_6_code 0 (.iload_n 0) 1 1 := ⟨by decide +kernel, rfl⟩
theorem d34_1 : Dx method_6_code 1 (.bipush 32) 2 3 := ⟨by decide +kernel, rfl⟩
theorem d34_3 : Dx method_6_code 3 (.if_icmp .gt 5) 3 6 := ⟨by decide +kernel, rfl⟩
theorem d34_6 : Dx method_6_code 6 (.iconst 0) 1 7 := ⟨by decide +kernel, rfl⟩
theorem d34_7 : Dx method_6_code 7 (.ireturn) 1 8 := ⟨by decide +kernel, rfl⟩
theorem d34_8 : Dx method_6_code 8 (.iload_n 0) 1 9 := ⟨by decide +kernel, rfl⟩
theorem d34_9 : Dx method_6_code 9 (.bipush 127) 2 11 := ⟨by decide +kernel, rfl⟩
theorem d34_11 : Dx method_6_code 11 (.if_icmp .lt 12) 3 14 := ⟨by decide +kernel, rfl⟩
theorem d34_14 : Dx method_6_code 14 (.iload_n 0) 1 15 := ⟨by decide +kernel, rfl⟩
theorem d34_15 : Dx method_6_code 15 (.sipush 160) 3 18 := ⟨by decide +kernel, rfl⟩
theorem d34_18 : Dx method_6_code 18 (.if_icmp .gt 5) 3 21 := ⟨by decide +kernel, rfl⟩
theorem d34_21 : Dx method_6_code 21 (.iconst 0) 1 22 := ⟨by decide +kernel, rfl⟩
theorem d34_22 : Dx method_6_code 22 (.ireturn) 1 23 := ⟨by decide +kernel, rfl⟩
theorem d34_23 : Dx method_6_code 23 (.iload_n 0) 1 24 := ⟨by decide +kernel, rfl⟩
theorem d34_24 : Dx method_6_code 24 (.bipush 60) 2 26 := ⟨by decide +kernel, rfl⟩
theorem d34_26 : Dx method_6_code 26 (.if_icmp .eq 55) 3 29 := ⟨by decide +kernel, rfl⟩
theorem d34_29 : Dx method_6_code 29 (.iload_n 0) 1 30 := ⟨by decide +kernel, rfl⟩
theorem d34_30 : Dx method_6_code 30 (.bipush 62) 2 32 := ⟨by decide +kernel, rfl⟩
theorem d34_32 : Dx method_6_code 32 (.if_icmp .eq 49) 3 35 := ⟨by decide +kernel, rfl⟩
theorem d34_35 : Dx method_6_code 35 (.iload_n 0) 1 36 := ⟨by decide +kernel, rfl⟩
theorem d34_36 : Dx method_6_code 36 (.bipush 34) 2 38 := ⟨by decide +kernel, rfl⟩
theorem d34_38 : Dx method_6_code 38 (.if_icmp .eq 43) 3 41 := ⟨by decide +kernel, rfl⟩
theorem d34_41 : Dx method_6_code 41 (.iload_n 0) 1 42 := ⟨by decide +kernel, rfl⟩
theorem d34_42 : Dx method_6_code 42 (.bipush 123) 2 44 := ⟨by decide +kernel, rfl⟩
theorem d34_44 : Dx method_6_code 44 (.if_icmp .eq 37) 3 47 := ⟨by decide +kernel, rfl⟩
theorem d34_47 : Dx method_6_code 47 (.iload_n 0) 1 48 := ⟨by decide +kernel, rfl⟩
theorem d34_48 : Dx method_6_code 48 (.bipush 125) 2 50 := ⟨by decide +kernel, rfl⟩
theorem d34_50 : Dx method_6_code 50 (.if_icmp .eq 31) 3 53 := ⟨by decide +kernel, rfl⟩
theorem d34_53 : Dx method_6_code 53 (.iload_n 0) 1 54 := ⟨by decide +kernel, rfl⟩
theorem d34_54 : Dx method_6_code 54 (.bipush 124) 2 56 := ⟨by decide +kernel, rfl⟩
theorem d34_56 : Dx method_6_code 56 (.if_icmp .eq 25) 3 59 := ⟨by decide +kernel, rfl⟩
theorem d34_59 : Dx method_6_code 59 (.iload_n 0) 1 60 := ⟨by decide +kernel, rfl⟩
theorem d34_60 : Dx method_6_code 60 (.bipush 94) 2 62 := ⟨by decide +kernel, rfl⟩
theorem d34_62 : Dx method_6_code 62 (.if_icmp .eq 19) 3 65 := ⟨by decide +kernel, rfl⟩
theorem d34_65 : Dx method_6_code 65 (.iload_n 0) 1 66 := ⟨by decide +kernel, rfl⟩
theorem d34_66 : Dx method_6_code 66 (.bipush 96) 2 68 := ⟨by decide +kernel, rfl⟩
theorem d34_68 : Dx method_6_code 68 (.if_icmp .eq 13) 3 71 := ⟨by decide +kernel, rfl⟩
theorem d34_71 : Dx method_6_code 71 (.iload_n 0) 1 72 := ⟨by decide +kernel, rfl⟩
theorem d34_72 : Dx method_6_code 72 (.bipush 92) 2 74 := ⟨by decide +kernel, rfl⟩
theorem d34_74 : Dx method_6_code 74 (.if_icmp .eq 7) 3 77 := ⟨by decide +kernel, rfl⟩
theorem d34_77 : Dx method_6_code 77 (.iconst 1) 1 78 := ⟨by decide +kernel, rfl⟩
theorem d34_78 : Dx method_6_code 78 (.goto 4) 3 81 := ⟨by decide +kernel, rfl⟩
theorem d34_81 : Dx method_6_code 81 (.iconst 0) 1 82 := ⟨by decide +kernel, rfl⟩
theorem d34_82 : Dx method_6_code 82 (.ireturn) 1 83 := ⟨by decide +kernel, rfl⟩
set_option maxRecDepth 65536 in
set_option maxHeartbeats 40000000 in
theorem c_iric {l : Launch} {Z : State} {a0 : Array Value} {EL : List (String × Nat)} {b : Bool} {n0 : Nat} (hw : ∀ d ∈ tables_1, d.before a0 Z = true) (c : Int32) :
    Met l Z a0 EL b n0 (⟨"com/example/iffley/iffley/model/TermParsePinLaw", "iric", "(C)Z"⟩ : MethodName) method_6_code 1 (some .boolean) [] (rm4 0 0 0 0) [.int c] [] [] (fun v D' S' => ∃ r, (r = 0 ∨ ¬ badP c) ∧ v = some (.int r) ∧ D' = [] ∧ S' = []) := by
  refine Met.of_go (own := "com/example/iffley/iffley/model/TermParsePinLaw") (nm := "iric") (Ls := #[.val (.int c)]) (plainFor_of_name png_6) (fun m => by first | rfl | (simp [entryFrame, mkF, argsToLocals, Value.category]; done)) ?_
  refine Go.iloadN d34_0 rfl (G := ?_)
  refine Go.bipush d34_1 (v := 32) rfl (G := ?_)
  refine Go.icmp d34_3 (pc2 := 8) (Gy := fun h1 => ?_) (Gn := fun h1 => ?_)
  · have h1 : 32 < c := h1
    refine Go.iloadN d34_8 rfl (G := ?_)
    refine Go.bipush d34_9 (v := 127) rfl (G := ?_)
    refine Go.icmp d34_11 (pc2 := 23) (Gy := fun h2 => ?_) (Gn := fun h2 => ?_)
    · have h2 : c < 127 := h2
      refine Go.iloadN d34_23 rfl (G := ?_)
      refine Go.bipush d34_24 (v := 60) rfl (G := ?_)
      refine Go.icmp d34_26 (pc2 := 81) (Gy := fun h3 => ?_) (Gn := fun h3 => ?_)
      · have h3 : c = 60 := h3
        refine Go.iconst d34_81 (v := 0) rfl (G := ?_)
        exact Go.retB d34_82 (by simp) (z' := 0) rfl ⟨_, Or.inl rfl, rfl, rfl, rfl⟩
      · have h3 : ¬ c = 60 := h3
        refine Go.iloadN d34_29 rfl (G := ?_)
        refine Go.bipush d34_30 (v := 62) rfl (G := ?_)
        refine Go.icmp d34_32 (pc2 := 81) (Gy := fun h4 => ?_) (Gn := fun h4 => ?_)
        · have h4 : c = 62 := h4
          refine Go.iconst d34_81 (v := 0) rfl (G := ?_)
          exact Go.retB d34_82 (by simp) (z' := 0) rfl ⟨_, Or.inl rfl, rfl, rfl, rfl⟩
        · have h4 : ¬ c = 62 := h4
          refine Go.iloadN d34_35 rfl (G := ?_)
          refine Go.bipush d34_36 (v := 34) rfl (G := ?_)
          refine Go.icmp d34_38 (pc2 := 81) (Gy := fun h5 => ?_) (Gn := fun h5 => ?_)
          · have h5 : c = 34 := h5
            refine Go.iconst d34_81 (v := 0) rfl (G := ?_)
            exact Go.retB d34_82 (by simp) (z' := 0) rfl ⟨_, Or.inl rfl, rfl, rfl, rfl⟩
          · have h5 : ¬ c = 34 := h5
            refine Go.iloadN d34_41 rfl (G := ?_)
            refine Go.bipush d34_42 (v := 123) rfl (G := ?_)
            refine Go.icmp d34_44 (pc2 := 81) (Gy := fun h6 => ?_) (Gn := fun h6 => ?_)
            · have h6 : c = 123 := h6
              refine Go.iconst d34_81 (v := 0) rfl (G := ?_)
              exact Go.retB d34_82 (by simp) (z' := 0) rfl ⟨_, Or.inl rfl, rfl, rfl, rfl⟩
            · have h6 : ¬ c = 123 := h6
              refine Go.iloadN d34_47 rfl (G := ?_)
              refine Go.bipush d34_48 (v := 125) rfl (G := ?_)
              refine Go.icmp d34_50 (pc2 := 81) (Gy := fun h7 => ?_) (Gn := fun h7 => ?_)
              · have h7 : c = 125 := h7
                refine Go.iconst d34_81 (v := 0) rfl (G := ?_)
                exact Go.retB d34_82 (by simp) (z' := 0) rfl ⟨_, Or.inl rfl, rfl, rfl, rfl⟩
              · have h7 : ¬ c = 125 := h7
                refine Go.iloadN d34_53 rfl (G := ?_)
                refine Go.bipush d34_54 (v := 124) rfl (G := ?_)
                refine Go.icmp d34_56 (pc2 := 81) (Gy := fun h8 => ?_) (Gn := fun h8 => ?_)
                · have h8 : c = 124 := h8
                  refine Go.iconst d34_81 (v := 0) rfl (G := ?_)
                  exact Go.retB d34_82 (by simp) (z' := 0) rfl ⟨_, Or.inl rfl, rfl, rfl, rfl⟩
                · have h8 : ¬ c = 124 := h8
                  refine Go.iloadN d34_59 rfl (G := ?_)
                  refine Go.bipush d34_60 (v := 94) rfl (G := ?_)
                  refine Go.icmp d34_62 (pc2 := 81) (Gy := fun h9 => ?_) (Gn := fun h9 => ?_)
                  · have h9 : c = 94 := h9
                    refine Go.iconst d34_81 (v := 0) rfl (G := ?_)
                    exact Go.retB d34_82 (by simp) (z' := 0) rfl ⟨_, Or.inl rfl, rfl, rfl, rfl⟩
                  · have h9 : ¬ c = 94 := h9
                    refine Go.iloadN d34_65 rfl (G := ?_)
                    refine Go.bipush d34_66 (v := 96) rfl (G := ?_)
                    refine Go.icmp d34_68 (pc2 := 81) (Gy := fun h10 => ?_) (Gn := fun h10 => ?_)
                    · have h10 : c = 96 := h10
                      refine Go.iconst d34_81 (v := 0) rfl (G := ?_)
                      exact Go.retB d34_82 (by simp) (z' := 0) rfl ⟨_, Or.inl rfl, rfl, rfl, rfl⟩
                    · have h10 : ¬ c = 96 := h10
                      refine Go.iloadN d34_71 rfl (G := ?_)
                      refine Go.bipush d34_72 (v := 92) rfl (G := ?_)
                      refine Go.icmp d34_74 (pc2 := 81) (Gy := fun h11 => ?_) (Gn := fun h11 => ?_)
                      · have h11 : c = 92 := h11
                        refine Go.iconst d34_81 (v := 0) rfl (G := ?_)
                        exact Go.retB d34_82 (by simp) (z' := 0) rfl ⟨_, Or.inl rfl, rfl, rfl, rfl⟩
                      · have h11 : ¬ c = 92 := h11
                        refine Go.iconst d34_77 (v := 1) rfl (G := ?_)
                        refine Go.goto d34_78 (pc2 := 82) (G := ?_)
                        exact Go.retB d34_82 (by simp) (z' := 1) rfl ⟨_, Or.inr (by simp only [badP, isB, Int32.lt_iff_toInt_lt, ← Int32.toInt_inj, Int32.reduceToInt] at h1 h2 h3 h4 h5 h6 h7 h8 h9 h10 h11 ⊢; omega), rfl, rfl, rfl⟩
    · have h2 : ¬ c < 127 := h2
      refine Go.iloadN d34_14 rfl (G := ?_)
      refine Go.sipush d34_15 (v := 160) rfl (G := ?_)
      refine Go.icmp d34_18 (pc2 := 23) (Gy := fun h12 => ?_) (Gn := fun h12 => ?_)
      · have h12 : 160 < c := h12
        refine Go.iloadN d34_23 rfl (G := ?_)
        refine Go.bipush d34_24 (v := 60) rfl (G := ?_)
        refine Go.icmp d34_26 (pc2 := 81) (Gy := fun h13 => ?_) (Gn := fun h13 => ?_)
        · have h13 : c = 60 := h13
          refine Go.iconst d34_81 (v := 0) rfl (G := ?_)
          exact Go.retB d34_82 (by simp) (z' := 0) rfl ⟨_, Or.inl rfl, rfl, rfl, rfl⟩
        · have h13 : ¬ c = 60 := h13
          refine Go.iloadN d34_29 rfl (G := ?_)
          refine Go.bipush d34_30 (v := 62) rfl (G := ?_)
          refine Go.icmp d34_32 (pc2 := 81) (Gy := fun h14 => ?_) (Gn := fun h14 => ?_)
          · have h14 : c = 62 := h14
            refine Go.iconst d34_81 (v := 0) rfl (G := ?_)
            exact Go.retB d34_82 (by simp) (z' := 0) rfl ⟨_, Or.inl rfl, rfl, rfl, rfl⟩
          · have h14 : ¬ c = 62 := h14
            refine Go.iloadN d34_35 rfl (G := ?_)
            refine Go.bipush d34_36 (v := 34) rfl (G := ?_)
            refine Go.icmp d34_38 (pc2 := 81) (Gy := fun h15 => ?_) (Gn := fun h15 => ?_)
            · have h15 : c = 34 := h15
              refine Go.iconst d34_81 (v := 0) rfl (G := ?_)
              exact Go.retB d34_82 (by simp) (z' := 0) rfl ⟨_, Or.inl rfl, rfl, rfl, rfl⟩
            · have h15 : ¬ c = 34 := h15
              refine Go.iloadN d34_41 rfl (G := ?_)
              refine Go.bipush d34_42 (v := 123) rfl (G := ?_)
              refine Go.icmp d34_44 (pc2 := 81) (Gy := fun h16 => ?_) (Gn := fun h16 => ?_)
              · have h16 : c = 123 := h16
                refine Go.iconst d34_81 (v := 0) rfl (G := ?_)
                exact Go.retB d34_82 (by simp) (z' := 0) rfl ⟨_, Or.inl rfl, rfl, rfl, rfl⟩
              · have h16 : ¬ c = 123 := h16
                refine Go.iloadN d34_47 rfl (G := ?_)
                refine Go.bipush d34_48 (v := 125) rfl (G := ?_)
                refine Go.icmp d34_50 (pc2 := 81) (Gy := fun h17 => ?_) (Gn := fun h17 => ?_)
                · have h17 : c = 125 := h17
                  refine Go.iconst d34_81 (v := 0) rfl (G := ?_)
                  exact Go.retB d34_82 (by simp) (z' := 0) rfl ⟨_, Or.inl rfl, rfl, rfl, rfl⟩
                · have h17 : ¬ c = 125 := h17
                  refine Go.iloadN d34_53 rfl (G := ?_)
                  refine Go.bipush d34_54 (v := 124) rfl (G := ?_)
                  refine Go.icmp d34_56 (pc2 := 81) (Gy := fun h18 => ?_) (Gn := fun h18 => ?_)
                  · have h18 : c = 124 := h18
                    refine Go.iconst d34_81 (v := 0) rfl (G := ?_)
                    exact Go.retB d34_82 (by simp) (z' := 0) rfl ⟨_, Or.inl rfl, rfl, rfl, rfl⟩
                  · have h18 : ¬ c = 124 := h18
                    refine Go.iloadN d34_59 rfl (G := ?_)
                    refine Go.bipush d34_60 (v := 94) rfl (G := ?_)
                    refine Go.icmp d34_62 (pc2 := 81) (Gy := fun h19 => ?_) (Gn := fun h19 => ?_)
                    · have h19 : c = 94 := h19
                      refine Go.iconst d34_81 (v := 0) rfl (G := ?_)
                      exact Go.retB d34_82 (by simp) (z' := 0) rfl ⟨_, Or.inl rfl, rfl, rfl, rfl⟩
                    · have h19 : ¬ c = 94 := h19
                      refine Go.iloadN d34_65 rfl (G := ?_)
                      refine Go.bipush d34_66 (v := 96) rfl (G := ?_)
                      refine Go.icmp d34_68 (pc2 := 81) (Gy := fun h20 => ?_) (Gn := fun h20 => ?_)
                      · have h20 : c = 96 := h20
                        refine Go.iconst d34_81 (v := 0) rfl (G := ?_)
                        exact Go.retB d34_82 (by simp) (z' := 0) rfl ⟨_, Or.inl rfl, rfl, rfl, rfl⟩
                      · have h20 : ¬ c = 96 := h20
                        refine Go.iloadN d34_71 rfl (G := ?_)
                        refine Go.bipush d34_72 (v := 92) rfl (G := ?_)
                        refine Go.icmp d34_74 (pc2 := 81) (Gy := fun h21 => ?_) (Gn := fun h21 => ?_)
                        · have h21 : c = 92 := h21
                          refine Go.iconst d34_81 (v := 0) rfl (G := ?_)
                          exact Go.retB d34_82 (by simp) (z' := 0) rfl ⟨_, Or.inl rfl, rfl, rfl, rfl⟩
                        · have h21 : ¬ c = 92 := h21
                          refine Go.iconst d34_77 (v := 1) rfl (G := ?_)
                          refine Go.goto d34_78 (pc2 := 82) (G := ?_)
                          exact Go.retB d34_82 (by simp) (z' := 1) rfl ⟨_, Or.inr (by simp only [badP, isB, Int32.lt_iff_toInt_lt, ← Int32.toInt_inj, Int32.reduceToInt] at h1 h2 h12 h13 h14 h15 h16 h17 h18 h19 h20 h21 ⊢; omega), rfl, rfl, rfl⟩
      · have h12 : ¬ 160 < c := h12
        refine Go.iconst d34_21 (v := 0) rfl (G := ?_)
        exact Go.retB d34_22 (by simp) (z' := 0) rfl ⟨_, Or.inl rfl, rfl, rfl, rfl⟩
  · have h1 : ¬ 32 < c := h1
    refine Go.iconst d34_6 (v := 0) rfl (G := ?_)
    exact Go.retB d34_7 (by simp) (z' := 0) rfl ⟨_, Or.inl rfl, rfl, rfl, rfl⟩
theorem d35_0 : Dx prog_13_method_6_code 0 (.aload_n 0) 1 1 := ⟨by decide +kernel, rfl⟩
theorem d35_1 : Dx prog_13_method_6_code 1 (.getfield 7) 3 4 := ⟨by decide +kernel, rfl⟩
theorem d35_4 : Dx prog_13_method_6_code 4 (.areturn) 1 5 := ⟨by decide +kernel, rfl⟩
set_option maxRecDepth 65536 in
set_option maxHeartbeats 40000000 in
theorem c_tstr {l : Launch} {Z : State} {a0 : Array Value} {EL : List (String × Nat)} {b : Bool} {n0 : Nat} (hw : ∀ d ∈ tables_1, d.before a0 Z = true) (t a : Addr) :
    Met l Z a0 EL b n0 (⟨"com/example/iffley/iffley/model/Term", "toString", "()Ljava/lang/String;"⟩ : MethodName) prog_13_method_6_code 1 (some (.object "java/lang/String")) [] (rm4 0 0 0 0) [.ref t] [] [(t, .inl ("com/example/iffley/iffley/model/Term", [("com/example/iffley/iffley/model/Term", "text", "Ljava/lang/String;", .ref a)]))] (fun v D' S' => v = some (.ref a) ∧ D' = [] ∧ S' = []) := by
  refine Met.of_go (own := "com/example/iffley/iffley/model/Term") (nm := "toString") (Ls := #[.val (.ref t)]) (plainFor_of_name png_4) (fun m => by first | rfl | (simp [entryFrame, mkF, argsToLocals, Value.category]; done)) ?_
  refine Go.aloadN d35_0 rfl (G := ?_)
  refine Go.getfield d35_1 (host := "") (Or.inl (hw _ (List.mem_of_getElem? (i := 100) rfl))) Via.refl (inS (i := 0) rfl) 0 rfl (G := ?_)
  refine Go.sub [] (by decide) rfl (D' := []) rfl (S' := []) eN (G := ?_)
  exact Go.retA d35_4 ⟨rfl, rfl, rfl⟩
theorem d36_0 : Dx prog_13_method_4_code 0 (.aload_n 1) 1 1 := ⟨by decide +kernel, rfl⟩
theorem d36_1 : Dx prog_13_method_4_code 1 (.instanceof 8) 3 4 := ⟨by decide +kernel, rfl⟩
theorem d36_4 : Dx prog_13_method_4_code 4 (.ifCond .eq 24) 3 7 := ⟨by decide +kernel, rfl⟩
theorem d36_7 : Dx prog_13_method_4_code 7 (.aload_n 0) 1 8 := ⟨by decide +kernel, rfl⟩
theorem d36_8 : Dx prog_13_method_4_code 8 (.getfield 7) 3 11 := ⟨by decide +kernel, rfl⟩
theorem d36_11 : Dx prog_13_method_4_code 11 (.aload_n 1) 1 12 := ⟨by decide +kernel, rfl⟩
theorem d36_12 : Dx prog_13_method_4_code 12 (.checkcast 8) 3 15 := ⟨by decide +kernel, rfl⟩
theorem d36_15 : Dx prog_13_method_4_code 15 (.getfield 7) 3 18 := ⟨by decide +kernel, rfl⟩
theorem d36_18 : Dx prog_13_method_4_code 18 (.invokevirtual 47) 3 21 := ⟨by decide +kernel, rfl⟩
theorem d36_21 : Dx prog_13_method_4_code 21 (.ifCond .eq 7) 3 24 := ⟨by decide +kernel, rfl⟩
theorem d36_24 : Dx prog_13_method_4_code 24 (.iconst 1) 1 25 := ⟨by decide +kernel, rfl⟩
theorem d36_25 : Dx prog_13_method_4_code 25 (.goto 4) 3 28 := ⟨by decide +kernel, rfl⟩
theorem d36_28 : Dx prog_13_method_4_code 28 (.iconst 0) 1 29 := ⟨by decide +kernel, rfl⟩
theorem d36_29 : Dx prog_13_method_4_code 29 (.ireturn) 1 30 := ⟨by decide +kernel, rfl⟩
theorem pdg_20 : parseMethodDescriptor "(Ljava/lang/Object;)Z" = some ⟨[.object "java/lang/Object"], some .boolean⟩ := by decide +kernel
set_option maxRecDepth 65536 in
set_option maxHeartbeats 40000000 in
theorem c_te {l : Launch} {Z : State} {a0 : Array Value} {EL : List (String × Nat)} {b : Bool} {n0 : Nat} (hw : ∀ d ∈ tables_1, d.before a0 Z = true) (p q a c b' d : Addr) (cs ds : List Int32) (n m : Nat) (cpt : Int32) (hCS : Sta Z Z.heap "java/lang/String" "COMPACT_STRINGS" "Z" (.int cpt)) (hcpt : ¬ cpt = 0) (hne : a ≠ b') (hn : cs.length = n) (hm : ds.length = m) (hb : n ≤ 4000) (hb2 : m ≤ 4000) (hc : ∀ c ∈ cs, 0 ≤ c.toInt ∧ c.toInt ≤ 255) (hd : ∀ c ∈ ds, 0 ≤ c.toInt ∧ c.toInt ≤ 255) :
    Met l Z a0 EL b n0 (⟨"com/example/iffley/iffley/model/Term", "equals", "(Ljava/lang/Object;)Z"⟩ : MethodName) prog_13_method_4_code 2 (some .boolean) [] (rm4 2 0 0 28) [.ref p, .ref q] [] [(p, .inl ("com/example/iffley/iffley/model/Term", [("com/example/iffley/iffley/model/Term", "text", "Ljava/lang/String;", .ref a)])), (q, .inl ("com/example/iffley/iffley/model/Term", [("com/example/iffley/iffley/model/Term", "text", "Ljava/lang/String;", .ref b')])), (a, .inl ("java/lang/String", [("java/lang/String", "value", "[B", .ref c), ("java/lang/String", "coder", "B", .int 0)])), (c, .inr (.byte, cs.map byV)), (b', .inl ("java/lang/String", [("java/lang/String", "value", "[B", .ref d), ("java/lang/String", "coder", "B", .int 0)])), (d, .inr (.byte, ds.map byV))] (fun v D' S' => ∃ r, ((r = 1 ∧ cs = ds) ∨ (r = 0 ∧ ¬ cs = ds)) ∧ v = some (.int r) ∧ D' = [] ∧ S' = []) := by
  refine Met.of_go (own := "com/example/iffley/iffley/model/Term") (nm := "equals") (Ls := #[.val (.ref p), .val (.ref q)]) (plainFor_of_name png_4) (fun m => by first | rfl | (simp [entryFrame, mkF, argsToLocals, Value.category]; done)) ?_
  refine Go.aloadN d36_0 rfl (G := ?_)
  refine Go.instanceofY d36_1 (hw _ (List.mem_of_getElem? (i := 94) rfl)) (inS (i := 1) rfl) (Or.inl rfl) (G := ?_)
  refine Go.ifc d36_4 (pc2 := 28) (Gy := fun h => absurd h (show ¬ ((1 : Int32) = 0) by decide)) (Gn := fun _ => ?_)
  refine Go.aloadN d36_7 rfl (G := ?_)
  refine Go.getfield d36_8 (host := "") (Or.inl (hw _ (List.mem_of_getElem? (i := 100) rfl))) Via.refl (inS (i := 0) rfl) 0 rfl (G := ?_)
  refine Go.aloadN d36_11 rfl (G := ?_)
  refine Go.checkcast d36_12 (hw _ (List.mem_of_getElem? (i := 94) rfl)) (inS (i := 1) rfl) (Or.inl rfl) (G := ?_)
  refine Go.getfield d36_15 (host := "") (Or.inl (hw _ (List.mem_of_getElem? (i := 100) rfl))) Via.refl (inS (i := 1) rfl) 0 rfl (G := ?_)
  refine Go.invokevirtual false d36_18 (hw _ (List.mem_of_getElem? (i := 123) rfl)) (hw _ (List.mem_of_getElem? (i := 108) rfl)) (hw _ (List.mem_of_getElem? (i := 110) rfl)) (hw _ (List.mem_of_getElem? (i := 109) rfl)) (hw _ (List.mem_of_getElem? (i := 7) rfl)) (hw _ (List.mem_of_getElem? (i := 111) rfl)) (nfSel (hw _ (List.mem_of_getElem? (i := 110) rfl))) (inS (i := 2) rfl) (c_eqL hw a c b' d cs ds n m [] [] cpt hCS hcpt hne hn hm hb hb2 hc hd) pdg_20 rfl (argsL := [.ref b']) (rest := []) rfl rfl (Dr := []) rfl (eS (Or.inl (List.mem_of_getElem? (i := 2) rfl)) (eS (Or.inl (List.mem_of_getElem? (i := 3) rfl)) (eS (Or.inl (List.mem_of_getElem? (i := 4) rfl)) (eS (Or.inl (List.mem_of_getElem? (i := 5) rfl)) eN)))) (G := ?_)
  rintro _ _ _ ⟨r, hr, rfl, rfl, rfl⟩
  refine Go.norm (D2 := []) (S2 := [(p, .inl ("com/example/iffley/iffley/model/Term", [("com/example/iffley/iffley/model/Term", "text", "Ljava/lang/String;", .ref a)])), (q, .inl ("com/example/iffley/iffley/model/Term", [("com/example/iffley/iffley/model/Term", "text", "Ljava/lang/String;", .ref b')])), (a, .inl ("java/lang/String", [("java/lang/String", "value", "[B", .ref c), ("java/lang/String", "coder", "B", .int 0)])), (c, .inr (.byte, cs.map byV)), (b', .inl ("java/lang/String", [("java/lang/String", "value", "[B", .ref d), ("java/lang/String", "coder", "B", .int 0)])), (d, .inr (.byte, ds.map byV))]) (c2 := 0) (s2 := 0) (st2 := [.int r]) ?_
  refine Go.ifc d36_21 (pc2 := 28) (Gy := fun h1 => ?_) (Gn := fun h1 => ?_)
  · have h1 : r = 0 := h1
    refine Go.iconst d36_28 (v := 0) rfl (G := ?_)
    refine Go.sub [] (by decide) rfl (D' := []) rfl (S' := []) eN (G := ?_)
    exact Go.retB d36_29 (by simp) (z' := 0) rfl ⟨0, Or.inr ⟨rfl, bF hr h1⟩, rfl, rfl, rfl⟩
  · have h1 : ¬ r = 0 := h1
    refine Go.iconst d36_24 (v := 1) rfl (G := ?_)
    refine Go.goto d36_25 (pc2 := 29) (G := ?_)
    refine Go.sub [] (by decide) rfl (D' := []) rfl (S' := []) eN (G := ?_)
    exact Go.retB d36_29 (by simp) (z' := 1) rfl ⟨1, Or.inl ⟨rfl, bT hr h1⟩, rfl, rfl, rfl⟩
theorem d37_0 : Dx code 0 (.iconst 1) 1 1 := ⟨by decide +kernel, rfl⟩
theorem d37_1 : Dx code 1 (.iload 4) 2 3 := ⟨by decide +kernel, rfl⟩
theorem d37_3 : Dx code 3 (.iconst 3) 1 4 := ⟨by decide +kernel, rfl⟩
theorem d37_4 : Dx code 4 (.iand) 1 5 := ⟨by decide +kernel, rfl⟩
theorem d37_5 : Dx code 5 (.iadd) 1 6 := ⟨by decide +kernel, rfl⟩
theorem d37_6 : Dx code 6 (.istore 5) 2 8 := ⟨by decide +kernel, rfl⟩
theorem d37_8 : Dx code 8 (.iload 4) 2 10 := ⟨by decide +kernel, rfl⟩
theorem d37_10 : Dx code 10 (.iconst 2) 1 11 := ⟨by decide +kernel, rfl⟩
theorem d37_11 : Dx code 11 (.ishr) 1 12 := ⟨by decide +kernel, rfl⟩
theorem d37_12 : Dx code 12 (.iconst 1) 1 13 := ⟨by decide +kernel, rfl⟩
theorem d37_13 : Dx code 13 (.iand) 1 14 := ⟨by decide +kernel, rfl⟩
theorem d37_14 : Dx code 14 (.ifCond .eq 7) 3 17 := ⟨by decide +kernel, rfl⟩
theorem d37_17 : Dx code 17 (.iconst 1) 1 18 := ⟨by decide +kernel, rfl⟩
theorem d37_18 : Dx code 18 (.goto 4) 3 21 := ⟨by decide +kernel, rfl⟩
theorem d37_21 : Dx code 21 (.iconst 0) 1 22 := ⟨by decide +kernel, rfl⟩
theorem d37_22 : Dx code 22 (.istore 6) 2 24 := ⟨by decide +kernel, rfl⟩
theorem d37_24 : Dx code 24 (.iconst 4) 1 25 := ⟨by decide +kernel, rfl⟩
theorem d37_25 : Dx code 25 (.newarray .char) 2 27 := ⟨by decide +kernel, rfl⟩
theorem d37_27 : Dx code 27 (.astore 7) 2 29 := ⟨by decide +kernel, rfl⟩
theorem d37_29 : Dx code 29 (.aload 7) 2 31 := ⟨by decide +kernel, rfl⟩
theorem d37_31 : Dx code 31 (.iconst 0) 1 32 := ⟨by decide +kernel, rfl⟩
theorem d37_32 : Dx code 32 (.iload_n 0) 1 33 := ⟨by decide +kernel, rfl⟩
theorem d37_33 : Dx code 33 (.invokestatic 7) 3 36 := ⟨by decide +kernel, rfl⟩
theorem d37_36 : Dx code 36 (.castore) 1 37 := ⟨by decide +kernel, rfl⟩
theorem d37_37 : Dx code 37 (.aload 7) 2 39 := ⟨by decide +kernel, rfl⟩
theorem d37_39 : Dx code 39 (.iconst 1) 1 40 := ⟨by decide +kernel, rfl⟩
theorem d37_40 : Dx code 40 (.iload_n 1) 1 41 := ⟨by decide +kernel, rfl⟩
theorem d37_41 : Dx code 41 (.invokestatic 7) 3 44 := ⟨by decide +kernel, rfl⟩
theorem d37_44 : Dx code 44 (.castore) 1 45 := ⟨by decide +kernel, rfl⟩
theorem d37_45 : Dx code 45 (.aload 7) 2 47 := ⟨by decide +kernel, rfl⟩
theorem d37_47 : Dx code 47 (.iconst 2) 1 48 := ⟨by decide +kernel, rfl⟩
theorem d37_48 : Dx code 48 (.iload_n 2) 1 49 := ⟨by decide +kernel, rfl⟩
theorem d37_49 : Dx code 49 (.invokestatic 7) 3 52 := ⟨by decide +kernel, rfl⟩
theorem d37_52 : Dx code 52 (.castore) 1 53 := ⟨by decide +kernel, rfl⟩
theorem d37_53 : Dx code 53 (.aload 7) 2 55 := ⟨by decide +kernel, rfl⟩
theorem d37_55 : Dx code 55 (.iconst 3) 1 56 := ⟨by decide +kernel, rfl⟩
theorem d37_56 : Dx code 56 (.iload_n 3) 1 57 := ⟨by decide +kernel, rfl⟩
theorem d37_57 : Dx code 57 (.invokestatic 7) 3 60 := ⟨by decide +kernel, rfl⟩
theorem d37_60 : Dx code 60 (.castore) 1 61 := ⟨by decide +kernel, rfl⟩
theorem d37_61 : Dx code 61 (.iload 6) 2 63 := ⟨by decide +kernel, rfl⟩
theorem d37_63 : Dx code 63 (.ifCond .eq 18) 3 66 := ⟨by decide +kernel, rfl⟩
theorem d37_66 : Dx code 66 (.aload 7) 2 68 := ⟨by decide +kernel, rfl⟩
theorem d37_68 : Dx code 68 (.iconst 0) 1 69 := ⟨by decide +kernel, rfl⟩
theorem d37_69 : Dx code 69 (.bipush 60) 2 71 := ⟨by decide +kernel, rfl⟩
theorem d37_71 : Dx code 71 (.castore) 1 72 := ⟨by decide +kernel, rfl⟩
theorem d37_72 : Dx code 72 (.aload 7) 2 74 := ⟨by decide +kernel, rfl⟩
theorem d37_74 : Dx code 74 (.iload 5) 2 76 := ⟨by decide +kernel, rfl⟩
theorem d37_76 : Dx code 76 (.iconst 1) 1 77 := ⟨by decide +kernel, rfl⟩
theorem d37_77 : Dx code 77 (.isub) 1 78 := ⟨by decide +kernel, rfl⟩
theorem d37_78 : Dx code 78 (.bipush 62) 2 80 := ⟨by decide +kernel, rfl⟩
theorem d37_80 : Dx code 80 (.castore) 1 81 := ⟨by decide +kernel, rfl⟩
theorem d37_81 : Dx code 81 (.iload 5) 2 83 := ⟨by decide +kernel, rfl⟩
theorem d37_83 : Dx code 83 (.newarray .char) 2 85 := ⟨by decide +kernel, rfl⟩
theorem d37_85 : Dx code 85 (.astore 8) 2 87 := ⟨by decide +kernel, rfl⟩
theorem d37_87 : Dx code 87 (.aload 8) 2 89 := ⟨by decide +kernel, rfl⟩
theorem d37_89 : Dx code 89 (.iconst 0) 1 90 := ⟨by decide +kernel, rfl⟩
theorem d37_90 : Dx code 90 (.aload 7) 2 92 := ⟨by decide +kernel, rfl⟩
theorem d37_92 : Dx code 92 (.iconst 0) 1 93 := ⟨by decide +kernel, rfl⟩
theorem d37_93 : Dx code 93 (.caload) 1 94 := ⟨by decide +kernel, rfl⟩
theorem d37_94 : Dx code 94 (.castore) 1 95 := ⟨by decide +kernel, rfl⟩
theorem d37_95 : Dx code 95 (.iload 5) 2 97 := ⟨by decide +kernel, rfl⟩
theorem d37_97 : Dx code 97 (.iconst 1) 1 98 := ⟨by decide +kernel, rfl⟩
theorem d37_98 : Dx code 98 (.if_icmp .le 11) 3 101 := ⟨by decide +kernel, rfl⟩
theorem d37_101 : Dx code 101 (.aload 8) 2 103 := ⟨by decide +kernel, rfl⟩
theorem d37_103 : Dx code 103 (.iconst 1) 1 104 := ⟨by decide +kernel, rfl⟩
theorem d37_104 : Dx code 104 (.aload 7) 2 106 := ⟨by decide +kernel, rfl⟩
theorem d37_106 : Dx code 106 (.iconst 1) 1 107 := ⟨by decide +kernel, rfl⟩
theorem d37_107 : Dx code 107 (.caload) 1 108 := ⟨by decide +kernel, rfl⟩
theorem d37_108 : Dx code 108 (.castore) 1 109 := ⟨by decide +kernel, rfl⟩
theorem d37_109 : Dx code 109 (.iload 5) 2 111 := ⟨by decide +kernel, rfl⟩
theorem d37_111 : Dx code 111 (.iconst 2) 1 112 := ⟨by decide +kernel, rfl⟩
theorem d37_112 : Dx code 112 (.if_icmp .le 11) 3 115 := ⟨by decide +kernel, rfl⟩
theorem d37_115 : Dx code 115 (.aload 8) 2 117 := ⟨by decide +kernel, rfl⟩
theorem d37_117 : Dx code 117 (.iconst 2) 1 118 := ⟨by decide +kernel, rfl⟩
theorem d37_118 : Dx code 118 (.aload 7) 2 120 := ⟨by decide +kernel, rfl⟩
theorem d37_120 : Dx code 120 (.iconst 2) 1 121 := ⟨by decide +kernel, rfl⟩
theorem d37_121 : Dx code 121 (.caload) 1 122 := ⟨by decide +kernel, rfl⟩
theorem d37_122 : Dx code 122 (.castore) 1 123 := ⟨by decide +kernel, rfl⟩
theorem d37_123 : Dx code 123 (.iload 5) 2 125 := ⟨by decide +kernel, rfl⟩
theorem d37_125 : Dx code 125 (.iconst 3) 1 126 := ⟨by decide +kernel, rfl⟩
theorem d37_126 : Dx code 126 (.if_icmp .le 11) 3 129 := ⟨by decide +kernel, rfl⟩
theorem d37_129 : Dx code 129 (.aload 8) 2 131 := ⟨by decide +kernel, rfl⟩
theorem d37_131 : Dx code 131 (.iconst 3) 1 132 := ⟨by decide +kernel, rfl⟩
theorem d37_132 : Dx code 132 (.aload 7) 2 134 := ⟨by decide +kernel, rfl⟩
theorem d37_134 : Dx code 134 (.iconst 3) 1 135 := ⟨by decide +kernel, rfl⟩
theorem d37_135 : Dx code 135 (.caload) 1 136 := ⟨by decide +kernel, rfl⟩
theorem d37_136 : Dx code 136 (.castore) 1 137 := ⟨by decide +kernel, rfl⟩
theorem d37_137 : Dx code 137 (.new 13) 3 140 := ⟨by decide +kernel, rfl⟩
theorem d37_140 : Dx code 140 (.dup) 1 141 := ⟨by decide +kernel, rfl⟩
theorem d37_141 : Dx code 141 (.aload 8) 2 143 := ⟨by decide +kernel, rfl⟩
theorem d37_143 : Dx code 143 (.invokespecial 15) 3 146 := ⟨by decide +kernel, rfl⟩
theorem d37_146 : Dx code 146 (.astore 9) 2 148 := ⟨by decide +kernel, rfl⟩
theorem d37_148 : Dx code 148 (.aload 7) 2 150 := ⟨by decide +kernel, rfl⟩
theorem d37_150 : Dx code 150 (.iconst 0) 1 151 := ⟨by decide +kernel, rfl⟩
theorem d37_151 : Dx code 151 (.caload) 1 152 := ⟨by decide +kernel, rfl⟩
theorem d37_152 : Dx code 152 (.invokestatic 18) 3 155 := ⟨by decide +kernel, rfl⟩
theorem d37_155 : Dx code 155 (.ifCond .eq 55) 3 158 := ⟨by decide +kernel, rfl⟩
theorem d37_158 : Dx code 158 (.iload 5) 2 160 := ⟨by decide +kernel, rfl⟩
theorem d37_160 : Dx code 160 (.iconst 2) 1 161 := ⟨by decide +kernel, rfl⟩
theorem d37_161 : Dx code 161 (.if_icmp .lt 13) 3 164 := ⟨by decide +kernel, rfl⟩
theorem d37_164 : Dx code 164 (.aload 7) 2 166 := ⟨by decide +kernel, rfl⟩
theorem d37_166 : Dx code 166 (.iconst 1) 1 167 := ⟨by decide +kernel, rfl⟩
theorem d37_167 : Dx code 167 (.caload) 1 168 := ⟨by decide +kernel, rfl⟩
theorem d37_168 : Dx code 168 (.invokestatic 22) 3 171 := ⟨by decide +kernel, rfl⟩
theorem d37_171 : Dx code 171 (.ifCond .eq 39) 3 174 := ⟨by decide +kernel, rfl⟩
theorem d37_174 : Dx code 174 (.iload 5) 2 176 := ⟨by decide +kernel, rfl⟩
theorem d37_176 : Dx code 176 (.iconst 3) 1 177 := ⟨by decide +kernel, rfl⟩
theorem d37_177 : Dx code 177 (.if_icmp .lt 13) 3 180 := ⟨by decide +kernel, rfl⟩
theorem d37_180 : Dx code 180 (.aload 7) 2 182 := ⟨by decide +kernel, rfl⟩
theorem d37_182 : Dx code 182 (.iconst 2) 1 183 := ⟨by decide +kernel, rfl⟩
theorem d37_183 : Dx code 183 (.caload) 1 184 := ⟨by decide +kernel, rfl⟩
theorem d37_184 : Dx code 184 (.invokestatic 22) 3 187 := ⟨by decide +kernel, rfl⟩
theorem d37_187 : Dx code 187 (.ifCond .eq 23) 3 190 := ⟨by decide +kernel, rfl⟩
theorem d37_190 : Dx code 190 (.iload 5) 2 192 := ⟨by decide +kernel, rfl⟩
theorem d37_192 : Dx code 192 (.iconst 4) 1 193 := ⟨by decide +kernel, rfl⟩
theorem d37_193 : Dx code 193 (.if_icmp .lt 13) 3 196 := ⟨by decide +kernel, rfl⟩
theorem d37_196 : Dx code 196 (.aload 7) 2 198 := ⟨by decide +kernel, rfl⟩
theorem d37_198 : Dx code 198 (.iconst 3) 1 199 := ⟨by decide +kernel, rfl⟩
theorem d37_199 : Dx code 199 (.caload) 1 200 := ⟨by decide +kernel, rfl⟩
theorem d37_200 : Dx code 200 (.invokestatic 22) 3 203 := ⟨by decide +kernel, rfl⟩
theorem d37_203 : Dx code 203 (.ifCond .eq 7) 3 206 := ⟨by decide +kernel, rfl⟩
theorem d37_206 : Dx code 206 (.iconst 1) 1 207 := ⟨by decide +kernel, rfl⟩
theorem d37_207 : Dx code 207 (.goto 4) 3 210 := ⟨by decide +kernel, rfl⟩
theorem d37_210 : Dx code 210 (.iconst 0) 1 211 := ⟨by decide +kernel, rfl⟩
theorem d37_211 : Dx code 211 (.istore 10) 2 213 := ⟨by decide +kernel, rfl⟩
theorem d37_213 : Dx code 213 (.iload 5) 2 215 := ⟨by decide +kernel, rfl⟩
theorem d37_215 : Dx code 215 (.iconst 2) 1 216 := ⟨by decide +kernel, rfl⟩
theorem d37_216 : Dx code 216 (.if_icmp .lt 60) 3 219 := ⟨by decide +kernel, rfl⟩
theorem d37_219 : Dx code 219 (.aload 7) 2 221 := ⟨by decide +kernel, rfl⟩
theorem d37_221 : Dx code 221 (.iconst 0) 1 222 := ⟨by decide +kernel, rfl⟩
theorem d37_222 : Dx code 222 (.caload) 1 223 := ⟨by decide +kernel, rfl⟩
theorem d37_223 : Dx code 223 (.bipush 60) 2 225 := ⟨by decide +kernel, rfl⟩
theorem d37_225 : Dx code 225 (.if_icmp .ne 51) 3 228 := ⟨by decide +kernel, rfl⟩
theorem d37_228 : Dx code 228 (.aload 7) 2 230 := ⟨by decide +kernel, rfl⟩
theorem d37_230 : Dx code 230 (.iload 5) 2 232 := ⟨by decide +kernel, rfl⟩
theorem d37_232 : Dx code 232 (.iconst 1) 1 233 := ⟨by decide +kernel, rfl⟩
theorem d37_233 : Dx code 233 (.isub) 1 234 := ⟨by decide +kernel, rfl⟩
theorem d37_234 : Dx code 234 (.caload) 1 235 := ⟨by decide +kernel, rfl⟩
theorem d37_235 : Dx code 235 (.bipush 62) 2 237 := ⟨by decide +kernel, rfl⟩
theorem d37_237 : Dx code 237 (.if_icmp .ne 39) 3 240 := ⟨by decide +kernel, rfl⟩
theorem d37_240 : Dx code 240 (.iload 5) 2 242 := ⟨by decide +kernel, rfl⟩
theorem d37_242 : Dx code 242 (.iconst 3) 1 243 := ⟨by decide +kernel, rfl⟩
theorem d37_243 : Dx code 243 (.if_icmp .lt 13) 3 246 := ⟨by decide +kernel, rfl⟩
theorem d37_246 : Dx code 246 (.aload 7) 2 248 := ⟨by decide +kernel, rfl⟩
theorem d37_248 : Dx code 248 (.iconst 1) 1 249 := ⟨by decide +kernel, rfl⟩
theorem d37_249 : Dx code 249 (.caload) 1 250 := ⟨by decide +kernel, rfl⟩
theorem d37_250 : Dx code 250 (.invokestatic 25) 3 253 := ⟨by decide +kernel, rfl⟩
theorem d37_253 : Dx code 253 (.ifCond .eq 23) 3 256 := ⟨by decide +kernel, rfl⟩
theorem d37_256 : Dx code 256 (.iload 5) 2 258 := ⟨by decide +kernel, rfl⟩
theorem d37_258 : Dx code 258 (.iconst 4) 1 259 := ⟨by decide +kernel, rfl⟩
theorem d37_259 : Dx code 259 (.if_icmp .lt 13) 3 262 := ⟨by decide +kernel, rfl⟩
theorem d37_262 : Dx code 262 (.aload 7) 2 264 := ⟨by decide +kernel, rfl⟩
theorem d37_264 : Dx code 264 (.iconst 2) 1 265 := ⟨by decide +kernel, rfl⟩
theorem d37_265 : Dx code 265 (.caload) 1 266 := ⟨by decide +kernel, rfl⟩
theorem d37_266 : Dx code 266 (.invokestatic 25) 3 269 := ⟨by decide +kernel, rfl⟩
theorem d37_269 : Dx code 269 (.ifCond .eq 7) 3 272 := ⟨by decide +kernel, rfl⟩
theorem d37_272 : Dx code 272 (.iconst 1) 1 273 := ⟨by decide +kernel, rfl⟩
theorem d37_273 : Dx code 273 (.goto 4) 3 276 := ⟨by decide +kernel, rfl⟩
theorem d37_276 : Dx code 276 (.iconst 0) 1 277 := ⟨by decide +kernel, rfl⟩
theorem d37_277 : Dx code 277 (.istore 11) 2 279 := ⟨by decide +kernel, rfl⟩
theorem d37_279 : Dx code 279 (.iload 10) 2 281 := ⟨by decide +kernel, rfl⟩
theorem d37_281 : Dx code 281 (.ifCond .ne 10) 3 284 := ⟨by decide +kernel, rfl⟩
theorem d37_284 : Dx code 284 (.iload 11) 2 286 := ⟨by decide +kernel, rfl⟩
theorem d37_286 : Dx code 286 (.ifCond .ne 5) 3 289 := ⟨by decide +kernel, rfl⟩
theorem d37_289 : Dx code 289 (.iconst 1) 1 290 := ⟨by decide +kernel, rfl⟩
theorem d37_290 : Dx code 290 (.ireturn) 1 291 := ⟨by decide +kernel, rfl⟩
theorem d37_291 : Dx code 291 (.aload 9) 2 293 := ⟨by decide +kernel, rfl⟩
theorem d37_293 : Dx code 293 (.invokestatic 28) 3 296 := ⟨by decide +kernel, rfl⟩
theorem d37_296 : Dx code 296 (.astore 12) 2 298 := ⟨by decide +kernel, rfl⟩
theorem d37_298 : Dx code 298 (.aload 7) 2 300 := ⟨by decide +kernel, rfl⟩
theorem d37_300 : Dx code 300 (.iconst 0) 1 301 := ⟨by decide +kernel, rfl⟩
theorem d37_301 : Dx code 301 (.caload) 1 302 := ⟨by decide +kernel, rfl⟩
theorem d37_302 : Dx code 302 (.bipush 65) 2 304 := ⟨by decide +kernel, rfl⟩
theorem d37_304 : Dx code 304 (.if_icmp .lt 16) 3 307 := ⟨by decide +kernel, rfl⟩
theorem d37_307 : Dx code 307 (.aload 7) 2 309 := ⟨by decide +kernel, rfl⟩
theorem d37_309 : Dx code 309 (.iconst 0) 1 310 := ⟨by decide +kernel, rfl⟩
theorem d37_310 : Dx code 310 (.caload) 1 311 := ⟨by decide +kernel, rfl⟩
theorem d37_311 : Dx code 311 (.bipush 90) 2 313 := ⟨by decide +kernel, rfl⟩
theorem d37_313 : Dx code 313 (.if_icmp .gt 7) 3 316 := ⟨by decide +kernel, rfl⟩
theorem d37_316 : Dx code 316 (.iconst 1) 1 317 := ⟨by decide +kernel, rfl⟩
theorem d37_317 : Dx code 317 (.goto 4) 3 320 := ⟨by decide +kernel, rfl⟩
theorem d37_320 : Dx code 320 (.iconst 0) 1 321 := ⟨by decide +kernel, rfl⟩
theorem d37_321 : Dx code 321 (.istore 13) 2 323 := ⟨by decide +kernel, rfl⟩
theorem d37_323 : Dx code 323 (.aload 9) 2 325 := ⟨by decide +kernel, rfl⟩
theorem d37_325 : Dx code 325 (.aload 12) 2 327 := ⟨by decide +kernel, rfl⟩
theorem d37_327 : Dx code 327 (.invokevirtual 34) 3 330 := ⟨by decide +kernel, rfl⟩
theorem d37_330 : Dx code 330 (.invokevirtual 38) 3 333 := ⟨by decide +kernel, rfl⟩
theorem d37_333 : Dx code 333 (.ifCond .eq 37) 3 336 := ⟨by decide +kernel, rfl⟩
theorem d37_336 : Dx code 336 (.aload 12) 2 338 := ⟨by decide +kernel, rfl⟩
theorem d37_338 : Dx code 338 (.invokevirtual 42) 3 341 := ⟨by decide +kernel, rfl⟩
theorem d37_341 : Dx code 341 (.iload 13) 2 343 := ⟨by decide +kernel, rfl⟩
theorem d37_343 : Dx code 343 (.if_icmp .ne 27) 3 346 := ⟨by decide +kernel, rfl⟩
theorem d37_346 : Dx code 346 (.aload 12) 2 348 := ⟨by decide +kernel, rfl⟩
theorem d37_348 : Dx code 348 (.new 13) 3 351 := ⟨by decide +kernel, rfl⟩
theorem d37_351 : Dx code 351 (.dup) 1 352 := ⟨by decide +kernel, rfl⟩
theorem d37_352 : Dx code 352 (.aload 8) 2 354 := ⟨by decide +kernel, rfl⟩
theorem d37_354 : Dx code 354 (.invokespecial 15) 3 357 := ⟨by decide +kernel, rfl⟩
theorem d37_357 : Dx code 357 (.invokestatic 28) 3 360 := ⟨by decide +kernel, rfl⟩
theorem d37_360 : Dx code 360 (.invokevirtual 46) 3 363 := ⟨by decide +kernel, rfl⟩
theorem d37_363 : Dx code 363 (.ifCond .eq 7) 3 366 := ⟨by decide +kernel, rfl⟩
theorem d37_366 : Dx code 366 (.iconst 1) 1 367 := ⟨by decide +kernel, rfl⟩
theorem d37_367 : Dx code 367 (.goto 4) 3 370 := ⟨by decide +kernel, rfl⟩
theorem d37_370 : Dx code 370 (.iconst 0) 1 371 := ⟨by decide +kernel, rfl⟩
theorem d37_371 : Dx code 371 (.ireturn) 1 372 := ⟨by decide +kernel, rfl⟩
theorem pdg_21 : parseMethodDescriptor "([C)V" = some ⟨[.array .char], none⟩ := by decide +kernel
theorem pdg_22 : parseMethodDescriptor "(Ljava/lang/String;)Lcom/example/iffley/iffley/model/Term;" = some ⟨[.object "java/lang/String"], some (.object "com/example/iffley/iffley/model/Term")⟩ := by decide +kernel
theorem pdg_23 : parseMethodDescriptor "()Ljava/lang/String;" = some ⟨[], some (.object "java/lang/String")⟩ := by decide +kernel
set_option maxRecDepth 65536 in
set_option maxHeartbeats 40000000 in
theorem lw_1 {l : Launch} {Z : State} {a0 : Array Value} {EL : List (String × Nat)} {b : Bool} {n0 : Nat} (hw : ∀ d ∈ tables_1, d.before a0 Z = true) (a bq c d f iri c0 c1 c2 c3 : Int32) (v7 : Addr) (hc0 : 0 ≤ c0.toInt ∧ c0.toInt ≤ 255) (hc1 : 0 ≤ c1.toInt ∧ c1.toInt ≤ 255) (hc2 : 0 ≤ c2.toInt ∧ c2.toInt ≤ 255) (hc3 : 0 ≤ c3.toInt ∧ c3.toInt ≤ 255) (cpt : Int32) (fmt : Value) (hCS : Sta Z Z.heap "java/lang/String" "COMPACT_STRINGS" "Z" (.int cpt)) (hcpt : ¬ cpt = 0) (hFM : Sta Z Z.heap "jdk/internal/util/Preconditions" "SIOOBE_FORMATTER" "Ljava/util/function/BiFunction;" fmt) (hfm : fmt.isRef = true) (hb1 : b = true) (hE_Term_65 : ("com/example/iffley/iffley/model/Term", 65) ∈ EL) (hE_Term_13 : ("com/example/iffley/iffley/model/Term", 13) ∈ EL) :
    Go l Z a0 EL b n0 "com/example/iffley/iffley/model/TermParsePinLaw" code 14 (some .boolean) "law" room_1 [] (fun v D' S' => v = some (.int 1) ∧ D' = [] ∧ S' = []) [(v7, .inr (.char, [.int c0, .int c1, .int c2, .int c3]))] [] 1 4 81 #[.val (.int a), .val (.int bq), .val (.int c), .val (.int d), .val (.int f), .val (.int 1), .val (.int iri), .val (.ref v7), .unset, .unset, .unset, .unset, .unset, .unset] [] := by
  have hlat : ∀ c ∈ ([c0] : List Int32), 0 ≤ c.toInt ∧ c.toInt ≤ 255 := (eS hc0 eN)
  refine Go.iload d37_81 rfl (G := ?_)
  refine Go.newarray d37_83 (hw _ (List.mem_of_getElem? (i := 0) rfl)) (k := 1) rfl (by decide) (by decide) (vs := [.int 0]) rfl (G := fun o1 => ?_)
  refine Go.astore d37_85 (Ls' := #[.val (.int a), .val (.int bq), .val (.int c), .val (.int d), .val (.int f), .val (.int 1), .val (.int iri), .val (.ref v7), .val (.ref o1), .unset, .unset, .unset, .unset, .unset]) rfl (G := ?_)
  refine Go.aload d37_87 rfl (G := ?_)
  refine Go.iconst d37_89 (v := 0) rfl (G := ?_)
  refine Go.aload d37_90 rfl (G := ?_)
  refine Go.iconst d37_92 (v := 0) rfl (G := ?_)
  refine Go.caload d37_93 (inD (i := 1) rfl) rfl (G := ?_)
  refine Go.castore d37_94 0 rfl (x' := c0) (nc_of hc0) (Nat.le_of_ble_eq_true rfl) (D' := [(o1, .inr (.char, [.int c0])), (v7, .inr (.char, [.int c0, .int c1, .int c2, .int c3]))]) rfl (G := ?_)
  refine Go.iload d37_95 rfl (G := ?_)
  refine Go.iconst d37_97 (v := 1) rfl (G := ?_)
  refine Go.icmp d37_98 (pc2 := 109) (Gy := fun _ => ?_) (Gn := fun h => absurd (show ¬ (1 : Int32) < 1 by decide) h)
  refine Go.iload d37_109 rfl (G := ?_)
  refine Go.iconst d37_111 (v := 2) rfl (G := ?_)
  refine Go.icmp d37_112 (pc2 := 123) (Gy := fun _ => ?_) (Gn := fun h => absurd (show ¬ (2 : Int32) < 1 by decide) h)
  refine Go.iload d37_123 rfl (G := ?_)
  refine Go.iconst d37_125 (v := 3) rfl (G := ?_)
  refine Go.icmp d37_126 (pc2 := 137) (Gy := fun _ => ?_) (Gn := fun h => absurd (show ¬ (3 : Int32) < 1 by decide) h)
  refine Go.new d37_137 (hw _ (List.mem_of_getElem? (i := 5) rfl)) (hw _ (List.mem_of_getElem? (i := 6) rfl)) (hw _ (List.mem_of_getElem? (i := 7) rfl)) (NewF.cons (Or.inr (hw _ (List.mem_of_getElem? (i := 33) rfl))) (ty := .array .byte) (by decide +kernel) rfl (by simp) (NewF.cons (Or.inr (hw _ (List.mem_of_getElem? (i := 31) rfl))) (ty := .byte) (by decide +kernel) rfl (by simp) NewF.nil)) (G := fun o2 => ?_)
  refine Go.dup d37_140 (G := ?_)
  refine Go.aload d37_141 rfl (G := ?_)
  refine Go.invokeinit true d37_143 rfl (hw _ (List.mem_of_getElem? (i := 8) rfl)) (hw _ (List.mem_of_getElem? (i := 9) rfl)) (hw _ (List.mem_of_getElem? (i := 7) rfl)) (hw _ (List.mem_of_getElem? (i := 10) rfl)) (c_init hw o2 o1 ([c0] : List Int32) 1 [] cpt hCS hcpt rfl (by decide) (by decide) (fun c hc => nlat (hlat c hc))) pdg_21 rfl (argsL := [.ref o1]) (rest := [.ref o2]) rfl rfl (Dr := [(o1, .inr (.char, [.int c0])), (v7, .inr (.char, [.int c0, .int c1, .int c2, .int c3]))]) rfl (eS (Or.inr ⟨rfl, List.mem_of_getElem? (i := 0) rfl⟩) eN) (G := ?_)
  rintro _ _ _ ⟨t3, rfl, rfl, rfl⟩
  refine Go.norm (D2 := [(o2, .inl ("java/lang/String", [("java/lang/String", "value", "[B", .ref t3), ("java/lang/String", "coder", "B", .int 0)])), (t3, .inr (.byte, ([c0] : List Int32).map byV)), (o1, .inr (.char, [.int c0])), (v7, .inr (.char, [.int c0, .int c1, .int c2, .int c3]))]) (S2 := []) (c2 := 4) (s2 := 10) (st2 := [.ref o2]) ?_
  refine Go.astore d37_146 (Ls' := #[.val (.int a), .val (.int bq), .val (.int c), .val (.int d), .val (.int f), .val (.int 1), .val (.int iri), .val (.ref v7), .val (.ref o1), .val (.ref o2), .unset, .unset, .unset, .unset]) rfl (G := ?_)
  have mainA : ∀ ri rq : Int32, (idP ([c0] : List Int32) ∨ iriP ([c0] : List Int32) 1) → Go l Z a0 EL b n0 "com/example/iffley/iffley/model/TermParsePinLaw" code 14 (some .boolean) "law" room_1 [] (fun v D' S' => v = some (.int 1) ∧ D' = [] ∧ S' = []) [(o2, .inl ("java/lang/String", [("java/lang/String", "value", "[B", .ref t3), ("java/lang/String", "coder", "B", .int 0)])), (t3, .inr (.byte, ([c0] : List Int32).map byV)), (o1, .inr (.char, [.int c0])), (v7, .inr (.char, [.int c0, .int c1, .int c2, .int c3]))] [] 4 10 291 #[.val (.int a), .val (.int bq), .val (.int c), .val (.int d), .val (.int f), .val (.int 1), .val (.int iri), .val (.ref v7), .val (.ref o1), .val (.ref o2), .val (.int ri), .val (.int rq), .unset, .unset] [] := by
    intro ri rq hg
    refine Go.aload d37_291 rfl (G := ?_)
    refine Go.invokestatic true d37_293 (hw _ (List.mem_of_getElem? (i := 37) rfl)) (hw _ (List.mem_of_getElem? (i := 38) rfl)) (hw _ (List.mem_of_getElem? (i := 39) rfl)) (hw _ (List.mem_of_getElem? (i := 40) rfl)) (c_parse hw o2 t3 ([c0] : List Int32) 1 cpt fmt hCS hcpt hFM hfm rfl (by decide) (by decide) hlat hg hb1 hE_Term_65 hE_Term_13) pdg_22 rfl (argsL := [.ref o2]) (rest := []) rfl rfl (Dr := [(o2, .inl ("java/lang/String", [("java/lang/String", "value", "[B", .ref t3), ("java/lang/String", "coder", "B", .int 0)])), (t3, .inr (.byte, ([c0] : List Int32).map byV)), (o1, .inr (.char, [.int c0])), (v7, .inr (.char, [.int c0, .int c1, .int c2, .int c3]))]) rfl (eS (Or.inr ⟨rfl, List.mem_of_getElem? (i := 0) rfl⟩) (eS (Or.inr ⟨rfl, List.mem_of_getElem? (i := 1) rfl⟩) eN)) (G := ?_)
    rintro _ _ _ ⟨tm4, rfl, rfl, rfl⟩
    refine Go.norm (D2 := [(tm4, .inl ("com/example/iffley/iffley/model/Term", [("com/example/iffley/iffley/model/Term", "text", "Ljava/lang/String;", .ref o2)])), (o2, .inl ("java/lang/String", [("java/lang/String", "value", "[B", .ref t3), ("java/lang/String", "coder", "B", .int 0)])), (t3, .inr (.byte, ([c0] : List Int32).map byV)), (o1, .inr (.char, [.int c0])), (v7, .inr (.char, [.int c0, .int c1, .int c2, .int c3]))]) (S2 := []) (c2 := 9) (s2 := 71) (st2 := [.ref tm4]) ?_
    refine Go.astore d37_296 (Ls' := #[.val (.int a), .val (.int bq), .val (.int c), .val (.int d), .val (.int f), .val (.int 1), .val (.int iri), .val (.ref v7), .val (.ref o1), .val (.ref o2), .val (.int ri), .val (.int rq), .val (.ref tm4), .unset]) rfl (G := ?_)
    have mainV : ∀ v : Int32, ((v = 1 ∧ upP c0) ∨ (v = 0 ∧ ¬ upP c0)) → Go l Z a0 EL b n0 "com/example/iffley/iffley/model/TermParsePinLaw" code 14 (some .boolean) "law" room_1 [] (fun v D' S' => v = some (.int 1) ∧ D' = [] ∧ S' = []) [(tm4, .inl ("com/example/iffley/iffley/model/Term", [("com/example/iffley/iffley/model/Term", "text", "Ljava/lang/String;", .ref o2)])), (o2, .inl ("java/lang/String", [("java/lang/String", "value", "[B", .ref t3), ("java/lang/String", "coder", "B", .int 0)])), (t3, .inr (.byte, ([c0] : List Int32).map byV)), (o1, .inr (.char, [.int c0])), (v7, .inr (.char, [.int c0, .int c1, .int c2, .int c3]))] [] 9 71 323 #[.val (.int a), .val (.int bq), .val (.int c), .val (.int d), .val (.int f), .val (.int 1), .val (.int iri), .val (.ref v7), .val (.ref o1), .val (.ref o2), .val (.int ri), .val (.int rq), .val (.ref tm4), .val (.int v)] [] := by
      intro v hv
      refine Go.aload d37_323 rfl (G := ?_)
      refine Go.aload d37_325 rfl (G := ?_)
      refine Go.invokevirtual true d37_327 (hw _ (List.mem_of_getElem? (i := 102) rfl)) (hw _ (List.mem_of_getElem? (i := 103) rfl)) (hw _ (List.mem_of_getElem? (i := 105) rfl)) (hw _ (List.mem_of_getElem? (i := 104) rfl)) (hw _ (List.mem_of_getElem? (i := 39) rfl)) (hw _ (List.mem_of_getElem? (i := 106) rfl)) (nfSel (hw _ (List.mem_of_getElem? (i := 105) rfl))) (inD (i := 0) rfl) (c_tstr hw tm4 o2) pdg_23 rfl (argsL := []) (rest := [.ref o2]) rfl rfl (Dr := [(tm4, .inl ("com/example/iffley/iffley/model/Term", [("com/example/iffley/iffley/model/Term", "text", "Ljava/lang/String;", .ref o2)])), (o2, .inl ("java/lang/String", [("java/lang/String", "value", "[B", .ref t3), ("java/lang/String", "coder", "B", .int 0)])), (t3, .inr (.byte, ([c0] : List Int32).map byV)), (o1, .inr (.char, [.int c0])), (v7, .inr (.char, [.int c0, .int c1, .int c2, .int c3]))]) rfl (eS (Or.inr ⟨rfl, List.mem_of_getElem? (i := 0) rfl⟩) eN) (G := ?_)
      rintro _ _ _ ⟨rfl, rfl, rfl⟩
      refine Go.norm (D2 := [(tm4, .inl ("com/example/iffley/iffley/model/Term", [("com/example/iffley/iffley/model/Term", "text", "Ljava/lang/String;", .ref o2)])), (o2, .inl ("java/lang/String", [("java/lang/String", "value", "[B", .ref t3), ("java/lang/String", "coder", "B", .int 0)])), (t3, .inr (.byte, ([c0] : List Int32).map byV)), (o1, .inr (.char, [.int c0])), (v7, .inr (.char, [.int c0, .int c1, .int c2, .int c3]))]) (S2 := []) (c2 := 9) (s2 := 71) (st2 := [.ref o2, .ref o2]) ?_
      refine Go.invokevirtual false d37_330 (hw _ (List.mem_of_getElem? (i := 107) rfl)) (hw _ (List.mem_of_getElem? (i := 108) rfl)) (hw _ (List.mem_of_getElem? (i := 110) rfl)) (hw _ (List.mem_of_getElem? (i := 109) rfl)) (hw _ (List.mem_of_getElem? (i := 7) rfl)) (hw _ (List.mem_of_getElem? (i := 111) rfl)) (nfSel (hw _ (List.mem_of_getElem? (i := 110) rfl))) (inD (i := 1) rfl) (c_eqSame hw o2) pdg_20 rfl (argsL := [.ref o2]) (rest := []) rfl rfl (Dr := [(tm4, .inl ("com/example/iffley/iffley/model/Term", [("com/example/iffley/iffley/model/Term", "text", "Ljava/lang/String;", .ref o2)])), (o2, .inl ("java/lang/String", [("java/lang/String", "value", "[B", .ref t3), ("java/lang/String", "coder", "B", .int 0)])), (t3, .inr (.byte, ([c0] : List Int32).map byV)), (o1, .inr (.char, [.int c0])), (v7, .inr (.char, [.int c0, .int c1, .int c2, .int c3]))]) rfl eN (G := ?_)
      rintro _ _ _ ⟨rfl, rfl, rfl⟩
      refine Go.norm (D2 := [(tm4, .inl ("com/example/iffley/iffley/model/Term", [("com/example/iffley/iffley/model/Term", "text", "Ljava/lang/String;", .ref o2)])), (o2, .inl ("java/lang/String", [("java/lang/String", "value", "[B", .ref t3), ("java/lang/String", "coder", "B", .int 0)])), (t3, .inr (.byte, ([c0] : List Int32).map byV)), (o1, .inr (.char, [.int c0])), (v7, .inr (.char, [.int c0, .int c1, .int c2, .int c3]))]) (S2 := []) (c2 := 9) (s2 := 71) (st2 := [.int 1]) ?_
      refine Go.ifc d37_333 (pc2 := 370) (Gy := fun h => absurd h (show ¬ ((1 : Int32) = 0) by decide)) (Gn := fun _ => ?_)
      refine Go.aload d37_336 rfl (G := ?_)
      refine Go.invokevirtual true d37_338 (hw _ (List.mem_of_getElem? (i := 112) rfl)) (hw _ (List.mem_of_getElem? (i := 113) rfl)) (hw _ (List.mem_of_getElem? (i := 115) rfl)) (hw _ (List.mem_of_getElem? (i := 114) rfl)) (hw _ (List.mem_of_getElem? (i := 39) rfl)) (hw _ (List.mem_of_getElem? (i := 116) rfl)) (nfSel (hw _ (List.mem_of_getElem? (i := 115) rfl))) (inD (i := 0) rfl) (c_isVar hw tm4 o2 t3 ([c0] : List Int32) 1 cpt fmt hCS hcpt hFM hfm rfl (by decide) (by decide) hlat c0 rfl) pdg_7 rfl (argsL := []) (rest := []) rfl rfl (Dr := [(tm4, .inl ("com/example/iffley/iffley/model/Term", [("com/example/iffley/iffley/model/Term", "text", "Ljava/lang/String;", .ref o2)])), (o2, .inl ("java/lang/String", [("java/lang/String", "value", "[B", .ref t3), ("java/lang/String", "coder", "B", .int 0)])), (t3, .inr (.byte, ([c0] : List Int32).map byV)), (o1, .inr (.char, [.int c0])), (v7, .inr (.char, [.int c0, .int c1, .int c2, .int c3]))]) rfl (eS (Or.inr ⟨rfl, List.mem_of_getElem? (i := 0) rfl⟩) (eS (Or.inr ⟨rfl, List.mem_of_getElem? (i := 1) rfl⟩) (eS (Or.inr ⟨rfl, List.mem_of_getElem? (i := 2) rfl⟩) eN))) (G := ?_)
      rintro _ _ _ ⟨r, hr, rfl, rfl, rfl⟩
      refine Go.norm (D2 := [(tm4, .inl ("com/example/iffley/iffley/model/Term", [("com/example/iffley/iffley/model/Term", "text", "Ljava/lang/String;", .ref o2)])), (o2, .inl ("java/lang/String", [("java/lang/String", "value", "[B", .ref t3), ("java/lang/String", "coder", "B", .int 0)])), (t3, .inr (.byte, ([c0] : List Int32).map byV)), (o1, .inr (.char, [.int c0])), (v7, .inr (.char, [.int c0, .int c1, .int c2, .int c3]))]) (S2 := []) (c2 := 9) (s2 := 71) (st2 := [.int r]) ?_
      refine Go.iload d37_341 rfl (G := ?_)
      refine Go.icmp d37_343 (pc2 := 370) (Gy := fun h => absurd h (show ¬ (¬ r = v) from (fun q => q (upeq hr hv)))) (Gn := fun _ => ?_)
      refine Go.aload d37_346 rfl (G := ?_)
      refine Go.new d37_348 (hw _ (List.mem_of_getElem? (i := 5) rfl)) (hw _ (List.mem_of_getElem? (i := 6) rfl)) (hw _ (List.mem_of_getElem? (i := 7) rfl)) (NewF.cons (Or.inr (hw _ (List.mem_of_getElem? (i := 33) rfl))) (ty := .array .byte) (by decide +kernel) rfl (by simp) (NewF.cons (Or.inr (hw _ (List.mem_of_getElem? (i := 31) rfl))) (ty := .byte) (by decide +kernel) rfl (by simp) NewF.nil)) (G := fun o5 => ?_)
      refine Go.dup d37_351 (G := ?_)
      refine Go.aload d37_352 rfl (G := ?_)
      refine Go.invokeinit true d37_354 rfl (hw _ (List.mem_of_getElem? (i := 8) rfl)) (hw _ (List.mem_of_getElem? (i := 9) rfl)) (hw _ (List.mem_of_getElem? (i := 7) rfl)) (hw _ (List.mem_of_getElem? (i := 10) rfl)) (c_init hw o5 o1 ([c0] : List Int32) 1 [] cpt hCS hcpt rfl (by decide) (by decide) (fun c hc => nlat (hlat c hc))) pdg_21 rfl (argsL := [.ref o1]) (rest := [.ref o5, .ref tm4]) rfl rfl (Dr := [(tm4, .inl ("com/example/iffley/iffley/model/Term", [("com/example/iffley/iffley/model/Term", "text", "Ljava/lang/String;", .ref o2)])), (o2, .inl ("java/lang/String", [("java/lang/String", "value", "[B", .ref t3), ("java/lang/String", "coder", "B", .int 0)])), (t3, .inr (.byte, ([c0] : List Int32).map byV)), (o1, .inr (.char, [.int c0])), (v7, .inr (.char, [.int c0, .int c1, .int c2, .int c3]))]) rfl (eS (Or.inr ⟨rfl, List.mem_of_getElem? (i := 3) rfl⟩) eN) (G := ?_)
      rintro _ _ _ ⟨t6, rfl, rfl, rfl⟩
      refine Go.norm (D2 := [(o5, .inl ("java/lang/String", [("java/lang/String", "value", "[B", .ref t6), ("java/lang/String", "coder", "B", .int 0)])), (t6, .inr (.byte, ([c0] : List Int32).map byV)), (tm4, .inl ("com/example/iffley/iffley/model/Term", [("com/example/iffley/iffley/model/Term", "text", "Ljava/lang/String;", .ref o2)])), (o2, .inl ("java/lang/String", [("java/lang/String", "value", "[B", .ref t3), ("java/lang/String", "coder", "B", .int 0)])), (t3, .inr (.byte, ([c0] : List Int32).map byV)), (o1, .inr (.char, [.int c0])), (v7, .inr (.char, [.int c0, .int c1, .int c2, .int c3]))]) (S2 := []) (c2 := 11) (s2 := 76) (st2 := [.ref o5, .ref tm4]) ?_
      refine Go.invokestatic true d37_357 (hw _ (List.mem_of_getElem? (i := 37) rfl)) (hw _ (List.mem_of_getElem? (i := 38) rfl)) (hw _ (List.mem_of_getElem? (i := 39) rfl)) (hw _ (List.mem_of_getElem? (i := 40) rfl)) (c_parse hw o5 t6 ([c0] : List Int32) 1 cpt fmt hCS hcpt hFM hfm rfl (by decide) (by decide) hlat hg hb1 hE_Term_65 hE_Term_13) pdg_22 rfl (argsL := [.ref o5]) (rest := [.ref tm4]) rfl rfl (Dr := [(o5, .inl ("java/lang/String", [("java/lang/String", "value", "[B", .ref t6), ("java/lang/String", "coder", "B", .int 0)])), (t6, .inr (.byte, ([c0] : List Int32).map byV)), (tm4, .inl ("com/example/iffley/iffley/model/Term", [("com/example/iffley/iffley/model/Term", "text", "Ljava/lang/String;", .ref o2)])), (o2, .inl ("java/lang/String", [("java/lang/String", "value", "[B", .ref t3), ("java/lang/String", "coder", "B", .int 0)])), (t3, .inr (.byte, ([c0] : List Int32).map byV)), (o1, .inr (.char, [.int c0])), (v7, .inr (.char, [.int c0, .int c1, .int c2, .int c3]))]) rfl (eS (Or.inr ⟨rfl, List.mem_of_getElem? (i := 0) rfl⟩) (eS (Or.inr ⟨rfl, List.mem_of_getElem? (i := 1) rfl⟩) eN)) (G := ?_)
      rintro _ _ _ ⟨tm7, rfl, rfl, rfl⟩
      refine Go.norm (D2 := [(tm7, .inl ("com/example/iffley/iffley/model/Term", [("com/example/iffley/iffley/model/Term", "text", "Ljava/lang/String;", .ref o5)])), (o5, .inl ("java/lang/String", [("java/lang/String", "value", "[B", .ref t6), ("java/lang/String", "coder", "B", .int 0)])), (t6, .inr (.byte, ([c0] : List Int32).map byV)), (tm4, .inl ("com/example/iffley/iffley/model/Term", [("com/example/iffley/iffley/model/Term", "text", "Ljava/lang/String;", .ref o2)])), (o2, .inl ("java/lang/String", [("java/lang/String", "value", "[B", .ref t3), ("java/lang/String", "coder", "B", .int 0)])), (t3, .inr (.byte, ([c0] : List Int32).map byV)), (o1, .inr (.char, [.int c0])), (v7, .inr (.char, [.int c0, .int c1, .int c2, .int c3]))]) (S2 := []) (c2 := 16) (s2 := 137) (st2 := [.ref tm7, .ref tm4]) ?_
      refine Go.ne 4 1 rfl rfl (by decide) (fun hne => ?_)
      refine Go.invokevirtual true d37_360 (hw _ (List.mem_of_getElem? (i := 117) rfl)) (hw _ (List.mem_of_getElem? (i := 118) rfl)) (hw _ (List.mem_of_getElem? (i := 120) rfl)) (hw _ (List.mem_of_getElem? (i := 119) rfl)) (hw _ (List.mem_of_getElem? (i := 39) rfl)) (hw _ (List.mem_of_getElem? (i := 121) rfl)) (nfSel (hw _ (List.mem_of_getElem? (i := 120) rfl))) (inD (i := 3) rfl) (c_te hw tm4 tm7 o2 t3 o5 t6 ([c0] : List Int32) ([c0] : List Int32) 1 1 cpt hCS hcpt hne rfl rfl (by decide) (by decide) hlat hlat) pdg_20 rfl (argsL := [.ref tm7]) (rest := []) rfl rfl (Dr := [(tm7, .inl ("com/example/iffley/iffley/model/Term", [("com/example/iffley/iffley/model/Term", "text", "Ljava/lang/String;", .ref o5)])), (o5, .inl ("java/lang/String", [("java/lang/String", "value", "[B", .ref t6), ("java/lang/String", "coder", "B", .int 0)])), (t6, .inr (.byte, ([c0] : List Int32).map byV)), (tm4, .inl ("com/example/iffley/iffley/model/Term", [("com/example/iffley/iffley/model/Term", "text", "Ljava/lang/String;", .ref o2)])), (o2, .inl ("java/lang/String", [("java/lang/String", "value", "[B", .ref t3), ("java/lang/String", "coder", "B", .int 0)])), (t3, .inr (.byte, ([c0] : List Int32).map byV)), (o1, .inr (.char, [.int c0])), (v7, .inr (.char, [.int c0, .int c1, .int c2, .int c3]))]) rfl (eS (Or.inr ⟨rfl, List.mem_of_getElem? (i := 3) rfl⟩) (eS (Or.inr ⟨rfl, List.mem_of_getElem? (i := 0) rfl⟩) (eS (Or.inr ⟨rfl, List.mem_of_getElem? (i := 4) rfl⟩) (eS (Or.inr ⟨rfl, List.mem_of_getElem? (i := 5) rfl⟩) (eS (Or.inr ⟨rfl, List.mem_of_getElem? (i := 1) rfl⟩) (eS (Or.inr ⟨rfl, List.mem_of_getElem? (i := 2) rfl⟩) eN)))))) (G := ?_)
      rintro _ _ _ ⟨r2, hr2, rfl, rfl, rfl⟩
      refine Go.norm (D2 := [(tm7, .inl ("com/example/iffley/iffley/model/Term", [("com/example/iffley/iffley/model/Term", "text", "Ljava/lang/String;", .ref o5)])), (o5, .inl ("java/lang/String", [("java/lang/String", "value", "[B", .ref t6), ("java/lang/String", "coder", "B", .int 0)])), (t6, .inr (.byte, ([c0] : List Int32).map byV)), (tm4, .inl ("com/example/iffley/iffley/model/Term", [("com/example/iffley/iffley/model/Term", "text", "Ljava/lang/String;", .ref o2)])), (o2, .inl ("java/lang/String", [("java/lang/String", "value", "[B", .ref t3), ("java/lang/String", "coder", "B", .int 0)])), (t3, .inr (.byte, ([c0] : List Int32).map byV)), (o1, .inr (.char, [.int c0])), (v7, .inr (.char, [.int c0, .int c1, .int c2, .int c3]))]) (S2 := []) (c2 := 16) (s2 := 137) (st2 := [.int r2]) ?_
      refine Go.ifc d37_363 (pc2 := 370) (Gy := fun h => absurd h (show ¬ (r2 = 0) from (fun q => bF hr2 q rfl))) (Gn := fun _ => ?_)
      refine Go.iconst d37_366 (v := 1) rfl (G := ?_)
      refine Go.goto d37_367 (pc2 := 371) (G := ?_)
      refine Go.sub [] (by decide) rfl (D' := []) rfl (S' := []) eN (G := ?_)
      exact Go.retB d37_371 (by simp) (z' := 1) rfl ⟨rfl, rfl, rfl⟩
    refine Go.aload d37_298 rfl (G := ?_)
    refine Go.iconst d37_300 (v := 0) rfl (G := ?_)
    refine Go.caload d37_301 (inD (i := 4) rfl) rfl (G := ?_)
    refine Go.bipush d37_302 (v := 65) rfl (G := ?_)
    refine Go.icmp d37_304 (pc2 := 320) (Gy := fun h8 => ?_) (Gn := fun h8 => ?_)
    · have h8 : c0 < 65 := h8
      refine Go.iconst d37_320 (v := 0) rfl (G := ?_)
      refine Go.istore d37_321 (Ls' := #[.val (.int a), .val (.int bq), .val (.int c), .val (.int d), .val (.int f), .val (.int 1), .val (.int iri), .val (.ref v7), .val (.ref o1), .val (.ref o2), .val (.int ri), .val (.int rq), .val (.ref tm4), .val (.int 0)]) rfl (G := ?_)
      exact mainV 0 (Or.inr ⟨rfl, by simp only [upP, Int32.lt_iff_toInt_lt, ← Int32.toInt_inj, Int32.reduceToInt] at h8 ⊢; omega⟩)
    · have h8 : ¬ c0 < 65 := h8
      refine Go.aload d37_307 rfl (G := ?_)
      refine Go.iconst d37_309 (v := 0) rfl (G := ?_)
      refine Go.caload d37_310 (inD (i := 4) rfl) rfl (G := ?_)
      refine Go.bipush d37_311 (v := 90) rfl (G := ?_)
      refine Go.icmp d37_313 (pc2 := 320) (Gy := fun h9 => ?_) (Gn := fun h9 => ?_)
      · have h9 : 90 < c0 := h9
        refine Go.iconst d37_320 (v := 0) rfl (G := ?_)
        refine Go.istore d37_321 (Ls' := #[.val (.int a), .val (.int bq), .val (.int c), .val (.int d), .val (.int f), .val (.int 1), .val (.int iri), .val (.ref v7), .val (.ref o1), .val (.ref o2), .val (.int ri), .val (.int rq), .val (.ref tm4), .val (.int 0)]) rfl (G := ?_)
        exact mainV 0 (Or.inr ⟨rfl, by simp only [upP, Int32.lt_iff_toInt_lt, ← Int32.toInt_inj, Int32.reduceToInt] at h8 h9 ⊢; omega⟩)
      · have h9 : ¬ 90 < c0 := h9
        refine Go.iconst d37_316 (v := 1) rfl (G := ?_)
        refine Go.goto d37_317 (pc2 := 321) (G := ?_)
        refine Go.istore d37_321 (Ls' := #[.val (.int a), .val (.int bq), .val (.int c), .val (.int d), .val (.int f), .val (.int 1), .val (.int iri), .val (.ref v7), .val (.ref o1), .val (.ref o2), .val (.int ri), .val (.int rq), .val (.ref tm4), .val (.int 1)]) rfl (G := ?_)
        exact mainV 1 (Or.inl ⟨rfl, by simp only [upP, Int32.lt_iff_toInt_lt, ← Int32.toInt_inj, Int32.reduceToInt] at h8 h9 ⊢; omega⟩)
  have mainB : ∀ ri rq : Int32, (ri = 0 ∨ idP ([c0] : List Int32)) → (rq = 0 ∨ iriP ([c0] : List Int32) 1) → Go l Z a0 EL b n0 "com/example/iffley/iffley/model/TermParsePinLaw" code 14 (some .boolean) "law" room_1 [] (fun v D' S' => v = some (.int 1) ∧ D' = [] ∧ S' = []) [(o2, .inl ("java/lang/String", [("java/lang/String", "value", "[B", .ref t3), ("java/lang/String", "coder", "B", .int 0)])), (t3, .inr (.byte, ([c0] : List Int32).map byV)), (o1, .inr (.char, [.int c0])), (v7, .inr (.char, [.int c0, .int c1, .int c2, .int c3]))] [] 4 10 279 #[.val (.int a), .val (.int bq), .val (.int c), .val (.int d), .val (.int f), .val (.int 1), .val (.int iri), .val (.ref v7), .val (.ref o1), .val (.ref o2), .val (.int ri), .val (.int rq), .unset, .unset] [] := by
    intro ri rq hI hQ
    refine Go.iload d37_279 rfl (G := ?_)
    refine Go.ifc d37_281 (pc2 := 291) (Gy := fun h => ?_) (Gn := fun h => ?_)
    · have h : ¬ ri = 0 := h
      exact mainA ri rq (Or.inl (hI.resolve_left h))
    · have h : ri = 0 := Classical.not_not.mp h
      refine Go.iload d37_284 rfl (G := ?_)
      refine Go.ifc d37_286 (pc2 := 291) (Gy := fun h2 => ?_) (Gn := fun h2 => ?_)
      · have h2 : ¬ rq = 0 := h2
        exact mainA ri rq (Or.inr (hQ.resolve_left h2))
      · have h2 : rq = 0 := Classical.not_not.mp h2
        refine Go.iconst d37_289 (v := 1) rfl (G := ?_)
        refine Go.sub [] (by decide) rfl (D' := []) rfl (S' := []) eN (G := ?_)
        exact Go.retB d37_290 (by simp) (z' := 1) rfl ⟨rfl, rfl, rfl⟩
  have mainC : ∀ ri : Int32, (ri = 0 ∨ idP ([c0] : List Int32)) → Go l Z a0 EL b n0 "com/example/iffley/iffley/model/TermParsePinLaw" code 14 (some .boolean) "law" room_1 [] (fun v D' S' => v = some (.int 1) ∧ D' = [] ∧ S' = []) [(o2, .inl ("java/lang/String", [("java/lang/String", "value", "[B", .ref t3), ("java/lang/String", "coder", "B", .int 0)])), (t3, .inr (.byte, ([c0] : List Int32).map byV)), (o1, .inr (.char, [.int c0])), (v7, .inr (.char, [.int c0, .int c1, .int c2, .int c3]))] [] 4 10 213 #[.val (.int a), .val (.int bq), .val (.int c), .val (.int d), .val (.int f), .val (.int 1), .val (.int iri), .val (.ref v7), .val (.ref o1), .val (.ref o2), .val (.int ri), .unset, .unset, .unset] [] := by
    intro ri hI
    refine Go.iload d37_213 rfl (G := ?_)
    refine Go.iconst d37_215 (v := 2) rfl (G := ?_)
    refine Go.icmp d37_216 (pc2 := 276) (Gy := fun _ => ?_) (Gn := fun h => absurd (show (1 : Int32) < 2 by decide) h)
    refine Go.iconst d37_276 (v := 0) rfl (G := ?_)
    refine Go.istore d37_277 (Ls' := #[.val (.int a), .val (.int bq), .val (.int c), .val (.int d), .val (.int f), .val (.int 1), .val (.int iri), .val (.ref v7), .val (.ref o1), .val (.ref o2), .val (.int ri), .val (.int 0), .unset, .unset]) rfl (G := ?_)
    exact mainB ri 0 hI (Or.inl rfl)
  refine Go.aload d37_148 rfl (G := ?_)
  refine Go.iconst d37_150 (v := 0) rfl (G := ?_)
  refine Go.caload d37_151 (inD (i := 3) rfl) rfl (G := ?_)
  refine Go.invokestatic false d37_152 (hw _ (List.mem_of_getElem? (i := 34) rfl)) (hw _ (List.mem_of_getElem? (i := 35) rfl)) (hw _ (List.mem_of_getElem? (i := 3) rfl)) (hw _ (List.mem_of_getElem? (i := 36) rfl)) (c_let2 hw c0) pdg_14 rfl (argsL := [.int c0]) (rest := []) rfl rfl (Dr := [(o2, .inl ("java/lang/String", [("java/lang/String", "value", "[B", .ref t3), ("java/lang/String", "coder", "B", .int 0)])), (t3, .inr (.byte, ([c0] : List Int32).map byV)), (o1, .inr (.char, [.int c0])), (v7, .inr (.char, [.int c0, .int c1, .int c2, .int c3]))]) rfl eN (G := ?_)
  rintro _ _ _ ⟨r11, hr11, rfl, rfl, rfl⟩
  refine Go.norm (D2 := [(o2, .inl ("java/lang/String", [("java/lang/String", "value", "[B", .ref t3), ("java/lang/String", "coder", "B", .int 0)])), (t3, .inr (.byte, ([c0] : List Int32).map byV)), (o1, .inr (.char, [.int c0])), (v7, .inr (.char, [.int c0, .int c1, .int c2, .int c3]))]) (S2 := []) (c2 := 4) (s2 := 10) (st2 := [.int r11]) ?_
  refine Go.ifc d37_155 (pc2 := 210) (Gy := fun h12 => ?_) (Gn := fun h12 => ?_)
  · have h12 : r11 = 0 := h12
    refine Go.iconst d37_210 (v := 0) rfl (G := ?_)
    refine Go.istore d37_211 (Ls' := #[.val (.int a), .val (.int bq), .val (.int c), .val (.int d), .val (.int f), .val (.int 1), .val (.int iri), .val (.ref v7), .val (.ref o1), .val (.ref o2), .val (.int 0), .unset, .unset, .unset]) rfl (G := ?_)
    exact mainC 0 (Or.inl rfl)
  · have h12 : ¬ r11 = 0 := h12
    refine Go.iload d37_158 rfl (G := ?_)
    refine Go.iconst d37_160 (v := 2) rfl (G := ?_)
    refine Go.icmp d37_161 (pc2 := 174) (Gy := fun _ => ?_) (Gn := fun h => absurd (show (1 : Int32) < 2 by decide) h)
    refine Go.iload d37_174 rfl (G := ?_)
    refine Go.iconst d37_176 (v := 3) rfl (G := ?_)
    refine Go.icmp d37_177 (pc2 := 190) (Gy := fun _ => ?_) (Gn := fun h => absurd (show (1 : Int32) < 3 by decide) h)
    refine Go.iload d37_190 rfl (G := ?_)
    refine Go.iconst d37_192 (v := 4) rfl (G := ?_)
    refine Go.icmp d37_193 (pc2 := 206) (Gy := fun _ => ?_) (Gn := fun h => absurd (show (1 : Int32) < 4 by decide) h)
    refine Go.iconst d37_206 (v := 1) rfl (G := ?_)
    refine Go.goto d37_207 (pc2 := 211) (G := ?_)
    refine Go.istore d37_211 (Ls' := #[.val (.int a), .val (.int bq), .val (.int c), .val (.int d), .val (.int f), .val (.int 1), .val (.int iri), .val (.ref v7), .val (.ref o1), .val (.ref o2), .val (.int 1), .unset, .unset, .unset]) rfl (G := ?_)
    exact mainC 1 (Or.inr (idP_of (bT hr11 h12) eN))
set_option maxRecDepth 65536 in
set_option maxHeartbeats 40000000 in
theorem lw_2 {l : Launch} {Z : State} {a0 : Array Value} {EL : List (String × Nat)} {b : Bool} {n0 : Nat} (hw : ∀ d ∈ tables_1, d.before a0 Z = true) (a bq c d f iri c0 c1 c2 c3 : Int32) (v7 : Addr) (hc0 : 0 ≤ c0.toInt ∧ c0.toInt ≤ 255) (hc1 : 0 ≤ c1.toInt ∧ c1.toInt ≤ 255) (hc2 : 0 ≤ c2.toInt ∧ c2.toInt ≤ 255) (hc3 : 0 ≤ c3.toInt ∧ c3.toInt ≤ 255) (cpt : Int32) (fmt : Value) (hCS : Sta Z Z.heap "java/lang/String" "COMPACT_STRINGS" "Z" (.int cpt)) (hcpt : ¬ cpt = 0) (hFM : Sta Z Z.heap "jdk/internal/util/Preconditions" "SIOOBE_FORMATTER" "Ljava/util/function/BiFunction;" fmt) (hfm : fmt.isRef = true) (hb1 : b = true) (hE_Term_65 : ("com/example/iffley/iffley/model/Term", 65) ∈ EL) (hE_Term_13 : ("com/example/iffley/iffley/model/Term", 13) ∈ EL) :
    Go l Z a0 EL b n0 "com/example/iffley/iffley/model/TermParsePinLaw" code 14 (some .boolean) "law" room_1 [] (fun v D' S' => v = some (.int 1) ∧ D' = [] ∧ S' = []) [(v7, .inr (.char, [.int c0, .int c1, .int c2, .int c3]))] [] 1 4 81 #[.val (.int a), .val (.int bq), .val (.int c), .val (.int d), .val (.int f), .val (.int 2), .val (.int iri), .val (.ref v7), .unset, .unset, .unset, .unset, .unset, .unset] [] := by
  have hlat : ∀ c ∈ ([c0, c1] : List Int32), 0 ≤ c.toInt ∧ c.toInt ≤ 255 := (eS hc0 (eS hc1 eN))
  refine Go.iload d37_81 rfl (G := ?_)
  refine Go.newarray d37_83 (hw _ (List.mem_of_getElem? (i := 0) rfl)) (k := 2) rfl (by decide) (by decide) (vs := [.int 0, .int 0]) rfl (G := fun o1 => ?_)
  refine Go.astore d37_85 (Ls' := #[.val (.int a), .val (.int bq), .val (.int c), .val (.int d), .val (.int f), .val (.int 2), .val (.int iri), .val (.ref v7), .val (.ref o1), .unset, .unset, .unset, .unset, .unset]) rfl (G := ?_)
  refine Go.aload d37_87 rfl (G := ?_)
  refine Go.iconst d37_89 (v := 0) rfl (G := ?_)
  refine Go.aload d37_90 rfl (G := ?_)
  refine Go.iconst d37_92 (v := 0) rfl (G := ?_)
  refine Go.caload d37_93 (inD (i := 1) rfl) rfl (G := ?_)
  refine Go.castore d37_94 0 rfl (x' := c0) (nc_of hc0) (Nat.le_of_ble_eq_true rfl) (D' := [(o1, .inr (.char, [.int c0, .int 0])), (v7, .inr (.char, [.int c0, .int c1, .int c2, .int c3]))]) rfl (G := ?_)
  refine Go.iload d37_95 rfl (G := ?_)
  refine Go.iconst d37_97 (v := 1) rfl (G := ?_)
  refine Go.icmp d37_98 (pc2 := 109) (Gy := fun h => absurd h (show ¬ (¬ (1 : Int32) < 2) by decide)) (Gn := fun _ => ?_)
  refine Go.aload d37_101 rfl (G := ?_)
  refine Go.iconst d37_103 (v := 1) rfl (G := ?_)
  refine Go.aload d37_104 rfl (G := ?_)
  refine Go.iconst d37_106 (v := 1) rfl (G := ?_)
  refine Go.caload d37_107 (inD (i := 1) rfl) rfl (G := ?_)
  refine Go.castore d37_108 0 rfl (x' := c1) (nc_of hc1) (Nat.le_of_ble_eq_true rfl) (D' := [(o1, .inr (.char, [.int c0, .int c1])), (v7, .inr (.char, [.int c0, .int c1, .int c2, .int c3]))]) rfl (G := ?_)
  refine Go.iload d37_109 rfl (G := ?_)
  refine Go.iconst d37_111 (v := 2) rfl (G := ?_)
  refine Go.icmp d37_112 (pc2 := 123) (Gy := fun _ => ?_) (Gn := fun h => absurd (show ¬ (2 : Int32) < 2 by decide) h)
  refine Go.iload d37_123 rfl (G := ?_)
  refine Go.iconst d37_125 (v := 3) rfl (G := ?_)
  refine Go.icmp d37_126 (pc2 := 137) (Gy := fun _ => ?_) (Gn := fun h => absurd (show ¬ (3 : Int32) < 2 by decide) h)
  refine Go.new d37_137 (hw _ (List.mem_of_getElem? (i := 5) rfl)) (hw _ (List.mem_of_getElem? (i := 6) rfl)) (hw _ (List.mem_of_getElem? (i := 7) rfl)) (NewF.cons (Or.inr (hw _ (List.mem_of_getElem? (i := 33) rfl))) (ty := .array .byte) (by decide +kernel) rfl (by simp) (NewF.cons (Or.inr (hw _ (List.mem_of_getElem? (i := 31) rfl))) (ty := .byte) (by decide +kernel) rfl (by simp) NewF.nil)) (G := fun o2 => ?_)
  refine Go.dup d37_140 (G := ?_)
  refine Go.aload d37_141 rfl (G := ?_)
  refine Go.invokeinit true d37_143 rfl (hw _ (List.mem_of_getElem? (i := 8) rfl)) (hw _ (List.mem_of_getElem? (i := 9) rfl)) (hw _ (List.mem_of_getElem? (i := 7) rfl)) (hw _ (List.mem_of_getElem? (i := 10) rfl)) (c_init hw o2 o1 ([c0, c1] : List Int32) 2 [] cpt hCS hcpt rfl (by decide) (by decide) (fun c hc => nlat (hlat c hc))) pdg_21 rfl (argsL := [.ref o1]) (rest := [.ref o2]) rfl rfl (Dr := [(o1, .inr (.char, [.int c0, .int c1])), (v7, .inr (.char, [.int c0, .int c1, .int c2, .int c3]))]) rfl (eS (Or.inr ⟨rfl, List.mem_of_getElem? (i := 0) rfl⟩) eN) (G := ?_)
  rintro _ _ _ ⟨t3, rfl, rfl, rfl⟩
  refine Go.norm (D2 := [(o2, .inl ("java/lang/String", [("java/lang/String", "value", "[B", .ref t3), ("java/lang/String", "coder", "B", .int 0)])), (t3, .inr (.byte, ([c0, c1] : List Int32).map byV)), (o1, .inr (.char, [.int c0, .int c1])), (v7, .inr (.char, [.int c0, .int c1, .int c2, .int c3]))]) (S2 := []) (c2 := 4) (s2 := 12) (st2 := [.ref o2]) ?_
  refine Go.astore d37_146 (Ls' := #[.val (.int a), .val (.int bq), .val (.int c), .val (.int d), .val (.int f), .val (.int 2), .val (.int iri), .val (.ref v7), .val (.ref o1), .val (.ref o2), .unset, .unset, .unset, .unset]) rfl (G := ?_)
  have mainA : ∀ ri rq : Int32, (idP ([c0, c1] : List Int32) ∨ iriP ([c0, c1] : List Int32) 2) → Go l Z a0 EL b n0 "com/example/iffley/iffley/model/TermParsePinLaw" code 14 (some .boolean) "law" room_1 [] (fun v D' S' => v = some (.int 1) ∧ D' = [] ∧ S' = []) [(o2, .inl ("java/lang/String", [("java/lang/String", "value", "[B", .ref t3), ("java/lang/String", "coder", "B", .int 0)])), (t3, .inr (.byte, ([c0, c1] : List Int32).map byV)), (o1, .inr (.char, [.int c0, .int c1])), (v7, .inr (.char, [.int c0, .int c1, .int c2, .int c3]))] [] 4 12 291 #[.val (.int a), .val (.int bq), .val (.int c), .val (.int d), .val (.int f), .val (.int 2), .val (.int iri), .val (.ref v7), .val (.ref o1), .val (.ref o2), .val (.int ri), .val (.int rq), .unset, .unset] [] := by
    intro ri rq hg
    refine Go.aload d37_291 rfl (G := ?_)
    refine Go.invokestatic true d37_293 (hw _ (List.mem_of_getElem? (i := 37) rfl)) (hw _ (List.mem_of_getElem? (i := 38) rfl)) (hw _ (List.mem_of_getElem? (i := 39) rfl)) (hw _ (List.mem_of_getElem? (i := 40) rfl)) (c_parse hw o2 t3 ([c0, c1] : List Int32) 2 cpt fmt hCS hcpt hFM hfm rfl (by decide) (by decide) hlat hg hb1 hE_Term_65 hE_Term_13) pdg_22 rfl (argsL := [.ref o2]) (rest := []) rfl rfl (Dr := [(o2, .inl ("java/lang/String", [("java/lang/String", "value", "[B", .ref t3), ("java/lang/String", "coder", "B", .int 0)])), (t3, .inr (.byte, ([c0, c1] : List Int32).map byV)), (o1, .inr (.char, [.int c0, .int c1])), (v7, .inr (.char, [.int c0, .int c1, .int c2, .int c3]))]) rfl (eS (Or.inr ⟨rfl, List.mem_of_getElem? (i := 0) rfl⟩) (eS (Or.inr ⟨rfl, List.mem_of_getElem? (i := 1) rfl⟩) eN)) (G := ?_)
    rintro _ _ _ ⟨tm4, rfl, rfl, rfl⟩
    refine Go.norm (D2 := [(tm4, .inl ("com/example/iffley/iffley/model/Term", [("com/example/iffley/iffley/model/Term", "text", "Ljava/lang/String;", .ref o2)])), (o2, .inl ("java/lang/String", [("java/lang/String", "value", "[B", .ref t3), ("java/lang/String", "coder", "B", .int 0)])), (t3, .inr (.byte, ([c0, c1] : List Int32).map byV)), (o1, .inr (.char, [.int c0, .int c1])), (v7, .inr (.char, [.int c0, .int c1, .int c2, .int c3]))]) (S2 := []) (c2 := 11) (s2 := 113) (st2 := [.ref tm4]) ?_
    refine Go.astore d37_296 (Ls' := #[.val (.int a), .val (.int bq), .val (.int c), .val (.int d), .val (.int f), .val (.int 2), .val (.int iri), .val (.ref v7), .val (.ref o1), .val (.ref o2), .val (.int ri), .val (.int rq), .val (.ref tm4), .unset]) rfl (G := ?_)
    have mainV : ∀ v : Int32, ((v = 1 ∧ upP c0) ∨ (v = 0 ∧ ¬ upP c0)) → Go l Z a0 EL b n0 "com/example/iffley/iffley/model/TermParsePinLaw" code 14 (some .boolean) "law" room_1 [] (fun v D' S' => v = some (.int 1) ∧ D' = [] ∧ S' = []) [(tm4, .inl ("com/example/iffley/iffley/model/Term", [("com/example/iffley/iffley/model/Term", "text", "Ljava/lang/String;", .ref o2)])), (o2, .inl ("java/lang/String", [("java/lang/String", "value", "[B", .ref t3), ("java/lang/String", "coder", "B", .int 0)])), (t3, .inr (.byte, ([c0, c1] : List Int32).map byV)), (o1, .inr (.char, [.int c0, .int c1])), (v7, .inr (.char, [.int c0, .int c1, .int c2, .int c3]))] [] 11 113 323 #[.val (.int a), .val (.int bq), .val (.int c), .val (.int d), .val (.int f), .val (.int 2), .val (.int iri), .val (.ref v7), .val (.ref o1), .val (.ref o2), .val (.int ri), .val (.int rq), .val (.ref tm4), .val (.int v)] [] := by
      intro v hv
      refine Go.aload d37_323 rfl (G := ?_)
      refine Go.aload d37_325 rfl (G := ?_)
      refine Go.invokevirtual true d37_327 (hw _ (List.mem_of_getElem? (i := 102) rfl)) (hw _ (List.mem_of_getElem? (i := 103) rfl)) (hw _ (List.mem_of_getElem? (i := 105) rfl)) (hw _ (List.mem_of_getElem? (i := 104) rfl)) (hw _ (List.mem_of_getElem? (i := 39) rfl)) (hw _ (List.mem_of_getElem? (i := 106) rfl)) (nfSel (hw _ (List.mem_of_getElem? (i := 105) rfl))) (inD (i := 0) rfl) (c_tstr hw tm4 o2) pdg_23 rfl (argsL := []) (rest := [.ref o2]) rfl rfl (Dr := [(tm4, .inl ("com/example/iffley/iffley/model/Term", [("com/example/iffley/iffley/model/Term", "text", "Ljava/lang/String;", .ref o2)])), (o2, .inl ("java/lang/String", [("java/lang/String", "value", "[B", .ref t3), ("java/lang/String", "coder", "B", .int 0)])), (t3, .inr (.byte, ([c0, c1] : List Int32).map byV)), (o1, .inr (.char, [.int c0, .int c1])), (v7, .inr (.char, [.int c0, .int c1, .int c2, .int c3]))]) rfl (eS (Or.inr ⟨rfl, List.mem_of_getElem? (i := 0) rfl⟩) eN) (G := ?_)
      rintro _ _ _ ⟨rfl, rfl, rfl⟩
      refine Go.norm (D2 := [(tm4, .inl ("com/example/iffley/iffley/model/Term", [("com/example/iffley/iffley/model/Term", "text", "Ljava/lang/String;", .ref o2)])), (o2, .inl ("java/lang/String", [("java/lang/String", "value", "[B", .ref t3), ("java/lang/String", "coder", "B", .int 0)])), (t3, .inr (.byte, ([c0, c1] : List Int32).map byV)), (o1, .inr (.char, [.int c0, .int c1])), (v7, .inr (.char, [.int c0, .int c1, .int c2, .int c3]))]) (S2 := []) (c2 := 11) (s2 := 113) (st2 := [.ref o2, .ref o2]) ?_
      refine Go.invokevirtual false d37_330 (hw _ (List.mem_of_getElem? (i := 107) rfl)) (hw _ (List.mem_of_getElem? (i := 108) rfl)) (hw _ (List.mem_of_getElem? (i := 110) rfl)) (hw _ (List.mem_of_getElem? (i := 109) rfl)) (hw _ (List.mem_of_getElem? (i := 7) rfl)) (hw _ (List.mem_of_getElem? (i := 111) rfl)) (nfSel (hw _ (List.mem_of_getElem? (i := 110) rfl))) (inD (i := 1) rfl) (c_eqSame hw o2) pdg_20 rfl (argsL := [.ref o2]) (rest := []) rfl rfl (Dr := [(tm4, .inl ("com/example/iffley/iffley/model/Term", [("com/example/iffley/iffley/model/Term", "text", "Ljava/lang/String;", .ref o2)])), (o2, .inl ("java/lang/String", [("java/lang/String", "value", "[B", .ref t3), ("java/lang/String", "coder", "B", .int 0)])), (t3, .inr (.byte, ([c0, c1] : List Int32).map byV)), (o1, .inr (.char, [.int c0, .int c1])), (v7, .inr (.char, [.int c0, .int c1, .int c2, .int c3]))]) rfl eN (G := ?_)
      rintro _ _ _ ⟨rfl, rfl, rfl⟩
      refine Go.norm (D2 := [(tm4, .inl ("com/example/iffley/iffley/model/Term", [("com/example/iffley/iffley/model/Term", "text", "Ljava/lang/String;", .ref o2)])), (o2, .inl ("java/lang/String", [("java/lang/String", "value", "[B", .ref t3), ("java/lang/String", "coder", "B", .int 0)])), (t3, .inr (.byte, ([c0, c1] : List Int32).map byV)), (o1, .inr (.char, [.int c0, .int c1])), (v7, .inr (.char, [.int c0, .int c1, .int c2, .int c3]))]) (S2 := []) (c2 := 11) (s2 := 113) (st2 := [.int 1]) ?_
      refine Go.ifc d37_333 (pc2 := 370) (Gy := fun h => absurd h (show ¬ ((1 : Int32) = 0) by decide)) (Gn := fun _ => ?_)
      refine Go.aload d37_336 rfl (G := ?_)
      refine Go.invokevirtual true d37_338 (hw _ (List.mem_of_getElem? (i := 112) rfl)) (hw _ (List.mem_of_getElem? (i := 113) rfl)) (hw _ (List.mem_of_getElem? (i := 115) rfl)) (hw _ (List.mem_of_getElem? (i := 114) rfl)) (hw _ (List.mem_of_getElem? (i := 39) rfl)) (hw _ (List.mem_of_getElem? (i := 116) rfl)) (nfSel (hw _ (List.mem_of_getElem? (i := 115) rfl))) (inD (i := 0) rfl) (c_isVar hw tm4 o2 t3 ([c0, c1] : List Int32) 2 cpt fmt hCS hcpt hFM hfm rfl (by decide) (by decide) hlat c0 rfl) pdg_7 rfl (argsL := []) (rest := []) rfl rfl (Dr := [(tm4, .inl ("com/example/iffley/iffley/model/Term", [("com/example/iffley/iffley/model/Term", "text", "Ljava/lang/String;", .ref o2)])), (o2, .inl ("java/lang/String", [("java/lang/String", "value", "[B", .ref t3), ("java/lang/String", "coder", "B", .int 0)])), (t3, .inr (.byte, ([c0, c1] : List Int32).map byV)), (o1, .inr (.char, [.int c0, .int c1])), (v7, .inr (.char, [.int c0, .int c1, .int c2, .int c3]))]) rfl (eS (Or.inr ⟨rfl, List.mem_of_getElem? (i := 0) rfl⟩) (eS (Or.inr ⟨rfl, List.mem_of_getElem? (i := 1) rfl⟩) (eS (Or.inr ⟨rfl, List.mem_of_getElem? (i := 2) rfl⟩) eN))) (G := ?_)
      rintro _ _ _ ⟨r, hr, rfl, rfl, rfl⟩
      refine Go.norm (D2 := [(tm4, .inl ("com/example/iffley/iffley/model/Term", [("com/example/iffley/iffley/model/Term", "text", "Ljava/lang/String;", .ref o2)])), (o2, .inl ("java/lang/String", [("java/lang/String", "value", "[B", .ref t3), ("java/lang/String", "coder", "B", .int 0)])), (t3, .inr (.byte, ([c0, c1] : List Int32).map byV)), (o1, .inr (.char, [.int c0, .int c1])), (v7, .inr (.char, [.int c0, .int c1, .int c2, .int c3]))]) (S2 := []) (c2 := 11) (s2 := 113) (st2 := [.int r]) ?_
      refine Go.iload d37_341 rfl (G := ?_)
      refine Go.icmp d37_343 (pc2 := 370) (Gy := fun h => absurd h (show ¬ (¬ r = v) from (fun q => q (upeq hr hv)))) (Gn := fun _ => ?_)
      refine Go.aload d37_346 rfl (G := ?_)
      refine Go.new d37_348 (hw _ (List.mem_of_getElem? (i := 5) rfl)) (hw _ (List.mem_of_getElem? (i := 6) rfl)) (hw _ (List.mem_of_getElem? (i := 7) rfl)) (NewF.cons (Or.inr (hw _ (List.mem_of_getElem? (i := 33) rfl))) (ty := .array .byte) (by decide +kernel) rfl (by simp) (NewF.cons (Or.inr (hw _ (List.mem_of_getElem? (i := 31) rfl))) (ty := .byte) (by decide +kernel) rfl (by simp) NewF.nil)) (G := fun o5 => ?_)
      refine Go.dup d37_351 (G := ?_)
      refine Go.aload d37_352 rfl (G := ?_)
      refine Go.invokeinit true d37_354 rfl (hw _ (List.mem_of_getElem? (i := 8) rfl)) (hw _ (List.mem_of_getElem? (i := 9) rfl)) (hw _ (List.mem_of_getElem? (i := 7) rfl)) (hw _ (List.mem_of_getElem? (i := 10) rfl)) (c_init hw o5 o1 ([c0, c1] : List Int32) 2 [] cpt hCS hcpt rfl (by decide) (by decide) (fun c hc => nlat (hlat c hc))) pdg_21 rfl (argsL := [.ref o1]) (rest := [.ref o5, .ref tm4]) rfl rfl (Dr := [(tm4, .inl ("com/example/iffley/iffley/model/Term", [("com/example/iffley/iffley/model/Term", "text", "Ljava/lang/String;", .ref o2)])), (o2, .inl ("java/lang/String", [("java/lang/String", "value", "[B", .ref t3), ("java/lang/String", "coder", "B", .int 0)])), (t3, .inr (.byte, ([c0, c1] : List Int32).map byV)), (o1, .inr (.char, [.int c0, .int c1])), (v7, .inr (.char, [.int c0, .int c1, .int c2, .int c3]))]) rfl (eS (Or.inr ⟨rfl, List.mem_of_getElem? (i := 3) rfl⟩) eN) (G := ?_)
      rintro _ _ _ ⟨t6, rfl, rfl, rfl⟩
      refine Go.norm (D2 := [(o5, .inl ("java/lang/String", [("java/lang/String", "value", "[B", .ref t6), ("java/lang/String", "coder", "B", .int 0)])), (t6, .inr (.byte, ([c0, c1] : List Int32).map byV)), (tm4, .inl ("com/example/iffley/iffley/model/Term", [("com/example/iffley/iffley/model/Term", "text", "Ljava/lang/String;", .ref o2)])), (o2, .inl ("java/lang/String", [("java/lang/String", "value", "[B", .ref t3), ("java/lang/String", "coder", "B", .int 0)])), (t3, .inr (.byte, ([c0, c1] : List Int32).map byV)), (o1, .inr (.char, [.int c0, .int c1])), (v7, .inr (.char, [.int c0, .int c1, .int c2, .int c3]))]) (S2 := []) (c2 := 13) (s2 := 119) (st2 := [.ref o5, .ref tm4]) ?_
      refine Go.invokestatic true d37_357 (hw _ (List.mem_of_getElem? (i := 37) rfl)) (hw _ (List.mem_of_getElem? (i := 38) rfl)) (hw _ (List.mem_of_getElem? (i := 39) rfl)) (hw _ (List.mem_of_getElem? (i := 40) rfl)) (c_parse hw o5 t6 ([c0, c1] : List Int32) 2 cpt fmt hCS hcpt hFM hfm rfl (by decide) (by decide) hlat hg hb1 hE_Term_65 hE_Term_13) pdg_22 rfl (argsL := [.ref o5]) (rest := [.ref tm4]) rfl rfl (Dr := [(o5, .inl ("java/lang/String", [("java/lang/String", "value", "[B", .ref t6), ("java/lang/String", "coder", "B", .int 0)])), (t6, .inr (.byte, ([c0, c1] : List Int32).map byV)), (tm4, .inl ("com/example/iffley/iffley/model/Term", [("com/example/iffley/iffley/model/Term", "text", "Ljava/lang/String;", .ref o2)])), (o2, .inl ("java/lang/String", [("java/lang/String", "value", "[B", .ref t3), ("java/lang/String", "coder", "B", .int 0)])), (t3, .inr (.byte, ([c0, c1] : List Int32).map byV)), (o1, .inr (.char, [.int c0, .int c1])), (v7, .inr (.char, [.int c0, .int c1, .int c2, .int c3]))]) rfl (eS (Or.inr ⟨rfl, List.mem_of_getElem? (i := 0) rfl⟩) (eS (Or.inr ⟨rfl, List.mem_of_getElem? (i := 1) rfl⟩) eN)) (G := ?_)
      rintro _ _ _ ⟨tm7, rfl, rfl, rfl⟩
      refine Go.norm (D2 := [(tm7, .inl ("com/example/iffley/iffley/model/Term", [("com/example/iffley/iffley/model/Term", "text", "Ljava/lang/String;", .ref o5)])), (o5, .inl ("java/lang/String", [("java/lang/String", "value", "[B", .ref t6), ("java/lang/String", "coder", "B", .int 0)])), (t6, .inr (.byte, ([c0, c1] : List Int32).map byV)), (tm4, .inl ("com/example/iffley/iffley/model/Term", [("com/example/iffley/iffley/model/Term", "text", "Ljava/lang/String;", .ref o2)])), (o2, .inl ("java/lang/String", [("java/lang/String", "value", "[B", .ref t3), ("java/lang/String", "coder", "B", .int 0)])), (t3, .inr (.byte, ([c0, c1] : List Int32).map byV)), (o1, .inr (.char, [.int c0, .int c1])), (v7, .inr (.char, [.int c0, .int c1, .int c2, .int c3]))]) (S2 := []) (c2 := 20) (s2 := 220) (st2 := [.ref tm7, .ref tm4]) ?_
      refine Go.ne 4 1 rfl rfl (by decide) (fun hne => ?_)
      refine Go.invokevirtual true d37_360 (hw _ (List.mem_of_getElem? (i := 117) rfl)) (hw _ (List.mem_of_getElem? (i := 118) rfl)) (hw _ (List.mem_of_getElem? (i := 120) rfl)) (hw _ (List.mem_of_getElem? (i := 119) rfl)) (hw _ (List.mem_of_getElem? (i := 39) rfl)) (hw _ (List.mem_of_getElem? (i := 121) rfl)) (nfSel (hw _ (List.mem_of_getElem? (i := 120) rfl))) (inD (i := 3) rfl) (c_te hw tm4 tm7 o2 t3 o5 t6 ([c0, c1] : List Int32) ([c0, c1] : List Int32) 2 2 cpt hCS hcpt hne rfl rfl (by decide) (by decide) hlat hlat) pdg_20 rfl (argsL := [.ref tm7]) (rest := []) rfl rfl (Dr := [(tm7, .inl ("com/example/iffley/iffley/model/Term", [("com/example/iffley/iffley/model/Term", "text", "Ljava/lang/String;", .ref o5)])), (o5, .inl ("java/lang/String", [("java/lang/String", "value", "[B", .ref t6), ("java/lang/String", "coder", "B", .int 0)])), (t6, .inr (.byte, ([c0, c1] : List Int32).map byV)), (tm4, .inl ("com/example/iffley/iffley/model/Term", [("com/example/iffley/iffley/model/Term", "text", "Ljava/lang/String;", .ref o2)])), (o2, .inl ("java/lang/String", [("java/lang/String", "value", "[B", .ref t3), ("java/lang/String", "coder", "B", .int 0)])), (t3, .inr (.byte, ([c0, c1] : List Int32).map byV)), (o1, .inr (.char, [.int c0, .int c1])), (v7, .inr (.char, [.int c0, .int c1, .int c2, .int c3]))]) rfl (eS (Or.inr ⟨rfl, List.mem_of_getElem? (i := 3) rfl⟩) (eS (Or.inr ⟨rfl, List.mem_of_getElem? (i := 0) rfl⟩) (eS (Or.inr ⟨rfl, List.mem_of_getElem? (i := 4) rfl⟩) (eS (Or.inr ⟨rfl, List.mem_of_getElem? (i := 5) rfl⟩) (eS (Or.inr ⟨rfl, List.mem_of_getElem? (i := 1) rfl⟩) (eS (Or.inr ⟨rfl, List.mem_of_getElem? (i := 2) rfl⟩) eN)))))) (G := ?_)
      rintro _ _ _ ⟨r2, hr2, rfl, rfl, rfl⟩
      refine Go.norm (D2 := [(tm7, .inl ("com/example/iffley/iffley/model/Term", [("com/example/iffley/iffley/model/Term", "text", "Ljava/lang/String;", .ref o5)])), (o5, .inl ("java/lang/String", [("java/lang/String", "value", "[B", .ref t6), ("java/lang/String", "coder", "B", .int 0)])), (t6, .inr (.byte, ([c0, c1] : List Int32).map byV)), (tm4, .inl ("com/example/iffley/iffley/model/Term", [("com/example/iffley/iffley/model/Term", "text", "Ljava/lang/String;", .ref o2)])), (o2, .inl ("java/lang/String", [("java/lang/String", "value", "[B", .ref t3), ("java/lang/String", "coder", "B", .int 0)])), (t3, .inr (.byte, ([c0, c1] : List Int32).map byV)), (o1, .inr (.char, [.int c0, .int c1])), (v7, .inr (.char, [.int c0, .int c1, .int c2, .int c3]))]) (S2 := []) (c2 := 20) (s2 := 220) (st2 := [.int r2]) ?_
      refine Go.ifc d37_363 (pc2 := 370) (Gy := fun h => absurd h (show ¬ (r2 = 0) from (fun q => bF hr2 q rfl))) (Gn := fun _ => ?_)
      refine Go.iconst d37_366 (v := 1) rfl (G := ?_)
      refine Go.goto d37_367 (pc2 := 371) (G := ?_)
      refine Go.sub [] (by decide) rfl (D' := []) rfl (S' := []) eN (G := ?_)
      exact Go.retB d37_371 (by simp) (z' := 1) rfl ⟨rfl, rfl, rfl⟩
    refine Go.aload d37_298 rfl (G := ?_)
    refine Go.iconst d37_300 (v := 0) rfl (G := ?_)
    refine Go.caload d37_301 (inD (i := 4) rfl) rfl (G := ?_)
    refine Go.bipush d37_302 (v := 65) rfl (G := ?_)
    refine Go.icmp d37_304 (pc2 := 320) (Gy := fun h8 => ?_) (Gn := fun h8 => ?_)
    · have h8 : c0 < 65 := h8
      refine Go.iconst d37_320 (v := 0) rfl (G := ?_)
      refine Go.istore d37_321 (Ls' := #[.val (.int a), .val (.int bq), .val (.int c), .val (.int d), .val (.int f), .val (.int 2), .val (.int iri), .val (.ref v7), .val (.ref o1), .val (.ref o2), .val (.int ri), .val (.int rq), .val (.ref tm4), .val (.int 0)]) rfl (G := ?_)
      exact mainV 0 (Or.inr ⟨rfl, by simp only [upP, Int32.lt_iff_toInt_lt, ← Int32.toInt_inj, Int32.reduceToInt] at h8 ⊢; omega⟩)
    · have h8 : ¬ c0 < 65 := h8
      refine Go.aload d37_307 rfl (G := ?_)
      refine Go.iconst d37_309 (v := 0) rfl (G := ?_)
      refine Go.caload d37_310 (inD (i := 4) rfl) rfl (G := ?_)
      refine Go.bipush d37_311 (v := 90) rfl (G := ?_)
      refine Go.icmp d37_313 (pc2 := 320) (Gy := fun h9 => ?_) (Gn := fun h9 => ?_)
      · have h9 : 90 < c0 := h9
        refine Go.iconst d37_320 (v := 0) rfl (G := ?_)
        refine Go.istore d37_321 (Ls' := #[.val (.int a), .val (.int bq), .val (.int c), .val (.int d), .val (.int f), .val (.int 2), .val (.int iri), .val (.ref v7), .val (.ref o1), .val (.ref o2), .val (.int ri), .val (.int rq), .val (.ref tm4), .val (.int 0)]) rfl (G := ?_)
        exact mainV 0 (Or.inr ⟨rfl, by simp only [upP, Int32.lt_iff_toInt_lt, ← Int32.toInt_inj, Int32.reduceToInt] at h8 h9 ⊢; omega⟩)
      · have h9 : ¬ 90 < c0 := h9
        refine Go.iconst d37_316 (v := 1) rfl (G := ?_)
        refine Go.goto d37_317 (pc2 := 321) (G := ?_)
        refine Go.istore d37_321 (Ls' := #[.val (.int a), .val (.int bq), .val (.int c), .val (.int d), .val (.int f), .val (.int 2), .val (.int iri), .val (.ref v7), .val (.ref o1), .val (.ref o2), .val (.int ri), .val (.int rq), .val (.ref tm4), .val (.int 1)]) rfl (G := ?_)
        exact mainV 1 (Or.inl ⟨rfl, by simp only [upP, Int32.lt_iff_toInt_lt, ← Int32.toInt_inj, Int32.reduceToInt] at h8 h9 ⊢; omega⟩)
  have mainB : ∀ ri rq : Int32, (ri = 0 ∨ idP ([c0, c1] : List Int32)) → (rq = 0 ∨ iriP ([c0, c1] : List Int32) 2) → Go l Z a0 EL b n0 "com/example/iffley/iffley/model/TermParsePinLaw" code 14 (some .boolean) "law" room_1 [] (fun v D' S' => v = some (.int 1) ∧ D' = [] ∧ S' = []) [(o2, .inl ("java/lang/String", [("java/lang/String", "value", "[B", .ref t3), ("java/lang/String", "coder", "B", .int 0)])), (t3, .inr (.byte, ([c0, c1] : List Int32).map byV)), (o1, .inr (.char, [.int c0, .int c1])), (v7, .inr (.char, [.int c0, .int c1, .int c2, .int c3]))] [] 4 12 279 #[.val (.int a), .val (.int bq), .val (.int c), .val (.int d), .val (.int f), .val (.int 2), .val (.int iri), .val (.ref v7), .val (.ref o1), .val (.ref o2), .val (.int ri), .val (.int rq), .unset, .unset] [] := by
    intro ri rq hI hQ
    refine Go.iload d37_279 rfl (G := ?_)
    refine Go.ifc d37_281 (pc2 := 291) (Gy := fun h => ?_) (Gn := fun h => ?_)
    · have h : ¬ ri = 0 := h
      exact mainA ri rq (Or.inl (hI.resolve_left h))
    · have h : ri = 0 := Classical.not_not.mp h
      refine Go.iload d37_284 rfl (G := ?_)
      refine Go.ifc d37_286 (pc2 := 291) (Gy := fun h2 => ?_) (Gn := fun h2 => ?_)
      · have h2 : ¬ rq = 0 := h2
        exact mainA ri rq (Or.inr (hQ.resolve_left h2))
      · have h2 : rq = 0 := Classical.not_not.mp h2
        refine Go.iconst d37_289 (v := 1) rfl (G := ?_)
        refine Go.sub [] (by decide) rfl (D' := []) rfl (S' := []) eN (G := ?_)
        exact Go.retB d37_290 (by simp) (z' := 1) rfl ⟨rfl, rfl, rfl⟩
  have mainC : ∀ ri : Int32, (ri = 0 ∨ idP ([c0, c1] : List Int32)) → Go l Z a0 EL b n0 "com/example/iffley/iffley/model/TermParsePinLaw" code 14 (some .boolean) "law" room_1 [] (fun v D' S' => v = some (.int 1) ∧ D' = [] ∧ S' = []) [(o2, .inl ("java/lang/String", [("java/lang/String", "value", "[B", .ref t3), ("java/lang/String", "coder", "B", .int 0)])), (t3, .inr (.byte, ([c0, c1] : List Int32).map byV)), (o1, .inr (.char, [.int c0, .int c1])), (v7, .inr (.char, [.int c0, .int c1, .int c2, .int c3]))] [] 4 12 213 #[.val (.int a), .val (.int bq), .val (.int c), .val (.int d), .val (.int f), .val (.int 2), .val (.int iri), .val (.ref v7), .val (.ref o1), .val (.ref o2), .val (.int ri), .unset, .unset, .unset] [] := by
    intro ri hI
    refine Go.iload d37_213 rfl (G := ?_)
    refine Go.iconst d37_215 (v := 2) rfl (G := ?_)
    refine Go.icmp d37_216 (pc2 := 276) (Gy := fun h => absurd h (show ¬ ((2 : Int32) < 2) by decide)) (Gn := fun _ => ?_)
    refine Go.aload d37_219 rfl (G := ?_)
    refine Go.iconst d37_221 (v := 0) rfl (G := ?_)
    refine Go.caload d37_222 (inD (i := 3) rfl) rfl (G := ?_)
    refine Go.bipush d37_223 (v := 60) rfl (G := ?_)
    refine Go.icmp d37_225 (pc2 := 276) (Gy := fun h11 => ?_) (Gn := fun h11 => ?_)
    · have h11 : ¬ c0 = 60 := h11
      refine Go.iconst d37_276 (v := 0) rfl (G := ?_)
      refine Go.istore d37_277 (Ls' := #[.val (.int a), .val (.int bq), .val (.int c), .val (.int d), .val (.int f), .val (.int 2), .val (.int iri), .val (.ref v7), .val (.ref o1), .val (.ref o2), .val (.int ri), .val (.int 0), .unset, .unset]) rfl (G := ?_)
      exact mainB ri 0 hI (Or.inl rfl)
    · have h11 : c0 = 60 := Classical.not_not.mp h11
      refine Go.aload d37_228 rfl (G := ?_)
      refine Go.iload d37_230 rfl (G := ?_)
      refine Go.iconst d37_232 (v := 1) rfl (G := ?_)
      refine Go.isub d37_233 (z := 1) rfl (G := ?_)
      refine Go.caload d37_234 (inD (i := 3) rfl) rfl (G := ?_)
      refine Go.bipush d37_235 (v := 62) rfl (G := ?_)
      refine Go.icmp d37_237 (pc2 := 276) (Gy := fun h12 => ?_) (Gn := fun h12 => ?_)
      · have h12 : ¬ c1 = 62 := h12
        refine Go.iconst d37_276 (v := 0) rfl (G := ?_)
        refine Go.istore d37_277 (Ls' := #[.val (.int a), .val (.int bq), .val (.int c), .val (.int d), .val (.int f), .val (.int 2), .val (.int iri), .val (.ref v7), .val (.ref o1), .val (.ref o2), .val (.int ri), .val (.int 0), .unset, .unset]) rfl (G := ?_)
        exact mainB ri 0 hI (Or.inl rfl)
      · have h12 : c1 = 62 := Classical.not_not.mp h12
        refine Go.iload d37_240 rfl (G := ?_)
        refine Go.iconst d37_242 (v := 3) rfl (G := ?_)
        refine Go.icmp d37_243 (pc2 := 256) (Gy := fun _ => ?_) (Gn := fun h => absurd (show (2 : Int32) < 3 by decide) h)
        refine Go.iload d37_256 rfl (G := ?_)
        refine Go.iconst d37_258 (v := 4) rfl (G := ?_)
        refine Go.icmp d37_259 (pc2 := 272) (Gy := fun _ => ?_) (Gn := fun h => absurd (show (2 : Int32) < 4 by decide) h)
        refine Go.iconst d37_272 (v := 1) rfl (G := ?_)
        refine Go.goto d37_273 (pc2 := 277) (G := ?_)
        refine Go.istore d37_277 (Ls' := #[.val (.int a), .val (.int bq), .val (.int c), .val (.int d), .val (.int f), .val (.int 2), .val (.int iri), .val (.ref v7), .val (.ref o1), .val (.ref o2), .val (.int ri), .val (.int 1), .unset, .unset]) rfl (G := ?_)
        exact mainB ri 1 hI (Or.inr (iri2 h11 h12))
  refine Go.aload d37_148 rfl (G := ?_)
  refine Go.iconst d37_150 (v := 0) rfl (G := ?_)
  refine Go.caload d37_151 (inD (i := 3) rfl) rfl (G := ?_)
  refine Go.invokestatic false d37_152 (hw _ (List.mem_of_getElem? (i := 34) rfl)) (hw _ (List.mem_of_getElem? (i := 35) rfl)) (hw _ (List.mem_of_getElem? (i := 3) rfl)) (hw _ (List.mem_of_getElem? (i := 36) rfl)) (c_let2 hw c0) pdg_14 rfl (argsL := [.int c0]) (rest := []) rfl rfl (Dr := [(o2, .inl ("java/lang/String", [("java/lang/String", "value", "[B", .ref t3), ("java/lang/String", "coder", "B", .int 0)])), (t3, .inr (.byte, ([c0, c1] : List Int32).map byV)), (o1, .inr (.char, [.int c0, .int c1])), (v7, .inr (.char, [.int c0, .int c1, .int c2, .int c3]))]) rfl eN (G := ?_)
  rintro _ _ _ ⟨r15, hr15, rfl, rfl, rfl⟩
  refine Go.norm (D2 := [(o2, .inl ("java/lang/String", [("java/lang/String", "value", "[B", .ref t3), ("java/lang/String", "coder", "B", .int 0)])), (t3, .inr (.byte, ([c0, c1] : List Int32).map byV)), (o1, .inr (.char, [.int c0, .int c1])), (v7, .inr (.char, [.int c0, .int c1, .int c2, .int c3]))]) (S2 := []) (c2 := 4) (s2 := 12) (st2 := [.int r15]) ?_
  refine Go.ifc d37_155 (pc2 := 210) (Gy := fun h16 => ?_) (Gn := fun h16 => ?_)
  · have h16 : r15 = 0 := h16
    refine Go.iconst d37_210 (v := 0) rfl (G := ?_)
    refine Go.istore d37_211 (Ls' := #[.val (.int a), .val (.int bq), .val (.int c), .val (.int d), .val (.int f), .val (.int 2), .val (.int iri), .val (.ref v7), .val (.ref o1), .val (.ref o2), .val (.int 0), .unset, .unset, .unset]) rfl (G := ?_)
    exact mainC 0 (Or.inl rfl)
  · have h16 : ¬ r15 = 0 := h16
    refine Go.iload d37_158 rfl (G := ?_)
    refine Go.iconst d37_160 (v := 2) rfl (G := ?_)
    refine Go.icmp d37_161 (pc2 := 174) (Gy := fun h => absurd h (show ¬ ((2 : Int32) < 2) by decide)) (Gn := fun _ => ?_)
    refine Go.aload d37_164 rfl (G := ?_)
    refine Go.iconst d37_166 (v := 1) rfl (G := ?_)
    refine Go.caload d37_167 (inD (i := 3) rfl) rfl (G := ?_)
    refine Go.invokestatic false d37_168 (hw _ (List.mem_of_getElem? (i := 162) rfl)) (hw _ (List.mem_of_getElem? (i := 163) rfl)) (hw _ (List.mem_of_getElem? (i := 3) rfl)) (hw _ (List.mem_of_getElem? (i := 164) rfl)) (c_idc hw c1) pdg_14 rfl (argsL := [.int c1]) (rest := []) rfl rfl (Dr := [(o2, .inl ("java/lang/String", [("java/lang/String", "value", "[B", .ref t3), ("java/lang/String", "coder", "B", .int 0)])), (t3, .inr (.byte, ([c0, c1] : List Int32).map byV)), (o1, .inr (.char, [.int c0, .int c1])), (v7, .inr (.char, [.int c0, .int c1, .int c2, .int c3]))]) rfl eN (G := ?_)
    rintro _ _ _ ⟨r18, hr18, rfl, rfl, rfl⟩
    refine Go.norm (D2 := [(o2, .inl ("java/lang/String", [("java/lang/String", "value", "[B", .ref t3), ("java/lang/String", "coder", "B", .int 0)])), (t3, .inr (.byte, ([c0, c1] : List Int32).map byV)), (o1, .inr (.char, [.int c0, .int c1])), (v7, .inr (.char, [.int c0, .int c1, .int c2, .int c3]))]) (S2 := []) (c2 := 4) (s2 := 12) (st2 := [.int r18]) ?_
    refine Go.ifc d37_171 (pc2 := 210) (Gy := fun h19 => ?_) (Gn := fun h19 => ?_)
    · have h19 : r18 = 0 := h19
      refine Go.iconst d37_210 (v := 0) rfl (G := ?_)
      refine Go.istore d37_211 (Ls' := #[.val (.int a), .val (.int bq), .val (.int c), .val (.int d), .val (.int f), .val (.int 2), .val (.int iri), .val (.ref v7), .val (.ref o1), .val (.ref o2), .val (.int 0), .unset, .unset, .unset]) rfl (G := ?_)
      exact mainC 0 (Or.inl rfl)
    · have h19 : ¬ r18 = 0 := h19
      refine Go.iload d37_174 rfl (G := ?_)
      refine Go.iconst d37_176 (v := 3) rfl (G := ?_)
      refine Go.icmp d37_177 (pc2 := 190) (Gy := fun _ => ?_) (Gn := fun h => absurd (show (2 : Int32) < 3 by decide) h)
      refine Go.iload d37_190 rfl (G := ?_)
      refine Go.iconst d37_192 (v := 4) rfl (G := ?_)
      refine Go.icmp d37_193 (pc2 := 206) (Gy := fun _ => ?_) (Gn := fun h => absurd (show (2 : Int32) < 4 by decide) h)
      refine Go.iconst d37_206 (v := 1) rfl (G := ?_)
      refine Go.goto d37_207 (pc2 := 211) (G := ?_)
      refine Go.istore d37_211 (Ls' := #[.val (.int a), .val (.int bq), .val (.int c), .val (.int d), .val (.int f), .val (.int 2), .val (.int iri), .val (.ref v7), .val (.ref o1), .val (.ref o2), .val (.int 1), .unset, .unset, .unset]) rfl (G := ?_)
      exact mainC 1 (Or.inr (idP_of (bT hr15 h16) (eS (bT hr18 h19) eN)))
set_option maxRecDepth 65536 in
set_option maxHeartbeats 40000000 in
theorem lw_3 {l : Launch} {Z : State} {a0 : Array Value} {EL : List (String × Nat)} {b : Bool} {n0 : Nat} (hw : ∀ d ∈ tables_1, d.before a0 Z = true) (a bq c d f iri c0 c1 c2 c3 : Int32) (v7 : Addr) (hc0 : 0 ≤ c0.toInt ∧ c0.toInt ≤ 255) (hc1 : 0 ≤ c1.toInt ∧ c1.toInt ≤ 255) (hc2 : 0 ≤ c2.toInt ∧ c2.toInt ≤ 255) (hc3 : 0 ≤ c3.toInt ∧ c3.toInt ≤ 255) (cpt : Int32) (fmt : Value) (hCS : Sta Z Z.heap "java/lang/String" "COMPACT_STRINGS" "Z" (.int cpt)) (hcpt : ¬ cpt = 0) (hFM : Sta Z Z.heap "jdk/internal/util/Preconditions" "SIOOBE_FORMATTER" "Ljava/util/function/BiFunction;" fmt) (hfm : fmt.isRef = true) (hb1 : b = true) (hE_Term_65 : ("com/example/iffley/iffley/model/Term", 65) ∈ EL) (hE_Term_13 : ("com/example/iffley/iffley/model/Term", 13) ∈ EL) :
    Go l Z a0 EL b n0 "com/example/iffley/iffley/model/TermParsePinLaw" code 14 (some .boolean) "law" room_1 [] (fun v D' S' => v = some (.int 1) ∧ D' = [] ∧ S' = []) [(v7, .inr (.char, [.int c0, .int c1, .int c2, .int c3]))] [] 1 4 81 #[.val (.int a), .val (.int bq), .val (.int c), .val (.int d), .val (.int f), .val (.int 3), .val (.int iri), .val (.ref v7), .unset, .unset, .unset, .unset, .unset, .unset] [] := by
  have hlat : ∀ c ∈ ([c0, c1, c2] : List Int32), 0 ≤ c.toInt ∧ c.toInt ≤ 255 := (eS hc0 (eS hc1 (eS hc2 eN)))
  refine Go.iload d37_81 rfl (G := ?_)
  refine Go.newarray d37_83 (hw _ (List.mem_of_getElem? (i := 0) rfl)) (k := 3) rfl (by decide) (by decide) (vs := [.int 0, .int 0, .int 0]) rfl (G := fun o1 => ?_)
  refine Go.astore d37_85 (Ls' := #[.val (.int a), .val (.int bq), .val (.int c), .val (.int d), .val (.int f), .val (.int 3), .val (.int iri), .val (.ref v7), .val (.ref o1), .unset, .unset, .unset, .unset, .unset]) rfl (G := ?_)
  refine Go.aload d37_87 rfl (G := ?_)
  refine Go.iconst d37_89 (v := 0) rfl (G := ?_)
  refine Go.aload d37_90 rfl (G := ?_)
  refine Go.iconst d37_92 (v := 0) rfl (G := ?_)
  refine Go.caload d37_93 (inD (i := 1) rfl) rfl (G := ?_)
  refine Go.castore d37_94 0 rfl (x' := c0) (nc_of hc0) (Nat.le_of_ble_eq_true rfl) (D' := [(o1, .inr (.char, [.int c0, .int 0, .int 0])), (v7, .inr (.char, [.int c0, .int c1, .int c2, .int c3]))]) rfl (G := ?_)
  refine Go.iload d37_95 rfl (G := ?_)
  refine Go.iconst d37_97 (v := 1) rfl (G := ?_)
  refine Go.icmp d37_98 (pc2 := 109) (Gy := fun h => absurd h (show ¬ (¬ (1 : Int32) < 3) by decide)) (Gn := fun _ => ?_)
  refine Go.aload d37_101 rfl (G := ?_)
  refine Go.iconst d37_103 (v := 1) rfl (G := ?_)
  refine Go.aload d37_104 rfl (G := ?_)
  refine Go.iconst d37_106 (v := 1) rfl (G := ?_)
  refine Go.caload d37_107 (inD (i := 1) rfl) rfl (G := ?_)
  refine Go.castore d37_108 0 rfl (x' := c1) (nc_of hc1) (Nat.le_of_ble_eq_true rfl) (D' := [(o1, .inr (.char, [.int c0, .int c1, .int 0])), (v7, .inr (.char, [.int c0, .int c1, .int c2, .int c3]))]) rfl (G := ?_)
  refine Go.iload d37_109 rfl (G := ?_)
  refine Go.iconst d37_111 (v := 2) rfl (G := ?_)
  refine Go.icmp d37_112 (pc2 := 123) (Gy := fun h => absurd h (show ¬ (¬ (2 : Int32) < 3) by decide)) (Gn := fun _ => ?_)
  refine Go.aload d37_115 rfl (G := ?_)
  refine Go.iconst d37_117 (v := 2) rfl (G := ?_)
  refine Go.aload d37_118 rfl (G := ?_)
  refine Go.iconst d37_120 (v := 2) rfl (G := ?_)
  refine Go.caload d37_121 (inD (i := 1) rfl) rfl (G := ?_)
  refine Go.castore d37_122 0 rfl (x' := c2) (nc_of hc2) (Nat.le_of_ble_eq_true rfl) (D' := [(o1, .inr (.char, [.int c0, .int c1, .int c2])), (v7, .inr (.char, [.int c0, .int c1, .int c2, .int c3]))]) rfl (G := ?_)
  refine Go.iload d37_123 rfl (G := ?_)
  refine Go.iconst d37_125 (v := 3) rfl (G := ?_)
  refine Go.icmp d37_126 (pc2 := 137) (Gy := fun _ => ?_) (Gn := fun h => absurd (show ¬ (3 : Int32) < 3 by decide) h)
  refine Go.new d37_137 (hw _ (List.mem_of_getElem? (i := 5) rfl)) (hw _ (List.mem_of_getElem? (i := 6) rfl)) (hw _ (List.mem_of_getElem? (i := 7) rfl)) (NewF.cons (Or.inr (hw _ (List.mem_of_getElem? (i := 33) rfl))) (ty := .array .byte) (by decide +kernel) rfl (by simp) (NewF.cons (Or.inr (hw _ (List.mem_of_getElem? (i := 31) rfl))) (ty := .byte) (by decide +kernel) rfl (by simp) NewF.nil)) (G := fun o2 => ?_)
  refine Go.dup d37_140 (G := ?_)
  refine Go.aload d37_141 rfl (G := ?_)
  refine Go.invokeinit true d37_143 rfl (hw _ (List.mem_of_getElem? (i := 8) rfl)) (hw _ (List.mem_of_getElem? (i := 9) rfl)) (hw _ (List.mem_of_getElem? (i := 7) rfl)) (hw _ (List.mem_of_getElem? (i := 10) rfl)) (c_init hw o2 o1 ([c0, c1, c2] : List Int32) 3 [] cpt hCS hcpt rfl (by decide) (by decide) (fun c hc => nlat (hlat c hc))) pdg_21 rfl (argsL := [.ref o1]) (rest := [.ref o2]) rfl rfl (Dr := [(o1, .inr (.char, [.int c0, .int c1, .int c2])), (v7, .inr (.char, [.int c0, .int c1, .int c2, .int c3]))]) rfl (eS (Or.inr ⟨rfl, List.mem_of_getElem? (i := 0) rfl⟩) eN) (G := ?_)
  rintro _ _ _ ⟨t3, rfl, rfl, rfl⟩
  refine Go.norm (D2 := [(o2, .inl ("java/lang/String", [("java/lang/String", "value", "[B", .ref t3), ("java/lang/String", "coder", "B", .int 0)])), (t3, .inr (.byte, ([c0, c1, c2] : List Int32).map byV)), (o1, .inr (.char, [.int c0, .int c1, .int c2])), (v7, .inr (.char, [.int c0, .int c1, .int c2, .int c3]))]) (S2 := []) (c2 := 4) (s2 := 14) (st2 := [.ref o2]) ?_
  refine Go.astore d37_146 (Ls' := #[.val (.int a), .val (.int bq), .val (.int c), .val (.int d), .val (.int f), .val (.int 3), .val (.int iri), .val (.ref v7), .val (.ref o1), .val (.ref o2), .unset, .unset, .unset, .unset]) rfl (G := ?_)
  have mainA : ∀ ri rq : Int32, (idP ([c0, c1, c2] : List Int32) ∨ iriP ([c0, c1, c2] : List Int32) 3) → Go l Z a0 EL b n0 "com/example/iffley/iffley/model/TermParsePinLaw" code 14 (some .boolean) "law" room_1 [] (fun v D' S' => v = some (.int 1) ∧ D' = [] ∧ S' = []) [(o2, .inl ("java/lang/String", [("java/lang/String", "value", "[B", .ref t3), ("java/lang/String", "coder", "B", .int 0)])), (t3, .inr (.byte, ([c0, c1, c2] : List Int32).map byV)), (o1, .inr (.char, [.int c0, .int c1, .int c2])), (v7, .inr (.char, [.int c0, .int c1, .int c2, .int c3]))] [] 4 14 291 #[.val (.int a), .val (.int bq), .val (.int c), .val (.int d), .val (.int f), .val (.int 3), .val (.int iri), .val (.ref v7), .val (.ref o1), .val (.ref o2), .val (.int ri), .val (.int rq), .unset, .unset] [] := by
    intro ri rq hg
    refine Go.aload d37_291 rfl (G := ?_)
    refine Go.invokestatic true d37_293 (hw _ (List.mem_of_getElem? (i := 37) rfl)) (hw _ (List.mem_of_getElem? (i := 38) rfl)) (hw _ (List.mem_of_getElem? (i := 39) rfl)) (hw _ (List.mem_of_getElem? (i := 40) rfl)) (c_parse hw o2 t3 ([c0, c1, c2] : List Int32) 3 cpt fmt hCS hcpt hFM hfm rfl (by decide) (by decide) hlat hg hb1 hE_Term_65 hE_Term_13) pdg_22 rfl (argsL := [.ref o2]) (rest := []) rfl rfl (Dr := [(o2, .inl ("java/lang/String", [("java/lang/String", "value", "[B", .ref t3), ("java/lang/String", "coder", "B", .int 0)])), (t3, .inr (.byte, ([c0, c1, c2] : List Int32).map byV)), (o1, .inr (.char, [.int c0, .int c1, .int c2])), (v7, .inr (.char, [.int c0, .int c1, .int c2, .int c3]))]) rfl (eS (Or.inr ⟨rfl, List.mem_of_getElem? (i := 0) rfl⟩) (eS (Or.inr ⟨rfl, List.mem_of_getElem? (i := 1) rfl⟩) eN)) (G := ?_)
    rintro _ _ _ ⟨tm4, rfl, rfl, rfl⟩
    refine Go.norm (D2 := [(tm4, .inl ("com/example/iffley/iffley/model/Term", [("com/example/iffley/iffley/model/Term", "text", "Ljava/lang/String;", .ref o2)])), (o2, .inl ("java/lang/String", [("java/lang/String", "value", "[B", .ref t3), ("java/lang/String", "coder", "B", .int 0)])), (t3, .inr (.byte, ([c0, c1, c2] : List Int32).map byV)), (o1, .inr (.char, [.int c0, .int c1, .int c2])), (v7, .inr (.char, [.int c0, .int c1, .int c2, .int c3]))]) (S2 := []) (c2 := 13) (s2 := 155) (st2 := [.ref tm4]) ?_
    refine Go.astore d37_296 (Ls' := #[.val (.int a), .val (.int bq), .val (.int c), .val (.int d), .val (.int f), .val (.int 3), .val (.int iri), .val (.ref v7), .val (.ref o1), .val (.ref o2), .val (.int ri), .val (.int rq), .val (.ref tm4), .unset]) rfl (G := ?_)
    have mainV : ∀ v : Int32, ((v = 1 ∧ upP c0) ∨ (v = 0 ∧ ¬ upP c0)) → Go l Z a0 EL b n0 "com/example/iffley/iffley/model/TermParsePinLaw" code 14 (some .boolean) "law" room_1 [] (fun v D' S' => v = some (.int 1) ∧ D' = [] ∧ S' = []) [(tm4, .inl ("com/example/iffley/iffley/model/Term", [("com/example/iffley/iffley/model/Term", "text", "Ljava/lang/String;", .ref o2)])), (o2, .inl ("java/lang/String", [("java/lang/String", "value", "[B", .ref t3), ("java/lang/String", "coder", "B", .int 0)])), (t3, .inr (.byte, ([c0, c1, c2] : List Int32).map byV)), (o1, .inr (.char, [.int c0, .int c1, .int c2])), (v7, .inr (.char, [.int c0, .int c1, .int c2, .int c3]))] [] 13 155 323 #[.val (.int a), .val (.int bq), .val (.int c), .val (.int d), .val (.int f), .val (.int 3), .val (.int iri), .val (.ref v7), .val (.ref o1), .val (.ref o2), .val (.int ri), .val (.int rq), .val (.ref tm4), .val (.int v)] [] := by
      intro v hv
      refine Go.aload d37_323 rfl (G := ?_)
      refine Go.aload d37_325 rfl (G := ?_)
      refine Go.invokevirtual true d37_327 (hw _ (List.mem_of_getElem? (i := 102) rfl)) (hw _ (List.mem_of_getElem? (i := 103) rfl)) (hw _ (List.mem_of_getElem? (i := 105) rfl)) (hw _ (List.mem_of_getElem? (i := 104) rfl)) (hw _ (List.mem_of_getElem? (i := 39) rfl)) (hw _ (List.mem_of_getElem? (i := 106) rfl)) (nfSel (hw _ (List.mem_of_getElem? (i := 105) rfl))) (inD (i := 0) rfl) (c_tstr hw tm4 o2) pdg_23 rfl (argsL := []) (rest := [.ref o2]) rfl rfl (Dr := [(tm4, .inl ("com/example/iffley/iffley/model/Term", [("com/example/iffley/iffley/model/Term", "text", "Ljava/lang/String;", .ref o2)])), (o2, .inl ("java/lang/String", [("java/lang/String", "value", "[B", .ref t3), ("java/lang/String", "coder", "B", .int 0)])), (t3, .inr (.byte, ([c0, c1, c2] : List Int32).map byV)), (o1, .inr (.char, [.int c0, .int c1, .int c2])), (v7, .inr (.char, [.int c0, .int c1, .int c2, .int c3]))]) rfl (eS (Or.inr ⟨rfl, List.mem_of_getElem? (i := 0) rfl⟩) eN) (G := ?_)
      rintro _ _ _ ⟨rfl, rfl, rfl⟩
      refine Go.norm (D2 := [(tm4, .inl ("com/example/iffley/iffley/model/Term", [("com/example/iffley/iffley/model/Term", "text", "Ljava/lang/String;", .ref o2)])), (o2, .inl ("java/lang/String", [("java/lang/String", "value", "[B", .ref t3), ("java/lang/String", "coder", "B", .int 0)])), (t3, .inr (.byte, ([c0, c1, c2] : List Int32).map byV)), (o1, .inr (.char, [.int c0, .int c1, .int c2])), (v7, .inr (.char, [.int c0, .int c1, .int c2, .int c3]))]) (S2 := []) (c2 := 13) (s2 := 155) (st2 := [.ref o2, .ref o2]) ?_
      refine Go.invokevirtual false d37_330 (hw _ (List.mem_of_getElem? (i := 107) rfl)) (hw _ (List.mem_of_getElem? (i := 108) rfl)) (hw _ (List.mem_of_getElem? (i := 110) rfl)) (hw _ (List.mem_of_getElem? (i := 109) rfl)) (hw _ (List.mem_of_getElem? (i := 7) rfl)) (hw _ (List.mem_of_getElem? (i := 111) rfl)) (nfSel (hw _ (List.mem_of_getElem? (i := 110) rfl))) (inD (i := 1) rfl) (c_eqSame hw o2) pdg_20 rfl (argsL := [.ref o2]) (rest := []) rfl rfl (Dr := [(tm4, .inl ("com/example/iffley/iffley/model/Term", [("com/example/iffley/iffley/model/Term", "text", "Ljava/lang/String;", .ref o2)])), (o2, .inl ("java/lang/String", [("java/lang/String", "value", "[B", .ref t3), ("java/lang/String", "coder", "B", .int 0)])), (t3, .inr (.byte, ([c0, c1, c2] : List Int32).map byV)), (o1, .inr (.char, [.int c0, .int c1, .int c2])), (v7, .inr (.char, [.int c0, .int c1, .int c2, .int c3]))]) rfl eN (G := ?_)
      rintro _ _ _ ⟨rfl, rfl, rfl⟩
      refine Go.norm (D2 := [(tm4, .inl ("com/example/iffley/iffley/model/Term", [("com/example/iffley/iffley/model/Term", "text", "Ljava/lang/String;", .ref o2)])), (o2, .inl ("java/lang/String", [("java/lang/String", "value", "[B", .ref t3), ("java/lang/String", "coder", "B", .int 0)])), (t3, .inr (.byte, ([c0, c1, c2] : List Int32).map byV)), (o1, .inr (.char, [.int c0, .int c1, .int c2])), (v7, .inr (.char, [.int c0, .int c1, .int c2, .int c3]))]) (S2 := []) (c2 := 13) (s2 := 155) (st2 := [.int 1]) ?_
      refine Go.ifc d37_333 (pc2 := 370) (Gy := fun h => absurd h (show ¬ ((1 : Int32) = 0) by decide)) (Gn := fun _ => ?_)
      refine Go.aload d37_336 rfl (G := ?_)
      refine Go.invokevirtual true d37_338 (hw _ (List.mem_of_getElem? (i := 112) rfl)) (hw _ (List.mem_of_getElem? (i := 113) rfl)) (hw _ (List.mem_of_getElem? (i := 115) rfl)) (hw _ (List.mem_of_getElem? (i := 114) rfl)) (hw _ (List.mem_of_getElem? (i := 39) rfl)) (hw _ (List.mem_of_getElem? (i := 116) rfl)) (nfSel (hw _ (List.mem_of_getElem? (i := 115) rfl))) (inD (i := 0) rfl) (c_isVar hw tm4 o2 t3 ([c0, c1, c2] : List Int32) 3 cpt fmt hCS hcpt hFM hfm rfl (by decide) (by decide) hlat c0 rfl) pdg_7 rfl (argsL := []) (rest := []) rfl rfl (Dr := [(tm4, .inl ("com/example/iffley/iffley/model/Term", [("com/example/iffley/iffley/model/Term", "text", "Ljava/lang/String;", .ref o2)])), (o2, .inl ("java/lang/String", [("java/lang/String", "value", "[B", .ref t3), ("java/lang/String", "coder", "B", .int 0)])), (t3, .inr (.byte, ([c0, c1, c2] : List Int32).map byV)), (o1, .inr (.char, [.int c0, .int c1, .int c2])), (v7, .inr (.char, [.int c0, .int c1, .int c2, .int c3]))]) rfl (eS (Or.inr ⟨rfl, List.mem_of_getElem? (i := 0) rfl⟩) (eS (Or.inr ⟨rfl, List.mem_of_getElem? (i := 1) rfl⟩) (eS (Or.inr ⟨rfl, List.mem_of_getElem? (i := 2) rfl⟩) eN))) (G := ?_)
      rintro _ _ _ ⟨r, hr, rfl, rfl, rfl⟩
      refine Go.norm (D2 := [(tm4, .inl ("com/example/iffley/iffley/model/Term", [("com/example/iffley/iffley/model/Term", "text", "Ljava/lang/String;", .ref o2)])), (o2, .inl ("java/lang/String", [("java/lang/String", "value", "[B", .ref t3), ("java/lang/String", "coder", "B", .int 0)])), (t3, .inr (.byte, ([c0, c1, c2] : List Int32).map byV)), (o1, .inr (.char, [.int c0, .int c1, .int c2])), (v7, .inr (.char, [.int c0, .int c1, .int c2, .int c3]))]) (S2 := []) (c2 := 13) (s2 := 155) (st2 := [.int r]) ?_
      refine Go.iload d37_341 rfl (G := ?_)
      refine Go.icmp d37_343 (pc2 := 370) (Gy := fun h => absurd h (show ¬ (¬ r = v) from (fun q => q (upeq hr hv)))) (Gn := fun _ => ?_)
      refine Go.aload d37_346 rfl (G := ?_)
      refine Go.new d37_348 (hw _ (List.mem_of_getElem? (i := 5) rfl)) (hw _ (List.mem_of_getElem? (i := 6) rfl)) (hw _ (List.mem_of_getElem? (i := 7) rfl)) (NewF.cons (Or.inr (hw _ (List.mem_of_getElem? (i := 33) rfl))) (ty := .array .byte) (by decide +kernel) rfl (by simp) (NewF.cons (Or.inr (hw _ (List.mem_of_getElem? (i := 31) rfl))) (ty := .byte) (by decide +kernel) rfl (by simp) NewF.nil)) (G := fun o5 => ?_)
      refine Go.dup d37_351 (G := ?_)
      refine Go.aload d37_352 rfl (G := ?_)
      refine Go.invokeinit true d37_354 rfl (hw _ (List.mem_of_getElem? (i := 8) rfl)) (hw _ (List.mem_of_getElem? (i := 9) rfl)) (hw _ (List.mem_of_getElem? (i := 7) rfl)) (hw _ (List.mem_of_getElem? (i := 10) rfl)) (c_init hw o5 o1 ([c0, c1, c2] : List Int32) 3 [] cpt hCS hcpt rfl (by decide) (by decide) (fun c hc => nlat (hlat c hc))) pdg_21 rfl (argsL := [.ref o1]) (rest := [.ref o5, .ref tm4]) rfl rfl (Dr := [(tm4, .inl ("com/example/iffley/iffley/model/Term", [("com/example/iffley/iffley/model/Term", "text", "Ljava/lang/String;", .ref o2)])), (o2, .inl ("java/lang/String", [("java/lang/String", "value", "[B", .ref t3), ("java/lang/String", "coder", "B", .int 0)])), (t3, .inr (.byte, ([c0, c1, c2] : List Int32).map byV)), (o1, .inr (.char, [.int c0, .int c1, .int c2])), (v7, .inr (.char, [.int c0, .int c1, .int c2, .int c3]))]) rfl (eS (Or.inr ⟨rfl, List.mem_of_getElem? (i := 3) rfl⟩) eN) (G := ?_)
      rintro _ _ _ ⟨t6, rfl, rfl, rfl⟩
      refine Go.norm (D2 := [(o5, .inl ("java/lang/String", [("java/lang/String", "value", "[B", .ref t6), ("java/lang/String", "coder", "B", .int 0)])), (t6, .inr (.byte, ([c0, c1, c2] : List Int32).map byV)), (tm4, .inl ("com/example/iffley/iffley/model/Term", [("com/example/iffley/iffley/model/Term", "text", "Ljava/lang/String;", .ref o2)])), (o2, .inl ("java/lang/String", [("java/lang/String", "value", "[B", .ref t3), ("java/lang/String", "coder", "B", .int 0)])), (t3, .inr (.byte, ([c0, c1, c2] : List Int32).map byV)), (o1, .inr (.char, [.int c0, .int c1, .int c2])), (v7, .inr (.char, [.int c0, .int c1, .int c2, .int c3]))]) (S2 := []) (c2 := 15) (s2 := 162) (st2 := [.ref o5, .ref tm4]) ?_
      refine Go.invokestatic true d37_357 (hw _ (List.mem_of_getElem? (i := 37) rfl)) (hw _ (List.mem_of_getElem? (i := 38) rfl)) (hw _ (List.mem_of_getElem? (i := 39) rfl)) (hw _ (List.mem_of_getElem? (i := 40) rfl)) (c_parse hw o5 t6 ([c0, c1, c2] : List Int32) 3 cpt fmt hCS hcpt hFM hfm rfl (by decide) (by decide) hlat hg hb1 hE_Term_65 hE_Term_13) pdg_22 rfl (argsL := [.ref o5]) (rest := [.ref tm4]) rfl rfl (Dr := [(o5, .inl ("java/lang/String", [("java/lang/String", "value", "[B", .ref t6), ("java/lang/String", "coder", "B", .int 0)])), (t6, .inr (.byte, ([c0, c1, c2] : List Int32).map byV)), (tm4, .inl ("com/example/iffley/iffley/model/Term", [("com/example/iffley/iffley/model/Term", "text", "Ljava/lang/String;", .ref o2)])), (o2, .inl ("java/lang/String", [("java/lang/String", "value", "[B", .ref t3), ("java/lang/String", "coder", "B", .int 0)])), (t3, .inr (.byte, ([c0, c1, c2] : List Int32).map byV)), (o1, .inr (.char, [.int c0, .int c1, .int c2])), (v7, .inr (.char, [.int c0, .int c1, .int c2, .int c3]))]) rfl (eS (Or.inr ⟨rfl, List.mem_of_getElem? (i := 0) rfl⟩) (eS (Or.inr ⟨rfl, List.mem_of_getElem? (i := 1) rfl⟩) eN)) (G := ?_)
      rintro _ _ _ ⟨tm7, rfl, rfl, rfl⟩
      refine Go.norm (D2 := [(tm7, .inl ("com/example/iffley/iffley/model/Term", [("com/example/iffley/iffley/model/Term", "text", "Ljava/lang/String;", .ref o5)])), (o5, .inl ("java/lang/String", [("java/lang/String", "value", "[B", .ref t6), ("java/lang/String", "coder", "B", .int 0)])), (t6, .inr (.byte, ([c0, c1, c2] : List Int32).map byV)), (tm4, .inl ("com/example/iffley/iffley/model/Term", [("com/example/iffley/iffley/model/Term", "text", "Ljava/lang/String;", .ref o2)])), (o2, .inl ("java/lang/String", [("java/lang/String", "value", "[B", .ref t3), ("java/lang/String", "coder", "B", .int 0)])), (t3, .inr (.byte, ([c0, c1, c2] : List Int32).map byV)), (o1, .inr (.char, [.int c0, .int c1, .int c2])), (v7, .inr (.char, [.int c0, .int c1, .int c2, .int c3]))]) (S2 := []) (c2 := 24) (s2 := 303) (st2 := [.ref tm7, .ref tm4]) ?_
      refine Go.ne 4 1 rfl rfl (by decide) (fun hne => ?_)
      refine Go.invokevirtual true d37_360 (hw _ (List.mem_of_getElem? (i := 117) rfl)) (hw _ (List.mem_of_getElem? (i := 118) rfl)) (hw _ (List.mem_of_getElem? (i := 120) rfl)) (hw _ (List.mem_of_getElem? (i := 119) rfl)) (hw _ (List.mem_of_getElem? (i := 39) rfl)) (hw _ (List.mem_of_getElem? (i := 121) rfl)) (nfSel (hw _ (List.mem_of_getElem? (i := 120) rfl))) (inD (i := 3) rfl) (c_te hw tm4 tm7 o2 t3 o5 t6 ([c0, c1, c2] : List Int32) ([c0, c1, c2] : List Int32) 3 3 cpt hCS hcpt hne rfl rfl (by decide) (by decide) hlat hlat) pdg_20 rfl (argsL := [.ref tm7]) (rest := []) rfl rfl (Dr := [(tm7, .inl ("com/example/iffley/iffley/model/Term", [("com/example/iffley/iffley/model/Term", "text", "Ljava/lang/String;", .ref o5)])), (o5, .inl ("java/lang/String", [("java/lang/String", "value", "[B", .ref t6), ("java/lang/String", "coder", "B", .int 0)])), (t6, .inr (.byte, ([c0, c1, c2] : List Int32).map byV)), (tm4, .inl ("com/example/iffley/iffley/model/Term", [("com/example/iffley/iffley/model/Term", "text", "Ljava/lang/String;", .ref o2)])), (o2, .inl ("java/lang/String", [("java/lang/String", "value", "[B", .ref t3), ("java/lang/String", "coder", "B", .int 0)])), (t3, .inr (.byte, ([c0, c1, c2] : List Int32).map byV)), (o1, .inr (.char, [.int c0, .int c1, .int c2])), (v7, .inr (.char, [.int c0, .int c1, .int c2, .int c3]))]) rfl (eS (Or.inr ⟨rfl, List.mem_of_getElem? (i := 3) rfl⟩) (eS (Or.inr ⟨rfl, List.mem_of_getElem? (i := 0) rfl⟩) (eS (Or.inr ⟨rfl, List.mem_of_getElem? (i := 4) rfl⟩) (eS (Or.inr ⟨rfl, List.mem_of_getElem? (i := 5) rfl⟩) (eS (Or.inr ⟨rfl, List.mem_of_getElem? (i := 1) rfl⟩) (eS (Or.inr ⟨rfl, List.mem_of_getElem? (i := 2) rfl⟩) eN)))))) (G := ?_)
      rintro _ _ _ ⟨r2, hr2, rfl, rfl, rfl⟩
      refine Go.norm (D2 := [(tm7, .inl ("com/example/iffley/iffley/model/Term", [("com/example/iffley/iffley/model/Term", "text", "Ljava/lang/String;", .ref o5)])), (o5, .inl ("java/lang/String", [("java/lang/String", "value", "[B", .ref t6), ("java/lang/String", "coder", "B", .int 0)])), (t6, .inr (.byte, ([c0, c1, c2] : List Int32).map byV)), (tm4, .inl ("com/example/iffley/iffley/model/Term", [("com/example/iffley/iffley/model/Term", "text", "Ljava/lang/String;", .ref o2)])), (o2, .inl ("java/lang/String", [("java/lang/String", "value", "[B", .ref t3), ("java/lang/String", "coder", "B", .int 0)])), (t3, .inr (.byte, ([c0, c1, c2] : List Int32).map byV)), (o1, .inr (.char, [.int c0, .int c1, .int c2])), (v7, .inr (.char, [.int c0, .int c1, .int c2, .int c3]))]) (S2 := []) (c2 := 24) (s2 := 303) (st2 := [.int r2]) ?_
      refine Go.ifc d37_363 (pc2 := 370) (Gy := fun h => absurd h (show ¬ (r2 = 0) from (fun q => bF hr2 q rfl))) (Gn := fun _ => ?_)
      refine Go.iconst d37_366 (v := 1) rfl (G := ?_)
      refine Go.goto d37_367 (pc2 := 371) (G := ?_)
      refine Go.sub [] (by decide) rfl (D' := []) rfl (S' := []) eN (G := ?_)
      exact Go.retB d37_371 (by simp) (z' := 1) rfl ⟨rfl, rfl, rfl⟩
    refine Go.aload d37_298 rfl (G := ?_)
    refine Go.iconst d37_300 (v := 0) rfl (G := ?_)
    refine Go.caload d37_301 (inD (i := 4) rfl) rfl (G := ?_)
    refine Go.bipush d37_302 (v := 65) rfl (G := ?_)
    refine Go.icmp d37_304 (pc2 := 320) (Gy := fun h8 => ?_) (Gn := fun h8 => ?_)
    · have h8 : c0 < 65 := h8
      refine Go.iconst d37_320 (v := 0) rfl (G := ?_)
      refine Go.istore d37_321 (Ls' := #[.val (.int a), .val (.int bq), .val (.int c), .val (.int d), .val (.int f), .val (.int 3), .val (.int iri), .val (.ref v7), .val (.ref o1), .val (.ref o2), .val (.int ri), .val (.int rq), .val (.ref tm4), .val (.int 0)]) rfl (G := ?_)
      exact mainV 0 (Or.inr ⟨rfl, by simp only [upP, Int32.lt_iff_toInt_lt, ← Int32.toInt_inj, Int32.reduceToInt] at h8 ⊢; omega⟩)
    · have h8 : ¬ c0 < 65 := h8
      refine Go.aload d37_307 rfl (G := ?_)
      refine Go.iconst d37_309 (v := 0) rfl (G := ?_)
      refine Go.caload d37_310 (inD (i := 4) rfl) rfl (G := ?_)
      refine Go.bipush d37_311 (v := 90) rfl (G := ?_)
      refine Go.icmp d37_313 (pc2 := 320) (Gy := fun h9 => ?_) (Gn := fun h9 => ?_)
      · have h9 : 90 < c0 := h9
        refine Go.iconst d37_320 (v := 0) rfl (G := ?_)
        refine Go.istore d37_321 (Ls' := #[.val (.int a), .val (.int bq), .val (.int c), .val (.int d), .val (.int f), .val (.int 3), .val (.int iri), .val (.ref v7), .val (.ref o1), .val (.ref o2), .val (.int ri), .val (.int rq), .val (.ref tm4), .val (.int 0)]) rfl (G := ?_)
        exact mainV 0 (Or.inr ⟨rfl, by simp only [upP, Int32.lt_iff_toInt_lt, ← Int32.toInt_inj, Int32.reduceToInt] at h8 h9 ⊢; omega⟩)
      · have h9 : ¬ 90 < c0 := h9
        refine Go.iconst d37_316 (v := 1) rfl (G := ?_)
        refine Go.goto d37_317 (pc2 := 321) (G := ?_)
        refine Go.istore d37_321 (Ls' := #[.val (.int a), .val (.int bq), .val (.int c), .val (.int d), .val (.int f), .val (.int 3), .val (.int iri), .val (.ref v7), .val (.ref o1), .val (.ref o2), .val (.int ri), .val (.int rq), .val (.ref tm4), .val (.int 1)]) rfl (G := ?_)
        exact mainV 1 (Or.inl ⟨rfl, by simp only [upP, Int32.lt_iff_toInt_lt, ← Int32.toInt_inj, Int32.reduceToInt] at h8 h9 ⊢; omega⟩)
  have mainB : ∀ ri rq : Int32, (ri = 0 ∨ idP ([c0, c1, c2] : List Int32)) → (rq = 0 ∨ iriP ([c0, c1, c2] : List Int32) 3) → Go l Z a0 EL b n0 "com/example/iffley/iffley/model/TermParsePinLaw" code 14 (some .boolean) "law" room_1 [] (fun v D' S' => v = some (.int 1) ∧ D' = [] ∧ S' = []) [(o2, .inl ("java/lang/String", [("java/lang/String", "value", "[B", .ref t3), ("java/lang/String", "coder", "B", .int 0)])), (t3, .inr (.byte, ([c0, c1, c2] : List Int32).map byV)), (o1, .inr (.char, [.int c0, .int c1, .int c2])), (v7, .inr (.char, [.int c0, .int c1, .int c2, .int c3]))] [] 4 14 279 #[.val (.int a), .val (.int bq), .val (.int c), .val (.int d), .val (.int f), .val (.int 3), .val (.int iri), .val (.ref v7), .val (.ref o1), .val (.ref o2), .val (.int ri), .val (.int rq), .unset, .unset] [] := by
    intro ri rq hI hQ
    refine Go.iload d37_279 rfl (G := ?_)
    refine Go.ifc d37_281 (pc2 := 291) (Gy := fun h => ?_) (Gn := fun h => ?_)
    · have h : ¬ ri = 0 := h
      exact mainA ri rq (Or.inl (hI.resolve_left h))
    · have h : ri = 0 := Classical.not_not.mp h
      refine Go.iload d37_284 rfl (G := ?_)
      refine Go.ifc d37_286 (pc2 := 291) (Gy := fun h2 => ?_) (Gn := fun h2 => ?_)
      · have h2 : ¬ rq = 0 := h2
        exact mainA ri rq (Or.inr (hQ.resolve_left h2))
      · have h2 : rq = 0 := Classical.not_not.mp h2
        refine Go.iconst d37_289 (v := 1) rfl (G := ?_)
        refine Go.sub [] (by decide) rfl (D' := []) rfl (S' := []) eN (G := ?_)
        exact Go.retB d37_290 (by simp) (z' := 1) rfl ⟨rfl, rfl, rfl⟩
  have mainC : ∀ ri : Int32, (ri = 0 ∨ idP ([c0, c1, c2] : List Int32)) → Go l Z a0 EL b n0 "com/example/iffley/iffley/model/TermParsePinLaw" code 14 (some .boolean) "law" room_1 [] (fun v D' S' => v = some (.int 1) ∧ D' = [] ∧ S' = []) [(o2, .inl ("java/lang/String", [("java/lang/String", "value", "[B", .ref t3), ("java/lang/String", "coder", "B", .int 0)])), (t3, .inr (.byte, ([c0, c1, c2] : List Int32).map byV)), (o1, .inr (.char, [.int c0, .int c1, .int c2])), (v7, .inr (.char, [.int c0, .int c1, .int c2, .int c3]))] [] 4 14 213 #[.val (.int a), .val (.int bq), .val (.int c), .val (.int d), .val (.int f), .val (.int 3), .val (.int iri), .val (.ref v7), .val (.ref o1), .val (.ref o2), .val (.int ri), .unset, .unset, .unset] [] := by
    intro ri hI
    refine Go.iload d37_213 rfl (G := ?_)
    refine Go.iconst d37_215 (v := 2) rfl (G := ?_)
    refine Go.icmp d37_216 (pc2 := 276) (Gy := fun h => absurd h (show ¬ ((3 : Int32) < 2) by decide)) (Gn := fun _ => ?_)
    refine Go.aload d37_219 rfl (G := ?_)
    refine Go.iconst d37_221 (v := 0) rfl (G := ?_)
    refine Go.caload d37_222 (inD (i := 3) rfl) rfl (G := ?_)
    refine Go.bipush d37_223 (v := 60) rfl (G := ?_)
    refine Go.icmp d37_225 (pc2 := 276) (Gy := fun h11 => ?_) (Gn := fun h11 => ?_)
    · have h11 : ¬ c0 = 60 := h11
      refine Go.iconst d37_276 (v := 0) rfl (G := ?_)
      refine Go.istore d37_277 (Ls' := #[.val (.int a), .val (.int bq), .val (.int c), .val (.int d), .val (.int f), .val (.int 3), .val (.int iri), .val (.ref v7), .val (.ref o1), .val (.ref o2), .val (.int ri), .val (.int 0), .unset, .unset]) rfl (G := ?_)
      exact mainB ri 0 hI (Or.inl rfl)
    · have h11 : c0 = 60 := Classical.not_not.mp h11
      refine Go.aload d37_228 rfl (G := ?_)
      refine Go.iload d37_230 rfl (G := ?_)
      refine Go.iconst d37_232 (v := 1) rfl (G := ?_)
      refine Go.isub d37_233 (z := 2) rfl (G := ?_)
      refine Go.caload d37_234 (inD (i := 3) rfl) rfl (G := ?_)
      refine Go.bipush d37_235 (v := 62) rfl (G := ?_)
      refine Go.icmp d37_237 (pc2 := 276) (Gy := fun h12 => ?_) (Gn := fun h12 => ?_)
      · have h12 : ¬ c2 = 62 := h12
        refine Go.iconst d37_276 (v := 0) rfl (G := ?_)
        refine Go.istore d37_277 (Ls' := #[.val (.int a), .val (.int bq), .val (.int c), .val (.int d), .val (.int f), .val (.int 3), .val (.int iri), .val (.ref v7), .val (.ref o1), .val (.ref o2), .val (.int ri), .val (.int 0), .unset, .unset]) rfl (G := ?_)
        exact mainB ri 0 hI (Or.inl rfl)
      · have h12 : c2 = 62 := Classical.not_not.mp h12
        refine Go.iload d37_240 rfl (G := ?_)
        refine Go.iconst d37_242 (v := 3) rfl (G := ?_)
        refine Go.icmp d37_243 (pc2 := 256) (Gy := fun h => absurd h (show ¬ ((3 : Int32) < 3) by decide)) (Gn := fun _ => ?_)
        refine Go.aload d37_246 rfl (G := ?_)
        refine Go.iconst d37_248 (v := 1) rfl (G := ?_)
        refine Go.caload d37_249 (inD (i := 3) rfl) rfl (G := ?_)
        refine Go.invokestatic false d37_250 (hw _ (List.mem_of_getElem? (i := 128) rfl)) (hw _ (List.mem_of_getElem? (i := 129) rfl)) (hw _ (List.mem_of_getElem? (i := 3) rfl)) (hw _ (List.mem_of_getElem? (i := 130) rfl)) (c_iric hw c1) pdg_14 rfl (argsL := [.int c1]) (rest := []) rfl rfl (Dr := [(o2, .inl ("java/lang/String", [("java/lang/String", "value", "[B", .ref t3), ("java/lang/String", "coder", "B", .int 0)])), (t3, .inr (.byte, ([c0, c1, c2] : List Int32).map byV)), (o1, .inr (.char, [.int c0, .int c1, .int c2])), (v7, .inr (.char, [.int c0, .int c1, .int c2, .int c3]))]) rfl eN (G := ?_)
        rintro _ _ _ ⟨r14, hr14, rfl, rfl, rfl⟩
        refine Go.norm (D2 := [(o2, .inl ("java/lang/String", [("java/lang/String", "value", "[B", .ref t3), ("java/lang/String", "coder", "B", .int 0)])), (t3, .inr (.byte, ([c0, c1, c2] : List Int32).map byV)), (o1, .inr (.char, [.int c0, .int c1, .int c2])), (v7, .inr (.char, [.int c0, .int c1, .int c2, .int c3]))]) (S2 := []) (c2 := 4) (s2 := 14) (st2 := [.int r14]) ?_
        refine Go.ifc d37_253 (pc2 := 276) (Gy := fun h15 => ?_) (Gn := fun h15 => ?_)
        · have h15 : r14 = 0 := h15
          refine Go.iconst d37_276 (v := 0) rfl (G := ?_)
          refine Go.istore d37_277 (Ls' := #[.val (.int a), .val (.int bq), .val (.int c), .val (.int d), .val (.int f), .val (.int 3), .val (.int iri), .val (.ref v7), .val (.ref o1), .val (.ref o2), .val (.int ri), .val (.int 0), .unset, .unset]) rfl (G := ?_)
          exact mainB ri 0 hI (Or.inl rfl)
        · have h15 : ¬ r14 = 0 := h15
          refine Go.iload d37_256 rfl (G := ?_)
          refine Go.iconst d37_258 (v := 4) rfl (G := ?_)
          refine Go.icmp d37_259 (pc2 := 272) (Gy := fun _ => ?_) (Gn := fun h => absurd (show (3 : Int32) < 4 by decide) h)
          refine Go.iconst d37_272 (v := 1) rfl (G := ?_)
          refine Go.goto d37_273 (pc2 := 277) (G := ?_)
          refine Go.istore d37_277 (Ls' := #[.val (.int a), .val (.int bq), .val (.int c), .val (.int d), .val (.int f), .val (.int 3), .val (.int iri), .val (.ref v7), .val (.ref o1), .val (.ref o2), .val (.int ri), .val (.int 1), .unset, .unset]) rfl (G := ?_)
          exact mainB ri 1 hI (Or.inr (iri3 h11 h12 (hr14.resolve_left h15)))
  refine Go.aload d37_148 rfl (G := ?_)
  refine Go.iconst d37_150 (v := 0) rfl (G := ?_)
  refine Go.caload d37_151 (inD (i := 3) rfl) rfl (G := ?_)
  refine Go.invokestatic false d37_152 (hw _ (List.mem_of_getElem? (i := 34) rfl)) (hw _ (List.mem_of_getElem? (i := 35) rfl)) (hw _ (List.mem_of_getElem? (i := 3) rfl)) (hw _ (List.mem_of_getElem? (i := 36) rfl)) (c_let2 hw c0) pdg_14 rfl (argsL := [.int c0]) (rest := []) rfl rfl (Dr := [(o2, .inl ("java/lang/String", [("java/lang/String", "value", "[B", .ref t3), ("java/lang/String", "coder", "B", .int 0)])), (t3, .inr (.byte, ([c0, c1, c2] : List Int32).map byV)), (o1, .inr (.char, [.int c0, .int c1, .int c2])), (v7, .inr (.char, [.int c0, .int c1, .int c2, .int c3]))]) rfl eN (G := ?_)
  rintro _ _ _ ⟨r17, hr17, rfl, rfl, rfl⟩
  refine Go.norm (D2 := [(o2, .inl ("java/lang/String", [("java/lang/String", "value", "[B", .ref t3), ("java/lang/String", "coder", "B", .int 0)])), (t3, .inr (.byte, ([c0, c1, c2] : List Int32).map byV)), (o1, .inr (.char, [.int c0, .int c1, .int c2])), (v7, .inr (.char, [.int c0, .int c1, .int c2, .int c3]))]) (S2 := []) (c2 := 4) (s2 := 14) (st2 := [.int r17]) ?_
  refine Go.ifc d37_155 (pc2 := 210) (Gy := fun h18 => ?_) (Gn := fun h18 => ?_)
  · have h18 : r17 = 0 := h18
    refine Go.iconst d37_210 (v := 0) rfl (G := ?_)
    refine Go.istore d37_211 (Ls' := #[.val (.int a), .val (.int bq), .val (.int c), .val (.int d), .val (.int f), .val (.int 3), .val (.int iri), .val (.ref v7), .val (.ref o1), .val (.ref o2), .val (.int 0), .unset, .unset, .unset]) rfl (G := ?_)
    exact mainC 0 (Or.inl rfl)
  · have h18 : ¬ r17 = 0 := h18
    refine Go.iload d37_158 rfl (G := ?_)
    refine Go.iconst d37_160 (v := 2) rfl (G := ?_)
    refine Go.icmp d37_161 (pc2 := 174) (Gy := fun h => absurd h (show ¬ ((3 : Int32) < 2) by decide)) (Gn := fun _ => ?_)
    refine Go.aload d37_164 rfl (G := ?_)
    refine Go.iconst d37_166 (v := 1) rfl (G := ?_)
    refine Go.caload d37_167 (inD (i := 3) rfl) rfl (G := ?_)
    refine Go.invokestatic false d37_168 (hw _ (List.mem_of_getElem? (i := 162) rfl)) (hw _ (List.mem_of_getElem? (i := 163) rfl)) (hw _ (List.mem_of_getElem? (i := 3) rfl)) (hw _ (List.mem_of_getElem? (i := 164) rfl)) (c_idc hw c1) pdg_14 rfl (argsL := [.int c1]) (rest := []) rfl rfl (Dr := [(o2, .inl ("java/lang/String", [("java/lang/String", "value", "[B", .ref t3), ("java/lang/String", "coder", "B", .int 0)])), (t3, .inr (.byte, ([c0, c1, c2] : List Int32).map byV)), (o1, .inr (.char, [.int c0, .int c1, .int c2])), (v7, .inr (.char, [.int c0, .int c1, .int c2, .int c3]))]) rfl eN (G := ?_)
    rintro _ _ _ ⟨r20, hr20, rfl, rfl, rfl⟩
    refine Go.norm (D2 := [(o2, .inl ("java/lang/String", [("java/lang/String", "value", "[B", .ref t3), ("java/lang/String", "coder", "B", .int 0)])), (t3, .inr (.byte, ([c0, c1, c2] : List Int32).map byV)), (o1, .inr (.char, [.int c0, .int c1, .int c2])), (v7, .inr (.char, [.int c0, .int c1, .int c2, .int c3]))]) (S2 := []) (c2 := 4) (s2 := 14) (st2 := [.int r20]) ?_
    refine Go.ifc d37_171 (pc2 := 210) (Gy := fun h21 => ?_) (Gn := fun h21 => ?_)
    · have h21 : r20 = 0 := h21
      refine Go.iconst d37_210 (v := 0) rfl (G := ?_)
      refine Go.istore d37_211 (Ls' := #[.val (.int a), .val (.int bq), .val (.int c), .val (.int d), .val (.int f), .val (.int 3), .val (.int iri), .val (.ref v7), .val (.ref o1), .val (.ref o2), .val (.int 0), .unset, .unset, .unset]) rfl (G := ?_)
      exact mainC 0 (Or.inl rfl)
    · have h21 : ¬ r20 = 0 := h21
      refine Go.iload d37_174 rfl (G := ?_)
      refine Go.iconst d37_176 (v := 3) rfl (G := ?_)
      refine Go.icmp d37_177 (pc2 := 190) (Gy := fun h => absurd h (show ¬ ((3 : Int32) < 3) by decide)) (Gn := fun _ => ?_)
      refine Go.aload d37_180 rfl (G := ?_)
      refine Go.iconst d37_182 (v := 2) rfl (G := ?_)
      refine Go.caload d37_183 (inD (i := 3) rfl) rfl (G := ?_)
      refine Go.invokestatic false d37_184 (hw _ (List.mem_of_getElem? (i := 162) rfl)) (hw _ (List.mem_of_getElem? (i := 163) rfl)) (hw _ (List.mem_of_getElem? (i := 3) rfl)) (hw _ (List.mem_of_getElem? (i := 164) rfl)) (c_idc hw c2) pdg_14 rfl (argsL := [.int c2]) (rest := []) rfl rfl (Dr := [(o2, .inl ("java/lang/String", [("java/lang/String", "value", "[B", .ref t3), ("java/lang/String", "coder", "B", .int 0)])), (t3, .inr (.byte, ([c0, c1, c2] : List Int32).map byV)), (o1, .inr (.char, [.int c0, .int c1, .int c2])), (v7, .inr (.char, [.int c0, .int c1, .int c2, .int c3]))]) rfl eN (G := ?_)
      rintro _ _ _ ⟨r23, hr23, rfl, rfl, rfl⟩
      refine Go.norm (D2 := [(o2, .inl ("java/lang/String", [("java/lang/String", "value", "[B", .ref t3), ("java/lang/String", "coder", "B", .int 0)])), (t3, .inr (.byte, ([c0, c1, c2] : List Int32).map byV)), (o1, .inr (.char, [.int c0, .int c1, .int c2])), (v7, .inr (.char, [.int c0, .int c1, .int c2, .int c3]))]) (S2 := []) (c2 := 4) (s2 := 14) (st2 := [.int r23]) ?_
      refine Go.ifc d37_187 (pc2 := 210) (Gy := fun h24 => ?_) (Gn := fun h24 => ?_)
      · have h24 : r23 = 0 := h24
        refine Go.iconst d37_210 (v := 0) rfl (G := ?_)
        refine Go.istore d37_211 (Ls' := #[.val (.int a), .val (.int bq), .val (.int c), .val (.int d), .val (.int f), .val (.int 3), .val (.int iri), .val (.ref v7), .val (.ref o1), .val (.ref o2), .val (.int 0), .unset, .unset, .unset]) rfl (G := ?_)
        exact mainC 0 (Or.inl rfl)
      · have h24 : ¬ r23 = 0 := h24
        refine Go.iload d37_190 rfl (G := ?_)
        refine Go.iconst d37_192 (v := 4) rfl (G := ?_)
        refine Go.icmp d37_193 (pc2 := 206) (Gy := fun _ => ?_) (Gn := fun h => absurd (show (3 : Int32) < 4 by decide) h)
        refine Go.iconst d37_206 (v := 1) rfl (G := ?_)
        refine Go.goto d37_207 (pc2 := 211) (G := ?_)
        refine Go.istore d37_211 (Ls' := #[.val (.int a), .val (.int bq), .val (.int c), .val (.int d), .val (.int f), .val (.int 3), .val (.int iri), .val (.ref v7), .val (.ref o1), .val (.ref o2), .val (.int 1), .unset, .unset, .unset]) rfl (G := ?_)
        exact mainC 1 (Or.inr (idP_of (bT hr17 h18) (eS (bT hr20 h21) (eS (bT hr23 h24) eN))))
set_option maxRecDepth 65536 in
set_option maxHeartbeats 40000000 in
theorem lw_4 {l : Launch} {Z : State} {a0 : Array Value} {EL : List (String × Nat)} {b : Bool} {n0 : Nat} (hw : ∀ d ∈ tables_1, d.before a0 Z = true) (a bq c d f iri c0 c1 c2 c3 : Int32) (v7 : Addr) (hc0 : 0 ≤ c0.toInt ∧ c0.toInt ≤ 255) (hc1 : 0 ≤ c1.toInt ∧ c1.toInt ≤ 255) (hc2 : 0 ≤ c2.toInt ∧ c2.toInt ≤ 255) (hc3 : 0 ≤ c3.toInt ∧ c3.toInt ≤ 255) (cpt : Int32) (fmt : Value) (hCS : Sta Z Z.heap "java/lang/String" "COMPACT_STRINGS" "Z" (.int cpt)) (hcpt : ¬ cpt = 0) (hFM : Sta Z Z.heap "jdk/internal/util/Preconditions" "SIOOBE_FORMATTER" "Ljava/util/function/BiFunction;" fmt) (hfm : fmt.isRef = true) (hb1 : b = true) (hE_Term_65 : ("com/example/iffley/iffley/model/Term", 65) ∈ EL) (hE_Term_13 : ("com/example/iffley/iffley/model/Term", 13) ∈ EL) :
    Go l Z a0 EL b n0 "com/example/iffley/iffley/model/TermParsePinLaw" code 14 (some .boolean) "law" room_1 [] (fun v D' S' => v = some (.int 1) ∧ D' = [] ∧ S' = []) [(v7, .inr (.char, [.int c0, .int c1, .int c2, .int c3]))] [] 1 4 81 #[.val (.int a), .val (.int bq), .val (.int c), .val (.int d), .val (.int f), .val (.int 4), .val (.int iri), .val (.ref v7), .unset, .unset, .unset, .unset, .unset, .unset] [] := by
  have hlat : ∀ c ∈ ([c0, c1, c2, c3] : List Int32), 0 ≤ c.toInt ∧ c.toInt ≤ 255 := (eS hc0 (eS hc1 (eS hc2 (eS hc3 eN))))
  refine Go.iload d37_81 rfl (G := ?_)
  refine Go.newarray d37_83 (hw _ (List.mem_of_getElem? (i := 0) rfl)) (k := 4) rfl (by decide) (by decide) (vs := [.int 0, .int 0, .int 0, .int 0]) rfl (G := fun o1 => ?_)
  refine Go.astore d37_85 (Ls' := #[.val (.int a), .val (.int bq), .val (.int c), .val (.int d), .val (.int f), .val (.int 4), .val (.int iri), .val (.ref v7), .val (.ref o1), .unset, .unset, .unset, .unset, .unset]) rfl (G := ?_)
  refine Go.aload d37_87 rfl (G := ?_)
  refine Go.iconst d37_89 (v := 0) rfl (G := ?_)
  refine Go.aload d37_90 rfl (G := ?_)
  refine Go.iconst d37_92 (v := 0) rfl (G := ?_)
  refine Go.caload d37_93 (inD (i := 1) rfl) rfl (G := ?_)
  refine Go.castore d37_94 0 rfl (x' := c0) (nc_of hc0) (Nat.le_of_ble_eq_true rfl) (D' := [(o1, .inr (.char, [.int c0, .int 0, .int 0, .int 0])), (v7, .inr (.char, [.int c0, .int c1, .int c2, .int c3]))]) rfl (G := ?_)
  refine Go.iload d37_95 rfl (G := ?_)
  refine Go.iconst d37_97 (v := 1) rfl (G := ?_)
  refine Go.icmp d37_98 (pc2 := 109) (Gy := fun h => absurd h (show ¬ (¬ (1 : Int32) < 4) by decide)) (Gn := fun _ => ?_)
  refine Go.aload d37_101 rfl (G := ?_)
  refine Go.iconst d37_103 (v := 1) rfl (G := ?_)
  refine Go.aload d37_104 rfl (G := ?_)
  refine Go.iconst d37_106 (v := 1) rfl (G := ?_)
  refine Go.caload d37_107 (inD (i := 1) rfl) rfl (G := ?_)
  refine Go.castore d37_108 0 rfl (x' := c1) (nc_of hc1) (Nat.le_of_ble_eq_true rfl) (D' := [(o1, .inr (.char, [.int c0, .int c1, .int 0, .int 0])), (v7, .inr (.char, [.int c0, .int c1, .int c2, .int c3]))]) rfl (G := ?_)
  refine Go.iload d37_109 rfl (G := ?_)
  refine Go.iconst d37_111 (v := 2) rfl (G := ?_)
  refine Go.icmp d37_112 (pc2 := 123) (Gy := fun h => absurd h (show ¬ (¬ (2 : Int32) < 4) by decide)) (Gn := fun _ => ?_)
  refine Go.aload d37_115 rfl (G := ?_)
  refine Go.iconst d37_117 (v := 2) rfl (G := ?_)
  refine Go.aload d37_118 rfl (G := ?_)
  refine Go.iconst d37_120 (v := 2) rfl (G := ?_)
  refine Go.caload d37_121 (inD (i := 1) rfl) rfl (G := ?_)
  refine Go.castore d37_122 0 rfl (x' := c2) (nc_of hc2) (Nat.le_of_ble_eq_true rfl) (D' := [(o1, .inr (.char, [.int c0, .int c1, .int c2, .int 0])), (v7, .inr (.char, [.int c0, .int c1, .int c2, .int c3]))]) rfl (G := ?_)
  refine Go.iload d37_123 rfl (G := ?_)
  refine Go.iconst d37_125 (v := 3) rfl (G := ?_)
  refine Go.icmp d37_126 (pc2 := 137) (Gy := fun h => absurd h (show ¬ (¬ (3 : Int32) < 4) by decide)) (Gn := fun _ => ?_)
  refine Go.aload d37_129 rfl (G := ?_)
  refine Go.iconst d37_131 (v := 3) rfl (G := ?_)
  refine Go.aload d37_132 rfl (G := ?_)
  refine Go.iconst d37_134 (v := 3) rfl (G := ?_)
  refine Go.caload d37_135 (inD (i := 1) rfl) rfl (G := ?_)
  refine Go.castore d37_136 0 rfl (x' := c3) (nc_of hc3) (Nat.le_of_ble_eq_true rfl) (D' := [(o1, .inr (.char, [.int c0, .int c1, .int c2, .int c3])), (v7, .inr (.char, [.int c0, .int c1, .int c2, .int c3]))]) rfl (G := ?_)
  refine Go.new d37_137 (hw _ (List.mem_of_getElem? (i := 5) rfl)) (hw _ (List.mem_of_getElem? (i := 6) rfl)) (hw _ (List.mem_of_getElem? (i := 7) rfl)) (NewF.cons (Or.inr (hw _ (List.mem_of_getElem? (i := 33) rfl))) (ty := .array .byte) (by decide +kernel) rfl (by simp) (NewF.cons (Or.inr (hw _ (List.mem_of_getElem? (i := 31) rfl))) (ty := .byte) (by decide +kernel) rfl (by simp) NewF.nil)) (G := fun o2 => ?_)
  refine Go.dup d37_140 (G := ?_)
  refine Go.aload d37_141 rfl (G := ?_)
  refine Go.invokeinit true d37_143 rfl (hw _ (List.mem_of_getElem? (i := 8) rfl)) (hw _ (List.mem_of_getElem? (i := 9) rfl)) (hw _ (List.mem_of_getElem? (i := 7) rfl)) (hw _ (List.mem_of_getElem? (i := 10) rfl)) (c_init hw o2 o1 ([c0, c1, c2, c3] : List Int32) 4 [] cpt hCS hcpt rfl (by decide) (by decide) (fun c hc => nlat (hlat c hc))) pdg_21 rfl (argsL := [.ref o1]) (rest := [.ref o2]) rfl rfl (Dr := [(o1, .inr (.char, [.int c0, .int c1, .int c2, .int c3])), (v7, .inr (.char, [.int c0, .int c1, .int c2, .int c3]))]) rfl (eS (Or.inr ⟨rfl, List.mem_of_getElem? (i := 0) rfl⟩) eN) (G := ?_)
  rintro _ _ _ ⟨t3, rfl, rfl, rfl⟩
  refine Go.norm (D2 := [(o2, .inl ("java/lang/String", [("java/lang/String", "value", "[B", .ref t3), ("java/lang/String", "coder", "B", .int 0)])), (t3, .inr (.byte, ([c0, c1, c2, c3] : List Int32).map byV)), (o1, .inr (.char, [.int c0, .int c1, .int c2, .int c3])), (v7, .inr (.char, [.int c0, .int c1, .int c2, .int c3]))]) (S2 := []) (c2 := 4) (s2 := 16) (st2 := [.ref o2]) ?_
  refine Go.astore d37_146 (Ls' := #[.val (.int a), .val (.int bq), .val (.int c), .val (.int d), .val (.int f), .val (.int 4), .val (.int iri), .val (.ref v7), .val (.ref o1), .val (.ref o2), .unset, .unset, .unset, .unset]) rfl (G := ?_)
  have mainA : ∀ ri rq : Int32, (idP ([c0, c1, c2, c3] : List Int32) ∨ iriP ([c0, c1, c2, c3] : List Int32) 4) → Go l Z a0 EL b n0 "com/example/iffley/iffley/model/TermParsePinLaw" code 14 (some .boolean) "law" room_1 [] (fun v D' S' => v = some (.int 1) ∧ D' = [] ∧ S' = []) [(o2, .inl ("java/lang/String", [("java/lang/String", "value", "[B", .ref t3), ("java/lang/String", "coder", "B", .int 0)])), (t3, .inr (.byte, ([c0, c1, c2, c3] : List Int32).map byV)), (o1, .inr (.char, [.int c0, .int c1, .int c2, .int c3])), (v7, .inr (.char, [.int c0, .int c1, .int c2, .int c3]))] [] 4 16 291 #[.val (.int a), .val (.int bq), .val (.int c), .val (.int d), .val (.int f), .val (.int 4), .val (.int iri), .val (.ref v7), .val (.ref o1), .val (.ref o2), .val (.int ri), .val (.int rq), .unset, .unset] [] := by
    intro ri rq hg
    refine Go.aload d37_291 rfl (G := ?_)
    refine Go.invokestatic true d37_293 (hw _ (List.mem_of_getElem? (i := 37) rfl)) (hw _ (List.mem_of_getElem? (i := 38) rfl)) (hw _ (List.mem_of_getElem? (i := 39) rfl)) (hw _ (List.mem_of_getElem? (i := 40) rfl)) (c_parse hw o2 t3 ([c0, c1, c2, c3] : List Int32) 4 cpt fmt hCS hcpt hFM hfm rfl (by decide) (by decide) hlat hg hb1 hE_Term_65 hE_Term_13) pdg_22 rfl (argsL := [.ref o2]) (rest := []) rfl rfl (Dr := [(o2, .inl ("java/lang/String", [("java/lang/String", "value", "[B", .ref t3), ("java/lang/String", "coder", "B", .int 0)])), (t3, .inr (.byte, ([c0, c1, c2, c3] : List Int32).map byV)), (o1, .inr (.char, [.int c0, .int c1, .int c2, .int c3])), (v7, .inr (.char, [.int c0, .int c1, .int c2, .int c3]))]) rfl (eS (Or.inr ⟨rfl, List.mem_of_getElem? (i := 0) rfl⟩) (eS (Or.inr ⟨rfl, List.mem_of_getElem? (i := 1) rfl⟩) eN)) (G := ?_)
    rintro _ _ _ ⟨tm4, rfl, rfl, rfl⟩
    refine Go.norm (D2 := [(tm4, .inl ("com/example/iffley/iffley/model/Term", [("com/example/iffley/iffley/model/Term", "text", "Ljava/lang/String;", .ref o2)])), (o2, .inl ("java/lang/String", [("java/lang/String", "value", "[B", .ref t3), ("java/lang/String", "coder", "B", .int 0)])), (t3, .inr (.byte, ([c0, c1, c2, c3] : List Int32).map byV)), (o1, .inr (.char, [.int c0, .int c1, .int c2, .int c3])), (v7, .inr (.char, [.int c0, .int c1, .int c2, .int c3]))]) (S2 := []) (c2 := 15) (s2 := 197) (st2 := [.ref tm4]) ?_
    refine Go.astore d37_296 (Ls' := #[.val (.int a), .val (.int bq), .val (.int c), .val (.int d), .val (.int f), .val (.int 4), .val (.int iri), .val (.ref v7), .val (.ref o1), .val (.ref o2), .val (.int ri), .val (.int rq), .val (.ref tm4), .unset]) rfl (G := ?_)
    have mainV : ∀ v : Int32, ((v = 1 ∧ upP c0) ∨ (v = 0 ∧ ¬ upP c0)) → Go l Z a0 EL b n0 "com/example/iffley/iffley/model/TermParsePinLaw" code 14 (some .boolean) "law" room_1 [] (fun v D' S' => v = some (.int 1) ∧ D' = [] ∧ S' = []) [(tm4, .inl ("com/example/iffley/iffley/model/Term", [("com/example/iffley/iffley/model/Term", "text", "Ljava/lang/String;", .ref o2)])), (o2, .inl ("java/lang/String", [("java/lang/String", "value", "[B", .ref t3), ("java/lang/String", "coder", "B", .int 0)])), (t3, .inr (.byte, ([c0, c1, c2, c3] : List Int32).map byV)), (o1, .inr (.char, [.int c0, .int c1, .int c2, .int c3])), (v7, .inr (.char, [.int c0, .int c1, .int c2, .int c3]))] [] 15 197 323 #[.val (.int a), .val (.int bq), .val (.int c), .val (.int d), .val (.int f), .val (.int 4), .val (.int iri), .val (.ref v7), .val (.ref o1), .val (.ref o2), .val (.int ri), .val (.int rq), .val (.ref tm4), .val (.int v)] [] := by
      intro v hv
      refine Go.aload d37_323 rfl (G := ?_)
      refine Go.aload d37_325 rfl (G := ?_)
      refine Go.invokevirtual true d37_327 (hw _ (List.mem_of_getElem? (i := 102) rfl)) (hw _ (List.mem_of_getElem? (i := 103) rfl)) (hw _ (List.mem_of_getElem? (i := 105) rfl)) (hw _ (List.mem_of_getElem? (i := 104) rfl)) (hw _ (List.mem_of_getElem? (i := 39) rfl)) (hw _ (List.mem_of_getElem? (i := 106) rfl)) (nfSel (hw _ (List.mem_of_getElem? (i := 105) rfl))) (inD (i := 0) rfl) (c_tstr hw tm4 o2) pdg_23 rfl (argsL := []) (rest := [.ref o2]) rfl rfl (Dr := [(tm4, .inl ("com/example/iffley/iffley/model/Term", [("com/example/iffley/iffley/model/Term", "text", "Ljava/lang/String;", .ref o2)])), (o2, .inl ("java/lang/String", [("java/lang/String", "value", "[B", .ref t3), ("java/lang/String", "coder", "B", .int 0)])), (t3, .inr (.byte, ([c0, c1, c2, c3] : List Int32).map byV)), (o1, .inr (.char, [.int c0, .int c1, .int c2, .int c3])), (v7, .inr (.char, [.int c0, .int c1, .int c2, .int c3]))]) rfl (eS (Or.inr ⟨rfl, List.mem_of_getElem? (i := 0) rfl⟩) eN) (G := ?_)
      rintro _ _ _ ⟨rfl, rfl, rfl⟩
      refine Go.norm (D2 := [(tm4, .inl ("com/example/iffley/iffley/model/Term", [("com/example/iffley/iffley/model/Term", "text", "Ljava/lang/String;", .ref o2)])), (o2, .inl ("java/lang/String", [("java/lang/String", "value", "[B", .ref t3), ("java/lang/String", "coder", "B", .int 0)])), (t3, .inr (.byte, ([c0, c1, c2, c3] : List Int32).map byV)), (o1, .inr (.char, [.int c0, .int c1, .int c2, .int c3])), (v7, .inr (.char, [.int c0, .int c1, .int c2, .int c3]))]) (S2 := []) (c2 := 15) (s2 := 197) (st2 := [.ref o2, .ref o2]) ?_
      refine Go.invokevirtual false d37_330 (hw _ (List.mem_of_getElem? (i := 107) rfl)) (hw _ (List.mem_of_getElem? (i := 108) rfl)) (hw _ (List.mem_of_getElem? (i := 110) rfl)) (hw _ (List.mem_of_getElem? (i := 109) rfl)) (hw _ (List.mem_of_getElem? (i := 7) rfl)) (hw _ (List.mem_of_getElem? (i := 111) rfl)) (nfSel (hw _ (List.mem_of_getElem? (i := 110) rfl))) (inD (i := 1) rfl) (c_eqSame hw o2) pdg_20 rfl (argsL := [.ref o2]) (rest := []) rfl rfl (Dr := [(tm4, .inl ("com/example/iffley/iffley/model/Term", [("com/example/iffley/iffley/model/Term", "text", "Ljava/lang/String;", .ref o2)])), (o2, .inl ("java/lang/String", [("java/lang/String", "value", "[B", .ref t3), ("java/lang/String", "coder", "B", .int 0)])), (t3, .inr (.byte, ([c0, c1, c2, c3] : List Int32).map byV)), (o1, .inr (.char, [.int c0, .int c1, .int c2, .int c3])), (v7, .inr (.char, [.int c0, .int c1, .int c2, .int c3]))]) rfl eN (G := ?_)
      rintro _ _ _ ⟨rfl, rfl, rfl⟩
      refine Go.norm (D2 := [(tm4, .inl ("com/example/iffley/iffley/model/Term", [("com/example/iffley/iffley/model/Term", "text", "Ljava/lang/String;", .ref o2)])), (o2, .inl ("java/lang/String", [("java/lang/String", "value", "[B", .ref t3), ("java/lang/String", "coder", "B", .int 0)])), (t3, .inr (.byte, ([c0, c1, c2, c3] : List Int32).map byV)), (o1, .inr (.char, [.int c0, .int c1, .int c2, .int c3])), (v7, .inr (.char, [.int c0, .int c1, .int c2, .int c3]))]) (S2 := []) (c2 := 15) (s2 := 197) (st2 := [.int 1]) ?_
      refine Go.ifc d37_333 (pc2 := 370) (Gy := fun h => absurd h (show ¬ ((1 : Int32) = 0) by decide)) (Gn := fun _ => ?_)
      refine Go.aload d37_336 rfl (G := ?_)
      refine Go.invokevirtual true d37_338 (hw _ (List.mem_of_getElem? (i := 112) rfl)) (hw _ (List.mem_of_getElem? (i := 113) rfl)) (hw _ (List.mem_of_getElem? (i := 115) rfl)) (hw _ (List.mem_of_getElem? (i := 114) rfl)) (hw _ (List.mem_of_getElem? (i := 39) rfl)) (hw _ (List.mem_of_getElem? (i := 116) rfl)) (nfSel (hw _ (List.mem_of_getElem? (i := 115) rfl))) (inD (i := 0) rfl) (c_isVar hw tm4 o2 t3 ([c0, c1, c2, c3] : List Int32) 4 cpt fmt hCS hcpt hFM hfm rfl (by decide) (by decide) hlat c0 rfl) pdg_7 rfl (argsL := []) (rest := []) rfl rfl (Dr := [(tm4, .inl ("com/example/iffley/iffley/model/Term", [("com/example/iffley/iffley/model/Term", "text", "Ljava/lang/String;", .ref o2)])), (o2, .inl ("java/lang/String", [("java/lang/String", "value", "[B", .ref t3), ("java/lang/String", "coder", "B", .int 0)])), (t3, .inr (.byte, ([c0, c1, c2, c3] : List Int32).map byV)), (o1, .inr (.char, [.int c0, .int c1, .int c2, .int c3])), (v7, .inr (.char, [.int c0, .int c1, .int c2, .int c3]))]) rfl (eS (Or.inr ⟨rfl, List.mem_of_getElem? (i := 0) rfl⟩) (eS (Or.inr ⟨rfl, List.mem_of_getElem? (i := 1) rfl⟩) (eS (Or.inr ⟨rfl, List.mem_of_getElem? (i := 2) rfl⟩) eN))) (G := ?_)
      rintro _ _ _ ⟨r, hr, rfl, rfl, rfl⟩
      refine Go.norm (D2 := [(tm4, .inl ("com/example/iffley/iffley/model/Term", [("com/example/iffley/iffley/model/Term", "text", "Ljava/lang/String;", .ref o2)])), (o2, .inl ("java/lang/String", [("java/lang/String", "value", "[B", .ref t3), ("java/lang/String", "coder", "B", .int 0)])), (t3, .inr (.byte, ([c0, c1, c2, c3] : List Int32).map byV)), (o1, .inr (.char, [.int c0, .int c1, .int c2, .int c3])), (v7, .inr (.char, [.int c0, .int c1, .int c2, .int c3]))]) (S2 := []) (c2 := 15) (s2 := 197) (st2 := [.int r]) ?_
      refine Go.iload d37_341 rfl (G := ?_)
      refine Go.icmp d37_343 (pc2 := 370) (Gy := fun h => absurd h (show ¬ (¬ r = v) from (fun q => q (upeq hr hv)))) (Gn := fun _ => ?_)
      refine Go.aload d37_346 rfl (G := ?_)
      refine Go.new d37_348 (hw _ (List.mem_of_getElem? (i := 5) rfl)) (hw _ (List.mem_of_getElem? (i := 6) rfl)) (hw _ (List.mem_of_getElem? (i := 7) rfl)) (NewF.cons (Or.inr (hw _ (List.mem_of_getElem? (i := 33) rfl))) (ty := .array .byte) (by decide +kernel) rfl (by simp) (NewF.cons (Or.inr (hw _ (List.mem_of_getElem? (i := 31) rfl))) (ty := .byte) (by decide +kernel) rfl (by simp) NewF.nil)) (G := fun o5 => ?_)
      refine Go.dup d37_351 (G := ?_)
      refine Go.aload d37_352 rfl (G := ?_)
      refine Go.invokeinit true d37_354 rfl (hw _ (List.mem_of_getElem? (i := 8) rfl)) (hw _ (List.mem_of_getElem? (i := 9) rfl)) (hw _ (List.mem_of_getElem? (i := 7) rfl)) (hw _ (List.mem_of_getElem? (i := 10) rfl)) (c_init hw o5 o1 ([c0, c1, c2, c3] : List Int32) 4 [] cpt hCS hcpt rfl (by decide) (by decide) (fun c hc => nlat (hlat c hc))) pdg_21 rfl (argsL := [.ref o1]) (rest := [.ref o5, .ref tm4]) rfl rfl (Dr := [(tm4, .inl ("com/example/iffley/iffley/model/Term", [("com/example/iffley/iffley/model/Term", "text", "Ljava/lang/String;", .ref o2)])), (o2, .inl ("java/lang/String", [("java/lang/String", "value", "[B", .ref t3), ("java/lang/String", "coder", "B", .int 0)])), (t3, .inr (.byte, ([c0, c1, c2, c3] : List Int32).map byV)), (o1, .inr (.char, [.int c0, .int c1, .int c2, .int c3])), (v7, .inr (.char, [.int c0, .int c1, .int c2, .int c3]))]) rfl (eS (Or.inr ⟨rfl, List.mem_of_getElem? (i := 3) rfl⟩) eN) (G := ?_)
      rintro _ _ _ ⟨t6, rfl, rfl, rfl⟩
      refine Go.norm (D2 := [(o5, .inl ("java/lang/String", [("java/lang/String", "value", "[B", .ref t6), ("java/lang/String", "coder", "B", .int 0)])), (t6, .inr (.byte, ([c0, c1, c2, c3] : List Int32).map byV)), (tm4, .inl ("com/example/iffley/iffley/model/Term", [("com/example/iffley/iffley/model/Term", "text", "Ljava/lang/String;", .ref o2)])), (o2, .inl ("java/lang/String", [("java/lang/String", "value", "[B", .ref t3), ("java/lang/String", "coder", "B", .int 0)])), (t3, .inr (.byte, ([c0, c1, c2, c3] : List Int32).map byV)), (o1, .inr (.char, [.int c0, .int c1, .int c2, .int c3])), (v7, .inr (.char, [.int c0, .int c1, .int c2, .int c3]))]) (S2 := []) (c2 := 17) (s2 := 205) (st2 := [.ref o5, .ref tm4]) ?_
      refine Go.invokestatic true d37_357 (hw _ (List.mem_of_getElem? (i := 37) rfl)) (hw _ (List.mem_of_getElem? (i := 38) rfl)) (hw _ (List.mem_of_getElem? (i := 39) rfl)) (hw _ (List.mem_of_getElem? (i := 40) rfl)) (c_parse hw o5 t6 ([c0, c1, c2, c3] : List Int32) 4 cpt fmt hCS hcpt hFM hfm rfl (by decide) (by decide) hlat hg hb1 hE_Term_65 hE_Term_13) pdg_22 rfl (argsL := [.ref o5]) (rest := [.ref tm4]) rfl rfl (Dr := [(o5, .inl ("java/lang/String", [("java/lang/String", "value", "[B", .ref t6), ("java/lang/String", "coder", "B", .int 0)])), (t6, .inr (.byte, ([c0, c1, c2, c3] : List Int32).map byV)), (tm4, .inl ("com/example/iffley/iffley/model/Term", [("com/example/iffley/iffley/model/Term", "text", "Ljava/lang/String;", .ref o2)])), (o2, .inl ("java/lang/String", [("java/lang/String", "value", "[B", .ref t3), ("java/lang/String", "coder", "B", .int 0)])), (t3, .inr (.byte, ([c0, c1, c2, c3] : List Int32).map byV)), (o1, .inr (.char, [.int c0, .int c1, .int c2, .int c3])), (v7, .inr (.char, [.int c0, .int c1, .int c2, .int c3]))]) rfl (eS (Or.inr ⟨rfl, List.mem_of_getElem? (i := 0) rfl⟩) (eS (Or.inr ⟨rfl, List.mem_of_getElem? (i := 1) rfl⟩) eN)) (G := ?_)
      rintro _ _ _ ⟨tm7, rfl, rfl, rfl⟩
      refine Go.norm (D2 := [(tm7, .inl ("com/example/iffley/iffley/model/Term", [("com/example/iffley/iffley/model/Term", "text", "Ljava/lang/String;", .ref o5)])), (o5, .inl ("java/lang/String", [("java/lang/String", "value", "[B", .ref t6), ("java/lang/String", "coder", "B", .int 0)])), (t6, .inr (.byte, ([c0, c1, c2, c3] : List Int32).map byV)), (tm4, .inl ("com/example/iffley/iffley/model/Term", [("com/example/iffley/iffley/model/Term", "text", "Ljava/lang/String;", .ref o2)])), (o2, .inl ("java/lang/String", [("java/lang/String", "value", "[B", .ref t3), ("java/lang/String", "coder", "B", .int 0)])), (t3, .inr (.byte, ([c0, c1, c2, c3] : List Int32).map byV)), (o1, .inr (.char, [.int c0, .int c1, .int c2, .int c3])), (v7, .inr (.char, [.int c0, .int c1, .int c2, .int c3]))]) (S2 := []) (c2 := 28) (s2 := 386) (st2 := [.ref tm7, .ref tm4]) ?_
      refine Go.ne 4 1 rfl rfl (by decide) (fun hne => ?_)
      refine Go.invokevirtual true d37_360 (hw _ (List.mem_of_getElem? (i := 117) rfl)) (hw _ (List.mem_of_getElem? (i := 118) rfl)) (hw _ (List.mem_of_getElem? (i := 120) rfl)) (hw _ (List.mem_of_getElem? (i := 119) rfl)) (hw _ (List.mem_of_getElem? (i := 39) rfl)) (hw _ (List.mem_of_getElem? (i := 121) rfl)) (nfSel (hw _ (List.mem_of_getElem? (i := 120) rfl))) (inD (i := 3) rfl) (c_te hw tm4 tm7 o2 t3 o5 t6 ([c0, c1, c2, c3] : List Int32) ([c0, c1, c2, c3] : List Int32) 4 4 cpt hCS hcpt hne rfl rfl (by decide) (by decide) hlat hlat) pdg_20 rfl (argsL := [.ref tm7]) (rest := []) rfl rfl (Dr := [(tm7, .inl ("com/example/iffley/iffley/model/Term", [("com/example/iffley/iffley/model/Term", "text", "Ljava/lang/String;", .ref o5)])), (o5, .inl ("java/lang/String", [("java/lang/String", "value", "[B", .ref t6), ("java/lang/String", "coder", "B", .int 0)])), (t6, .inr (.byte, ([c0, c1, c2, c3] : List Int32).map byV)), (tm4, .inl ("com/example/iffley/iffley/model/Term", [("com/example/iffley/iffley/model/Term", "text", "Ljava/lang/String;", .ref o2)])), (o2, .inl ("java/lang/String", [("java/lang/String", "value", "[B", .ref t3), ("java/lang/String", "coder", "B", .int 0)])), (t3, .inr (.byte, ([c0, c1, c2, c3] : List Int32).map byV)), (o1, .inr (.char, [.int c0, .int c1, .int c2, .int c3])), (v7, .inr (.char, [.int c0, .int c1, .int c2, .int c3]))]) rfl (eS (Or.inr ⟨rfl, List.mem_of_getElem? (i := 3) rfl⟩) (eS (Or.inr ⟨rfl, List.mem_of_getElem? (i := 0) rfl⟩) (eS (Or.inr ⟨rfl, List.mem_of_getElem? (i := 4) rfl⟩) (eS (Or.inr ⟨rfl, List.mem_of_getElem? (i := 5) rfl⟩) (eS (Or.inr ⟨rfl, List.mem_of_getElem? (i := 1) rfl⟩) (eS (Or.inr ⟨rfl, List.mem_of_getElem? (i := 2) rfl⟩) eN)))))) (G := ?_)
      rintro _ _ _ ⟨r2, hr2, rfl, rfl, rfl⟩
      refine Go.norm (D2 := [(tm7, .inl ("com/example/iffley/iffley/model/Term", [("com/example/iffley/iffley/model/Term", "text", "Ljava/lang/String;", .ref o5)])), (o5, .inl ("java/lang/String", [("java/lang/String", "value", "[B", .ref t6), ("java/lang/String", "coder", "B", .int 0)])), (t6, .inr (.byte, ([c0, c1, c2, c3] : List Int32).map byV)), (tm4, .inl ("com/example/iffley/iffley/model/Term", [("com/example/iffley/iffley/model/Term", "text", "Ljava/lang/String;", .ref o2)])), (o2, .inl ("java/lang/String", [("java/lang/String", "value", "[B", .ref t3), ("java/lang/String", "coder", "B", .int 0)])), (t3, .inr (.byte, ([c0, c1, c2, c3] : List Int32).map byV)), (o1, .inr (.char, [.int c0, .int c1, .int c2, .int c3])), (v7, .inr (.char, [.int c0, .int c1, .int c2, .int c3]))]) (S2 := []) (c2 := 28) (s2 := 386) (st2 := [.int r2]) ?_
      refine Go.ifc d37_363 (pc2 := 370) (Gy := fun h => absurd h (show ¬ (r2 = 0) from (fun q => bF hr2 q rfl))) (Gn := fun _ => ?_)
      refine Go.iconst d37_366 (v := 1) rfl (G := ?_)
      refine Go.goto d37_367 (pc2 := 371) (G := ?_)
      refine Go.sub [] (by decide) rfl (D' := []) rfl (S' := []) eN (G := ?_)
      exact Go.retB d37_371 (by simp) (z' := 1) rfl ⟨rfl, rfl, rfl⟩
    refine Go.aload d37_298 rfl (G := ?_)
    refine Go.iconst d37_300 (v := 0) rfl (G := ?_)
    refine Go.caload d37_301 (inD (i := 4) rfl) rfl (G := ?_)
    refine Go.bipush d37_302 (v := 65) rfl (G := ?_)
    refine Go.icmp d37_304 (pc2 := 320) (Gy := fun h8 => ?_) (Gn := fun h8 => ?_)
    · have h8 : c0 < 65 := h8
      refine Go.iconst d37_320 (v := 0) rfl (G := ?_)
      refine Go.istore d37_321 (Ls' := #[.val (.int a), .val (.int bq), .val (.int c), .val (.int d), .val (.int f), .val (.int 4), .val (.int iri), .val (.ref v7), .val (.ref o1), .val (.ref o2), .val (.int ri), .val (.int rq), .val (.ref tm4), .val (.int 0)]) rfl (G := ?_)
      exact mainV 0 (Or.inr ⟨rfl, by simp only [upP, Int32.lt_iff_toInt_lt, ← Int32.toInt_inj, Int32.reduceToInt] at h8 ⊢; omega⟩)
    · have h8 : ¬ c0 < 65 := h8
      refine Go.aload d37_307 rfl (G := ?_)
      refine Go.iconst d37_309 (v := 0) rfl (G := ?_)
      refine Go.caload d37_310 (inD (i := 4) rfl) rfl (G := ?_)
      refine Go.bipush d37_311 (v := 90) rfl (G := ?_)
      refine Go.icmp d37_313 (pc2 := 320) (Gy := fun h9 => ?_) (Gn := fun h9 => ?_)
      · have h9 : 90 < c0 := h9
        refine Go.iconst d37_320 (v := 0) rfl (G := ?_)
        refine Go.istore d37_321 (Ls' := #[.val (.int a), .val (.int bq), .val (.int c), .val (.int d), .val (.int f), .val (.int 4), .val (.int iri), .val (.ref v7), .val (.ref o1), .val (.ref o2), .val (.int ri), .val (.int rq), .val (.ref tm4), .val (.int 0)]) rfl (G := ?_)
        exact mainV 0 (Or.inr ⟨rfl, by simp only [upP, Int32.lt_iff_toInt_lt, ← Int32.toInt_inj, Int32.reduceToInt] at h8 h9 ⊢; omega⟩)
      · have h9 : ¬ 90 < c0 := h9
        refine Go.iconst d37_316 (v := 1) rfl (G := ?_)
        refine Go.goto d37_317 (pc2 := 321) (G := ?_)
        refine Go.istore d37_321 (Ls' := #[.val (.int a), .val (.int bq), .val (.int c), .val (.int d), .val (.int f), .val (.int 4), .val (.int iri), .val (.ref v7), .val (.ref o1), .val (.ref o2), .val (.int ri), .val (.int rq), .val (.ref tm4), .val (.int 1)]) rfl (G := ?_)
        exact mainV 1 (Or.inl ⟨rfl, by simp only [upP, Int32.lt_iff_toInt_lt, ← Int32.toInt_inj, Int32.reduceToInt] at h8 h9 ⊢; omega⟩)
  have mainB : ∀ ri rq : Int32, (ri = 0 ∨ idP ([c0, c1, c2, c3] : List Int32)) → (rq = 0 ∨ iriP ([c0, c1, c2, c3] : List Int32) 4) → Go l Z a0 EL b n0 "com/example/iffley/iffley/model/TermParsePinLaw" code 14 (some .boolean) "law" room_1 [] (fun v D' S' => v = some (.int 1) ∧ D' = [] ∧ S' = []) [(o2, .inl ("java/lang/String", [("java/lang/String", "value", "[B", .ref t3), ("java/lang/String", "coder", "B", .int 0)])), (t3, .inr (.byte, ([c0, c1, c2, c3] : List Int32).map byV)), (o1, .inr (.char, [.int c0, .int c1, .int c2, .int c3])), (v7, .inr (.char, [.int c0, .int c1, .int c2, .int c3]))] [] 4 16 279 #[.val (.int a), .val (.int bq), .val (.int c), .val (.int d), .val (.int f), .val (.int 4), .val (.int iri), .val (.ref v7), .val (.ref o1), .val (.ref o2), .val (.int ri), .val (.int rq), .unset, .unset] [] := by
    intro ri rq hI hQ
    refine Go.iload d37_279 rfl (G := ?_)
    refine Go.ifc d37_281 (pc2 := 291) (Gy := fun h => ?_) (Gn := fun h => ?_)
    · have h : ¬ ri = 0 := h
      exact mainA ri rq (Or.inl (hI.resolve_left h))
    · have h : ri = 0 := Classical.not_not.mp h
      refine Go.iload d37_284 rfl (G := ?_)
      refine Go.ifc d37_286 (pc2 := 291) (Gy := fun h2 => ?_) (Gn := fun h2 => ?_)
      · have h2 : ¬ rq = 0 := h2
        exact mainA ri rq (Or.inr (hQ.resolve_left h2))
      · have h2 : rq = 0 := Classical.not_not.mp h2
        refine Go.iconst d37_289 (v := 1) rfl (G := ?_)
        refine Go.sub [] (by decide) rfl (D' := []) rfl (S' := []) eN (G := ?_)
        exact Go.retB d37_290 (by simp) (z' := 1) rfl ⟨rfl, rfl, rfl⟩
  have mainC : ∀ ri : Int32, (ri = 0 ∨ idP ([c0, c1, c2, c3] : List Int32)) → Go l Z a0 EL b n0 "com/example/iffley/iffley/model/TermParsePinLaw" code 14 (some .boolean) "law" room_1 [] (fun v D' S' => v = some (.int 1) ∧ D' = [] ∧ S' = []) [(o2, .inl ("java/lang/String", [("java/lang/String", "value", "[B", .ref t3), ("java/lang/String", "coder", "B", .int 0)])), (t3, .inr (.byte, ([c0, c1, c2, c3] : List Int32).map byV)), (o1, .inr (.char, [.int c0, .int c1, .int c2, .int c3])), (v7, .inr (.char, [.int c0, .int c1, .int c2, .int c3]))] [] 4 16 213 #[.val (.int a), .val (.int bq), .val (.int c), .val (.int d), .val (.int f), .val (.int 4), .val (.int iri), .val (.ref v7), .val (.ref o1), .val (.ref o2), .val (.int ri), .unset, .unset, .unset] [] := by
    intro ri hI
    refine Go.iload d37_213 rfl (G := ?_)
    refine Go.iconst d37_215 (v := 2) rfl (G := ?_)
    refine Go.icmp d37_216 (pc2 := 276) (Gy := fun h => absurd h (show ¬ ((4 : Int32) < 2) by decide)) (Gn := fun _ => ?_)
    refine Go.aload d37_219 rfl (G := ?_)
    refine Go.iconst d37_221 (v := 0) rfl (G := ?_)
    refine Go.caload d37_222 (inD (i := 3) rfl) rfl (G := ?_)
    refine Go.bipush d37_223 (v := 60) rfl (G := ?_)
    refine Go.icmp d37_225 (pc2 := 276) (Gy := fun h11 => ?_) (Gn := fun h11 => ?_)
    · have h11 : ¬ c0 = 60 := h11
      refine Go.iconst d37_276 (v := 0) rfl (G := ?_)
      refine Go.istore d37_277 (Ls' := #[.val (.int a), .val (.int bq), .val (.int c), .val (.int d), .val (.int f), .val (.int 4), .val (.int iri), .val (.ref v7), .val (.ref o1), .val (.ref o2), .val (.int ri), .val (.int 0), .unset, .unset]) rfl (G := ?_)
      exact mainB ri 0 hI (Or.inl rfl)
    · have h11 : c0 = 60 := Classical.not_not.mp h11
      refine Go.aload d37_228 rfl (G := ?_)
      refine Go.iload d37_230 rfl (G := ?_)
      refine Go.iconst d37_232 (v := 1) rfl (G := ?_)
      refine Go.isub d37_233 (z := 3) rfl (G := ?_)
      refine Go.caload d37_234 (inD (i := 3) rfl) rfl (G := ?_)
      refine Go.bipush d37_235 (v := 62) rfl (G := ?_)
      refine Go.icmp d37_237 (pc2 := 276) (Gy := fun h12 => ?_) (Gn := fun h12 => ?_)
      · have h12 : ¬ c3 = 62 := h12
        refine Go.iconst d37_276 (v := 0) rfl (G := ?_)
        refine Go.istore d37_277 (Ls' := #[.val (.int a), .val (.int bq), .val (.int c), .val (.int d), .val (.int f), .val (.int 4), .val (.int iri), .val (.ref v7), .val (.ref o1), .val (.ref o2), .val (.int ri), .val (.int 0), .unset, .unset]) rfl (G := ?_)
        exact mainB ri 0 hI (Or.inl rfl)
      · have h12 : c3 = 62 := Classical.not_not.mp h12
        refine Go.iload d37_240 rfl (G := ?_)
        refine Go.iconst d37_242 (v := 3) rfl (G := ?_)
        refine Go.icmp d37_243 (pc2 := 256) (Gy := fun h => absurd h (show ¬ ((4 : Int32) < 3) by decide)) (Gn := fun _ => ?_)
        refine Go.aload d37_246 rfl (G := ?_)
        refine Go.iconst d37_248 (v := 1) rfl (G := ?_)
        refine Go.caload d37_249 (inD (i := 3) rfl) rfl (G := ?_)
        refine Go.invokestatic false d37_250 (hw _ (List.mem_of_getElem? (i := 128) rfl)) (hw _ (List.mem_of_getElem? (i := 129) rfl)) (hw _ (List.mem_of_getElem? (i := 3) rfl)) (hw _ (List.mem_of_getElem? (i := 130) rfl)) (c_iric hw c1) pdg_14 rfl (argsL := [.int c1]) (rest := []) rfl rfl (Dr := [(o2, .inl ("java/lang/String", [("java/lang/String", "value", "[B", .ref t3), ("java/lang/String", "coder", "B", .int 0)])), (t3, .inr (.byte, ([c0, c1, c2, c3] : List Int32).map byV)), (o1, .inr (.char, [.int c0, .int c1, .int c2, .int c3])), (v7, .inr (.char, [.int c0, .int c1, .int c2, .int c3]))]) rfl eN (G := ?_)
        rintro _ _ _ ⟨r14, hr14, rfl, rfl, rfl⟩
        refine Go.norm (D2 := [(o2, .inl ("java/lang/String", [("java/lang/String", "value", "[B", .ref t3), ("java/lang/String", "coder", "B", .int 0)])), (t3, .inr (.byte, ([c0, c1, c2, c3] : List Int32).map byV)), (o1, .inr (.char, [.int c0, .int c1, .int c2, .int c3])), (v7, .inr (.char, [.int c0, .int c1, .int c2, .int c3]))]) (S2 := []) (c2 := 4) (s2 := 16) (st2 := [.int r14]) ?_
        refine Go.ifc d37_253 (pc2 := 276) (Gy := fun h15 => ?_) (Gn := fun h15 => ?_)
        · have h15 : r14 = 0 := h15
          refine Go.iconst d37_276 (v := 0) rfl (G := ?_)
          refine Go.istore d37_277 (Ls' := #[.val (.int a), .val (.int bq), .val (.int c), .val (.int d), .val (.int f), .val (.int 4), .val (.int iri), .val (.ref v7), .val (.ref o1), .val (.ref o2), .val (.int ri), .val (.int 0), .unset, .unset]) rfl (G := ?_)
          exact mainB ri 0 hI (Or.inl rfl)
        · have h15 : ¬ r14 = 0 := h15
          refine Go.iload d37_256 rfl (G := ?_)
          refine Go.iconst d37_258 (v := 4) rfl (G := ?_)
          refine Go.icmp d37_259 (pc2 := 272) (Gy := fun h => absurd h (show ¬ ((4 : Int32) < 4) by decide)) (Gn := fun _ => ?_)
          refine Go.aload d37_262 rfl (G := ?_)
          refine Go.iconst d37_264 (v := 2) rfl (G := ?_)
          refine Go.caload d37_265 (inD (i := 3) rfl) rfl (G := ?_)
          refine Go.invokestatic false d37_266 (hw _ (List.mem_of_getElem? (i := 128) rfl)) (hw _ (List.mem_of_getElem? (i := 129) rfl)) (hw _ (List.mem_of_getElem? (i := 3) rfl)) (hw _ (List.mem_of_getElem? (i := 130) rfl)) (c_iric hw c2) pdg_14 rfl (argsL := [.int c2]) (rest := []) rfl rfl (Dr := [(o2, .inl ("java/lang/String", [("java/lang/String", "value", "[B", .ref t3), ("java/lang/String", "coder", "B", .int 0)])), (t3, .inr (.byte, ([c0, c1, c2, c3] : List Int32).map byV)), (o1, .inr (.char, [.int c0, .int c1, .int c2, .int c3])), (v7, .inr (.char, [.int c0, .int c1, .int c2, .int c3]))]) rfl eN (G := ?_)
          rintro _ _ _ ⟨r17, hr17, rfl, rfl, rfl⟩
          refine Go.norm (D2 := [(o2, .inl ("java/lang/String", [("java/lang/String", "value", "[B", .ref t3), ("java/lang/String", "coder", "B", .int 0)])), (t3, .inr (.byte, ([c0, c1, c2, c3] : List Int32).map byV)), (o1, .inr (.char, [.int c0, .int c1, .int c2, .int c3])), (v7, .inr (.char, [.int c0, .int c1, .int c2, .int c3]))]) (S2 := []) (c2 := 4) (s2 := 16) (st2 := [.int r17]) ?_
          refine Go.ifc d37_269 (pc2 := 276) (Gy := fun h18 => ?_) (Gn := fun h18 => ?_)
          · have h18 : r17 = 0 := h18
            refine Go.iconst d37_276 (v := 0) rfl (G := ?_)
            refine Go.istore d37_277 (Ls' := #[.val (.int a), .val (.int bq), .val (.int c), .val (.int d), .val (.int f), .val (.int 4), .val (.int iri), .val (.ref v7), .val (.ref o1), .val (.ref o2), .val (.int ri), .val (.int 0), .unset, .unset]) rfl (G := ?_)
            exact mainB ri 0 hI (Or.inl rfl)
          · have h18 : ¬ r17 = 0 := h18
            refine Go.iconst d37_272 (v := 1) rfl (G := ?_)
            refine Go.goto d37_273 (pc2 := 277) (G := ?_)
            refine Go.istore d37_277 (Ls' := #[.val (.int a), .val (.int bq), .val (.int c), .val (.int d), .val (.int f), .val (.int 4), .val (.int iri), .val (.ref v7), .val (.ref o1), .val (.ref o2), .val (.int ri), .val (.int 1), .unset, .unset]) rfl (G := ?_)
            exact mainB ri 1 hI (Or.inr (iri4 h11 h12 (hr14.resolve_left h15) (hr17.resolve_left h18)))
  refine Go.aload d37_148 rfl (G := ?_)
  refine Go.iconst d37_150 (v := 0) rfl (G := ?_)
  refine Go.caload d37_151 (inD (i := 3) rfl) rfl (G := ?_)
  refine Go.invokestatic false d37_152 (hw _ (List.mem_of_getElem? (i := 34) rfl)) (hw _ (List.mem_of_getElem? (i := 35) rfl)) (hw _ (List.mem_of_getElem? (i := 3) rfl)) (hw _ (List.mem_of_getElem? (i := 36) rfl)) (c_let2 hw c0) pdg_14 rfl (argsL := [.int c0]) (rest := []) rfl rfl (Dr := [(o2, .inl ("java/lang/String", [("java/lang/String", "value", "[B", .ref t3), ("java/lang/String", "coder", "B", .int 0)])), (t3, .inr (.byte, ([c0, c1, c2, c3] : List Int32).map byV)), (o1, .inr (.char, [.int c0, .int c1, .int c2, .int c3])), (v7, .inr (.char, [.int c0, .int c1, .int c2, .int c3]))]) rfl eN (G := ?_)
  rintro _ _ _ ⟨r19, hr19, rfl, rfl, rfl⟩
  refine Go.norm (D2 := [(o2, .inl ("java/lang/String", [("java/lang/String", "value", "[B", .ref t3), ("java/lang/String", "coder", "B", .int 0)])), (t3, .inr (.byte, ([c0, c1, c2, c3] : List Int32).map byV)), (o1, .inr (.char, [.int c0, .int c1, .int c2, .int c3])), (v7, .inr (.char, [.int c0, .int c1, .int c2, .int c3]))]) (S2 := []) (c2 := 4) (s2 := 16) (st2 := [.int r19]) ?_
  refine Go.ifc d37_155 (pc2 := 210) (Gy := fun h20 => ?_) (Gn := fun h20 => ?_)
  · have h20 : r19 = 0 := h20
    refine Go.iconst d37_210 (v := 0) rfl (G := ?_)
    refine Go.istore d37_211 (Ls' := #[.val (.int a), .val (.int bq), .val (.int c), .val (.int d), .val (.int f), .val (.int 4), .val (.int iri), .val (.ref v7), .val (.ref o1), .val (.ref o2), .val (.int 0), .unset, .unset, .unset]) rfl (G := ?_)
    exact mainC 0 (Or.inl rfl)
  · have h20 : ¬ r19 = 0 := h20
    refine Go.iload d37_158 rfl (G := ?_)
    refine Go.iconst d37_160 (v := 2) rfl (G := ?_)
    refine Go.icmp d37_161 (pc2 := 174) (Gy := fun h => absurd h (show ¬ ((4 : Int32) < 2) by decide)) (Gn := fun _ => ?_)
    refine Go.aload d37_164 rfl (G := ?_)
    refine Go.iconst d37_166 (v := 1) rfl (G := ?_)
    refine Go.caload d37_167 (inD (i := 3) rfl) rfl (G := ?_)
    refine Go.invokestatic false d37_168 (hw _ (List.mem_of_getElem? (i := 162) rfl)) (hw _ (List.mem_of_getElem? (i := 163) rfl)) (hw _ (List.mem_of_getElem? (i := 3) rfl)) (hw _ (List.mem_of_getElem? (i := 164) rfl)) (c_idc hw c1) pdg_14 rfl (argsL := [.int c1]) (rest := []) rfl rfl (Dr := [(o2, .inl ("java/lang/String", [("java/lang/String", "value", "[B", .ref t3), ("java/lang/String", "coder", "B", .int 0)])), (t3, .inr (.byte, ([c0, c1, c2, c3] : List Int32).map byV)), (o1, .inr (.char, [.int c0, .int c1, .int c2, .int c3])), (v7, .inr (.char, [.int c0, .int c1, .int c2, .int c3]))]) rfl eN (G := ?_)
    rintro _ _ _ ⟨r22, hr22, rfl, rfl, rfl⟩
    refine Go.norm (D2 := [(o2, .inl ("java/lang/String", [("java/lang/String", "value", "[B", .ref t3), ("java/lang/String", "coder", "B", .int 0)])), (t3, .inr (.byte, ([c0, c1, c2, c3] : List Int32).map byV)), (o1, .inr (.char, [.int c0, .int c1, .int c2, .int c3])), (v7, .inr (.char, [.int c0, .int c1, .int c2, .int c3]))]) (S2 := []) (c2 := 4) (s2 := 16) (st2 := [.int r22]) ?_
    refine Go.ifc d37_171 (pc2 := 210) (Gy := fun h23 => ?_) (Gn := fun h23 => ?_)
    · have h23 : r22 = 0 := h23
      refine Go.iconst d37_210 (v := 0) rfl (G := ?_)
      refine Go.istore d37_211 (Ls' := #[.val (.int a), .val (.int bq), .val (.int c), .val (.int d), .val (.int f), .val (.int 4), .val (.int iri), .val (.ref v7), .val (.ref o1), .val (.ref o2), .val (.int 0), .unset, .unset, .unset]) rfl (G := ?_)
      exact mainC 0 (Or.inl rfl)
    · have h23 : ¬ r22 = 0 := h23
      refine Go.iload d37_174 rfl (G := ?_)
      refine Go.iconst d37_176 (v := 3) rfl (G := ?_)
      refine Go.icmp d37_177 (pc2 := 190) (Gy := fun h => absurd h (show ¬ ((4 : Int32) < 3) by decide)) (Gn := fun _ => ?_)
      refine Go.aload d37_180 rfl (G := ?_)
      refine Go.iconst d37_182 (v := 2) rfl (G := ?_)
      refine Go.caload d37_183 (inD (i := 3) rfl) rfl (G := ?_)
      refine Go.invokestatic false d37_184 (hw _ (List.mem_of_getElem? (i := 162) rfl)) (hw _ (List.mem_of_getElem? (i := 163) rfl)) (hw _ (List.mem_of_getElem? (i := 3) rfl)) (hw _ (List.mem_of_getElem? (i := 164) rfl)) (c_idc hw c2) pdg_14 rfl (argsL := [.int c2]) (rest := []) rfl rfl (Dr := [(o2, .inl ("java/lang/String", [("java/lang/String", "value", "[B", .ref t3), ("java/lang/String", "coder", "B", .int 0)])), (t3, .inr (.byte, ([c0, c1, c2, c3] : List Int32).map byV)), (o1, .inr (.char, [.int c0, .int c1, .int c2, .int c3])), (v7, .inr (.char, [.int c0, .int c1, .int c2, .int c3]))]) rfl eN (G := ?_)
      rintro _ _ _ ⟨r25, hr25, rfl, rfl, rfl⟩
      refine Go.norm (D2 := [(o2, .inl ("java/lang/String", [("java/lang/String", "value", "[B", .ref t3), ("java/lang/String", "coder", "B", .int 0)])), (t3, .inr (.byte, ([c0, c1, c2, c3] : List Int32).map byV)), (o1, .inr (.char, [.int c0, .int c1, .int c2, .int c3])), (v7, .inr (.char, [.int c0, .int c1, .int c2, .int c3]))]) (S2 := []) (c2 := 4) (s2 := 16) (st2 := [.int r25]) ?_
      refine Go.ifc d37_187 (pc2 := 210) (Gy := fun h26 => ?_) (Gn := fun h26 => ?_)
      · have h26 : r25 = 0 := h26
        refine Go.iconst d37_210 (v := 0) rfl (G := ?_)
        refine Go.istore d37_211 (Ls' := #[.val (.int a), .val (.int bq), .val (.int c), .val (.int d), .val (.int f), .val (.int 4), .val (.int iri), .val (.ref v7), .val (.ref o1), .val (.ref o2), .val (.int 0), .unset, .unset, .unset]) rfl (G := ?_)
        exact mainC 0 (Or.inl rfl)
      · have h26 : ¬ r25 = 0 := h26
        refine Go.iload d37_190 rfl (G := ?_)
        refine Go.iconst d37_192 (v := 4) rfl (G := ?_)
        refine Go.icmp d37_193 (pc2 := 206) (Gy := fun h => absurd h (show ¬ ((4 : Int32) < 4) by decide)) (Gn := fun _ => ?_)
        refine Go.aload d37_196 rfl (G := ?_)
        refine Go.iconst d37_198 (v := 3) rfl (G := ?_)
        refine Go.caload d37_199 (inD (i := 3) rfl) rfl (G := ?_)
        refine Go.invokestatic false d37_200 (hw _ (List.mem_of_getElem? (i := 162) rfl)) (hw _ (List.mem_of_getElem? (i := 163) rfl)) (hw _ (List.mem_of_getElem? (i := 3) rfl)) (hw _ (List.mem_of_getElem? (i := 164) rfl)) (c_idc hw c3) pdg_14 rfl (argsL := [.int c3]) (rest := []) rfl rfl (Dr := [(o2, .inl ("java/lang/String", [("java/lang/String", "value", "[B", .ref t3), ("java/lang/String", "coder", "B", .int 0)])), (t3, .inr (.byte, ([c0, c1, c2, c3] : List Int32).map byV)), (o1, .inr (.char, [.int c0, .int c1, .int c2, .int c3])), (v7, .inr (.char, [.int c0, .int c1, .int c2, .int c3]))]) rfl eN (G := ?_)
        rintro _ _ _ ⟨r28, hr28, rfl, rfl, rfl⟩
        refine Go.norm (D2 := [(o2, .inl ("java/lang/String", [("java/lang/String", "value", "[B", .ref t3), ("java/lang/String", "coder", "B", .int 0)])), (t3, .inr (.byte, ([c0, c1, c2, c3] : List Int32).map byV)), (o1, .inr (.char, [.int c0, .int c1, .int c2, .int c3])), (v7, .inr (.char, [.int c0, .int c1, .int c2, .int c3]))]) (S2 := []) (c2 := 4) (s2 := 16) (st2 := [.int r28]) ?_
        refine Go.ifc d37_203 (pc2 := 210) (Gy := fun h29 => ?_) (Gn := fun h29 => ?_)
        · have h29 : r28 = 0 := h29
          refine Go.iconst d37_210 (v := 0) rfl (G := ?_)
          refine Go.istore d37_211 (Ls' := #[.val (.int a), .val (.int bq), .val (.int c), .val (.int d), .val (.int f), .val (.int 4), .val (.int iri), .val (.ref v7), .val (.ref o1), .val (.ref o2), .val (.int 0), .unset, .unset, .unset]) rfl (G := ?_)
          exact mainC 0 (Or.inl rfl)
        · have h29 : ¬ r28 = 0 := h29
          refine Go.iconst d37_206 (v := 1) rfl (G := ?_)
          refine Go.goto d37_207 (pc2 := 211) (G := ?_)
          refine Go.istore d37_211 (Ls' := #[.val (.int a), .val (.int bq), .val (.int c), .val (.int d), .val (.int f), .val (.int 4), .val (.int iri), .val (.ref v7), .val (.ref o1), .val (.ref o2), .val (.int 1), .unset, .unset, .unset]) rfl (G := ?_)
          exact mainC 1 (Or.inr (idP_of (bT hr19 h20) (eS (bT hr22 h23) (eS (bT hr25 h26) (eS (bT hr28 h29) eN)))))
set_option maxRecDepth 65536 in
set_option maxHeartbeats 40000000 in
theorem c_law {l : Launch} {Z : State} {a0 : Array Value} {EL : List (String × Nat)} {b : Bool} {n0 : Nat} (hw : ∀ d ∈ tables_1, d.before a0 Z = true) (a bq c d f : Int32) (cpt : Int32) (fmt : Value) (hCS : Sta Z Z.heap "java/lang/String" "COMPACT_STRINGS" "Z" (.int cpt)) (hcpt : ¬ cpt = 0) (hFM : Sta Z Z.heap "jdk/internal/util/Preconditions" "SIOOBE_FORMATTER" "Ljava/util/function/BiFunction;" fmt) (hfm : fmt.isRef = true) (hb1 : b = true) (hE_Term_65 : ("com/example/iffley/iffley/model/Term", 65) ∈ EL) (hE_Term_13 : ("com/example/iffley/iffley/model/Term", 13) ∈ EL) : Met l Z a0 EL b n0 x code 14 (some .boolean) tables_1 room_1 [.int a, .int bq, .int c, .int d, .int f] [] [] (fun v D' S' => v = some (.int 1) ∧ D' = [] ∧ S' = []) := by
  refine Met.of_go (own := "com/example/iffley/iffley/model/TermParsePinLaw") (nm := "law") (Ls := #[.val (.int a), .val (.int bq), .val (.int c), .val (.int d), .val (.int f), .unset, .unset, .unset, .unset, .unset, .unset, .unset, .unset, .unset]) (plainFor_of_name png_6) (fun m => by first | rfl | (simp [entryFrame, mkF, argsToLocals, Value.category]; done)) ?_
  obtain ⟨nn, hnn⟩ : ∃ nn, 1 + (f &&& 3) = nn := ⟨_, rfl⟩
  refine Go.iconst d37_0 (v := 1) rfl (G := ?_)
  refine Go.iload d37_1 rfl (G := ?_)
  refine Go.iconst d37_3 (v := 3) rfl (G := ?_)
  refine Go.iand d37_4 (z := (f &&& 3)) rfl (G := ?_)
  refine Go.iadd d37_5 (z := nn) hnn (G := ?_)
  refine Go.istore d37_6 (Ls' := #[.val (.int a), .val (.int bq), .val (.int c), .val (.int d), .val (.int f), .val (.int nn), .unset, .unset, .unset, .unset, .unset, .unset, .unset, .unset]) rfl (G := ?_)
  refine Go.iload d37_8 rfl (G := ?_)
  refine Go.iconst d37_10 (v := 2) rfl (G := ?_)
  refine Go.ishr d37_11 (z := (f >>> (2 &&& 31))) rfl (G := ?_)
  refine Go.iconst d37_12 (v := 1) rfl (G := ?_)
  refine Go.iand d37_13 (z := ((f >>> (2 &&& 31)) &&& 1)) rfl (G := ?_)
  refine Go.ifc d37_14 (pc2 := 21) (Gy := fun h1 => ?_) (Gn := fun h1 => ?_)
  · have h1 : ((f >>> (2 &&& 31)) &&& 1) = 0 := h1
    refine Go.iconst d37_21 (v := 0) rfl (G := ?_)
    refine Go.istore d37_22 (Ls' := #[.val (.int a), .val (.int bq), .val (.int c), .val (.int d), .val (.int f), .val (.int nn), .val (.int 0), .unset, .unset, .unset, .unset, .unset, .unset, .unset]) rfl (G := ?_)
    refine Go.iconst d37_24 (v := 4) rfl (G := ?_)
    refine Go.newarray d37_25 (hw _ (List.mem_of_getElem? (i := 0) rfl)) (k := 4) rfl (by decide) (by decide) (vs := [.int 0, .int 0, .int 0, .int 0]) rfl (G := fun o2 => ?_)
    refine Go.astore d37_27 (Ls' := #[.val (.int a), .val (.int bq), .val (.int c), .val (.int d), .val (.int f), .val (.int nn), .val (.int 0), .val (.ref o2), .unset, .unset, .unset, .unset, .unset, .unset]) rfl (G := ?_)
    refine Go.aload d37_29 rfl (G := ?_)
    refine Go.iconst d37_31 (v := 0) rfl (G := ?_)
    refine Go.iloadN d37_32 rfl (G := ?_)
    refine Go.invokestatic false d37_33 (hw _ (List.mem_of_getElem? (i := 1) rfl)) (hw _ (List.mem_of_getElem? (i := 2) rfl)) (hw _ (List.mem_of_getElem? (i := 3) rfl)) (hw _ (List.mem_of_getElem? (i := 4) rfl)) (c_pick hw a) pdg_15 rfl (argsL := [.int a]) (rest := [.int 0, .ref o2]) rfl rfl (Dr := [(o2, .inr (.char, [.int 0, .int 0, .int 0, .int 0]))]) rfl eN (G := ?_)
    rintro _ _ _ ⟨c0, hc0, rfl, rfl, rfl⟩
    refine Go.norm (D2 := [(o2, .inr (.char, [.int 0, .int 0, .int 0, .int 0]))]) (S2 := []) (c2 := 1) (s2 := 4) (st2 := [.int c0, .int 0, .ref o2]) ?_
    refine Go.castore d37_36 0 rfl (x' := c0) (nc_of hc0) (Nat.le_of_ble_eq_true rfl) (D' := [(o2, .inr (.char, [.int c0, .int 0, .int 0, .int 0]))]) rfl (G := ?_)
    refine Go.aload d37_37 rfl (G := ?_)
    refine Go.iconst d37_39 (v := 1) rfl (G := ?_)
    refine Go.iloadN d37_40 rfl (G := ?_)
    refine Go.invokestatic false d37_41 (hw _ (List.mem_of_getElem? (i := 1) rfl)) (hw _ (List.mem_of_getElem? (i := 2) rfl)) (hw _ (List.mem_of_getElem? (i := 3) rfl)) (hw _ (List.mem_of_getElem? (i := 4) rfl)) (c_pick hw bq) pdg_15 rfl (argsL := [.int bq]) (rest := [.int 1, .ref o2]) rfl rfl (Dr := [(o2, .inr (.char, [.int c0, .int 0, .int 0, .int 0]))]) rfl eN (G := ?_)
    rintro _ _ _ ⟨c1, hc1, rfl, rfl, rfl⟩
    refine Go.norm (D2 := [(o2, .inr (.char, [.int c0, .int 0, .int 0, .int 0]))]) (S2 := []) (c2 := 1) (s2 := 4) (st2 := [.int c1, .int 1, .ref o2]) ?_
    refine Go.castore d37_44 0 rfl (x' := c1) (nc_of hc1) (Nat.le_of_ble_eq_true rfl) (D' := [(o2, .inr (.char, [.int c0, .int c1, .int 0, .int 0]))]) rfl (G := ?_)
    refine Go.aload d37_45 rfl (G := ?_)
    refine Go.iconst d37_47 (v := 2) rfl (G := ?_)
    refine Go.iloadN d37_48 rfl (G := ?_)
    refine Go.invokestatic false d37_49 (hw _ (List.mem_of_getElem? (i := 1) rfl)) (hw _ (List.mem_of_getElem? (i := 2) rfl)) (hw _ (List.mem_of_getElem? (i := 3) rfl)) (hw _ (List.mem_of_getElem? (i := 4) rfl)) (c_pick hw c) pdg_15 rfl (argsL := [.int c]) (rest := [.int 2, .ref o2]) rfl rfl (Dr := [(o2, .inr (.char, [.int c0, .int c1, .int 0, .int 0]))]) rfl eN (G := ?_)
    rintro _ _ _ ⟨c2, hc2, rfl, rfl, rfl⟩
    refine Go.norm (D2 := [(o2, .inr (.char, [.int c0, .int c1, .int 0, .int 0]))]) (S2 := []) (c2 := 1) (s2 := 4) (st2 := [.int c2, .int 2, .ref o2]) ?_
    refine Go.castore d37_52 0 rfl (x' := c2) (nc_of hc2) (Nat.le_of_ble_eq_true rfl) (D' := [(o2, .inr (.char, [.int c0, .int c1, .int c2, .int 0]))]) rfl (G := ?_)
    refine Go.aload d37_53 rfl (G := ?_)
    refine Go.iconst d37_55 (v := 3) rfl (G := ?_)
    refine Go.iloadN d37_56 rfl (G := ?_)
    refine Go.invokestatic false d37_57 (hw _ (List.mem_of_getElem? (i := 1) rfl)) (hw _ (List.mem_of_getElem? (i := 2) rfl)) (hw _ (List.mem_of_getElem? (i := 3) rfl)) (hw _ (List.mem_of_getElem? (i := 4) rfl)) (c_pick hw d) pdg_15 rfl (argsL := [.int d]) (rest := [.int 3, .ref o2]) rfl rfl (Dr := [(o2, .inr (.char, [.int c0, .int c1, .int c2, .int 0]))]) rfl eN (G := ?_)
    rintro _ _ _ ⟨c3, hc3, rfl, rfl, rfl⟩
    refine Go.norm (D2 := [(o2, .inr (.char, [.int c0, .int c1, .int c2, .int 0]))]) (S2 := []) (c2 := 1) (s2 := 4) (st2 := [.int c3, .int 3, .ref o2]) ?_
    refine Go.castore d37_60 0 rfl (x' := c3) (nc_of hc3) (Nat.le_of_ble_eq_true rfl) (D' := [(o2, .inr (.char, [.int c0, .int c1, .int c2, .int c3]))]) rfl (G := ?_)
    have h4 := and3 f
    rw [hnn] at h4
    rcases h4 with rfl | rfl | rfl | rfl
    · refine Go.iload d37_61 rfl (G := ?_)
      refine Go.ifc d37_63 (pc2 := 81) (Gy := fun _ => ?_) (Gn := fun h => absurd (show (0 : Int32) = 0 by decide) h)
      exact lw_1 hw a bq c d f 0 c0 c1 c2 c3 o2 hc0 hc1 hc2 hc3 cpt fmt hCS hcpt hFM hfm hb1 hE_Term_65 hE_Term_13
    · refine Go.iload d37_61 rfl (G := ?_)
      refine Go.ifc d37_63 (pc2 := 81) (Gy := fun _ => ?_) (Gn := fun h => absurd (show (0 : Int32) = 0 by decide) h)
      exact lw_2 hw a bq c d f 0 c0 c1 c2 c3 o2 hc0 hc1 hc2 hc3 cpt fmt hCS hcpt hFM hfm hb1 hE_Term_65 hE_Term_13
    · refine Go.iload d37_61 rfl (G := ?_)
      refine Go.ifc d37_63 (pc2 := 81) (Gy := fun _ => ?_) (Gn := fun h => absurd (show (0 : Int32) = 0 by decide) h)
      exact lw_3 hw a bq c d f 0 c0 c1 c2 c3 o2 hc0 hc1 hc2 hc3 cpt fmt hCS hcpt hFM hfm hb1 hE_Term_65 hE_Term_13
    · refine Go.iload d37_61 rfl (G := ?_)
      refine Go.ifc d37_63 (pc2 := 81) (Gy := fun _ => ?_) (Gn := fun h => absurd (show (0 : Int32) = 0 by decide) h)
      exact lw_4 hw a bq c d f 0 c0 c1 c2 c3 o2 hc0 hc1 hc2 hc3 cpt fmt hCS hcpt hFM hfm hb1 hE_Term_65 hE_Term_13
  · have h1 : ¬ ((f >>> (2 &&& 31)) &&& 1) = 0 := h1
    refine Go.iconst d37_17 (v := 1) rfl (G := ?_)
    refine Go.goto d37_18 (pc2 := 22) (G := ?_)
    refine Go.istore d37_22 (Ls' := #[.val (.int a), .val (.int bq), .val (.int c), .val (.int d), .val (.int f), .val (.int nn), .val (.int 1), .unset, .unset, .unset, .unset, .unset, .unset, .unset]) rfl (G := ?_)
    refine Go.iconst d37_24 (v := 4) rfl (G := ?_)
    refine Go.newarray d37_25 (hw _ (List.mem_of_getElem? (i := 0) rfl)) (k := 4) rfl (by decide) (by decide) (vs := [.int 0, .int 0, .int 0, .int 0]) rfl (G := fun o3 => ?_)
    refine Go.astore d37_27 (Ls' := #[.val (.int a), .val (.int bq), .val (.int c), .val (.int d), .val (.int f), .val (.int nn), .val (.int 1), .val (.ref o3), .unset, .unset, .unset, .unset, .unset, .unset]) rfl (G := ?_)
    refine Go.aload d37_29 rfl (G := ?_)
    refine Go.iconst d37_31 (v := 0) rfl (G := ?_)
    refine Go.iloadN d37_32 rfl (G := ?_)
    refine Go.invokestatic false d37_33 (hw _ (List.mem_of_getElem? (i := 1) rfl)) (hw _ (List.mem_of_getElem? (i := 2) rfl)) (hw _ (List.mem_of_getElem? (i := 3) rfl)) (hw _ (List.mem_of_getElem? (i := 4) rfl)) (c_pick hw a) pdg_15 rfl (argsL := [.int a]) (rest := [.int 0, .ref o3]) rfl rfl (Dr := [(o3, .inr (.char, [.int 0, .int 0, .int 0, .int 0]))]) rfl eN (G := ?_)
    rintro _ _ _ ⟨c0, hc0, rfl, rfl, rfl⟩
    refine Go.norm (D2 := [(o3, .inr (.char, [.int 0, .int 0, .int 0, .int 0]))]) (S2 := []) (c2 := 1) (s2 := 4) (st2 := [.int c0, .int 0, .ref o3]) ?_
    refine Go.castore d37_36 0 rfl (x' := c0) (nc_of hc0) (Nat.le_of_ble_eq_true rfl) (D' := [(o3, .inr (.char, [.int c0, .int 0, .int 0, .int 0]))]) rfl (G := ?_)
    refine Go.aload d37_37 rfl (G := ?_)
    refine Go.iconst d37_39 (v := 1) rfl (G := ?_)
    refine Go.iloadN d37_40 rfl (G := ?_)
    refine Go.invokestatic false d37_41 (hw _ (List.mem_of_getElem? (i := 1) rfl)) (hw _ (List.mem_of_getElem? (i := 2) rfl)) (hw _ (List.mem_of_getElem? (i := 3) rfl)) (hw _ (List.mem_of_getElem? (i := 4) rfl)) (c_pick hw bq) pdg_15 rfl (argsL := [.int bq]) (rest := [.int 1, .ref o3]) rfl rfl (Dr := [(o3, .inr (.char, [.int c0, .int 0, .int 0, .int 0]))]) rfl eN (G := ?_)
    rintro _ _ _ ⟨c1, hc1, rfl, rfl, rfl⟩
    refine Go.norm (D2 := [(o3, .inr (.char, [.int c0, .int 0, .int 0, .int 0]))]) (S2 := []) (c2 := 1) (s2 := 4) (st2 := [.int c1, .int 1, .ref o3]) ?_
    refine Go.castore d37_44 0 rfl (x' := c1) (nc_of hc1) (Nat.le_of_ble_eq_true rfl) (D' := [(o3, .inr (.char, [.int c0, .int c1, .int 0, .int 0]))]) rfl (G := ?_)
    refine Go.aload d37_45 rfl (G := ?_)
    refine Go.iconst d37_47 (v := 2) rfl (G := ?_)
    refine Go.iloadN d37_48 rfl (G := ?_)
    refine Go.invokestatic false d37_49 (hw _ (List.mem_of_getElem? (i := 1) rfl)) (hw _ (List.mem_of_getElem? (i := 2) rfl)) (hw _ (List.mem_of_getElem? (i := 3) rfl)) (hw _ (List.mem_of_getElem? (i := 4) rfl)) (c_pick hw c) pdg_15 rfl (argsL := [.int c]) (rest := [.int 2, .ref o3]) rfl rfl (Dr := [(o3, .inr (.char, [.int c0, .int c1, .int 0, .int 0]))]) rfl eN (G := ?_)
    rintro _ _ _ ⟨c2, hc2, rfl, rfl, rfl⟩
    refine Go.norm (D2 := [(o3, .inr (.char, [.int c0, .int c1, .int 0, .int 0]))]) (S2 := []) (c2 := 1) (s2 := 4) (st2 := [.int c2, .int 2, .ref o3]) ?_
    refine Go.castore d37_52 0 rfl (x' := c2) (nc_of hc2) (Nat.le_of_ble_eq_true rfl) (D' := [(o3, .inr (.char, [.int c0, .int c1, .int c2, .int 0]))]) rfl (G := ?_)
    refine Go.aload d37_53 rfl (G := ?_)
    refine Go.iconst d37_55 (v := 3) rfl (G := ?_)
    refine Go.iloadN d37_56 rfl (G := ?_)
    refine Go.invokestatic false d37_57 (hw _ (List.mem_of_getElem? (i := 1) rfl)) (hw _ (List.mem_of_getElem? (i := 2) rfl)) (hw _ (List.mem_of_getElem? (i := 3) rfl)) (hw _ (List.mem_of_getElem? (i := 4) rfl)) (c_pick hw d) pdg_15 rfl (argsL := [.int d]) (rest := [.int 3, .ref o3]) rfl rfl (Dr := [(o3, .inr (.char, [.int c0, .int c1, .int c2, .int 0]))]) rfl eN (G := ?_)
    rintro _ _ _ ⟨c3, hc3, rfl, rfl, rfl⟩
    refine Go.norm (D2 := [(o3, .inr (.char, [.int c0, .int c1, .int c2, .int 0]))]) (S2 := []) (c2 := 1) (s2 := 4) (st2 := [.int c3, .int 3, .ref o3]) ?_
    refine Go.castore d37_60 0 rfl (x' := c3) (nc_of hc3) (Nat.le_of_ble_eq_true rfl) (D' := [(o3, .inr (.char, [.int c0, .int c1, .int c2, .int c3]))]) rfl (G := ?_)
    have h4 := and3 f
    rw [hnn] at h4
    rcases h4 with rfl | rfl | rfl | rfl
    · refine Go.iload d37_61 rfl (G := ?_)
      refine Go.ifc d37_63 (pc2 := 81) (Gy := fun h => absurd h (show ¬ ((1 : Int32) = 0) by decide)) (Gn := fun _ => ?_)
      refine Go.aload d37_66 rfl (G := ?_)
      refine Go.iconst d37_68 (v := 0) rfl (G := ?_)
      refine Go.bipush d37_69 (v := 60) rfl (G := ?_)
      refine Go.castore d37_71 0 rfl (x' := 60) rfl (Nat.le_of_ble_eq_true rfl) (D' := [(o3, .inr (.char, [.int 60, .int c1, .int c2, .int c3]))]) rfl (G := ?_)
      refine Go.aload d37_72 rfl (G := ?_)
      refine Go.iload d37_74 rfl (G := ?_)
      refine Go.iconst d37_76 (v := 1) rfl (G := ?_)
      refine Go.isub d37_77 (z := 0) rfl (G := ?_)
      refine Go.bipush d37_78 (v := 62) rfl (G := ?_)
      refine Go.castore d37_80 0 rfl (x' := 62) rfl (Nat.le_of_ble_eq_true rfl) (D' := [(o3, .inr (.char, [.int 62, .int c1, .int c2, .int c3]))]) rfl (G := ?_)
      exact lw_1 hw a bq c d f 1 62 c1 c2 c3 o3 (by decide) hc1 hc2 hc3 cpt fmt hCS hcpt hFM hfm hb1 hE_Term_65 hE_Term_13
    · refine Go.iload d37_61 rfl (G := ?_)
      refine Go.ifc d37_63 (pc2 := 81) (Gy := fun h => absurd h (show ¬ ((1 : Int32) = 0) by decide)) (Gn := fun _ => ?_)
      refine Go.aload d37_66 rfl (G := ?_)
      refine Go.iconst d37_68 (v := 0) rfl (G := ?_)
      refine Go.bipush d37_69 (v := 60) rfl (G := ?_)
      refine Go.castore d37_71 0 rfl (x' := 60) rfl (Nat.le_of_ble_eq_true rfl) (D' := [(o3, .inr (.char, [.int 60, .int c1, .int c2, .int c3]))]) rfl (G := ?_)
      refine Go.aload d37_72 rfl (G := ?_)
      refine Go.iload d37_74 rfl (G := ?_)
      refine Go.iconst d37_76 (v := 1) rfl (G := ?_)
      refine Go.isub d37_77 (z := 1) rfl (G := ?_)
      refine Go.bipush d37_78 (v := 62) rfl (G := ?_)
      refine Go.castore d37_80 0 rfl (x' := 62) rfl (Nat.le_of_ble_eq_true rfl) (D' := [(o3, .inr (.char, [.int 60, .int 62, .int c2, .int c3]))]) rfl (G := ?_)
      exact lw_2 hw a bq c d f 1 60 62 c2 c3 o3 (by decide) (by decide) hc2 hc3 cpt fmt hCS hcpt hFM hfm hb1 hE_Term_65 hE_Term_13
    · refine Go.iload d37_61 rfl (G := ?_)
      refine Go.ifc d37_63 (pc2 := 81) (Gy := fun h => absurd h (show ¬ ((1 : Int32) = 0) by decide)) (Gn := fun _ => ?_)
      refine Go.aload d37_66 rfl (G := ?_)
      refine Go.iconst d37_68 (v := 0) rfl (G := ?_)
      refine Go.bipush d37_69 (v := 60) rfl (G := ?_)
      refine Go.castore d37_71 0 rfl (x' := 60) rfl (Nat.le_of_ble_eq_true rfl) (D' := [(o3, .inr (.char, [.int 60, .int c1, .int c2, .int c3]))]) rfl (G := ?_)
      refine Go.aload d37_72 rfl (G := ?_)
      refine Go.iload d37_74 rfl (G := ?_)
      refine Go.iconst d37_76 (v := 1) rfl (G := ?_)
      refine Go.isub d37_77 (z := 2) rfl (G := ?_)
      refine Go.bipush d37_78 (v := 62) rfl (G := ?_)
      refine Go.castore d37_80 0 rfl (x' := 62) rfl (Nat.le_of_ble_eq_true rfl) (D' := [(o3, .inr (.char, [.int 60, .int c1, .int 62, .int c3]))]) rfl (G := ?_)
      exact lw_3 hw a bq c d f 1 60 c1 62 c3 o3 (by decide) hc1 (by decide) hc3 cpt fmt hCS hcpt hFM hfm hb1 hE_Term_65 hE_Term_13
    · refine Go.iload d37_61 rfl (G := ?_)
      refine Go.ifc d37_63 (pc2 := 81) (Gy := fun h => absurd h (show ¬ ((1 : Int32) = 0) by decide)) (Gn := fun _ => ?_)
      refine Go.aload d37_66 rfl (G := ?_)
      refine Go.iconst d37_68 (v := 0) rfl (G := ?_)
      refine Go.bipush d37_69 (v := 60) rfl (G := ?_)
      refine Go.castore d37_71 0 rfl (x' := 60) rfl (Nat.le_of_ble_eq_true rfl) (D' := [(o3, .inr (.char, [.int 60, .int c1, .int c2, .int c3]))]) rfl (G := ?_)
      refine Go.aload d37_72 rfl (G := ?_)
      refine Go.iload d37_74 rfl (G := ?_)
      refine Go.iconst d37_76 (v := 1) rfl (G := ?_)
      refine Go.isub d37_77 (z := 3) rfl (G := ?_)
      refine Go.bipush d37_78 (v := 62) rfl (G := ?_)
      refine Go.castore d37_80 0 rfl (x' := 62) rfl (Nat.le_of_ble_eq_true rfl) (D' := [(o3, .inr (.char, [.int 60, .int c1, .int c2, .int 62]))]) rfl (G := ?_)
      exact lw_4 hw a bq c d f 1 60 c1 c2 62 o3 (by decide) hc1 hc2 (by decide) cpt fmt hCS hcpt hFM hfm hb1 hE_Term_65 hE_Term_13
set_option maxRecDepth 65536 in
set_option maxHeartbeats 40000000 in
theorem comes_1 {Post : Tables → Env → Array Value → State → Outcome → State → Prop} (hpost : ∀ tb e args s v u, (limb_1_1.after args s (.returned v) u = true ∧ limb_1_2.after args s (.returned v) u = true ∧ True) → ReturnedEndW s (.returned v) u (Jvm.fieldLocs frame_1_writes args s ++ Jvm.arrayLocs frame_1_arrays args s ++ Jvm.staticLocs frame_1_statics s) 32 2176 → Post tb e args s (.returned v) u) :
    ArmFor flags0 classFile x code maxLocals ret World_1 tables_1 room_1 Calls_1 rest_1 Pre_1 Post := by
  intro l hfl _ _ p e ha hc hk s m args below hf hA hF happ hP
  obtain ⟨hcalls, hrest, hpre⟩ := hP
  obtain ⟨-, -, -, hnamed, -, -, -, hat⟩ := (Spec.applies_iff hf).mp happ
  obtain ⟨hg, hn⟩ := and_e (Cond.before_iff.mp (show (Jvm.Cond.and given_1 narrow_1).before args s = true from hpre))
  obtain ⟨hcount, g0⟩ := and_e hg
  obtain ⟨t0, g1⟩ := and_e g0
  obtain ⟨t1, g2⟩ := and_e g1
  obtain ⟨t2, g3⟩ := and_e g2
  obtain ⟨t3, g4⟩ := and_e g3
  obtain ⟨w0, w1, w2, w3, w4, rfl⟩ : ∃ w0 w1 w2 w3 w4 : Value, args = #[w0, w1, w2, w3, w4] := by
    have hs : args.size = 5 := by simpa [Cond.value, given_1] using hcount
    obtain ⟨L⟩ := args
    match L, hs with
    | [w0, w1, w2, w3, w4], _ => exact ⟨w0, w1, w2, w3, w4, rfl⟩
  have hw := fun d (hd : d ∈ tables_1) => atoms_spec (ws := Jvm.Cond.code x code maxLocals ret :: tables_1) hat d (List.mem_cons_of_mem _ hd)
  obtain ⟨hsets, hown0⟩ := atoms_of _ (rest_1_c_eq ▸ (show rest_1_c.before _ s = true from hrest))
  have hfit : Fit s := fun {y c} hc i hi => by
    obtain ⟨ha, rfl⟩ := Array.getElem?_eq_some_iff.mp hc
    have q := List.all_eq_true.mp ((Array.all_eq_true_iff_forall_mem.mp hF) _ (Array.getElem_mem ha)) i (List.mem_range.mpr hi)
    simpa [Array.getElem?_eq_getElem hi] using q
  obtain ⟨x0, ex0⟩ := is_v t0
  obtain rfl : w0 = (.int x0) := Option.some.inj ex0
  obtain ⟨x1, ex1⟩ := is_v t1
  obtain rfl : w1 = (.int x1) := Option.some.inj ex1
  obtain ⟨x2, ex2⟩ := is_v t2
  obtain rfl : w2 = (.int x2) := Option.some.inj ex2
  obtain ⟨x3, ex3⟩ := is_v t3
  obtain rfl : w3 = (.int x3) := Option.some.inj ex3
  obtain ⟨x4, ex4⟩ := is_v g4
  obtain rfl : w4 = (.int x4) := Option.some.inj ex4
  have nz := not_v (Cond.before_iff.mp (hsets _ (List.mem_of_getElem? (i := 2) rfl)))
  obtain ⟨cpt, ecs⟩ := is_v (Cond.before_iff.mp (hsets _ (List.mem_of_getElem? (i := 1) rfl)))
  have hCS : Sta s s.heap "java/lang/String" "COMPACT_STRINGS" "Z" (.int cpt) := Sta.start ecs (Or.inl (hsets _ (List.mem_of_getElem? (i := 0) rfl)))
  have hcpt : ¬ (cpt = (0 : Int32)) := gotF (Cond.eq_ints ecs (Term.int_eval (0))) nz
  obtain ⟨fmt, efm, hfm⟩ := isR_v (Cond.before_iff.mp (hsets _ (List.mem_of_getElem? (i := 8) rfl)))
  have hFM : Sta s s.heap "jdk/internal/util/Preconditions" "SIOOBE_FORMATTER" "Ljava/util/function/BiFunction;" fmt := Sta.start efm (Or.inl (hsets _ (List.mem_of_getElem? (i := 7) rfl)))
  have hEW : EW s #[.int x0, .int x1, .int x2, .int x3, .int x4] ([("com/example/iffley/iffley/model/Term", 13), ("com/example/iffley/iffley/model/Term", 65)] : List (String × Nat)) := (EW.cons (hw _ (List.mem_of_getElem? (i := 41) rfl)) (by decide) (EW.cons (hw _ (List.mem_of_getElem? (i := 134) rfl)) (by decide) EW.nil))
  have hCH : CHv s ([("com/example/iffley/iffley/model/Term", 13), ("com/example/iffley/iffley/model/Term", 65)] : List (String × Nat)) s.vm s.heap := CHv.start hEW (show ∀ p ∈ ([("com/example/iffley/iffley/model/Term", 13), ("com/example/iffley/iffley/model/Term", 65)] : List (String × Nat)), Jvm.Lit.constHeld s p.1 p.2 from hcalls.1) (hsets _ (List.mem_of_getElem? (i := 2) rfl)) (hw _ (List.mem_of_getElem? (i := 23) rfl)) (hw _ (List.mem_of_getElem? (i := 6) rfl))
  obtain ⟨n, o, r1, r2, r3, v, L, rfl, ⟨D', S', hQ, hHH, -, -, -, hFr, -, -, hwb⟩, hend⟩ := c_law (l := l) (EL := ([("com/example/iffley/iffley/model/Term", 13), ("com/example/iffley/iffley/model/Term", 65)] : List (String × Nat))) (b := true) (n0 := s.heap.size) hw x0 x1 x2 x3 x4 cpt fmt hCS hcpt hFM hfm rfl (by simp) (by simp) (fun _ => False) p e ha hc hk s m _ below hf ((Spec.applies_iff_loose hf).mp happ).1 ⟨rfl, hEW, State.Warmed39.refl s, hCH, Old.start s, ⟨eN, eN, List.nodup_nil, eN⟩, eN, eN, fun _ q => False.elim q⟩ trivial
  obtain ⟨rfl, -, -⟩ := hQ
  exact ⟨n, _, r1, r2, r3, hpost _ _ _ _ _ _ ⟨Cond.after_iff.mpr rfl, Cond.after_iff.mpr (eq_i res_at (Term.int_eval (1)) rfl), trivial⟩ ⟨hend.1, hend.2.1, hend.2.2.1, (hend.2.2.2.sift fun y hy => Or.inr (hFr y hy)).mono (by decide) (by decide)⟩⟩
theorem main_1_1 : Claimed_1_1 := comes_1 fun _ _ _ _ _ _ h hF => ⟨h.1, hF⟩
theorem main_1_2 : Claimed_1_2 := comes_1 fun _ _ _ _ _ _ h hF => ⟨h.2.1, hF⟩
end Jvm.Pilot.@@N@@
namespace Jvm.Pilot.@@N@@
open Jvm Jvm.ClassFile Sem Op Lib Jvm.Free Jvm.Stand Jvm.Pilot.@@N@@.Jvm.D
/-! MADE BY PROGRAM (witnessworld.py) out of the Statement's table words and the real class files: 22 classes; the members and pool entries that the words name. The judged class is class 1, her method 1. -/
namespace start1
open Jvm.ClassFile
def u (s : String) : CpInfo := .utf8 (stringToUtf16 s)
/-- a pool by its gaps: so many unusable entries, then the entry; so many at the end -/
def gap : Nat → List CpInfo → List CpInfo
  | 0, r => r
  | n + 1, r => .unusable :: gap n r
def poolList (es : List (Nat × CpInfo)) (last : Nat) : List CpInfo := es.foldr (fun e r => gap e.1 (e.2 :: r)) (gap last [])
def pool (es : List (Nat × CpInfo)) (last : Nat) : Array CpInfo := ⟨poolList es last⟩
def fileOf (pool : Array CpInfo) (this : Nat) (attrs : Array Attribute := #[]) (ms : Array MethodInfo := #[]) (fl : Nat := 33) (sup : Nat := 0) (ifs : Array Nat := #[]) (fds : Array FieldInfo := #[]) : ClassFile where
  minorVersion := 0
  majorVersion := 65
  constantPool := pool
  accessFlags := fl
  thisClass := this
  superClass := sup
  interfaces := ifs
  fields := fds
  methods := ms
  attributes := attrs
def plain (name : String) (sup : Option ClassId) : Class where
  name := name
  kind := .ordinary
  loader := none
  accessFlags := 33
  super := sup
  interfaces := #[]
  cf := none
  fields := #[]
  methods := #[]
  instanceTypes := #[]
  staticTypes := #[]
  resolved := #[]
  callSites := []
  init := .initialized
  statics := none
  mirror := none

def pool0 : Array CpInfo := pool [(5, u "<init>"), (0, u "()V"), (1, .class_ 10), (1, u "java/lang/Object")] 113

def k0c0 : Code := { maxStack := 0, maxLocals := 1, code := object_method_1_code, exceptionTable := #[], attributes := #[] }
def k0m0 : Method := { name := "<init>", desc := "()V", sig := { parameters := [], returnType := none }, accessFlags := 1, code := some k0c0 }
/-- java/lang/Object -/
def k0 : Class := { plain "java/lang/Object" none with
  accessFlags := 33
  interfaces := #[]
  cf := some (fileOf pool0 8 #[] #[{ accessFlags := 1, nameIndex := 5, descriptorIndex := 6, attributes := #[] }] 33 0 #[] #[])
  fields := #[]
  methods := #[k0m0]
  instanceTypes := #[]
  staticTypes := #[]
  resolved := Array.replicate 124 none
  statics := none }

def pool1 : Array CpInfo := pool [(2, .class_ 4), (1, u "java/lang/Object"), (0, u "<init>"), (0, u "()V"), (0, .methodref 8 9), (0, .class_ 10), (0, .nameAndType 11 12), (0, u "com/example/iffley/iffley/model/TermParsePinLaw"), (0, u "pick"), (0, u "(I)C"), (0, .class_ 14), (0, u "java/lang/String"), (0, .methodref 13 16), (0, .nameAndType 5 17), (0, u "([C)V"), (0, .methodref 8 19), (0, .nameAndType 20 21), (0, u "letter"), (0, u "(C)Z"), (0, .methodref 8 23), (0, .nameAndType 24 21), (0, u "idc"), (0, .methodref 8 26), (0, .nameAndType 27 21), (0, u "iric"), (0, .methodref 29 30), (0, .class_ 31), (0, .nameAndType 32 33), (0, u "com/example/iffley/iffley/model/Term"), (0, u "parse"), (0, u "(Ljava/lang/String;)Lcom/example/iffley/iffley/model/Term;"), (0, .methodref 29 35), (0, .nameAndType 36 37), (0, u "toString"), (0, u "()Ljava/lang/String;"), (0, .methodref 13 39), (0, .nameAndType 40 41), (0, u "equals"), (0, u "(Ljava/lang/Object;)Z"), (0, .methodref 29 43), (0, .nameAndType 44 45), (0, u "isVariable"), (0, u "()Z"), (0, .methodref 29 39), (2, u "law"), (0, u "(IIIII)Z")] 5

def k1m0 : Method := { name := "<init>", desc := "()V", sig := { parameters := [], returnType := none }, accessFlags := 1, code := none }
def k1c1 : Code := { maxStack := 4, maxLocals := 14, code := code, exceptionTable := #[], attributes := #[] }
def k1m1 : Method := { name := "law", desc := "(IIIII)Z", sig := { parameters := [.int, .int, .int, .int, .int], returnType := some .boolean }, accessFlags := 9, code := some k1c1 }
def k1c2 : Code := { maxStack := 3, maxLocals := 2, code := method_3_code, exceptionTable := #[], attributes := #[] }
def k1m2 : Method := { name := "pick", desc := "(I)C", sig := { parameters := [.int], returnType := some .char }, accessFlags := 10, code := some k1c2 }
def k1c3 : Code := { maxStack := 2, maxLocals := 1, code := method_4_code, exceptionTable := #[], attributes := #[] }
def k1m3 : Method := { name := "letter", desc := "(C)Z", sig := { parameters := [.char], returnType := some .boolean }, accessFlags := 10, code := some k1c3 }
def k1c4 : Code := { maxStack := 2, maxLocals := 1, code := method_5_code, exceptionTable := #[], attributes := #[] }
def k1m4 : Method := { name := "idc", desc := "(C)Z", sig := { parameters := [.char], returnType := some .boolean }, accessFlags := 10, code := some k1c4 }
def k1c5 : Code := { maxStack := 2, maxLocals := 1, code := method_6_code, exceptionTable := #[], attributes := #[] }
def k1m5 : Method := { name := "iric", desc := "(C)Z", sig := { parameters := [.char], returnType := some .boolean }, accessFlags := 10, code := some k1c5 }
/-- com/example/iffley/iffley/model/TermParsePinLaw -/
def k1 : Class := { plain "com/example/iffley/iffley/model/TermParsePinLaw" (some 0) with
  accessFlags := 49
  interfaces := #[]
  cf := some (fileOf pool1 8 #[] #[{ accessFlags := 1, nameIndex := 5, descriptorIndex := 6, attributes := #[] }, { accessFlags := 9, nameIndex := 49, descriptorIndex := 50, attributes := #[] }, { accessFlags := 10, nameIndex := 11, descriptorIndex := 12, attributes := #[] }, { accessFlags := 10, nameIndex := 20, descriptorIndex := 21, attributes := #[] }, { accessFlags := 10, nameIndex := 24, descriptorIndex := 21, attributes := #[] }, { accessFlags := 10, nameIndex := 27, descriptorIndex := 21, attributes := #[] }] 49 2 #[] #[])
  fields := #[]
  methods := #[k1m0, k1m1, k1m2, k1m3, k1m4, k1m5]
  instanceTypes := #[]
  staticTypes := #[]
  resolved := Array.replicate 56 none
  statics := none }

def pool2 : Array CpInfo := pool [(1, .class_ 2), (0, u "java/io/Serializable"), (0, .class_ 4), (0, u "java/lang/Object")] 2

/-- java/io/Serializable -/
def k2 : Class := { plain "java/io/Serializable" (some 0) with
  accessFlags := 1537
  interfaces := #[]
  cf := some (fileOf pool2 1 #[] #[] 1537 3 #[] #[])
  fields := #[]
  methods := #[]
  instanceTypes := #[]
  staticTypes := #[]
  resolved := Array.replicate 7 none
  statics := none }

def pool3 : Array CpInfo := pool [(1, .class_ 2), (0, u "java/lang/Comparable"), (0, .class_ 4), (0, u "java/lang/Object")] 7

/-- java/lang/Comparable -/
def k3 : Class := { plain "java/lang/Comparable" (some 0) with
  accessFlags := 1537
  interfaces := #[]
  cf := some (fileOf pool3 1 #[] #[] 1537 3 #[] #[])
  fields := #[]
  methods := #[]
  instanceTypes := #[]
  staticTypes := #[]
  resolved := Array.replicate 12 none
  statics := none }

def pool4 : Array CpInfo := pool [(2, .class_ 4), (1, u "java/lang/CharSequence"), (42, .class_ 48), (0, u "java/lang/CharSequence$1CodePointIterator"), (10, .class_ 60), (0, u "java/lang/CharSequence$1CharIterator"), (5, .class_ 67), (0, u "java/lang/Object")] 63

/-- java/lang/CharSequence -/
def k4 : Class := { plain "java/lang/CharSequence" (some 0) with
  accessFlags := 1537
  interfaces := #[]
  cf := some (fileOf pool4 2 #[.nestMembers #[47, 59]] #[] 1537 66 #[] #[])
  fields := #[]
  methods := #[]
  instanceTypes := #[]
  staticTypes := #[]
  resolved := Array.replicate 131 none
  statics := none }

def pool5 : Array CpInfo := pool [(1, .class_ 2), (0, u "java/lang/constant/Constable"), (0, .class_ 4), (0, u "java/lang/Object")] 6

/-- java/lang/constant/Constable -/
def k5 : Class := { plain "java/lang/constant/Constable" (some 0) with
  accessFlags := 1537
  interfaces := #[]
  cf := some (fileOf pool5 1 #[] #[] 1537 3 #[] #[])
  fields := #[]
  methods := #[]
  instanceTypes := #[]
  staticTypes := #[]
  resolved := Array.replicate 11 none
  statics := none }

def pool6 : Array CpInfo := pool [(1, .class_ 2), (0, u "java/lang/constant/ConstantDesc"), (0, .class_ 4), (0, u "java/lang/Object")] 32

/-- java/lang/constant/ConstantDesc -/
def k6 : Class := { plain "java/lang/constant/ConstantDesc" (some 0) with
  accessFlags := 1537
  interfaces := #[]
  cf := some (fileOf pool6 1 #[] #[] 1537 3 #[] #[])
  fields := #[]
  methods := #[]
  instanceTypes := #[]
  staticTypes := #[]
  resolved := Array.replicate 37 none
  statics := none }

def pool7 : Array CpInfo := pool [(1, .methodref 2 3), (0, .class_ 4), (0, .nameAndType 5 6), (0, u "java/lang/Object"), (0, u "<init>"), (0, u "()V"), (2, .fieldref 10 11), (0, .class_ 12), (0, .nameAndType 13 14), (0, u "java/lang/String"), (0, u "value"), (0, u "[B"), (0, .fieldref 10 16), (0, .nameAndType 17 18), (0, u "coder"), (0, u "B"), (2, u "hash"), (0, u "I"), (2, u "hashIsZero"), (0, u "Z"), (0, .methodref 10 28), (0, .nameAndType 5 29), (0, u "([CIILjava/lang/Void;)V"), (8, .fieldref 10 39), (0, .nameAndType 40 26), (0, u "COMPACT_STRINGS"), (1, .class_ 44), (1, u "java/lang/StringUTF16"), (0, u "compress"), (1, .methodref 42 48), (0, .nameAndType 49 50), (0, u "coderFromArrayLen"), (0, u "([BI)B"), (56, .class_ 109), (1, u "java/lang/StringLatin1"), (32, u "()Z"), (34, .methodref 42 178), (0, .nameAndType 45 179), (0, u "([CII)[B"), (154, u "()I"), (0, .methodref 10 336), (0, .nameAndType 17 337), (0, u "()B"), (25, u "([BI)C"), (27, u "(II)V"), (35, u "(I)C"), (64, .methodref 10 493), (0, .nameAndType 494 142), (0, u "isLatin1"), (0, .methodref 107 496), (0, .nameAndType 497 363), (0, u "charAt"), (3, u "checkIndex"), (3, .methodref 10 506), (0, .nameAndType 507 334), (0, u "length"), (33, .methodref 107 542), (0, .nameAndType 543 544), (0, u "equals"), (0, u "([B[B)Z"), (28, u "(Ljava/lang/Object;)Z"), (1, .class_ 576), (0, u "java/lang/CharSequence"), (22, u "CASE_INSENSITIVE_ORDER"), (0, u "Ljava/util/Comparator;"), (32, .methodref 10 634), (0, .nameAndType 635 636), (0, u "indexOf"), (0, u "(II)I"), (0, .methodref 107 638), (0, .nameAndType 635 639), (0, u "([BIII)I"), (52, u "isEmpty"), (72, u "(I)I"), (244, u "([C)V"), (42, .fieldref 1054 1055), (0, .class_ 1056), (0, .nameAndType 1057 1058), (0, u "jdk/internal/util/Preconditions"), (0, u "SIOOBE_FORMATTER"), (0, u "Ljava/util/function/BiFunction;"), (0, .methodref 1054 1060), (0, .nameAndType 501 1061), (0, u "(IILjava/util/function/BiFunction;)I"), (39, u "serialPersistentFields"), (0, u "[Ljava/io/ObjectStreamField;"), (0, .class_ 1104), (0, u "java/lang/String$CaseInsensitiveComparator"), (1, .class_ 1107), (0, u "java/io/Serializable"), (0, .class_ 1109), (0, u "java/lang/Comparable"), (0, .class_ 1111), (0, u "java/lang/constant/Constable"), (0, .class_ 1113), (0, u "java/lang/constant/ConstantDesc"), (2, u "serialVersionUID"), (0, u "J"), (3, u "REPL"), (0, u "C"), (2, u "LATIN1"), (1, u "UTF16")] 323

def k7m0 : Method := { name := "<init>", desc := "()V", sig := { parameters := [], returnType := none }, accessFlags := 1, code := none }
def k7c1 : Code := { maxStack := 5, maxLocals := 2, code := jdk_42_method_3_code, exceptionTable := #[], attributes := #[] }
def k7m1 : Method := { name := "<init>", desc := "([C)V", sig := { parameters := [(.array .char)], returnType := none }, accessFlags := 1, code := some k7c1 }
def k7c2 : Code := { maxStack := 2, maxLocals := 1, code := jdk_42_method_54_code, exceptionTable := #[], attributes := #[] }
def k7m2 : Method := { name := "length", desc := "()I", sig := { parameters := [], returnType := some .int }, accessFlags := 1, code := some k7c2 }
def k7c3 : Code := { maxStack := 1, maxLocals := 1, code := jdk_42_method_55_code, exceptionTable := #[], attributes := #[] }
def k7m3 : Method := { name := "isEmpty", desc := "()Z", sig := { parameters := [], returnType := some .boolean }, accessFlags := 1, code := some k7c3 }
def k7c4 : Code := { maxStack := 2, maxLocals := 2, code := jdk_42_method_56_code, exceptionTable := #[], attributes := #[] }
def k7m4 : Method := { name := "charAt", desc := "(I)C", sig := { parameters := [.int], returnType := some .char }, accessFlags := 1, code := some k7c4 }
def k7c5 : Code := { maxStack := 2, maxLocals := 3, code := jdk_42_method_66_code, exceptionTable := #[], attributes := #[] }
def k7m5 : Method := { name := "equals", desc := "(Ljava/lang/Object;)Z", sig := { parameters := [(.object "java/lang/Object")], returnType := some .boolean }, accessFlags := 1, code := some k7c5 }
def k7c6 : Code := { maxStack := 3, maxLocals := 2, code := jdk_42_method_79_code, exceptionTable := #[], attributes := #[] }
def k7m6 : Method := { name := "indexOf", desc := "(I)I", sig := { parameters := [.int], returnType := some .int }, accessFlags := 1, code := some k7c6 }
def k7c7 : Code := { maxStack := 4, maxLocals := 3, code := jdk_42_method_80_code, exceptionTable := #[], attributes := #[] }
def k7m7 : Method := { name := "indexOf", desc := "(II)I", sig := { parameters := [.int, .int], returnType := some .int }, accessFlags := 1, code := some k7c7 }
def k7c8 : Code := { maxStack := 4, maxLocals := 6, code := jdk_42_method_149_code, exceptionTable := #[], attributes := #[] }
def k7m8 : Method := { name := "<init>", desc := "([CIILjava/lang/Void;)V", sig := { parameters := [(.array .char), .int, .int, (.object "java/lang/Void")], returnType := none }, accessFlags := 2, code := some k7c8 }
def k7c9 : Code := { maxStack := 1, maxLocals := 1, code := jdk_42_method_152_code, exceptionTable := #[], attributes := #[] }
def k7m9 : Method := { name := "coder", desc := "()B", sig := { parameters := [], returnType := some .byte }, accessFlags := 0, code := some k7c9 }
def k7c10 : Code := { maxStack := 1, maxLocals := 1, code := jdk_42_method_154_code, exceptionTable := #[], attributes := #[] }
def k7m10 : Method := { name := "isLatin1", desc := "()Z", sig := { parameters := [], returnType := some .boolean }, accessFlags := 0, code := some k7c10 }
def k7c11 : Code := { maxStack := 3, maxLocals := 2, code := jdk_42_method_155_code, exceptionTable := #[], attributes := #[] }
def k7m11 : Method := { name := "checkIndex", desc := "(II)V", sig := { parameters := [.int, .int], returnType := none }, accessFlags := 8, code := some k7c11 }
/-- java/lang/String -/
def k7 : Class := { plain "java/lang/String" (some 0) with
  accessFlags := 49
  interfaces := #[2, 3, 4, 5, 6]
  cf := some (fileOf pool7 10 #[.nestMembers #[1103]] #[{ accessFlags := 1, nameIndex := 5, descriptorIndex := 6, attributes := #[] }, { accessFlags := 1, nameIndex := 5, descriptorIndex := 1010, attributes := #[] }, { accessFlags := 1, nameIndex := 507, descriptorIndex := 334, attributes := #[] }, { accessFlags := 1, nameIndex := 692, descriptorIndex := 142, attributes := #[] }, { accessFlags := 1, nameIndex := 497, descriptorIndex := 427, attributes := #[] }, { accessFlags := 1, nameIndex := 543, descriptorIndex := 573, attributes := #[] }, { accessFlags := 1, nameIndex := 635, descriptorIndex := 765, attributes := #[] }, { accessFlags := 1, nameIndex := 635, descriptorIndex := 636, attributes := #[] }, { accessFlags := 2, nameIndex := 5, descriptorIndex := 29, attributes := #[] }, { accessFlags := 0, nameIndex := 17, descriptorIndex := 337, attributes := #[] }, { accessFlags := 0, nameIndex := 494, descriptorIndex := 142, attributes := #[] }, { accessFlags := 8, nameIndex := 501, descriptorIndex := 391, attributes := #[] }] 49 2 #[1106, 1108, 575, 1110, 1112] #[{ accessFlags := 18, nameIndex := 13, descriptorIndex := 14, attributes := #[] }, { accessFlags := 18, nameIndex := 17, descriptorIndex := 18, attributes := #[] }, { accessFlags := 2, nameIndex := 21, descriptorIndex := 22, attributes := #[] }, { accessFlags := 2, nameIndex := 25, descriptorIndex := 26, attributes := #[] }, { accessFlags := 26, nameIndex := 1116, descriptorIndex := 1117, attributes := #[] }, { accessFlags := 24, nameIndex := 40, descriptorIndex := 26, attributes := #[] }, { accessFlags := 26, nameIndex := 1101, descriptorIndex := 1102, attributes := #[] }, { accessFlags := 26, nameIndex := 1121, descriptorIndex := 1122, attributes := #[] }, { accessFlags := 25, nameIndex := 599, descriptorIndex := 600, attributes := #[] }, { accessFlags := 24, nameIndex := 1125, descriptorIndex := 18, attributes := #[] }, { accessFlags := 24, nameIndex := 1127, descriptorIndex := 18, attributes := #[] }])
  fields := #[{ name := "value", type := (.array .byte), accessFlags := 18, slot := 0, constantValue := 0 }, { name := "coder", type := .byte, accessFlags := 18, slot := 1, constantValue := 0 }, { name := "hash", type := .int, accessFlags := 2, slot := 2, constantValue := 0 }, { name := "hashIsZero", type := .boolean, accessFlags := 2, slot := 3, constantValue := 0 }, { name := "serialVersionUID", type := .long, accessFlags := 26, slot := 0, constantValue := 0 }, { name := "COMPACT_STRINGS", type := .boolean, accessFlags := 24, slot := 1, constantValue := 0 }, { name := "serialPersistentFields", type := (.array (.object "java/io/ObjectStreamField")), accessFlags := 26, slot := 2, constantValue := 0 }, { name := "REPL", type := .char, accessFlags := 26, slot := 3, constantValue := 0 }, { name := "CASE_INSENSITIVE_ORDER", type := (.object "java/util/Comparator"), accessFlags := 25, slot := 4, constantValue := 0 }, { name := "LATIN1", type := .byte, accessFlags := 24, slot := 5, constantValue := 0 }, { name := "UTF16", type := .byte, accessFlags := 24, slot := 6, constantValue := 0 }]
  methods := #[k7m0, k7m1, k7m2, k7m3, k7m4, k7m5, k7m6, k7m7, k7m8, k7m9, k7m10, k7m11]
  instanceTypes := #[(.array .byte), .byte, .int, .boolean]
  staticTypes := #[.long, .boolean, (.array (.object "java/io/ObjectStreamField")), .char, (.object "java/util/Comparator"), .byte, .byte]
  resolved := Array.replicate 1451 none
  statics := some 0 }

def pool8 : Array CpInfo := pool [(6, .class_ 8), (1, u "java/lang/Object"), (0, u "<init>"), (0, u "()V"), (1, .class_ 14), (1, u "java/lang/StringUTF16"), (31, u "$assertionsDisabled"), (0, u "Z"), (13, u "HI_BYTE_SHIFT"), (0, u "I"), (2, u "LO_BYTE_SHIFT"), (49, .methodref 12 116), (0, .nameAndType 117 118), (0, u "compress"), (0, u "([CI[BII)I"), (3, u "([CII)[B"), (138, u "coderFromArrayLen"), (0, u "([BI)B"), (106, .class_ 371), (1, u "java/lang/StringUTF16$LinesSpliterator"), (58, u "MAX_LENGTH"), (196, .class_ 628), (0, u "java/lang/StringUTF16$CodePointsSpliterator"), (0, .class_ 630), (0, u "java/lang/StringUTF16$CharsSpliterator")] 4

def k8m0 : Method := { name := "<init>", desc := "()V", sig := { parameters := [], returnType := none }, accessFlags := 0, code := none }
def k8c1 : Code := { maxStack := 2, maxLocals := 2, code := jdk_52_method_15_code, exceptionTable := #[], attributes := #[] }
def k8m1 : Method := { name := "coderFromArrayLen", desc := "([BI)B", sig := { parameters := [(.array .byte), .int], returnType := some .byte }, accessFlags := 8, code := some k8c1 }
def k8c2 : Code := { maxStack := 5, maxLocals := 6, code := jdk_52_method_16_code, exceptionTable := #[], attributes := #[] }
def k8m2 : Method := { name := "compress", desc := "([CII)[B", sig := { parameters := [(.array .char), .int, .int], returnType := some (.array .byte) }, accessFlags := 9, code := some k8c2 }
def k8c3 : Code := { maxStack := 3, maxLocals := 7, code := jdk_52_method_21_code, exceptionTable := #[], attributes := #[] }
def k8m3 : Method := { name := "compress", desc := "([CI[BII)I", sig := { parameters := [(.array .char), .int, (.array .byte), .int, .int], returnType := some .int }, accessFlags := 9, code := some k8c3 }
/-- java/lang/StringUTF16 -/
def k8 : Class := { plain "java/lang/StringUTF16" (some 0) with
  accessFlags := 48
  interfaces := #[]
  cf := some (fileOf pool8 12 #[.nestMembers #[627, 629, 369]] #[{ accessFlags := 0, nameIndex := 9, descriptorIndex := 10, attributes := #[] }, { accessFlags := 8, nameIndex := 261, descriptorIndex := 262, attributes := #[] }, { accessFlags := 9, nameIndex := 117, descriptorIndex := 122, attributes := #[] }, { accessFlags := 9, nameIndex := 117, descriptorIndex := 118, attributes := #[] }] 48 6 #[] #[{ accessFlags := 26, nameIndex := 61, descriptorIndex := 62, attributes := #[] }, { accessFlags := 26, nameIndex := 65, descriptorIndex := 62, attributes := #[] }, { accessFlags := 24, nameIndex := 430, descriptorIndex := 62, attributes := #[] }, { accessFlags := 4120, nameIndex := 46, descriptorIndex := 47, attributes := #[] }])
  fields := #[{ name := "HI_BYTE_SHIFT", type := .int, accessFlags := 26, slot := 0, constantValue := 0 }, { name := "LO_BYTE_SHIFT", type := .int, accessFlags := 26, slot := 1, constantValue := 0 }, { name := "MAX_LENGTH", type := .int, accessFlags := 24, slot := 2, constantValue := 0 }, { name := "$assertionsDisabled", type := .boolean, accessFlags := 4120, slot := 3, constantValue := 0 }]
  methods := #[k8m0, k8m1, k8m2, k8m3]
  instanceTypes := #[]
  staticTypes := #[.int, .int, .int, .boolean]
  resolved := Array.replicate 635 none
  statics := none }

def pool9 : Array CpInfo := pool [(1, .methodref 2 3), (0, .class_ 4), (0, .nameAndType 5 6), (0, u "java/lang/Object"), (0, u "<init>"), (0, u "()V"), (0, .fieldref 8 9), (0, .class_ 10), (0, .nameAndType 11 12), (0, u "com/example/iffley/iffley/model/Term"), (0, u "text"), (0, u "Ljava/lang/String;"), (0, .string 11), (0, .methodref 15 16), (0, .class_ 17), (0, .nameAndType 18 19), (0, u "java/util/Objects"), (0, u "requireNonNull"), (0, u "(Ljava/lang/Object;Ljava/lang/String;)Ljava/lang/Object;"), (0, .methodref 8 21), (0, .nameAndType 22 23), (0, u "isIdentifier"), (0, u "(Ljava/lang/String;)Z"), (0, .methodref 8 25), (0, .nameAndType 26 23), (0, u "isIri"), (7, .nameAndType 5 35), (0, u "(Ljava/lang/String;)V"), (0, .methodref 8 34), (0, .methodref 38 39), (0, .class_ 40), (0, .nameAndType 41 42), (0, u "java/lang/String"), (0, u "charAt"), (0, u "(I)C"), (0, .methodref 8 44), (0, .nameAndType 45 46), (0, u "isAsciiUpperCase"), (0, u "(C)Z"), (0, .methodref 38 48), (0, .nameAndType 49 50), (0, u "equals"), (0, u "(Ljava/lang/Object;)Z"), (3, u "()I"), (0, .methodref 38 56), (0, .nameAndType 57 58), (0, u "isEmpty"), (0, u "()Z"), (0, .methodref 8 60), (0, .nameAndType 61 46), (0, u "isAsciiLetter"), (0, .methodref 38 63), (0, .nameAndType 64 54), (0, u "length"), (0, .string 66), (0, u "<>\"{}|^`\\"), (0, .methodref 38 68), (0, .nameAndType 69 70), (0, u "indexOf"), (0, u "(I)I"), (2, u "parse"), (0, u "(Ljava/lang/String;)Lcom/example/iffley/iffley/model/Term;"), (1, u "isVariable"), (0, u "toString"), (0, u "()Ljava/lang/String;")] 17

def k9c0 : Code := { maxStack := 2, maxLocals := 2, code := prog_13_method_1_code, exceptionTable := #[], attributes := #[] }
def k9m0 : Method := { name := "<init>", desc := "(Ljava/lang/String;)V", sig := { parameters := [(.object "java/lang/String")], returnType := none }, accessFlags := 2, code := some k9c0 }
def k9c1 : Code := { maxStack := 3, maxLocals := 1, code := prog_13_method_2_code, exceptionTable := #[], attributes := #[] }
def k9m1 : Method := { name := "parse", desc := "(Ljava/lang/String;)Lcom/example/iffley/iffley/model/Term;", sig := { parameters := [(.object "java/lang/String")], returnType := some (.object "com/example/iffley/iffley/model/Term") }, accessFlags := 9, code := some k9c1 }
def k9c2 : Code := { maxStack := 2, maxLocals := 1, code := prog_13_method_3_code, exceptionTable := #[], attributes := #[] }
def k9m2 : Method := { name := "isVariable", desc := "()Z", sig := { parameters := [], returnType := some .boolean }, accessFlags := 1, code := some k9c2 }
def k9c3 : Code := { maxStack := 2, maxLocals := 2, code := prog_13_method_4_code, exceptionTable := #[], attributes := #[] }
def k9m3 : Method := { name := "equals", desc := "(Ljava/lang/Object;)Z", sig := { parameters := [(.object "java/lang/Object")], returnType := some .boolean }, accessFlags := 1, code := some k9c3 }
def k9c4 : Code := { maxStack := 1, maxLocals := 1, code := prog_13_method_6_code, exceptionTable := #[], attributes := #[] }
def k9m4 : Method := { name := "toString", desc := "()Ljava/lang/String;", sig := { parameters := [], returnType := some (.object "java/lang/String") }, accessFlags := 1, code := some k9c4 }
def k9c5 : Code := { maxStack := 2, maxLocals := 3, code := prog_13_method_7_code, exceptionTable := #[], attributes := #[] }
def k9m5 : Method := { name := "isIdentifier", desc := "(Ljava/lang/String;)Z", sig := { parameters := [(.object "java/lang/String")], returnType := some .boolean }, accessFlags := 10, code := some k9c5 }
def k9c6 : Code := { maxStack := 3, maxLocals := 3, code := prog_13_method_8_code, exceptionTable := #[], attributes := #[] }
def k9m6 : Method := { name := "isIri", desc := "(Ljava/lang/String;)Z", sig := { parameters := [(.object "java/lang/String")], returnType := some .boolean }, accessFlags := 10, code := some k9c6 }
def k9c7 : Code := { maxStack := 2, maxLocals := 1, code := prog_13_method_9_code, exceptionTable := #[], attributes := #[] }
def k9m7 : Method := { name := "isAsciiLetter", desc := "(C)Z", sig := { parameters := [.char], returnType := some .boolean }, accessFlags := 10, code := some k9c7 }
def k9c8 : Code := { maxStack := 2, maxLocals := 1, code := prog_13_method_10_code, exceptionTable := #[], attributes := #[] }
def k9m8 : Method := { name := "isAsciiUpperCase", desc := "(C)Z", sig := { parameters := [.char], returnType := some .boolean }, accessFlags := 10, code := some k9c8 }
/-- com/example/iffley/iffley/model/Term -/
def k9 : Class := { plain "com/example/iffley/iffley/model/Term" (some 0) with
  accessFlags := 49
  interfaces := #[]
  cf := some (fileOf pool9 8 #[] #[{ accessFlags := 2, nameIndex := 5, descriptorIndex := 35, attributes := #[] }, { accessFlags := 9, nameIndex := 73, descriptorIndex := 74, attributes := #[] }, { accessFlags := 1, nameIndex := 76, descriptorIndex := 58, attributes := #[] }, { accessFlags := 1, nameIndex := 49, descriptorIndex := 50, attributes := #[] }, { accessFlags := 1, nameIndex := 77, descriptorIndex := 78, attributes := #[] }, { accessFlags := 10, nameIndex := 22, descriptorIndex := 23, attributes := #[] }, { accessFlags := 10, nameIndex := 26, descriptorIndex := 23, attributes := #[] }, { accessFlags := 10, nameIndex := 61, descriptorIndex := 46, attributes := #[] }, { accessFlags := 10, nameIndex := 45, descriptorIndex := 46, attributes := #[] }] 49 2 #[] #[{ accessFlags := 18, nameIndex := 11, descriptorIndex := 12, attributes := #[] }])
  fields := #[{ name := "text", type := (.object "java/lang/String"), accessFlags := 18, slot := 0, constantValue := 0 }]
  methods := #[k9m0, k9m1, k9m2, k9m3, k9m4, k9m5, k9m6, k9m7, k9m8]
  instanceTypes := #[(.object "java/lang/String")]
  staticTypes := #[]
  resolved := Array.replicate 96 none
  statics := none }

def pool10 : Array CpInfo := pool [(2, .class_ 4), (1, u "java/lang/Object"), (0, u "<init>"), (0, u "()V"), (35, .class_ 44), (1, u "java/util/Objects"), (0, u "requireNonNull"), (48, u "(Ljava/lang/Object;Ljava/lang/String;)Ljava/lang/Object;")] 89

def k10m0 : Method := { name := "<init>", desc := "()V", sig := { parameters := [], returnType := none }, accessFlags := 2, code := none }
def k10c1 : Code := { maxStack := 3, maxLocals := 2, code := jdk_31_method_11_code, exceptionTable := #[], attributes := #[] }
def k10m1 : Method := { name := "requireNonNull", desc := "(Ljava/lang/Object;Ljava/lang/String;)Ljava/lang/Object;", sig := { parameters := [(.object "java/lang/Object"), (.object "java/lang/String")], returnType := some (.object "java/lang/Object") }, accessFlags := 9, code := some k10c1 }
/-- java/util/Objects -/
def k10 : Class := { plain "java/util/Objects" (some 0) with
  accessFlags := 49
  interfaces := #[]
  cf := some (fileOf pool10 42 #[] #[{ accessFlags := 2, nameIndex := 5, descriptorIndex := 6, attributes := #[] }, { accessFlags := 9, nameIndex := 45, descriptorIndex := 94, attributes := #[] }] 49 2 #[] #[])
  fields := #[]
  methods := #[k10m0, k10m1]
  instanceTypes := #[]
  staticTypes := #[]
  resolved := Array.replicate 184 none
  statics := none }

def pool11 : Array CpInfo := pool [(1, .class_ 2), (0, u "java/lang/String"), (1, .class_ 6), (1, u "java/lang/Object"), (0, u "<init>"), (0, u "()V"), (0, .methodref 1 10), (0, .nameAndType 11 12), (0, u "checkIndex"), (0, u "(II)V"), (1, .class_ 16), (1, u "java/lang/StringLatin1"), (21, .methodref 39 40), (0, .class_ 41), (0, .nameAndType 42 43), (0, u "java/lang/Math"), (0, u "min"), (0, u "(II)I"), (9, u "([BI)C"), (34, .methodref 14 89), (0, .nameAndType 90 91), (0, u "canEncode"), (0, u "(I)Z"), (0, .methodref 39 93), (0, .nameAndType 94 43), (0, u "max"), (0, .methodref 14 96), (0, .nameAndType 97 98), (0, u "indexOfChar"), (0, u "([BIII)I"), (2, u "indexOf"), (19, u "$assertionsDisabled"), (0, u "Z"), (98, .class_ 223), (1, u "java/lang/StringLatin1$LinesSpliterator"), (28, u "charAt"), (28, u "equals"), (0, u "([B[B)Z"), (107, .class_ 391), (0, u "java/lang/StringLatin1$CharsSpliterator")] 3

def k11m0 : Method := { name := "<init>", desc := "()V", sig := { parameters := [], returnType := none }, accessFlags := 0, code := none }
def k11c1 : Code := { maxStack := 2, maxLocals := 2, code := jdk_43_method_2_code, exceptionTable := #[], attributes := #[] }
def k11m1 : Method := { name := "charAt", desc := "([BI)C", sig := { parameters := [(.array .byte), .int], returnType := some .char }, accessFlags := 9, code := some k11c1 }
def k11c2 : Code := { maxStack := 2, maxLocals := 1, code := jdk_43_method_4_code, exceptionTable := #[], attributes := #[] }
def k11m2 : Method := { name := "canEncode", desc := "(I)Z", sig := { parameters := [.int], returnType := some .boolean }, accessFlags := 9, code := some k11c2 }
def k11c3 : Code := { maxStack := 3, maxLocals := 3, code := jdk_43_method_13_code, exceptionTable := #[], attributes := #[] }
def k11m3 : Method := { name := "equals", desc := "([B[B)Z", sig := { parameters := [(.array .byte), (.array .byte)], returnType := some .boolean }, accessFlags := 9, code := some k11c3 }
def k11c4 : Code := { maxStack := 4, maxLocals := 4, code := jdk_43_method_22_code, exceptionTable := #[], attributes := #[] }
def k11m4 : Method := { name := "indexOf", desc := "([BIII)I", sig := { parameters := [(.array .byte), .int, .int, .int], returnType := some .int }, accessFlags := 9, code := some k11c4 }
def k11c5 : Code := { maxStack := 2, maxLocals := 6, code := jdk_43_method_23_code, exceptionTable := #[], attributes := #[] }
def k11m5 : Method := { name := "indexOfChar", desc := "([BIII)I", sig := { parameters := [(.array .byte), .int, .int, .int], returnType := some .int }, accessFlags := 10, code := some k11c5 }
/-- java/lang/StringLatin1 -/
def k11 : Class := { plain "java/lang/StringLatin1" (some 0) with
  accessFlags := 48
  interfaces := #[]
  cf := some (fileOf pool11 14 #[.nestMembers #[390, 221]] #[{ accessFlags := 0, nameIndex := 7, descriptorIndex := 8, attributes := #[] }, { accessFlags := 9, nameIndex := 252, descriptorIndex := 53, attributes := #[] }, { accessFlags := 9, nameIndex := 90, descriptorIndex := 91, attributes := #[] }, { accessFlags := 9, nameIndex := 281, descriptorIndex := 282, attributes := #[] }, { accessFlags := 9, nameIndex := 101, descriptorIndex := 98, attributes := #[] }, { accessFlags := 10, nameIndex := 97, descriptorIndex := 98, attributes := #[] }] 48 4 #[] #[{ accessFlags := 4120, nameIndex := 121, descriptorIndex := 122, attributes := #[] }])
  fields := #[{ name := "$assertionsDisabled", type := .boolean, accessFlags := 4120, slot := 0, constantValue := 0 }]
  methods := #[k11m0, k11m1, k11m2, k11m3, k11m4, k11m5]
  instanceTypes := #[]
  staticTypes := #[.boolean]
  resolved := Array.replicate 395 none
  statics := none }

def pool12 : Array CpInfo := pool [(2, .class_ 4), (1, u "java/lang/Object"), (0, u "<init>"), (0, u "()V"), (17, .class_ 26), (1, u "jdk/internal/util/Preconditions"), (6, u "checkIndex"), (21, .class_ 56), (0, u "jdk/internal/util/Preconditions$4"), (57, .class_ 115), (0, u "jdk/internal/util/Preconditions$1"), (7, u "SIOOBE_FORMATTER"), (0, u "Ljava/util/function/BiFunction;"), (0, .class_ 126), (0, u "jdk/internal/util/Preconditions$2"), (3, u "AIOOBE_FORMATTER"), (0, .class_ 132), (0, u "jdk/internal/util/Preconditions$3"), (3, u "IOOBE_FORMATTER"), (41, u "(IILjava/util/function/BiFunction;)I")] 15

def k12m0 : Method := { name := "<init>", desc := "()V", sig := { parameters := [], returnType := none }, accessFlags := 1, code := none }
def k12c1 : Code := { maxStack := 3, maxLocals := 3, code := jdk_41_method_11_code, exceptionTable := #[], attributes := #[] }
def k12m1 : Method := { name := "checkIndex", desc := "(IILjava/util/function/BiFunction;)I", sig := { parameters := [.int, .int, (.object "java/util/function/BiFunction")], returnType := some .int }, accessFlags := 9, code := some k12c1 }
/-- jdk/internal/util/Preconditions -/
def k12 : Class := { plain "jdk/internal/util/Preconditions" (some 0) with
  accessFlags := 33
  interfaces := #[]
  cf := some (fileOf pool12 24 #[.nestMembers #[55, 131, 125, 114]] #[{ accessFlags := 1, nameIndex := 5, descriptorIndex := 6, attributes := #[] }, { accessFlags := 9, nameIndex := 33, descriptorIndex := 178, attributes := #[] }] 33 2 #[] #[{ accessFlags := 25, nameIndex := 123, descriptorIndex := 124, attributes := #[] }, { accessFlags := 25, nameIndex := 130, descriptorIndex := 124, attributes := #[] }, { accessFlags := 25, nameIndex := 136, descriptorIndex := 124, attributes := #[] }])
  fields := #[{ name := "SIOOBE_FORMATTER", type := (.object "java/util/function/BiFunction"), accessFlags := 25, slot := 0, constantValue := 0 }, { name := "AIOOBE_FORMATTER", type := (.object "java/util/function/BiFunction"), accessFlags := 25, slot := 1, constantValue := 0 }, { name := "IOOBE_FORMATTER", type := (.object "java/util/function/BiFunction"), accessFlags := 25, slot := 2, constantValue := 0 }]
  methods := #[k12m0, k12m1]
  instanceTypes := #[]
  staticTypes := #[(.object "java/util/function/BiFunction"), (.object "java/util/function/BiFunction"), (.object "java/util/function/BiFunction")]
  resolved := Array.replicate 194 none
  statics := some 1 }

def pool13 : Array CpInfo := pool [(1, .class_ 2), (0, u "java/lang/Math"), (1, .class_ 6), (1, u "java/lang/Object"), (0, u "<init>"), (0, u "()V"), (89, .class_ 100), (1, u "java/lang/Math$RandomNumberGeneratorHolder"), (71, u "negativeZeroFloatBits"), (0, u "J"), (2, u "negativeZeroDoubleBits"), (21, u "max"), (2, u "min"), (43, u "$assertionsDisabled"), (0, u "Z"), (88, u "(II)I"), (2, u "twoToTheDoubleScaleDown"), (0, u "D"), (4, u "twoToTheDoubleScaleUp"), (9, u "E"), (3, u "PI"), (2, u "TAU"), (2, u "DEGREES_TO_RADIANS"), (0, u "RADIANS_TO_DEGREES")] 94

def k13m0 : Method := { name := "<init>", desc := "()V", sig := { parameters := [], returnType := none }, accessFlags := 2, code := none }
def k13c1 : Code := { maxStack := 2, maxLocals := 2, code := jdk_29_method_65_code, exceptionTable := #[], attributes := #[] }
def k13m1 : Method := { name := "max", desc := "(II)I", sig := { parameters := [.int, .int], returnType := some .int }, accessFlags := 9, code := some k13c1 }
def k13c2 : Code := { maxStack := 2, maxLocals := 2, code := jdk_29_method_69_code, exceptionTable := #[], attributes := #[] }
def k13m2 : Method := { name := "min", desc := "(II)I", sig := { parameters := [.int, .int], returnType := some .int }, accessFlags := 9, code := some k13c2 }
/-- java/lang/Math -/
def k13 : Class := { plain "java/lang/Math" (some 0) with
  accessFlags := 49
  interfaces := #[]
  cf := some (fileOf pool13 1 #[.nestMembers #[98]] #[{ accessFlags := 2, nameIndex := 7, descriptorIndex := 8, attributes := #[] }, { accessFlags := 9, nameIndex := 198, descriptorIndex := 335, attributes := #[] }, { accessFlags := 9, nameIndex := 201, descriptorIndex := 335, attributes := #[] }] 49 4 #[] #[{ accessFlags := 25, nameIndex := 354, descriptorIndex := 339, attributes := #[] }, { accessFlags := 25, nameIndex := 358, descriptorIndex := 339, attributes := #[] }, { accessFlags := 25, nameIndex := 361, descriptorIndex := 339, attributes := #[] }, { accessFlags := 26, nameIndex := 364, descriptorIndex := 339, attributes := #[] }, { accessFlags := 26, nameIndex := 365, descriptorIndex := 339, attributes := #[] }, { accessFlags := 26, nameIndex := 172, descriptorIndex := 173, attributes := #[] }, { accessFlags := 26, nameIndex := 176, descriptorIndex := 173, attributes := #[] }, { accessFlags := 8, nameIndex := 344, descriptorIndex := 339, attributes := #[] }, { accessFlags := 8, nameIndex := 338, descriptorIndex := 339, attributes := #[] }, { accessFlags := 4120, nameIndex := 245, descriptorIndex := 246, attributes := #[] }])
  fields := #[{ name := "E", type := .double, accessFlags := 25, slot := 0, constantValue := 0 }, { name := "PI", type := .double, accessFlags := 25, slot := 1, constantValue := 0 }, { name := "TAU", type := .double, accessFlags := 25, slot := 2, constantValue := 0 }, { name := "DEGREES_TO_RADIANS", type := .double, accessFlags := 26, slot := 3, constantValue := 0 }, { name := "RADIANS_TO_DEGREES", type := .double, accessFlags := 26, slot := 4, constantValue := 0 }, { name := "negativeZeroFloatBits", type := .long, accessFlags := 26, slot := 5, constantValue := 0 }, { name := "negativeZeroDoubleBits", type := .long, accessFlags := 26, slot := 6, constantValue := 0 }, { name := "twoToTheDoubleScaleUp", type := .double, accessFlags := 8, slot := 7, constantValue := 0 }, { name := "twoToTheDoubleScaleDown", type := .double, accessFlags := 8, slot := 8, constantValue := 0 }, { name := "$assertionsDisabled", type := .boolean, accessFlags := 4120, slot := 9, constantValue := 0 }]
  methods := #[k13m0, k13m1, k13m2]
  instanceTypes := #[]
  staticTypes := #[.double, .double, .double, .double, .double, .long, .long, .double, .double, .boolean]
  resolved := Array.replicate 460 none
  statics := none }

def pool14 : Array CpInfo := pool [(9, u "<init>"), (6, .class_ 18), (1, u "java/lang/Object"), (0, u "()V"), (1, .class_ 23), (1, u "jdk/internal/util/ArraysSupport"), (0, u "LOG2_ARRAY_LONG_INDEX_SCALE"), (0, u "I"), (2, u "U"), (0, u "Ljdk/internal/misc/Unsafe;"), (8, u "BIG_ENDIAN"), (0, u "Z"), (8, u "LOG2_BYTE_BIT_SIZE"), (4, u "LOG2_ARRAY_INT_INDEX_SCALE"), (54, u "JLA"), (0, u "Ljdk/internal/access/JavaLangAccess;"), (11, u "LOG2_ARRAY_BOOLEAN_INDEX_SCALE"), (9, u "LOG2_ARRAY_BYTE_INDEX_SCALE"), (5, u "LOG2_ARRAY_CHAR_INDEX_SCALE"), (5, u "LOG2_ARRAY_SHORT_INDEX_SCALE"), (18, u "LOG2_ARRAY_FLOAT_INDEX_SCALE"), (24, u "LOG2_ARRAY_DOUBLE_INDEX_SCALE"), (89, u "T_BOOLEAN"), (2, u "T_CHAR"), (1, u "T_FLOAT"), (1, u "T_DOUBLE"), (1, u "T_BYTE"), (1, u "T_SHORT"), (1, u "T_INT"), (1, u "T_LONG"), (1, u "SOFT_MAX_ARRAY_LENGTH")] 83

def k14m0 : Method := { name := "<init>", desc := "()V", sig := { parameters := [], returnType := none }, accessFlags := 2, code := none }
/-- jdk/internal/util/ArraysSupport -/
def k14 : Class := { plain "jdk/internal/util/ArraysSupport" (some 0) with
  accessFlags := 33
  interfaces := #[]
  cf := some (fileOf pool14 21 #[] #[{ accessFlags := 2, nameIndex := 9, descriptorIndex := 19, attributes := #[] }] 33 16 #[] #[{ accessFlags := 24, nameIndex := 28, descriptorIndex := 29, attributes := #[] }, { accessFlags := 26, nameIndex := 38, descriptorIndex := 39, attributes := #[] }, { accessFlags := 25, nameIndex := 121, descriptorIndex := 25, attributes := #[] }, { accessFlags := 25, nameIndex := 131, descriptorIndex := 25, attributes := #[] }, { accessFlags := 25, nameIndex := 137, descriptorIndex := 25, attributes := #[] }, { accessFlags := 25, nameIndex := 143, descriptorIndex := 25, attributes := #[] }, { accessFlags := 25, nameIndex := 53, descriptorIndex := 25, attributes := #[] }, { accessFlags := 25, nameIndex := 24, descriptorIndex := 25, attributes := #[] }, { accessFlags := 25, nameIndex := 162, descriptorIndex := 25, attributes := #[] }, { accessFlags := 25, nameIndex := 187, descriptorIndex := 25, attributes := #[] }, { accessFlags := 26, nameIndex := 48, descriptorIndex := 25, attributes := #[] }, { accessFlags := 25, nameIndex := 277, descriptorIndex := 25, attributes := #[] }, { accessFlags := 25, nameIndex := 280, descriptorIndex := 25, attributes := #[] }, { accessFlags := 25, nameIndex := 282, descriptorIndex := 25, attributes := #[] }, { accessFlags := 25, nameIndex := 284, descriptorIndex := 25, attributes := #[] }, { accessFlags := 25, nameIndex := 286, descriptorIndex := 25, attributes := #[] }, { accessFlags := 25, nameIndex := 288, descriptorIndex := 25, attributes := #[] }, { accessFlags := 25, nameIndex := 290, descriptorIndex := 25, attributes := #[] }, { accessFlags := 25, nameIndex := 292, descriptorIndex := 25, attributes := #[] }, { accessFlags := 26, nameIndex := 108, descriptorIndex := 109, attributes := #[] }, { accessFlags := 25, nameIndex := 294, descriptorIndex := 25, attributes := #[] }])
  fields := #[{ name := "U", type := (.object "jdk/internal/misc/Unsafe"), accessFlags := 24, slot := 0, constantValue := 0 }, { name := "BIG_ENDIAN", type := .boolean, accessFlags := 26, slot := 1, constantValue := 0 }, { name := "LOG2_ARRAY_BOOLEAN_INDEX_SCALE", type := .int, accessFlags := 25, slot := 2, constantValue := 0 }, { name := "LOG2_ARRAY_BYTE_INDEX_SCALE", type := .int, accessFlags := 25, slot := 3, constantValue := 0 }, { name := "LOG2_ARRAY_CHAR_INDEX_SCALE", type := .int, accessFlags := 25, slot := 4, constantValue := 0 }, { name := "LOG2_ARRAY_SHORT_INDEX_SCALE", type := .int, accessFlags := 25, slot := 5, constantValue := 0 }, { name := "LOG2_ARRAY_INT_INDEX_SCALE", type := .int, accessFlags := 25, slot := 6, constantValue := 0 }, { name := "LOG2_ARRAY_LONG_INDEX_SCALE", type := .int, accessFlags := 25, slot := 7, constantValue := 0 }, { name := "LOG2_ARRAY_FLOAT_INDEX_SCALE", type := .int, accessFlags := 25, slot := 8, constantValue := 0 }, { name := "LOG2_ARRAY_DOUBLE_INDEX_SCALE", type := .int, accessFlags := 25, slot := 9, constantValue := 0 }, { name := "LOG2_BYTE_BIT_SIZE", type := .int, accessFlags := 26, slot := 10, constantValue := 0 }, { name := "T_BOOLEAN", type := .int, accessFlags := 25, slot := 11, constantValue := 0 }, { name := "T_CHAR", type := .int, accessFlags := 25, slot := 12, constantValue := 0 }, { name := "T_FLOAT", type := .int, accessFlags := 25, slot := 13, constantValue := 0 }, { name := "T_DOUBLE", type := .int, accessFlags := 25, slot := 14, constantValue := 0 }, { name := "T_BYTE", type := .int, accessFlags := 25, slot := 15, constantValue := 0 }, { name := "T_SHORT", type := .int, accessFlags := 25, slot := 16, constantValue := 0 }, { name := "T_INT", type := .int, accessFlags := 25, slot := 17, constantValue := 0 }, { name := "T_LONG", type := .int, accessFlags := 25, slot := 18, constantValue := 0 }, { name := "JLA", type := (.object "jdk/internal/access/JavaLangAccess"), accessFlags := 26, slot := 19, constantValue := 0 }, { name := "SOFT_MAX_ARRAY_LENGTH", type := .int, accessFlags := 25, slot := 20, constantValue := 0 }]
  methods := #[k14m0]
  instanceTypes := #[]
  staticTypes := #[(.object "jdk/internal/misc/Unsafe"), .boolean, .int, .int, .int, .int, .int, .int, .int, .int, .int, .int, .int, .int, .int, .int, .int, .int, .int, (.object "jdk/internal/access/JavaLangAccess"), .int]
  resolved := Array.replicate 378 none
  statics := none }

def pool15 : Array CpInfo := pool [(1, u "java/lang/Cloneable"), (0, .class_ 1), (0, u "java/lang/Object"), (0, .class_ 3)] 3

/-- java/lang/Cloneable -/
def k15 : Class := { plain "java/lang/Cloneable" (some 0) with
  accessFlags := 1537
  interfaces := #[]
  cf := some (fileOf pool15 2 #[] #[] 1537 4 #[] #[])
  fields := #[]
  methods := #[]
  instanceTypes := #[]
  staticTypes := #[]
  resolved := Array.replicate 8 none
  statics := none }

/-- the primitive byte -/
def k16 : Class := { plain "byte" none with kind := .primitive 'B', accessFlags := 0x411 }
/-- [B -/
def k17 : Class := { plain "[B" (some 0) with kind := .array 16 .byte, interfaces := #[15, 2], accessFlags := 1041 }

/-- the primitive char -/
def k18 : Class := { plain "char" none with kind := .primitive 'C', accessFlags := 0x411 }
/-- [C -/
def k19 : Class := { plain "[C" (some 0) with kind := .array 18 .char, interfaces := #[15, 2], accessFlags := 1041 }

/-- the primitive int -/
def k20 : Class := { plain "int" none with kind := .primitive 'I', accessFlags := 0x411 }
/-- [I -/
def k21 : Class := { plain "[I" (some 0) with kind := .array 20 .int, interfaces := #[15, 2], accessFlags := 1041 }

def heap : Heap := #[{ cls := 7, slots := #[.long 0, .int 1, .null, .int 0, .null, .int 0, .int 0], vm := .statics 7 },
  { cls := 12, slots := #[.null, .null, .null], vm := .statics 12 }]
def classes : Array Class := #[k0, k1, k2, k3, k4, k5, k6, k7, k8, k9, k10, k11, k12, k13, k14, k15, k16, k17, k18, k19, k20, k21]
def interned : List (Array UInt16 × Addr) := []
def slotsUsed : Nat := 10
def theMethod : MethodId := ⟨1, 1⟩
def args0 : Array Value := #[.int 5, .int 6, .int 7, .int 8, .int 9]
def aboutOver (below : List Frame) : State where
  vm := { classes := classes, interned := interned.toArray }
  heap := heap
  slotsUsed := slotsUsed
  threads := #[{ frames := .invoking theMethod args0 :: below }]
def below0 : List Frame := [.native { method := ⟨0, 0⟩, args := #[] }]
def about1 : State := aboutOver below0
def p0 : Program := .bare "" "" ""
def e0 : Env := launch0.env 0 0 0
theorem w_frames : about1.frames = Frame.invoking theMethod args0 :: below0 := rfl
set_option maxRecDepth 65536 in
theorem w_args : argsFit about1.vm theMethod args0 = true := by decide +kernel
set_option maxRecDepth 65536 in
theorem w_heap : heapFits about1 = true := by decide +kernel
set_option maxRecDepth 65536 in
theorem w_runnable : about1.curStatus? = some .runnable := by decide +kernel
set_option maxRecDepth 65536 in
theorem w_alone : about1.alone = true := by decide +kernel
set_option maxRecDepth 65536 in
theorem w_named : about1.methodNamed? x = some theMethod := by decide +kernel
set_option maxRecDepth 65536 in
theorem w_hears : about1.hears theMethod below0 = true := by decide +kernel
set_option maxRecDepth 65536 in
theorem w_ripe : about1.ripe theMethod args0 below0 = true := by decide +kernel
theorem w_running : about1.status = .running := rfl
set_option maxRecDepth 65536 in
theorem w_room : about1.hasRoom e0.platform room_1 = true :=
  launch0.hasRoom_least _ room_1 (by decide +kernel) (by decide +kernel) (by decide +kernel) (by decide +kernel) (by decide +kernel) (by decide +kernel)
theorem allAtoms_all (ts : List Jvm.Cond) (a : Array Jvm.Value) (st : Jvm.State) : (allAtoms ts).before a st = ts.all (fun c => c.before a st) := by
  induction ts with
  | nil => rfl
  | cons c t ih =>
    show (Jvm.Cond.and c (allAtoms t)).before a st = _
    rw [Jvm.Cond.before_and, ih, List.all_cons]
def words1 : List Jvm.Cond := Jvm.Cond.code x code maxLocals ret :: tables_1
/-- a 'code' word, met by the world's own term for the bytes: nothing is compared byte by byte -/
theorem code_word {y : MethodName} {bytes : ByteArray} {mx : Nat} {rt : Option FieldType} {a : Array Value} {s : State} {m : MethodId} {meth : Method} {c : Code} (h1 : s.methodNamed? y = some m) (h2 : s.vm.method? m = some meth) (h3 : meth.code = some c) (h4 : c.code = bytes)
    (h5 : (c.maxLocals == mx && c.exceptionTable.isEmpty && decide (c.maxStack ≤ mostOperands) && decide (meth.sig.returnType = rt) && !meth.locks && decide (parseMethodDescriptor y.desc = some meth.sig)) = true) : (Jvm.Cond.code y bytes mx rt).before a s = true := by
  simp only [Bool.and_eq_true, beq_iff_eq, Bool.not_eq_true', decide_eq_true_eq] at h5
  obtain ⟨⟨⟨⟨⟨g1, g2⟩, g3⟩, g4⟩, g5⟩, g6⟩ := h5
  simp [Cond.before, Cond.holds, Cond.value, h1, h2, h3, h4, g1, g2, g3, g4, g5, g6]
def isCode : Jvm.Cond → Bool
  | .code _ _ _ _ => true
  | _ => false
theorem all_split {L : List Jvm.Cond} {P : Jvm.Cond → Bool} (h1 : L.all (fun c => isCode c || P c) = true) (h2 : ∀ c ∈ L.filter isCode, P c = true) : L.all P = true := by
  refine List.all_eq_true.mpr fun c hc => ?_
  have h := List.all_eq_true.mp h1 c hc
  rcases Bool.eq_false_or_eq_true (isCode c) with hi | hi
  · exact h2 c (List.mem_filter.mpr ⟨hc, hi⟩)
  · simpa [hi] using h
set_option maxRecDepth 65536 in
theorem w_c0 : (Jvm.Cond.code x code maxLocals ret).before args0 about1 = true := code_word (m := ⟨1, 1⟩) (meth := k1m1) (c := k1c1) (by decide +kernel) rfl rfl rfl (by decide +kernel)
set_option maxRecDepth 65536 in
theorem w_c1 : (Jvm.Cond.code ({ cls := "com/example/iffley/iffley/model/TermParsePinLaw", name := "pick", desc := "(I)C" } : Jvm.MethodName) method_3_code (2 : Nat) (Option.some Jvm.ClassFile.FieldType.char)).before args0 about1 = true := code_word (m := ⟨1, 2⟩) (meth := k1m2) (c := k1c2) (by decide +kernel) rfl rfl rfl (by decide +kernel)
set_option maxRecDepth 65536 in
theorem w_c2 : (Jvm.Cond.code ({ cls := "java/lang/String", name := "<init>", desc := "([C)V" } : Jvm.MethodName) jdk_42_method_3_code (2 : Nat) (Option.none : Option Jvm.ClassFile.FieldType)).before args0 about1 = true := code_word (m := ⟨7, 1⟩) (meth := k7m1) (c := k7c1) (by decide +kernel) rfl rfl rfl (by decide +kernel)
set_option maxRecDepth 65536 in
theorem w_c3 : (Jvm.Cond.code ({ cls := "java/lang/String", name := "<init>", desc := "([CIILjava/lang/Void;)V" } : Jvm.MethodName) jdk_42_method_149_code (6 : Nat) (Option.none : Option Jvm.ClassFile.FieldType)).before args0 about1 = true := code_word (m := ⟨7, 8⟩) (meth := k7m8) (c := k7c8) (by decide +kernel) rfl rfl rfl (by decide +kernel)
set_option maxRecDepth 65536 in
theorem w_c4 : (Jvm.Cond.code ({ cls := "java/lang/Object", name := "<init>", desc := "()V" } : Jvm.MethodName) object_method_1_code (1 : Nat) (Option.none : Option Jvm.ClassFile.FieldType)).before args0 about1 = true := code_word (m := ⟨0, 0⟩) (meth := k0m0) (c := k0c0) (by decide +kernel) rfl rfl rfl (by decide +kernel)
set_option maxRecDepth 65536 in
theorem w_c5 : (Jvm.Cond.code ({ cls := "java/lang/StringUTF16", name := "compress", desc := "([CII)[B" } : Jvm.MethodName) jdk_52_method_16_code (6 : Nat) (Option.some (Jvm.ClassFile.FieldType.array Jvm.ClassFile.FieldType.byte))).before args0 about1 = true := code_word (m := ⟨8, 2⟩) (meth := k8m2) (c := k8c2) (by decide +kernel) rfl rfl rfl (by decide +kernel)
set_option maxRecDepth 65536 in
theorem w_c6 : (Jvm.Cond.code ({ cls := "java/lang/StringUTF16", name := "compress", desc := "([CI[BII)I" } : Jvm.MethodName) jdk_52_method_21_code (7 : Nat) (Option.some Jvm.ClassFile.FieldType.int)).before args0 about1 = true := code_word (m := ⟨8, 3⟩) (meth := k8m3) (c := k8c3) (by decide +kernel) rfl rfl rfl (by decide +kernel)
set_option maxRecDepth 65536 in
theorem w_c7 : (Jvm.Cond.code ({ cls := "java/lang/StringUTF16", name := "coderFromArrayLen", desc := "([BI)B" } : Jvm.MethodName) jdk_52_method_15_code (2 : Nat) (Option.some Jvm.ClassFile.FieldType.byte)).before args0 about1 = true := code_word (m := ⟨8, 1⟩) (meth := k8m1) (c := k8c1) (by decide +kernel) rfl rfl rfl (by decide +kernel)
set_option maxRecDepth 65536 in
theorem w_c8 : (Jvm.Cond.code ({ cls := "com/example/iffley/iffley/model/TermParsePinLaw", name := "letter", desc := "(C)Z" } : Jvm.MethodName) method_4_code (1 : Nat) (Option.some Jvm.ClassFile.FieldType.boolean)).before args0 about1 = true := code_word (m := ⟨1, 3⟩) (meth := k1m3) (c := k1c3) (by decide +kernel) rfl rfl rfl (by decide +kernel)
set_option maxRecDepth 65536 in
theorem w_c9 : (Jvm.Cond.code ({ cls := "com/example/iffley/iffley/model/Term", name := "parse", desc := "(Ljava/lang/String;)Lcom/example/iffley/iffley/model/Term;" } : Jvm.MethodName) prog_13_method_2_code (1 : Nat) (Option.some (Jvm.ClassFile.FieldType.object "com/example/iffley/iffley/model/Term"))).before args0 about1 = true := code_word (m := ⟨9, 1⟩) (meth := k9m1) (c := k9c1) (by decide +kernel) rfl rfl rfl (by decide +kernel)
set_option maxRecDepth 65536 in
theorem w_c10 : (Jvm.Cond.code ({ cls := "java/util/Objects", name := "requireNonNull", desc := "(Ljava/lang/Object;Ljava/lang/String;)Ljava/lang/Object;" } : Jvm.MethodName) jdk_31_method_11_code (2 : Nat) (Option.some (Jvm.ClassFile.FieldType.object "java/lang/Object"))).before args0 about1 = true := code_word (m := ⟨10, 1⟩) (meth := k10m1) (c := k10c1) (by decide +kernel) rfl rfl rfl (by decide +kernel)
set_option maxRecDepth 65536 in
theorem w_c11 : (Jvm.Cond.code ({ cls := "com/example/iffley/iffley/model/Term", name := "isIdentifier", desc := "(Ljava/lang/String;)Z" } : Jvm.MethodName) prog_13_method_7_code (3 : Nat) (Option.some Jvm.ClassFile.FieldType.boolean)).before args0 about1 = true := code_word (m := ⟨9, 5⟩) (meth := k9m5) (c := k9c5) (by decide +kernel) rfl rfl rfl (by decide +kernel)
set_option maxRecDepth 65536 in
theorem w_c12 : (Jvm.Cond.code ({ cls := "java/lang/String", name := "isEmpty", desc := "()Z" } : Jvm.MethodName) jdk_42_method_55_code (1 : Nat) (Option.some Jvm.ClassFile.FieldType.boolean)).before args0 about1 = true := code_word (m := ⟨7, 3⟩) (meth := k7m3) (c := k7c3) (by decide +kernel) rfl rfl rfl (by decide +kernel)
set_option maxRecDepth 65536 in
theorem w_c13 : (Jvm.Cond.code ({ cls := "java/lang/String", name := "charAt", desc := "(I)C" } : Jvm.MethodName) jdk_42_method_56_code (2 : Nat) (Option.some Jvm.ClassFile.FieldType.char)).before args0 about1 = true := code_word (m := ⟨7, 4⟩) (meth := k7m4) (c := k7c4) (by decide +kernel) rfl rfl rfl (by decide +kernel)
set_option maxRecDepth 65536 in
theorem w_c14 : (Jvm.Cond.code ({ cls := "java/lang/String", name := "isLatin1", desc := "()Z" } : Jvm.MethodName) jdk_42_method_154_code (1 : Nat) (Option.some Jvm.ClassFile.FieldType.boolean)).before args0 about1 = true := code_word (m := ⟨7, 10⟩) (meth := k7m10) (c := k7c10) (by decide +kernel) rfl rfl rfl (by decide +kernel)
set_option maxRecDepth 65536 in
theorem w_c15 : (Jvm.Cond.code ({ cls := "java/lang/StringLatin1", name := "charAt", desc := "([BI)C" } : Jvm.MethodName) jdk_43_method_2_code (2 : Nat) (Option.some Jvm.ClassFile.FieldType.char)).before args0 about1 = true := code_word (m := ⟨11, 1⟩) (meth := k11m1) (c := k11c1) (by decide +kernel) rfl rfl rfl (by decide +kernel)
set_option maxRecDepth 65536 in
theorem w_c16 : (Jvm.Cond.code ({ cls := "java/lang/String", name := "checkIndex", desc := "(II)V" } : Jvm.MethodName) jdk_42_method_155_code (2 : Nat) (Option.none : Option Jvm.ClassFile.FieldType)).before args0 about1 = true := code_word (m := ⟨7, 11⟩) (meth := k7m11) (c := k7c11) (by decide +kernel) rfl rfl rfl (by decide +kernel)
set_option maxRecDepth 65536 in
theorem w_c17 : (Jvm.Cond.code ({ cls := "jdk/internal/util/Preconditions", name := "checkIndex", desc := "(IILjava/util/function/BiFunction;)I" } : Jvm.MethodName) jdk_41_method_11_code (3 : Nat) (Option.some Jvm.ClassFile.FieldType.int)).before args0 about1 = true := code_word (m := ⟨12, 1⟩) (meth := k12m1) (c := k12c1) (by decide +kernel) rfl rfl rfl (by decide +kernel)
set_option maxRecDepth 65536 in
theorem w_c18 : (Jvm.Cond.code ({ cls := "com/example/iffley/iffley/model/Term", name := "isAsciiLetter", desc := "(C)Z" } : Jvm.MethodName) prog_13_method_9_code (1 : Nat) (Option.some Jvm.ClassFile.FieldType.boolean)).before args0 about1 = true := code_word (m := ⟨9, 7⟩) (meth := k9m7) (c := k9c7) (by decide +kernel) rfl rfl rfl (by decide +kernel)
set_option maxRecDepth 65536 in
theorem w_c19 : (Jvm.Cond.code ({ cls := "com/example/iffley/iffley/model/Term", name := "isAsciiUpperCase", desc := "(C)Z" } : Jvm.MethodName) prog_13_method_10_code (1 : Nat) (Option.some Jvm.ClassFile.FieldType.boolean)).before args0 about1 = true := code_word (m := ⟨9, 8⟩) (meth := k9m8) (c := k9c8) (by decide +kernel) rfl rfl rfl (by decide +kernel)
set_option maxRecDepth 65536 in
theorem w_c20 : (Jvm.Cond.code ({ cls := "java/lang/String", name := "length", desc := "()I" } : Jvm.MethodName) jdk_42_method_54_code (1 : Nat) (Option.some Jvm.ClassFile.FieldType.int)).before args0 about1 = true := code_word (m := ⟨7, 2⟩) (meth := k7m2) (c := k7c2) (by decide +kernel) rfl rfl rfl (by decide +kernel)
set_option maxRecDepth 65536 in
theorem w_c21 : (Jvm.Cond.code ({ cls := "java/lang/String", name := "coder", desc := "()B" } : Jvm.MethodName) jdk_42_method_152_code (1 : Nat) (Option.some Jvm.ClassFile.FieldType.byte)).before args0 about1 = true := code_word (m := ⟨7, 9⟩) (meth := k7m9) (c := k7c9) (by decide +kernel) rfl rfl rfl (by decide +kernel)
set_option maxRecDepth 65536 in
theorem w_c22 : (Jvm.Cond.code ({ cls := "com/example/iffley/iffley/model/Term", name := "<init>", desc := "(Ljava/lang/String;)V" } : Jvm.MethodName) prog_13_method_1_code (2 : Nat) (Option.none : Option Jvm.ClassFile.FieldType)).before args0 about1 = true := code_word (m := ⟨9, 0⟩) (meth := k9m0) (c := k9c0) (by decide +kernel) rfl rfl rfl (by decide +kernel)
set_option maxRecDepth 65536 in
theorem w_c23 : (Jvm.Cond.code ({ cls := "com/example/iffley/iffley/model/Term", name := "toString", desc := "()Ljava/lang/String;" } : Jvm.MethodName) prog_13_method_6_code (1 : Nat) (Option.some (Jvm.ClassFile.FieldType.object "java/lang/String"))).before args0 about1 = true := code_word (m := ⟨9, 4⟩) (meth := k9m4) (c := k9c4) (by decide +kernel) rfl rfl rfl (by decide +kernel)
set_option maxRecDepth 65536 in
theorem w_c24 : (Jvm.Cond.code ({ cls := "java/lang/String", name := "equals", desc := "(Ljava/lang/Object;)Z" } : Jvm.MethodName) jdk_42_method_66_code (3 : Nat) (Option.some Jvm.ClassFile.FieldType.boolean)).before args0 about1 = true := code_word (m := ⟨7, 5⟩) (meth := k7m5) (c := k7c5) (by decide +kernel) rfl rfl rfl (by decide +kernel)
set_option maxRecDepth 65536 in
theorem w_c25 : (Jvm.Cond.code ({ cls := "com/example/iffley/iffley/model/Term", name := "isVariable", desc := "()Z" } : Jvm.MethodName) prog_13_method_3_code (1 : Nat) (Option.some Jvm.ClassFile.FieldType.boolean)).before args0 about1 = true := code_word (m := ⟨9, 2⟩) (meth := k9m2) (c := k9c2) (by decide +kernel) rfl rfl rfl (by decide +kernel)
set_option maxRecDepth 65536 in
theorem w_c26 : (Jvm.Cond.code ({ cls := "com/example/iffley/iffley/model/Term", name := "equals", desc := "(Ljava/lang/Object;)Z" } : Jvm.MethodName) prog_13_method_4_code (2 : Nat) (Option.some Jvm.ClassFile.FieldType.boolean)).before args0 about1 = true := code_word (m := ⟨9, 3⟩) (meth := k9m3) (c := k9c3) (by decide +kernel) rfl rfl rfl (by decide +kernel)
set_option maxRecDepth 65536 in
theorem w_c27 : (Jvm.Cond.code ({ cls := "java/lang/StringLatin1", name := "equals", desc := "([B[B)Z" } : Jvm.MethodName) jdk_43_method_13_code (3 : Nat) (Option.some Jvm.ClassFile.FieldType.boolean)).before args0 about1 = true := code_word (m := ⟨11, 3⟩) (meth := k11m3) (c := k11c3) (by decide +kernel) rfl rfl rfl (by decide +kernel)
set_option maxRecDepth 65536 in
theorem w_c28 : (Jvm.Cond.code ({ cls := "com/example/iffley/iffley/model/TermParsePinLaw", name := "iric", desc := "(C)Z" } : Jvm.MethodName) method_6_code (1 : Nat) (Option.some Jvm.ClassFile.FieldType.boolean)).before args0 about1 = true := code_word (m := ⟨1, 5⟩) (meth := k1m5) (c := k1c5) (by decide +kernel) rfl rfl rfl (by decide +kernel)
set_option maxRecDepth 65536 in
theorem w_c29 : (Jvm.Cond.code ({ cls := "com/example/iffley/iffley/model/Term", name := "isIri", desc := "(Ljava/lang/String;)Z" } : Jvm.MethodName) prog_13_method_8_code (3 : Nat) (Option.some Jvm.ClassFile.FieldType.boolean)).before args0 about1 = true := code_word (m := ⟨9, 6⟩) (meth := k9m6) (c := k9c6) (by decide +kernel) rfl rfl rfl (by decide +kernel)
set_option maxRecDepth 65536 in
theorem w_c30 : (Jvm.Cond.code ({ cls := "java/lang/String", name := "indexOf", desc := "(I)I" } : Jvm.MethodName) jdk_42_method_79_code (2 : Nat) (Option.some Jvm.ClassFile.FieldType.int)).before args0 about1 = true := code_word (m := ⟨7, 6⟩) (meth := k7m6) (c := k7c6) (by decide +kernel) rfl rfl rfl (by decide +kernel)
set_option maxRecDepth 65536 in
theorem w_c31 : (Jvm.Cond.code ({ cls := "java/lang/String", name := "indexOf", desc := "(II)I" } : Jvm.MethodName) jdk_42_method_80_code (3 : Nat) (Option.some Jvm.ClassFile.FieldType.int)).before args0 about1 = true := code_word (m := ⟨7, 7⟩) (meth := k7m7) (c := k7c7) (by decide +kernel) rfl rfl rfl (by decide +kernel)
set_option maxRecDepth 65536 in
theorem w_c32 : (Jvm.Cond.code ({ cls := "java/lang/StringLatin1", name := "indexOf", desc := "([BIII)I" } : Jvm.MethodName) jdk_43_method_22_code (4 : Nat) (Option.some Jvm.ClassFile.FieldType.int)).before args0 about1 = true := code_word (m := ⟨11, 4⟩) (meth := k11m4) (c := k11c4) (by decide +kernel) rfl rfl rfl (by decide +kernel)
set_option maxRecDepth 65536 in
theorem w_c33 : (Jvm.Cond.code ({ cls := "java/lang/StringLatin1", name := "canEncode", desc := "(I)Z" } : Jvm.MethodName) jdk_43_method_4_code (1 : Nat) (Option.some Jvm.ClassFile.FieldType.boolean)).before args0 about1 = true := code_word (m := ⟨11, 2⟩) (meth := k11m2) (c := k11c2) (by decide +kernel) rfl rfl rfl (by decide +kernel)
set_option maxRecDepth 65536 in
theorem w_c34 : (Jvm.Cond.code ({ cls := "java/lang/Math", name := "max", desc := "(II)I" } : Jvm.MethodName) jdk_29_method_65_code (2 : Nat) (Option.some Jvm.ClassFile.FieldType.int)).before args0 about1 = true := code_word (m := ⟨13, 1⟩) (meth := k13m1) (c := k13c1) (by decide +kernel) rfl rfl rfl (by decide +kernel)
set_option maxRecDepth 65536 in
theorem w_c35 : (Jvm.Cond.code ({ cls := "java/lang/Math", name := "min", desc := "(II)I" } : Jvm.MethodName) jdk_29_method_69_code (2 : Nat) (Option.some Jvm.ClassFile.FieldType.int)).before args0 about1 = true := code_word (m := ⟨13, 2⟩) (meth := k13m2) (c := k13c2) (by decide +kernel) rfl rfl rfl (by decide +kernel)
set_option maxRecDepth 65536 in
theorem w_c36 : (Jvm.Cond.code ({ cls := "java/lang/StringLatin1", name := "indexOfChar", desc := "([BIII)I" } : Jvm.MethodName) jdk_43_method_23_code (6 : Nat) (Option.some Jvm.ClassFile.FieldType.int)).before args0 about1 = true := code_word (m := ⟨11, 5⟩) (meth := k11m5) (c := k11c5) (by decide +kernel) rfl rfl rfl (by decide +kernel)
set_option maxRecDepth 65536 in
theorem w_c37 : (Jvm.Cond.code ({ cls := "com/example/iffley/iffley/model/TermParsePinLaw", name := "idc", desc := "(C)Z" } : Jvm.MethodName) method_5_code (1 : Nat) (Option.some Jvm.ClassFile.FieldType.boolean)).before args0 about1 = true := code_word (m := ⟨1, 4⟩) (meth := k1m4) (c := k1c4) (by decide +kernel) rfl rfl rfl (by decide +kernel)
def codes1 : List Jvm.Cond := [Jvm.Cond.code x code maxLocals ret, Jvm.Cond.code ({ cls := "com/example/iffley/iffley/model/TermParsePinLaw", name := "pick", desc := "(I)C" } : Jvm.MethodName) method_3_code (2 : Nat) (Option.some Jvm.ClassFile.FieldType.char), Jvm.Cond.code ({ cls := "java/lang/String", name := "<init>", desc := "([C)V" } : Jvm.MethodName) jdk_42_method_3_code (2 : Nat) (Option.none : Option Jvm.ClassFile.FieldType), Jvm.Cond.code ({ cls := "java/lang/String", name := "<init>", desc := "([CIILjava/lang/Void;)V" } : Jvm.MethodName) jdk_42_method_149_code (6 : Nat) (Option.none : Option Jvm.ClassFile.FieldType), Jvm.Cond.code ({ cls := "java/lang/Object", name := "<init>", desc := "()V" } : Jvm.MethodName) object_method_1_code (1 : Nat) (Option.none : Option Jvm.ClassFile.FieldType), Jvm.Cond.code ({ cls := "java/lang/StringUTF16", name := "compress", desc := "([CII)[B" } : Jvm.MethodName) jdk_52_method_16_code (6 : Nat) (Option.some (Jvm.ClassFile.FieldType.array Jvm.ClassFile.FieldType.byte)), Jvm.Cond.code ({ cls := "java/lang/StringUTF16", name := "compress", desc := "([CI[BII)I" } : Jvm.MethodName) jdk_52_method_21_code (7 : Nat) (Option.some Jvm.ClassFile.FieldType.int), Jvm.Cond.code ({ cls := "java/lang/StringUTF16", name := "coderFromArrayLen", desc := "([BI)B" } : Jvm.MethodName) jdk_52_method_15_code (2 : Nat) (Option.some Jvm.ClassFile.FieldType.byte), Jvm.Cond.code ({ cls := "com/example/iffley/iffley/model/TermParsePinLaw", name := "letter", desc := "(C)Z" } : Jvm.MethodName) method_4_code (1 : Nat) (Option.some Jvm.ClassFile.FieldType.boolean), Jvm.Cond.code ({ cls := "com/example/iffley/iffley/model/Term", name := "parse", desc := "(Ljava/lang/String;)Lcom/example/iffley/iffley/model/Term;" } : Jvm.MethodName) prog_13_method_2_code (1 : Nat) (Option.some (Jvm.ClassFile.FieldType.object "com/example/iffley/iffley/model/Term")), Jvm.Cond.code ({ cls := "java/util/Objects", name := "requireNonNull", desc := "(Ljava/lang/Object;Ljava/lang/String;)Ljava/lang/Object;" } : Jvm.MethodName) jdk_31_method_11_code (2 : Nat) (Option.some (Jvm.ClassFile.FieldType.object "java/lang/Object")), Jvm.Cond.code ({ cls := "com/example/iffley/iffley/model/Term", name := "isIdentifier", desc := "(Ljava/lang/String;)Z" } : Jvm.MethodName) prog_13_method_7_code (3 : Nat) (Option.some Jvm.ClassFile.FieldType.boolean), Jvm.Cond.code ({ cls := "java/lang/String", name := "isEmpty", desc := "()Z" } : Jvm.MethodName) jdk_42_method_55_code (1 : Nat) (Option.some Jvm.ClassFile.FieldType.boolean), Jvm.Cond.code ({ cls := "java/lang/String", name := "charAt", desc := "(I)C" } : Jvm.MethodName) jdk_42_method_56_code (2 : Nat) (Option.some Jvm.ClassFile.FieldType.char), Jvm.Cond.code ({ cls := "java/lang/String", name := "isLatin1", desc := "()Z" } : Jvm.MethodName) jdk_42_method_154_code (1 : Nat) (Option.some Jvm.ClassFile.FieldType.boolean), Jvm.Cond.code ({ cls := "java/lang/StringLatin1", name := "charAt", desc := "([BI)C" } : Jvm.MethodName) jdk_43_method_2_code (2 : Nat) (Option.some Jvm.ClassFile.FieldType.char), Jvm.Cond.code ({ cls := "java/lang/String", name := "checkIndex", desc := "(II)V" } : Jvm.MethodName) jdk_42_method_155_code (2 : Nat) (Option.none : Option Jvm.ClassFile.FieldType), Jvm.Cond.code ({ cls := "jdk/internal/util/Preconditions", name := "checkIndex", desc := "(IILjava/util/function/BiFunction;)I" } : Jvm.MethodName) jdk_41_method_11_code (3 : Nat) (Option.some Jvm.ClassFile.FieldType.int), Jvm.Cond.code ({ cls := "com/example/iffley/iffley/model/Term", name := "isAsciiLetter", desc := "(C)Z" } : Jvm.MethodName) prog_13_method_9_code (1 : Nat) (Option.some Jvm.ClassFile.FieldType.boolean), Jvm.Cond.code ({ cls := "com/example/iffley/iffley/model/Term", name := "isAsciiUpperCase", desc := "(C)Z" } : Jvm.MethodName) prog_13_method_10_code (1 : Nat) (Option.some Jvm.ClassFile.FieldType.boolean), Jvm.Cond.code ({ cls := "java/lang/String", name := "length", desc := "()I" } : Jvm.MethodName) jdk_42_method_54_code (1 : Nat) (Option.some Jvm.ClassFile.FieldType.int), Jvm.Cond.code ({ cls := "java/lang/String", name := "coder", desc := "()B" } : Jvm.MethodName) jdk_42_method_152_code (1 : Nat) (Option.some Jvm.ClassFile.FieldType.byte), Jvm.Cond.code ({ cls := "com/example/iffley/iffley/model/Term", name := "<init>", desc := "(Ljava/lang/String;)V" } : Jvm.MethodName) prog_13_method_1_code (2 : Nat) (Option.none : Option Jvm.ClassFile.FieldType), Jvm.Cond.code ({ cls := "com/example/iffley/iffley/model/Term", name := "toString", desc := "()Ljava/lang/String;" } : Jvm.MethodName) prog_13_method_6_code (1 : Nat) (Option.some (Jvm.ClassFile.FieldType.object "java/lang/String")), Jvm.Cond.code ({ cls := "java/lang/String", name := "equals", desc := "(Ljava/lang/Object;)Z" } : Jvm.MethodName) jdk_42_method_66_code (3 : Nat) (Option.some Jvm.ClassFile.FieldType.boolean), Jvm.Cond.code ({ cls := "com/example/iffley/iffley/model/Term", name := "isVariable", desc := "()Z" } : Jvm.MethodName) prog_13_method_3_code (1 : Nat) (Option.some Jvm.ClassFile.FieldType.boolean), Jvm.Cond.code ({ cls := "com/example/iffley/iffley/model/Term", name := "equals", desc := "(Ljava/lang/Object;)Z" } : Jvm.MethodName) prog_13_method_4_code (2 : Nat) (Option.some Jvm.ClassFile.FieldType.boolean), Jvm.Cond.code ({ cls := "java/lang/StringLatin1", name := "equals", desc := "([B[B)Z" } : Jvm.MethodName) jdk_43_method_13_code (3 : Nat) (Option.some Jvm.ClassFile.FieldType.boolean), Jvm.Cond.code ({ cls := "com/example/iffley/iffley/model/TermParsePinLaw", name := "iric", desc := "(C)Z" } : Jvm.MethodName) method_6_code (1 : Nat) (Option.some Jvm.ClassFile.FieldType.boolean), Jvm.Cond.code ({ cls := "com/example/iffley/iffley/model/Term", name := "isIri", desc := "(Ljava/lang/String;)Z" } : Jvm.MethodName) prog_13_method_8_code (3 : Nat) (Option.some Jvm.ClassFile.FieldType.boolean), Jvm.Cond.code ({ cls := "java/lang/String", name := "indexOf", desc := "(I)I" } : Jvm.MethodName) jdk_42_method_79_code (2 : Nat) (Option.some Jvm.ClassFile.FieldType.int), Jvm.Cond.code ({ cls := "java/lang/String", name := "indexOf", desc := "(II)I" } : Jvm.MethodName) jdk_42_method_80_code (3 : Nat) (Option.some Jvm.ClassFile.FieldType.int), Jvm.Cond.code ({ cls := "java/lang/StringLatin1", name := "indexOf", desc := "([BIII)I" } : Jvm.MethodName) jdk_43_method_22_code (4 : Nat) (Option.some Jvm.ClassFile.FieldType.int), Jvm.Cond.code ({ cls := "java/lang/StringLatin1", name := "canEncode", desc := "(I)Z" } : Jvm.MethodName) jdk_43_method_4_code (1 : Nat) (Option.some Jvm.ClassFile.FieldType.boolean), Jvm.Cond.code ({ cls := "java/lang/Math", name := "max", desc := "(II)I" } : Jvm.MethodName) jdk_29_method_65_code (2 : Nat) (Option.some Jvm.ClassFile.FieldType.int), Jvm.Cond.code ({ cls := "java/lang/Math", name := "min", desc := "(II)I" } : Jvm.MethodName) jdk_29_method_69_code (2 : Nat) (Option.some Jvm.ClassFile.FieldType.int), Jvm.Cond.code ({ cls := "java/lang/StringLatin1", name := "indexOfChar", desc := "([BIII)I" } : Jvm.MethodName) jdk_43_method_23_code (6 : Nat) (Option.some Jvm.ClassFile.FieldType.int), Jvm.Cond.code ({ cls := "com/example/iffley/iffley/model/TermParsePinLaw", name := "idc", desc := "(C)Z" } : Jvm.MethodName) method_5_code (1 : Nat) (Option.some Jvm.ClassFile.FieldType.boolean)]
set_option maxRecDepth 65536 in
theorem codes_eq : words1.filter isCode = codes1 := rfl
theorem w_codes : ∀ c ∈ words1.filter isCode, c.before args0 about1 = true := by
  rw [codes_eq]
  intro c hc
  simp only [codes1, List.mem_cons, List.not_mem_nil, or_false] at hc
  rcases hc with rfl | rfl | rfl | rfl | rfl | rfl | rfl | rfl | rfl | rfl | rfl | rfl | rfl | rfl | rfl | rfl | rfl | rfl | rfl | rfl | rfl | rfl | rfl | rfl | rfl | rfl | rfl | rfl | rfl | rfl | rfl | rfl | rfl | rfl | rfl | rfl | rfl | rfl
  · exact w_c0
  · exact w_c1
  · exact w_c2
  · exact w_c3
  · exact w_c4
  · exact w_c5
  · exact w_c6
  · exact w_c7
  · exact w_c8
  · exact w_c9
  · exact w_c10
  · exact w_c11
  · exact w_c12
  · exact w_c13
  · exact w_c14
  · exact w_c15
  · exact w_c16
  · exact w_c17
  · exact w_c18
  · exact w_c19
  · exact w_c20
  · exact w_c21
  · exact w_c22
  · exact w_c23
  · exact w_c24
  · exact w_c25
  · exact w_c26
  · exact w_c27
  · exact w_c28
  · exact w_c29
  · exact w_c30
  · exact w_c31
  · exact w_c32
  · exact w_c33
  · exact w_c34
  · exact w_c35
  · exact w_c36
  · exact w_c37
set_option maxRecDepth 65536 in
theorem w_t1 : (words1.take 24).all (fun c => isCode c || c.before args0 about1) = true := by decide +kernel
set_option maxRecDepth 65536 in
theorem w_t2 : ((words1.drop 24).take 24).all (fun c => isCode c || c.before args0 about1) = true := by decide +kernel
set_option maxRecDepth 65536 in
theorem w_t3 : (((words1.drop 24).drop 24).take 24).all (fun c => isCode c || c.before args0 about1) = true := by decide +kernel
set_option maxRecDepth 65536 in
theorem w_t4 : ((((words1.drop 24).drop 24).drop 24).take 24).all (fun c => isCode c || c.before args0 about1) = true := by decide +kernel
set_option maxRecDepth 65536 in
theorem w_t5 : (((((words1.drop 24).drop 24).drop 24).drop 24).take 24).all (fun c => isCode c || c.before args0 about1) = true := by decide +kernel
set_option maxRecDepth 65536 in
theorem w_t6 : ((((((words1.drop 24).drop 24).drop 24).drop 24).drop 24).take 24).all (fun c => isCode c || c.before args0 about1) = true := by decide +kernel
set_option maxRecDepth 65536 in
theorem w_t7 : ((((((words1.drop 24).drop 24).drop 24).drop 24).drop 24).drop 24).all (fun c => isCode c || c.before args0 about1) = true := by decide +kernel
theorem w_tables : (allAtoms (Jvm.Cond.code x code maxLocals ret :: tables_1)).before args0 about1 = true := by
  rw [allAtoms_all]
  show words1.all (fun c => c.before args0 about1) = true
  refine all_split ?_ w_codes
  rw [← List.take_append_drop 24 words1, List.all_append, w_t1, ← List.take_append_drop 24 (words1.drop 24), List.all_append, w_t2, ← List.take_append_drop 24 ((words1.drop 24).drop 24), List.all_append, w_t3, ← List.take_append_drop 24 (((words1.drop 24).drop 24).drop 24), List.all_append, w_t4, ← List.take_append_drop 24 ((((words1.drop 24).drop 24).drop 24).drop 24), List.all_append, w_t5, ← List.take_append_drop 24 (((((words1.drop 24).drop 24).drop 24).drop 24).drop 24), List.all_append, w_t6, w_t7]
  rfl
set_option maxRecDepth 65536 in
theorem w_rest : rest_1_c.before args0 about1 = true := by decide +kernel
set_option maxRecDepth 65536 in
theorem w_case : (Jvm.Cond.and given_1 narrow_1).before args0 about1 = true := by decide +kernel
set_option maxRecDepth 65536 in
theorem w_consts : constsHeld consts_1 about1 := Jvm.Lit.constsHeldB_iff.mp (by decide +kernel)
theorem w_applies : (headSpec (Jvm.Cond.code x code maxLocals ret :: tables_1) room_1).applies x e0.platform about1 = true :=
  (Spec.applies_iff w_frames).mpr ⟨w_running, w_runnable, w_alone, w_named, w_hears, w_ripe, w_room, w_tables⟩
theorem atStart : AtStart classFile x code maxLocals ret World_1 tables_1 room_1 Calls_1 rest_1 Pre_1 launch0 p0 e0 about1 theMethod args0 below0 :=
  ⟨lists_1, trivial, launch0.admits_env _ _ _, launch0.least_env, fairChoices_fair.cas, fairChoices_fair.clock, w_frames, w_args, w_heap, w_applies, ⟨w_consts, trivial⟩, w_rest, w_case⟩
end start1
theorem witness_1 : WitnessClaimed_1 := ⟨start1.p0, start1.e0, start1.about1, start1.theMethod, start1.args0, start1.below0, start1.atStart⟩
end Jvm.Pilot.@@N@@
