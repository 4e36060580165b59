import JvmDerived
import JvmDerived.Pilot.@@N@@Statement
import JvmDerived.Pilot.@@N@@Code
set_option linter.unusedVariables false
set_option linter.unusedSimpArgs false
namespace Jvm.Pilot.@@N@@
open Jvm Jvm.ClassFile Sem Op Lib Jvm.Free Jvm.Stand Jvm.LawKit Jvm.RoadKit Bundle Jvm.Pilot.@@N@@.Jvm.D
section GoKit
theorem aN {a b : Addr} (h : a = b) : @Eq Nat a b := h
theorem aL {a : Addr} {n : Nat} (h : a < n) : @LT.lt Nat _ a n := h
theorem aM {a : Addr} {n : Nat} (h : n ≤ a) : @LE.le Nat _ n a := h
abbrev ush (x y : Int32) : Int32 := (x.toUInt32 >>> (y &&& 31).toUInt32).toInt32
abbrev ushL (x : Int64) (y : Int32) : Int64 := (x.toUInt64 >>> (y &&& 0x3f).toInt64.toUInt64).toInt64
/-! The walk's own calculus: a run that stands in a method's body, its heap told by two lists of entries (D: cells of its own, which it may write; S: cells that nobody writes), all else hidden. -/
abbrev Ob : Type := (String × List (String × String × String × Value)) ⊕ (FieldType × List Value)
abbrev Ent : Type := Addr × Ob
def KnO (Z : State) (h : Heap) (a : Addr) (C : String) (fs : List (String × String × String × Value)) : Prop :=
  Exa Z h a C ∧ (∀ f ∈ fs, Fld Z h a f.1 f.2.1 f.2.2.1 f.2.2.2) ∧ (fs.map fun f => Jvm.RoadKit.slotOf Z f.1 f.2.1 f.2.2.1).Nodup
/-- the one class whose arrays are read alone (what an array class lies over is not said of them) -/
def nstC : String := "com/example/gyro/gyro/webhook/EventType"
def KnA (Z : State) (h : Heap) (a : Addr) (ty : FieldType) (vs : List Value) : Prop :=
  ∃ c : Cell, Arr Z h a c ty ∧ c.slots = vs.toArray ∧ vs.length < 2147483648 ∧ (∀ v ∈ vs, fits ty v = true) ∧ ∀ C, ty = .object C → C ≠ nstC → Ovr Z c.cls C
def Kn (Z : State) (h : Heap) (x : Ent) : Prop :=
  match x.2 with
  | .inl o => KnO Z h x.1 o.1 o.2
  | .inr o => KnA Z h x.1 o.1 o.2
theorem KnO.keep {Z : State} {h h' : Heap} {a : Addr} {C : String} {fs : List (String × String × String × Value)} {ws : List Addr} (F : KnO Z h a C fs) (K : Keep h h' ws) (q : a ∉ ws) : KnO Z h' a C fs :=
  ⟨F.1.keep K, fun f hf => (F.2.1 f hf).keep K q, F.2.2⟩
theorem KnA.keep {Z : State} {h h' : Heap} {a : Addr} {ty : FieldType} {vs : List Value} {ws : List Addr} (F : KnA Z h a ty vs) (K : Keep h h' ws) (q : a ∉ ws) : KnA Z h' a ty vs := by
  obtain ⟨c, A, r⟩ := F
  exact ⟨c, ⟨K.2.1 a c A.1 q, A.2⟩, r⟩
theorem Kn.keep {Z : State} {h h' : Heap} {x : Ent} {ws : List Addr} (F : Kn Z h x) (K : Keep h h' ws) (q : x.1 ∉ ws) : Kn Z h' x := by
  obtain ⟨a, o | o⟩ := x
  · exact KnO.keep (show KnO Z h a o.1 o.2 from F) K q
  · exact KnA.keep (show KnA Z h a o.1 o.2 from F) K q
theorem Kn.lt {Z : State} {h : Heap} {x : Ent} (F : Kn Z h x) : x.1 < h.size := by
  obtain ⟨a, o | o⟩ := x
  · exact (show KnO Z h a o.1 o.2 from F).1.lt
  · obtain ⟨c, A, -⟩ := (show KnA Z h a o.1 o.2 from F)
    exact A.lt
theorem Kn.ext {Z : State} {h h' : Heap} {x : Ent} (F : Kn Z h x) (E : Ext h h') : Kn Z h' x := F.keep ((Keep.refl h []).ext E) (fun q => nomatch q)
def HH (Z : State) (h : Heap) (D S : List Ent) : Prop :=
  (∀ x ∈ D, Kn Z h x) ∧ (∀ x ∈ S, Kn Z h x) ∧ (D.map Prod.fst).Nodup ∧ ∀ x ∈ S, x.1 ∉ D.map Prod.fst
def In (x : Ent) (D S : List Ent) : Prop := x ∈ D ∨ x ∈ S
theorem inD {x : Ent} {D S : List Ent} {i : Nat} (h : D[i]? = some x) : In x D S := Or.inl (List.mem_of_getElem? h)
theorem inS {x : Ent} {D S : List Ent} {i : Nat} (h : S[i]? = some x) : In x D S := Or.inr (List.mem_of_getElem? h)
theorem HH.at {Z : State} {h : Heap} {D S : List Ent} {x : Ent} (H : HH Z h D S) (q : In x D S) : Kn Z h x := q.elim (H.1 x) (H.2.1 x)
def Inv (Z : State) (a0 : Array Value) (EL : List (String × Nat)) (b : Bool) (n0 : Nat) (W0 : List Addr) (fr : Addr → Prop) (D S : List Ent) (s : State) (vm0 : Vm) (h : Heap) (locs : List Loc) : Prop :=
  (EW Z a0 EL ∧ Z.Warmed39 vm0 ∧ (∃ k0, s.Since vm0 k0 ∧ k0 ≤ h.size) ∧ (b = false → s.WarmedH vm0)) ∧
  (CHr Z EL s.vm s.heap vm0 h ∧ Fr n0 locs ∧ Old Z n0 h ∧ Keep s.heap h W0) ∧
  HH Z h D S ∧
  (∀ x ∈ D, n0 ≤ x.1 ∧ Safe Z EL vm0 h x.1 ∧ ¬ fr x.1 ∧ (x.1 ∈ W0 ∨ s.heap.size ≤ x.1)) ∧ (∀ x ∈ S, ¬ fr x.1) ∧ (∀ y, fr y → n0 ≤ y ∧ Safe Z EL vm0 h y ∧ y < s.heap.size)
def PreC (Z : State) (a0 : Array Value) (EL : List (String × Nat)) (n0 : Nat) (fr : Addr → Prop) (D S : List Ent) (U : State) : Prop :=
  EW Z a0 EL ∧ Z.Warmed39 U.vm ∧ CHv Z EL U.vm U.heap ∧ Old Z n0 U.heap ∧ HH Z U.heap D S ∧ (∀ x ∈ D, n0 ≤ x.1 ∧ Safe Z EL U.vm U.heap x.1 ∧ ¬ fr x.1) ∧ (∀ x ∈ S, ¬ fr x.1) ∧ (∀ y, fr y → n0 ≤ y ∧ Safe Z EL U.vm U.heap y ∧ y < U.heap.size)
def PostC (Z : State) (EL : List (String × Nat)) (b : Bool) (n0 : Nat) (W0 : List Addr) (fr : Addr → Prop) (Q : Option Value → List Ent → List Ent → Prop) (U U' : State) (v : Option Value) (L : List Loc) : Prop :=
  ∃ D' S', Q v D' S' ∧ HH Z U'.heap D' S' ∧ (∀ x ∈ D', n0 ≤ x.1 ∧ Safe Z EL U'.vm U'.heap x.1 ∧ ¬ fr x.1 ∧ (x.1 ∈ W0 ∨ U.heap.size ≤ x.1)) ∧ (∀ x ∈ S', ¬ fr x.1) ∧
    Keep U.heap U'.heap W0 ∧ Fr n0 L ∧ Old Z n0 U'.heap ∧ CHr Z EL U.vm U.heap U'.vm U'.heap ∧ (b = false → U.WarmedH U'.vm)
def Met (l : Launch) (Z : State) (a0 : Array Value) (EL : List (String × Nat)) (b : Bool) (n0 : Nat) (y : MethodName) (bytes : ByteArray) (maxL : Nat) (ret : Option FieldType) (ws : List Jvm.Cond) (rm : Room) (as' : List Value) (D S : List Ent) (Q : Option Value → List Ent → List Ent → Prop) : Prop :=
  ∀ fr : Addr → Prop, MetFree l y (head1 (Jvm.Cond.code y bytes maxL ret :: ws) rm) (fun a U => a = as'.toArray ∧ PreC Z a0 EL n0 fr D S U) (fun _ _ _ _ _ => True)
    (fun _ U o U' => ∃ v L, o = .returned v ∧ PostC Z EL b n0 (D.map Prod.fst) fr Q U U' v L ∧ ReturnedEndW U o U' L rm.cells rm.slots)
def Sst (own : String) (code : ByteArray) (maxL : Nat) (ret : Option FieldType) (nm : String) (p : Program) (m : MethodId) (meth : Method) (c : Code) (vm0 : Vm) : Prop :=
  p.tables.exec = Jvm.exec ∧ c.code = code ∧ c.maxLocals = maxL ∧ meth.sig.returnType = ret ∧ meth.name = nm ∧ meth.locks = false ∧ vm0.findClass own = some m.cls
def Go (l : Launch) (Z : State) (a0 : Array Value) (EL : List (String × Nat)) (b : Bool) (n0 : Nat) (own : String) (code : ByteArray) (maxL : Nat) (ret : Option FieldType) (nm : String) (R : Room) (W0 : List Addr) (Q : Option Value → List Ent → List Ent → Prop)
    (D S : List Ent) (cells slots pc : Nat) (Ls : Array Slot) (st : List Value) : Prop :=
  ∀ (fr : Addr → Prop) (p : Program) (e : Env) (s : State) (m : MethodId) (args : Array Value) (below : List Frame) (meth : Method) (c : Code) (vm0 : Vm) (T : State) (locs : List Loc),
    Sst own code maxL ret nm p m meth c vm0 → Stand p l e R (s.setVm vm0) m args below meth c T locs cells slots → Inv Z a0 EL b n0 W0 fr D S s vm0 T.heap locs →
    ∃ (t : State) (v : Option Value), Steps p.tables e below (T.setTop (mkF m pc Ls st)) t ∧ t.status = .running ∧ Ended t below (.returned v) ∧ ∃ L, PostC Z EL b n0 W0 fr Q s t v L ∧ ReturnedEndW s (.returned v) t L R.cells R.slots
def Dx (code : ByteArray) (pc : Nat) (i : Instr) (n pc' : Nat) : Prop := decode code pc = .ok (i, n) ∧ pc + n = pc'
variable {l : Launch} {Z : State} {a0 : Array Value} {EL : List (String × Nat)} {b : Bool} {n0 : Nat} {own : String} {code : ByteArray} {maxL : Nat} {ret : Option FieldType} {nm : String} {R : Room} {W0 : List Addr} {Q : Option Value → List Ent → List Ent → Prop}
  {D D' S S' : List Ent} {cells slots pc pc' : Nat} {Ls Ls' : Array Slot} {st st' rest : List Value}
theorem Met.of_go {y : MethodName} {bytes : ByteArray} {ws : List Jvm.Cond} {rm : Room} {as' : List Value} (hpf : plainFor y = true) (hL : ∀ m, entryFrame m as'.toArray maxL = mkF m 0 Ls [])
    (G : Go l Z a0 EL b n0 own bytes maxL ret nm rm (D.map Prod.fst) Q D S 0 0 0 Ls []) (ho : y.cls = own := by rfl) (hn : y.name = nm := by rfl) : Met l Z a0 EL b n0 y bytes maxL ret ws rm as' D S Q := by
  subst ho hn
  intro fr
  refine MetFree.of_bodySF hpf hisR ?_
  intro p e s m args below meth c s₁ Bd hml hP hK
  obtain ⟨rfl, q1, q2, q3, q4, q5, q6, q7, q8⟩ := hP
  have X0 : Stand p l e rm s m as'.toArray below meth c s₁ [] 0 0 := Stand.of_body Bd
  have e0 : s₁.heap = s.heap := by rw [Bd.state]; rfl
  obtain ⟨t, v, st, h1, h2, L, hp, hr⟩ := G fr p e s m _ below meth c s.vm s₁ [] ⟨Bd.exec, Bd.bytes, hml, Bd.returns, (name_of_methodNamed Bd.named Bd.method).1, Bd.notSynchronized, findClass_of_methodNamed Bd.named⟩ X0
    (by
      rw [e0]
      exact ⟨⟨q1, q2, ⟨s.heap.size, (State.WarmedH.refl s).since _, Nat.le_refl _⟩, fun _ => State.WarmedH.refl s⟩, ⟨CHr.refl q3, Fr.nil _, q4, Keep.refl _ _⟩, q5, fun x hx => ⟨(q6 x hx).1, (q6 x hx).2.1, (q6 x hx).2.2, Or.inl (List.mem_map.mpr ⟨x, hx, rfl⟩)⟩, q7, q8⟩)
  exact ⟨t, _, castTop (hL m) st, h1, h2, v, L, rfl, hp, hr⟩
/-- a step that leaves the heap as it is -/
theorem Go.same (H : ∀ {p : Program} {e : Env} {s : State} {m : MethodId} {args : Array Value} {below : List Frame} {meth : Method} {c : Code} {vm0 : Vm} {T : State} {locs : List Loc}, Sst own code maxL ret nm p m meth c vm0 → Stand p l e R (s.setVm vm0) m args below meth c T locs cells slots → Z.Warmed39 (s.setVm vm0).vm → Old Z n0 T.heap → HH Z T.heap D S →
      ∃ T', Stand p l e R (s.setVm vm0) m args below meth c T' locs cells slots ∧ T'.heap = T.heap ∧ ∀ t, Steps p.tables e below (T'.setTop (mkF m pc' Ls' st')) t → Steps p.tables e below (T.setTop (mkF m pc Ls st)) t)
    (G : Go l Z a0 EL b n0 own code maxL ret nm R W0 Q D S cells slots pc' Ls' st') : Go l Z a0 EL b n0 own code maxL ret nm R W0 Q D S cells slots pc Ls st := by
  intro fr p e s m args below meth c vm0 T locs hs X I
  obtain ⟨T', X', e', k⟩ := H hs X I.1.2.1 I.2.1.2.2.1 I.2.2.1
  obtain ⟨t, v, k', r⟩ := G fr p e s m args below meth c vm0 T' locs hs X' (by rw [e']; exact I)
  exact ⟨t, v, k t k', r⟩
/-- a step that reads frames alone -/
theorem Go.plain (H : ∀ {p : Program} {e : Env} {m : MethodId} {c : Code} {below : List Frame} {T : State}, p.tables.exec = Jvm.exec → c.code = code → At T m c below → ∀ t, Steps p.tables e below (T.setTop (mkF m pc' Ls' st')) t → Steps p.tables e below (T.setTop (mkF m pc Ls st)) t)
    (G : Go l Z a0 EL b n0 own code maxL ret nm R W0 Q D S cells slots pc' Ls' st') : Go l Z a0 EL b n0 own code maxL ret nm R W0 Q D S cells slots pc Ls st :=
  Go.same (fun hs X _ _ _ => ⟨_, X, rfl, H hs.1 hs.2.1 X.here⟩) G
theorem Go.more {cells' slots' : Nat} (hc : cells ≤ cells') (hs : slots ≤ slots') (G : Go l Z a0 EL b n0 own code maxL ret nm R W0 Q D S cells' slots' pc Ls st) : Go l Z a0 EL b n0 own code maxL ret nm R W0 Q D S cells slots pc Ls st := by
  intro fr p e s m args below meth c vm0 T locs h X I
  exact G fr p e s m args below meth c vm0 T locs h (X.mono hc hs) I
/-- less is known -/
theorem HH.sub {h : Heap} (H : HH Z h D S) (h1 : ∀ x ∈ D', x ∈ D) (h2 : (D'.map Prod.fst).Nodup) (h3 : ∀ x ∈ S', x ∈ S ∨ (x ∈ D ∧ x.1 ∉ D'.map Prod.fst)) : HH Z h D' S' := by
  refine ⟨fun x hx => H.1 x (h1 x hx), fun x hx => ?_, h2, fun x hx q => ?_⟩
  · rcases h3 x hx with q | ⟨q, -⟩
    · exact H.2.1 x q
    · exact H.1 x q
  · rcases h3 x hx with r | ⟨-, r⟩
    · obtain ⟨y, hy, e⟩ := List.mem_map.mp q
      exact H.2.2.2 x r (List.mem_map.mpr ⟨y, h1 y hy, e⟩)
    · exact r q
theorem nodup_pick {α : Type} (dv : α) {L : List α} (hn : L.Nodup) {idx : List Nat} (h1 : idx.Nodup) (h2 : ∀ i ∈ idx, i < L.length) : (idx.map fun i => L.getD i dv).Nodup := by
  induction idx with
  | nil => simp
  | cons i r ih =>
    rw [List.map_cons, List.nodup_cons]
    rw [List.nodup_cons] at h1
    refine ⟨fun q => ?_, ih h1.2 fun j hj => h2 j (List.mem_cons_of_mem _ hj)⟩
    obtain ⟨j, hj, e⟩ := List.mem_map.mp q
    have hi := h2 i (List.mem_cons_self ..)
    have hj' := h2 j (List.mem_cons_of_mem _ hj)
    have : j = i := by
      refine (List.getElem?_inj hj' hn).mp ?_
      rw [List.getElem?_eq_getElem hj', List.getElem?_eq_getElem hi]
      simpa [List.getD, List.getElem?_eq_getElem hj', List.getElem?_eq_getElem hi] using e
    exact h1.1 (this ▸ hj)
def dE : Ent := (0, .inr (.int, []))
def pick (D : List Ent) (idx : List Nat) : List Ent := idx.map fun i => D.getD i dE
theorem pick_mem {D : List Ent} {idx : List Nat} (h2 : ∀ i ∈ idx, i < D.length) : ∀ x ∈ pick D idx, x ∈ D := fun x hx => by
  obtain ⟨i, hi, rfl⟩ := List.mem_map.mp hx
  have := h2 i hi
  simp [List.getD, List.getElem?_eq_getElem this]
theorem pick_nodup {D : List Ent} (hn : (D.map Prod.fst).Nodup) {idx : List Nat} (h1 : idx.Nodup) (h2 : ∀ i ∈ idx, i < D.length) : ((pick D idx).map Prod.fst).Nodup := by
  have e : (pick D idx).map Prod.fst = idx.map fun i => (D.map Prod.fst).getD i 0 := by
    rw [pick, List.map_map]
    refine List.map_congr_left fun i hi => ?_
    have := h2 i hi
    simp [List.getD, List.getElem?_eq_getElem this]
  rw [e]
  exact nodup_pick 0 hn h1 (by simpa using h2)
/-- forget, order anew, freeze -/
theorem Go.sub (idx : List Nat) (h1 : idx.Nodup) (h2' : (idx.all fun i => Nat.blt i D.length) = true) (hD : D' = pick D idx) (h3 : ∀ x ∈ S', x ∈ S ∨ (x ∈ D ∧ x.1 ∉ D'.map Prod.fst))
    (G : Go l Z a0 EL b n0 own code maxL ret nm R W0 Q D' S' cells slots pc Ls st) : Go l Z a0 EL b n0 own code maxL ret nm R W0 Q D S cells slots pc Ls st := by
  have h2 : ∀ i ∈ idx, i < D.length := fun i hi => Nat.blt_eq.mp (List.all_eq_true.mp h2' i hi)
  intro fr p e s m args below meth c vm0 T locs h X I
  obtain ⟨i1, i2, i3, i4, i5, i6⟩ := I
  have hm : ∀ x ∈ D', x ∈ D := by rw [hD]; exact pick_mem h2
  refine G fr p e s m args below meth c vm0 T locs h X ⟨i1, i2, i3.sub hm (by rw [hD]; exact pick_nodup i3.2.2.1 h1 h2) h3, fun x hx => i4 x (hm x hx), fun x hx => ?_, i6⟩
  rcases h3 x hx with q | ⟨q, -⟩
  · exact i5 x q
  · exact (i4 x q).2.2.1
/-- forget and order anew, D alone -/
theorem Go.perm (idx : List Nat) (h1 : idx.Nodup) (h2 : (idx.all fun i => Nat.blt i D.length) = true) (hD : D' = pick D idx)
    (G : Go l Z a0 EL b n0 own code maxL ret nm R W0 Q D' S cells slots pc Ls st) : Go l Z a0 EL b n0 own code maxL ret nm R W0 Q D S cells slots pc Ls st :=
  Go.sub idx h1 h2 hD (fun x hx => Or.inl hx) G
/-- two own cells are two -/
theorem Go.ne (i j : Nat) {x y : Ent} (hi : D[i]? = some x) (hj : D[j]? = some y) (hij : i ≠ j) (G : x.1 ≠ y.1 → Go l Z a0 EL b n0 own code maxL ret nm R W0 Q D S cells slots pc Ls st) : Go l Z a0 EL b n0 own code maxL ret nm R W0 Q D S cells slots pc Ls st := by
  intro fr p e s m args below meth c vm0 T locs h X I
  refine G (fun q => hij ?_) fr p e s m args below meth c vm0 T locs h X I
  have hn := I.2.2.1.2.2.1
  have li : i < (D.map Prod.fst).length := by simpa using (List.getElem?_eq_some_iff.mp hi).1
  refine (List.getElem?_inj li hn).mp ?_
  simp [hi, hj, q]
/-- an own cell and a frozen one are two -/
theorem Go.neS {x y : Ent} (hi : x ∈ D) (hj : y ∈ S) (G : x.1 ≠ y.1 → Go l Z a0 EL b n0 own code maxL ret nm R W0 Q D S cells slots pc Ls st) : Go l Z a0 EL b n0 own code maxL ret nm R W0 Q D S cells slots pc Ls st := by
  intro fr p e s m args below meth c vm0 T locs h X I
  exact G (fun q => I.2.2.1.2.2.2 y hj (List.mem_map.mpr ⟨x, hi, q⟩)) fr p e s m args below meth c vm0 T locs h X I
/-- a cell of the start's heap, taken up as frozen -/
theorem Go.old {x : Ent} (F : Kn Z Z.heap x) (G : Go l Z a0 EL b n0 own code maxL ret nm R W0 Q D (x :: S) cells slots pc Ls st) : Go l Z a0 EL b n0 own code maxL ret nm R W0 Q D S cells slots pc Ls st := by
  intro fr p e s m args below meth c vm0 T locs h X I
  obtain ⟨i1, i2, i3, i4, i5, i6⟩ := I
  have hO := i2.2.2.1
  have hlt : x.1 < n0 := hO.1 ▸ F.lt
  refine G fr p e s m args below meth c vm0 T locs h X ⟨i1, i2, ⟨i3.1, fun y hy => ?_, i3.2.2.1, fun y hy => ?_⟩, i4, fun y hy => ?_, i6⟩
  · rcases List.mem_cons.mp hy with rfl | hy
    · exact F.ext hO.2
    · exact i3.2.1 y hy
  · rcases List.mem_cons.mp hy with rfl | hy
    · intro q
      obtain ⟨z, hz, e⟩ := List.mem_map.mp q
      exact absurd (Nat.lt_of_lt_of_le hlt (i4 z hz).1) (by rw [e]; exact Nat.lt_irrefl _)
    · exact i3.2.2.2 y hy
  · rcases List.mem_cons.mp hy with rfl | hy
    · intro q
      exact absurd (Nat.lt_of_lt_of_le hlt (i6 _ q).1) (Nat.lt_irrefl _)
    · exact i5 y hy
/-! the plain steps -/
theorem Go.aloadN {k : Fin 4} {v : Value} (hd : Dx code pc (.aload_n k) 1 pc') (hl : Ls[k.val]? = some (.val v)) (hv : v.isRef = true := by rfl) (G : Go l Z a0 EL b n0 own code maxL ret nm R W0 Q D S cells slots pc' Ls (v :: st)) : Go l Z a0 EL b n0 own code maxL ret nm R W0 Q D S cells slots pc Ls (st) := by
  obtain ⟨h1, rfl⟩ := hd
  exact Go.plain (fun hx hc h t k => XS.aloadN h hx rfl (hb hc h1) hl hv k) G
theorem Go.aload {k : Nat} {v : Value} (hd : Dx code pc (.aload k) 2 pc') (hl : Ls[k]? = some (.val v)) (hv : v.isRef = true := by rfl) (G : Go l Z a0 EL b n0 own code maxL ret nm R W0 Q D S cells slots pc' Ls (v :: st)) : Go l Z a0 EL b n0 own code maxL ret nm R W0 Q D S cells slots pc Ls (st) := by
  obtain ⟨h1, rfl⟩ := hd
  exact Go.plain (fun hx hc h t k => XS.aload h hx rfl (hb hc h1) hl hv k) G
theorem Go.iloadN {k : Fin 4} {v : Int32} (hd : Dx code pc (.iload_n k) 1 pc') (hl : Ls[k.val]? = some (.val (.int v))) (G : Go l Z a0 EL b n0 own code maxL ret nm R W0 Q D S cells slots pc' Ls (.int v :: st)) : Go l Z a0 EL b n0 own code maxL ret nm R W0 Q D S cells slots pc Ls (st) := by
  obtain ⟨h1, rfl⟩ := hd
  exact Go.plain (fun hx hc h t k => XS.iloadN h hx rfl (hb hc h1) hl k) G
theorem Go.iload {k : Nat} {v : Int32} (hd : Dx code pc (.iload k) 2 pc') (hl : Ls[k]? = some (.val (.int v))) (G : Go l Z a0 EL b n0 own code maxL ret nm R W0 Q D S cells slots pc' Ls (.int v :: st)) : Go l Z a0 EL b n0 own code maxL ret nm R W0 Q D S cells slots pc Ls (st) := by
  obtain ⟨h1, rfl⟩ := hd
  exact Go.plain (fun hx hc h t k => XS.iload h hx rfl (hb hc h1) hl k) G
theorem Go.lloadN {k : Fin 4} {v : Int64} (hd : Dx code pc (.lload_n k) 1 pc') (hl : Ls[k.val]? = some (.val (.long v))) (G : Go l Z a0 EL b n0 own code maxL ret nm R W0 Q D S cells slots pc' Ls (.long v :: st)) : Go l Z a0 EL b n0 own code maxL ret nm R W0 Q D S cells slots pc Ls (st) := by
  obtain ⟨h1, rfl⟩ := hd
  exact Go.plain (fun hx hc h t k => XS.lloadN h hx rfl (hb hc h1) hl k) G
theorem Go.lload {k : Nat} {v : Int64} (hd : Dx code pc (.lload k) 2 pc') (hl : Ls[k]? = some (.val (.long v))) (G : Go l Z a0 EL b n0 own code maxL ret nm R W0 Q D S cells slots pc' Ls (.long v :: st)) : Go l Z a0 EL b n0 own code maxL ret nm R W0 Q D S cells slots pc Ls (st) := by
  obtain ⟨h1, rfl⟩ := hd
  exact Go.plain (fun hx hc h t k => XS.lload h hx rfl (hb hc h1) hl k) G
theorem Go.iconst {i : Int} {v : Int32} (hd : Dx code pc (.iconst i) 1 pc') (hv : Int32.ofInt i = v) (G : Go l Z a0 EL b n0 own code maxL ret nm R W0 Q D S cells slots pc' Ls (.int v :: st)) : Go l Z a0 EL b n0 own code maxL ret nm R W0 Q D S cells slots pc Ls (st) := by
  obtain ⟨h1, rfl⟩ := hd
  exact Go.plain (fun hx hc h t k => XS.iconst h hx rfl (hb hc h1) (by rw [hv]; exact k)) G
theorem Go.bipush {i : Int} {v : Int32} (hd : Dx code pc (.bipush i) 2 pc') (hv : (Int8.ofInt i).toInt32 = v) (G : Go l Z a0 EL b n0 own code maxL ret nm R W0 Q D S cells slots pc' Ls (.int v :: st)) : Go l Z a0 EL b n0 own code maxL ret nm R W0 Q D S cells slots pc Ls (st) := by
  obtain ⟨h1, rfl⟩ := hd
  exact Go.plain (fun hx hc h t k => XS.bipush h hx rfl (hb hc h1) (by rw [hv]; exact k)) G
theorem Go.sipush {i : Int} {v : Int32} (hd : Dx code pc (.sipush i) 3 pc') (hv : (Int16.ofInt i).toInt32 = v) (G : Go l Z a0 EL b n0 own code maxL ret nm R W0 Q D S cells slots pc' Ls (.int v :: st)) : Go l Z a0 EL b n0 own code maxL ret nm R W0 Q D S cells slots pc Ls (st) := by
  obtain ⟨h1, rfl⟩ := hd
  exact Go.plain (fun hx hc h t k => XT.sipushV h hx rfl v (hb hc h1) hv k) G
theorem Go.lconst {i : Fin 2} {v : Int64} (hd : Dx code pc (.lconst i) 1 pc') (hv : Int64.ofNat i = v) (G : Go l Z a0 EL b n0 own code maxL ret nm R W0 Q D S cells slots pc' Ls (.long v :: st)) : Go l Z a0 EL b n0 own code maxL ret nm R W0 Q D S cells slots pc Ls (st) := by
  obtain ⟨h1, rfl⟩ := hd
  exact Go.plain (fun hx hc h t k => XT.lconstV h hx rfl v (hb hc h1) hv k) G
theorem Go.aconstNull (hd : Dx code pc (.aconst_null) 1 pc') (G : Go l Z a0 EL b n0 own code maxL ret nm R W0 Q D S cells slots pc' Ls (.null :: st)) : Go l Z a0 EL b n0 own code maxL ret nm R W0 Q D S cells slots pc Ls (st) := by
  obtain ⟨h1, rfl⟩ := hd
  exact Go.plain (fun hx hc h t k => XS.aconstNull h hx rfl (hb hc h1) k) G
theorem Go.istoreN {k : Fin 4} {x : Int32} (hd : Dx code pc (.istore_n k) 1 pc') (hl : storeLocals Ls k.val (.int x) = some Ls') (G : Go l Z a0 EL b n0 own code maxL ret nm R W0 Q D S cells slots pc' Ls' (rest)) : Go l Z a0 EL b n0 own code maxL ret nm R W0 Q D S cells slots pc Ls (.int x :: rest) := by
  obtain ⟨h1, rfl⟩ := hd
  exact Go.plain (fun hx hc h t k => XS.istoreN h hx rfl (hb hc h1) rfl hl k) G
theorem Go.istore {k : Nat} {x : Int32} (hd : Dx code pc (.istore k) 2 pc') (hl : storeLocals Ls k (.int x) = some Ls') (G : Go l Z a0 EL b n0 own code maxL ret nm R W0 Q D S cells slots pc' Ls' (rest)) : Go l Z a0 EL b n0 own code maxL ret nm R W0 Q D S cells slots pc Ls (.int x :: rest) := by
  obtain ⟨h1, rfl⟩ := hd
  exact Go.plain (fun hx hc h t k => XS.istore h hx rfl (hb hc h1) rfl hl k) G
theorem Go.lstoreN {k : Fin 4} {x : Int64} (hd : Dx code pc (.lstore_n k) 1 pc') (hl : storeLocals Ls k.val (.long x) = some Ls') (G : Go l Z a0 EL b n0 own code maxL ret nm R W0 Q D S cells slots pc' Ls' (rest)) : Go l Z a0 EL b n0 own code maxL ret nm R W0 Q D S cells slots pc Ls (.long x :: rest) := by
  obtain ⟨h1, rfl⟩ := hd
  exact Go.plain (fun hx hc h t k => XS.lstoreN h hx rfl (hb hc h1) rfl hl k) G
theorem Go.lstore {k : Nat} {x : Int64} (hd : Dx code pc (.lstore k) 2 pc') (hl : storeLocals Ls k (.long x) = some Ls') (G : Go l Z a0 EL b n0 own code maxL ret nm R W0 Q D S cells slots pc' Ls' (rest)) : Go l Z a0 EL b n0 own code maxL ret nm R W0 Q D S cells slots pc Ls (.long x :: rest) := by
  obtain ⟨h1, rfl⟩ := hd
  exact Go.plain (fun hx hc h t k => XS.lstore h hx rfl (hb hc h1) rfl hl k) G
theorem Go.astoreN {k : Fin 4} {x : Value} (hd : Dx code pc (.astore_n k) 1 pc') (hl : storeLocals Ls k.val x = some Ls') (hv : x.isRef = true := by rfl) (G : Go l Z a0 EL b n0 own code maxL ret nm R W0 Q D S cells slots pc' Ls' (rest)) : Go l Z a0 EL b n0 own code maxL ret nm R W0 Q D S cells slots pc Ls (x :: rest) := by
  obtain ⟨h1, rfl⟩ := hd
  exact Go.plain (fun hx hc h t k => XS.astoreN h hx rfl (hb hc h1) rfl hv hl k) G
theorem Go.astore {k : Nat} {x : Value} (hd : Dx code pc (.astore k) 2 pc') (hl : storeLocals Ls k x = some Ls') (hv : x.isRef = true := by rfl) (G : Go l Z a0 EL b n0 own code maxL ret nm R W0 Q D S cells slots pc' Ls' (rest)) : Go l Z a0 EL b n0 own code maxL ret nm R W0 Q D S cells slots pc Ls (x :: rest) := by
  obtain ⟨h1, rfl⟩ := hd
  exact Go.plain (fun hx hc h t k => XS.astore h hx rfl (hb hc h1) rfl hv hl k) G
theorem Go.iinc {i : Nat} {cst : Int} {x v z : Int32} (hd : Dx code pc (.iinc i cst) 3 pc') (hl : Ls[i]? = some (.val (.int x))) (hv : Int32.ofInt cst = v) (hz : x + v = z) (hl' : storeLocals Ls i (.int z) = some Ls') (G : Go l Z a0 EL b n0 own code maxL ret nm R W0 Q D S cells slots pc' Ls' (st)) : Go l Z a0 EL b n0 own code maxL ret nm R W0 Q D S cells slots pc Ls (st) := by
  obtain ⟨h1, rfl⟩ := hd
  subst hz
  exact Go.plain (fun hx hc h t k => XT.iincV h hx rfl v (hb hc h1) hv hl hl' k) G
theorem Go.iadd {x y z : Int32} (hd : Dx code pc (.iadd) 1 pc') (hz : x + y = z) (G : Go l Z a0 EL b n0 own code maxL ret nm R W0 Q D S cells slots pc' Ls (.int z :: rest)) : Go l Z a0 EL b n0 own code maxL ret nm R W0 Q D S cells slots pc Ls (.int y :: .int x :: rest) := by
  obtain ⟨h1, rfl⟩ := hd
  subst hz
  exact Go.plain (fun hx hc h t k => XS.iadd h hx rfl (hb hc h1) rfl k) G
theorem Go.isub {x y z : Int32} (hd : Dx code pc (.isub) 1 pc') (hz : x - y = z) (G : Go l Z a0 EL b n0 own code maxL ret nm R W0 Q D S cells slots pc' Ls (.int z :: rest)) : Go l Z a0 EL b n0 own code maxL ret nm R W0 Q D S cells slots pc Ls (.int y :: .int x :: rest) := by
  obtain ⟨h1, rfl⟩ := hd
  subst hz
  exact Go.plain (fun hx hc h t k => XS.isub h hx rfl (hb hc h1) rfl k) G
theorem Go.imul {x y z : Int32} (hd : Dx code pc (.imul) 1 pc') (hz : x * y = z) (G : Go l Z a0 EL b n0 own code maxL ret nm R W0 Q D S cells slots pc' Ls (.int z :: rest)) : Go l Z a0 EL b n0 own code maxL ret nm R W0 Q D S cells slots pc Ls (.int y :: .int x :: rest) := by
  obtain ⟨h1, rfl⟩ := hd
  subst hz
  exact Go.plain (fun hx hc h t k => XS.imul h hx rfl (hb hc h1) rfl k) G
theorem Go.iand {x y z : Int32} (hd : Dx code pc (.iand) 1 pc') (hz : x &&& y = z) (G : Go l Z a0 EL b n0 own code maxL ret nm R W0 Q D S cells slots pc' Ls (.int z :: rest)) : Go l Z a0 EL b n0 own code maxL ret nm R W0 Q D S cells slots pc Ls (.int y :: .int x :: rest) := by
  obtain ⟨h1, rfl⟩ := hd
  subst hz
  exact Go.plain (fun hx hc h t k => XS.iand h hx rfl (hb hc h1) rfl k) G
theorem Go.ior {x y z : Int32} (hd : Dx code pc (.ior) 1 pc') (hz : x ||| y = z) (G : Go l Z a0 EL b n0 own code maxL ret nm R W0 Q D S cells slots pc' Ls (.int z :: rest)) : Go l Z a0 EL b n0 own code maxL ret nm R W0 Q D S cells slots pc Ls (.int y :: .int x :: rest) := by
  obtain ⟨h1, rfl⟩ := hd
  subst hz
  exact Go.plain (fun hx hc h t k => XS.ior h hx rfl (hb hc h1) rfl k) G
theorem Go.ixor {x y z : Int32} (hd : Dx code pc (.ixor) 1 pc') (hz : x ^^^ y = z) (G : Go l Z a0 EL b n0 own code maxL ret nm R W0 Q D S cells slots pc' Ls (.int z :: rest)) : Go l Z a0 EL b n0 own code maxL ret nm R W0 Q D S cells slots pc Ls (.int y :: .int x :: rest) := by
  obtain ⟨h1, rfl⟩ := hd
  subst hz
  exact Go.plain (fun hx hc h t k => XS.ixor h hx rfl (hb hc h1) rfl k) G
theorem Go.ishl {x y z : Int32} (hd : Dx code pc (.ishl) 1 pc') (hz : x <<< (y &&& 31) = z) (G : Go l Z a0 EL b n0 own code maxL ret nm R W0 Q D S cells slots pc' Ls (.int z :: rest)) : Go l Z a0 EL b n0 own code maxL ret nm R W0 Q D S cells slots pc Ls (.int y :: .int x :: rest) := by
  obtain ⟨h1, rfl⟩ := hd
  subst hz
  exact Go.plain (fun hx hc h t k => XS.ishl h hx rfl (hb hc h1) rfl k) G
theorem Go.ishr {x y z : Int32} (hd : Dx code pc (.ishr) 1 pc') (hz : x >>> (y &&& 31) = z) (G : Go l Z a0 EL b n0 own code maxL ret nm R W0 Q D S cells slots pc' Ls (.int z :: rest)) : Go l Z a0 EL b n0 own code maxL ret nm R W0 Q D S cells slots pc Ls (.int y :: .int x :: rest) := by
  obtain ⟨h1, rfl⟩ := hd
  subst hz
  exact Go.plain (fun hx hc h t k => XS.ishr h hx rfl (hb hc h1) rfl k) G
theorem Go.iushr {x y z : Int32} (hd : Dx code pc (.iushr) 1 pc') (hz : ush x y = z) (G : Go l Z a0 EL b n0 own code maxL ret nm R W0 Q D S cells slots pc' Ls (.int z :: rest)) : Go l Z a0 EL b n0 own code maxL ret nm R W0 Q D S cells slots pc Ls (.int y :: .int x :: rest) := by
  obtain ⟨h1, rfl⟩ := hd
  subst hz
  exact Go.plain (fun hx hc h t k => XS.iushr h hx rfl (hb hc h1) rfl k) G
theorem Go.ladd {x y z : Int64} (hd : Dx code pc (.ladd) 1 pc') (hz : x + y = z) (G : Go l Z a0 EL b n0 own code maxL ret nm R W0 Q D S cells slots pc' Ls (.long z :: rest)) : Go l Z a0 EL b n0 own code maxL ret nm R W0 Q D S cells slots pc Ls (.long y :: .long x :: rest) := by
  obtain ⟨h1, rfl⟩ := hd
  subst hz
  exact Go.plain (fun hx hc h t k => XS.ladd h hx rfl (hb hc h1) rfl k) G
theorem Go.lsub {x y z : Int64} (hd : Dx code pc (.lsub) 1 pc') (hz : x - y = z) (G : Go l Z a0 EL b n0 own code maxL ret nm R W0 Q D S cells slots pc' Ls (.long z :: rest)) : Go l Z a0 EL b n0 own code maxL ret nm R W0 Q D S cells slots pc Ls (.long y :: .long x :: rest) := by
  obtain ⟨h1, rfl⟩ := hd
  subst hz
  exact Go.plain (fun hx hc h t k => XS.lsub h hx rfl (hb hc h1) rfl k) G
theorem Go.lmul {x y z : Int64} (hd : Dx code pc (.lmul) 1 pc') (hz : x * y = z) (G : Go l Z a0 EL b n0 own code maxL ret nm R W0 Q D S cells slots pc' Ls (.long z :: rest)) : Go l Z a0 EL b n0 own code maxL ret nm R W0 Q D S cells slots pc Ls (.long y :: .long x :: rest) := by
  obtain ⟨h1, rfl⟩ := hd
  subst hz
  exact Go.plain (fun hx hc h t k => XS.lmul h hx rfl (hb hc h1) rfl k) G
theorem Go.land {x y z : Int64} (hd : Dx code pc (.land) 1 pc') (hz : x &&& y = z) (G : Go l Z a0 EL b n0 own code maxL ret nm R W0 Q D S cells slots pc' Ls (.long z :: rest)) : Go l Z a0 EL b n0 own code maxL ret nm R W0 Q D S cells slots pc Ls (.long y :: .long x :: rest) := by
  obtain ⟨h1, rfl⟩ := hd
  subst hz
  exact Go.plain (fun hx hc h t k => XS.land h hx rfl (hb hc h1) rfl k) G
theorem Go.lor {x y z : Int64} (hd : Dx code pc (.lor) 1 pc') (hz : x ||| y = z) (G : Go l Z a0 EL b n0 own code maxL ret nm R W0 Q D S cells slots pc' Ls (.long z :: rest)) : Go l Z a0 EL b n0 own code maxL ret nm R W0 Q D S cells slots pc Ls (.long y :: .long x :: rest) := by
  obtain ⟨h1, rfl⟩ := hd
  subst hz
  exact Go.plain (fun hx hc h t k => XS.lor h hx rfl (hb hc h1) rfl k) G
theorem Go.lxor {x y z : Int64} (hd : Dx code pc (.lxor) 1 pc') (hz : x ^^^ y = z) (G : Go l Z a0 EL b n0 own code maxL ret nm R W0 Q D S cells slots pc' Ls (.long z :: rest)) : Go l Z a0 EL b n0 own code maxL ret nm R W0 Q D S cells slots pc Ls (.long y :: .long x :: rest) := by
  obtain ⟨h1, rfl⟩ := hd
  subst hz
  exact Go.plain (fun hx hc h t k => XS.lxor h hx rfl (hb hc h1) rfl k) G
theorem Go.lshl {x z : Int64} {y : Int32} (hd : Dx code pc (.lshl) 1 pc') (hz : x <<< (y &&& 0x3f).toInt64 = z) (G : Go l Z a0 EL b n0 own code maxL ret nm R W0 Q D S cells slots pc' Ls (.long z :: rest)) : Go l Z a0 EL b n0 own code maxL ret nm R W0 Q D S cells slots pc Ls (.int y :: .long x :: rest) := by
  obtain ⟨h1, rfl⟩ := hd
  subst hz
  exact Go.plain (fun hx hc h t k => XS.lshl h hx rfl (hb hc h1) rfl k) G
theorem Go.lshr {x z : Int64} {y : Int32} (hd : Dx code pc (.lshr) 1 pc') (hz : x >>> (y &&& 0x3f).toInt64 = z) (G : Go l Z a0 EL b n0 own code maxL ret nm R W0 Q D S cells slots pc' Ls (.long z :: rest)) : Go l Z a0 EL b n0 own code maxL ret nm R W0 Q D S cells slots pc Ls (.int y :: .long x :: rest) := by
  obtain ⟨h1, rfl⟩ := hd
  subst hz
  exact Go.plain (fun hx hc h t k => XS.lshr h hx rfl (hb hc h1) rfl k) G
theorem Go.lushr {x z : Int64} {y : Int32} (hd : Dx code pc (.lushr) 1 pc') (hz : ushL x y = z) (G : Go l Z a0 EL b n0 own code maxL ret nm R W0 Q D S cells slots pc' Ls (.long z :: rest)) : Go l Z a0 EL b n0 own code maxL ret nm R W0 Q D S cells slots pc Ls (.int y :: .long x :: rest) := by
  obtain ⟨h1, rfl⟩ := hd
  subst hz
  exact Go.plain (fun hx hc h t k => XS.lushr h hx rfl (hb hc h1) rfl k) G
theorem Go.lcmp {x y : Int64} {z : Int32} (hd : Dx code pc (.lcmp) 1 pc') (hz : lcmpW x y = z) (G : Go l Z a0 EL b n0 own code maxL ret nm R W0 Q D S cells slots pc' Ls (.int z :: rest)) : Go l Z a0 EL b n0 own code maxL ret nm R W0 Q D S cells slots pc Ls (.long y :: .long x :: rest) := by
  obtain ⟨h1, rfl⟩ := hd
  subst hz
  exact Go.plain (fun hx hc h t k => XS.lcmp h hx rfl (hb hc h1) rfl k) G
theorem Go.idiv {x y z : Int32} (hd : Dx code pc (.idiv) 1 pc') (hy : y ≠ 0) (hz : x / y = z) (G : Go l Z a0 EL b n0 own code maxL ret nm R W0 Q D S cells slots pc' Ls (.int z :: rest)) : Go l Z a0 EL b n0 own code maxL ret nm R W0 Q D S cells slots pc Ls (.int y :: .int x :: rest) := by
  obtain ⟨h1, rfl⟩ := hd
  subst hz
  exact Go.plain (fun hx hc h t k => XS.idiv h hx rfl (hb hc h1) rfl hy k) G
theorem Go.ineg {x z : Int32} (hd : Dx code pc (.ineg) 1 pc') (hz : -x = z) (G : Go l Z a0 EL b n0 own code maxL ret nm R W0 Q D S cells slots pc' Ls (.int z :: rest)) : Go l Z a0 EL b n0 own code maxL ret nm R W0 Q D S cells slots pc Ls (.int x :: rest) := by
  obtain ⟨h1, rfl⟩ := hd
  subst hz
  exact Go.plain (fun hx hc h t k => XS.ineg h hx rfl (hb hc h1) rfl k) G
theorem Go.lneg {x z : Int64} (hd : Dx code pc (.lneg) 1 pc') (hz : -x = z) (G : Go l Z a0 EL b n0 own code maxL ret nm R W0 Q D S cells slots pc' Ls (.long z :: rest)) : Go l Z a0 EL b n0 own code maxL ret nm R W0 Q D S cells slots pc Ls (.long x :: rest) := by
  obtain ⟨h1, rfl⟩ := hd
  subst hz
  exact Go.plain (fun hx hc h t k => XS.lneg h hx rfl (hb hc h1) rfl k) G
theorem Go.i2l {x : Int32} {z : Int64} (hd : Dx code pc (.i2l) 1 pc') (hz : x.toInt64 = z) (G : Go l Z a0 EL b n0 own code maxL ret nm R W0 Q D S cells slots pc' Ls (.long z :: rest)) : Go l Z a0 EL b n0 own code maxL ret nm R W0 Q D S cells slots pc Ls (.int x :: rest) := by
  obtain ⟨h1, rfl⟩ := hd
  subst hz
  exact Go.plain (fun hx hc h t k => XS.i2l h hx rfl (hb hc h1) rfl k) G
theorem Go.l2i {x : Int64} {z : Int32} (hd : Dx code pc (.l2i) 1 pc') (hz : x.toInt32 = z) (G : Go l Z a0 EL b n0 own code maxL ret nm R W0 Q D S cells slots pc' Ls (.int z :: rest)) : Go l Z a0 EL b n0 own code maxL ret nm R W0 Q D S cells slots pc Ls (.long x :: rest) := by
  obtain ⟨h1, rfl⟩ := hd
  subst hz
  exact Go.plain (fun hx hc h t k => XS.l2i h hx rfl (hb hc h1) rfl k) G
theorem Go.i2b {x : Int32} {z : Int32} (hd : Dx code pc (.i2b) 1 pc') (hz : x.toInt8.toInt32 = z) (G : Go l Z a0 EL b n0 own code maxL ret nm R W0 Q D S cells slots pc' Ls (.int z :: rest)) : Go l Z a0 EL b n0 own code maxL ret nm R W0 Q D S cells slots pc Ls (.int x :: rest) := by
  obtain ⟨h1, rfl⟩ := hd
  subst hz
  exact Go.plain (fun hx hc h t k => XS.i2b h hx rfl (hb hc h1) rfl k) G
theorem Go.i2c {x : Int32} {z : Int32} (hd : Dx code pc (.i2c) 1 pc') (hz : x.toUInt32.toUInt16.toUInt32.toInt32 = z) (G : Go l Z a0 EL b n0 own code maxL ret nm R W0 Q D S cells slots pc' Ls (.int z :: rest)) : Go l Z a0 EL b n0 own code maxL ret nm R W0 Q D S cells slots pc Ls (.int x :: rest) := by
  obtain ⟨h1, rfl⟩ := hd
  subst hz
  exact Go.plain (fun hx hc h t k => XS.i2c h hx rfl (hb hc h1) rfl k) G
theorem Go.i2s {x : Int32} {z : Int32} (hd : Dx code pc (.i2s) 1 pc') (hz : x.toInt16.toInt32 = z) (G : Go l Z a0 EL b n0 own code maxL ret nm R W0 Q D S cells slots pc' Ls (.int z :: rest)) : Go l Z a0 EL b n0 own code maxL ret nm R W0 Q D S cells slots pc Ls (.int x :: rest) := by
  obtain ⟨h1, rfl⟩ := hd
  subst hz
  exact Go.plain (fun hx hc h t k => XS.i2s h hx rfl (hb hc h1) rfl k) G
theorem Go.dup {x : Value} (hd : Dx code pc (.dup) 1 pc') (hc1 : x.category = 1 := by rfl) (G : Go l Z a0 EL b n0 own code maxL ret nm R W0 Q D S cells slots pc' Ls (x :: x :: rest)) : Go l Z a0 EL b n0 own code maxL ret nm R W0 Q D S cells slots pc Ls (x :: rest) := by
  obtain ⟨h1, rfl⟩ := hd
  exact Go.plain (fun hx hc h t k => XS.dup h hx rfl (hb hc h1) rfl hc1 k) G
theorem Go.pop {x : Value} (hd : Dx code pc (.pop) 1 pc') (hc1 : x.category = 1 := by rfl) (G : Go l Z a0 EL b n0 own code maxL ret nm R W0 Q D S cells slots pc' Ls (rest)) : Go l Z a0 EL b n0 own code maxL ret nm R W0 Q D S cells slots pc Ls (x :: rest) := by
  obtain ⟨h1, rfl⟩ := hd
  exact Go.plain (fun hx hc h t k => XS.pop h hx rfl (hb hc h1) rfl hc1 k) G
theorem Go.dupX1 {x y : Value} (hd : Dx code pc (.dup_x1) 1 pc') (hc1 : x.category = 1 := by rfl) (hc2 : y.category = 1 := by rfl) (G : Go l Z a0 EL b n0 own code maxL ret nm R W0 Q D S cells slots pc' Ls (x :: y :: x :: rest)) : Go l Z a0 EL b n0 own code maxL ret nm R W0 Q D S cells slots pc Ls (x :: y :: rest) := by
  obtain ⟨h1, rfl⟩ := hd
  exact Go.plain (fun hx hc h t k => XS.dupX1 h hx rfl (hb hc h1) rfl hc1 hc2 k) G
theorem Go.dup2 {x y : Value} (hd : Dx code pc (.dup2) 1 pc') (hc1 : x.category = 1 := by rfl) (hc2 : y.category = 1 := by rfl) (G : Go l Z a0 EL b n0 own code maxL ret nm R W0 Q D S cells slots pc' Ls (x :: y :: x :: y :: rest)) : Go l Z a0 EL b n0 own code maxL ret nm R W0 Q D S cells slots pc Ls (x :: y :: rest) := by
  obtain ⟨h1, rfl⟩ := hd
  exact Go.plain (fun hx hc h t k => XT.dup2 h hx rfl (hb hc h1) rfl hc1 hc2 k) G
theorem Go.irem {x y z : Int32} (hd : Dx code pc .irem 1 pc') (hy : y ≠ 0) (hz : x % y = z) (G : Go l Z a0 EL b n0 own code maxL ret nm R W0 Q D S cells slots pc' Ls (.int z :: rest)) : Go l Z a0 EL b n0 own code maxL ret nm R W0 Q D S cells slots pc Ls (.int y :: .int x :: rest) := by
  obtain ⟨h1, rfl⟩ := hd
  subst hz
  refine Go.same (fun hs X _ _ _ => ⟨_, X, rfl, fun t k => iremM X hs.1 rfl (hb hs.2.1 h1) rfl hy k⟩) G
theorem Go.goto {o : Int} {pc2 : Nat} (hd : Dx code pc (.goto o) 3 pc') (hp : ((pc : Int) + o).toNat = pc2 := by decide) (ho : 0 ≤ (pc : Int) + o := by decide) (G : Go l Z a0 EL b n0 own code maxL ret nm R W0 Q D S cells slots pc2 Ls st) : Go l Z a0 EL b n0 own code maxL ret nm R W0 Q D S cells slots pc Ls st := by
  obtain ⟨h1, rfl⟩ := hd
  exact Go.plain (fun hx hc h t k => XS.goto h hx rfl rfl (hb hc h1) ho hp k) G
/-- what a comparison says -/
def cP : ClassFile.Cond → Int32 → Int32 → Prop
  | .eq, x, y => x = y
  | .ne, x, y => ¬ x = y
  | .lt, x, y => x < y
  | .ge, x, y => ¬ x < y
  | .gt, x, y => y < x
  | .le, x, y => ¬ y < x
theorem cP_t {cd : ClassFile.Cond} {x y : Int32} (h : cP cd x y) : if_icmp.holds cd x y = true := by
  cases cd
  · exact XT.ii_eq_t h
  · exact XT.ii_ne_t h
  · exact XT.ii_lt_t h
  · exact XT.ii_ge_t h
  · exact XT.ii_gt_t h
  · exact XT.ii_le_t h
theorem cP_f {cd : ClassFile.Cond} {x y : Int32} (h : ¬ cP cd x y) : if_icmp.holds cd x y = false := by
  cases cd
  · exact XT.ii_eq_f h
  · exact XT.ii_ne_f (Classical.not_not.mp h)
  · exact XT.ii_lt_f h
  · exact XT.ii_ge_f (Classical.not_not.mp h)
  · exact XT.ii_gt_f h
  · exact XT.ii_le_f (Classical.not_not.mp h)
theorem cP0_t {cd : ClassFile.Cond} {x : Int32} (h : cP cd x 0) : ifCond.holds cd x = true := by
  cases cd
  · exact XT.i0_eq_t h
  · exact XT.i0_ne_t h
  · exact XT.i0_lt_t h
  · exact XT.i0_ge_t h
  · exact XT.i0_gt_t h
  · exact XT.i0_le_t h
theorem cP0_f {cd : ClassFile.Cond} {x : Int32} (h : ¬ cP cd x 0) : ifCond.holds cd x = false := by
  cases cd
  · exact XT.i0_eq_f h
  · exact XT.i0_ne_f (Classical.not_not.mp h)
  · exact XT.i0_lt_f h
  · exact XT.i0_ge_f (Classical.not_not.mp h)
  · exact XT.i0_gt_f h
  · exact XT.i0_le_f (Classical.not_not.mp h)
theorem Go.icmp {cd : ClassFile.Cond} {x y : Int32} {o : Int} {pc2 : Nat} (hd : Dx code pc (.if_icmp cd o) 3 pc') (hp : ((pc : Int) + o).toNat = pc2 := by decide) (ho : 0 ≤ (pc : Int) + o := by decide)
    (Gy : cP cd x y → Go l Z a0 EL b n0 own code maxL ret nm R W0 Q D S cells slots pc2 Ls rest) (Gn : ¬ cP cd x y → Go l Z a0 EL b n0 own code maxL ret nm R W0 Q D S cells slots pc' Ls rest) : Go l Z a0 EL b n0 own code maxL ret nm R W0 Q D S cells slots pc Ls (.int y :: .int x :: rest) := by
  obtain ⟨h1, rfl⟩ := hd
  by_cases q : cP cd x y
  · exact Go.plain (fun hx hc h t k => XS.icmpYes h hx rfl rfl (hb hc h1) rfl (cP_t q) ho hp k) (Gy q)
  · exact Go.plain (fun hx hc h t k => XS.icmpNo h hx rfl (hb hc h1) rfl (cP_f q) k) (Gn q)
theorem Go.ifc {cd : ClassFile.Cond} {x : Int32} {o : Int} {pc2 : Nat} (hd : Dx code pc (.ifCond cd o) 3 pc') (hp : ((pc : Int) + o).toNat = pc2 := by decide) (ho : 0 ≤ (pc : Int) + o := by decide)
    (Gy : cP cd x 0 → Go l Z a0 EL b n0 own code maxL ret nm R W0 Q D S cells slots pc2 Ls rest) (Gn : ¬ cP cd x 0 → Go l Z a0 EL b n0 own code maxL ret nm R W0 Q D S cells slots pc' Ls rest) : Go l Z a0 EL b n0 own code maxL ret nm R W0 Q D S cells slots pc Ls (.int x :: rest) := by
  obtain ⟨h1, rfl⟩ := hd
  by_cases q : cP cd x 0
  · exact Go.plain (fun hx hc h t k => XS.ifYes h hx rfl rfl (hb hc h1) rfl (cP0_t q) ho hp k) (Gy q)
  · exact Go.plain (fun hx hc h t k => XS.ifNo h hx rfl (hb hc h1) rfl (cP0_f q) k) (Gn q)
theorem Go.ifnullY {o : Int} {pc2 : Nat} (hd : Dx code pc (.ifnull o) 3 pc') (hp : ((pc : Int) + o).toNat = pc2 := by decide) (ho : 0 ≤ (pc : Int) + o := by decide)
    (G : Go l Z a0 EL b n0 own code maxL ret nm R W0 Q D S cells slots pc2 Ls rest) : Go l Z a0 EL b n0 own code maxL ret nm R W0 Q D S cells slots pc Ls (.null :: rest) := by
  obtain ⟨h1, rfl⟩ := hd
  exact Go.plain (fun hx hc h t k => XS.ifnullYes h hx rfl rfl (hb hc h1) rfl ho hp k) G
theorem Go.ifnullN {o : Int} {a : Addr} (hd : Dx code pc (.ifnull o) 3 pc') (G : Go l Z a0 EL b n0 own code maxL ret nm R W0 Q D S cells slots pc' Ls rest) : Go l Z a0 EL b n0 own code maxL ret nm R W0 Q D S cells slots pc Ls (.ref a :: rest) := by
  obtain ⟨h1, rfl⟩ := hd
  exact Go.plain (fun hx hc h t k => XS.ifnullNo h hx rfl (hb hc h1) rfl k) G
theorem Go.ifnonnullY {o : Int} {a : Addr} {pc2 : Nat} (hd : Dx code pc (.ifnonnull o) 3 pc') (hp : ((pc : Int) + o).toNat = pc2 := by decide) (ho : 0 ≤ (pc : Int) + o := by decide)
    (G : Go l Z a0 EL b n0 own code maxL ret nm R W0 Q D S cells slots pc2 Ls rest) : Go l Z a0 EL b n0 own code maxL ret nm R W0 Q D S cells slots pc Ls (.ref a :: rest) := by
  obtain ⟨h1, rfl⟩ := hd
  exact Go.plain (fun hx hc h t k => XS.ifnonnullYes h hx rfl rfl (hb hc h1) rfl ho hp k) G
theorem Go.ifnonnullN {o : Int} (hd : Dx code pc (.ifnonnull o) 3 pc') (G : Go l Z a0 EL b n0 own code maxL ret nm R W0 Q D S cells slots pc' Ls rest) : Go l Z a0 EL b n0 own code maxL ret nm R W0 Q D S cells slots pc Ls (.null :: rest) := by
  obtain ⟨h1, rfl⟩ := hd
  exact Go.plain (fun hx hc h t k => XS.ifnonnullNo h hx rfl (hb hc h1) rfl k) G
theorem Go.acmpeq {o : Int} {x y : Value} {pc2 : Nat} (hd : Dx code pc (.if_acmp .eq o) 3 pc') (hx' : x.isRef = true := by rfl) (hy' : y.isRef = true := by rfl) (hp : ((pc : Int) + o).toNat = pc2 := by decide) (ho : 0 ≤ (pc : Int) + o := by decide)
    (Gy : x = y → Go l Z a0 EL b n0 own code maxL ret nm R W0 Q D S cells slots pc2 Ls rest) (Gn : ¬ x = y → Go l Z a0 EL b n0 own code maxL ret nm R W0 Q D S cells slots pc' Ls rest) : Go l Z a0 EL b n0 own code maxL ret nm R W0 Q D S cells slots pc Ls (y :: x :: rest) := by
  obtain ⟨h1, rfl⟩ := hd
  by_cases q : x = y
  · exact Go.plain (fun hx hc h t k => XT.acmpYes h hx rfl rfl (hb hc h1) rfl hx' hy' (XT.aa_eq_t q) ho hp k) (Gy q)
  · exact Go.plain (fun hx hc h t k => XT.acmpNo h hx rfl (hb hc h1) rfl hx' hy' (XT.aa_eq_f q) k) (Gn q)
theorem Go.acmpne {o : Int} {x y : Value} {pc2 : Nat} (hd : Dx code pc (.if_acmp .ne o) 3 pc') (hx' : x.isRef = true := by rfl) (hy' : y.isRef = true := by rfl) (hp : ((pc : Int) + o).toNat = pc2 := by decide) (ho : 0 ≤ (pc : Int) + o := by decide)
    (Gy : ¬ x = y → Go l Z a0 EL b n0 own code maxL ret nm R W0 Q D S cells slots pc2 Ls rest) (Gn : x = y → Go l Z a0 EL b n0 own code maxL ret nm R W0 Q D S cells slots pc' Ls rest) : Go l Z a0 EL b n0 own code maxL ret nm R W0 Q D S cells slots pc Ls (y :: x :: rest) := by
  obtain ⟨h1, rfl⟩ := hd
  by_cases q : x = y
  · exact Go.plain (fun hx hc h t k => XT.acmpNo h hx rfl (hb hc h1) rfl hx' hy' (XT.aa_ne_f q) k) (Gn q)
  · exact Go.plain (fun hx hc h t k => XT.acmpYes h hx rfl rfl (hb hc h1) rfl hx' hy' (XT.aa_ne_t q) ho hp k) (Gy q)
/-! the steps that read or write the heap -/
theorem Inv.alike {fr : Addr → Prop} {s : State} {vm0 : Vm} {h : Heap} {locs : List Loc} (I : Inv Z a0 EL b n0 W0 fr D S s vm0 h locs) : Z.Warmed39 vm0 := I.1.2.1
theorem Inv.ext {fr : Addr → Prop} {s : State} {vm0 : Vm} {h h' : Heap} {locs : List Loc} (I : Inv Z a0 EL b n0 W0 fr D S s vm0 h locs) (E : Ext h h') {x : Ent} (hx : x.1 = h.size) (F : Kn Z h' x) :
    Inv Z a0 EL b n0 W0 fr (x :: D) S s vm0 h' locs := by
  obtain ⟨⟨e1, e2, ⟨k0, e3, e4⟩, e5⟩, ⟨c1, c2, c3, c4⟩, ⟨g1, g2, g3, g4⟩, i4, i5, i6⟩ := I
  have hs : s.heap.size ≤ h.size := c1.2.1
  have hx' := aN hx
  refine ⟨⟨e1, e2, ⟨k0, e3, Nat.le_trans e4 E.1⟩, e5⟩, ⟨c1.trans (CHr.ext E c1.1), c2, c3.ext E, c4.ext E⟩, ⟨fun y hy => ?_, fun y hy => (g2 y hy).ext E, ?_, fun y hy => ?_⟩, fun y hy => ?_, i5, fun y hy => ?_⟩
  · rcases List.mem_cons.mp hy with rfl | hy
    · exact F
    · exact (g1 y hy).ext E
  · rw [List.map_cons, List.nodup_cons]
    refine ⟨fun q => ?_, g3⟩
    obtain ⟨y, hy, e⟩ := List.mem_map.mp q
    have e := aN e
    have := aL (g1 y hy).lt
    omega
  · rw [List.map_cons, List.mem_cons]
    rintro (q | q)
    · have q := aN q
      have := aL (g2 y hy).lt
      omega
    · exact g4 y hy q
  · rcases List.mem_cons.mp hy with rfl | hy
    · refine ⟨?_, ?_, fun q => ?_, Or.inr (by rw [hx]; exact hs)⟩
      · rw [hx]; have a1 := c3.1; have a2 := c3.2.1; omega
      · rw [hx]; exact (Safe.new (Nat.le_refl _)).ext E c1.1
      · have := aL (i6 _ q).2.2
        omega
    · obtain ⟨r1, r2, r3, r4⟩ := i4 y hy
      exact ⟨r1, r2.ext E c1.1, r3, r4⟩
  · obtain ⟨r1, r2, r3⟩ := i6 y hy
    exact ⟨r1, r2.ext E c1.1, r3⟩
theorem set_mem {α : Type} {L : List α} {i : Nat} {y x : α} (h : x ∈ L.set i y) : x = y ∨ ∃ j, j ≠ i ∧ L[j]? = some x := by
  obtain ⟨j, hj⟩ := List.mem_iff_getElem?.mp h
  rw [List.getElem?_set] at hj
  by_cases q : i = j
  · rw [if_pos q] at hj
    split at hj
    · exact Or.inl (Option.some.inj hj).symm
    · cases hj
  · rw [if_neg q] at hj
    exact Or.inr ⟨j, fun e => q e.symm, hj⟩
theorem map_set_same {D : List Ent} {i : Nat} {x y : Ent} (hi : D[i]? = some x) (e : y.1 = x.1) : (D.set i y).map Prod.fst = D.map Prod.fst := by
  apply List.ext_getElem?
  intro j
  rw [List.getElem?_map, List.getElem?_map, List.getElem?_set]
  by_cases q : i = j
  · subst q
    rw [if_pos rfl, hi]
    simp [(List.getElem?_eq_some_iff.mp hi).1, e]
  · rw [if_neg q]
theorem Inv.wr {fr : Addr → Prop} {s : State} {vm0 : Vm} {h h' : Heap} {locs : List Loc} {sl : Nat} {v : Value} {x y : Ent} {i : Nat} (I : Inv Z a0 EL b n0 W0 fr D S s vm0 h locs) (hi : D[i]? = some x) (W : Wr h h' x.1 sl v) (e : y.1 = x.1) (F : Kn Z h' y) :
    Inv Z a0 EL b n0 W0 fr (D.set i y) S s vm0 h' (locs ++ [⟨x.1, sl⟩]) := by
  obtain ⟨⟨e1, e2, ⟨k0, e3, e4⟩, e5⟩, ⟨c1, c2, c3, c4⟩, ⟨g1, g2, g3, g4⟩, i4, i5, i6⟩ := I
  have hx : x ∈ D := List.mem_of_getElem? hi
  obtain ⟨r1, r2, r3, r4⟩ := i4 x hx
  have K := Keep.of_wr W
  have apart : ∀ z j, j ≠ i → D[j]? = some z → z.1 ≠ x.1 := fun z j hj hz q => hj (by
    have lj : j < (D.map Prod.fst).length := by simpa using (List.getElem?_eq_some_iff.mp hz).1
    refine (List.getElem?_inj lj g3).mp ?_
    simp [hz, hi, q])
  refine ⟨⟨e1, e2, ⟨k0, e3, by rw [W.size]; exact e4⟩, e5⟩, ⟨c1.trans (CHr.wr W r2 c1.1), c2.app (fun z hz => by cases List.mem_singleton.mp hz; exact r1), c3.wr W r1, c4.wr W r4⟩, ⟨fun z hz => ?_, fun z hz => ?_, ?_, fun z hz => ?_⟩, fun z hz => ?_, i5, fun z hz => ?_⟩
  · rcases set_mem hz with rfl | ⟨j, hj, q⟩
    · exact F
    · exact (g1 z (List.mem_of_getElem? q)).keep K (fun r => apart z j hj q (List.mem_singleton.mp r))
  · exact (g2 z hz).keep K (fun r => g4 z hz (List.mem_map.mpr ⟨x, hx, (List.mem_singleton.mp r).symm⟩))
  · rw [map_set_same hi e]; exact g3
  · rw [map_set_same hi e]; exact g4 z hz
  · rcases set_mem hz with rfl | ⟨j, hj, q⟩
    · rw [e]; exact ⟨r1, Safe.wr W r2 c1.1 r2, r3, r4⟩
    · obtain ⟨t1, t2, t3, t4⟩ := i4 z (List.mem_of_getElem? q)
      exact ⟨t1, Safe.wr W r2 c1.1 t2, t3, t4⟩
  · obtain ⟨t1, t2, t3⟩ := i6 z hz
    exact ⟨t1, Safe.wr W r2 c1.1 t2, t3⟩
/-- a step that makes one cell -/
theorem Go.grow {k n : Nat} {o : Ob} (H : ∀ {p : Program} {e : Env} {s : State} {m : MethodId} {args : Array Value} {below : List Frame} {meth : Method} {c : Code} {vm0 : Vm} {T : State} {locs : List Loc}, Sst own code maxL ret nm p m meth c vm0 → Stand p l e R (s.setVm vm0) m args below meth c T locs cells slots → Z.Warmed39 (s.setVm vm0).vm → HH Z T.heap D S →
      ∃ T', Stand p l e R (s.setVm vm0) m args below meth c T' locs k n ∧ Ext T.heap T'.heap ∧ Kn Z T'.heap (T.heap.size, o) ∧ ∀ t, Steps p.tables e below (T'.setTop (mkF m pc' Ls' (.ref T.heap.size :: st'))) t → Steps p.tables e below (T.setTop (mkF m pc Ls st)) t)
    (G : ∀ a, Go l Z a0 EL b n0 own code maxL ret nm R W0 Q ((a, o) :: D) S k n pc' Ls' (.ref a :: st')) : Go l Z a0 EL b n0 own code maxL ret nm R W0 Q D S cells slots pc Ls st := by
  intro fr p e s m args below meth c vm0 T locs hs X I
  obtain ⟨T', X', E, F, st⟩ := H hs X I.1.2.1 I.2.2.1
  obtain ⟨t, v, k', r⟩ := G T.heap.size fr p e s m args below meth c vm0 T' locs hs X' (I.ext E (x := (T.heap.size, o)) rfl F)
  exact ⟨t, v, st t k', r⟩
/-- a step that writes one slot of an own cell -/
theorem Go.write {i : Nat} {x y : Ent} (hi : D[i]? = some x) (hD : D' = D.set i y) (e : y.1 = x.1) (H : ∀ {p : Program} {e : Env} {s : State} {m : MethodId} {args : Array Value} {below : List Frame} {meth : Method} {c : Code} {vm0 : Vm} {T : State} {locs : List Loc}, Sst own code maxL ret nm p m meth c vm0 → Stand p l e R (s.setVm vm0) m args below meth c T locs cells slots → Z.Warmed39 (s.setVm vm0).vm → HH Z T.heap D S →
      ∃ T' sl v, Stand p l e R (s.setVm vm0) m args below meth c T' (locs ++ [⟨x.1, sl⟩]) cells slots ∧ Wr T.heap T'.heap x.1 sl v ∧ Kn Z T'.heap y ∧ ∀ t, Steps p.tables e below (T'.setTop (mkF m pc' Ls' st')) t → Steps p.tables e below (T.setTop (mkF m pc Ls st)) t)
    (G : Go l Z a0 EL b n0 own code maxL ret nm R W0 Q D' S cells slots pc' Ls' st') : Go l Z a0 EL b n0 own code maxL ret nm R W0 Q D S cells slots pc Ls st := by
  intro fr p e' s m args below meth c vm0 T locs hs X I
  obtain ⟨T', sl, v, X', W, F, st⟩ := H hs X I.1.2.1 I.2.2.1
  subst hD
  obtain ⟨t, v, k', r⟩ := G fr p e' s m args below meth c vm0 T' _ hs X' (I.wr hi W e F)
  exact ⟨t, v, st t k', r⟩
/-- the fields of a new object -/
def NewF (Z : State) (a0 : Array Value) (C : String) (fs : List (String × String × String × Value)) : Prop :=
  (∀ f ∈ fs, Laid Z a0 C f.1 f.2.1 f.2.2.1 ∧ ∃ ty, parseFieldDescriptor f.2.2.1 = some ty ∧ defaultValue ty = f.2.2.2) ∧ (fs.map fun f => Jvm.RoadKit.slotOf Z f.1 f.2.1 f.2.2.1).Nodup
theorem NewF.nil {C : String} : NewF Z a0 C [] := ⟨fun _ q => (nomatch q), List.nodup_nil⟩
theorem NewF.cons {C O n d : String} {v : Value} {ty : FieldType} {fs : List (String × String × String × Value)} (L : Laid Z a0 C O n d) (ht : parseFieldDescriptor d = some ty) (hv : defaultValue ty = v) (hne : ∀ f ∈ fs, n ≠ f.2.1) (F : NewF Z a0 C fs) : NewF Z a0 C ((O, n, d, v) :: fs) := by
  refine ⟨fun f hf => ?_, ?_⟩
  · rcases List.mem_cons.mp hf with rfl | hf
    · exact ⟨L, ty, ht, hv⟩
    · exact F.1 f hf
  · rw [List.map_cons, List.nodup_cons]
    refine ⟨fun q => ?_, F.2⟩
    obtain ⟨f, hf, e⟩ := List.mem_map.mp q
    obtain ⟨L', ty', ht', -⟩ := F.1 f hf
    exact slot_ne L L' (hne f hf) ht ht' e.symm
theorem Go.new {idx n : Nat} {C : String} {fs : List (String × String × String × Value)} (hd : Dx code pc (.new idx) 3 pc') (w1 : (Jvm.Cond.classLink own idx C).before a0 Z = true) (w2 : (Jvm.Cond.instantiable C n).before a0 Z = true) (w3 : (Jvm.Cond.initialized C).before a0 Z = true) (hf : NewF Z a0 C fs)
    (hc : cells + 1 ≤ R.cells := by exact Nat.le_of_ble_eq_true rfl) (hl : slots + n ≤ R.slots := by exact Nat.le_of_ble_eq_true rfl) (G : ∀ a, Go l Z a0 EL b n0 own code maxL ret nm R W0 Q ((a, .inl (C, fs)) :: D) S (cells + 1) (slots + n) pc' Ls (.ref a :: st)) : Go l Z a0 EL b n0 own code maxL ret nm R W0 Q D S cells slots pc Ls st := by
  obtain ⟨h1, rfl⟩ := hd
  refine Go.grow (fun {p e s m args below meth c vm0 T locs} hs X hZ hH => ?_) G
  obtain ⟨T', h', X', rfl, E, A, F, -, k⟩ := newO X hs.1 hZ hs.2.2.2.2.2.2 w1 w2 w3 rfl (g := mkF m pc Ls st) rfl (hb hs.2.1 h1) hc hl
  refine ⟨T', X', E, ⟨A, fun f hf' => ?_, hf.2⟩, k⟩
  obtain ⟨L, ty, ht, hv⟩ := hf.1 f hf'
  rw [← hv]
  exact F L ht
theorem rep_fits {ty : FieldType} {v : Value} {k : Nat} (hv : fits ty v = true) : ∀ x ∈ List.replicate k v, fits ty x = true := fun x hx => by rw [List.eq_of_mem_replicate hx]; exact hv
theorem def_fits (ty : FieldType) : fits ty (defaultValue ty) = true := by cases ty <;> rfl
theorem Go.newarray {aty : ArrayType} {n : Int32} {k : Nat} {vs : List Value} (hd : Dx code pc (.newarray aty) 2 pc') (w : (Jvm.Cond.arrayClass (newarray.typeOf aty)).before a0 Z = true) (hk : n.toNatClampNeg = k) (hn : ¬ n < 0) (hb' : k * 8 ≤ 536870912) (hvs : vs = List.replicate k (defaultValue (newarray.typeOf aty)))
    (hc : cells + 1 ≤ R.cells := by exact Nat.le_of_ble_eq_true rfl) (hl : slots + k ≤ R.slots := by exact Nat.le_of_ble_eq_true rfl) (G : ∀ a, Go l Z a0 EL b n0 own code maxL ret nm R W0 Q ((a, .inr (newarray.typeOf aty, vs)) :: D) S (cells + 1) (slots + k) pc' Ls (.ref a :: rest)) : Go l Z a0 EL b n0 own code maxL ret nm R W0 Q D S cells slots pc Ls (.int n :: rest) := by
  obtain ⟨h1, rfl⟩ := hd
  refine Go.grow (fun {p e s m args below meth c vm0 T locs} hs X hZ hH => ?_) G
  obtain ⟨T', h', cA, X', rfl, E, A, k'⟩ := newP X hs.1 hZ w rfl (g := mkF m pc Ls (.int n :: rest)) rfl (hb hs.2.1 h1) rfl hn (cap := k) (by omega) hb' hc hl
  refine ⟨T', X', E, ⟨_, A, ?_, ?_, ?_, ?_⟩, k'⟩
  · subst hvs hk; simp [newA]
  · subst hvs; simp; omega
  · subst hvs; exact rep_fits (def_fits _)
  · intro C q; cases aty <;> cases q
theorem Go.anewarray {idx : Nat} {C : String} {n : Int32} {k : Nat} {vs : List Value} (hd : Dx code pc (.anewarray idx) 3 pc') (w1 : (Jvm.Cond.classLink own idx C).before a0 Z = true) (w2 : (Jvm.Cond.arrayOver (.object C)).before a0 Z = true) (hk : n.toNatClampNeg = k) (hn : ¬ n < 0) (hb' : k * 8 ≤ 536870912) (hvs : vs = List.replicate k .null)
    (hc : cells + 1 ≤ R.cells := by exact Nat.le_of_ble_eq_true rfl) (hl : slots + k ≤ R.slots := by exact Nat.le_of_ble_eq_true rfl) (G : ∀ a, Go l Z a0 EL b n0 own code maxL ret nm R W0 Q ((a, .inr (.object C, vs)) :: D) S (cells + 1) (slots + k) pc' Ls (.ref a :: rest)) : Go l Z a0 EL b n0 own code maxL ret nm R W0 Q D S cells slots pc Ls (.int n :: rest) := by
  obtain ⟨h1, rfl⟩ := hd
  refine Go.grow (fun {p e s m args below meth c vm0 T locs} hs X hZ hH => ?_) G
  obtain ⟨T', h', cA, X', rfl, E, A, O, k'⟩ := newR X hs.1 hZ hs.2.2.2.2.2.2 w1 w2 rfl (g := mkF m pc Ls (.int n :: rest)) rfl (hb hs.2.1 h1) rfl hn (cap := k) (by omega) hb' hc hl
  refine ⟨T', X', E, ⟨_, A, ?_, ?_, ?_, ?_⟩, k'⟩
  · subst hvs hk; simp [newA, defaultValue]
  · subst hvs; simp; omega
  · subst hvs; exact rep_fits rfl
  · intro C' q _; cases q; exact O
theorem in_of {vs : List Value} {j : Int32} {v : Value} {c : Cell} (hc : c.slots = vs.toArray) (hv : vs[j.toNatClampNeg]? = some v) (hj : ¬ j < 0) : ¬ (j < 0 ∨ c.slots.size ≤ j.toNatClampNeg) ∧ c.slots[j.toNatClampNeg]? = some v := by
  have h := (List.getElem?_eq_some_iff.mp hv).1
  refine ⟨fun q => q.elim hj fun r => ?_, ?_⟩
  · rw [hc, List.size_toArray] at r; omega
  · rw [hc, List.getElem?_toArray]; exact hv
theorem Go.caload {a : Addr} {vs : List Value} {j : Int32} {v : Value} (hd : Dx code pc .caload 1 pc') (hm : In (a, .inr (.char, vs)) D S) (hv : vs[j.toNatClampNeg]? = some v) (hj : ¬ j < 0 := by decide) (G : Go l Z a0 EL b n0 own code maxL ret nm R W0 Q D S cells slots pc' Ls (v :: rest)) : Go l Z a0 EL b n0 own code maxL ret nm R W0 Q D S cells slots pc Ls (.int j :: .ref a :: rest) := by
  obtain ⟨h1, rfl⟩ := hd
  refine Go.same (fun {p e s m args below meth c vm0 T locs} hs X hZ _ hH => ?_) G
  obtain ⟨cl, A, hc, -⟩ := (show KnA Z T.heap a .char vs from hH.at hm)
  obtain ⟨q1, q2⟩ := in_of hc hv hj
  exact ⟨_, X, rfl, fun t k => X.caload hs.1 A.1 (State.isArrayOf_alike hZ.alike A.2.1) A.2.2 q1 q2 (g := mkF m pc Ls (.int j :: .ref a :: rest)) rfl rfl (hb hs.2.1 h1) t k⟩
theorem Go.baload {a : Addr} {vs : List Value} {j : Int32} {v : Value} (hd : Dx code pc .baload 1 pc') (hm : In (a, .inr (.byte, vs)) D S) (hv : vs[j.toNatClampNeg]? = some v) (hj : ¬ j < 0 := by decide) (G : Go l Z a0 EL b n0 own code maxL ret nm R W0 Q D S cells slots pc' Ls (v :: rest)) : Go l Z a0 EL b n0 own code maxL ret nm R W0 Q D S cells slots pc Ls (.int j :: .ref a :: rest) := by
  obtain ⟨h1, rfl⟩ := hd
  refine Go.same (fun {p e s m args below meth c vm0 T locs} hs X hZ _ hH => ?_) G
  obtain ⟨cl, A, hc, -⟩ := (show KnA Z T.heap a .byte vs from hH.at hm)
  obtain ⟨q1, q2⟩ := in_of hc hv hj
  exact ⟨_, X, rfl, fun t k => X.baloadBytes hs.1 A.1 (State.isArrayOf_alike hZ.alike A.2.1) A.2.2 q1 q2 (g := mkF m pc Ls (.int j :: .ref a :: rest)) rfl rfl (hb hs.2.1 h1) t k⟩
theorem Go.iaload {a : Addr} {vs : List Value} {j : Int32} {v : Value} (hd : Dx code pc .iaload 1 pc') (hm : In (a, .inr (.int, vs)) D S) (hv : vs[j.toNatClampNeg]? = some v) (hj : ¬ j < 0 := by decide) (G : Go l Z a0 EL b n0 own code maxL ret nm R W0 Q D S cells slots pc' Ls (v :: rest)) : Go l Z a0 EL b n0 own code maxL ret nm R W0 Q D S cells slots pc Ls (.int j :: .ref a :: rest) := by
  obtain ⟨h1, rfl⟩ := hd
  refine Go.same (fun {p e s m args below meth c vm0 T locs} hs X hZ _ hH => ?_) G
  obtain ⟨cl, A, hc, -⟩ := (show KnA Z T.heap a .int vs from hH.at hm)
  obtain ⟨q1, q2⟩ := in_of hc hv hj
  exact ⟨_, X, rfl, fun t k => X.iaload hs.1 A.1 (State.isArrayOf_alike hZ.alike A.2.1) A.2.2 q1 q2 (g := mkF m pc Ls (.int j :: .ref a :: rest)) rfl rfl (hb hs.2.1 h1) t k⟩
theorem Go.aaload {a : Addr} {ty : FieldType} {vs : List Value} {j : Int32} {v : Value} (hd : Dx code pc .aaload 1 pc') (hm : In (a, .inr (ty, vs)) D S) (hv : vs[j.toNatClampNeg]? = some v) (hty : ty.isReference = true := by rfl) (hj : ¬ j < 0 := by decide) (G : Go l Z a0 EL b n0 own code maxL ret nm R W0 Q D S cells slots pc' Ls (v :: rest)) : Go l Z a0 EL b n0 own code maxL ret nm R W0 Q D S cells slots pc Ls (.int j :: .ref a :: rest) := by
  obtain ⟨h1, rfl⟩ := hd
  refine Go.same (fun {p e s m args below meth c vm0 T locs} hs X hZ _ hH => ?_) G
  obtain ⟨cl, A, hc, -⟩ := (show KnA Z T.heap a ty vs from hH.at hm)
  obtain ⟨q1, q2⟩ := in_of hc hv hj
  exact ⟨_, X, rfl, fun t k => X.aaload hs.1 A.1 (State.isArrayOf_alike hZ.alike A.2.1) hty A.2.2 q1 q2 (g := mkF m pc Ls (.int j :: .ref a :: rest)) rfl rfl (hb hs.2.1 h1) t k⟩
theorem Go.arraylength {a : Addr} {ty : FieldType} {vs : List Value} {n : Int32} (hd : Dx code pc .arraylength 1 pc') (hm : In (a, .inr (ty, vs)) D S) (hn : vs.length.toInt32 = n) (G : Go l Z a0 EL b n0 own code maxL ret nm R W0 Q D S cells slots pc' Ls (.int n :: rest)) : Go l Z a0 EL b n0 own code maxL ret nm R W0 Q D S cells slots pc Ls (.ref a :: rest) := by
  obtain ⟨h1, rfl⟩ := hd
  refine Go.same (fun {p e s m args below meth c vm0 T locs} hs X hZ _ hH => ?_) G
  obtain ⟨cl, A, hc, -⟩ := (show KnA Z T.heap a ty vs from hH.at hm)
  have e : cl.slots.size.toInt32 = n := by rw [hc, List.size_toArray]; exact hn
  exact ⟨_, X, rfl, fun t k => X.arraylength hs.1 A.1 (State.isArrayOf_alike hZ.alike A.2.1) (g := mkF m pc Ls (.ref a :: rest)) rfl rfl (hb hs.2.1 h1) t (by rw [e]; exact k)⟩
theorem KnA.set {h h' : Heap} {a : Addr} {ty : FieldType} {vs : List Value} {j : Nat} {v : Value} {c : Cell} (A : Arr Z h a c ty) (hc : c.slots = vs.toArray) (hlen : vs.length < 2147483648) (hf : ∀ v ∈ vs, fits ty v = true) (hO : ∀ C, ty = .object C → C ≠ nstC → Ovr Z c.cls C) (hv : fits ty v = true) (W : Wr h h' a j v) : KnA Z h' a ty (vs.set j v) := by
  refine ⟨c.setSlot j v, A.same W, ?_, by simpa using hlen, fun x hx => ?_, hO⟩
  · have : (c.setSlot j v).slots = c.slots.setIfInBounds j v := rfl
    rw [this, hc]; simp
  · rcases List.mem_or_eq_of_mem_set hx with q | rfl
    · exact hf x q
    · exact hv
theorem st_in {vs : List Value} {j : Int32} {c : Cell} (hc : c.slots = vs.toArray) (hj : ¬ j < 0) (hlt : j.toNatClampNeg < vs.length) : ¬ (j < 0 ∨ c.slots.size ≤ j.toNatClampNeg) := by
  rintro (q | q)
  · exact hj q
  · rw [hc, List.size_toArray] at q; omega
theorem Go.castore {a : Addr} {vs : List Value} {j x x' : Int32} (hd : Dx code pc .castore 1 pc') (i : Nat) (hi : D[i]? = some (a, .inr (.char, vs))) (hx : nar .char x = x') (hlt : j.toNatClampNeg < vs.length) (hD : D' = D.set i (a, .inr (.char, vs.set j.toNatClampNeg (.int x')))) (hj : ¬ j < 0 := by decide) (G : Go l Z a0 EL b n0 own code maxL ret nm R W0 Q D' S cells slots pc' Ls rest) : Go l Z a0 EL b n0 own code maxL ret nm R W0 Q D S cells slots pc Ls (.int x :: .int j :: .ref a :: rest) := by
  obtain ⟨h1, rfl⟩ := hd
  subst hx
  refine Go.write hi hD rfl (fun {p e s m args below meth c vm0 T locs} hs X hZ hH => ?_) G
  obtain ⟨cl, A, hc, r1, r2, r3⟩ := (show KnA Z T.heap a .char vs from hH.1 _ (List.mem_of_getElem? hi))
  obtain ⟨T', h', X', rfl, W, k⟩ := stC X hs.1 hZ rfl A (st_in hc hj hlt) (g := mkF m pc Ls (.int x :: .int j :: .ref a :: rest)) rfl rfl (hb hs.2.1 h1)
  exact ⟨T', _, _, X', W, KnA.set A hc r1 r2 r3 (fits_nar_char x) W, k⟩
theorem Go.bastore {a : Addr} {vs : List Value} {j x x' : Int32} (hd : Dx code pc .bastore 1 pc') (i : Nat) (hi : D[i]? = some (a, .inr (.byte, vs))) (hx : nar .byte x = x') (hlt : j.toNatClampNeg < vs.length) (hD : D' = D.set i (a, .inr (.byte, vs.set j.toNatClampNeg (.int x')))) (hj : ¬ j < 0 := by decide) (G : Go l Z a0 EL b n0 own code maxL ret nm R W0 Q D' S cells slots pc' Ls rest) : Go l Z a0 EL b n0 own code maxL ret nm R W0 Q D S cells slots pc Ls (.int x :: .int j :: .ref a :: rest) := by
  obtain ⟨h1, rfl⟩ := hd
  subst hx
  refine Go.write hi hD rfl (fun {p e s m args below meth c vm0 T locs} hs X hZ hH => ?_) G
  obtain ⟨cl, A, hc, r1, r2, r3⟩ := (show KnA Z T.heap a .byte vs from hH.1 _ (List.mem_of_getElem? hi))
  obtain ⟨T', h', X', rfl, W, k⟩ := stB X hs.1 hZ rfl A (st_in hc hj hlt) (g := mkF m pc Ls (.int x :: .int j :: .ref a :: rest)) rfl rfl (hb hs.2.1 h1)
  exact ⟨T', _, _, X', W, KnA.set A hc r1 r2 r3 (fits_nar_byte x) W, k⟩
theorem Go.iastore {a : Addr} {vs : List Value} {j x : Int32} (hd : Dx code pc .iastore 1 pc') (i : Nat) (hi : D[i]? = some (a, .inr (.int, vs))) (hlt : j.toNatClampNeg < vs.length) (hD : D' = D.set i (a, .inr (.int, vs.set j.toNatClampNeg (.int x)))) (hj : ¬ j < 0 := by decide) (G : Go l Z a0 EL b n0 own code maxL ret nm R W0 Q D' S cells slots pc' Ls rest) : Go l Z a0 EL b n0 own code maxL ret nm R W0 Q D S cells slots pc Ls (.int x :: .int j :: .ref a :: rest) := by
  obtain ⟨h1, rfl⟩ := hd
  refine Go.write hi hD rfl (fun {p e s m args below meth c vm0 T locs} hs X hZ hH => ?_) G
  obtain ⟨cl, A, hc, r1, r2, r3⟩ := (show KnA Z T.heap a .int vs from hH.1 _ (List.mem_of_getElem? hi))
  obtain ⟨T', h', X', rfl, W, k⟩ := stI X hs.1 hZ rfl A (st_in hc hj hlt) (g := mkF m pc Ls (.int x :: .int j :: .ref a :: rest)) rfl rfl (hb hs.2.1 h1)
  exact ⟨T', _, _, X', W, KnA.set A hc r1 r2 r3 rfl W, k⟩
/-- what may lie in an array of C -/
def Fit1 (Z : State) (a0 : Array Value) (D S : List Ent) (C : String) (v : Value) : Prop :=
  v = .null ∨ ∃ y K fs, v = .ref y ∧ In (y, .inl (K, fs)) D S ∧ (K = C ∨ (Jvm.Cond.castable K C).before a0 Z = true)
theorem Go.aastore {a : Addr} {C : String} {vs : List Value} {j : Int32} {v : Value} (hd : Dx code pc .aastore 1 pc') (i : Nat) (hi : D[i]? = some (a, .inr (.object C, vs))) (hF : Fit1 Z a0 D S C v) (hlt : j.toNatClampNeg < vs.length) (hD : D' = D.set i (a, .inr (.object C, vs.set j.toNatClampNeg v))) (hj : ¬ j < 0 := by decide) (hst : C ≠ nstC := by decide) (G : Go l Z a0 EL b n0 own code maxL ret nm R W0 Q D' S cells slots pc' Ls rest) : Go l Z a0 EL b n0 own code maxL ret nm R W0 Q D S cells slots pc Ls (v :: .int j :: .ref a :: rest) := by
  obtain ⟨h1, rfl⟩ := hd
  refine Go.write hi hD rfl (fun {p e s m args below meth c vm0 T locs} hs X hZ hH => ?_) G
  obtain ⟨cl, A, hc, r1, r2, r3⟩ := (show KnA Z T.heap a (.object C) vs from hH.1 _ (List.mem_of_getElem? hi))
  have hsto : Sto Z T.heap a v ∧ fits (.object C) v = true := by
    rcases hF with rfl | ⟨y, K, fs, rfl, hy, hK⟩
    · exact ⟨Or.inl rfl, rfl⟩
    · obtain ⟨E, -⟩ := (show KnO Z T.heap y K fs from hH.at hy)
      refine ⟨Sto.of A (r3 C rfl hst) ?_, rfl⟩
      rcases hK with rfl | hK
      · exact Ins.self E
      · exact Ins.of_exa E hK
  obtain ⟨T', h', X', rfl, W, k⟩ := stR X hs.1 hZ rfl A (st_in hc hj hlt) rfl hsto.1 (g := mkF m pc Ls (v :: .int j :: .ref a :: rest)) rfl rfl (hb hs.2.1 h1)
  exact ⟨T', _, _, X', W, KnA.set A hc r1 r2 r3 hsto.2 W, k⟩
theorem Go.getfield {a : Addr} {idx : Nat} {C R0 O n d host : String} {fs : List (String × String × String × Value)} {v : Value} (hd : Dx code pc (.getfield idx) 3 pc') (w : (Jvm.Cond.fieldLink own idx R0 n d).before a0 Z = true ∨ (Jvm.Cond.fieldLinkNest own idx R0 n d host).before a0 Z = true) (via : Via Z R0 O n d) (hm : In (a, .inl (C, fs)) D S) (j : Nat) (hj : fs[j]? = some (O, n, d, v))
    (G : Go l Z a0 EL b n0 own code maxL ret nm R W0 Q D S cells slots pc' Ls (v :: rest)) : Go l Z a0 EL b n0 own code maxL ret nm R W0 Q D S cells slots pc Ls (.ref a :: rest) := by
  obtain ⟨h1, rfl⟩ := hd
  refine Go.same (fun {p e s m args below meth c vm0 T locs} hs X hZ _ hH => ?_) G
  obtain ⟨E, F, -⟩ := (show KnO Z T.heap a C fs from hH.at hm)
  obtain ⟨T', X', e', k⟩ := getF X hs.1 hZ hs.2.2.2.2.2.2 w via rfl (F _ (List.mem_of_getElem? hj)) (g := mkF m pc Ls (.ref a :: rest)) rfl rfl (hb hs.2.1 h1)
  exact ⟨T', X', e', k⟩
theorem Go.getstatic {idx : Nat} {R0 O n d host : String} {v : Value} (hd : Dx code pc (.getstatic idx) 3 pc') (w : (Jvm.Cond.fieldLink own idx R0 n d).before a0 Z = true ∨ (Jvm.Cond.fieldLinkNest own idx R0 n d host).before a0 Z = true) (via : Via Z R0 O n d) (F : Sta Z Z.heap O n d v)
    (G : Go l Z a0 EL b n0 own code maxL ret nm R W0 Q D S cells slots pc' Ls (v :: st)) : Go l Z a0 EL b n0 own code maxL ret nm R W0 Q D S cells slots pc Ls st := by
  obtain ⟨h1, rfl⟩ := hd
  refine Go.same (fun {p e s m args below meth c vm0 T locs} hs X hZ hO hH => ?_) G
  obtain ⟨T', X', e', k⟩ := getS2 X hs.1 hZ hs.2.2.2.2.2.2 w via rfl (F.ext hO.2) (g := mkF m pc Ls st) rfl (hb hs.2.1 h1)
  exact ⟨T', X', e', k⟩
theorem KnO.set {h h' : Heap} {a : Addr} {C O n d : String} {fs : List (String × String × String × Value)} {j : Nat} {v old : Value} (F : KnO Z h a C fs) (hj : fs[j]? = some (O, n, d, old)) (W : Wr h h' a (Jvm.RoadKit.slotOf Z O n d) v) : KnO Z h' a C (fs.set j (O, n, d, v)) := by
  obtain ⟨E, G, N⟩ := F
  refine ⟨E.wr W, fun f hf => ?_, ?_⟩
  · rcases set_mem hf with rfl | ⟨i, hi, q⟩
    · exact Fld.same (w := old) W (G _ (List.mem_of_getElem? hj))
    · refine Fld.other W (G f (List.mem_of_getElem? q)) (Or.inr fun e => hi ?_)
      have li : i < (fs.map fun f => Jvm.RoadKit.slotOf Z f.1 f.2.1 f.2.2.1).length := by simpa using (List.getElem?_eq_some_iff.mp q).1
      refine (List.getElem?_inj li N).mp ?_
      simp [q, hj, e]
  · have e : (fs.set j (O, n, d, v)).map (fun f => Jvm.RoadKit.slotOf Z f.1 f.2.1 f.2.2.1) = fs.map fun f => Jvm.RoadKit.slotOf Z f.1 f.2.1 f.2.2.1 := by
      apply List.ext_getElem?
      intro i
      rw [List.getElem?_map, List.getElem?_map, List.getElem?_set]
      by_cases q : j = i
      · subst q; rw [if_pos rfl, hj]; simp [(List.getElem?_eq_some_iff.mp hj).1]
      · rw [if_neg q]
    rw [e]; exact N
theorem Go.putfield {a : Addr} {idx kk : Nat} {C R0 O n d : String} {fs : List (String × String × String × Value)} {v v' old : Value} {ty : FieldType} (hd : Dx code pc (.putfield idx) 3 pc') (w : (Jvm.Cond.fieldLink own idx R0 n d).before a0 Z = true) (via : Via Z R0 O n d) (i : Nat) (hi : D[i]? = some (a, .inl (C, fs))) (j : Nat) (hj : fs[j]? = some (O, n, d, old))
    (hL : (Jvm.Cond.lays C O n d).before a0 Z = true ∨ ((Jvm.Cond.laysFinal C O n d).before a0 Z = true ∧ own = O ∧ nm = "<init>")) (wi : (Jvm.Cond.instantiable C kk).before a0 Z = true) (hty : parseFieldDescriptor d = some ty) (hn : narrow ty v = v') (hf : fits ty v' = true) (hD : D' = D.set i (a, .inl (C, fs.set j (O, n, d, v'))))
    (G : Go l Z a0 EL b n0 own code maxL ret nm R W0 Q D' S cells slots pc' Ls rest) : Go l Z a0 EL b n0 own code maxL ret nm R W0 Q D S cells slots pc Ls (v :: .ref a :: rest) := by
  obtain ⟨h1, rfl⟩ := hd
  refine Go.write hi hD rfl (fun {p e s m args below meth c vm0 T locs} hs X hZ hH => ?_) G
  have F := (show KnO Z T.heap a C fs from hH.1 _ (List.mem_of_getElem? hi))
  obtain ⟨T', h', X', rfl, W, k⟩ := putFN X hs.1 hZ hs.2.2.2.2.2.2 w via rfl (F.2.1 _ (List.mem_of_getElem? hj)) F.1 (hL.imp id fun q => ⟨q.1, q.2.1, hs.2.2.2.2.1.trans q.2.2⟩) wi hty hn hf (g := mkF m pc Ls (v :: .ref a :: rest)) rfl rfl (hb hs.2.1 h1)
  exact ⟨T', _, _, X', W, F.set hj W, k⟩
theorem Go.objInit {idx : Nat} {a : Addr} (hd : Dx code pc (.invokespecial idx) 3 pc') (w1 : (Jvm.Cond.methodLink own idx Lib.objectInit).before a0 Z = true) (w2 : (Jvm.Cond.instanceMethod Lib.objectInit).before a0 Z = true) (w3 : (Jvm.Cond.code Lib.objectInit ⟨#[0xb1]⟩ 1 none).before a0 Z = true) (hls : Ls.size = maxL) (hf : 1 ≤ R.frames) (hlo : (rest.map fun v => v.category).sum + 12 ≤ R.locals)
    (G : Go l Z a0 EL b n0 own code maxL ret nm R W0 Q D S cells slots pc' Ls rest) : Go l Z a0 EL b n0 own code maxL ret nm R W0 Q D S cells slots pc Ls (.ref a :: rest) := by
  obtain ⟨h1, rfl⟩ := hd
  refine Go.same (fun {p e s m args below meth c vm0 T locs} hs X hZ _ hH => ?_) G
  obtain ⟨T', X', e', k⟩ := initO X hs.1 hZ hs.2.2.2.2.2.2 w1 w2 w3 rfl (g := mkF m pc Ls (.ref a :: rest)) rfl (hls.trans hs.2.2.1.symm) rfl (hb hs.2.1 h1) hf (W := (rest.map fun v => v.category).sum) (by show 2 * 0 + _ ≤ _; omega) hlo
  exact ⟨T', X', e', k⟩
theorem Go.ldcInt {idx : Nat} {v : Int32} (hd : Dx code pc (.ldc idx) 2 pc') (w : (Jvm.Cond.constant own idx v).before a0 Z = true) (G : Go l Z a0 EL b n0 own code maxL ret nm R W0 Q D S cells slots pc' Ls (.int v :: st)) : Go l Z a0 EL b n0 own code maxL ret nm R W0 Q D S cells slots pc Ls st := by
  obtain ⟨h1, rfl⟩ := hd
  exact Go.same (fun {p e s m args below meth c vm0 T locs} hs X hZ _ hH => ⟨_, X, rfl, X.ldcInt hs.1 hs.2.2.2.2.2.2 (mvT hZ w) (g := mkF m pc Ls st) rfl (hb hs.2.1 h1)⟩) G
theorem Go.ldc2Long {idx : Nat} {v : Int64} (hd : Dx code pc (.ldc2_w idx) 3 pc') (w : (Jvm.Cond.constantLong own idx v).before a0 Z = true) (G : Go l Z a0 EL b n0 own code maxL ret nm R W0 Q D S cells slots pc' Ls (.long v :: st)) : Go l Z a0 EL b n0 own code maxL ret nm R W0 Q D S cells slots pc Ls st := by
  obtain ⟨h1, rfl⟩ := hd
  exact Go.same (fun {p e s m args below meth c vm0 T locs} hs X hZ _ hH => ⟨_, X, rfl, X.ldc2Long hs.1 hs.2.2.2.2.2.2 (mvT hZ w) (g := mkF m pc Ls st) rfl (hb hs.2.1 h1)⟩) G
theorem Go.checkcast {idx : Nat} {K C : String} {a : Addr} {fs : List (String × String × String × Value)} (hd : Dx code pc (.checkcast idx) 3 pc') (w : (Jvm.Cond.classLink own idx K).before a0 Z = true) (hm : In (a, .inl (C, fs)) D S) (hC : C = K ∨ (Jvm.Cond.castable C K).before a0 Z = true)
    (G : Go l Z a0 EL b n0 own code maxL ret nm R W0 Q D S cells slots pc' Ls (.ref a :: rest)) : Go l Z a0 EL b n0 own code maxL ret nm R W0 Q D S cells slots pc Ls (.ref a :: rest) := by
  obtain ⟨h1, rfl⟩ := hd
  refine Go.same (fun {p e s m args below meth c vm0 T locs} hs X hZ _ hH => ?_) G
  obtain ⟨E, -⟩ := (show KnO Z T.heap a C fs from hH.at hm)
  have I : Ins Z T.heap a K true := by
    rcases hC with rfl | hC
    · exact Ins.self E
    · exact Ins.of_exa E hC
  obtain ⟨T', X', e', k⟩ := castY X hs.1 hZ hs.2.2.2.2.2.2 w rfl I (g := mkF m pc Ls (.ref a :: rest)) rfl rfl (hb hs.2.1 h1)
  exact ⟨T', X', e', k⟩
theorem Go.instanceofY {idx : Nat} {K C : String} {a : Addr} {fs : List (String × String × String × Value)} (hd : Dx code pc (.instanceof idx) 3 pc') (w : (Jvm.Cond.classLink own idx K).before a0 Z = true) (hm : In (a, .inl (C, fs)) D S) (hC : C = K ∨ (Jvm.Cond.castable C K).before a0 Z = true)
    (G : Go l Z a0 EL b n0 own code maxL ret nm R W0 Q D S cells slots pc' Ls (.int 1 :: rest)) : Go l Z a0 EL b n0 own code maxL ret nm R W0 Q D S cells slots pc Ls (.ref a :: rest) := by
  obtain ⟨h1, rfl⟩ := hd
  refine Go.same (fun {p e s m args below meth c vm0 T locs} hs X hZ _ hH => ?_) G
  obtain ⟨E, -⟩ := (show KnO Z T.heap a C fs from hH.at hm)
  have I : Ins Z T.heap a K true := by
    rcases hC with rfl | hC
    · exact Ins.self E
    · exact Ins.of_exa E hC
  obtain ⟨T', X', e', k⟩ := instY X hs.1 hZ hs.2.2.2.2.2.2 w rfl I (g := mkF m pc Ls (.ref a :: rest)) rfl rfl (hb hs.2.1 h1)
  exact ⟨T', X', e', k⟩
theorem Go.lookupHit {d : Int} {ps : Array (Int × Int)} {len : Nat} {k : Int32} {a off : Int} {pc2 : Nat} (hd : Dx code pc (.lookupswitch d ps) len pc') (hs : (ps.toList.zip (ps.toList.drop 1)).all (fun (a, next) => a.1 < next.1) = true) (hf : ps.find? (·.1 == k.toInt) = some (a, off)) (hp : ((pc : Int) + off).toNat = pc2) (ho : 0 ≤ (pc : Int) + off)
    (G : Go l Z a0 EL b n0 own code maxL ret nm R W0 Q D S cells slots pc2 Ls rest) : Go l Z a0 EL b n0 own code maxL ret nm R W0 Q D S cells slots pc Ls (.int k :: rest) := by
  obtain ⟨h1, rfl⟩ := hd
  subst hp
  exact Go.same (fun {p e s m args below meth c vm0 T locs} h X hZ _ hH => ⟨_, X, rfl, fun t q => X.lookupswitchHit h.1 (g := mkF m pc Ls (.int k :: rest)) rfl rfl (hb h.2.1 h1) hs hf ho t q⟩) G
theorem Go.lookupMiss {d : Int} {ps : Array (Int × Int)} {len : Nat} {k : Int32} {pc2 : Nat} (hd : Dx code pc (.lookupswitch d ps) len pc') (hs : (ps.toList.zip (ps.toList.drop 1)).all (fun (a, next) => a.1 < next.1) = true) (hf : ps.find? (·.1 == k.toInt) = none) (hp : ((pc : Int) + d).toNat = pc2) (ho : 0 ≤ (pc : Int) + d)
    (G : Go l Z a0 EL b n0 own code maxL ret nm R W0 Q D S cells slots pc2 Ls rest) : Go l Z a0 EL b n0 own code maxL ret nm R W0 Q D S cells slots pc Ls (.int k :: rest) := by
  obtain ⟨h1, rfl⟩ := hd
  subst hp
  exact Go.same (fun {p e s m args below meth c vm0 T locs} h X hZ _ hH => ⟨_, X, rfl, fun t q => X.lookupswitchMiss h.1 (g := mkF m pc Ls (.int k :: rest)) rfl rfl (hb h.2.1 h1) hs hf ho t q⟩) G
theorem Go.instanceofN {idx : Nat} {K C : String} {a : Addr} {fs : List (String × String × String × Value)} (hd : Dx code pc (.instanceof idx) 3 pc') (w : (Jvm.Cond.classLink own idx K).before a0 Z = true) (hm : In (a, .inl (C, fs)) D S) (F : ∃ c t, Z.vm.findClass C = some c ∧ Z.vm.findClass K = some t ∧ Z.vm.assignable c t = false)
    (G : Go l Z a0 EL b n0 own code maxL ret nm R W0 Q D S cells slots pc' Ls (.int 0 :: rest)) : Go l Z a0 EL b n0 own code maxL ret nm R W0 Q D S cells slots pc Ls (.ref a :: rest) := by
  obtain ⟨h1, rfl⟩ := hd
  refine Go.same (fun {p e s m args below meth c vm0 T locs} hs X hZ _ hH => ?_) G
  obtain ⟨E, -⟩ := (show KnO Z T.heap a C fs from hH.at hm)
  obtain ⟨T', X', e', k⟩ := instNo X hs.1 hZ hs.2.2.2.2.2.2 w rfl E F (g := mkF m pc Ls (.ref a :: rest)) rfl rfl (hb hs.2.1 h1)
  exact ⟨T', X', e', k⟩
theorem Go.instanceofNull {idx : Nat} (hd : Dx code pc (.instanceof idx) 3 pc') (G : Go l Z a0 EL b n0 own code maxL ret nm R W0 Q D S cells slots pc' Ls (.int 0 :: rest)) : Go l Z a0 EL b n0 own code maxL ret nm R W0 Q D S cells slots pc Ls (.null :: rest) := by
  obtain ⟨h1, rfl⟩ := hd
  exact Go.same (fun {p e s m args below meth c vm0 T locs} hs X hZ _ hH => ⟨_, X, rfl, X.instanceofNull hs.1 (g := mkF m pc Ls (.null :: rest)) rfl rfl (hb hs.2.1 h1)⟩) G
theorem Go.checkcastNull {idx : Nat} (hd : Dx code pc (.checkcast idx) 3 pc') (G : Go l Z a0 EL b n0 own code maxL ret nm R W0 Q D S cells slots pc' Ls (.null :: rest)) : Go l Z a0 EL b n0 own code maxL ret nm R W0 Q D S cells slots pc Ls (.null :: rest) := by
  obtain ⟨h1, rfl⟩ := hd
  exact Go.same (fun {p e s m args below meth c vm0 T locs} hs X hZ _ hH => ⟨_, X, rfl, X.checkcastNull hs.1 (g := mkF m pc Ls (.null :: rest)) rfl rfl (hb hs.2.1 h1)⟩) G
/-- a class whose chain of superclasses misses K, K known by what is said of its objects -/
theorem NSroot {O K : String} {n : Nat} (w : (Jvm.Cond.noSuperclass O).before a0 Z = true) (wk : (Jvm.Cond.instantiable K n).before a0 Z = true) (hn : O ≠ K) : NS Z O K := by
  obtain ⟨c, k, h1, h2, h3, -⟩ := Cond.noSuperclass_spec w
  obtain ⟨t, kt, g1, -⟩ := Cond.instantiable_spec wk
  have hne := ids_ne h1 g1 hn
  exact ⟨c, t, h1, g1, fun fuel => by cases fuel <;> simp [Vm.isSubclassAux, hne, h2, h3]⟩
theorem NSno {C S K : String} {n : Nat} (w : (Jvm.Cond.superclass C S).before a0 Z = true) (wk : (Jvm.Cond.instantiable K n).before a0 Z = true) (N : NS Z C K) (hn : C ≠ K) : ∃ c t, Z.vm.findClass C = some c ∧ Z.vm.findClass K = some t ∧ Z.vm.assignable c t = false := by
  obtain ⟨c, t, h0, g0, n3⟩ := N
  obtain ⟨-, k, -, -, h2, -, -, h5, -, -⟩ := Cond.superclass_spec h0 w
  obtain ⟨t', kt, g1, g2, g5, g7, -⟩ := Cond.instantiable_spec wk
  cases g0.symm.trans g1
  have g8 : kt.isInterface = false := by simp at g7; exact g7.1
  have hne := ids_ne h0 g0 hn
  refine ⟨c, t, h0, g0, ?_⟩
  show Z.vm.assignableAux (255 + 1) c t = false
  simp [Vm.assignableAux, hne, h2, g2, h5, g5, g8, Vm.isSubclass, n3]
/-! the end of a body -/
theorem Go.retCore {v : Option Value} (hQ : Q v D S) (hc : cells ≤ R.cells) (hl : slots ≤ R.slots) (hv : ret = none → v = none)
    (H : ∀ {p : Program} {e : Env} {s : State} {m : MethodId} {args : Array Value} {below : List Frame} {meth : Method} {c : Code} {vm0 : Vm} {T : State} {locs : List Loc}, Sst own code maxL ret nm p m meth c vm0 → Stand p l e R (s.setVm vm0) m args below meth c T locs cells slots → ∀ fs, (∀ (f : JFrame) (acts : List Action), f.method = m → f.locked = none → f.entered = [] → (doReturn e (T.setTop f) acts v).1 = T.setFrames fs) → Steps p.tables e below (T.setTop (mkF m pc Ls st)) (T.setFrames fs)) :
    Go l Z a0 EL b n0 own code maxL ret nm R W0 Q D S cells slots pc Ls st := by
  intro fr p e s m args below meth c vm0 T locs hs X I
  obtain ⟨⟨e1, e2, ⟨k0, e3, e4⟩, e5⟩, ⟨c1, c2, c3, c4⟩, hH, i4, i5, i6⟩ := I
  have hlk : meth.locks = false := hs.2.2.2.2.2.1
  obtain ⟨fs, k1, k2, k3, k4⟩ := X.leaveW e3 e4 (v := v) (fun q => hv (hs.2.2.2.1.symm.trans q))
  have hA := CHv.at X e2 e1 c1.1
  refine ⟨T.setFrames fs, v, H hs X fs k1, k2, k3, locs, ⟨D, S, hQ, hH, fun x hx => ?_, i5, c4, c2, c3, c1.trans hA, fun q => State.WarmedH.trans (e5 q) X.warmed⟩, ?_⟩
  · obtain ⟨r1, r2, r3, r4⟩ := i4 x hx
    exact ⟨r1, hA.safe (hH.1 x hx).lt r2, r3, r4⟩
  · obtain ⟨a1, a2, a3, a4⟩ := k4
    exact ⟨a1, a2, a3, a4.mono hc hl⟩
theorem Go.retB {t : FieldType} {z z' : Int32} (hd : Dx code pc .ireturn 1 pc') (ht : t = .boolean ∨ t = .byte ∨ t = .char ∨ t = .short) (hz : nar t z = z') (hQ : Q (some (.int z')) D S) (hc : cells ≤ R.cells := by exact Nat.le_of_ble_eq_true rfl) (hl : slots ≤ R.slots := by exact Nat.le_of_ble_eq_true rfl) :
    Go l Z a0 EL b n0 own code maxL (some t) nm R W0 Q D S cells slots pc Ls (.int z :: rest) := by
  obtain ⟨h1, rfl⟩ := hd
  subst hz
  exact Go.retCore hQ hc hl (fun q => by cases q) (fun {p e s m args below meth c vm0 T locs} hs X fs hfs => retN X hs.1 hs.2.2.2.1 ht (hb hs.2.1 h1) hfs)
theorem Go.retI {z : Int32} (hd : Dx code pc .ireturn 1 pc') (hQ : Q (some (.int z)) D S) (hc : cells ≤ R.cells := by exact Nat.le_of_ble_eq_true rfl) (hl : slots ≤ R.slots := by exact Nat.le_of_ble_eq_true rfl) :
    Go l Z a0 EL b n0 own code maxL (some .int) nm R W0 Q D S cells slots pc Ls (.int z :: rest) := by
  obtain ⟨h1, rfl⟩ := hd
  exact Go.retCore hQ hc hl (fun q => by cases q) (fun {p e s m args below meth c vm0 T locs} hs X fs hfs => retOut X hs.1 hs.2.2.2.1 rfl (Or.inl ⟨rfl, Or.inl rfl, z, rfl⟩) (hb hs.2.1 h1) hfs)
theorem Go.retL {z : Int64} (hd : Dx code pc .lreturn 1 pc') (hQ : Q (some (.long z)) D S) (hc : cells ≤ R.cells := by exact Nat.le_of_ble_eq_true rfl) (hl : slots ≤ R.slots := by exact Nat.le_of_ble_eq_true rfl) :
    Go l Z a0 EL b n0 own code maxL (some .long) nm R W0 Q D S cells slots pc Ls (.long z :: rest) := by
  obtain ⟨h1, rfl⟩ := hd
  exact Go.retCore hQ hc hl (fun q => by cases q) (fun {p e s m args below meth c vm0 T locs} hs X fs hfs => retOut X hs.1 hs.2.2.2.1 rfl (Or.inr (Or.inl ⟨rfl, rfl, z, rfl⟩)) (hb hs.2.1 h1) hfs)
theorem Go.retA {t : FieldType} {w : Value} (hd : Dx code pc .areturn 1 pc') (hQ : Q (some w) D S) (ht : t.isReference = true := by rfl) (hw : w.isRef = true := by rfl) (hn : narrow t w = w := by rfl) (hc : cells ≤ R.cells := by exact Nat.le_of_ble_eq_true rfl) (hl : slots ≤ R.slots := by exact Nat.le_of_ble_eq_true rfl) :
    Go l Z a0 EL b n0 own code maxL (some t) nm R W0 Q D S cells slots pc Ls (w :: rest) := by
  obtain ⟨h1, rfl⟩ := hd
  exact Go.retCore hQ hc hl (fun q => by cases q) (fun {p e s m args below meth c vm0 T locs} hs X fs hfs => retOut X hs.1 hs.2.2.2.1 hn (Or.inr (Or.inr (Or.inr (Or.inr ⟨rfl, ht, hw⟩)))) (hb hs.2.1 h1) hfs)
theorem Go.retV (hd : Dx code pc .return_ 1 pc') (hQ : Q none D S) (hc : cells ≤ R.cells := by exact Nat.le_of_ble_eq_true rfl) (hl : slots ≤ R.slots := by exact Nat.le_of_ble_eq_true rfl) :
    Go l Z a0 EL b n0 own code maxL none nm R W0 Q D S cells slots pc Ls [] := by
  obtain ⟨h1, rfl⟩ := hd
  exact Go.retCore hQ hc hl (fun _ => rfl) (fun {p e s m args below meth c vm0 T locs} hs X fs hfs => X.returnOut hs.1 hs.2.2.2.1 (hb hs.2.1 h1) hfs)
/-! a String constant -/
abbrev sob (c : Addr) : Ob := .inl ("java/lang/String", [("java/lang/String", "value", "[B", .ref c), ("java/lang/String", "coder", "B", .int 0)])
def LayS (Z : State) (a0 : Array Value) : Prop := (Jvm.Cond.laysFinal "java/lang/String" "java/lang/String" "value" "[B").before a0 Z = true ∧ (Jvm.Cond.laysFinal "java/lang/String" "java/lang/String" "coder" "B").before a0 Z = true
theorem LayS.nodup (h : LayS Z a0) : [Jvm.RoadKit.slotOf Z "java/lang/String" "value" "[B", Jvm.RoadKit.slotOf Z "java/lang/String" "coder" "B"].Nodup := by
  have q := slot_ne (Or.inr h.1) (Or.inr h.2) (by decide) (t := .array .byte) (t' := .byte) (by decide) (by decide)
  simp [q]
theorem knA_of_arv {h : Heap} {a : Addr} {k : ClassId} {z : Int32} {vs : List Value} {d : Value} {ty : FieldType} (F : Arv Z h a k ty z vs d) (hz : z.toNatClampNeg = vs.length) (hlt : vs.length < 2147483648) (hty : ∀ C, ty ≠ .object C) : KnA Z h a ty vs := by
  obtain ⟨c, A, -, h1, -, H, G⟩ := F
  have e : c.slots = vs.toArray := by
    apply Array.ext_getElem?
    intro i
    by_cases q : i < c.slots.size
    · rw [H i q]
      have : i < vs.length := by omega
      simp [List.getD, this]
    · rw [Array.getElem?_eq_none (by omega)]
      simp; omega
  refine ⟨c, A, e, hlt, fun v hv => ?_, fun C q => absurd q (hty C)⟩
  obtain ⟨i, hi, rfl⟩ := List.getElem_of_mem hv
  have := G i (by omega)
  simpa [List.getD, hi] using this
theorem Go.ldcStr {idx n : Nat} {text : String} {vs : List Value} (hd : Dx code pc (.ldc idx) 2 pc') (w : (Jvm.Cond.stringLink own idx text).before a0 Z = true) (wS : ∀ a ∈ Bundle.stringAtoms, a.before a0 Z = true) (hmem : (own, idx) ∈ EL) (hb1 : b = true) (hlay : LayS Z a0)
    (ht : (∀ c ∈ text.toList, c.toNat < 256) ∧ text.toList.map (fun c => Value.int (Jvm.Lit.byteI c.toNat.toUInt16)) = vs) (hn : 4 * text.toList.length ≤ n) (hbig : n ≤ 536870912) (hc : cells + 2 ≤ R.cells := by exact Nat.le_of_ble_eq_true rfl) (hl : slots + (n + 4) ≤ R.slots := by exact Nat.le_of_ble_eq_true rfl)
    (G : ∀ a c, Go l Z a0 EL b n0 own code maxL ret nm R W0 Q D ((a, sob c) :: (c, .inr (.byte, vs)) :: S) (cells + 2) (slots + (n + 4)) pc' Ls (.ref a :: st)) : Go l Z a0 EL b n0 own code maxL ret nm R W0 Q D S cells slots pc Ls st := by
  obtain ⟨h1, rfl⟩ := hd
  intro fr p e s m args below meth c vm0 T locs hs X I
  obtain ⟨⟨e1, e2, ⟨k0, e3, e4⟩, e5⟩, ⟨c1, c2, c3, c4⟩, hH, i4, i5, i6⟩ := I
  have hlen : vs.length = text.toList.length := by rw [← ht.2, List.length_map]
  have hvl : vs.length < 2147483648 := by omega
  have hz : (vs.length.toInt32).toNatClampNeg = vs.length := by
    have q : vs.length.toInt32.toInt = vs.length := len_toInt hvl
    simp only [Int32.toNatClampNeg, q]; omega
  have hz0 : ¬ vs.length.toInt32 < 0 := by
    have q : vs.length.toInt32.toInt = vs.length := len_toInt hvl
    simp only [Int32.lt_iff_toInt_lt, q, Int32.reduceToInt]; omega
  obtain ⟨a, T', h', k1, cb, k, X', rfl, E, hS', hk', hW', hf', F1, F2, F3, F4, l1, l2, hC, hL, hne, st⟩ := ldcCH X hs.1 e2 hs.2.2.2.2.2.2 w wS rfl e3 e4 e1 hmem c1.1 ht hz0 hz (g := mkF m pc Ls st) rfl (hb hs.2.1 h1) hn hbig hc hl
  have sf : ∀ x ∈ D, Safe Z EL T'.vm T'.heap x.1 := fun x hx => hC.safe (hH.1 x hx).lt (i4 x hx).2.1
  have ff : ∀ y, fr y → Safe Z EL T'.vm T'.heap y := fun y hy => hC.safe (Nat.lt_of_lt_of_le (i6 y hy).2.2 c1.2.1) (i6 y hy).2.1
  obtain ⟨t, v, k', r⟩ := G a cb fr p e s m args below meth c T'.vm T' locs ⟨hs.1, hs.2.1, hs.2.2.1, hs.2.2.2.1, hs.2.2.2.2.1, hs.2.2.2.2.2.1, hf'⟩ X'
    ⟨⟨e1, hW', ⟨k1, hS', hk'⟩, fun q => by rw [hb1] at q; cases q⟩, ⟨c1.trans hC, c2, c3.ext E, c4.ext E⟩, ⟨fun x hx => (hH.1 x hx).ext E, fun x hx => by
        rcases List.mem_cons.mp hx with rfl | hx
        · refine ⟨F1, fun f hf => ?_, hlay.nodup⟩
          rcases List.mem_cons.mp hf with rfl | hf
          · exact F3
          · cases List.mem_singleton.mp hf; exact F2
        · rcases List.mem_cons.mp hx with rfl | hx
          · exact knA_of_arv F4 hz hvl (by simp)
          · exact (hH.2.1 x hx).ext E, hH.2.2.1, fun x hx q => by
        obtain ⟨z, hz', ez⟩ := List.mem_map.mp q
        rcases List.mem_cons.mp hx with rfl | hx
        · exact (hne _ (sf z hz')).1 ez
        · rcases List.mem_cons.mp hx with rfl | hx
          · exact (hne _ (sf z hz')).2 ez
          · exact hH.2.2.2 x hx q⟩, fun x hx => ⟨(i4 x hx).1, sf x hx, (i4 x hx).2.2⟩, fun x hx q => by
        rcases List.mem_cons.mp hx with rfl | hx
        · exact (hne _ (ff _ q)).1 rfl
        · rcases List.mem_cons.mp hx with rfl | hx
          · exact (hne _ (ff _ q)).2 rfl
          · exact i5 x hx q, fun y hy => ⟨(i6 y hy).1, ff y hy, (i6 y hy).2.2⟩⟩
  exact ⟨t, v, st t k', r⟩
/-! calls -/
theorem Met.backS {y : MethodName} {bytes : ByteArray} {mL : Nat} {rt : Option FieldType} {rm : Room} {as' : List Value} {D0 S0 : List Ent} {Q' : Option Value → List Ent → List Ent → Prop} {p : Program} {e : Env} {below : List Frame} {s : State} {vm0 : Vm} {args : Array Value} {len W : Nat} (hM : Met l Z a0 EL b n0 y bytes mL rt [] rm as' D0 S0 Q') (fr : Addr → Prop)
    (hZ : Z.Warmed39 vm0) (wc : (Jvm.Cond.code y bytes mL rt).before a0 Z = true) (wz : (Jvm.Cond.initialized y.cls).before a0 Z = true) (hf : rm.frames + 1 ≤ R.frames) (hl : W + (mL + 11) + rm.locals ≤ R.locals) :
    BackS l R p e below (s.setVm vm0) args y len W (fun A a => a = as'.toArray ∧ PreC Z a0 EL n0 fr D0 S0 A.U ∧ A.cells + rm.cells ≤ R.cells ∧ A.slots + rm.slots ≤ R.slots)
      (fun A _ v B => ∃ L, PostC Z EL b n0 (D0.map Prod.fst) fr Q' A.U B.U v L ∧ B.locs = A.locs ++ L ∧ B.cells = A.cells + rm.cells ∧ B.slots = A.slots + rm.slots) :=
  BackS.of_freeW (bytes := bytes) (maxL := mL) (ret := rt) (E := fun _ first o t L k n => k = rm.cells ∧ n = rm.slots ∧ ∃ v, o = .returned v ∧ PostC Z EL b n0 (D0.map Prod.fst) fr Q' first t v L) (hM fr) hf hl
    (fun m meth c A a Y hp => have hU : Z.Warmed39 A.U.vm := wtrans (s := s.setVm vm0) hZ Y.warmed
      ⟨by show (Jvm.Cond.and _ .tt).before a A.U = true; rw [Cond.before_and, mv hU wc]; rfl, mv hU wc, mv hU wz, hp.2.2.1, hp.2.2.2⟩)
    (fun m meth c A a g mk Y hp => ⟨hp.1, hp.2.1⟩) (fun _ _ _ _ _ _ _ _ _ => trivial)
    (fun _ _ _ _ ⟨v, L, h1, h2, h3⟩ => ⟨L, _, _, h3, rfl, rfl, v, h1, h2⟩)
    (fun m meth c A a g mk v t L k n Y hp _ _ ⟨e1, e2, v', e3, e4⟩ => by cases e3; subst e1 e2; exact ⟨L, e4, rfl, rfl, rfl⟩)
theorem Go.callCore {y : MethodName} {bytes : ByteArray} {mL : Nat} {rt : Option FieldType} {rm : Room} {as' : List Value} {D0 Dr S0 : List Ent} {Q' : Option Value → List Ent → List Ent → Prop} {len W : Nat} (lend : Bool) (hM : Met l Z a0 EL b n0 y bytes mL rt [] rm as' D0 S0 Q')
    (wc : (Jvm.Cond.code y bytes mL rt).before a0 Z = true) (wz : (Jvm.Cond.initialized y.cls).before a0 Z = true) (hf : rm.frames + 1 ≤ R.frames) (hlo : W + (mL + 11) + rm.locals ≤ R.locals) (hce : cells + rm.cells ≤ R.cells) (hsl : slots + rm.slots ≤ R.slots)
    (hD : D = D0 ++ Dr) (hS : ∀ x ∈ S0, x ∈ S ∨ (lend = true ∧ x ∈ Dr))
    (H : ∀ {p : Program} {e : Env} {s : State} {m : MethodId} {args : Array Value} {below : List Frame} {meth : Method} {c : Code} {vm0 : Vm} {T : State} {locs : List Loc}, Sst own code maxL ret nm p m meth c vm0 → Stand p l e R (s.setVm vm0) m args below meth c T locs cells slots → Z.Warmed39 (s.setVm vm0).vm → HH Z T.heap D S →
      ∀ {Pre : Pt → Array Value → Prop} {Post : Pt → Array Value → Option Value → Pt → Prop}, BackS l R p e below (s.setVm vm0) args y len W Pre Post → (∀ vm₁, (s.setVm vm0).WarmedH vm₁ → Pre ⟨T.setVm vm₁, locs, cells, slots⟩ as'.toArray) →
      ∃ (v : Option Value) (vm₁ : Vm) (B : Pt), (s.setVm vm0).WarmedH vm₁ ∧ Stand p l e R ((s.setVm vm0).setVm B.U.vm) m args below meth c B.U B.locs B.cells B.slots ∧ (s.setVm vm0).Since B.U.vm B.U.heap.size ∧ T.heap.size ≤ B.U.heap.size ∧ Post ⟨T.setVm vm₁, locs, cells, slots⟩ as'.toArray v B ∧
        Steps p.tables e below (T.setTop (mkF m pc Ls st)) (B.U.setTop (mkF m pc' Ls (v.toList ++ rest))))
    (G : ∀ v D' S', Q' v D' S' → Go l Z a0 EL b n0 own code maxL ret nm R W0 Q (D' ++ Dr) (bif lend then S else S' ++ S) (cells + rm.cells) (slots + rm.slots) pc' Ls (v.toList ++ rest)) : Go l Z a0 EL b n0 own code maxL ret nm R W0 Q D S cells slots pc Ls st := by
  intro fr p e s m args below meth c vm0 T locs hs X I
  obtain ⟨⟨e1, e2, ⟨k0, e3, e4⟩, e5⟩, ⟨c1, c2, c3, c4⟩, hH, i4, i5, i6⟩ := I
  subst hD
  have nd := hH.2.2.1
  rw [List.map_append, List.nodup_append] at nd
  obtain ⟨nd0, ndr, ndx⟩ := nd
  have sep : ∀ x ∈ D0, x.1 ∉ Dr.map Prod.fst := fun x hx q => ndx _ (List.mem_map.mpr ⟨x, hx, rfl⟩) _ q rfl
  have sep' : ∀ x ∈ Dr, x.1 ∉ D0.map Prod.fst := fun x hx q => ndx _ q _ (List.mem_map.mpr ⟨x, hx, rfl⟩) rfl
  have hA : ∀ vm₁, (s.setVm vm0).WarmedH vm₁ → CHr Z EL vm0 T.heap vm₁ T.heap := fun vm₁ hW => by
    have q := CHv.later (h' := T.heap) e2 (hW := (show (Wst Z vm0 T.heap).Warmed39 vm₁ from hW.wide)) e1 ⟨Nat.le_refl _, fun _ _ q => q⟩ (Or.inl hW.interned_eq) c1.1
    exact ⟨q.1, Nat.le_refl _, q.2⟩
  have hss : s.heap.size ≤ T.heap.size := c1.2.1
  have hpre : ∀ vm₁, (s.setVm vm0).WarmedH vm₁ → PreC Z a0 EL n0 (fun y => fr y ∨ (lend = false ∧ y ∈ Dr.map Prod.fst)) D0 S0 (T.setVm vm₁) := fun vm₁ hW => by
    have A := hA vm₁ hW
    refine ⟨e1, wtrans (s := s.setVm vm0) (U := T.setVm vm₁) e2 hW, A.1, c3, hH.sub (fun x hx => List.mem_append_left _ hx) nd0 (fun x hx => ?_), fun x hx => ?_, fun x hx q => ?_, fun y hy => ?_⟩
    · rcases hS x hx with q | ⟨-, q⟩
      · exact Or.inl q
      · exact Or.inr ⟨List.mem_append_right _ q, sep' x q⟩
    · obtain ⟨r1, r2, r3, r4⟩ := i4 x (List.mem_append_left _ hx)
      exact ⟨r1, A.safe (hH.1 x (List.mem_append_left _ hx)).lt r2, fun q => q.elim r3 fun r => sep x hx r.2⟩
    · rcases hS x hx with r | ⟨r0, r⟩
      · rcases q with q | ⟨-, q⟩
        · exact i5 x r q
        · exact hH.2.2.2 x r (by rw [List.map_append]; exact List.mem_append_right _ q)
      · rcases q with q | ⟨q0, -⟩
        · exact (i4 x (List.mem_append_right _ r)).2.2.1 q
        · rw [r0] at q0; cases q0
    · rcases hy with hy | ⟨-, hy⟩
      · obtain ⟨r1, r2, r3⟩ := i6 y hy
        exact ⟨r1, A.safe (Nat.lt_of_lt_of_le r3 hss) r2, Nat.lt_of_lt_of_le r3 hss⟩
      · obtain ⟨x, hx, rfl⟩ := List.mem_map.mp hy
        obtain ⟨r1, r2, r3, r4⟩ := i4 x (List.mem_append_right _ hx)
        have lt := (hH.1 x (List.mem_append_right _ hx)).lt
        exact ⟨r1, A.safe lt r2, lt⟩
  obtain ⟨v, vm₁, ⟨U, Lc, kc, nc⟩, hW, X', hS', hg, ⟨L, hP, l1, l2, l3⟩, k⟩ := H hs X e2 hH (hM.backS (fun y => fr y ∨ (lend = false ∧ y ∈ Dr.map Prod.fst)) e2 wc wz hf hlo) (fun vm₁ hW => ⟨rfl, hpre vm₁ hW, hce, hsl⟩)
  dsimp only [Pt.U, Pt.locs, Pt.cells, Pt.slots] at X' hS' hg hP l1 l2 l3 k
  subst l1 l2 l3
  obtain ⟨D', S', hq, hH', hD', hS'', hK, hFr, hO, hC, hWb⟩ := hP
  have hK : Keep T.heap U.heap (D0.map Prod.fst) := hK
  have hC0 : CHr Z EL vm₁ T.heap U.vm U.heap := hC
  have hC1 : CHr Z EL vm0 T.heap U.vm U.heap := (hA vm₁ hW).trans hC0
  have new' : ∀ x ∈ D', x.1 ∉ Dr.map Prod.fst ∧ (∀ z ∈ S, z.1 ≠ x.1) := fun x hx => by
    rcases (hD' x hx).2.2.2 with q | q
    · refine ⟨fun r => ndx _ q _ r rfl, fun z hz r => hH.2.2.2 z hz ?_⟩
      rw [List.map_append, r]; exact List.mem_append_left _ q
    · have q : T.heap.size ≤ x.1 := q
      refine ⟨fun r => ?_, fun z hz r => ?_⟩
      · obtain ⟨z, hz, ez⟩ := List.mem_map.mp r
        have ez := aN ez; have q := aM q; have := aL (hH.1 z (List.mem_append_right _ hz)).lt; omega
      · have r := aN r; have q := aM q; have := aL (hH.2.1 z hz).lt; omega
  have kdr : ∀ x ∈ Dr, Kn Z U.heap x := fun x hx => (hH.1 x (List.mem_append_right _ hx)).keep hK (sep' x hx)
  have ks : ∀ x ∈ S, Kn Z U.heap x := fun x hx => (hH.2.1 x hx).keep hK (fun q => hH.2.2.2 x hx (by rw [List.map_append]; exact List.mem_append_left _ q))
  have hHH : HH Z U.heap (D' ++ Dr) (bif lend then S else S' ++ S) := by
    refine ⟨fun x hx => (List.mem_append.mp hx).elim (hH'.1 x) (kdr x), fun x hx => ?_, ?_, fun x hx => ?_⟩
    · cases lend
      · exact (List.mem_append.mp hx).elim (hH'.2.1 x) (ks x)
      · exact ks x hx
    · rw [List.map_append, List.nodup_append]
      refine ⟨hH'.2.2.1, ndr, fun a ha b hb e => ?_⟩
      obtain ⟨x, hx, rfl⟩ := List.mem_map.mp ha
      exact (new' x hx).1 (e ▸ hb)
    · have hSs : ∀ x ∈ S, x.1 ∉ (D' ++ Dr).map Prod.fst := fun x hx q => by
        rw [List.map_append, List.mem_append] at q
        rcases q with q | q
        · obtain ⟨z, hz, ez⟩ := List.mem_map.mp q
          exact (new' z hz).2 x hx ez.symm
        · exact hH.2.2.2 x hx (by rw [List.map_append]; exact List.mem_append_right _ q)
      cases lend
      · rcases List.mem_append.mp hx with hx | hx
        · rw [List.map_append, List.mem_append]
          rintro (q | q)
          · exact hH'.2.2.2 x hx q
          · exact hS'' x hx (Or.inr ⟨rfl, q⟩)
        · exact hSs x hx
      · exact hSs x hx
  have hZU : Z.Warmed39 U.vm := State.Warmed39.trans (t := s.setVm vm0) e2 hS'.1
  obtain ⟨t, v', k', r⟩ := G v D' S' hq fr p e s m args below meth c U.vm U (locs ++ L) ⟨hs.1, hs.2.1, hs.2.2.1, hs.2.2.2.1, hs.2.2.2.2.1, hs.2.2.2.2.2.1, by rw [hS'.1.alike.findClass]; exact hs.2.2.2.2.2.2⟩ X'
    ⟨⟨e1, hZU, ⟨U.heap.size, e3.trans hS' (Nat.le_trans e4 hg), Nat.le_refl _⟩, fun q => State.WarmedH.trans (State.WarmedH.trans (t := s.setVm vm0) (e5 q) hW) (hWb q)⟩,
      ⟨c1.trans hC1, c2.app hFr, hO, c4.trans hK (fun x hx => by
        obtain ⟨z, hz, rfl⟩ := List.mem_map.mp hx
        exact (i4 z (List.mem_append_left _ hz)).2.2.2)⟩, hHH, fun x hx => by
        rcases List.mem_append.mp hx with hx | hx
        · obtain ⟨r1, r2, r3, r4⟩ := hD' x hx
          refine ⟨r1, r2, fun q => r3 (Or.inl q), ?_⟩
          rcases r4 with q | q
          · obtain ⟨z, hz, ez⟩ := List.mem_map.mp q
            rw [← ez]; exact (i4 z (List.mem_append_left _ hz)).2.2.2
          · exact Or.inr (Nat.le_trans hss q)
        · obtain ⟨r1, r2, r3, r4⟩ := i4 x (List.mem_append_right _ hx)
          exact ⟨r1, hC1.safe (hH.1 x (List.mem_append_right _ hx)).lt r2, r3, r4⟩, fun x hx => by
        cases lend
        · rcases List.mem_append.mp hx with hx | hx
          · exact fun q => hS'' x hx (Or.inl q)
          · exact i5 x hx
        · exact i5 x hx, fun y hy => by
        obtain ⟨r1, r2, r3⟩ := i6 y hy
        exact ⟨r1, hC1.safe (Nat.lt_of_lt_of_le r3 hss) r2, r3⟩⟩
  exact ⟨t, v', k.trans k', r⟩
/-- the state, written anew -/
theorem Go.norm {D2 S2 : List Ent} {c2 s2 pc2 : Nat} {Ls2 : Array Slot} {st2 : List Value} (G : Go l Z a0 EL b n0 own code maxL ret nm R W0 Q D2 S2 c2 s2 pc2 Ls2 st2) (h1 : D = D2 := by rfl) (h2 : S = S2 := by rfl) (h3 : cells = c2 := by rfl) (h4 : slots = s2 := by rfl) (h5 : pc = pc2 := by rfl) (h6 : Ls = Ls2 := by rfl) (h7 : st = st2 := by rfl) :
    Go l Z a0 EL b n0 own code maxL ret nm R W0 Q D S cells slots pc Ls st := by
  subst h1 h2 h3 h4 h5 h6 h7; exact G
section Calls
variable {y : MethodName} {bytes : ByteArray} {mL : Nat} {rt : Option FieldType} {rm : Room} {argsL : List Value} {D0 Dr S0 : List Ent} {Q' : Option Value → List Ent → List Ent → Prop} {idx : Nat} {ps : List FieldType} {rr : Option FieldType}
theorem Go.invokestatic (lend : Bool) (hd : Dx code pc (.invokestatic idx) 3 pc') (w1 : (Jvm.Cond.methodLink own idx y).before a0 Z = true) (w2 : (Jvm.Cond.static y).before a0 Z = true) (w3 : (Jvm.Cond.initialized y.cls).before a0 Z = true) (w4 : (Jvm.Cond.code y bytes mL rt).before a0 Z = true) (hM : Met l Z a0 EL b n0 y bytes mL rt [] rm argsL D0 S0 Q')
    (hp : parseMethodDescriptor y.desc = some ⟨ps, rr⟩) (hlen : argsL.length = ps.length) (hst : st = argsL.reverse ++ rest) (hls : Ls.size = maxL) (hD : D = D0 ++ Dr) (hS : ∀ x ∈ S0, x ∈ S ∨ (lend = true ∧ x ∈ Dr)) (hy : y.cls ≠ "java/lang/invoke/MethodHandle" ∧ y.cls ≠ "java/lang/invoke/VarHandle" := by decide)
    (hf : rm.frames + 1 ≤ R.frames := by exact Nat.le_of_ble_eq_true rfl) (hlo : (rest.map fun v => v.category).sum + (mL + 11) + rm.locals ≤ R.locals := by exact Nat.le_of_ble_eq_true rfl) (hce : cells + rm.cells ≤ R.cells := by exact Nat.le_of_ble_eq_true rfl) (hsl : slots + rm.slots ≤ R.slots := by exact Nat.le_of_ble_eq_true rfl)
    (G : ∀ v D' S', Q' v D' S' → Go l Z a0 EL b n0 own code maxL ret nm R W0 Q (D' ++ Dr) (bif lend then S else S' ++ S) (cells + rm.cells) (slots + rm.slots) pc' Ls (v.toList ++ rest)) : Go l Z a0 EL b n0 own code maxL ret nm R W0 Q D S cells slots pc Ls st := by
  obtain ⟨h1, rfl⟩ := hd
  subst hst
  refine Go.callCore (len := 3) lend hM w4 w3 hf hlo hce hsl hD hS (fun {p e s m args below meth c vm0 T locs} hs X hZ hH {Pre Post} hB hpre => ?_) G
  exact callSS X hs.1 hs.2.2.2.2.2.2 (mvT hZ w1) (mvT hZ w2) (mvT hZ w3) (mvT hZ w4) hy hB (g := mkF m pc Ls (argsL.reverse ++ rest)) rfl (hls.trans hs.2.2.1.symm) (argsL := argsL) (rest := rest) (lenOf hp hlen) rfl (by show 2 * 0 + _ ≤ _; omega) (hb hs.2.1 h1) hpre
theorem Go.invokeinit {a : Addr} (lend : Bool) (hd : Dx code pc (.invokespecial idx) 3 pc') (hy1 : y.name = "<init>") (w1 : (Jvm.Cond.methodLink own idx y).before a0 Z = true) (w2 : (Jvm.Cond.instanceMethod y).before a0 Z = true) (w3 : (Jvm.Cond.initialized y.cls).before a0 Z = true) (w4 : (Jvm.Cond.code y bytes mL none).before a0 Z = true) (hM : Met l Z a0 EL b n0 y bytes mL none [] rm (.ref a :: argsL) D0 S0 Q')
    (hp : parseMethodDescriptor y.desc = some ⟨ps, rr⟩) (hlen : argsL.length = ps.length) (hst : st = argsL.reverse ++ .ref a :: rest) (hls : Ls.size = maxL) (hD : D = D0 ++ Dr) (hS : ∀ x ∈ S0, x ∈ S ∨ (lend = true ∧ x ∈ Dr)) (hy : y.cls ≠ "java/lang/invoke/MethodHandle" ∧ y.cls ≠ "java/lang/invoke/VarHandle" := by decide)
    (hf : rm.frames + 1 ≤ R.frames := by exact Nat.le_of_ble_eq_true rfl) (hlo : (rest.map fun v => v.category).sum + (mL + 11) + rm.locals ≤ R.locals := by exact Nat.le_of_ble_eq_true rfl) (hce : cells + rm.cells ≤ R.cells := by exact Nat.le_of_ble_eq_true rfl) (hsl : slots + rm.slots ≤ R.slots := by exact Nat.le_of_ble_eq_true rfl)
    (G : ∀ v D' S', Q' v D' S' → Go l Z a0 EL b n0 own code maxL ret nm R W0 Q (D' ++ Dr) (bif lend then S else S' ++ S) (cells + rm.cells) (slots + rm.slots) pc' Ls (v.toList ++ rest)) : Go l Z a0 EL b n0 own code maxL ret nm R W0 Q D S cells slots pc Ls st := by
  obtain ⟨h1, rfl⟩ := hd
  subst hst
  refine Go.callCore (len := 3) lend hM w4 w3 hf hlo hce hsl hD hS (fun {p e s m args below meth c vm0 T locs} hs X hZ hH {Pre Post} hB hpre => ?_) G
  exact X.specialBackS hs.1 hy1 hs.2.2.2.2.2.2 (mvT hZ w1) (mvT hZ w2) (mvT hZ w4) hy hB (g := mkF m pc Ls (argsL.reverse ++ .ref a :: rest)) rfl (hls.trans hs.2.2.1.symm) (Steps.refl _) (a := a) (argsL := argsL) (rest := rest) (lenOf hp hlen) rfl (by show 2 * 0 + _ ≤ _; omega) (hb hs.2.1 h1) hpre
theorem Go.invokevirtual {a : Addr} {z : MethodName} {C : String} {fs : List (String × String × String × Value)} (lend : Bool) (hd : Dx code pc (.invokevirtual idx) 3 pc') (w1 : (Jvm.Cond.methodLink own idx y).before a0 Z = true) (w2 : (Jvm.Cond.declares y).before a0 Z = true) (w5 : (Jvm.Cond.selects C y z).before a0 Z = true) (w6 : (Jvm.Cond.instanceMethod z).before a0 Z = true) (w3 : (Jvm.Cond.initialized z.cls).before a0 Z = true) (w4 : (Jvm.Cond.code z bytes mL rt).before a0 Z = true)
    (hnf : ∀ s : State, Z.Warmed39 s.vm → NotFace s y) (hm : In (a, .inl (C, fs)) D S) (hM : Met l Z a0 EL b n0 z bytes mL rt [] rm (.ref a :: argsL) D0 S0 Q')
    (hp : parseMethodDescriptor y.desc = some ⟨ps, rr⟩) (hlen : argsL.length = ps.length) (hst : st = argsL.reverse ++ .ref a :: rest) (hls : Ls.size = maxL) (hD : D = D0 ++ Dr) (hS : ∀ x ∈ S0, x ∈ S ∨ (lend = true ∧ x ∈ Dr)) (hy : y.cls ≠ "java/lang/invoke/MethodHandle" ∧ y.cls ≠ "java/lang/invoke/VarHandle" := by decide)
    (hf : rm.frames + 1 ≤ R.frames := by exact Nat.le_of_ble_eq_true rfl) (hlo : (rest.map fun v => v.category).sum + (mL + 11) + rm.locals ≤ R.locals := by exact Nat.le_of_ble_eq_true rfl) (hce : cells + rm.cells ≤ R.cells := by exact Nat.le_of_ble_eq_true rfl) (hsl : slots + rm.slots ≤ R.slots := by exact Nat.le_of_ble_eq_true rfl)
    (G : ∀ v D' S', Q' v D' S' → Go l Z a0 EL b n0 own code maxL ret nm R W0 Q (D' ++ Dr) (bif lend then S else S' ++ S) (cells + rm.cells) (slots + rm.slots) pc' Ls (v.toList ++ rest)) : Go l Z a0 EL b n0 own code maxL ret nm R W0 Q D S cells slots pc Ls st := by
  obtain ⟨h1, rfl⟩ := hd
  subst hst
  refine Go.callCore (len := 3) lend hM w4 w3 hf hlo hce hsl hD hS (fun {p e s m args below meth c vm0 T locs} hs X hZ hH {Pre Post} hB hpre => ?_) G
  obtain ⟨E, -⟩ := (show KnO Z T.heap a C fs from hH.at hm)
  obtain ⟨cB, kB, q1, q2, q3⟩ := isOf hZ rfl E
  exact X.virtualBackS hs.1 hs.2.2.2.2.2.2 (mvT hZ w1) (mvT hZ w2) (hnf _ hZ) (mvT hZ w5) (mvT hZ w6) hy hB q1 q3 (g := mkF m pc Ls (argsL.reverse ++ .ref a :: rest)) rfl (hls.trans hs.2.2.1.symm) (Steps.refl _) (argsL := argsL) (rest := rest) (lenOf hp hlen) rfl (by show 2 * 0 + _ ≤ _; omega) (hb hs.2.1 h1) hpre
/-- the class that declares it selects it: no interface -/
theorem nfSel {C : String} (w : (Jvm.Cond.selects C y y).before a0 Z = true) : ∀ s : State, Z.Warmed39 s.vm → NotFace s y := fun s hZ => notFace_of_selects (args := #[]) (mvT hZ w)
theorem Go.invokeprivate {a : Addr} {C : String} {fs : List (String × String × String × Value)} (lend : Bool) (hd : Dx code pc (.invokevirtual idx) 3 pc') (w1 : (Jvm.Cond.methodLink own idx y).before a0 Z = true) (w2 : (Jvm.Cond.instanceMethod y).before a0 Z = true) (w5 : (Jvm.Cond.selects y.cls y y).before a0 Z = true) (w6 : (Jvm.Cond.privateMethod y).before a0 Z = true) (w3 : (Jvm.Cond.initialized y.cls).before a0 Z = true) (w4 : (Jvm.Cond.code y bytes mL rt).before a0 Z = true)
    (hm : In (a, .inl (C, fs)) D S) (hM : Met l Z a0 EL b n0 y bytes mL rt [] rm (.ref a :: argsL) D0 S0 Q')
    (hp : parseMethodDescriptor y.desc = some ⟨ps, rr⟩) (hlen : argsL.length = ps.length) (hst : st = argsL.reverse ++ .ref a :: rest) (hls : Ls.size = maxL) (hD : D = D0 ++ Dr) (hS : ∀ x ∈ S0, x ∈ S ∨ (lend = true ∧ x ∈ Dr)) (hy : y.cls ≠ "java/lang/invoke/MethodHandle" ∧ y.cls ≠ "java/lang/invoke/VarHandle" := by decide)
    (hf : rm.frames + 1 ≤ R.frames := by exact Nat.le_of_ble_eq_true rfl) (hlo : (rest.map fun v => v.category).sum + (mL + 11) + rm.locals ≤ R.locals := by exact Nat.le_of_ble_eq_true rfl) (hce : cells + rm.cells ≤ R.cells := by exact Nat.le_of_ble_eq_true rfl) (hsl : slots + rm.slots ≤ R.slots := by exact Nat.le_of_ble_eq_true rfl)
    (G : ∀ v D' S', Q' v D' S' → Go l Z a0 EL b n0 own code maxL ret nm R W0 Q (D' ++ Dr) (bif lend then S else S' ++ S) (cells + rm.cells) (slots + rm.slots) pc' Ls (v.toList ++ rest)) : Go l Z a0 EL b n0 own code maxL ret nm R W0 Q D S cells slots pc Ls st := by
  obtain ⟨h1, rfl⟩ := hd
  subst hst
  refine Go.callCore (len := 3) lend hM w4 w3 hf hlo hce hsl hD hS (fun {p e s m args below meth c vm0 T locs} hs X hZ hH {Pre Post} hB hpre => ?_) G
  obtain ⟨E, -⟩ := (show KnO Z T.heap a C fs from hH.at hm)
  obtain ⟨cq, q1, q2⟩ := E.cell
  exact X.privateBackS hs.1 hs.2.2.2.2.2.2 (mvT hZ w1) (mvT hZ w2) (mvT hZ w5) (Cond.privateMethod_at (mvP hZ w6 (args := #[]))) (mvT hZ w4) hy hB (g := mkF m pc Ls (argsL.reverse ++ .ref a :: rest)) rfl (hls.trans hs.2.2.1.symm) (Steps.refl _) q1 q2 (argsL := argsL) (rest := rest) (lenOf hp hlen) rfl (by show 2 * 0 + _ ≤ _; omega) (hb hs.2.1 h1) hpre
theorem Go.invokeinterface {a : Addr} {xi : MethodName} {count : Nat} {C : String} {fs : List (String × String × String × Value)} (lend : Bool) (hd : Dx code pc (.invokeinterface idx count) 5 pc') (w1 : (Jvm.Cond.methodLink own idx xi).before a0 Z = true) (w2 : (Jvm.Cond.declares xi).before a0 Z = true) (w7 : (Jvm.Cond.interfaceMethod xi.cls xi.cls xi.name xi.desc).before a0 Z = true) (w5 : (Jvm.Cond.selects C xi y).before a0 Z = true) (w6 : (Jvm.Cond.instanceMethod y).before a0 Z = true) (w8 : (Jvm.Cond.publicMethod y).before a0 Z = true) (w9 : (Jvm.Cond.unhidden C xi.name xi.desc).before a0 Z = true) (w10 : (Jvm.Cond.castable C xi.cls).before a0 Z = true)
    (w3 : (Jvm.Cond.initialized y.cls).before a0 Z = true) (w4 : (Jvm.Cond.code y bytes mL rt).before a0 Z = true) (hm : In (a, .inl (C, fs)) D S) (hM : Met l Z a0 EL b n0 y bytes mL rt [] rm (.ref a :: argsL) D0 S0 Q')
    (hp : parseMethodDescriptor xi.desc = some ⟨ps, rr⟩) (hlen : argsL.length = ps.length) (hst : st = argsL.reverse ++ .ref a :: rest) (hls : Ls.size = maxL) (hD : D = D0 ++ Dr) (hS : ∀ x ∈ S0, x ∈ S ∨ (lend = true ∧ x ∈ Dr)) (hy : xi.cls ≠ "java/lang/invoke/MethodHandle" ∧ xi.cls ≠ "java/lang/invoke/VarHandle" := by decide)
    (hk7 : ((Jvm.Cond.interfaceMethod xi.cls xi.cls xi.name xi.desc).onTables && (Jvm.Cond.interfaceMethod xi.cls xi.cls xi.name xi.desc).keepsFace) = true := by first | rfl | decide)
    (hf : rm.frames + 1 ≤ R.frames := by exact Nat.le_of_ble_eq_true rfl) (hlo : (rest.map fun v => v.category).sum + (mL + 11) + rm.locals ≤ R.locals := by exact Nat.le_of_ble_eq_true rfl) (hce : cells + rm.cells ≤ R.cells := by exact Nat.le_of_ble_eq_true rfl) (hsl : slots + rm.slots ≤ R.slots := by exact Nat.le_of_ble_eq_true rfl)
    (G : ∀ v D' S', Q' v D' S' → Go l Z a0 EL b n0 own code maxL ret nm R W0 Q (D' ++ Dr) (bif lend then S else S' ++ S) (cells + rm.cells) (slots + rm.slots) pc' Ls (v.toList ++ rest)) : Go l Z a0 EL b n0 own code maxL ret nm R W0 Q D S cells slots pc Ls st := by
  obtain ⟨h1, rfl⟩ := hd
  subst hst
  refine Go.callCore (len := 5) lend hM w4 w3 hf hlo hce hsl hD hS (fun {p e s m args below meth c vm0 T locs} hs X hZ hH {Pre Post} hB hpre => ?_) G
  obtain ⟨E, -⟩ := (show KnO Z T.heap a C fs from hH.at hm)
  obtain ⟨cB, kB, q1, q2, q3⟩ := isOf hZ rfl E
  exact X.interfaceBackS hs.1 hs.2.2.2.2.2.2 (mvT hZ w1) (mvT hZ w2) (mvT hZ w7 hk7) (mvT hZ w5) (mvT hZ w6) (mvT hZ w8) (mvT hZ w9) (mvT hZ w10) hy hB q1 q2 q3 (g := mkF m pc Ls (argsL.reverse ++ .ref a :: rest)) rfl (hls.trans hs.2.2.1.symm) (Steps.refl _) (argsL := argsL) (rest := rest) (lenOf hp hlen) rfl (by show 2 * 0 + _ ≤ _; omega) (hb hs.2.1 h1) hpre
/-- an array of the start's heap, cloned, and the cast behind it -/
theorem Go.cloneCast {k2 : Nat} {a : Addr} {ad : String} {ty : FieldType} {vs : List Value} {pc2 : Nat} (hd : Dx code pc (.invokevirtual idx) 3 pc') (hd2 : Dx code pc' (.checkcast k2) 3 pc2) (w1 : (Jvm.Cond.methodLink own idx ⟨ad, "clone", "()Ljava/lang/Object;"⟩).before a0 Z = true) (w2 : (Jvm.Cond.sameMethod ad "java/lang/Object" "clone" "()Ljava/lang/Object;").before a0 Z = true) (w3 : (Jvm.Cond.native ⟨"java/lang/Object", "clone", "()Ljava/lang/Object;"⟩).before a0 Z = true)
    (w4 : (Jvm.Cond.instanceMethod ⟨"java/lang/Object", "clone", "()Ljava/lang/Object;"⟩).before a0 Z = true) (w5 : (Jvm.Cond.selects ad ⟨ad, "clone", "()Ljava/lang/Object;"⟩ ⟨"java/lang/Object", "clone", "()Ljava/lang/Object;"⟩).before a0 Z = true) (w6 : (Jvm.Cond.castable ad "java/lang/Cloneable").before a0 Z = true) (w7 : (Jvm.Cond.classLink own k2 ad).before a0 Z = true)
    (hm : In (a, .inr (ty, vs)) D S) (E : Exa Z Z.heap a ad) (hls : Ls.size = maxL := by rfl) (hf : 1 ≤ R.frames := by exact Nat.le_of_ble_eq_true rfl) (hlo : (rest.map fun v => v.category).sum + 14 ≤ R.locals := by exact Nat.le_of_ble_eq_true rfl) (hce : cells + 1 ≤ R.cells := by exact Nat.le_of_ble_eq_true rfl) (hsl : slots + vs.length ≤ R.slots := by exact Nat.le_of_ble_eq_true rfl)
    (G : ∀ d, Go l Z a0 EL b n0 own code maxL ret nm R W0 Q ((d, .inr (ty, vs)) :: D) S (cells + 1) (slots + vs.length) pc2 Ls (.ref d :: rest)) : Go l Z a0 EL b n0 own code maxL ret nm R W0 Q D S cells slots pc Ls (.ref a :: rest) := by
  obtain ⟨h1, rfl⟩ := hd
  obtain ⟨h2, rfl⟩ := hd2
  intro fr p e s m args below meth c vm0 T locs hs X I
  have hO := I.2.1.2.2.1
  have E' : Exa Z T.heap a ad := E.keep ((Keep.refl _ []).ext hO.2)
  obtain ⟨cl, A, hc', r1, r2, r3⟩ := (show KnA Z T.heap a ty vs from I.2.2.1.at hm)
  have F : FitC Z cl := fitC_of A fun i hi v hv => r2 v (by rw [hc', List.getElem?_toArray] at hv; exact List.mem_of_getElem? hv)
  obtain ⟨T', h', X', rfl, EE, A', E2, k⟩ := cloneA X hs.1 I.1.2.1 hs.2.2.2.2.2.2 w1 w2 w3 w4 w5 w6 rfl A E' F (g := mkF m pc Ls (.ref a :: rest)) rfl (hls.trans hs.2.2.1.symm) rfl (hb hs.2.1 h1) hf (W := (rest.map fun v => v.category).sum) (by show 2 * 0 + _ ≤ _; omega) hlo (cap := vs.length) (by rw [hc', List.size_toArray]; exact Nat.le_refl _) hce hsl
  obtain ⟨T2, X2, e2, k2⟩ := castY X' hs.1 I.1.2.1 hs.2.2.2.2.2.2 w7 rfl (Ins.self E2) (g := mkF m (pc + 3) Ls (.ref T.heap.size :: rest)) rfl rfl (hb hs.2.1 h2)
  obtain ⟨t, v, k', r⟩ := G T.heap.size fr p e s m args below meth c vm0 T2 locs hs X2 (by rw [e2]; exact I.ext EE (x := (T.heap.size, .inr (ty, vs))) rfl ⟨_, A', hc', r1, r2, r3⟩)
  exact ⟨t, v, k t (k2 t k'), r⟩
end Calls
end GoKit
abbrev rm4 (f c s l : Nat) : Room := { frames := f, cells := c, slots := s, locals := l }
theorem eN {α : Type} {P : α → Prop} : ∀ x ∈ ([] : List α), P x := fun _ q => nomatch q
theorem eS {α : Type} {P : α → Prop} {y : α} {L : List α} (q : P y) (r : ∀ x ∈ L, P x) : ∀ x ∈ y :: L, P x := fun x z => (List.mem_cons.mp z).elim (fun u => u ▸ q) (r x)
theorem nI_int {i : Nat} (h : i < 2147483648) : (Int32.ofNat i).toInt = i := len_toInt h
theorem nI_nn {i : Nat} (h : i < 2147483648) : ¬ Int32.ofNat i < 0 := by
  rw [Int32.lt_iff_toInt_lt, nI_int h]; simp
theorem nI_nat {i : Nat} (h : i < 2147483648) : (Int32.ofNat i).toNatClampNeg = i := by
  simp only [Int32.toNatClampNeg, nI_int h]; omega
theorem nI_lt {i n : Nat} (h : i < 2147483648) (hn : n < 2147483648) : Int32.ofNat i < Int32.ofNat n ↔ i < n := by
  rw [Int32.lt_iff_toInt_lt, nI_int h, nI_int hn]; omega
theorem nI_succ (i : Nat) : Int32.ofNat i + 1 = Int32.ofNat (i + 1) := (Int32.ofNat_add i 1).symm
theorem nI_eq {i n : Nat} (h : i < 2147483648) (hn : n < 2147483648) : Int32.ofNat i = Int32.ofNat n ↔ i = n := by
  rw [← Int32.toInt_inj, nI_int h, nI_int hn]; omega
theorem nar_b (x : Int32) : nar .byte x.toInt8.toInt32 = x.toInt8.toInt32 := by
  show x.toInt8.toInt32.toInt8.toInt32 = _
  simp
theorem nar_c (x : Int32) : nar .char x.toUInt32.toUInt16.toUInt32.toInt32 = x.toUInt32.toUInt16.toUInt32.toInt32 := by
  show x.toUInt32.toUInt16.toUInt32.toInt32.toUInt32.toUInt16.toUInt32.toInt32 = _
  simp only [UInt32.toUInt32_toInt32, UInt16.toUInt16_toUInt32]

theorem strW {Z : State} {a0 : Array Value} (hw : ∀ d ∈ tables_1, d.before a0 Z = true) : ∀ a ∈ Bundle.stringAtoms, a.before a0 Z = true := fun a ha => hw a ((show ∀ a ∈ Bundle.stringAtoms, a ∈ tables_1 by decide +kernel) a ha)
theorem layS {Z : State} {a0 : Array Value} (hw : ∀ d ∈ tables_1, d.before a0 Z = true) : LayS Z a0 := ⟨(hw _ (List.mem_of_getElem? (i := 36) rfl)), (hw _ (List.mem_of_getElem? (i := 34) rfl))⟩


theorem m255_int (x : Int32) : 0 ≤ (x &&& 255).toInt ∧ (x &&& 255).toInt ≤ 255 := by
  have h1 : 0 ≤ (x &&& 255).toInt := (c_andS x 255).2.2 (by decide)
  refine ⟨h1, ?_⟩
  have h : (x &&& 255).toBitVec.toNat < 256 := by
    simp only [Int32.toBitVec_and, BitVec.toNat_and]
    exact Nat.lt_succ_of_le Nat.and_le_right
  have e : (x &&& 255).toInt = (x &&& 255).toBitVec.toInt := rfl
  rw [e, BitVec.toInt_eq_toNat_cond]; split <;> omega
theorem m255_le (x : Int32) : ¬ (255 : Int32) < x &&& 255 := by
  rw [Int32.lt_iff_toInt_lt]; have := (m255_int x).2; have : (255 : Int32).toInt = 255 := rfl; omega
theorem m255_c (x : Int32) : nar .char (x &&& 255) = x &&& 255 := i2c_mask x

theorem c16_nar {c : Int32} (h0 : 0 ≤ c.toInt) (h1 : c.toInt ≤ 65535) : nar .char c = c := by
  have q := c_i2c c
  show c.toUInt32.toUInt16.toUInt32.toInt32 = c
  apply Int32.toInt_inj.mp
  omega


theorem st6 {z0 z1 z2 z3 z4 z5 : Value} {s6 : Slot} {v : Int32} (h : s6 = .unset ∨ ∃ w : Int32, s6 = .val (.int w)) : storeLocals #[.val z0, .val z1, .val z2, .val z3, .val z4, .val z5, s6] 6 (.int v) = some #[.val z0, .val z1, .val z2, .val z3, .val z4, .val z5, .val (.int v)] := by
  rcases h with rfl | ⟨w, rfl⟩ <;> rfl
/-- how many of the first chars fit a byte -/
def latN : List Int32 → Nat
  | [] => 0
  | c :: r => if (255 : Int32) < c then 0 else latN r + 1
theorem latN_le : ∀ cs, latN cs ≤ cs.length
  | [] => Nat.le_refl _
  | c :: r => by unfold latN; split <;> simp; exact latN_le r
theorem latN_all : ∀ {cs : List Int32}, (∀ c ∈ cs, ¬ (255 : Int32) < c) → latN cs = cs.length
  | [], _ => rfl
  | c :: r, h => by
    unfold latN; rw [if_neg (h c (by simp)), latN_all fun x hx => h x (by simp [hx])]; rfl
theorem latN_at : ∀ {cs : List Int32} {i : Nat}, (∀ j x, j < i → cs[j]? = some x → ¬ (255 : Int32) < x) → (∀ x, cs[i]? = some x → (255 : Int32) < x) → i ≤ cs.length → latN cs = i
  | [], i, _, _, h => by simp at h; subst h; rfl
  | c :: r, 0, _, h, _ => by unfold latN; rw [if_pos (h c rfl)]
  | c :: r, i + 1, h1, h2, h3 => by
    unfold latN
    rw [if_neg (h1 0 c (by omega) rfl), latN_at (fun j x hj hx => h1 (j + 1) x (by omega) hx) (fun x hx => h2 x hx) (by simpa using h3)]
def byV (c : Int32) : Value := .int c.toInt8.toInt32
/-- the byte array while compress fills it -/
def part (cs : List Int32) (n i : Nat) : List Value := (cs.take i).map byV ++ List.replicate (n - i) (.int 0)
theorem part_len {cs : List Int32} {n i : Nat} (h : i ≤ n) (hn : cs.length = n) : (part cs n i).length = n := by simp [part]; omega
theorem part_set {cs : List Int32} {n i : Nat} {x : Int32} (hx : cs[i]? = some x) (hn : cs.length = n) : (part cs n i).set i (byV x) = part cs n (i + 1) := by
  have hi := (List.getElem?_eq_some_iff.mp hx).1
  have e1 : n - i = (n - (i + 1)) + 1 := by omega
  unfold part
  rw [List.set_append_right _ _ (by simp; omega), e1, List.replicate_succ]
  have e2 : i - (List.map byV (List.take i cs)).length = 0 := by simp; omega
  rw [e2, List.set_cons_zero, List.take_add_one, hx]
  simp

theorem png_0 : plainName "java/lang/StringUTF16" = true := by first | (simp [plainName, overriddenIn]; done) | decide +kernel
theorem d1_0 : Dx jdk_52_method_15_code 0 (.iload_n 1) 1 1 := ⟨by decide +kernel, rfl⟩
theorem d1_1 : Dx jdk_52_method_15_code 1 (.aload_n 0) 1 2 := ⟨by decide +kernel, rfl⟩
theorem d1_2 : Dx jdk_52_method_15_code 2 (.arraylength) 1 3 := ⟨by decide +kernel, rfl⟩
theorem d1_3 : Dx jdk_52_method_15_code 3 (.isub) 1 4 := ⟨by decide +kernel, rfl⟩
theorem d1_4 : Dx jdk_52_method_15_code 4 (.bipush 31) 2 6 := ⟨by decide +kernel, rfl⟩
theorem d1_6 : Dx jdk_52_method_15_code 6 (.iushr) 1 7 := ⟨by decide +kernel, rfl⟩
theorem d1_7 : Dx jdk_52_method_15_code 7 (.i2b) 1 8 := ⟨by decide +kernel, rfl⟩
theorem d1_8 : Dx jdk_52_method_15_code 8 (.ireturn) 1 9 := ⟨by decide +kernel, rfl⟩
set_option maxRecDepth 65536 in
set_option maxHeartbeats 40000000 in
theorem c_coderFrom {l : Launch} {Z : State} {a0 : Array Value} {EL : List (String × Nat)} {b : Bool} {n0 : Nat} (hw : ∀ d ∈ tables_1, d.before a0 Z = true) (t : Addr) (vs : List Value) (m k : Int32) (hk : (ush (m - Int32.ofNat vs.length) 31).toInt8.toInt32 = k) (hk2 : nar .byte k = k) :
    Met l Z a0 EL b n0 (⟨"java/lang/StringUTF16", "coderFromArrayLen", "([BI)B"⟩ : MethodName) jdk_52_method_15_code 2 (some .byte) [] (rm4 0 0 0 0) [.ref t, .int m] [] [(t, .inr (.byte, vs))] (fun v D' S' => v = some (.int k) ∧ D' = [] ∧ S' = []) := by
  refine Met.of_go (own := "java/lang/StringUTF16") (nm := "coderFromArrayLen") (Ls := #[.val (.ref t), .val (.int m)]) (plainFor_of_name png_0) (fun m => by first | rfl | (simp [entryFrame, mkF, argsToLocals, Value.category]; done)) ?_
  refine Go.iloadN d1_0 rfl (G := ?_)
  refine Go.aloadN d1_1 rfl (G := ?_)
  refine Go.arraylength d1_2 (inS (i := 0) rfl) (n := (Int32.ofNat vs.length)) rfl (G := ?_)
  refine Go.isub d1_3 (z := (m - (Int32.ofNat vs.length))) rfl (G := ?_)
  refine Go.bipush d1_4 (v := 31) rfl (G := ?_)
  refine Go.iushr d1_6 (z := (ush (m - (Int32.ofNat vs.length)) 31)) rfl (G := ?_)
  refine Go.i2b d1_7 (z := k) hk (G := ?_)
  refine Go.sub [] (by decide) rfl (D' := []) rfl (S' := []) eN (G := ?_)
  exact Go.retB d1_8 (by simp) (z' := k) hk2 ⟨rfl, rfl, rfl⟩
theorem d2_0 : Dx jdk_52_method_21_code 0 (.iconst 0) 1 1 := ⟨by decide +kernel, rfl⟩
theorem d2_1 : Dx jdk_52_method_21_code 1 (.istore 5) 2 3 := ⟨by decide +kernel, rfl⟩
theorem d2_3 : Dx jdk_52_method_21_code 3 (.iload 5) 2 5 := ⟨by decide +kernel, rfl⟩
theorem d2_5 : Dx jdk_52_method_21_code 5 (.iload 4) 2 7 := ⟨by decide +kernel, rfl⟩
theorem d2_7 : Dx jdk_52_method_21_code 7 (.if_icmp .ge 37) 3 10 := ⟨by decide +kernel, rfl⟩
theorem d2_10 : Dx jdk_52_method_21_code 10 (.aload_n 0) 1 11 := ⟨by decide +kernel, rfl⟩
theorem d2_11 : Dx jdk_52_method_21_code 11 (.iload_n 1) 1 12 := ⟨by decide +kernel, rfl⟩
theorem d2_12 : Dx jdk_52_method_21_code 12 (.caload) 1 13 := ⟨by decide +kernel, rfl⟩
theorem d2_13 : Dx jdk_52_method_21_code 13 (.istore 6) 2 15 := ⟨by decide +kernel, rfl⟩
theorem d2_15 : Dx jdk_52_method_21_code 15 (.iload 6) 2 17 := ⟨by decide +kernel, rfl⟩
theorem d2_17 : Dx jdk_52_method_21_code 17 (.sipush 255) 3 20 := ⟨by decide +kernel, rfl⟩
theorem d2_20 : Dx jdk_52_method_21_code 20 (.if_icmp .le 6) 3 23 := ⟨by decide +kernel, rfl⟩
theorem d2_23 : Dx jdk_52_method_21_code 23 (.iload 5) 2 25 := ⟨by decide +kernel, rfl⟩
theorem d2_25 : Dx jdk_52_method_21_code 25 (.ireturn) 1 26 := ⟨by decide +kernel, rfl⟩
theorem d2_26 : Dx jdk_52_method_21_code 26 (.aload_n 2) 1 27 := ⟨by decide +kernel, rfl⟩
theorem d2_27 : Dx jdk_52_method_21_code 27 (.iload_n 3) 1 28 := ⟨by decide +kernel, rfl⟩
theorem d2_28 : Dx jdk_52_method_21_code 28 (.iload 6) 2 30 := ⟨by decide +kernel, rfl⟩
theorem d2_30 : Dx jdk_52_method_21_code 30 (.i2b) 1 31 := ⟨by decide +kernel, rfl⟩
theorem d2_31 : Dx jdk_52_method_21_code 31 (.bastore) 1 32 := ⟨by decide +kernel, rfl⟩
theorem d2_32 : Dx jdk_52_method_21_code 32 (.iinc 1 1) 3 35 := ⟨by decide +kernel, rfl⟩
theorem d2_35 : Dx jdk_52_method_21_code 35 (.iinc 3 1) 3 38 := ⟨by decide +kernel, rfl⟩
theorem d2_38 : Dx jdk_52_method_21_code 38 (.iinc 5 1) 3 41 := ⟨by decide +kernel, rfl⟩
theorem d2_41 : Dx jdk_52_method_21_code 41 (.goto (-38)) 3 44 := ⟨by decide +kernel, rfl⟩
theorem d2_44 : Dx jdk_52_method_21_code 44 (.iload 4) 2 46 := ⟨by decide +kernel, rfl⟩
theorem d2_46 : Dx jdk_52_method_21_code 46 (.ireturn) 1 47 := ⟨by decide +kernel, rfl⟩
set_option maxRecDepth 65536 in
set_option maxHeartbeats 40000000 in
theorem c_comprLoop {l : Launch} {Z : State} {a0 : Array Value} {EL : List (String × Nat)} {b : Bool} {n0 : Nat} (hw : ∀ d ∈ tables_1, d.before a0 Z = true) (src dst : Addr) (cs : List Int32) (n : Nat) (hn : cs.length = n) (hb : n ≤ 4000) :
    Met l Z a0 EL b n0 (⟨"java/lang/StringUTF16", "compress", "([CI[BII)I"⟩ : MethodName) jdk_52_method_21_code 7 (some .int) [] (rm4 0 0 0 0) [.ref src, .int 0, .ref dst, .int 0, .int (Int32.ofNat n)] [(dst, .inr (.byte, List.replicate n (.int 0)))] [(src, .inr (.char, cs.map Value.int))] (fun v D' S' => v = some (.int (Int32.ofNat (latN cs))) ∧ D' = [(dst, .inr (.byte, part cs n (latN cs)))] ∧ S' = []) := by
  refine Met.of_go (own := "java/lang/StringUTF16") (nm := "compress") (Ls := #[.val (.ref src), .val (.int 0), .val (.ref dst), .val (.int 0), .val (.int (Int32.ofNat n)), .unset, .unset]) (plainFor_of_name png_0) (fun m => by first | rfl | (simp [entryFrame, mkF, argsToLocals, Value.category]; done)) ?_
  refine Go.iconst d2_0 (v := 0) rfl (G := ?_)
  refine Go.istore d2_1 (Ls' := #[.val (.ref src), .val (.int 0), .val (.ref dst), .val (.int 0), .val (.int (Int32.ofNat n)), .val (.int 0), .unset]) rfl (G := ?_)
  refine Go.norm (D2 := [(dst, .inr (.byte, part cs n 0))]) ?_
  have main : ∀ m i (s6 : Slot), i + m = n → (s6 = .unset ∨ ∃ w : Int32, s6 = .val (.int w)) → (∀ j x, j < i → cs[j]? = some x → ¬ (255 : Int32) < x) →
      Go l Z a0 EL b n0 "java/lang/StringUTF16" jdk_52_method_21_code 7 (some .int) "compress" (rm4 0 0 0 0) ([(dst, (.inr (.byte, List.replicate n (.int 0)) : Ob))].map Prod.fst) (fun v D' S' => v = some (.int (Int32.ofNat (latN cs))) ∧ D' = [(dst, .inr (.byte, part cs n (latN cs)))] ∧ S' = []) [(dst, .inr (.byte, part cs n i))] [(src, .inr (.char, cs.map Value.int))] 0 0 3 #[.val (.ref src), .val (.int (Int32.ofNat i)), .val (.ref dst), .val (.int (Int32.ofNat i)), .val (.int (Int32.ofNat n)), .val (.int (Int32.ofNat i)), s6] [] := by
    intro m
    induction m with
    | zero =>
      intro i s6 hi h6 hall
      obtain rfl : i = n := by omega
      refine Go.iload d2_3 rfl (G := ?_)
      refine Go.iload d2_5 rfl (G := ?_)
      refine Go.icmp d2_7 (pc2 := 44) (Gy := fun _ => ?_) (Gn := fun h => absurd (show ¬ (Int32.ofNat i < Int32.ofNat i) from Int32.lt_irrefl) h)
      refine Go.iload d2_44 rfl (G := ?_)
      have e : latN cs = i := latN_at hall (fun x hx => absurd (List.getElem?_eq_some_iff.mp hx).1 (by omega)) (by omega)
      refine Go.sub [0] (by decide) rfl (D' := [(dst, .inr (.byte, part cs i i))]) rfl (S' := []) eN (G := ?_)
      exact Go.retI d2_46 ⟨by rw [e], by rw [e], rfl⟩
    | succ m ih =>
      intro i s6 hi h6 hall
      have hin : i < n := by omega
      have hi31 : i < 2147483648 := by omega
      have hn31 : n < 2147483648 := by omega
      obtain ⟨x, hx⟩ : ∃ x, cs[i]? = some x := ⟨_, List.getElem?_eq_getElem (by omega)⟩
      refine Go.iload d2_3 rfl (G := ?_)
      refine Go.iload d2_5 rfl (G := ?_)
      refine Go.icmp d2_7 (pc2 := 44) (Gy := fun h => absurd ((nI_lt hi31 hn31).mpr hin) h) (Gn := fun _ => ?_)
      refine Go.aloadN d2_10 rfl (G := ?_)
      refine Go.iloadN d2_11 rfl (G := ?_)
      refine Go.caload d2_12 (inS (i := 0) rfl) (v := .int x) (by rw [nI_nat hi31, List.getElem?_map, hx]; rfl) (nI_nn hi31) (G := ?_)
      refine Go.istore d2_13 (Ls' := #[.val (.ref src), .val (.int (Int32.ofNat i)), .val (.ref dst), .val (.int (Int32.ofNat i)), .val (.int (Int32.ofNat n)), .val (.int (Int32.ofNat i)), .val (.int x)]) (st6 h6) (G := ?_)
      refine Go.iload d2_15 rfl (G := ?_)
      refine Go.sipush d2_17 (v := 255) rfl (G := ?_)
      refine Go.icmp d2_20 (pc2 := 26) (Gy := fun hle => ?_) (Gn := fun hgt => ?_)
      · have hle : ¬ (255 : Int32) < x := hle
        refine Go.aloadN d2_26 rfl (G := ?_)
        refine Go.iloadN d2_27 rfl (G := ?_)
        refine Go.iload d2_28 rfl (G := ?_)
        refine Go.i2b d2_30 (z := (x.toInt8.toInt32)) rfl (G := ?_)
        refine Go.bastore d2_31 0 rfl (x' := (x.toInt8.toInt32)) (nar_b x) (by rw [nI_nat hi31, part_len (by omega) hn]; exact hin) (D' := [(dst, .inr (.byte, part cs n (i + 1)))]) (by rw [nI_nat hi31]; show _ = [(dst, Sum.inr (FieldType.byte, (part cs n i).set i (byV x)))]; rw [part_set hx hn]) (nI_nn hi31) (G := ?_)
        refine Go.iinc d2_32 rfl (v := 1) rfl (z := (Int32.ofNat (i + 1))) (nI_succ i) (Ls' := #[.val (.ref src), .val (.int (Int32.ofNat (i + 1))), .val (.ref dst), .val (.int (Int32.ofNat i)), .val (.int (Int32.ofNat n)), .val (.int (Int32.ofNat i)), .val (.int x)]) rfl (G := ?_)
        refine Go.iinc d2_35 rfl (v := 1) rfl (z := (Int32.ofNat (i + 1))) (nI_succ i) (Ls' := #[.val (.ref src), .val (.int (Int32.ofNat (i + 1))), .val (.ref dst), .val (.int (Int32.ofNat (i + 1))), .val (.int (Int32.ofNat n)), .val (.int (Int32.ofNat i)), .val (.int x)]) rfl (G := ?_)
        refine Go.iinc d2_38 rfl (v := 1) rfl (z := (Int32.ofNat (i + 1))) (nI_succ i) (Ls' := #[.val (.ref src), .val (.int (Int32.ofNat (i + 1))), .val (.ref dst), .val (.int (Int32.ofNat (i + 1))), .val (.int (Int32.ofNat n)), .val (.int (Int32.ofNat (i + 1))), .val (.int x)]) rfl (G := ?_)
        refine Go.goto d2_41 (pc2 := 3) (G := ?_)
        exact ih (i + 1) _ (by omega) (Or.inr ⟨x, rfl⟩) (fun j z hj hz => by
          rcases Nat.lt_or_ge j i with q | q
          · exact hall j z q hz
          · obtain rfl : j = i := by omega
            cases hx.symm.trans hz; exact hle)
      · have hgt : (255 : Int32) < x := Classical.not_not.mp hgt
        refine Go.iload d2_23 rfl (G := ?_)
        have e : latN cs = i := latN_at hall (fun z hz => by cases hx.symm.trans hz; exact hgt) (by omega)
        refine Go.sub [0] (by decide) rfl (D' := [(dst, .inr (.byte, part cs n i))]) rfl (S' := []) eN (G := ?_)
        exact Go.retI d2_25 ⟨by rw [e], by rw [e], rfl⟩
  exact main n 0 .unset (by omega) (Or.inl rfl) (fun j x hj => absurd hj (by omega))
theorem d3_0 : Dx jdk_52_method_16_code 0 (.iload_n 2) 1 1 := ⟨by decide +kernel, rfl⟩
theorem d3_1 : Dx jdk_52_method_16_code 1 (.newarray .byte) 2 3 := ⟨by decide +kernel, rfl⟩
theorem d3_3 : Dx jdk_52_method_16_code 3 (.astore_n 3) 1 4 := ⟨by decide +kernel, rfl⟩
theorem d3_4 : Dx jdk_52_method_16_code 4 (.aload_n 0) 1 5 := ⟨by decide +kernel, rfl⟩
theorem d3_5 : Dx jdk_52_method_16_code 5 (.iload_n 1) 1 6 := ⟨by decide +kernel, rfl⟩
theorem d3_6 : Dx jdk_52_method_16_code 6 (.aload_n 3) 1 7 := ⟨by decide +kernel, rfl⟩
theorem d3_7 : Dx jdk_52_method_16_code 7 (.iconst 0) 1 8 := ⟨by decide +kernel, rfl⟩
theorem d3_8 : Dx jdk_52_method_16_code 8 (.iload_n 2) 1 9 := ⟨by decide +kernel, rfl⟩
theorem d3_9 : Dx jdk_52_method_16_code 9 (.invokestatic 115) 3 12 := ⟨by decide +kernel, rfl⟩
theorem d3_12 : Dx jdk_52_method_16_code 12 (.istore 4) 2 14 := ⟨by decide +kernel, rfl⟩
theorem d3_14 : Dx jdk_52_method_16_code 14 (.iload 4) 2 16 := ⟨by decide +kernel, rfl⟩
theorem d3_16 : Dx jdk_52_method_16_code 16 (.iload_n 2) 1 17 := ⟨by decide +kernel, rfl⟩
theorem d3_17 : Dx jdk_52_method_16_code 17 (.if_icmp .eq 40) 3 20 := ⟨by decide +kernel, rfl⟩
theorem d3_20 : Dx jdk_52_method_16_code 20 (.aload_n 0) 1 21 := ⟨by decide +kernel, rfl⟩
theorem d3_21 : Dx jdk_52_method_16_code 21 (.iload_n 1) 1 22 := ⟨by decide +kernel, rfl⟩
theorem d3_22 : Dx jdk_52_method_16_code 22 (.iload_n 2) 1 23 := ⟨by decide +kernel, rfl⟩
theorem d3_23 : Dx jdk_52_method_16_code 23 (.invokestatic 119) 3 26 := ⟨by decide +kernel, rfl⟩
theorem d3_26 : Dx jdk_52_method_16_code 26 (.astore 5) 2 28 := ⟨by decide +kernel, rfl⟩
theorem d3_28 : Dx jdk_52_method_16_code 28 (.aload 5) 2 30 := ⟨by decide +kernel, rfl⟩
theorem d3_30 : Dx jdk_52_method_16_code 30 (.iload 4) 2 32 := ⟨by decide +kernel, rfl⟩
theorem d3_32 : Dx jdk_52_method_16_code 32 (.invokestatic 71) 3 35 := ⟨by decide +kernel, rfl⟩
theorem d3_35 : Dx jdk_52_method_16_code 35 (.sipush 255) 3 38 := ⟨by decide +kernel, rfl⟩
theorem d3_38 : Dx jdk_52_method_16_code 38 (.if_icmp .gt 16) 3 41 := ⟨by decide +kernel, rfl⟩
theorem d3_41 : Dx jdk_52_method_16_code 41 (.aload 5) 2 43 := ⟨by decide +kernel, rfl⟩
theorem d3_43 : Dx jdk_52_method_16_code 43 (.iconst 0) 1 44 := ⟨by decide +kernel, rfl⟩
theorem d3_44 : Dx jdk_52_method_16_code 44 (.aload_n 3) 1 45 := ⟨by decide +kernel, rfl⟩
theorem d3_45 : Dx jdk_52_method_16_code 45 (.iconst 0) 1 46 := ⟨by decide +kernel, rfl⟩
theorem d3_46 : Dx jdk_52_method_16_code 46 (.iload_n 2) 1 47 := ⟨by decide +kernel, rfl⟩
theorem d3_47 : Dx jdk_52_method_16_code 47 (.invokestatic 123) 3 50 := ⟨by decide +kernel, rfl⟩
theorem d3_50 : Dx jdk_52_method_16_code 50 (.iload_n 2) 1 51 := ⟨by decide +kernel, rfl⟩
theorem d3_51 : Dx jdk_52_method_16_code 51 (.if_icmp .eq 6) 3 54 := ⟨by decide +kernel, rfl⟩
theorem d3_54 : Dx jdk_52_method_16_code 54 (.aload 5) 2 56 := ⟨by decide +kernel, rfl⟩
theorem d3_56 : Dx jdk_52_method_16_code 56 (.areturn) 1 57 := ⟨by decide +kernel, rfl⟩
theorem d3_57 : Dx jdk_52_method_16_code 57 (.aload_n 3) 1 58 := ⟨by decide +kernel, rfl⟩
theorem d3_58 : Dx jdk_52_method_16_code 58 (.areturn) 1 59 := ⟨by decide +kernel, rfl⟩
theorem pdg_0 : parseMethodDescriptor "([CI[BII)I" = some ⟨[.array .char, .int, .array .byte, .int, .int], some .int⟩ := by decide +kernel
set_option maxRecDepth 65536 in
set_option maxHeartbeats 40000000 in
theorem c_compress {l : Launch} {Z : State} {a0 : Array Value} {EL : List (String × Nat)} {b : Bool} {n0 : Nat} (hw : ∀ d ∈ tables_1, d.before a0 Z = true) (src : Addr) (cs : List Int32) (n : Nat) (hn : cs.length = n) (hb : n ≤ 4000) (hlat : ∀ c ∈ cs, ¬ (255 : Int32) < c) :
    Met l Z a0 EL b n0 (⟨"java/lang/StringUTF16", "compress", "([CII)[B"⟩ : MethodName) jdk_52_method_16_code 6 (some (.array .byte)) [] (rm4 1 1 n 18) [.ref src, .int 0, .int (Int32.ofNat n)] [] [(src, .inr (.char, cs.map Value.int))] (fun v D' S' => ∃ t, v = some (.ref t) ∧ D' = [(t, .inr (.byte, cs.map byV))] ∧ S' = []) := by
  refine Met.of_go (own := "java/lang/StringUTF16") (nm := "compress") (Ls := #[.val (.ref src), .val (.int 0), .val (.int (Int32.ofNat n)), .unset, .unset, .unset]) (plainFor_of_name png_0) (fun m => by first | rfl | (simp [entryFrame, mkF, argsToLocals, Value.category]; done)) ?_
  refine Go.iloadN d3_0 rfl (G := ?_)
  refine Go.newarray d3_1 (hw _ (List.mem_of_getElem? (i := 26) rfl)) (k := n) (nI_nat (by omega)) (nI_nn (by omega)) (by omega) (vs := List.replicate n (.int 0)) rfl (hl := by show 0 + n ≤ n; omega) (G := fun t => ?_)
  refine Go.astoreN d3_3 (Ls' := #[.val (.ref src), .val (.int 0), .val (.int (Int32.ofNat n)), .val (.ref t), .unset, .unset]) rfl (G := ?_)
  refine Go.aloadN d3_4 rfl (G := ?_)
  refine Go.iloadN d3_5 rfl (G := ?_)
  refine Go.aloadN d3_6 rfl (G := ?_)
  refine Go.iconst d3_7 (v := 0) rfl (G := ?_)
  refine Go.iloadN d3_8 rfl (G := ?_)
  refine Go.invokestatic false d3_9 (hw _ (List.mem_of_getElem? (i := 27) rfl)) (hw _ (List.mem_of_getElem? (i := 28) rfl)) (hw _ (List.mem_of_getElem? (i := 24) rfl)) (hw _ (List.mem_of_getElem? (i := 29) rfl)) (c_comprLoop hw src t cs n hn hb) pdg_0 rfl (argsL := [.ref src, .int 0, .ref t, .int 0, .int (Int32.ofNat n)]) (rest := []) rfl rfl (Dr := []) rfl (eS (Or.inl (List.mem_of_getElem? (i := 0) rfl)) eN) (hsl := by show 0 + n + 0 ≤ n; omega) (G := ?_)
  rintro _ _ _ ⟨rfl, rfl, rfl⟩
  refine Go.norm (D2 := [(t, .inr (.byte, part cs n (latN cs)))]) (S2 := [(src, .inr (.char, cs.map Value.int))]) (c2 := 1) (s2 := 0 + n + 0) (st2 := [.int (Int32.ofNat (latN cs))]) ?_
  refine Go.istore d3_12 (Ls' := #[.val (.ref src), .val (.int 0), .val (.int (Int32.ofNat n)), .val (.ref t), .val (.int (Int32.ofNat (latN cs))), .unset]) rfl (G := ?_)
  refine Go.iload d3_14 rfl (G := ?_)
  refine Go.iloadN d3_16 rfl (G := ?_)
  have e : latN cs = n := by rw [latN_all hlat, hn]
  refine Go.icmp d3_17 (pc2 := 57) (Gy := fun _ => ?_) (Gn := fun h => absurd (show Int32.ofNat (latN cs) = Int32.ofNat n by rw [e]) h)
  refine Go.aloadN d3_57 rfl (G := ?_)
  have e2 : part cs n (latN cs) = cs.map byV := by rw [e, part, Nat.sub_self, ← hn, List.take_length]; simp
  refine Go.sub [0] (by decide) rfl (D' := [(t, .inr (.byte, part cs n (latN cs)))]) rfl (S' := []) eN (G := ?_)
  exact Go.retA d3_58 ⟨t, rfl, by rw [e2], rfl⟩ (hl := by show 0 + n + 0 ≤ n; omega)
theorem png_1 : plainName "java/lang/String" = true := by first | (simp [plainName, overriddenIn]; done) | decide +kernel
theorem d4_0 : Dx jdk_42_method_149_code 0 (.aload_n 0) 1 1 := ⟨by decide +kernel, rfl⟩
theorem d4_1 : Dx jdk_42_method_149_code 1 (.invokespecial 1) 3 4 := ⟨by decide +kernel, rfl⟩
theorem d4_4 : Dx jdk_42_method_149_code 4 (.iload_n 3) 1 5 := ⟨by decide +kernel, rfl⟩
theorem d4_5 : Dx jdk_42_method_149_code 5 (.ifCond .ne 22) 3 8 := ⟨by decide +kernel, rfl⟩
theorem d4_8 : Dx jdk_42_method_149_code 8 (.aload_n 0) 1 9 := ⟨by decide +kernel, rfl⟩
theorem d4_9 : Dx jdk_42_method_149_code 9 (.ldc 7) 2 11 := ⟨by decide +kernel, rfl⟩
theorem d4_11 : Dx jdk_42_method_149_code 11 (.getfield 9) 3 14 := ⟨by decide +kernel, rfl⟩
theorem d4_14 : Dx jdk_42_method_149_code 14 (.putfield 9) 3 17 := ⟨by decide +kernel, rfl⟩
theorem d4_17 : Dx jdk_42_method_149_code 17 (.aload_n 0) 1 18 := ⟨by decide +kernel, rfl⟩
theorem d4_18 : Dx jdk_42_method_149_code 18 (.ldc 7) 2 20 := ⟨by decide +kernel, rfl⟩
theorem d4_20 : Dx jdk_42_method_149_code 20 (.getfield 15) 3 23 := ⟨by decide +kernel, rfl⟩
theorem d4_23 : Dx jdk_42_method_149_code 23 (.putfield 15) 3 26 := ⟨by decide +kernel, rfl⟩
theorem d4_26 : Dx jdk_42_method_149_code 26 (.return_) 1 27 := ⟨by decide +kernel, rfl⟩
theorem d4_27 : Dx jdk_42_method_149_code 27 (.getstatic 38) 3 30 := ⟨by decide +kernel, rfl⟩
theorem d4_30 : Dx jdk_42_method_149_code 30 (.ifCond .eq 28) 3 33 := ⟨by decide +kernel, rfl⟩
theorem d4_33 : Dx jdk_42_method_149_code 33 (.aload_n 1) 1 34 := ⟨by decide +kernel, rfl⟩
theorem d4_34 : Dx jdk_42_method_149_code 34 (.iload_n 2) 1 35 := ⟨by decide +kernel, rfl⟩
theorem d4_35 : Dx jdk_42_method_149_code 35 (.iload_n 3) 1 36 := ⟨by decide +kernel, rfl⟩
theorem d4_36 : Dx jdk_42_method_149_code 36 (.invokestatic 177) 3 39 := ⟨by decide +kernel, rfl⟩
theorem d4_39 : Dx jdk_42_method_149_code 39 (.astore 5) 2 41 := ⟨by decide +kernel, rfl⟩
theorem d4_41 : Dx jdk_42_method_149_code 41 (.aload_n 0) 1 42 := ⟨by decide +kernel, rfl⟩
theorem d4_42 : Dx jdk_42_method_149_code 42 (.aload 5) 2 44 := ⟨by decide +kernel, rfl⟩
theorem d4_44 : Dx jdk_42_method_149_code 44 (.iload_n 3) 1 45 := ⟨by decide +kernel, rfl⟩
theorem d4_45 : Dx jdk_42_method_149_code 45 (.invokestatic 47) 3 48 := ⟨by decide +kernel, rfl⟩
theorem d4_48 : Dx jdk_42_method_149_code 48 (.putfield 15) 3 51 := ⟨by decide +kernel, rfl⟩
theorem d4_51 : Dx jdk_42_method_149_code 51 (.aload_n 0) 1 52 := ⟨by decide +kernel, rfl⟩
theorem d4_52 : Dx jdk_42_method_149_code 52 (.aload 5) 2 54 := ⟨by decide +kernel, rfl⟩
theorem d4_54 : Dx jdk_42_method_149_code 54 (.putfield 9) 3 57 := ⟨by decide +kernel, rfl⟩
theorem d4_57 : Dx jdk_42_method_149_code 57 (.return_) 1 58 := ⟨by decide +kernel, rfl⟩
theorem d4_58 : Dx jdk_42_method_149_code 58 (.aload_n 0) 1 59 := ⟨by decide +kernel, rfl⟩
theorem d4_59 : Dx jdk_42_method_149_code 59 (.iconst 1) 1 60 := ⟨by decide +kernel, rfl⟩
theorem d4_60 : Dx jdk_42_method_149_code 60 (.putfield 15) 3 63 := ⟨by decide +kernel, rfl⟩
theorem d4_63 : Dx jdk_42_method_149_code 63 (.aload_n 0) 1 64 := ⟨by decide +kernel, rfl⟩
theorem d4_64 : Dx jdk_42_method_149_code 64 (.aload_n 1) 1 65 := ⟨by decide +kernel, rfl⟩
theorem d4_65 : Dx jdk_42_method_149_code 65 (.iload_n 2) 1 66 := ⟨by decide +kernel, rfl⟩
theorem d4_66 : Dx jdk_42_method_149_code 66 (.iload_n 3) 1 67 := ⟨by decide +kernel, rfl⟩
theorem d4_67 : Dx jdk_42_method_149_code 67 (.invokestatic 180) 3 70 := ⟨by decide +kernel, rfl⟩
theorem d4_70 : Dx jdk_42_method_149_code 70 (.putfield 9) 3 73 := ⟨by decide +kernel, rfl⟩
theorem d4_73 : Dx jdk_42_method_149_code 73 (.return_) 1 74 := ⟨by decide +kernel, rfl⟩
theorem pdg_1 : parseMethodDescriptor "([CII)[B" = some ⟨[.array .char, .int, .int], some (.array .byte)⟩ := by decide +kernel
theorem pdg_2 : parseMethodDescriptor "([BI)B" = some ⟨[.array .byte, .int], some .byte⟩ := by decide +kernel
set_option maxRecDepth 65536 in
set_option maxHeartbeats 40000000 in
theorem c_initV {l : Launch} {Z : State} {a0 : Array Value} {EL : List (String × Nat)} {b : Bool} {n0 : Nat} (hw : ∀ d ∈ tables_1, d.before a0 Z = true) (x src : Addr) (cs : List Int32) (n : Nat) (more : List (String × String × String × Value)) (cpt : Int32) (hCS : Sta Z Z.heap "java/lang/String" "COMPACT_STRINGS" "Z" (.int cpt)) (hcpt : ¬ cpt = 0) (hn : cs.length = n) (hb : n ≤ 4000) (hpos : 0 < n) (hlat : ∀ c ∈ cs, ¬ (255 : Int32) < c) :
    Met l Z a0 EL b n0 (⟨"java/lang/String", "<init>", "([CIILjava/lang/Void;)V"⟩ : MethodName) jdk_42_method_149_code 6 none [] (rm4 2 1 n 35) [.ref x, .ref src, .int 0, .int (Int32.ofNat n), .null] [(x, .inl ("java/lang/String", ("java/lang/String", "value", "[B", .null) :: ("java/lang/String", "coder", "B", .int 0) :: more))] [(src, .inr (.char, cs.map Value.int))] (fun v D' S' => ∃ t, v = none ∧ D' = [(x, .inl ("java/lang/String", ("java/lang/String", "value", "[B", .ref t) :: ("java/lang/String", "coder", "B", .int 0) :: more)), (t, .inr (.byte, cs.map byV))] ∧ S' = []) := by
  refine Met.of_go (own := "java/lang/String") (nm := "<init>") (Ls := #[.val (.ref x), .val (.ref src), .val (.int 0), .val (.int (Int32.ofNat n)), .val .null, .unset]) (plainFor_of_name png_1) (fun m => by first | rfl | (simp [entryFrame, mkF, argsToLocals, Value.category]; done)) ?_
  refine Go.aloadN d4_0 rfl (G := ?_)
  refine Go.objInit d4_1 (hw _ (List.mem_of_getElem? (i := 18) rfl)) (hw _ (List.mem_of_getElem? (i := 19) rfl)) (hw _ (List.mem_of_getElem? (i := 20) rfl)) rfl (Nat.le_of_ble_eq_true rfl) (Nat.le_of_ble_eq_true rfl) (G := ?_)
  refine Go.iloadN d4_4 rfl (G := ?_)
  refine Go.ifc d4_5 (pc2 := 27) (Gy := fun _ => ?_) (Gn := fun h => absurd (fun (e : Int32.ofNat n = 0) => by have := (nI_eq (n := 0) (by omega) (by omega)).mp e; omega) h)
  refine Go.getstatic d4_27 (host := "") (Or.inl (hw _ (List.mem_of_getElem? (i := 21) rfl))) Via.refl hCS (G := ?_)
  refine Go.ifc d4_30 (pc2 := 58) (Gy := fun h => absurd h hcpt) (Gn := fun _ => ?_)
  refine Go.aloadN d4_33 rfl (G := ?_)
  refine Go.iloadN d4_34 rfl (G := ?_)
  refine Go.iloadN d4_35 rfl (G := ?_)
  refine Go.invokestatic false d4_36 (hw _ (List.mem_of_getElem? (i := 22) rfl)) (hw _ (List.mem_of_getElem? (i := 23) rfl)) (hw _ (List.mem_of_getElem? (i := 24) rfl)) (hw _ (List.mem_of_getElem? (i := 25) rfl)) (c_compress hw src cs n hn hb hlat) pdg_1 rfl (argsL := [.ref src, .int 0, .int (Int32.ofNat n)]) (rest := []) rfl rfl (Dr := [(x, .inl ("java/lang/String", ("java/lang/String", "value", "[B", .null) :: ("java/lang/String", "coder", "B", .int 0) :: more))]) rfl (eS (Or.inl (List.mem_of_getElem? (i := 0) rfl)) eN) (hsl := by show 0 + n ≤ n; omega) (G := ?_)
  rintro _ _ _ ⟨t, rfl, rfl, rfl⟩
  refine Go.norm (D2 := [(t, .inr (.byte, cs.map byV)), (x, .inl ("java/lang/String", ("java/lang/String", "value", "[B", .null) :: ("java/lang/String", "coder", "B", .int 0) :: more))]) (S2 := [(src, .inr (.char, cs.map Value.int))]) (c2 := 1) (s2 := 0 + n) (st2 := [.ref t]) ?_
  refine Go.astore d4_39 (Ls' := #[.val (.ref x), .val (.ref src), .val (.int 0), .val (.int (Int32.ofNat n)), .val .null, .val (.ref t)]) rfl (G := ?_)
  refine Go.aloadN d4_41 rfl (G := ?_)
  refine Go.aload d4_42 rfl (G := ?_)
  refine Go.iloadN d4_44 rfl (G := ?_)
  refine Go.invokestatic true d4_45 (hw _ (List.mem_of_getElem? (i := 30) rfl)) (hw _ (List.mem_of_getElem? (i := 31) rfl)) (hw _ (List.mem_of_getElem? (i := 24) rfl)) (hw _ (List.mem_of_getElem? (i := 32) rfl)) (c_coderFrom hw t (cs.map byV) (Int32.ofNat n) 0 (by rw [List.length_map, hn, Int32.sub_self]; decide) rfl) pdg_2 rfl (argsL := [.ref t, .int (Int32.ofNat n)]) (rest := [.ref x]) rfl rfl (Dr := [(t, .inr (.byte, cs.map byV)), (x, .inl ("java/lang/String", ("java/lang/String", "value", "[B", .null) :: ("java/lang/String", "coder", "B", .int 0) :: more))]) rfl (eS (Or.inr ⟨rfl, List.mem_of_getElem? (i := 0) rfl⟩) eN) (hsl := by show 0 + n + 0 ≤ n; omega) (G := ?_)
  rintro _ _ _ ⟨rfl, rfl, rfl⟩
  refine Go.norm (D2 := [(t, .inr (.byte, cs.map byV)), (x, .inl ("java/lang/String", ("java/lang/String", "value", "[B", .null) :: ("java/lang/String", "coder", "B", .int 0) :: more))]) (S2 := [(src, .inr (.char, cs.map Value.int))]) (c2 := 1) (s2 := 0 + n + 0) (st2 := [.int 0, .ref x]) ?_
  refine Go.putfield d4_48 (hw _ (List.mem_of_getElem? (i := 33) rfl)) Via.refl 1 rfl 1 rfl (Or.inr ⟨(hw _ (List.mem_of_getElem? (i := 34) rfl)), rfl, rfl⟩) (hw _ (List.mem_of_getElem? (i := 9) rfl)) (ty := .byte) (by decide +kernel) (v' := .int 0) rfl rfl (D' := [(t, .inr (.byte, cs.map byV)), (x, .inl ("java/lang/String", ("java/lang/String", "value", "[B", .null) :: ("java/lang/String", "coder", "B", .int 0) :: more))]) rfl (G := ?_)
  refine Go.aloadN d4_51 rfl (G := ?_)
  refine Go.aload d4_52 rfl (G := ?_)
  refine Go.putfield d4_54 (hw _ (List.mem_of_getElem? (i := 35) rfl)) Via.refl 1 rfl 0 rfl (Or.inr ⟨(hw _ (List.mem_of_getElem? (i := 36) rfl)), rfl, rfl⟩) (hw _ (List.mem_of_getElem? (i := 9) rfl)) (ty := .array .byte) (by decide +kernel) (v' := .ref t) rfl rfl (D' := [(t, .inr (.byte, cs.map byV)), (x, .inl ("java/lang/String", ("java/lang/String", "value", "[B", .ref t) :: ("java/lang/String", "coder", "B", .int 0) :: more))]) rfl (G := ?_)
  refine Go.sub [1, 0] (by decide) rfl (D' := [(x, .inl ("java/lang/String", ("java/lang/String", "value", "[B", .ref t) :: ("java/lang/String", "coder", "B", .int 0) :: more)), (t, .inr (.byte, cs.map byV))]) rfl (S' := []) eN (G := ?_)
  exact Go.retV d4_57 ⟨t, rfl, rfl, rfl⟩ (hl := by show 0 + n + 0 ≤ n; omega)
theorem d5_0 : Dx jdk_42_method_3_code 0 (.aload_n 0) 1 1 := ⟨by decide +kernel, rfl⟩
theorem d5_1 : Dx jdk_42_method_3_code 1 (.aload_n 1) 1 2 := ⟨by decide +kernel, rfl⟩
theorem d5_2 : Dx jdk_42_method_3_code 2 (.iconst 0) 1 3 := ⟨by decide +kernel, rfl⟩
theorem d5_3 : Dx jdk_42_method_3_code 3 (.aload_n 1) 1 4 := ⟨by decide +kernel, rfl⟩
theorem d5_4 : Dx jdk_42_method_3_code 4 (.arraylength) 1 5 := ⟨by decide +kernel, rfl⟩
theorem d5_5 : Dx jdk_42_method_3_code 5 (.aconst_null) 1 6 := ⟨by decide +kernel, rfl⟩
theorem d5_6 : Dx jdk_42_method_3_code 6 (.invokespecial 27) 3 9 := ⟨by decide +kernel, rfl⟩
theorem d5_9 : Dx jdk_42_method_3_code 9 (.return_) 1 10 := ⟨by decide +kernel, rfl⟩
theorem pdg_3 : parseMethodDescriptor "([CIILjava/lang/Void;)V" = some ⟨[.array .char, .int, .int, .object "java/lang/Void"], none⟩ := by decide +kernel
set_option maxRecDepth 65536 in
set_option maxHeartbeats 40000000 in
theorem c_init {l : Launch} {Z : State} {a0 : Array Value} {EL : List (String × Nat)} {b : Bool} {n0 : Nat} (hw : ∀ d ∈ tables_1, d.before a0 Z = true) (x src : Addr) (cs : List Int32) (n : Nat) (more : List (String × String × String × Value)) (cpt : Int32) (hCS : Sta Z Z.heap "java/lang/String" "COMPACT_STRINGS" "Z" (.int cpt)) (hcpt : ¬ cpt = 0) (hn : cs.length = n) (hb : n ≤ 4000) (hpos : 0 < n) (hlat : ∀ c ∈ cs, ¬ (255 : Int32) < c) :
    Met l Z a0 EL b n0 (⟨"java/lang/String", "<init>", "([C)V"⟩ : MethodName) jdk_42_method_3_code 2 none [] (rm4 3 1 n 52) [.ref x, .ref src] [(x, .inl ("java/lang/String", ("java/lang/String", "value", "[B", .null) :: ("java/lang/String", "coder", "B", .int 0) :: more))] [(src, .inr (.char, cs.map Value.int))] (fun v D' S' => ∃ t, v = none ∧ D' = [(x, .inl ("java/lang/String", ("java/lang/String", "value", "[B", .ref t) :: ("java/lang/String", "coder", "B", .int 0) :: more)), (t, .inr (.byte, cs.map byV))] ∧ S' = []) := by
  refine Met.of_go (own := "java/lang/String") (nm := "<init>") (Ls := #[.val (.ref x), .val (.ref src)]) (plainFor_of_name png_1) (fun m => by first | rfl | (simp [entryFrame, mkF, argsToLocals, Value.category]; done)) ?_
  refine Go.aloadN d5_0 rfl (G := ?_)
  refine Go.aloadN d5_1 rfl (G := ?_)
  refine Go.iconst d5_2 (v := 0) rfl (G := ?_)
  refine Go.aloadN d5_3 rfl (G := ?_)
  refine Go.arraylength d5_4 (inS (i := 0) rfl) (n := (Int32.ofNat n)) (by rw [List.length_map, hn]) (G := ?_)
  refine Go.aconstNull d5_5 (G := ?_)
  refine Go.invokeinit false d5_6 rfl (hw _ (List.mem_of_getElem? (i := 14) rfl)) (hw _ (List.mem_of_getElem? (i := 15) rfl)) (hw _ (List.mem_of_getElem? (i := 10) rfl)) (hw _ (List.mem_of_getElem? (i := 17) rfl)) (c_initV hw x src cs n more cpt hCS hcpt hn hb hpos hlat) pdg_3 rfl (argsL := [.ref src, .int 0, .int (Int32.ofNat n), .null]) (rest := []) rfl rfl (Dr := []) rfl (eS (Or.inl (List.mem_of_getElem? (i := 0) rfl)) eN) (hsl := by show 0 + n ≤ n; omega) (G := ?_)
  rintro _ _ _ ⟨t, rfl, rfl, rfl⟩
  refine Go.norm (D2 := [(x, .inl ("java/lang/String", ("java/lang/String", "value", "[B", .ref t) :: ("java/lang/String", "coder", "B", .int 0) :: more)), (t, .inr (.byte, cs.map byV))]) (S2 := [(src, .inr (.char, cs.map Value.int))]) (c2 := 1) (s2 := 0 + n) (st2 := []) ?_
  refine Go.sub [0, 1] (by decide) rfl (D' := [(x, .inl ("java/lang/String", ("java/lang/String", "value", "[B", .ref t) :: ("java/lang/String", "coder", "B", .int 0) :: more)), (t, .inr (.byte, cs.map byV))]) rfl (S' := []) eN (G := ?_)
  exact Go.retV d5_9 ⟨t, rfl, rfl, rfl⟩ (hl := by show 0 + n ≤ n; omega)
set_option maxRecDepth 65536 in
set_option maxHeartbeats 40000000 in
theorem c_initV0 {l : Launch} {Z : State} {a0 : Array Value} {EL : List (String × Nat)} {b : Bool} {n0 : Nat} (hw : ∀ d ∈ tables_1, d.before a0 Z = true) (x src : Addr) (more : List (String × String × String × Value)) (hb1 : b = true) (hE_String_7 : ("java/lang/String", 7) ∈ EL) :
    Met l Z a0 EL b n0 (⟨"java/lang/String", "<init>", "([CIILjava/lang/Void;)V"⟩ : MethodName) jdk_42_method_149_code 6 none [] (rm4 1 4 8 13) [.ref x, .ref src, .int 0, .int 0, .null] [(x, .inl ("java/lang/String", ("java/lang/String", "value", "[B", .null) :: ("java/lang/String", "coder", "B", .int 0) :: more)), (src, .inr (.char, []))] [] (fun v D' S' => ∃ kc, v = none ∧ D' = [(x, .inl ("java/lang/String", ("java/lang/String", "value", "[B", .ref kc) :: ("java/lang/String", "coder", "B", .int 0) :: more)), (src, .inr (.char, []))] ∧ S' = [(kc, .inr (.byte, []))]) := by
  refine Met.of_go (own := "java/lang/String") (nm := "<init>") (Ls := #[.val (.ref x), .val (.ref src), .val (.int 0), .val (.int 0), .val .null, .unset]) (plainFor_of_name png_1) (fun m => by first | rfl | (simp [entryFrame, mkF, argsToLocals, Value.category]; done)) ?_
  refine Go.aloadN d4_0 rfl (G := ?_)
  refine Go.objInit d4_1 (hw _ (List.mem_of_getElem? (i := 18) rfl)) (hw _ (List.mem_of_getElem? (i := 19) rfl)) (hw _ (List.mem_of_getElem? (i := 20) rfl)) rfl (Nat.le_of_ble_eq_true rfl) (Nat.le_of_ble_eq_true rfl) (G := ?_)
  refine Go.iloadN d4_4 rfl (G := ?_)
  refine Go.ifc d4_5 (pc2 := 27) (Gy := fun h => absurd h (show ¬ (¬ (0 : Int32) = 0) by decide)) (Gn := fun _ => ?_)
  refine Go.aloadN d4_8 rfl (G := ?_)
  refine Go.ldcStr d4_9 (hw _ (List.mem_of_getElem? (i := 101) rfl)) (strW hw) hE_String_7 hb1 (layS hw) (text := "") (vs := []) ⟨by decide, rfl⟩ (n := 0) (by decide) (by decide) (G := fun k1 k2 => ?_)
  refine Go.getfield d4_11 (host := "") (Or.inl (hw _ (List.mem_of_getElem? (i := 35) rfl))) Via.refl (inS (i := 0) rfl) 0 rfl (G := ?_)
  refine Go.putfield d4_14 (hw _ (List.mem_of_getElem? (i := 35) rfl)) Via.refl 0 rfl 0 rfl (Or.inr ⟨(hw _ (List.mem_of_getElem? (i := 36) rfl)), rfl, rfl⟩) (hw _ (List.mem_of_getElem? (i := 9) rfl)) (ty := .array .byte) (by decide +kernel) (v' := .ref k2) rfl rfl (D' := [(x, .inl ("java/lang/String", ("java/lang/String", "value", "[B", .ref k2) :: ("java/lang/String", "coder", "B", .int 0) :: more)), (src, .inr (.char, []))]) rfl (G := ?_)
  refine Go.aloadN d4_17 rfl (G := ?_)
  refine Go.ldcStr d4_18 (hw _ (List.mem_of_getElem? (i := 101) rfl)) (strW hw) hE_String_7 hb1 (layS hw) (text := "") (vs := []) ⟨by decide, rfl⟩ (n := 0) (by decide) (by decide) (G := fun k3 k4 => ?_)
  refine Go.getfield d4_20 (host := "") (Or.inl (hw _ (List.mem_of_getElem? (i := 33) rfl))) Via.refl (inS (i := 0) rfl) 1 rfl (G := ?_)
  refine Go.putfield d4_23 (hw _ (List.mem_of_getElem? (i := 33) rfl)) Via.refl 0 rfl 1 rfl (Or.inr ⟨(hw _ (List.mem_of_getElem? (i := 34) rfl)), rfl, rfl⟩) (hw _ (List.mem_of_getElem? (i := 9) rfl)) (ty := .byte) (by decide +kernel) (v' := .int 0) rfl rfl (D' := [(x, .inl ("java/lang/String", ("java/lang/String", "value", "[B", .ref k2) :: ("java/lang/String", "coder", "B", .int 0) :: more)), (src, .inr (.char, []))]) rfl (G := ?_)
  refine Go.sub [0, 1] (by decide) rfl (D' := [(x, .inl ("java/lang/String", ("java/lang/String", "value", "[B", .ref k2) :: ("java/lang/String", "coder", "B", .int 0) :: more)), (src, .inr (.char, []))]) rfl (S' := [(k2, .inr (.byte, []))]) (eS (Or.inl (List.mem_of_getElem? (i := 3) rfl)) eN) (G := ?_)
  exact Go.retV d4_26 ⟨k2, rfl, rfl, rfl⟩
set_option maxRecDepth 65536 in
set_option maxHeartbeats 40000000 in
theorem c_init0 {l : Launch} {Z : State} {a0 : Array Value} {EL : List (String × Nat)} {b : Bool} {n0 : Nat} (hw : ∀ d ∈ tables_1, d.before a0 Z = true) (x src : Addr) (more : List (String × String × String × Value)) (hb1 : b = true) (hE_String_7 : ("java/lang/String", 7) ∈ EL) :
    Met l Z a0 EL b n0 (⟨"java/lang/String", "<init>", "([C)V"⟩ : MethodName) jdk_42_method_3_code 2 none [] (rm4 2 4 8 30) [.ref x, .ref src] [(x, .inl ("java/lang/String", ("java/lang/String", "value", "[B", .null) :: ("java/lang/String", "coder", "B", .int 0) :: more)), (src, .inr (.char, []))] [] (fun v D' S' => ∃ kc, v = none ∧ D' = [(x, .inl ("java/lang/String", ("java/lang/String", "value", "[B", .ref kc) :: ("java/lang/String", "coder", "B", .int 0) :: more)), (src, .inr (.char, []))] ∧ S' = [(kc, .inr (.byte, []))]) := by
  refine Met.of_go (own := "java/lang/String") (nm := "<init>") (Ls := #[.val (.ref x), .val (.ref src)]) (plainFor_of_name png_1) (fun m => by first | rfl | (simp [entryFrame, mkF, argsToLocals, Value.category]; done)) ?_
  refine Go.aloadN d5_0 rfl (G := ?_)
  refine Go.aloadN d5_1 rfl (G := ?_)
  refine Go.iconst d5_2 (v := 0) rfl (G := ?_)
  refine Go.aloadN d5_3 rfl (G := ?_)
  refine Go.arraylength d5_4 (inD (i := 1) rfl) (n := 0) rfl (G := ?_)
  refine Go.aconstNull d5_5 (G := ?_)
  refine Go.invokeinit false d5_6 rfl (hw _ (List.mem_of_getElem? (i := 14) rfl)) (hw _ (List.mem_of_getElem? (i := 15) rfl)) (hw _ (List.mem_of_getElem? (i := 10) rfl)) (hw _ (List.mem_of_getElem? (i := 17) rfl)) (c_initV0 hw x src more hb1 hE_String_7) pdg_3 rfl (argsL := [.ref src, .int 0, .int 0, .null]) (rest := []) rfl rfl (Dr := []) rfl eN (G := ?_)
  rintro _ _ _ ⟨kc, rfl, rfl, rfl⟩
  refine Go.norm (D2 := [(x, .inl ("java/lang/String", ("java/lang/String", "value", "[B", .ref kc) :: ("java/lang/String", "coder", "B", .int 0) :: more)), (src, .inr (.char, []))]) (S2 := [(kc, .inr (.byte, []))]) (c2 := 4) (s2 := 8) (st2 := []) ?_
  exact Go.retV d5_9 ⟨kc, rfl, rfl, rfl⟩

theorem bT {r : Int32} {P : Prop} (h : (r = 1 ∧ P) ∨ (r = 0 ∧ ¬ P)) (q : ¬ r = 0) : P := h.elim (fun x => x.2) (fun x => absurd x.1 q)
theorem bF {r : Int32} {P : Prop} (h : (r = 1 ∧ P) ∨ (r = 0 ∧ ¬ P)) (q : r = 0) : ¬ P := h.elim (fun x => absurd (x.1.symm.trans q) (by decide)) (fun x => x.2)
theorem shr0 (x : Int32) : x >>> ((0 : Int32) &&& 31) = x := by
  apply Int32.toBitVec_inj.mp; simp
theorem nI_pred {n : Nat} (h : 0 < n) : Int32.ofNat n - 1 = Int32.ofNat (n - 1) := by
  obtain ⟨k, rfl⟩ : ∃ k, n = k + 1 := ⟨n - 1, by omega⟩
  rw [← nI_succ, Nat.add_sub_cancel, Int32.add_sub_cancel]
theorem byv_at {cs : List Int32} {i : Nat} {x : Int32} (hi : i < 2147483648) (hx : cs[i]? = some x) : (cs.map byV)[(Int32.ofNat i).toNatClampNeg]? = some (.int x.toInt8.toInt32) := by
  rw [nI_nat hi, List.getElem?_map, hx]; rfl
theorem lat_y {c : Int32} (h0 : 0 ≤ c.toInt) (h1 : c.toInt ≤ 255) : (c.toInt8.toInt32 &&& 255).toUInt32.toUInt16.toUInt32.toInt32 = c := by
  have a2 := c_i2b c
  rw [i2c_mask]
  have a3 := c_mask c.toInt8.toInt32 255 8 (by omega) (by decide)
  apply Int32.toInt_inj.mp
  simp only [Nat.reducePow, Int.reducePow] at *
  omega
theorem m16_lat {x : Int32} (h : ¬ (255 : Int32) < x) : x.toInt ≤ 255 := by
  rw [Int32.lt_iff_toInt_lt] at h; have : (255 : Int32).toInt = 255 := rfl; omega
theorem latN_full : ∀ {cs : List Int32}, latN cs = cs.length → ∀ c ∈ cs, ¬ (255 : Int32) < c
  | [], _, _, h => by cases h
  | c :: r, e, x, hx => by
    by_cases q : (255 : Int32) < c
    · rw [latN, if_pos q] at e; simp at e
    · rw [latN, if_neg q] at e
      rcases List.mem_cons.mp hx with rfl | hx
      · exact q
      · exact latN_full (cs := r) (by simpa using e) x hx


theorem byV_inj {x y : Int32} (hx : 0 ≤ x.toInt ∧ x.toInt ≤ 255) (hy : 0 ≤ y.toInt ∧ y.toInt ≤ 255) (h : x.toInt8.toInt32 = y.toInt8.toInt32) : x = y := by
  have a := c_i2b x; have c := c_i2b y
  have h := congrArg Int32.toInt h
  apply Int32.toInt_inj.mp; omega
theorem eq_of_at {cs ds : List Int32} (hl : cs.length = ds.length) (h : ∀ (j : Nat) (x y : Int32), cs[j]? = some x → ds[j]? = some y → x = y) : cs = ds := by
  apply List.ext_getElem?
  intro j
  by_cases q : j < cs.length
  · rw [List.getElem?_eq_getElem q, List.getElem?_eq_getElem (by omega), h j _ _ (List.getElem?_eq_getElem q) (List.getElem?_eq_getElem (by omega))]
  · rw [List.getElem?_eq_none (by omega), List.getElem?_eq_none (by omega)]

theorem png_2 : plainName "java/lang/StringLatin1" = true := by first | (simp [plainName, overriddenIn]; done) | decide +kernel
theorem d6_0 : Dx jdk_43_method_13_code 0 (.aload_n 0) 1 1 := ⟨by decide +kernel, rfl⟩
theorem d6_1 : Dx jdk_43_method_13_code 1 (.arraylength) 1 2 := ⟨by decide +kernel, rfl⟩
theorem d6_2 : Dx jdk_43_method_13_code 2 (.aload_n 1) 1 3 := ⟨by decide +kernel, rfl⟩
theorem d6_3 : Dx jdk_43_method_13_code 3 (.arraylength) 1 4 := ⟨by decide +kernel, rfl⟩
theorem d6_4 : Dx jdk_43_method_13_code 4 (.if_icmp .ne 30) 3 7 := ⟨by decide +kernel, rfl⟩
theorem d6_7 : Dx jdk_43_method_13_code 7 (.iconst 0) 1 8 := ⟨by decide +kernel, rfl⟩
theorem d6_8 : Dx jdk_43_method_13_code 8 (.istore_n 2) 1 9 := ⟨by decide +kernel, rfl⟩
theorem d6_9 : Dx jdk_43_method_13_code 9 (.iload_n 2) 1 10 := ⟨by decide +kernel, rfl⟩
theorem d6_10 : Dx jdk_43_method_13_code 10 (.aload_n 0) 1 11 := ⟨by decide +kernel, rfl⟩
theorem d6_11 : Dx jdk_43_method_13_code 11 (.arraylength) 1 12 := ⟨by decide +kernel, rfl⟩
theorem d6_12 : Dx jdk_43_method_13_code 12 (.if_icmp .ge 20) 3 15 := ⟨by decide +kernel, rfl⟩
theorem d6_15 : Dx jdk_43_method_13_code 15 (.aload_n 0) 1 16 := ⟨by decide +kernel, rfl⟩
theorem d6_16 : Dx jdk_43_method_13_code 16 (.iload_n 2) 1 17 := ⟨by decide +kernel, rfl⟩
theorem d6_17 : Dx jdk_43_method_13_code 17 (.baload) 1 18 := ⟨by decide +kernel, rfl⟩
theorem d6_18 : Dx jdk_43_method_13_code 18 (.aload_n 1) 1 19 := ⟨by decide +kernel, rfl⟩
theorem d6_19 : Dx jdk_43_method_13_code 19 (.iload_n 2) 1 20 := ⟨by decide +kernel, rfl⟩
theorem d6_20 : Dx jdk_43_method_13_code 20 (.baload) 1 21 := ⟨by decide +kernel, rfl⟩
theorem d6_21 : Dx jdk_43_method_13_code 21 (.if_icmp .eq 5) 3 24 := ⟨by decide +kernel, rfl⟩
theorem d6_24 : Dx jdk_43_method_13_code 24 (.iconst 0) 1 25 := ⟨by decide +kernel, rfl⟩
theorem d6_25 : Dx jdk_43_method_13_code 25 (.ireturn) 1 26 := ⟨by decide +kernel, rfl⟩
theorem d6_26 : Dx jdk_43_method_13_code 26 (.iinc 2 1) 3 29 := ⟨by decide +kernel, rfl⟩
theorem d6_29 : Dx jdk_43_method_13_code 29 (.goto (-20)) 3 32 := ⟨by decide +kernel, rfl⟩
theorem d6_32 : Dx jdk_43_method_13_code 32 (.iconst 1) 1 33 := ⟨by decide +kernel, rfl⟩
theorem d6_33 : Dx jdk_43_method_13_code 33 (.ireturn) 1 34 := ⟨by decide +kernel, rfl⟩
theorem d6_34 : Dx jdk_43_method_13_code 34 (.iconst 0) 1 35 := ⟨by decide +kernel, rfl⟩
theorem d6_35 : Dx jdk_43_method_13_code 35 (.ireturn) 1 36 := ⟨by decide +kernel, rfl⟩
set_option maxRecDepth 65536 in
set_option maxHeartbeats 40000000 in
theorem c_eqB {l : Launch} {Z : State} {a0 : Array Value} {EL : List (String × Nat)} {b : Bool} {n0 : Nat} (hw : ∀ d ∈ tables_1, d.before a0 Z = true) (c d : Addr) (cs ds : List Int32) (n m : Nat) (hn : cs.length = n) (hm : ds.length = m) (hb : n ≤ 4000) (hb2 : m ≤ 4000) (hc : ∀ c ∈ cs, 0 ≤ c.toInt ∧ c.toInt ≤ 255) (hd : ∀ c ∈ ds, 0 ≤ c.toInt ∧ c.toInt ≤ 255) :
    Met l Z a0 EL b n0 (⟨"java/lang/StringLatin1", "equals", "([B[B)Z"⟩ : MethodName) jdk_43_method_13_code 3 (some .boolean) [] (rm4 0 0 0 0) [.ref c, .ref d] [] [(c, .inr (.byte, cs.map byV)), (d, .inr (.byte, ds.map byV))] (fun v D' S' => ∃ r, ((r = 1 ∧ cs = ds) ∨ (r = 0 ∧ ¬ cs = ds)) ∧ v = some (.int r) ∧ D' = [] ∧ S' = []) := by
  refine Met.of_go (own := "java/lang/StringLatin1") (nm := "equals") (Ls := #[.val (.ref c), .val (.ref d), .unset]) (plainFor_of_name png_2) (fun m => by first | rfl | (simp [entryFrame, mkF, argsToLocals, Value.category]; done)) ?_
  refine Go.aloadN d6_0 rfl (G := ?_)
  refine Go.arraylength d6_1 (inS (i := 0) rfl) (n := (Int32.ofNat n)) (by rw [List.length_map, hn]) (G := ?_)
  refine Go.aloadN d6_2 rfl (G := ?_)
  refine Go.arraylength d6_3 (inS (i := 1) rfl) (n := (Int32.ofNat m)) (by rw [List.length_map, hm]) (G := ?_)
  refine Go.icmp d6_4 (pc2 := 34) (Gy := fun h => ?_) (Gn := fun h => ?_)
  · have h : ¬ (Int32.ofNat n) = (Int32.ofNat m) := h
    refine Go.iconst d6_34 (v := 0) rfl (G := ?_)
    refine Go.sub [] (by decide) rfl (D' := []) rfl (S' := []) eN (G := ?_)
    exact Go.retB d6_35 (by simp) (z' := 0) rfl ⟨0, Or.inr ⟨rfl, fun q => h (by rw [← hn, ← hm, q])⟩, rfl, rfl, rfl⟩
  · have h : (Int32.ofNat n) = (Int32.ofNat m) := Classical.not_not.mp h
    have hnm : n = m := (nI_eq (by omega) (by omega)).mp h
    refine Go.iconst d6_7 (v := 0) rfl (G := ?_)
    refine Go.istoreN d6_8 (Ls' := #[.val (.ref c), .val (.ref d), .val (.int 0)]) rfl (G := ?_)
    have main : ∀ k i, i + k = n → (∀ j x y, j < i → cs[j]? = some x → ds[j]? = some y → x = y) →
        Go l Z a0 EL b n0 "java/lang/StringLatin1" jdk_43_method_13_code 3 (some .boolean) "equals" (rm4 0 0 0 0) [] (fun v D' S' => ∃ r, ((r = 1 ∧ cs = ds) ∨ (r = 0 ∧ ¬ cs = ds)) ∧ v = some (.int r) ∧ D' = [] ∧ S' = []) [] [(c, .inr (.byte, cs.map byV)), (d, .inr (.byte, ds.map byV))] 0 0 9 #[.val (.ref c), .val (.ref d), .val (.int (Int32.ofNat i))] [] := by
      intro k
      induction k with
      | zero =>
        intro i hi hall
        have hin : i = n := by omega
        refine Go.iloadN d6_9 rfl (G := ?_)
        refine Go.aloadN d6_10 rfl (G := ?_)
        refine Go.arraylength d6_11 (inS (i := 0) rfl) (n := (Int32.ofNat n)) (by rw [List.length_map, hn]) (G := ?_)
        refine Go.icmp d6_12 (pc2 := 32) (Gy := fun _ => ?_) (Gn := fun h => absurd (show ¬ (Int32.ofNat i < Int32.ofNat n) by rw [hin]; exact Int32.lt_irrefl) h)
        refine Go.iconst d6_32 (v := 1) rfl (G := ?_)
        refine Go.sub [] (by decide) rfl (D' := []) rfl (S' := []) eN (G := ?_)
        exact Go.retB d6_33 (by simp) (z' := 1) rfl ⟨1, Or.inl ⟨rfl, eq_of_at (by omega) (fun j x y hx hy => hall j x y (by have := (List.getElem?_eq_some_iff.mp hx).1; omega) hx hy)⟩, rfl, rfl, rfl⟩
      | succ k ih =>
        intro i hi hall
        have hin : i < n := by omega
        have hi31 : i < 2147483648 := by omega
        obtain ⟨x, hx⟩ : ∃ x, cs[i]? = some x := ⟨_, List.getElem?_eq_getElem (by omega)⟩
        obtain ⟨y, hy⟩ : ∃ y, ds[i]? = some y := ⟨_, List.getElem?_eq_getElem (by omega)⟩
        refine Go.iloadN d6_9 rfl (G := ?_)
        refine Go.aloadN d6_10 rfl (G := ?_)
        refine Go.arraylength d6_11 (inS (i := 0) rfl) (n := (Int32.ofNat n)) (by rw [List.length_map, hn]) (G := ?_)
        refine Go.icmp d6_12 (pc2 := 32) (Gy := fun h => absurd ((nI_lt hi31 (by omega)).mpr hin) h) (Gn := fun _ => ?_)
        refine Go.aloadN d6_15 rfl (G := ?_)
        refine Go.iloadN d6_16 rfl (G := ?_)
        refine Go.baload d6_17 (inS (i := 0) rfl) (v := .int x.toInt8.toInt32) (byv_at hi31 hx) (nI_nn hi31) (G := ?_)
        refine Go.aloadN d6_18 rfl (G := ?_)
        refine Go.iloadN d6_19 rfl (G := ?_)
        refine Go.baload d6_20 (inS (i := 1) rfl) (v := .int y.toInt8.toInt32) (byv_at hi31 hy) (nI_nn hi31) (G := ?_)
        refine Go.icmp d6_21 (pc2 := 26) (Gy := fun hq => ?_) (Gn := fun hq => ?_)
        · have hq : x.toInt8.toInt32 = y.toInt8.toInt32 := hq
          have hxy : x = y := byV_inj (hc x (List.mem_of_getElem? hx)) (hd y (List.mem_of_getElem? hy)) hq
          refine Go.iinc d6_26 rfl (v := 1) rfl (z := (Int32.ofNat (i + 1))) (nI_succ i) (Ls' := #[.val (.ref c), .val (.ref d), .val (.int (Int32.ofNat (i + 1)))]) rfl (G := ?_)
          refine Go.goto d6_29 (pc2 := 9) (G := ?_)
          exact ih (i + 1) (by omega) (fun j u v hj hu hv => by
            rcases Nat.lt_or_ge j i with q | q
            · exact hall j u v q hu hv
            · obtain rfl : j = i := by omega
              cases hx.symm.trans hu; cases hy.symm.trans hv; exact hxy)
        · have hq : ¬ x.toInt8.toInt32 = y.toInt8.toInt32 := hq
          refine Go.iconst d6_24 (v := 0) rfl (G := ?_)
          refine Go.sub [] (by decide) rfl (D' := []) rfl (S' := []) eN (G := ?_)
          exact Go.retB d6_25 (by simp) (z' := 0) rfl ⟨0, Or.inr ⟨rfl, fun q => hq (by subst q; cases hx.symm.trans hy; rfl)⟩, rfl, rfl, rfl⟩
    exact main n 0 (by omega) (fun j x y hj => absurd hj (by omega))
theorem d7_0 : Dx jdk_42_method_66_code 0 (.aload_n 0) 1 1 := ⟨by decide +kernel, rfl⟩
theorem d7_1 : Dx jdk_42_method_66_code 1 (.aload_n 1) 1 2 := ⟨by decide +kernel, rfl⟩
theorem d7_2 : Dx jdk_42_method_66_code 2 (.if_acmp .ne 5) 3 5 := ⟨by decide +kernel, rfl⟩
theorem d7_5 : Dx jdk_42_method_66_code 5 (.iconst 1) 1 6 := ⟨by decide +kernel, rfl⟩
theorem d7_6 : Dx jdk_42_method_66_code 6 (.ireturn) 1 7 := ⟨by decide +kernel, rfl⟩
theorem d7_7 : Dx jdk_42_method_66_code 7 (.aload_n 1) 1 8 := ⟨by decide +kernel, rfl⟩
theorem d7_8 : Dx jdk_42_method_66_code 8 (.instanceof 10) 3 11 := ⟨by decide +kernel, rfl⟩
theorem d7_11 : Dx jdk_42_method_66_code 11 (.ifCond .eq 43) 3 14 := ⟨by decide +kernel, rfl⟩
theorem d7_14 : Dx jdk_42_method_66_code 14 (.aload_n 1) 1 15 := ⟨by decide +kernel, rfl⟩
theorem d7_15 : Dx jdk_42_method_66_code 15 (.checkcast 10) 3 18 := ⟨by decide +kernel, rfl⟩
theorem d7_18 : Dx jdk_42_method_66_code 18 (.astore_n 2) 1 19 := ⟨by decide +kernel, rfl⟩
theorem d7_19 : Dx jdk_42_method_66_code 19 (.getstatic 38) 3 22 := ⟨by decide +kernel, rfl⟩
theorem d7_22 : Dx jdk_42_method_66_code 22 (.ifCond .eq 14) 3 25 := ⟨by decide +kernel, rfl⟩
theorem d7_25 : Dx jdk_42_method_66_code 25 (.aload_n 0) 1 26 := ⟨by decide +kernel, rfl⟩
theorem d7_26 : Dx jdk_42_method_66_code 26 (.getfield 15) 3 29 := ⟨by decide +kernel, rfl⟩
theorem d7_29 : Dx jdk_42_method_66_code 29 (.aload_n 2) 1 30 := ⟨by decide +kernel, rfl⟩
theorem d7_30 : Dx jdk_42_method_66_code 30 (.getfield 15) 3 33 := ⟨by decide +kernel, rfl⟩
theorem d7_33 : Dx jdk_42_method_66_code 33 (.if_icmp .ne 21) 3 36 := ⟨by decide +kernel, rfl⟩
theorem d7_36 : Dx jdk_42_method_66_code 36 (.aload_n 0) 1 37 := ⟨by decide +kernel, rfl⟩
theorem d7_37 : Dx jdk_42_method_66_code 37 (.getfield 9) 3 40 := ⟨by decide +kernel, rfl⟩
theorem d7_40 : Dx jdk_42_method_66_code 40 (.aload_n 2) 1 41 := ⟨by decide +kernel, rfl⟩
theorem d7_41 : Dx jdk_42_method_66_code 41 (.getfield 9) 3 44 := ⟨by decide +kernel, rfl⟩
theorem d7_44 : Dx jdk_42_method_66_code 44 (.invokestatic 541) 3 47 := ⟨by decide +kernel, rfl⟩
theorem d7_47 : Dx jdk_42_method_66_code 47 (.ifCond .eq 7) 3 50 := ⟨by decide +kernel, rfl⟩
theorem d7_50 : Dx jdk_42_method_66_code 50 (.iconst 1) 1 51 := ⟨by decide +kernel, rfl⟩
theorem d7_51 : Dx jdk_42_method_66_code 51 (.goto 4) 3 54 := ⟨by decide +kernel, rfl⟩
theorem d7_54 : Dx jdk_42_method_66_code 54 (.iconst 0) 1 55 := ⟨by decide +kernel, rfl⟩
theorem d7_55 : Dx jdk_42_method_66_code 55 (.ireturn) 1 56 := ⟨by decide +kernel, rfl⟩
theorem pdg_4 : parseMethodDescriptor "([B[B)Z" = some ⟨[.array .byte, .array .byte], some .boolean⟩ := by decide +kernel
set_option maxRecDepth 65536 in
set_option maxHeartbeats 40000000 in
theorem c_eqL {l : Launch} {Z : State} {a0 : Array Value} {EL : List (String × Nat)} {b : Bool} {n0 : Nat} (hw : ∀ d ∈ tables_1, d.before a0 Z = true) (a c b' d : Addr) (cs ds : List Int32) (n m : Nat) (more1 more2 : List (String × String × String × Value)) (cpt : Int32) (hCS : Sta Z Z.heap "java/lang/String" "COMPACT_STRINGS" "Z" (.int cpt)) (hcpt : ¬ cpt = 0) (hne : a ≠ b') (hn : cs.length = n) (hm : ds.length = m) (hb : n ≤ 4000) (hb2 : m ≤ 4000) (hc : ∀ c ∈ cs, 0 ≤ c.toInt ∧ c.toInt ≤ 255) (hd : ∀ c ∈ ds, 0 ≤ c.toInt ∧ c.toInt ≤ 255) :
    Met l Z a0 EL b n0 (⟨"java/lang/String", "equals", "(Ljava/lang/Object;)Z"⟩ : MethodName) jdk_42_method_66_code 3 (some .boolean) [] (rm4 1 0 0 14) [.ref a, .ref b'] [] [(a, .inl ("java/lang/String", ("java/lang/String", "value", "[B", .ref c) :: ("java/lang/String", "coder", "B", .int 0) :: more1)), (c, .inr (.byte, cs.map byV)), (b', .inl ("java/lang/String", ("java/lang/String", "value", "[B", .ref d) :: ("java/lang/String", "coder", "B", .int 0) :: more2)), (d, .inr (.byte, ds.map byV))] (fun v D' S' => ∃ r, ((r = 1 ∧ cs = ds) ∨ (r = 0 ∧ ¬ cs = ds)) ∧ v = some (.int r) ∧ D' = [] ∧ S' = []) := by
  refine Met.of_go (own := "java/lang/String") (nm := "equals") (Ls := #[.val (.ref a), .val (.ref b'), .unset]) (plainFor_of_name png_1) (fun m => by first | rfl | (simp [entryFrame, mkF, argsToLocals, Value.category]; done)) ?_
  refine Go.aloadN d7_0 rfl (G := ?_)
  refine Go.aloadN d7_1 rfl (G := ?_)
  refine Go.acmpne d7_2 (pc2 := 7) (Gy := fun _ => ?_) (Gn := fun h => absurd (Value.ref.inj h) hne)
  refine Go.aloadN d7_7 rfl (G := ?_)
  refine Go.instanceofY d7_8 (hw _ (List.mem_of_getElem? (i := 63) rfl)) (inS (i := 2) rfl) (Or.inl rfl) (G := ?_)
  refine Go.ifc d7_11 (pc2 := 54) (Gy := fun h => absurd h (show ¬ ((1 : Int32) = 0) by decide)) (Gn := fun _ => ?_)
  refine Go.aloadN d7_14 rfl (G := ?_)
  refine Go.checkcast d7_15 (hw _ (List.mem_of_getElem? (i := 63) rfl)) (inS (i := 2) rfl) (Or.inl rfl) (G := ?_)
  refine Go.astoreN d7_18 (Ls' := #[.val (.ref a), .val (.ref b'), .val (.ref b')]) rfl (G := ?_)
  refine Go.getstatic d7_19 (host := "") (Or.inl (hw _ (List.mem_of_getElem? (i := 21) rfl))) Via.refl hCS (G := ?_)
  refine Go.ifc d7_22 (pc2 := 36) (Gy := fun h => absurd h hcpt) (Gn := fun _ => ?_)
  refine Go.aloadN d7_25 rfl (G := ?_)
  refine Go.getfield d7_26 (host := "") (Or.inl (hw _ (List.mem_of_getElem? (i := 33) rfl))) Via.refl (inS (i := 0) rfl) 1 rfl (G := ?_)
  refine Go.aloadN d7_29 rfl (G := ?_)
  refine Go.getfield d7_30 (host := "") (Or.inl (hw _ (List.mem_of_getElem? (i := 33) rfl))) Via.refl (inS (i := 2) rfl) 1 rfl (G := ?_)
  refine Go.icmp d7_33 (pc2 := 54) (Gy := fun h => absurd h (show ¬ (¬ (0 : Int32) = 0) by decide)) (Gn := fun _ => ?_)
  refine Go.aloadN d7_36 rfl (G := ?_)
  refine Go.getfield d7_37 (host := "") (Or.inl (hw _ (List.mem_of_getElem? (i := 35) rfl))) Via.refl (inS (i := 0) rfl) 0 rfl (G := ?_)
  refine Go.aloadN d7_40 rfl (G := ?_)
  refine Go.getfield d7_41 (host := "") (Or.inl (hw _ (List.mem_of_getElem? (i := 35) rfl))) Via.refl (inS (i := 2) rfl) 0 rfl (G := ?_)
  refine Go.invokestatic false d7_44 (hw _ (List.mem_of_getElem? (i := 64) rfl)) (hw _ (List.mem_of_getElem? (i := 65) rfl)) (hw _ (List.mem_of_getElem? (i := 66) rfl)) (hw _ (List.mem_of_getElem? (i := 67) rfl)) (c_eqB hw c d cs ds n m hn hm hb hb2 hc hd) pdg_4 rfl (argsL := [.ref c, .ref d]) (rest := []) rfl rfl (Dr := []) rfl (eS (Or.inl (List.mem_of_getElem? (i := 1) rfl)) (eS (Or.inl (List.mem_of_getElem? (i := 3) rfl)) eN)) (G := ?_)
  rintro _ _ _ ⟨r, hr, rfl, rfl, rfl⟩
  refine Go.norm (D2 := []) (S2 := [(a, .inl ("java/lang/String", ("java/lang/String", "value", "[B", .ref c) :: ("java/lang/String", "coder", "B", .int 0) :: more1)), (c, .inr (.byte, cs.map byV)), (b', .inl ("java/lang/String", ("java/lang/String", "value", "[B", .ref d) :: ("java/lang/String", "coder", "B", .int 0) :: more2)), (d, .inr (.byte, ds.map byV))]) (c2 := 0) (s2 := 0) (st2 := [.int r]) ?_
  refine Go.ifc d7_47 (pc2 := 54) (Gy := fun hq => ?_) (Gn := fun hq => ?_)
  · have hq : r = 0 := hq
    refine Go.iconst d7_54 (v := 0) rfl (G := ?_)
    refine Go.sub [] (by decide) rfl (D' := []) rfl (S' := []) eN (G := ?_)
    exact Go.retB d7_55 (by simp) (z' := 0) rfl ⟨0, Or.inr ⟨rfl, bF hr hq⟩, rfl, rfl, rfl⟩
  · have hq : ¬ r = 0 := hq
    refine Go.iconst d7_50 (v := 1) rfl (G := ?_)
    refine Go.goto d7_51 (pc2 := 55) (G := ?_)
    refine Go.sub [] (by decide) rfl (D' := []) rfl (S' := []) eN (G := ?_)
    exact Go.retB d7_55 (by simp) (z' := 1) rfl ⟨1, Or.inl ⟨rfl, bT hr hq⟩, rfl, rfl, rfl⟩
set_option maxRecDepth 65536 in
set_option maxHeartbeats 40000000 in
theorem c_eqSame {l : Launch} {Z : State} {a0 : Array Value} {EL : List (String × Nat)} {b : Bool} {n0 : Nat} (hw : ∀ d ∈ tables_1, d.before a0 Z = true) (a : Addr) :
    Met l Z a0 EL b n0 (⟨"java/lang/String", "equals", "(Ljava/lang/Object;)Z"⟩ : MethodName) jdk_42_method_66_code 3 (some .boolean) [] (rm4 0 0 0 0) [.ref a, .ref a] [] [] (fun v D' S' => v = some (.int 1) ∧ D' = [] ∧ S' = []) := by
  refine Met.of_go (own := "java/lang/String") (nm := "equals") (Ls := #[.val (.ref a), .val (.ref a), .unset]) (plainFor_of_name png_1) (fun m => by first | rfl | (simp [entryFrame, mkF, argsToLocals, Value.category]; done)) ?_
  refine Go.aloadN d7_0 rfl (G := ?_)
  refine Go.aloadN d7_1 rfl (G := ?_)
  refine Go.acmpne d7_2 (pc2 := 7) (Gy := fun h => absurd rfl h) (Gn := fun _ => ?_)
  refine Go.iconst d7_5 (v := 1) rfl (G := ?_)
  exact Go.retB d7_6 (by simp) (z' := 1) rfl ⟨rfl, rfl, rfl⟩
def L1 : List Int32 := [99, 117, 115, 116, 111, 109, 101, 114, 46, 99, 114, 101, 97, 116, 101, 100]
def L2 : List Int32 := [115, 117, 98, 115, 99, 114, 105, 112, 116, 105, 111, 110, 46, 97, 99, 116, 105, 118, 97, 116, 101, 100]

theorem L1_lat : ∀ c ∈ L1, 0 ≤ c.toInt ∧ c.toInt ≤ 255 := by decide
theorem L2_lat : ∀ c ∈ L2, 0 ≤ c.toInt ∧ c.toInt ≤ 255 := by decide
theorem nlat {c : Int32} (h : 0 ≤ c.toInt ∧ c.toInt ≤ 255) : ¬ (255 : Int32) < c := by
  rw [Int32.lt_iff_toInt_lt]; have : (255 : Int32).toInt = 255 := rfl; omega
theorem nc_of {c : Int32} (h : 0 ≤ c.toInt ∧ c.toInt ≤ 255) : nar .char c = c := c16_nar h.1 (by omega)
theorem bZ {r : Int32} {P : Prop} (h : (r = 1 ∧ P) ∨ (r = 0 ∧ ¬ P)) (q : ¬ P) : r = 0 := h.elim (fun x => absurd x.2 q) (fun x => x.1)
theorem ne_len {a b : List Int32} (h : a.length ≠ b.length) : ¬ a = b := fun q => h (by rw [q])
theorem lat_app {a : List Int32} {c : Int32} (ha : ∀ x ∈ a, 0 ≤ x.toInt ∧ x.toInt ≤ 255) (hc : 0 ≤ c.toInt ∧ c.toInt ≤ 255) : ∀ x ∈ a ++ [c], 0 ≤ x.toInt ∧ x.toInt ≤ 255 := fun x hx => by
  rcases List.mem_append.mp hx with q | q
  · exact ha x q
  · cases List.mem_singleton.mp q; exact hc
theorem lat_set {a : List Int32} {c : Int32} {j : Nat} (ha : ∀ x ∈ a, 0 ≤ x.toInt ∧ x.toInt ≤ 255) (hc : 0 ≤ c.toInt ∧ c.toInt ≤ 255) : ∀ x ∈ a.set j c, 0 ≤ x.toInt ∧ x.toInt ≤ 255 := fun x hx => by
  rcases List.mem_or_eq_of_mem_set hx with q | rfl
  · exact ha x q
  · exact hc
theorem set_at {a : List Int32} {j : Nat} {x c : Int32} (h : a[j]? = some x) : (a.set j c)[j]? = some c := by
  rw [List.getElem?_set_self (List.getElem?_eq_some_iff.mp h).1]
theorem set_same {a : List Int32} {j : Nat} {x : Int32} (h : a[j]? = some x) : a = a.set j x := by
  apply List.ext_getElem?
  intro i
  by_cases q : j = i
  · subst q; rw [set_at h, h]
  · rw [List.getElem?_set_ne q]
theorem set_ne {a : List Int32} {j : Nat} {x c : Int32} (h : a[j]? = some x) (hne : ¬ c = x) : ¬ a = a.set j c := fun q => hne (by
  have e : some x = some c := h.symm.trans ((congrArg (fun l => l[j]?) q).trans (set_at h))
  exact (Option.some.inj e).symm)
theorem four (x : Int32) : x &&& 3 = 0 ∨ x &&& 3 = 1 ∨ x &&& 3 = 2 ∨ x &&& 3 = 3 := by
  have a := c_mask x 3 2 (by omega) (by decide)
  simp only [← Int32.toInt_inj, Int32.reduceToInt, Nat.reducePow] at *
  omega
theorem rem_at (x : Int32) (n : Nat) (m : Int32) (hm : m.toInt = n) (h0 : 0 < n) (h1 : n < 100) : ∃ j, ((x &&& 2147483647) % m).toNatClampNeg = j ∧ j < n ∧ ¬ (x &&& 2147483647) % m < 0 := by
  have q0 : 0 ≤ (x &&& 2147483647).toInt := (c_andS x 2147483647).2.2 (by decide)
  have q1 := (c_irem (x &&& 2147483647) m n hm).1 q0
  have q2 : ((x &&& 2147483647) % m).toInt = (x &&& 2147483647).toInt % n := q1
  have q3 := Int.emod_lt_of_pos (x &&& 2147483647).toInt (show (0 : Int) < n by omega)
  have q4 := Int.emod_nonneg (x &&& 2147483647).toInt (show (n : Int) ≠ 0 by omega)
  refine ⟨_, rfl, ?_, ?_⟩
  · simp only [Int32.toNatClampNeg]; omega
  · rw [Int32.lt_iff_toInt_lt]; have : (0 : Int32).toInt = 0 := rfl; omega


theorem arr_of {s : State} {args : Array Value} {t : Jvm.Term} {x : Addr} {c : Cell} {ty : FieldType} {n : Int32} {vs : List Value} (A : Arr s s.heap x c ty) (ev : t.eval args s none [] s = some (.ref x)) (hl : (Jvm.Cond.eq (.length t) (.int n)).value args s none s [] = some true) (hn : n.toInt = vs.length)
    (he : ∀ i, i < vs.length → (Jvm.Term.elem t (.int (Int32.ofNat i))).eval args s none [] s = vs[i]?) : c.slots = vs.toArray := by
  have hat : s.arrayAt? x = some c := A.fin (Vm.Alike.refl _)
  obtain ⟨v, e1, e2⟩ := Cond.eq_worth hl
  cases (show some (Value.int n) = some v from e2)
  simp only [Term.eval, ev, hat, Option.bind_eq_bind, Option.bind_some] at e1
  split at e1
  · rename_i h31
    have e3 : c.slots.size.toInt32 = n := by simpa using e1
    have e4 : c.slots.size = vs.length := by
      have q : (Int32.ofNat c.slots.size).toInt = c.slots.size := nI_int (by omega)
      have q2 : Int32.ofNat c.slots.size = n := e3
      rw [q2] at q; omega
    apply Array.ext'
    apply List.ext_getElem?
    intro i
    by_cases hi : i < vs.length
    · have q := he i hi
      have i31 : i < 2147483648 := by omega
      rw [List.getElem?_eq_getElem hi] at q
      have r := (elem_in q ev (Term.int_eval _) A.1).2
      rw [nI_nat i31] at r
      rw [List.getElem?_eq_getElem hi]
      simpa using r
    · rw [List.getElem?_eq_none (by simpa using by omega), List.getElem?_eq_none (by simp; omega)]
  · cases e1
theorem fld_of {s : State} {args : Array Value} {t : Jvm.Term} {x : Addr} {C n d : String} {v : Value} (ev : t.eval args s none [] s = some (.ref x)) (e : (Jvm.Term.field t C n d).eval args s none [] s = some v) : Fld s s.heap x C n d v := Fld.start ((fld_at ev).symm.trans e)
theorem eqi_of {s : State} {args : Array Value} {t : Jvm.Term} {k : Int32} (h : (Jvm.Cond.eq t (.int k)).value args s none s [] = some true) : t.eval args s none [] s = some (.int k) := by
  obtain ⟨v, e1, e2⟩ := Cond.eq_worth h
  cases (show some (Value.int k) = some v from e2); exact e1

theorem png_3 : plainName "com/example/gyro/gyro/webhook/EventType" = true := by first | (simp [plainName, overriddenIn]; done) | decide +kernel
theorem d8_0 : Dx prog_28_method_1_code 0 (.getstatic 10) 3 3 := ⟨by decide +kernel, rfl⟩
theorem d8_3 : Dx prog_28_method_1_code 3 (.invokevirtual 14) 3 6 := ⟨by decide +kernel, rfl⟩
theorem d8_6 : Dx prog_28_method_1_code 6 (.checkcast 15) 3 9 := ⟨by decide +kernel, rfl⟩
theorem d8_9 : Dx prog_28_method_1_code 9 (.areturn) 1 10 := ⟨by decide +kernel, rfl⟩
set_option maxRecDepth 65536 in
set_option maxHeartbeats 40000000 in
theorem c_vals {l : Launch} {Z : State} {a0 : Array Value} {EL : List (String × Nat)} {b : Bool} {n0 : Nat} (hw : ∀ d ∈ tables_1, d.before a0 Z = true) (va e1 e2 : Addr) (hV : Sta Z Z.heap "com/example/gyro/gyro/webhook/EventType" "$VALUES" "[Lcom/example/gyro/gyro/webhook/EventType;" (.ref va)) (hVE : Exa Z Z.heap va "[Lcom/example/gyro/gyro/webhook/EventType;") :
    Met l Z a0 EL b n0 (⟨"com/example/gyro/gyro/webhook/EventType", "values", "()[Lcom/example/gyro/gyro/webhook/EventType;"⟩ : MethodName) prog_28_method_1_code 0 (some (.array (.object "com/example/gyro/gyro/webhook/EventType"))) [] (rm4 1 1 2 14) [] [] [(va, .inr (.object "com/example/gyro/gyro/webhook/EventType", [.ref e1, .ref e2]))] (fun v D' S' => ∃ d, v = some (.ref d) ∧ D' = [(d, .inr (.object "com/example/gyro/gyro/webhook/EventType", [.ref e1, .ref e2]))] ∧ S' = []) := by
  refine Met.of_go (own := "com/example/gyro/gyro/webhook/EventType") (nm := "values") (Ls := #[]) (plainFor_of_name png_3) (fun m => by first | rfl | (simp [entryFrame, mkF, argsToLocals, Value.category]; done)) ?_
  refine Go.getstatic d8_0 (host := "") (Or.inl (hw _ (List.mem_of_getElem? (i := 43) rfl))) Via.refl hV (G := ?_)
  refine Go.cloneCast (ad := "[Lcom/example/gyro/gyro/webhook/EventType;") d8_3 d8_6 (hw _ (List.mem_of_getElem? (i := 45) rfl)) (hw _ (List.mem_of_getElem? (i := 46) rfl)) (hw _ (List.mem_of_getElem? (i := 50) rfl)) (hw _ (List.mem_of_getElem? (i := 48) rfl)) (hw _ (List.mem_of_getElem? (i := 49) rfl)) (hw _ (List.mem_of_getElem? (i := 51) rfl)) (hw _ (List.mem_of_getElem? (i := 54) rfl)) (inS (i := 0) rfl) hVE (G := fun d => ?_)
  refine Go.sub [0] (by decide) rfl (D' := [(d, .inr (.object "com/example/gyro/gyro/webhook/EventType", [.ref e1, .ref e2]))]) rfl (S' := []) eN (G := ?_)
  exact Go.retA d8_9 ⟨d, rfl, rfl, rfl⟩
theorem png_4 : plainName "java/util/Objects" = true := by first | (simp [plainName, overriddenIn]; done) | decide +kernel
theorem d9_0 : Dx jdk_31_method_10_code 0 (.aload_n 0) 1 1 := ⟨by decide +kernel, rfl⟩
theorem d9_1 : Dx jdk_31_method_10_code 1 (.ifnonnull 11) 3 4 := ⟨by decide +kernel, rfl⟩
theorem d9_4 : Dx jdk_31_method_10_code 4 (.new 84) 3 7 := ⟨by decide +kernel, rfl⟩
theorem d9_7 : Dx jdk_31_method_10_code 7 (.dup) 1 8 := ⟨by decide +kernel, rfl⟩
theorem d9_8 : Dx jdk_31_method_10_code 8 (.invokespecial 86) 3 11 := ⟨by decide +kernel, rfl⟩
theorem d9_11 : Dx jdk_31_method_10_code 11 (.athrow) 1 12 := ⟨by decide +kernel, rfl⟩
theorem d9_12 : Dx jdk_31_method_10_code 12 (.aload_n 0) 1 13 := ⟨by decide +kernel, rfl⟩
theorem d9_13 : Dx jdk_31_method_10_code 13 (.areturn) 1 14 := ⟨by decide +kernel, rfl⟩
set_option maxRecDepth 65536 in
set_option maxHeartbeats 40000000 in
theorem c_rnn1 {l : Launch} {Z : State} {a0 : Array Value} {EL : List (String × Nat)} {b : Bool} {n0 : Nat} (hw : ∀ d ∈ tables_1, d.before a0 Z = true) (a : Addr) :
    Met l Z a0 EL b n0 (⟨"java/util/Objects", "requireNonNull", "(Ljava/lang/Object;)Ljava/lang/Object;"⟩ : MethodName) jdk_31_method_10_code 1 (some (.object "java/lang/Object")) [] (rm4 0 0 0 0) [.ref a] [] [] (fun v D' S' => v = some (.ref a) ∧ D' = [] ∧ S' = []) := by
  refine Met.of_go (own := "java/util/Objects") (nm := "requireNonNull") (Ls := #[.val (.ref a)]) (plainFor_of_name png_4) (fun m => by first | rfl | (simp [entryFrame, mkF, argsToLocals, Value.category]; done)) ?_
  refine Go.aloadN d9_0 rfl (G := ?_)
  refine Go.ifnonnullY d9_1 (pc2 := 12) (G := ?_)
  refine Go.aloadN d9_12 rfl (G := ?_)
  exact Go.retA d9_13 ⟨rfl, rfl, rfl⟩
theorem png_5 : plainName "java/util/Optional" = true := by first | (simp [plainName, overriddenIn]; done) | decide +kernel
theorem d10_0 : Dx jdk_32_method_2_code 0 (.aload_n 0) 1 1 := ⟨by decide +kernel, rfl⟩
theorem d10_1 : Dx jdk_32_method_2_code 1 (.invokespecial 7) 3 4 := ⟨by decide +kernel, rfl⟩
theorem d10_4 : Dx jdk_32_method_2_code 4 (.aload_n 0) 1 5 := ⟨by decide +kernel, rfl⟩
theorem d10_5 : Dx jdk_32_method_2_code 5 (.aload_n 1) 1 6 := ⟨by decide +kernel, rfl⟩
theorem d10_6 : Dx jdk_32_method_2_code 6 (.putfield 13) 3 9 := ⟨by decide +kernel, rfl⟩
theorem d10_9 : Dx jdk_32_method_2_code 9 (.return_) 1 10 := ⟨by decide +kernel, rfl⟩
set_option maxRecDepth 65536 in
set_option maxHeartbeats 40000000 in
theorem c_optI {l : Launch} {Z : State} {a0 : Array Value} {EL : List (String × Nat)} {b : Bool} {n0 : Nat} (hw : ∀ d ∈ tables_1, d.before a0 Z = true) (o a : Addr) :
    Met l Z a0 EL b n0 (⟨"java/util/Optional", "<init>", "(Ljava/lang/Object;)V"⟩ : MethodName) jdk_32_method_2_code 2 none [] (rm4 1 0 0 12) [.ref o, .ref a] [(o, .inl ("java/util/Optional", [("java/util/Optional", "value", "Ljava/lang/Object;", .null)]))] [] (fun v D' S' => v = none ∧ D' = [(o, .inl ("java/util/Optional", [("java/util/Optional", "value", "Ljava/lang/Object;", .ref a)]))] ∧ S' = []) := by
  refine Met.of_go (own := "java/util/Optional") (nm := "<init>") (Ls := #[.val (.ref o), .val (.ref a)]) (plainFor_of_name png_5) (fun m => by first | rfl | (simp [entryFrame, mkF, argsToLocals, Value.category]; done)) ?_
  refine Go.aloadN d10_0 rfl (G := ?_)
  refine Go.objInit d10_1 (hw _ (List.mem_of_getElem? (i := 82) rfl)) (hw _ (List.mem_of_getElem? (i := 19) rfl)) (hw _ (List.mem_of_getElem? (i := 20) rfl)) rfl (Nat.le_of_ble_eq_true rfl) (Nat.le_of_ble_eq_true rfl) (G := ?_)
  refine Go.aloadN d10_4 rfl (G := ?_)
  refine Go.aloadN d10_5 rfl (G := ?_)
  refine Go.putfield d10_6 (hw _ (List.mem_of_getElem? (i := 83) rfl)) Via.refl 0 rfl 0 rfl (Or.inr ⟨(hw _ (List.mem_of_getElem? (i := 84) rfl)), rfl, rfl⟩) (hw _ (List.mem_of_getElem? (i := 73) rfl)) (ty := .object "java/lang/Object") (by decide +kernel) (v' := .ref a) rfl rfl (D' := [(o, .inl ("java/util/Optional", [("java/util/Optional", "value", "Ljava/lang/Object;", .ref a)]))]) rfl (G := ?_)
  exact Go.retV d10_9 ⟨rfl, rfl, rfl⟩
theorem d11_0 : Dx jdk_32_method_3_code 0 (.new 2) 3 3 := ⟨by decide +kernel, rfl⟩
theorem d11_3 : Dx jdk_32_method_3_code 3 (.dup) 1 4 := ⟨by decide +kernel, rfl⟩
theorem d11_4 : Dx jdk_32_method_3_code 4 (.aload_n 0) 1 5 := ⟨by decide +kernel, rfl⟩
theorem d11_5 : Dx jdk_32_method_3_code 5 (.invokestatic 17) 3 8 := ⟨by decide +kernel, rfl⟩
theorem d11_8 : Dx jdk_32_method_3_code 8 (.invokespecial 23) 3 11 := ⟨by decide +kernel, rfl⟩
theorem d11_11 : Dx jdk_32_method_3_code 11 (.areturn) 1 12 := ⟨by decide +kernel, rfl⟩
theorem pdg_5 : parseMethodDescriptor "(Ljava/lang/Object;)Ljava/lang/Object;" = some ⟨[.object "java/lang/Object"], some (.object "java/lang/Object")⟩ := by decide +kernel
theorem pdg_6 : parseMethodDescriptor "(Ljava/lang/Object;)V" = some ⟨[.object "java/lang/Object"], none⟩ := by decide +kernel
set_option maxRecDepth 65536 in
set_option maxHeartbeats 40000000 in
theorem c_of {l : Launch} {Z : State} {a0 : Array Value} {EL : List (String × Nat)} {b : Bool} {n0 : Nat} (hw : ∀ d ∈ tables_1, d.before a0 Z = true) (a : Addr) :
    Met l Z a0 EL b n0 (⟨"java/util/Optional", "of", "(Ljava/lang/Object;)Ljava/util/Optional;"⟩ : MethodName) jdk_32_method_3_code 1 (some (.object "java/util/Optional")) [] (rm4 2 1 1 26) [.ref a] [] [] (fun v D' S' => ∃ o, v = some (.ref o) ∧ D' = [(o, .inl ("java/util/Optional", [("java/util/Optional", "value", "Ljava/lang/Object;", .ref a)]))] ∧ S' = []) := by
  refine Met.of_go (own := "java/util/Optional") (nm := "of") (Ls := #[.val (.ref a)]) (plainFor_of_name png_5) (fun m => by first | rfl | (simp [entryFrame, mkF, argsToLocals, Value.category]; done)) ?_
  refine Go.new d11_0 (hw _ (List.mem_of_getElem? (i := 72) rfl)) (hw _ (List.mem_of_getElem? (i := 73) rfl)) (hw _ (List.mem_of_getElem? (i := 70) rfl)) (NewF.cons (Or.inr (hw _ (List.mem_of_getElem? (i := 84) rfl))) (ty := .object "java/lang/Object") (by decide +kernel) rfl (by simp) NewF.nil) (G := fun o1 => ?_)
  refine Go.dup d11_3 (G := ?_)
  refine Go.aloadN d11_4 rfl (G := ?_)
  refine Go.invokestatic false d11_5 (hw _ (List.mem_of_getElem? (i := 74) rfl)) (hw _ (List.mem_of_getElem? (i := 75) rfl)) (hw _ (List.mem_of_getElem? (i := 76) rfl)) (hw _ (List.mem_of_getElem? (i := 77) rfl)) (c_rnn1 hw a) pdg_5 rfl (argsL := [.ref a]) (rest := [.ref o1, .ref o1]) rfl rfl (Dr := [(o1, .inl ("java/util/Optional", [("java/util/Optional", "value", "Ljava/lang/Object;", .null)]))]) rfl eN (G := ?_)
  rintro _ _ _ ⟨rfl, rfl, rfl⟩
  refine Go.norm (D2 := [(o1, .inl ("java/util/Optional", [("java/util/Optional", "value", "Ljava/lang/Object;", .null)]))]) (S2 := []) (c2 := 1) (s2 := 1) (st2 := [.ref a, .ref o1, .ref o1]) ?_
  refine Go.invokeinit false d11_8 rfl (hw _ (List.mem_of_getElem? (i := 78) rfl)) (hw _ (List.mem_of_getElem? (i := 79) rfl)) (hw _ (List.mem_of_getElem? (i := 70) rfl)) (hw _ (List.mem_of_getElem? (i := 81) rfl)) (c_optI hw o1 a) pdg_6 rfl (argsL := [.ref a]) (rest := [.ref o1]) rfl rfl (Dr := []) rfl eN (G := ?_)
  rintro _ _ _ ⟨rfl, rfl, rfl⟩
  refine Go.norm (D2 := [(o1, .inl ("java/util/Optional", [("java/util/Optional", "value", "Ljava/lang/Object;", .ref a)]))]) (S2 := []) (c2 := 1) (s2 := 1) (st2 := [.ref o1]) ?_
  exact Go.retA d11_11 ⟨o1, rfl, rfl, rfl⟩
theorem d12_0 : Dx jdk_32_method_1_code 0 (.getstatic 1) 3 3 := ⟨by decide +kernel, rfl⟩
theorem d12_3 : Dx jdk_32_method_1_code 3 (.astore_n 0) 1 4 := ⟨by decide +kernel, rfl⟩
theorem d12_4 : Dx jdk_32_method_1_code 4 (.aload_n 0) 1 5 := ⟨by decide +kernel, rfl⟩
theorem d12_5 : Dx jdk_32_method_1_code 5 (.areturn) 1 6 := ⟨by decide +kernel, rfl⟩
set_option maxRecDepth 65536 in
set_option maxHeartbeats 40000000 in
theorem c_empty {l : Launch} {Z : State} {a0 : Array Value} {EL : List (String × Nat)} {b : Bool} {n0 : Nat} (hw : ∀ d ∈ tables_1, d.before a0 Z = true) (op : Addr) (hOP : Sta Z Z.heap "java/util/Optional" "EMPTY" "Ljava/util/Optional;" (.ref op)) :
    Met l Z a0 EL b n0 (⟨"java/util/Optional", "empty", "()Ljava/util/Optional;"⟩ : MethodName) jdk_32_method_1_code 1 (some (.object "java/util/Optional")) [] (rm4 0 0 0 0) [] [] [] (fun v D' S' => v = some (.ref op) ∧ D' = [] ∧ S' = []) := by
  refine Met.of_go (own := "java/util/Optional") (nm := "empty") (Ls := #[.unset]) (plainFor_of_name png_5) (fun m => by first | rfl | (simp [entryFrame, mkF, argsToLocals, Value.category]; done)) ?_
  refine Go.getstatic d12_0 (host := "") (Or.inl (hw _ (List.mem_of_getElem? (i := 96) rfl))) Via.refl hOP (G := ?_)
  refine Go.astoreN d12_3 (Ls' := #[.val (.ref op)]) rfl (G := ?_)
  refine Go.aloadN d12_4 rfl (G := ?_)
  exact Go.retA d12_5 ⟨rfl, rfl, rfl⟩
theorem d13_0 : Dx jdk_32_method_15_code 0 (.aload_n 0) 1 1 := ⟨by decide +kernel, rfl⟩
theorem d13_1 : Dx jdk_32_method_15_code 1 (.getfield 13) 3 4 := ⟨by decide +kernel, rfl⟩
theorem d13_4 : Dx jdk_32_method_15_code 4 (.ifnull 10) 3 7 := ⟨by decide +kernel, rfl⟩
theorem d13_7 : Dx jdk_32_method_15_code 7 (.aload_n 0) 1 8 := ⟨by decide +kernel, rfl⟩
theorem d13_8 : Dx jdk_32_method_15_code 8 (.getfield 13) 3 11 := ⟨by decide +kernel, rfl⟩
theorem d13_11 : Dx jdk_32_method_15_code 11 (.goto 4) 3 14 := ⟨by decide +kernel, rfl⟩
theorem d13_14 : Dx jdk_32_method_15_code 14 (.aload_n 1) 1 15 := ⟨by decide +kernel, rfl⟩
theorem d13_15 : Dx jdk_32_method_15_code 15 (.areturn) 1 16 := ⟨by decide +kernel, rfl⟩
set_option maxRecDepth 65536 in
set_option maxHeartbeats 40000000 in
theorem c_or1 {l : Launch} {Z : State} {a0 : Array Value} {EL : List (String × Nat)} {b : Bool} {n0 : Nat} (hw : ∀ d ∈ tables_1, d.before a0 Z = true) (o a : Addr) :
    Met l Z a0 EL b n0 (⟨"java/util/Optional", "orElse", "(Ljava/lang/Object;)Ljava/lang/Object;"⟩ : MethodName) jdk_32_method_15_code 2 (some (.object "java/lang/Object")) [] (rm4 0 0 0 0) [.ref o, .null] [] [(o, .inl ("java/util/Optional", [("java/util/Optional", "value", "Ljava/lang/Object;", .ref a)]))] (fun v D' S' => v = some (.ref a) ∧ D' = [] ∧ S' = []) := by
  refine Met.of_go (own := "java/util/Optional") (nm := "orElse") (Ls := #[.val (.ref o), .val .null]) (plainFor_of_name png_5) (fun m => by first | rfl | (simp [entryFrame, mkF, argsToLocals, Value.category]; done)) ?_
  refine Go.aloadN d13_0 rfl (G := ?_)
  refine Go.getfield d13_1 (host := "") (Or.inl (hw _ (List.mem_of_getElem? (i := 83) rfl))) Via.refl (inS (i := 0) rfl) 0 rfl (G := ?_)
  refine Go.ifnullN d13_4 (G := ?_)
  refine Go.aloadN d13_7 rfl (G := ?_)
  refine Go.getfield d13_8 (host := "") (Or.inl (hw _ (List.mem_of_getElem? (i := 83) rfl))) Via.refl (inS (i := 0) rfl) 0 rfl (G := ?_)
  refine Go.goto d13_11 (pc2 := 15) (G := ?_)
  refine Go.sub [] (by decide) rfl (D' := []) rfl (S' := []) eN (G := ?_)
  exact Go.retA d13_15 ⟨rfl, rfl, rfl⟩
set_option maxRecDepth 65536 in
set_option maxHeartbeats 40000000 in
theorem c_or0 {l : Launch} {Z : State} {a0 : Array Value} {EL : List (String × Nat)} {b : Bool} {n0 : Nat} (hw : ∀ d ∈ tables_1, d.before a0 Z = true) (o : Addr) :
    Met l Z a0 EL b n0 (⟨"java/util/Optional", "orElse", "(Ljava/lang/Object;)Ljava/lang/Object;"⟩ : MethodName) jdk_32_method_15_code 2 (some (.object "java/lang/Object")) [] (rm4 0 0 0 0) [.ref o, .null] [] [(o, .inl ("java/util/Optional", [("java/util/Optional", "value", "Ljava/lang/Object;", .null)]))] (fun v D' S' => v = some .null ∧ D' = [] ∧ S' = []) := by
  refine Met.of_go (own := "java/util/Optional") (nm := "orElse") (Ls := #[.val (.ref o), .val .null]) (plainFor_of_name png_5) (fun m => by first | rfl | (simp [entryFrame, mkF, argsToLocals, Value.category]; done)) ?_
  refine Go.aloadN d13_0 rfl (G := ?_)
  refine Go.getfield d13_1 (host := "") (Or.inl (hw _ (List.mem_of_getElem? (i := 83) rfl))) Via.refl (inS (i := 0) rfl) 0 rfl (G := ?_)
  refine Go.ifnullY d13_4 (pc2 := 14) (G := ?_)
  refine Go.aloadN d13_14 rfl (G := ?_)
  refine Go.sub [] (by decide) rfl (D' := []) rfl (S' := []) eN (G := ?_)
  exact Go.retA d13_15 ⟨rfl, rfl, rfl⟩
set_option maxRecDepth 65536 in
set_option maxHeartbeats 40000000 in
theorem c_eqNull {l : Launch} {Z : State} {a0 : Array Value} {EL : List (String × Nat)} {b : Bool} {n0 : Nat} (hw : ∀ d ∈ tables_1, d.before a0 Z = true) (a : Addr) :
    Met l Z a0 EL b n0 (⟨"java/lang/String", "equals", "(Ljava/lang/Object;)Z"⟩ : MethodName) jdk_42_method_66_code 3 (some .boolean) [] (rm4 0 0 0 0) [.ref a, .null] [] [] (fun v D' S' => v = some (.int 0) ∧ D' = [] ∧ S' = []) := by
  refine Met.of_go (own := "java/lang/String") (nm := "equals") (Ls := #[.val (.ref a), .val .null, .unset]) (plainFor_of_name png_1) (fun m => by first | rfl | (simp [entryFrame, mkF, argsToLocals, Value.category]; done)) ?_
  refine Go.aloadN d7_0 rfl (G := ?_)
  refine Go.aloadN d7_1 rfl (G := ?_)
  refine Go.acmpne d7_2 (pc2 := 7) (Gy := fun _ => ?_) (Gn := fun h => nomatch h)
  refine Go.aloadN d7_7 rfl (G := ?_)
  refine Go.instanceofNull d7_8 (G := ?_)
  refine Go.ifc d7_11 (pc2 := 54) (Gy := fun _ => ?_) (Gn := fun h => absurd (show (0 : Int32) = 0 by decide) h)
  refine Go.iconst d7_54 (v := 0) rfl (G := ?_)
  exact Go.retB d7_55 (by simp) (z' := 0) rfl ⟨rfl, rfl, rfl⟩
theorem d14_0 : Dx prog_28_method_5_code 0 (.invokestatic 33) 3 3 := ⟨by decide +kernel, rfl⟩
theorem d14_3 : Dx prog_28_method_5_code 3 (.astore_n 1) 1 4 := ⟨by decide +kernel, rfl⟩
theorem d14_4 : Dx prog_28_method_5_code 4 (.aload_n 1) 1 5 := ⟨by decide +kernel, rfl⟩
theorem d14_5 : Dx prog_28_method_5_code 5 (.arraylength) 1 6 := ⟨by decide +kernel, rfl⟩
theorem d14_6 : Dx prog_28_method_5_code 6 (.istore_n 2) 1 7 := ⟨by decide +kernel, rfl⟩
theorem d14_7 : Dx prog_28_method_5_code 7 (.iconst 0) 1 8 := ⟨by decide +kernel, rfl⟩
theorem d14_8 : Dx prog_28_method_5_code 8 (.istore_n 3) 1 9 := ⟨by decide +kernel, rfl⟩
theorem d14_9 : Dx prog_28_method_5_code 9 (.iload_n 3) 1 10 := ⟨by decide +kernel, rfl⟩
theorem d14_10 : Dx prog_28_method_5_code 10 (.iload_n 2) 1 11 := ⟨by decide +kernel, rfl⟩
theorem d14_11 : Dx prog_28_method_5_code 11 (.if_icmp .ge 32) 3 14 := ⟨by decide +kernel, rfl⟩
theorem d14_14 : Dx prog_28_method_5_code 14 (.aload_n 1) 1 15 := ⟨by decide +kernel, rfl⟩
theorem d14_15 : Dx prog_28_method_5_code 15 (.iload_n 3) 1 16 := ⟨by decide +kernel, rfl⟩
theorem d14_16 : Dx prog_28_method_5_code 16 (.aaload) 1 17 := ⟨by decide +kernel, rfl⟩
theorem d14_17 : Dx prog_28_method_5_code 17 (.astore 4) 2 19 := ⟨by decide +kernel, rfl⟩
theorem d14_19 : Dx prog_28_method_5_code 19 (.aload 4) 2 21 := ⟨by decide +kernel, rfl⟩
theorem d14_21 : Dx prog_28_method_5_code 21 (.getfield 29) 3 24 := ⟨by decide +kernel, rfl⟩
theorem d14_24 : Dx prog_28_method_5_code 24 (.aload_n 0) 1 25 := ⟨by decide +kernel, rfl⟩
theorem d14_25 : Dx prog_28_method_5_code 25 (.invokevirtual 37) 3 28 := ⟨by decide +kernel, rfl⟩
theorem d14_28 : Dx prog_28_method_5_code 28 (.ifCond .eq 9) 3 31 := ⟨by decide +kernel, rfl⟩
theorem d14_31 : Dx prog_28_method_5_code 31 (.aload 4) 2 33 := ⟨by decide +kernel, rfl⟩
theorem d14_33 : Dx prog_28_method_5_code 33 (.invokestatic 43) 3 36 := ⟨by decide +kernel, rfl⟩
theorem d14_36 : Dx prog_28_method_5_code 36 (.areturn) 1 37 := ⟨by decide +kernel, rfl⟩
theorem d14_37 : Dx prog_28_method_5_code 37 (.iinc 3 1) 3 40 := ⟨by decide +kernel, rfl⟩
theorem d14_40 : Dx prog_28_method_5_code 40 (.goto (-31)) 3 43 := ⟨by decide +kernel, rfl⟩
theorem d14_43 : Dx prog_28_method_5_code 43 (.invokestatic 49) 3 46 := ⟨by decide +kernel, rfl⟩
theorem d14_46 : Dx prog_28_method_5_code 46 (.areturn) 1 47 := ⟨by decide +kernel, rfl⟩
theorem pdg_7 : parseMethodDescriptor "()[Lcom/example/gyro/gyro/webhook/EventType;" = some ⟨[], some (.array (.object "com/example/gyro/gyro/webhook/EventType"))⟩ := by decide +kernel
theorem pdg_8 : parseMethodDescriptor "(Ljava/lang/Object;)Z" = some ⟨[.object "java/lang/Object"], some .boolean⟩ := by decide +kernel
theorem pdg_9 : parseMethodDescriptor "(Ljava/lang/Object;)Ljava/util/Optional;" = some ⟨[.object "java/lang/Object"], some (.object "java/util/Optional")⟩ := by decide +kernel
set_option maxRecDepth 65536 in
set_option maxHeartbeats 40000000 in
theorem c_p1 {l : Launch} {Z : State} {a0 : Array Value} {EL : List (String × Nat)} {b : Bool} {n0 : Nat} (hw : ∀ d ∈ tables_1, d.before a0 Z = true) (va e1 e2 w1 b1 w2 b2 op : Addr) (hV : Sta Z Z.heap "com/example/gyro/gyro/webhook/EventType" "$VALUES" "[Lcom/example/gyro/gyro/webhook/EventType;" (.ref va)) (hVE : Exa Z Z.heap va "[Lcom/example/gyro/gyro/webhook/EventType;") (hOP : Sta Z Z.heap "java/util/Optional" "EMPTY" "Ljava/util/Optional;" (.ref op)) (x t : Addr) (cs : List Int32) (n : Nat) (cpt : Int32) (hCS : Sta Z Z.heap "java/lang/String" "COMPACT_STRINGS" "Z" (.int cpt)) (hcpt : ¬ cpt = 0) (hx1 : w1 ≠ x) (hx2 : w2 ≠ x) (hn : cs.length = n) (hb : n ≤ 4000) (hc : ∀ c ∈ cs, 0 ≤ c.toInt ∧ c.toInt ≤ 255) (h1 : L1 = cs) :
    Met l Z a0 EL b n0 (⟨"com/example/gyro/gyro/webhook/EventType", "parse", "(Ljava/lang/String;)Ljava/util/Optional;"⟩ : MethodName) prog_28_method_5_code 5 (some (.object "java/util/Optional")) [] (rm4 3 2 3 38) [.ref x] [] [(va, .inr (.object "com/example/gyro/gyro/webhook/EventType", [.ref e1, .ref e2])), (e1, .inl ("com/example/gyro/gyro/webhook/EventType", [("com/example/gyro/gyro/webhook/EventType", "wireName", "Ljava/lang/String;", .ref w1)])), (e2, .inl ("com/example/gyro/gyro/webhook/EventType", [("com/example/gyro/gyro/webhook/EventType", "wireName", "Ljava/lang/String;", .ref w2)])), (w1, .inl ("java/lang/String", [("java/lang/String", "value", "[B", .ref b1), ("java/lang/String", "coder", "B", .int 0)])), (b1, .inr (.byte, L1.map byV)), (w2, .inl ("java/lang/String", [("java/lang/String", "value", "[B", .ref b2), ("java/lang/String", "coder", "B", .int 0)])), (b2, .inr (.byte, L2.map byV)), (x, .inl ("java/lang/String", [("java/lang/String", "value", "[B", .ref t), ("java/lang/String", "coder", "B", .int 0)])), (t, .inr (.byte, cs.map byV))] (fun v D' S' => ∃ o, v = some (.ref o) ∧ D' = [(o, .inl ("java/util/Optional", [("java/util/Optional", "value", "Ljava/lang/Object;", .ref e1)]))] ∧ S' = []) := by
  refine Met.of_go (own := "com/example/gyro/gyro/webhook/EventType") (nm := "parse") (Ls := #[.val (.ref x), .unset, .unset, .unset, .unset]) (plainFor_of_name png_3) (fun m => by first | rfl | (simp [entryFrame, mkF, argsToLocals, Value.category]; done)) ?_
  refine Go.invokestatic false d14_0 (hw _ (List.mem_of_getElem? (i := 40) rfl)) (hw _ (List.mem_of_getElem? (i := 41) rfl)) (hw _ (List.mem_of_getElem? (i := 1) rfl)) (hw _ (List.mem_of_getElem? (i := 42) rfl)) (c_vals hw va e1 e2 hV hVE) pdg_7 rfl (argsL := []) (rest := []) rfl rfl (Dr := []) rfl (eS (Or.inl (List.mem_of_getElem? (i := 0) rfl)) eN) (G := ?_)
  rintro _ _ _ ⟨d, rfl, rfl, rfl⟩
  refine Go.norm (D2 := [(d, .inr (.object "com/example/gyro/gyro/webhook/EventType", [.ref e1, .ref e2]))]) (S2 := [(va, .inr (.object "com/example/gyro/gyro/webhook/EventType", [.ref e1, .ref e2])), (e1, .inl ("com/example/gyro/gyro/webhook/EventType", [("com/example/gyro/gyro/webhook/EventType", "wireName", "Ljava/lang/String;", .ref w1)])), (e2, .inl ("com/example/gyro/gyro/webhook/EventType", [("com/example/gyro/gyro/webhook/EventType", "wireName", "Ljava/lang/String;", .ref w2)])), (w1, .inl ("java/lang/String", [("java/lang/String", "value", "[B", .ref b1), ("java/lang/String", "coder", "B", .int 0)])), (b1, .inr (.byte, L1.map byV)), (w2, .inl ("java/lang/String", [("java/lang/String", "value", "[B", .ref b2), ("java/lang/String", "coder", "B", .int 0)])), (b2, .inr (.byte, L2.map byV)), (x, .inl ("java/lang/String", [("java/lang/String", "value", "[B", .ref t), ("java/lang/String", "coder", "B", .int 0)])), (t, .inr (.byte, cs.map byV))]) (c2 := 1) (s2 := 2) (st2 := [.ref d]) ?_
  refine Go.astoreN d14_3 (Ls' := #[.val (.ref x), .val (.ref d), .unset, .unset, .unset]) rfl (G := ?_)
  refine Go.aloadN d14_4 rfl (G := ?_)
  refine Go.arraylength d14_5 (inD (i := 0) rfl) (n := 2) rfl (G := ?_)
  refine Go.istoreN d14_6 (Ls' := #[.val (.ref x), .val (.ref d), .val (.int 2), .unset, .unset]) rfl (G := ?_)
  refine Go.iconst d14_7 (v := 0) rfl (G := ?_)
  refine Go.istoreN d14_8 (Ls' := #[.val (.ref x), .val (.ref d), .val (.int 2), .val (.int 0), .unset]) rfl (G := ?_)
  refine Go.iloadN d14_9 rfl (G := ?_)
  refine Go.iloadN d14_10 rfl (G := ?_)
  refine Go.icmp d14_11 (pc2 := 43) (Gy := fun h => absurd h (show ¬ (¬ (0 : Int32) < 2) by decide)) (Gn := fun _ => ?_)
  refine Go.aloadN d14_14 rfl (G := ?_)
  refine Go.iloadN d14_15 rfl (G := ?_)
  refine Go.aaload d14_16 (inD (i := 0) rfl) rfl (G := ?_)
  refine Go.astore d14_17 (Ls' := #[.val (.ref x), .val (.ref d), .val (.int 2), .val (.int 0), .val (.ref e1)]) rfl (G := ?_)
  refine Go.aload d14_19 rfl (G := ?_)
  refine Go.getfield d14_21 (host := "") (Or.inl (hw _ (List.mem_of_getElem? (i := 56) rfl))) Via.refl (inS (i := 1) rfl) 0 rfl (G := ?_)
  refine Go.aloadN d14_24 rfl (G := ?_)
  refine Go.invokevirtual false d14_25 (hw _ (List.mem_of_getElem? (i := 58) rfl)) (hw _ (List.mem_of_getElem? (i := 59) rfl)) (hw _ (List.mem_of_getElem? (i := 61) rfl)) (hw _ (List.mem_of_getElem? (i := 60) rfl)) (hw _ (List.mem_of_getElem? (i := 10) rfl)) (hw _ (List.mem_of_getElem? (i := 62) rfl)) (nfSel (hw _ (List.mem_of_getElem? (i := 61) rfl))) (inS (i := 3) rfl) (c_eqL hw w1 b1 x t L1 cs 16 n [] [] cpt hCS hcpt hx1 rfl hn (by decide) hb L1_lat hc) pdg_8 rfl (argsL := [.ref x]) (rest := []) rfl rfl (Dr := [(d, .inr (.object "com/example/gyro/gyro/webhook/EventType", [.ref e1, .ref e2]))]) rfl (eS (Or.inl (List.mem_of_getElem? (i := 3) rfl)) (eS (Or.inl (List.mem_of_getElem? (i := 4) rfl)) (eS (Or.inl (List.mem_of_getElem? (i := 7) rfl)) (eS (Or.inl (List.mem_of_getElem? (i := 8) rfl)) eN)))) (G := ?_)
  rintro _ _ _ ⟨r1, hr1, rfl, rfl, rfl⟩
  refine Go.norm (D2 := [(d, .inr (.object "com/example/gyro/gyro/webhook/EventType", [.ref e1, .ref e2]))]) (S2 := [(va, .inr (.object "com/example/gyro/gyro/webhook/EventType", [.ref e1, .ref e2])), (e1, .inl ("com/example/gyro/gyro/webhook/EventType", [("com/example/gyro/gyro/webhook/EventType", "wireName", "Ljava/lang/String;", .ref w1)])), (e2, .inl ("com/example/gyro/gyro/webhook/EventType", [("com/example/gyro/gyro/webhook/EventType", "wireName", "Ljava/lang/String;", .ref w2)])), (w1, .inl ("java/lang/String", [("java/lang/String", "value", "[B", .ref b1), ("java/lang/String", "coder", "B", .int 0)])), (b1, .inr (.byte, L1.map byV)), (w2, .inl ("java/lang/String", [("java/lang/String", "value", "[B", .ref b2), ("java/lang/String", "coder", "B", .int 0)])), (b2, .inr (.byte, L2.map byV)), (x, .inl ("java/lang/String", [("java/lang/String", "value", "[B", .ref t), ("java/lang/String", "coder", "B", .int 0)])), (t, .inr (.byte, cs.map byV))]) (c2 := 1) (s2 := 2) (st2 := [.int r1]) ?_
  refine Go.ifc d14_28 (pc2 := 37) (Gy := fun h => absurd h (show ¬ (r1 = 0) from (fun q => bF hr1 q h1))) (Gn := fun _ => ?_)
  refine Go.aload d14_31 rfl (G := ?_)
  refine Go.invokestatic false d14_33 (hw _ (List.mem_of_getElem? (i := 68) rfl)) (hw _ (List.mem_of_getElem? (i := 69) rfl)) (hw _ (List.mem_of_getElem? (i := 70) rfl)) (hw _ (List.mem_of_getElem? (i := 71) rfl)) (c_of hw e1) pdg_9 rfl (argsL := [.ref e1]) (rest := []) rfl rfl (Dr := [(d, .inr (.object "com/example/gyro/gyro/webhook/EventType", [.ref e1, .ref e2]))]) rfl eN (G := ?_)
  rintro _ _ _ ⟨o, rfl, rfl, rfl⟩
  refine Go.norm (D2 := [(o, .inl ("java/util/Optional", [("java/util/Optional", "value", "Ljava/lang/Object;", .ref e1)])), (d, .inr (.object "com/example/gyro/gyro/webhook/EventType", [.ref e1, .ref e2]))]) (S2 := [(va, .inr (.object "com/example/gyro/gyro/webhook/EventType", [.ref e1, .ref e2])), (e1, .inl ("com/example/gyro/gyro/webhook/EventType", [("com/example/gyro/gyro/webhook/EventType", "wireName", "Ljava/lang/String;", .ref w1)])), (e2, .inl ("com/example/gyro/gyro/webhook/EventType", [("com/example/gyro/gyro/webhook/EventType", "wireName", "Ljava/lang/String;", .ref w2)])), (w1, .inl ("java/lang/String", [("java/lang/String", "value", "[B", .ref b1), ("java/lang/String", "coder", "B", .int 0)])), (b1, .inr (.byte, L1.map byV)), (w2, .inl ("java/lang/String", [("java/lang/String", "value", "[B", .ref b2), ("java/lang/String", "coder", "B", .int 0)])), (b2, .inr (.byte, L2.map byV)), (x, .inl ("java/lang/String", [("java/lang/String", "value", "[B", .ref t), ("java/lang/String", "coder", "B", .int 0)])), (t, .inr (.byte, cs.map byV))]) (c2 := 2) (s2 := 3) (st2 := [.ref o]) ?_
  refine Go.sub [0] (by decide) rfl (D' := [(o, .inl ("java/util/Optional", [("java/util/Optional", "value", "Ljava/lang/Object;", .ref e1)]))]) rfl (S' := []) eN (G := ?_)
  exact Go.retA d14_36 ⟨o, rfl, rfl, rfl⟩
set_option maxRecDepth 65536 in
set_option maxHeartbeats 40000000 in
theorem c_p2 {l : Launch} {Z : State} {a0 : Array Value} {EL : List (String × Nat)} {b : Bool} {n0 : Nat} (hw : ∀ d ∈ tables_1, d.before a0 Z = true) (va e1 e2 w1 b1 w2 b2 op : Addr) (hV : Sta Z Z.heap "com/example/gyro/gyro/webhook/EventType" "$VALUES" "[Lcom/example/gyro/gyro/webhook/EventType;" (.ref va)) (hVE : Exa Z Z.heap va "[Lcom/example/gyro/gyro/webhook/EventType;") (hOP : Sta Z Z.heap "java/util/Optional" "EMPTY" "Ljava/util/Optional;" (.ref op)) (x t : Addr) (cs : List Int32) (n : Nat) (cpt : Int32) (hCS : Sta Z Z.heap "java/lang/String" "COMPACT_STRINGS" "Z" (.int cpt)) (hcpt : ¬ cpt = 0) (hx1 : w1 ≠ x) (hx2 : w2 ≠ x) (hn : cs.length = n) (hb : n ≤ 4000) (hc : ∀ c ∈ cs, 0 ≤ c.toInt ∧ c.toInt ≤ 255) (h1 : ¬ L1 = cs) (h2 : L2 = cs) :
    Met l Z a0 EL b n0 (⟨"com/example/gyro/gyro/webhook/EventType", "parse", "(Ljava/lang/String;)Ljava/util/Optional;"⟩ : MethodName) prog_28_method_5_code 5 (some (.object "java/util/Optional")) [] (rm4 3 2 3 38) [.ref x] [] [(va, .inr (.object "com/example/gyro/gyro/webhook/EventType", [.ref e1, .ref e2])), (e1, .inl ("com/example/gyro/gyro/webhook/EventType", [("com/example/gyro/gyro/webhook/EventType", "wireName", "Ljava/lang/String;", .ref w1)])), (e2, .inl ("com/example/gyro/gyro/webhook/EventType", [("com/example/gyro/gyro/webhook/EventType", "wireName", "Ljava/lang/String;", .ref w2)])), (w1, .inl ("java/lang/String", [("java/lang/String", "value", "[B", .ref b1), ("java/lang/String", "coder", "B", .int 0)])), (b1, .inr (.byte, L1.map byV)), (w2, .inl ("java/lang/String", [("java/lang/String", "value", "[B", .ref b2), ("java/lang/String", "coder", "B", .int 0)])), (b2, .inr (.byte, L2.map byV)), (x, .inl ("java/lang/String", [("java/lang/String", "value", "[B", .ref t), ("java/lang/String", "coder", "B", .int 0)])), (t, .inr (.byte, cs.map byV))] (fun v D' S' => ∃ o, v = some (.ref o) ∧ D' = [(o, .inl ("java/util/Optional", [("java/util/Optional", "value", "Ljava/lang/Object;", .ref e2)]))] ∧ S' = []) := by
  refine Met.of_go (own := "com/example/gyro/gyro/webhook/EventType") (nm := "parse") (Ls := #[.val (.ref x), .unset, .unset, .unset, .unset]) (plainFor_of_name png_3) (fun m => by first | rfl | (simp [entryFrame, mkF, argsToLocals, Value.category]; done)) ?_
  refine Go.invokestatic false d14_0 (hw _ (List.mem_of_getElem? (i := 40) rfl)) (hw _ (List.mem_of_getElem? (i := 41) rfl)) (hw _ (List.mem_of_getElem? (i := 1) rfl)) (hw _ (List.mem_of_getElem? (i := 42) rfl)) (c_vals hw va e1 e2 hV hVE) pdg_7 rfl (argsL := []) (rest := []) rfl rfl (Dr := []) rfl (eS (Or.inl (List.mem_of_getElem? (i := 0) rfl)) eN) (G := ?_)
  rintro _ _ _ ⟨d, rfl, rfl, rfl⟩
  refine Go.norm (D2 := [(d, .inr (.object "com/example/gyro/gyro/webhook/EventType", [.ref e1, .ref e2]))]) (S2 := [(va, .inr (.object "com/example/gyro/gyro/webhook/EventType", [.ref e1, .ref e2])), (e1, .inl ("com/example/gyro/gyro/webhook/EventType", [("com/example/gyro/gyro/webhook/EventType", "wireName", "Ljava/lang/String;", .ref w1)])), (e2, .inl ("com/example/gyro/gyro/webhook/EventType", [("com/example/gyro/gyro/webhook/EventType", "wireName", "Ljava/lang/String;", .ref w2)])), (w1, .inl ("java/lang/String", [("java/lang/String", "value", "[B", .ref b1), ("java/lang/String", "coder", "B", .int 0)])), (b1, .inr (.byte, L1.map byV)), (w2, .inl ("java/lang/String", [("java/lang/String", "value", "[B", .ref b2), ("java/lang/String", "coder", "B", .int 0)])), (b2, .inr (.byte, L2.map byV)), (x, .inl ("java/lang/String", [("java/lang/String", "value", "[B", .ref t), ("java/lang/String", "coder", "B", .int 0)])), (t, .inr (.byte, cs.map byV))]) (c2 := 1) (s2 := 2) (st2 := [.ref d]) ?_
  refine Go.astoreN d14_3 (Ls' := #[.val (.ref x), .val (.ref d), .unset, .unset, .unset]) rfl (G := ?_)
  refine Go.aloadN d14_4 rfl (G := ?_)
  refine Go.arraylength d14_5 (inD (i := 0) rfl) (n := 2) rfl (G := ?_)
  refine Go.istoreN d14_6 (Ls' := #[.val (.ref x), .val (.ref d), .val (.int 2), .unset, .unset]) rfl (G := ?_)
  refine Go.iconst d14_7 (v := 0) rfl (G := ?_)
  refine Go.istoreN d14_8 (Ls' := #[.val (.ref x), .val (.ref d), .val (.int 2), .val (.int 0), .unset]) rfl (G := ?_)
  refine Go.iloadN d14_9 rfl (G := ?_)
  refine Go.iloadN d14_10 rfl (G := ?_)
  refine Go.icmp d14_11 (pc2 := 43) (Gy := fun h => absurd h (show ¬ (¬ (0 : Int32) < 2) by decide)) (Gn := fun _ => ?_)
  refine Go.aloadN d14_14 rfl (G := ?_)
  refine Go.iloadN d14_15 rfl (G := ?_)
  refine Go.aaload d14_16 (inD (i := 0) rfl) rfl (G := ?_)
  refine Go.astore d14_17 (Ls' := #[.val (.ref x), .val (.ref d), .val (.int 2), .val (.int 0), .val (.ref e1)]) rfl (G := ?_)
  refine Go.aload d14_19 rfl (G := ?_)
  refine Go.getfield d14_21 (host := "") (Or.inl (hw _ (List.mem_of_getElem? (i := 56) rfl))) Via.refl (inS (i := 1) rfl) 0 rfl (G := ?_)
  refine Go.aloadN d14_24 rfl (G := ?_)
  refine Go.invokevirtual false d14_25 (hw _ (List.mem_of_getElem? (i := 58) rfl)) (hw _ (List.mem_of_getElem? (i := 59) rfl)) (hw _ (List.mem_of_getElem? (i := 61) rfl)) (hw _ (List.mem_of_getElem? (i := 60) rfl)) (hw _ (List.mem_of_getElem? (i := 10) rfl)) (hw _ (List.mem_of_getElem? (i := 62) rfl)) (nfSel (hw _ (List.mem_of_getElem? (i := 61) rfl))) (inS (i := 3) rfl) (c_eqL hw w1 b1 x t L1 cs 16 n [] [] cpt hCS hcpt hx1 rfl hn (by decide) hb L1_lat hc) pdg_8 rfl (argsL := [.ref x]) (rest := []) rfl rfl (Dr := [(d, .inr (.object "com/example/gyro/gyro/webhook/EventType", [.ref e1, .ref e2]))]) rfl (eS (Or.inl (List.mem_of_getElem? (i := 3) rfl)) (eS (Or.inl (List.mem_of_getElem? (i := 4) rfl)) (eS (Or.inl (List.mem_of_getElem? (i := 7) rfl)) (eS (Or.inl (List.mem_of_getElem? (i := 8) rfl)) eN)))) (G := ?_)
  rintro _ _ _ ⟨r1, hr1, rfl, rfl, rfl⟩
  refine Go.norm (D2 := [(d, .inr (.object "com/example/gyro/gyro/webhook/EventType", [.ref e1, .ref e2]))]) (S2 := [(va, .inr (.object "com/example/gyro/gyro/webhook/EventType", [.ref e1, .ref e2])), (e1, .inl ("com/example/gyro/gyro/webhook/EventType", [("com/example/gyro/gyro/webhook/EventType", "wireName", "Ljava/lang/String;", .ref w1)])), (e2, .inl ("com/example/gyro/gyro/webhook/EventType", [("com/example/gyro/gyro/webhook/EventType", "wireName", "Ljava/lang/String;", .ref w2)])), (w1, .inl ("java/lang/String", [("java/lang/String", "value", "[B", .ref b1), ("java/lang/String", "coder", "B", .int 0)])), (b1, .inr (.byte, L1.map byV)), (w2, .inl ("java/lang/String", [("java/lang/String", "value", "[B", .ref b2), ("java/lang/String", "coder", "B", .int 0)])), (b2, .inr (.byte, L2.map byV)), (x, .inl ("java/lang/String", [("java/lang/String", "value", "[B", .ref t), ("java/lang/String", "coder", "B", .int 0)])), (t, .inr (.byte, cs.map byV))]) (c2 := 1) (s2 := 2) (st2 := [.int r1]) ?_
  refine Go.ifc d14_28 (pc2 := 37) (Gy := fun _ => ?_) (Gn := fun h => absurd (show r1 = 0 from (bZ hr1 h1)) h)
  refine Go.iinc d14_37 rfl (v := 1) rfl (z := 1) rfl (Ls' := #[.val (.ref x), .val (.ref d), .val (.int 2), .val (.int 1), .val (.ref e1)]) rfl (G := ?_)
  refine Go.goto d14_40 (pc2 := 9) (G := ?_)
  refine Go.iloadN d14_9 rfl (G := ?_)
  refine Go.iloadN d14_10 rfl (G := ?_)
  refine Go.icmp d14_11 (pc2 := 43) (Gy := fun h => absurd h (show ¬ (¬ (1 : Int32) < 2) by decide)) (Gn := fun _ => ?_)
  refine Go.aloadN d14_14 rfl (G := ?_)
  refine Go.iloadN d14_15 rfl (G := ?_)
  refine Go.aaload d14_16 (inD (i := 0) rfl) rfl (G := ?_)
  refine Go.astore d14_17 (Ls' := #[.val (.ref x), .val (.ref d), .val (.int 2), .val (.int 1), .val (.ref e2)]) rfl (G := ?_)
  refine Go.aload d14_19 rfl (G := ?_)
  refine Go.getfield d14_21 (host := "") (Or.inl (hw _ (List.mem_of_getElem? (i := 56) rfl))) Via.refl (inS (i := 2) rfl) 0 rfl (G := ?_)
  refine Go.aloadN d14_24 rfl (G := ?_)
  refine Go.invokevirtual false d14_25 (hw _ (List.mem_of_getElem? (i := 58) rfl)) (hw _ (List.mem_of_getElem? (i := 59) rfl)) (hw _ (List.mem_of_getElem? (i := 61) rfl)) (hw _ (List.mem_of_getElem? (i := 60) rfl)) (hw _ (List.mem_of_getElem? (i := 10) rfl)) (hw _ (List.mem_of_getElem? (i := 62) rfl)) (nfSel (hw _ (List.mem_of_getElem? (i := 61) rfl))) (inS (i := 5) rfl) (c_eqL hw w2 b2 x t L2 cs 22 n [] [] cpt hCS hcpt hx2 rfl hn (by decide) hb L2_lat hc) pdg_8 rfl (argsL := [.ref x]) (rest := []) rfl rfl (Dr := [(d, .inr (.object "com/example/gyro/gyro/webhook/EventType", [.ref e1, .ref e2]))]) rfl (eS (Or.inl (List.mem_of_getElem? (i := 5) rfl)) (eS (Or.inl (List.mem_of_getElem? (i := 6) rfl)) (eS (Or.inl (List.mem_of_getElem? (i := 7) rfl)) (eS (Or.inl (List.mem_of_getElem? (i := 8) rfl)) eN)))) (G := ?_)
  rintro _ _ _ ⟨r2, hr2, rfl, rfl, rfl⟩
  refine Go.norm (D2 := [(d, .inr (.object "com/example/gyro/gyro/webhook/EventType", [.ref e1, .ref e2]))]) (S2 := [(va, .inr (.object "com/example/gyro/gyro/webhook/EventType", [.ref e1, .ref e2])), (e1, .inl ("com/example/gyro/gyro/webhook/EventType", [("com/example/gyro/gyro/webhook/EventType", "wireName", "Ljava/lang/String;", .ref w1)])), (e2, .inl ("com/example/gyro/gyro/webhook/EventType", [("com/example/gyro/gyro/webhook/EventType", "wireName", "Ljava/lang/String;", .ref w2)])), (w1, .inl ("java/lang/String", [("java/lang/String", "value", "[B", .ref b1), ("java/lang/String", "coder", "B", .int 0)])), (b1, .inr (.byte, L1.map byV)), (w2, .inl ("java/lang/String", [("java/lang/String", "value", "[B", .ref b2), ("java/lang/String", "coder", "B", .int 0)])), (b2, .inr (.byte, L2.map byV)), (x, .inl ("java/lang/String", [("java/lang/String", "value", "[B", .ref t), ("java/lang/String", "coder", "B", .int 0)])), (t, .inr (.byte, cs.map byV))]) (c2 := 1) (s2 := 2) (st2 := [.int r2]) ?_
  refine Go.ifc d14_28 (pc2 := 37) (Gy := fun h => absurd h (show ¬ (r2 = 0) from (fun q => bF hr2 q h2))) (Gn := fun _ => ?_)
  refine Go.aload d14_31 rfl (G := ?_)
  refine Go.invokestatic false d14_33 (hw _ (List.mem_of_getElem? (i := 68) rfl)) (hw _ (List.mem_of_getElem? (i := 69) rfl)) (hw _ (List.mem_of_getElem? (i := 70) rfl)) (hw _ (List.mem_of_getElem? (i := 71) rfl)) (c_of hw e2) pdg_9 rfl (argsL := [.ref e2]) (rest := []) rfl rfl (Dr := [(d, .inr (.object "com/example/gyro/gyro/webhook/EventType", [.ref e1, .ref e2]))]) rfl eN (G := ?_)
  rintro _ _ _ ⟨o, rfl, rfl, rfl⟩
  refine Go.norm (D2 := [(o, .inl ("java/util/Optional", [("java/util/Optional", "value", "Ljava/lang/Object;", .ref e2)])), (d, .inr (.object "com/example/gyro/gyro/webhook/EventType", [.ref e1, .ref e2]))]) (S2 := [(va, .inr (.object "com/example/gyro/gyro/webhook/EventType", [.ref e1, .ref e2])), (e1, .inl ("com/example/gyro/gyro/webhook/EventType", [("com/example/gyro/gyro/webhook/EventType", "wireName", "Ljava/lang/String;", .ref w1)])), (e2, .inl ("com/example/gyro/gyro/webhook/EventType", [("com/example/gyro/gyro/webhook/EventType", "wireName", "Ljava/lang/String;", .ref w2)])), (w1, .inl ("java/lang/String", [("java/lang/String", "value", "[B", .ref b1), ("java/lang/String", "coder", "B", .int 0)])), (b1, .inr (.byte, L1.map byV)), (w2, .inl ("java/lang/String", [("java/lang/String", "value", "[B", .ref b2), ("java/lang/String", "coder", "B", .int 0)])), (b2, .inr (.byte, L2.map byV)), (x, .inl ("java/lang/String", [("java/lang/String", "value", "[B", .ref t), ("java/lang/String", "coder", "B", .int 0)])), (t, .inr (.byte, cs.map byV))]) (c2 := 2) (s2 := 3) (st2 := [.ref o]) ?_
  refine Go.sub [0] (by decide) rfl (D' := [(o, .inl ("java/util/Optional", [("java/util/Optional", "value", "Ljava/lang/Object;", .ref e2)]))]) rfl (S' := []) eN (G := ?_)
  exact Go.retA d14_36 ⟨o, rfl, rfl, rfl⟩
theorem pdg_10 : parseMethodDescriptor "()Ljava/util/Optional;" = some ⟨[], some (.object "java/util/Optional")⟩ := by decide +kernel
set_option maxRecDepth 65536 in
set_option maxHeartbeats 40000000 in
theorem c_p0 {l : Launch} {Z : State} {a0 : Array Value} {EL : List (String × Nat)} {b : Bool} {n0 : Nat} (hw : ∀ d ∈ tables_1, d.before a0 Z = true) (va e1 e2 w1 b1 w2 b2 op : Addr) (hV : Sta Z Z.heap "com/example/gyro/gyro/webhook/EventType" "$VALUES" "[Lcom/example/gyro/gyro/webhook/EventType;" (.ref va)) (hVE : Exa Z Z.heap va "[Lcom/example/gyro/gyro/webhook/EventType;") (hOP : Sta Z Z.heap "java/util/Optional" "EMPTY" "Ljava/util/Optional;" (.ref op)) (x t : Addr) (cs : List Int32) (n : Nat) (cpt : Int32) (hCS : Sta Z Z.heap "java/lang/String" "COMPACT_STRINGS" "Z" (.int cpt)) (hcpt : ¬ cpt = 0) (hx1 : w1 ≠ x) (hx2 : w2 ≠ x) (hn : cs.length = n) (hb : n ≤ 4000) (hc : ∀ c ∈ cs, 0 ≤ c.toInt ∧ c.toInt ≤ 255) (h1 : ¬ L1 = cs) (h2 : ¬ L2 = cs) :
    Met l Z a0 EL b n0 (⟨"com/example/gyro/gyro/webhook/EventType", "parse", "(Ljava/lang/String;)Ljava/util/Optional;"⟩ : MethodName) prog_28_method_5_code 5 (some (.object "java/util/Optional")) [] (rm4 2 2 3 28) [.ref x] [] [(va, .inr (.object "com/example/gyro/gyro/webhook/EventType", [.ref e1, .ref e2])), (e1, .inl ("com/example/gyro/gyro/webhook/EventType", [("com/example/gyro/gyro/webhook/EventType", "wireName", "Ljava/lang/String;", .ref w1)])), (e2, .inl ("com/example/gyro/gyro/webhook/EventType", [("com/example/gyro/gyro/webhook/EventType", "wireName", "Ljava/lang/String;", .ref w2)])), (w1, .inl ("java/lang/String", [("java/lang/String", "value", "[B", .ref b1), ("java/lang/String", "coder", "B", .int 0)])), (b1, .inr (.byte, L1.map byV)), (w2, .inl ("java/lang/String", [("java/lang/String", "value", "[B", .ref b2), ("java/lang/String", "coder", "B", .int 0)])), (b2, .inr (.byte, L2.map byV)), (x, .inl ("java/lang/String", [("java/lang/String", "value", "[B", .ref t), ("java/lang/String", "coder", "B", .int 0)])), (t, .inr (.byte, cs.map byV))] (fun v D' S' => v = some (.ref op) ∧ D' = [] ∧ S' = []) := by
  refine Met.of_go (own := "com/example/gyro/gyro/webhook/EventType") (nm := "parse") (Ls := #[.val (.ref x), .unset, .unset, .unset, .unset]) (plainFor_of_name png_3) (fun m => by first | rfl | (simp [entryFrame, mkF, argsToLocals, Value.category]; done)) ?_
  refine Go.invokestatic false d14_0 (hw _ (List.mem_of_getElem? (i := 40) rfl)) (hw _ (List.mem_of_getElem? (i := 41) rfl)) (hw _ (List.mem_of_getElem? (i := 1) rfl)) (hw _ (List.mem_of_getElem? (i := 42) rfl)) (c_vals hw va e1 e2 hV hVE) pdg_7 rfl (argsL := []) (rest := []) rfl rfl (Dr := []) rfl (eS (Or.inl (List.mem_of_getElem? (i := 0) rfl)) eN) (G := ?_)
  rintro _ _ _ ⟨d, rfl, rfl, rfl⟩
  refine Go.norm (D2 := [(d, .inr (.object "com/example/gyro/gyro/webhook/EventType", [.ref e1, .ref e2]))]) (S2 := [(va, .inr (.object "com/example/gyro/gyro/webhook/EventType", [.ref e1, .ref e2])), (e1, .inl ("com/example/gyro/gyro/webhook/EventType", [("com/example/gyro/gyro/webhook/EventType", "wireName", "Ljava/lang/String;", .ref w1)])), (e2, .inl ("com/example/gyro/gyro/webhook/EventType", [("com/example/gyro/gyro/webhook/EventType", "wireName", "Ljava/lang/String;", .ref w2)])), (w1, .inl ("java/lang/String", [("java/lang/String", "value", "[B", .ref b1), ("java/lang/String", "coder", "B", .int 0)])), (b1, .inr (.byte, L1.map byV)), (w2, .inl ("java/lang/String", [("java/lang/String", "value", "[B", .ref b2), ("java/lang/String", "coder", "B", .int 0)])), (b2, .inr (.byte, L2.map byV)), (x, .inl ("java/lang/String", [("java/lang/String", "value", "[B", .ref t), ("java/lang/String", "coder", "B", .int 0)])), (t, .inr (.byte, cs.map byV))]) (c2 := 1) (s2 := 2) (st2 := [.ref d]) ?_
  refine Go.astoreN d14_3 (Ls' := #[.val (.ref x), .val (.ref d), .unset, .unset, .unset]) rfl (G := ?_)
  refine Go.aloadN d14_4 rfl (G := ?_)
  refine Go.arraylength d14_5 (inD (i := 0) rfl) (n := 2) rfl (G := ?_)
  refine Go.istoreN d14_6 (Ls' := #[.val (.ref x), .val (.ref d), .val (.int 2), .unset, .unset]) rfl (G := ?_)
  refine Go.iconst d14_7 (v := 0) rfl (G := ?_)
  refine Go.istoreN d14_8 (Ls' := #[.val (.ref x), .val (.ref d), .val (.int 2), .val (.int 0), .unset]) rfl (G := ?_)
  refine Go.iloadN d14_9 rfl (G := ?_)
  refine Go.iloadN d14_10 rfl (G := ?_)
  refine Go.icmp d14_11 (pc2 := 43) (Gy := fun h => absurd h (show ¬ (¬ (0 : Int32) < 2) by decide)) (Gn := fun _ => ?_)
  refine Go.aloadN d14_14 rfl (G := ?_)
  refine Go.iloadN d14_15 rfl (G := ?_)
  refine Go.aaload d14_16 (inD (i := 0) rfl) rfl (G := ?_)
  refine Go.astore d14_17 (Ls' := #[.val (.ref x), .val (.ref d), .val (.int 2), .val (.int 0), .val (.ref e1)]) rfl (G := ?_)
  refine Go.aload d14_19 rfl (G := ?_)
  refine Go.getfield d14_21 (host := "") (Or.inl (hw _ (List.mem_of_getElem? (i := 56) rfl))) Via.refl (inS (i := 1) rfl) 0 rfl (G := ?_)
  refine Go.aloadN d14_24 rfl (G := ?_)
  refine Go.invokevirtual false d14_25 (hw _ (List.mem_of_getElem? (i := 58) rfl)) (hw _ (List.mem_of_getElem? (i := 59) rfl)) (hw _ (List.mem_of_getElem? (i := 61) rfl)) (hw _ (List.mem_of_getElem? (i := 60) rfl)) (hw _ (List.mem_of_getElem? (i := 10) rfl)) (hw _ (List.mem_of_getElem? (i := 62) rfl)) (nfSel (hw _ (List.mem_of_getElem? (i := 61) rfl))) (inS (i := 3) rfl) (c_eqL hw w1 b1 x t L1 cs 16 n [] [] cpt hCS hcpt hx1 rfl hn (by decide) hb L1_lat hc) pdg_8 rfl (argsL := [.ref x]) (rest := []) rfl rfl (Dr := [(d, .inr (.object "com/example/gyro/gyro/webhook/EventType", [.ref e1, .ref e2]))]) rfl (eS (Or.inl (List.mem_of_getElem? (i := 3) rfl)) (eS (Or.inl (List.mem_of_getElem? (i := 4) rfl)) (eS (Or.inl (List.mem_of_getElem? (i := 7) rfl)) (eS (Or.inl (List.mem_of_getElem? (i := 8) rfl)) eN)))) (G := ?_)
  rintro _ _ _ ⟨r1, hr1, rfl, rfl, rfl⟩
  refine Go.norm (D2 := [(d, .inr (.object "com/example/gyro/gyro/webhook/EventType", [.ref e1, .ref e2]))]) (S2 := [(va, .inr (.object "com/example/gyro/gyro/webhook/EventType", [.ref e1, .ref e2])), (e1, .inl ("com/example/gyro/gyro/webhook/EventType", [("com/example/gyro/gyro/webhook/EventType", "wireName", "Ljava/lang/String;", .ref w1)])), (e2, .inl ("com/example/gyro/gyro/webhook/EventType", [("com/example/gyro/gyro/webhook/EventType", "wireName", "Ljava/lang/String;", .ref w2)])), (w1, .inl ("java/lang/String", [("java/lang/String", "value", "[B", .ref b1), ("java/lang/String", "coder", "B", .int 0)])), (b1, .inr (.byte, L1.map byV)), (w2, .inl ("java/lang/String", [("java/lang/String", "value", "[B", .ref b2), ("java/lang/String", "coder", "B", .int 0)])), (b2, .inr (.byte, L2.map byV)), (x, .inl ("java/lang/String", [("java/lang/String", "value", "[B", .ref t), ("java/lang/String", "coder", "B", .int 0)])), (t, .inr (.byte, cs.map byV))]) (c2 := 1) (s2 := 2) (st2 := [.int r1]) ?_
  refine Go.ifc d14_28 (pc2 := 37) (Gy := fun _ => ?_) (Gn := fun h => absurd (show r1 = 0 from (bZ hr1 h1)) h)
  refine Go.iinc d14_37 rfl (v := 1) rfl (z := 1) rfl (Ls' := #[.val (.ref x), .val (.ref d), .val (.int 2), .val (.int 1), .val (.ref e1)]) rfl (G := ?_)
  refine Go.goto d14_40 (pc2 := 9) (G := ?_)
  refine Go.iloadN d14_9 rfl (G := ?_)
  refine Go.iloadN d14_10 rfl (G := ?_)
  refine Go.icmp d14_11 (pc2 := 43) (Gy := fun h => absurd h (show ¬ (¬ (1 : Int32) < 2) by decide)) (Gn := fun _ => ?_)
  refine Go.aloadN d14_14 rfl (G := ?_)
  refine Go.iloadN d14_15 rfl (G := ?_)
  refine Go.aaload d14_16 (inD (i := 0) rfl) rfl (G := ?_)
  refine Go.astore d14_17 (Ls' := #[.val (.ref x), .val (.ref d), .val (.int 2), .val (.int 1), .val (.ref e2)]) rfl (G := ?_)
  refine Go.aload d14_19 rfl (G := ?_)
  refine Go.getfield d14_21 (host := "") (Or.inl (hw _ (List.mem_of_getElem? (i := 56) rfl))) Via.refl (inS (i := 2) rfl) 0 rfl (G := ?_)
  refine Go.aloadN d14_24 rfl (G := ?_)
  refine Go.invokevirtual false d14_25 (hw _ (List.mem_of_getElem? (i := 58) rfl)) (hw _ (List.mem_of_getElem? (i := 59) rfl)) (hw _ (List.mem_of_getElem? (i := 61) rfl)) (hw _ (List.mem_of_getElem? (i := 60) rfl)) (hw _ (List.mem_of_getElem? (i := 10) rfl)) (hw _ (List.mem_of_getElem? (i := 62) rfl)) (nfSel (hw _ (List.mem_of_getElem? (i := 61) rfl))) (inS (i := 5) rfl) (c_eqL hw w2 b2 x t L2 cs 22 n [] [] cpt hCS hcpt hx2 rfl hn (by decide) hb L2_lat hc) pdg_8 rfl (argsL := [.ref x]) (rest := []) rfl rfl (Dr := [(d, .inr (.object "com/example/gyro/gyro/webhook/EventType", [.ref e1, .ref e2]))]) rfl (eS (Or.inl (List.mem_of_getElem? (i := 5) rfl)) (eS (Or.inl (List.mem_of_getElem? (i := 6) rfl)) (eS (Or.inl (List.mem_of_getElem? (i := 7) rfl)) (eS (Or.inl (List.mem_of_getElem? (i := 8) rfl)) eN)))) (G := ?_)
  rintro _ _ _ ⟨r2, hr2, rfl, rfl, rfl⟩
  refine Go.norm (D2 := [(d, .inr (.object "com/example/gyro/gyro/webhook/EventType", [.ref e1, .ref e2]))]) (S2 := [(va, .inr (.object "com/example/gyro/gyro/webhook/EventType", [.ref e1, .ref e2])), (e1, .inl ("com/example/gyro/gyro/webhook/EventType", [("com/example/gyro/gyro/webhook/EventType", "wireName", "Ljava/lang/String;", .ref w1)])), (e2, .inl ("com/example/gyro/gyro/webhook/EventType", [("com/example/gyro/gyro/webhook/EventType", "wireName", "Ljava/lang/String;", .ref w2)])), (w1, .inl ("java/lang/String", [("java/lang/String", "value", "[B", .ref b1), ("java/lang/String", "coder", "B", .int 0)])), (b1, .inr (.byte, L1.map byV)), (w2, .inl ("java/lang/String", [("java/lang/String", "value", "[B", .ref b2), ("java/lang/String", "coder", "B", .int 0)])), (b2, .inr (.byte, L2.map byV)), (x, .inl ("java/lang/String", [("java/lang/String", "value", "[B", .ref t), ("java/lang/String", "coder", "B", .int 0)])), (t, .inr (.byte, cs.map byV))]) (c2 := 1) (s2 := 2) (st2 := [.int r2]) ?_
  refine Go.ifc d14_28 (pc2 := 37) (Gy := fun _ => ?_) (Gn := fun h => absurd (show r2 = 0 from (bZ hr2 h2)) h)
  refine Go.iinc d14_37 rfl (v := 1) rfl (z := 2) rfl (Ls' := #[.val (.ref x), .val (.ref d), .val (.int 2), .val (.int 2), .val (.ref e2)]) rfl (G := ?_)
  refine Go.goto d14_40 (pc2 := 9) (G := ?_)
  refine Go.iloadN d14_9 rfl (G := ?_)
  refine Go.iloadN d14_10 rfl (G := ?_)
  refine Go.icmp d14_11 (pc2 := 43) (Gy := fun _ => ?_) (Gn := fun h => absurd (show ¬ (2 : Int32) < 2 by decide) h)
  refine Go.invokestatic false d14_43 (hw _ (List.mem_of_getElem? (i := 93) rfl)) (hw _ (List.mem_of_getElem? (i := 94) rfl)) (hw _ (List.mem_of_getElem? (i := 70) rfl)) (hw _ (List.mem_of_getElem? (i := 95) rfl)) (c_empty hw op hOP) pdg_10 rfl (argsL := []) (rest := []) rfl rfl (Dr := [(d, .inr (.object "com/example/gyro/gyro/webhook/EventType", [.ref e1, .ref e2]))]) rfl eN (G := ?_)
  rintro _ _ _ ⟨rfl, rfl, rfl⟩
  refine Go.norm (D2 := [(d, .inr (.object "com/example/gyro/gyro/webhook/EventType", [.ref e1, .ref e2]))]) (S2 := [(va, .inr (.object "com/example/gyro/gyro/webhook/EventType", [.ref e1, .ref e2])), (e1, .inl ("com/example/gyro/gyro/webhook/EventType", [("com/example/gyro/gyro/webhook/EventType", "wireName", "Ljava/lang/String;", .ref w1)])), (e2, .inl ("com/example/gyro/gyro/webhook/EventType", [("com/example/gyro/gyro/webhook/EventType", "wireName", "Ljava/lang/String;", .ref w2)])), (w1, .inl ("java/lang/String", [("java/lang/String", "value", "[B", .ref b1), ("java/lang/String", "coder", "B", .int 0)])), (b1, .inr (.byte, L1.map byV)), (w2, .inl ("java/lang/String", [("java/lang/String", "value", "[B", .ref b2), ("java/lang/String", "coder", "B", .int 0)])), (b2, .inr (.byte, L2.map byV)), (x, .inl ("java/lang/String", [("java/lang/String", "value", "[B", .ref t), ("java/lang/String", "coder", "B", .int 0)])), (t, .inr (.byte, cs.map byV))]) (c2 := 1) (s2 := 2) (st2 := [.ref op]) ?_
  refine Go.sub [] (by decide) rfl (D' := []) rfl (S' := []) eN (G := ?_)
  exact Go.retA d14_46 ⟨rfl, rfl, rfl⟩
set_option maxRecDepth 65536 in
set_option maxHeartbeats 40000000 in
theorem c_pN {l : Launch} {Z : State} {a0 : Array Value} {EL : List (String × Nat)} {b : Bool} {n0 : Nat} (hw : ∀ d ∈ tables_1, d.before a0 Z = true) (va e1 e2 w1 b1 w2 b2 op : Addr) (hV : Sta Z Z.heap "com/example/gyro/gyro/webhook/EventType" "$VALUES" "[Lcom/example/gyro/gyro/webhook/EventType;" (.ref va)) (hVE : Exa Z Z.heap va "[Lcom/example/gyro/gyro/webhook/EventType;") (hOP : Sta Z Z.heap "java/util/Optional" "EMPTY" "Ljava/util/Optional;" (.ref op)) :
    Met l Z a0 EL b n0 (⟨"com/example/gyro/gyro/webhook/EventType", "parse", "(Ljava/lang/String;)Ljava/util/Optional;"⟩ : MethodName) prog_28_method_5_code 5 (some (.object "java/util/Optional")) [] (rm4 2 2 3 25) [.null] [] [(va, .inr (.object "com/example/gyro/gyro/webhook/EventType", [.ref e1, .ref e2])), (e1, .inl ("com/example/gyro/gyro/webhook/EventType", [("com/example/gyro/gyro/webhook/EventType", "wireName", "Ljava/lang/String;", .ref w1)])), (e2, .inl ("com/example/gyro/gyro/webhook/EventType", [("com/example/gyro/gyro/webhook/EventType", "wireName", "Ljava/lang/String;", .ref w2)])), (w1, .inl ("java/lang/String", [("java/lang/String", "value", "[B", .ref b1), ("java/lang/String", "coder", "B", .int 0)])), (b1, .inr (.byte, L1.map byV)), (w2, .inl ("java/lang/String", [("java/lang/String", "value", "[B", .ref b2), ("java/lang/String", "coder", "B", .int 0)])), (b2, .inr (.byte, L2.map byV))] (fun v D' S' => v = some (.ref op) ∧ D' = [] ∧ S' = []) := by
  refine Met.of_go (own := "com/example/gyro/gyro/webhook/EventType") (nm := "parse") (Ls := #[.val .null, .unset, .unset, .unset, .unset]) (plainFor_of_name png_3) (fun m => by first | rfl | (simp [entryFrame, mkF, argsToLocals, Value.category]; done)) ?_
  refine Go.invokestatic false d14_0 (hw _ (List.mem_of_getElem? (i := 40) rfl)) (hw _ (List.mem_of_getElem? (i := 41) rfl)) (hw _ (List.mem_of_getElem? (i := 1) rfl)) (hw _ (List.mem_of_getElem? (i := 42) rfl)) (c_vals hw va e1 e2 hV hVE) pdg_7 rfl (argsL := []) (rest := []) rfl rfl (Dr := []) rfl (eS (Or.inl (List.mem_of_getElem? (i := 0) rfl)) eN) (G := ?_)
  rintro _ _ _ ⟨d, rfl, rfl, rfl⟩
  refine Go.norm (D2 := [(d, .inr (.object "com/example/gyro/gyro/webhook/EventType", [.ref e1, .ref e2]))]) (S2 := [(va, .inr (.object "com/example/gyro/gyro/webhook/EventType", [.ref e1, .ref e2])), (e1, .inl ("com/example/gyro/gyro/webhook/EventType", [("com/example/gyro/gyro/webhook/EventType", "wireName", "Ljava/lang/String;", .ref w1)])), (e2, .inl ("com/example/gyro/gyro/webhook/EventType", [("com/example/gyro/gyro/webhook/EventType", "wireName", "Ljava/lang/String;", .ref w2)])), (w1, .inl ("java/lang/String", [("java/lang/String", "value", "[B", .ref b1), ("java/lang/String", "coder", "B", .int 0)])), (b1, .inr (.byte, L1.map byV)), (w2, .inl ("java/lang/String", [("java/lang/String", "value", "[B", .ref b2), ("java/lang/String", "coder", "B", .int 0)])), (b2, .inr (.byte, L2.map byV))]) (c2 := 1) (s2 := 2) (st2 := [.ref d]) ?_
  refine Go.astoreN d14_3 (Ls' := #[.val .null, .val (.ref d), .unset, .unset, .unset]) rfl (G := ?_)
  refine Go.aloadN d14_4 rfl (G := ?_)
  refine Go.arraylength d14_5 (inD (i := 0) rfl) (n := 2) rfl (G := ?_)
  refine Go.istoreN d14_6 (Ls' := #[.val .null, .val (.ref d), .val (.int 2), .unset, .unset]) rfl (G := ?_)
  refine Go.iconst d14_7 (v := 0) rfl (G := ?_)
  refine Go.istoreN d14_8 (Ls' := #[.val .null, .val (.ref d), .val (.int 2), .val (.int 0), .unset]) rfl (G := ?_)
  refine Go.iloadN d14_9 rfl (G := ?_)
  refine Go.iloadN d14_10 rfl (G := ?_)
  refine Go.icmp d14_11 (pc2 := 43) (Gy := fun h => absurd h (show ¬ (¬ (0 : Int32) < 2) by decide)) (Gn := fun _ => ?_)
  refine Go.aloadN d14_14 rfl (G := ?_)
  refine Go.iloadN d14_15 rfl (G := ?_)
  refine Go.aaload d14_16 (inD (i := 0) rfl) rfl (G := ?_)
  refine Go.astore d14_17 (Ls' := #[.val .null, .val (.ref d), .val (.int 2), .val (.int 0), .val (.ref e1)]) rfl (G := ?_)
  refine Go.aload d14_19 rfl (G := ?_)
  refine Go.getfield d14_21 (host := "") (Or.inl (hw _ (List.mem_of_getElem? (i := 56) rfl))) Via.refl (inS (i := 1) rfl) 0 rfl (G := ?_)
  refine Go.aloadN d14_24 rfl (G := ?_)
  refine Go.invokevirtual false d14_25 (hw _ (List.mem_of_getElem? (i := 58) rfl)) (hw _ (List.mem_of_getElem? (i := 59) rfl)) (hw _ (List.mem_of_getElem? (i := 61) rfl)) (hw _ (List.mem_of_getElem? (i := 60) rfl)) (hw _ (List.mem_of_getElem? (i := 10) rfl)) (hw _ (List.mem_of_getElem? (i := 62) rfl)) (nfSel (hw _ (List.mem_of_getElem? (i := 61) rfl))) (inS (i := 3) rfl) (c_eqNull hw w1) pdg_8 rfl (argsL := [.null]) (rest := []) rfl rfl (Dr := [(d, .inr (.object "com/example/gyro/gyro/webhook/EventType", [.ref e1, .ref e2]))]) rfl eN (G := ?_)
  rintro _ _ _ ⟨rfl, rfl, rfl⟩
  refine Go.norm (D2 := [(d, .inr (.object "com/example/gyro/gyro/webhook/EventType", [.ref e1, .ref e2]))]) (S2 := [(va, .inr (.object "com/example/gyro/gyro/webhook/EventType", [.ref e1, .ref e2])), (e1, .inl ("com/example/gyro/gyro/webhook/EventType", [("com/example/gyro/gyro/webhook/EventType", "wireName", "Ljava/lang/String;", .ref w1)])), (e2, .inl ("com/example/gyro/gyro/webhook/EventType", [("com/example/gyro/gyro/webhook/EventType", "wireName", "Ljava/lang/String;", .ref w2)])), (w1, .inl ("java/lang/String", [("java/lang/String", "value", "[B", .ref b1), ("java/lang/String", "coder", "B", .int 0)])), (b1, .inr (.byte, L1.map byV)), (w2, .inl ("java/lang/String", [("java/lang/String", "value", "[B", .ref b2), ("java/lang/String", "coder", "B", .int 0)])), (b2, .inr (.byte, L2.map byV))]) (c2 := 1) (s2 := 2) (st2 := [.int 0]) ?_
  refine Go.ifc d14_28 (pc2 := 37) (Gy := fun _ => ?_) (Gn := fun h => absurd (show (0 : Int32) = 0 by decide) h)
  refine Go.iinc d14_37 rfl (v := 1) rfl (z := 1) rfl (Ls' := #[.val .null, .val (.ref d), .val (.int 2), .val (.int 1), .val (.ref e1)]) rfl (G := ?_)
  refine Go.goto d14_40 (pc2 := 9) (G := ?_)
  refine Go.iloadN d14_9 rfl (G := ?_)
  refine Go.iloadN d14_10 rfl (G := ?_)
  refine Go.icmp d14_11 (pc2 := 43) (Gy := fun h => absurd h (show ¬ (¬ (1 : Int32) < 2) by decide)) (Gn := fun _ => ?_)
  refine Go.aloadN d14_14 rfl (G := ?_)
  refine Go.iloadN d14_15 rfl (G := ?_)
  refine Go.aaload d14_16 (inD (i := 0) rfl) rfl (G := ?_)
  refine Go.astore d14_17 (Ls' := #[.val .null, .val (.ref d), .val (.int 2), .val (.int 1), .val (.ref e2)]) rfl (G := ?_)
  refine Go.aload d14_19 rfl (G := ?_)
  refine Go.getfield d14_21 (host := "") (Or.inl (hw _ (List.mem_of_getElem? (i := 56) rfl))) Via.refl (inS (i := 2) rfl) 0 rfl (G := ?_)
  refine Go.aloadN d14_24 rfl (G := ?_)
  refine Go.invokevirtual false d14_25 (hw _ (List.mem_of_getElem? (i := 58) rfl)) (hw _ (List.mem_of_getElem? (i := 59) rfl)) (hw _ (List.mem_of_getElem? (i := 61) rfl)) (hw _ (List.mem_of_getElem? (i := 60) rfl)) (hw _ (List.mem_of_getElem? (i := 10) rfl)) (hw _ (List.mem_of_getElem? (i := 62) rfl)) (nfSel (hw _ (List.mem_of_getElem? (i := 61) rfl))) (inS (i := 5) rfl) (c_eqNull hw w2) pdg_8 rfl (argsL := [.null]) (rest := []) rfl rfl (Dr := [(d, .inr (.object "com/example/gyro/gyro/webhook/EventType", [.ref e1, .ref e2]))]) rfl eN (G := ?_)
  rintro _ _ _ ⟨rfl, rfl, rfl⟩
  refine Go.norm (D2 := [(d, .inr (.object "com/example/gyro/gyro/webhook/EventType", [.ref e1, .ref e2]))]) (S2 := [(va, .inr (.object "com/example/gyro/gyro/webhook/EventType", [.ref e1, .ref e2])), (e1, .inl ("com/example/gyro/gyro/webhook/EventType", [("com/example/gyro/gyro/webhook/EventType", "wireName", "Ljava/lang/String;", .ref w1)])), (e2, .inl ("com/example/gyro/gyro/webhook/EventType", [("com/example/gyro/gyro/webhook/EventType", "wireName", "Ljava/lang/String;", .ref w2)])), (w1, .inl ("java/lang/String", [("java/lang/String", "value", "[B", .ref b1), ("java/lang/String", "coder", "B", .int 0)])), (b1, .inr (.byte, L1.map byV)), (w2, .inl ("java/lang/String", [("java/lang/String", "value", "[B", .ref b2), ("java/lang/String", "coder", "B", .int 0)])), (b2, .inr (.byte, L2.map byV))]) (c2 := 1) (s2 := 2) (st2 := [.int 0]) ?_
  refine Go.ifc d14_28 (pc2 := 37) (Gy := fun _ => ?_) (Gn := fun h => absurd (show (0 : Int32) = 0 by decide) h)
  refine Go.iinc d14_37 rfl (v := 1) rfl (z := 2) rfl (Ls' := #[.val .null, .val (.ref d), .val (.int 2), .val (.int 2), .val (.ref e2)]) rfl (G := ?_)
  refine Go.goto d14_40 (pc2 := 9) (G := ?_)
  refine Go.iloadN d14_9 rfl (G := ?_)
  refine Go.iloadN d14_10 rfl (G := ?_)
  refine Go.icmp d14_11 (pc2 := 43) (Gy := fun _ => ?_) (Gn := fun h => absurd (show ¬ (2 : Int32) < 2 by decide) h)
  refine Go.invokestatic false d14_43 (hw _ (List.mem_of_getElem? (i := 93) rfl)) (hw _ (List.mem_of_getElem? (i := 94) rfl)) (hw _ (List.mem_of_getElem? (i := 70) rfl)) (hw _ (List.mem_of_getElem? (i := 95) rfl)) (c_empty hw op hOP) pdg_10 rfl (argsL := []) (rest := []) rfl rfl (Dr := [(d, .inr (.object "com/example/gyro/gyro/webhook/EventType", [.ref e1, .ref e2]))]) rfl eN (G := ?_)
  rintro _ _ _ ⟨rfl, rfl, rfl⟩
  refine Go.norm (D2 := [(d, .inr (.object "com/example/gyro/gyro/webhook/EventType", [.ref e1, .ref e2]))]) (S2 := [(va, .inr (.object "com/example/gyro/gyro/webhook/EventType", [.ref e1, .ref e2])), (e1, .inl ("com/example/gyro/gyro/webhook/EventType", [("com/example/gyro/gyro/webhook/EventType", "wireName", "Ljava/lang/String;", .ref w1)])), (e2, .inl ("com/example/gyro/gyro/webhook/EventType", [("com/example/gyro/gyro/webhook/EventType", "wireName", "Ljava/lang/String;", .ref w2)])), (w1, .inl ("java/lang/String", [("java/lang/String", "value", "[B", .ref b1), ("java/lang/String", "coder", "B", .int 0)])), (b1, .inr (.byte, L1.map byV)), (w2, .inl ("java/lang/String", [("java/lang/String", "value", "[B", .ref b2), ("java/lang/String", "coder", "B", .int 0)])), (b2, .inr (.byte, L2.map byV))]) (c2 := 1) (s2 := 2) (st2 := [.ref op]) ?_
  refine Go.sub [] (by decide) rfl (D' := []) rfl (S' := []) eN (G := ?_)
  exact Go.retA d14_46 ⟨rfl, rfl, rfl⟩
theorem png_6 : plainName "com/example/gyro/gyro/webhook/EventTypeParsePinLaw" = true := by first | (simp [plainName, overriddenIn]; done) | decide +kernel
theorem d15_0 : Dx method_2_code 0 (.iload_n 0) 1 1 := ⟨by decide +kernel, rfl⟩
theorem d15_1 : Dx method_2_code 1 (.ifCond .eq 103) 3 4 := ⟨by decide +kernel, rfl⟩
theorem d15_4 : Dx method_2_code 4 (.bipush 17) 2 6 := ⟨by decide +kernel, rfl⟩
theorem d15_6 : Dx method_2_code 6 (.newarray .char) 2 8 := ⟨by decide +kernel, rfl⟩
theorem d15_8 : Dx method_2_code 8 (.dup) 1 9 := ⟨by decide +kernel, rfl⟩
theorem d15_9 : Dx method_2_code 9 (.iconst 0) 1 10 := ⟨by decide +kernel, rfl⟩
theorem d15_10 : Dx method_2_code 10 (.bipush 99) 2 12 := ⟨by decide +kernel, rfl⟩
theorem d15_12 : Dx method_2_code 12 (.castore) 1 13 := ⟨by decide +kernel, rfl⟩
theorem d15_13 : Dx method_2_code 13 (.dup) 1 14 := ⟨by decide +kernel, rfl⟩
theorem d15_14 : Dx method_2_code 14 (.iconst 1) 1 15 := ⟨by decide +kernel, rfl⟩
theorem d15_15 : Dx method_2_code 15 (.bipush 117) 2 17 := ⟨by decide +kernel, rfl⟩
theorem d15_17 : Dx method_2_code 17 (.castore) 1 18 := ⟨by decide +kernel, rfl⟩
theorem d15_18 : Dx method_2_code 18 (.dup) 1 19 := ⟨by decide +kernel, rfl⟩
theorem d15_19 : Dx method_2_code 19 (.iconst 2) 1 20 := ⟨by decide +kernel, rfl⟩
theorem d15_20 : Dx method_2_code 20 (.bipush 115) 2 22 := ⟨by decide +kernel, rfl⟩
theorem d15_22 : Dx method_2_code 22 (.castore) 1 23 := ⟨by decide +kernel, rfl⟩
theorem d15_23 : Dx method_2_code 23 (.dup) 1 24 := ⟨by decide +kernel, rfl⟩
theorem d15_24 : Dx method_2_code 24 (.iconst 3) 1 25 := ⟨by decide +kernel, rfl⟩
theorem d15_25 : Dx method_2_code 25 (.bipush 116) 2 27 := ⟨by decide +kernel, rfl⟩
theorem d15_27 : Dx method_2_code 27 (.castore) 1 28 := ⟨by decide +kernel, rfl⟩
theorem d15_28 : Dx method_2_code 28 (.dup) 1 29 := ⟨by decide +kernel, rfl⟩
theorem d15_29 : Dx method_2_code 29 (.iconst 4) 1 30 := ⟨by decide +kernel, rfl⟩
theorem d15_30 : Dx method_2_code 30 (.bipush 111) 2 32 := ⟨by decide +kernel, rfl⟩
theorem d15_32 : Dx method_2_code 32 (.castore) 1 33 := ⟨by decide +kernel, rfl⟩
theorem d15_33 : Dx method_2_code 33 (.dup) 1 34 := ⟨by decide +kernel, rfl⟩
theorem d15_34 : Dx method_2_code 34 (.iconst 5) 1 35 := ⟨by decide +kernel, rfl⟩
theorem d15_35 : Dx method_2_code 35 (.bipush 109) 2 37 := ⟨by decide +kernel, rfl⟩
theorem d15_37 : Dx method_2_code 37 (.castore) 1 38 := ⟨by decide +kernel, rfl⟩
theorem d15_38 : Dx method_2_code 38 (.dup) 1 39 := ⟨by decide +kernel, rfl⟩
theorem d15_39 : Dx method_2_code 39 (.bipush 6) 2 41 := ⟨by decide +kernel, rfl⟩
theorem d15_41 : Dx method_2_code 41 (.bipush 101) 2 43 := ⟨by decide +kernel, rfl⟩
theorem d15_43 : Dx method_2_code 43 (.castore) 1 44 := ⟨by decide +kernel, rfl⟩
theorem d15_44 : Dx method_2_code 44 (.dup) 1 45 := ⟨by decide +kernel, rfl⟩
theorem d15_45 : Dx method_2_code 45 (.bipush 7) 2 47 := ⟨by decide +kernel, rfl⟩
theorem d15_47 : Dx method_2_code 47 (.bipush 114) 2 49 := ⟨by decide +kernel, rfl⟩
theorem d15_49 : Dx method_2_code 49 (.castore) 1 50 := ⟨by decide +kernel, rfl⟩
theorem d15_50 : Dx method_2_code 50 (.dup) 1 51 := ⟨by decide +kernel, rfl⟩
theorem d15_51 : Dx method_2_code 51 (.bipush 8) 2 53 := ⟨by decide +kernel, rfl⟩
theorem d15_53 : Dx method_2_code 53 (.bipush 46) 2 55 := ⟨by decide +kernel, rfl⟩
theorem d15_55 : Dx method_2_code 55 (.castore) 1 56 := ⟨by decide +kernel, rfl⟩
theorem d15_56 : Dx method_2_code 56 (.dup) 1 57 := ⟨by decide +kernel, rfl⟩
theorem d15_57 : Dx method_2_code 57 (.bipush 9) 2 59 := ⟨by decide +kernel, rfl⟩
theorem d15_59 : Dx method_2_code 59 (.bipush 99) 2 61 := ⟨by decide +kernel, rfl⟩
theorem d15_61 : Dx method_2_code 61 (.castore) 1 62 := ⟨by decide +kernel, rfl⟩
theorem d15_62 : Dx method_2_code 62 (.dup) 1 63 := ⟨by decide +kernel, rfl⟩
theorem d15_63 : Dx method_2_code 63 (.bipush 10) 2 65 := ⟨by decide +kernel, rfl⟩
theorem d15_65 : Dx method_2_code 65 (.bipush 114) 2 67 := ⟨by decide +kernel, rfl⟩
theorem d15_67 : Dx method_2_code 67 (.castore) 1 68 := ⟨by decide +kernel, rfl⟩
theorem d15_68 : Dx method_2_code 68 (.dup) 1 69 := ⟨by decide +kernel, rfl⟩
theorem d15_69 : Dx method_2_code 69 (.bipush 11) 2 71 := ⟨by decide +kernel, rfl⟩
theorem d15_71 : Dx method_2_code 71 (.bipush 101) 2 73 := ⟨by decide +kernel, rfl⟩
theorem d15_73 : Dx method_2_code 73 (.castore) 1 74 := ⟨by decide +kernel, rfl⟩
theorem d15_74 : Dx method_2_code 74 (.dup) 1 75 := ⟨by decide +kernel, rfl⟩
theorem d15_75 : Dx method_2_code 75 (.bipush 12) 2 77 := ⟨by decide +kernel, rfl⟩
theorem d15_77 : Dx method_2_code 77 (.bipush 97) 2 79 := ⟨by decide +kernel, rfl⟩
theorem d15_79 : Dx method_2_code 79 (.castore) 1 80 := ⟨by decide +kernel, rfl⟩
theorem d15_80 : Dx method_2_code 80 (.dup) 1 81 := ⟨by decide +kernel, rfl⟩
theorem d15_81 : Dx method_2_code 81 (.bipush 13) 2 83 := ⟨by decide +kernel, rfl⟩
theorem d15_83 : Dx method_2_code 83 (.bipush 116) 2 85 := ⟨by decide +kernel, rfl⟩
theorem d15_85 : Dx method_2_code 85 (.castore) 1 86 := ⟨by decide +kernel, rfl⟩
theorem d15_86 : Dx method_2_code 86 (.dup) 1 87 := ⟨by decide +kernel, rfl⟩
theorem d15_87 : Dx method_2_code 87 (.bipush 14) 2 89 := ⟨by decide +kernel, rfl⟩
theorem d15_89 : Dx method_2_code 89 (.bipush 101) 2 91 := ⟨by decide +kernel, rfl⟩
theorem d15_91 : Dx method_2_code 91 (.castore) 1 92 := ⟨by decide +kernel, rfl⟩
theorem d15_92 : Dx method_2_code 92 (.dup) 1 93 := ⟨by decide +kernel, rfl⟩
theorem d15_93 : Dx method_2_code 93 (.bipush 15) 2 95 := ⟨by decide +kernel, rfl⟩
theorem d15_95 : Dx method_2_code 95 (.bipush 100) 2 97 := ⟨by decide +kernel, rfl⟩
theorem d15_97 : Dx method_2_code 97 (.castore) 1 98 := ⟨by decide +kernel, rfl⟩
theorem d15_98 : Dx method_2_code 98 (.dup) 1 99 := ⟨by decide +kernel, rfl⟩
theorem d15_99 : Dx method_2_code 99 (.bipush 16) 2 101 := ⟨by decide +kernel, rfl⟩
theorem d15_101 : Dx method_2_code 101 (.iload_n 1) 1 102 := ⟨by decide +kernel, rfl⟩
theorem d15_102 : Dx method_2_code 102 (.castore) 1 103 := ⟨by decide +kernel, rfl⟩
theorem d15_103 : Dx method_2_code 103 (.areturn) 1 104 := ⟨by decide +kernel, rfl⟩
theorem d15_104 : Dx method_2_code 104 (.bipush 16) 2 106 := ⟨by decide +kernel, rfl⟩
theorem d15_106 : Dx method_2_code 106 (.newarray .char) 2 108 := ⟨by decide +kernel, rfl⟩
theorem d15_108 : Dx method_2_code 108 (.dup) 1 109 := ⟨by decide +kernel, rfl⟩
theorem d15_109 : Dx method_2_code 109 (.iconst 0) 1 110 := ⟨by decide +kernel, rfl⟩
theorem d15_110 : Dx method_2_code 110 (.bipush 99) 2 112 := ⟨by decide +kernel, rfl⟩
theorem d15_112 : Dx method_2_code 112 (.castore) 1 113 := ⟨by decide +kernel, rfl⟩
theorem d15_113 : Dx method_2_code 113 (.dup) 1 114 := ⟨by decide +kernel, rfl⟩
theorem d15_114 : Dx method_2_code 114 (.iconst 1) 1 115 := ⟨by decide +kernel, rfl⟩
theorem d15_115 : Dx method_2_code 115 (.bipush 117) 2 117 := ⟨by decide +kernel, rfl⟩
theorem d15_117 : Dx method_2_code 117 (.castore) 1 118 := ⟨by decide +kernel, rfl⟩
theorem d15_118 : Dx method_2_code 118 (.dup) 1 119 := ⟨by decide +kernel, rfl⟩
theorem d15_119 : Dx method_2_code 119 (.iconst 2) 1 120 := ⟨by decide +kernel, rfl⟩
theorem d15_120 : Dx method_2_code 120 (.bipush 115) 2 122 := ⟨by decide +kernel, rfl⟩
theorem d15_122 : Dx method_2_code 122 (.castore) 1 123 := ⟨by decide +kernel, rfl⟩
theorem d15_123 : Dx method_2_code 123 (.dup) 1 124 := ⟨by decide +kernel, rfl⟩
theorem d15_124 : Dx method_2_code 124 (.iconst 3) 1 125 := ⟨by decide +kernel, rfl⟩
theorem d15_125 : Dx method_2_code 125 (.bipush 116) 2 127 := ⟨by decide +kernel, rfl⟩
theorem d15_127 : Dx method_2_code 127 (.castore) 1 128 := ⟨by decide +kernel, rfl⟩
theorem d15_128 : Dx method_2_code 128 (.dup) 1 129 := ⟨by decide +kernel, rfl⟩
theorem d15_129 : Dx method_2_code 129 (.iconst 4) 1 130 := ⟨by decide +kernel, rfl⟩
theorem d15_130 : Dx method_2_code 130 (.bipush 111) 2 132 := ⟨by decide +kernel, rfl⟩
theorem d15_132 : Dx method_2_code 132 (.castore) 1 133 := ⟨by decide +kernel, rfl⟩
theorem d15_133 : Dx method_2_code 133 (.dup) 1 134 := ⟨by decide +kernel, rfl⟩
theorem d15_134 : Dx method_2_code 134 (.iconst 5) 1 135 := ⟨by decide +kernel, rfl⟩
theorem d15_135 : Dx method_2_code 135 (.bipush 109) 2 137 := ⟨by decide +kernel, rfl⟩
theorem d15_137 : Dx method_2_code 137 (.castore) 1 138 := ⟨by decide +kernel, rfl⟩
theorem d15_138 : Dx method_2_code 138 (.dup) 1 139 := ⟨by decide +kernel, rfl⟩
theorem d15_139 : Dx method_2_code 139 (.bipush 6) 2 141 := ⟨by decide +kernel, rfl⟩
theorem d15_141 : Dx method_2_code 141 (.bipush 101) 2 143 := ⟨by decide +kernel, rfl⟩
theorem d15_143 : Dx method_2_code 143 (.castore) 1 144 := ⟨by decide +kernel, rfl⟩
theorem d15_144 : Dx method_2_code 144 (.dup) 1 145 := ⟨by decide +kernel, rfl⟩
theorem d15_145 : Dx method_2_code 145 (.bipush 7) 2 147 := ⟨by decide +kernel, rfl⟩
theorem d15_147 : Dx method_2_code 147 (.bipush 114) 2 149 := ⟨by decide +kernel, rfl⟩
theorem d15_149 : Dx method_2_code 149 (.castore) 1 150 := ⟨by decide +kernel, rfl⟩
theorem d15_150 : Dx method_2_code 150 (.dup) 1 151 := ⟨by decide +kernel, rfl⟩
theorem d15_151 : Dx method_2_code 151 (.bipush 8) 2 153 := ⟨by decide +kernel, rfl⟩
theorem d15_153 : Dx method_2_code 153 (.bipush 46) 2 155 := ⟨by decide +kernel, rfl⟩
theorem d15_155 : Dx method_2_code 155 (.castore) 1 156 := ⟨by decide +kernel, rfl⟩
theorem d15_156 : Dx method_2_code 156 (.dup) 1 157 := ⟨by decide +kernel, rfl⟩
theorem d15_157 : Dx method_2_code 157 (.bipush 9) 2 159 := ⟨by decide +kernel, rfl⟩
theorem d15_159 : Dx method_2_code 159 (.bipush 99) 2 161 := ⟨by decide +kernel, rfl⟩
theorem d15_161 : Dx method_2_code 161 (.castore) 1 162 := ⟨by decide +kernel, rfl⟩
theorem d15_162 : Dx method_2_code 162 (.dup) 1 163 := ⟨by decide +kernel, rfl⟩
theorem d15_163 : Dx method_2_code 163 (.bipush 10) 2 165 := ⟨by decide +kernel, rfl⟩
theorem d15_165 : Dx method_2_code 165 (.bipush 114) 2 167 := ⟨by decide +kernel, rfl⟩
theorem d15_167 : Dx method_2_code 167 (.castore) 1 168 := ⟨by decide +kernel, rfl⟩
theorem d15_168 : Dx method_2_code 168 (.dup) 1 169 := ⟨by decide +kernel, rfl⟩
theorem d15_169 : Dx method_2_code 169 (.bipush 11) 2 171 := ⟨by decide +kernel, rfl⟩
theorem d15_171 : Dx method_2_code 171 (.bipush 101) 2 173 := ⟨by decide +kernel, rfl⟩
theorem d15_173 : Dx method_2_code 173 (.castore) 1 174 := ⟨by decide +kernel, rfl⟩
theorem d15_174 : Dx method_2_code 174 (.dup) 1 175 := ⟨by decide +kernel, rfl⟩
theorem d15_175 : Dx method_2_code 175 (.bipush 12) 2 177 := ⟨by decide +kernel, rfl⟩
theorem d15_177 : Dx method_2_code 177 (.bipush 97) 2 179 := ⟨by decide +kernel, rfl⟩
theorem d15_179 : Dx method_2_code 179 (.castore) 1 180 := ⟨by decide +kernel, rfl⟩
theorem d15_180 : Dx method_2_code 180 (.dup) 1 181 := ⟨by decide +kernel, rfl⟩
theorem d15_181 : Dx method_2_code 181 (.bipush 13) 2 183 := ⟨by decide +kernel, rfl⟩
theorem d15_183 : Dx method_2_code 183 (.bipush 116) 2 185 := ⟨by decide +kernel, rfl⟩
theorem d15_185 : Dx method_2_code 185 (.castore) 1 186 := ⟨by decide +kernel, rfl⟩
theorem d15_186 : Dx method_2_code 186 (.dup) 1 187 := ⟨by decide +kernel, rfl⟩
theorem d15_187 : Dx method_2_code 187 (.bipush 14) 2 189 := ⟨by decide +kernel, rfl⟩
theorem d15_189 : Dx method_2_code 189 (.bipush 101) 2 191 := ⟨by decide +kernel, rfl⟩
theorem d15_191 : Dx method_2_code 191 (.castore) 1 192 := ⟨by decide +kernel, rfl⟩
theorem d15_192 : Dx method_2_code 192 (.dup) 1 193 := ⟨by decide +kernel, rfl⟩
theorem d15_193 : Dx method_2_code 193 (.bipush 15) 2 195 := ⟨by decide +kernel, rfl⟩
theorem d15_195 : Dx method_2_code 195 (.bipush 100) 2 197 := ⟨by decide +kernel, rfl⟩
theorem d15_197 : Dx method_2_code 197 (.castore) 1 198 := ⟨by decide +kernel, rfl⟩
theorem d15_198 : Dx method_2_code 198 (.areturn) 1 199 := ⟨by decide +kernel, rfl⟩
set_option maxRecDepth 65536 in
set_option maxHeartbeats 40000000 in
theorem c_custF {l : Launch} {Z : State} {a0 : Array Value} {EL : List (String × Nat)} {b : Bool} {n0 : Nat} (hw : ∀ d ∈ tables_1, d.before a0 Z = true) (ch : Int32) (hch : 0 ≤ ch.toInt ∧ ch.toInt ≤ 255) :
    Met l Z a0 EL b n0 (⟨"com/example/gyro/gyro/webhook/EventTypeParsePinLaw", "cust", "(ZC)[C"⟩ : MethodName) method_2_code 2 (some (.array .char)) [] (rm4 0 1 16 0) [.int 0, .int ch] [] [] (fun v D' S' => ∃ a, v = some (.ref a) ∧ D' = [(a, .inr (.char, L1.map Value.int))] ∧ S' = []) := by
  refine Met.of_go (own := "com/example/gyro/gyro/webhook/EventTypeParsePinLaw") (nm := "cust") (Ls := #[.val (.int 0), .val (.int ch)]) (plainFor_of_name png_6) (fun m => by first | rfl | (simp [entryFrame, mkF, argsToLocals, Value.category]; done)) ?_
  refine Go.iloadN d15_0 rfl (G := ?_)
  refine Go.ifc d15_1 (pc2 := 104) (Gy := fun _ => ?_) (Gn := fun h => absurd (show (0 : Int32) = 0 by decide) h)
  refine Go.bipush d15_104 (v := 16) rfl (G := ?_)
  refine Go.newarray d15_106 (hw _ (List.mem_of_getElem? (i := 7) rfl)) (k := 16) rfl (by decide) (by decide) (vs := [.int 0, .int 0, .int 0, .int 0, .int 0, .int 0, .int 0, .int 0, .int 0, .int 0, .int 0, .int 0, .int 0, .int 0, .int 0, .int 0]) rfl (G := fun o1 => ?_)
  refine Go.dup d15_108 (G := ?_)
  refine Go.iconst d15_109 (v := 0) rfl (G := ?_)
  refine Go.bipush d15_110 (v := 99) rfl (G := ?_)
  refine Go.castore d15_112 0 rfl (x' := 99) rfl (Nat.le_of_ble_eq_true rfl) (D' := [(o1, .inr (.char, [.int 99, .int 0, .int 0, .int 0, .int 0, .int 0, .int 0, .int 0, .int 0, .int 0, .int 0, .int 0, .int 0, .int 0, .int 0, .int 0]))]) rfl (G := ?_)
  refine Go.dup d15_113 (G := ?_)
  refine Go.iconst d15_114 (v := 1) rfl (G := ?_)
  refine Go.bipush d15_115 (v := 117) rfl (G := ?_)
  refine Go.castore d15_117 0 rfl (x' := 117) rfl (Nat.le_of_ble_eq_true rfl) (D' := [(o1, .inr (.char, [.int 99, .int 117, .int 0, .int 0, .int 0, .int 0, .int 0, .int 0, .int 0, .int 0, .int 0, .int 0, .int 0, .int 0, .int 0, .int 0]))]) rfl (G := ?_)
  refine Go.dup d15_118 (G := ?_)
  refine Go.iconst d15_119 (v := 2) rfl (G := ?_)
  refine Go.bipush d15_120 (v := 115) rfl (G := ?_)
  refine Go.castore d15_122 0 rfl (x' := 115) rfl (Nat.le_of_ble_eq_true rfl) (D' := [(o1, .inr (.char, [.int 99, .int 117, .int 115, .int 0, .int 0, .int 0, .int 0, .int 0, .int 0, .int 0, .int 0, .int 0, .int 0, .int 0, .int 0, .int 0]))]) rfl (G := ?_)
  refine Go.dup d15_123 (G := ?_)
  refine Go.iconst d15_124 (v := 3) rfl (G := ?_)
  refine Go.bipush d15_125 (v := 116) rfl (G := ?_)
  refine Go.castore d15_127 0 rfl (x' := 116) rfl (Nat.le_of_ble_eq_true rfl) (D' := [(o1, .inr (.char, [.int 99, .int 117, .int 115, .int 116, .int 0, .int 0, .int 0, .int 0, .int 0, .int 0, .int 0, .int 0, .int 0, .int 0, .int 0, .int 0]))]) rfl (G := ?_)
  refine Go.dup d15_128 (G := ?_)
  refine Go.iconst d15_129 (v := 4) rfl (G := ?_)
  refine Go.bipush d15_130 (v := 111) rfl (G := ?_)
  refine Go.castore d15_132 0 rfl (x' := 111) rfl (Nat.le_of_ble_eq_true rfl) (D' := [(o1, .inr (.char, [.int 99, .int 117, .int 115, .int 116, .int 111, .int 0, .int 0, .int 0, .int 0, .int 0, .int 0, .int 0, .int 0, .int 0, .int 0, .int 0]))]) rfl (G := ?_)
  refine Go.dup d15_133 (G := ?_)
  refine Go.iconst d15_134 (v := 5) rfl (G := ?_)
  refine Go.bipush d15_135 (v := 109) rfl (G := ?_)
  refine Go.castore d15_137 0 rfl (x' := 109) rfl (Nat.le_of_ble_eq_true rfl) (D' := [(o1, .inr (.char, [.int 99, .int 117, .int 115, .int 116, .int 111, .int 109, .int 0, .int 0, .int 0, .int 0, .int 0, .int 0, .int 0, .int 0, .int 0, .int 0]))]) rfl (G := ?_)
  refine Go.dup d15_138 (G := ?_)
  refine Go.bipush d15_139 (v := 6) rfl (G := ?_)
  refine Go.bipush d15_141 (v := 101) rfl (G := ?_)
  refine Go.castore d15_143 0 rfl (x' := 101) rfl (Nat.le_of_ble_eq_true rfl) (D' := [(o1, .inr (.char, [.int 99, .int 117, .int 115, .int 116, .int 111, .int 109, .int 101, .int 0, .int 0, .int 0, .int 0, .int 0, .int 0, .int 0, .int 0, .int 0]))]) rfl (G := ?_)
  refine Go.dup d15_144 (G := ?_)
  refine Go.bipush d15_145 (v := 7) rfl (G := ?_)
  refine Go.bipush d15_147 (v := 114) rfl (G := ?_)
  refine Go.castore d15_149 0 rfl (x' := 114) rfl (Nat.le_of_ble_eq_true rfl) (D' := [(o1, .inr (.char, [.int 99, .int 117, .int 115, .int 116, .int 111, .int 109, .int 101, .int 114, .int 0, .int 0, .int 0, .int 0, .int 0, .int 0, .int 0, .int 0]))]) rfl (G := ?_)
  refine Go.dup d15_150 (G := ?_)
  refine Go.bipush d15_151 (v := 8) rfl (G := ?_)
  refine Go.bipush d15_153 (v := 46) rfl (G := ?_)
  refine Go.castore d15_155 0 rfl (x' := 46) rfl (Nat.le_of_ble_eq_true rfl) (D' := [(o1, .inr (.char, [.int 99, .int 117, .int 115, .int 116, .int 111, .int 109, .int 101, .int 114, .int 46, .int 0, .int 0, .int 0, .int 0, .int 0, .int 0, .int 0]))]) rfl (G := ?_)
  refine Go.dup d15_156 (G := ?_)
  refine Go.bipush d15_157 (v := 9) rfl (G := ?_)
  refine Go.bipush d15_159 (v := 99) rfl (G := ?_)
  refine Go.castore d15_161 0 rfl (x' := 99) rfl (Nat.le_of_ble_eq_true rfl) (D' := [(o1, .inr (.char, [.int 99, .int 117, .int 115, .int 116, .int 111, .int 109, .int 101, .int 114, .int 46, .int 99, .int 0, .int 0, .int 0, .int 0, .int 0, .int 0]))]) rfl (G := ?_)
  refine Go.dup d15_162 (G := ?_)
  refine Go.bipush d15_163 (v := 10) rfl (G := ?_)
  refine Go.bipush d15_165 (v := 114) rfl (G := ?_)
  refine Go.castore d15_167 0 rfl (x' := 114) rfl (Nat.le_of_ble_eq_true rfl) (D' := [(o1, .inr (.char, [.int 99, .int 117, .int 115, .int 116, .int 111, .int 109, .int 101, .int 114, .int 46, .int 99, .int 114, .int 0, .int 0, .int 0, .int 0, .int 0]))]) rfl (G := ?_)
  refine Go.dup d15_168 (G := ?_)
  refine Go.bipush d15_169 (v := 11) rfl (G := ?_)
  refine Go.bipush d15_171 (v := 101) rfl (G := ?_)
  refine Go.castore d15_173 0 rfl (x' := 101) rfl (Nat.le_of_ble_eq_true rfl) (D' := [(o1, .inr (.char, [.int 99, .int 117, .int 115, .int 116, .int 111, .int 109, .int 101, .int 114, .int 46, .int 99, .int 114, .int 101, .int 0, .int 0, .int 0, .int 0]))]) rfl (G := ?_)
  refine Go.dup d15_174 (G := ?_)
  refine Go.bipush d15_175 (v := 12) rfl (G := ?_)
  refine Go.bipush d15_177 (v := 97) rfl (G := ?_)
  refine Go.castore d15_179 0 rfl (x' := 97) rfl (Nat.le_of_ble_eq_true rfl) (D' := [(o1, .inr (.char, [.int 99, .int 117, .int 115, .int 116, .int 111, .int 109, .int 101, .int 114, .int 46, .int 99, .int 114, .int 101, .int 97, .int 0, .int 0, .int 0]))]) rfl (G := ?_)
  refine Go.dup d15_180 (G := ?_)
  refine Go.bipush d15_181 (v := 13) rfl (G := ?_)
  refine Go.bipush d15_183 (v := 116) rfl (G := ?_)
  refine Go.castore d15_185 0 rfl (x' := 116) rfl (Nat.le_of_ble_eq_true rfl) (D' := [(o1, .inr (.char, [.int 99, .int 117, .int 115, .int 116, .int 111, .int 109, .int 101, .int 114, .int 46, .int 99, .int 114, .int 101, .int 97, .int 116, .int 0, .int 0]))]) rfl (G := ?_)
  refine Go.dup d15_186 (G := ?_)
  refine Go.bipush d15_187 (v := 14) rfl (G := ?_)
  refine Go.bipush d15_189 (v := 101) rfl (G := ?_)
  refine Go.castore d15_191 0 rfl (x' := 101) rfl (Nat.le_of_ble_eq_true rfl) (D' := [(o1, .inr (.char, [.int 99, .int 117, .int 115, .int 116, .int 111, .int 109, .int 101, .int 114, .int 46, .int 99, .int 114, .int 101, .int 97, .int 116, .int 101, .int 0]))]) rfl (G := ?_)
  refine Go.dup d15_192 (G := ?_)
  refine Go.bipush d15_193 (v := 15) rfl (G := ?_)
  refine Go.bipush d15_195 (v := 100) rfl (G := ?_)
  refine Go.castore d15_197 0 rfl (x' := 100) rfl (Nat.le_of_ble_eq_true rfl) (D' := [(o1, .inr (.char, [.int 99, .int 117, .int 115, .int 116, .int 111, .int 109, .int 101, .int 114, .int 46, .int 99, .int 114, .int 101, .int 97, .int 116, .int 101, .int 100]))]) rfl (G := ?_)
  exact Go.retA d15_198 ⟨o1, rfl, rfl, rfl⟩
set_option maxRecDepth 65536 in
set_option maxHeartbeats 40000000 in
theorem c_custT {l : Launch} {Z : State} {a0 : Array Value} {EL : List (String × Nat)} {b : Bool} {n0 : Nat} (hw : ∀ d ∈ tables_1, d.before a0 Z = true) (ch : Int32) (hch : 0 ≤ ch.toInt ∧ ch.toInt ≤ 255) :
    Met l Z a0 EL b n0 (⟨"com/example/gyro/gyro/webhook/EventTypeParsePinLaw", "cust", "(ZC)[C"⟩ : MethodName) method_2_code 2 (some (.array .char)) [] (rm4 0 1 17 0) [.int 1, .int ch] [] [] (fun v D' S' => ∃ a, v = some (.ref a) ∧ D' = [(a, .inr (.char, (L1 ++ [ch]).map Value.int))] ∧ S' = []) := by
  refine Met.of_go (own := "com/example/gyro/gyro/webhook/EventTypeParsePinLaw") (nm := "cust") (Ls := #[.val (.int 1), .val (.int ch)]) (plainFor_of_name png_6) (fun m => by first | rfl | (simp [entryFrame, mkF, argsToLocals, Value.category]; done)) ?_
  refine Go.iloadN d15_0 rfl (G := ?_)
  refine Go.ifc d15_1 (pc2 := 104) (Gy := fun h => absurd h (show ¬ ((1 : Int32) = 0) by decide)) (Gn := fun _ => ?_)
  refine Go.bipush d15_4 (v := 17) rfl (G := ?_)
  refine Go.newarray d15_6 (hw _ (List.mem_of_getElem? (i := 7) rfl)) (k := 17) rfl (by decide) (by decide) (vs := [.int 0, .int 0, .int 0, .int 0, .int 0, .int 0, .int 0, .int 0, .int 0, .int 0, .int 0, .int 0, .int 0, .int 0, .int 0, .int 0, .int 0]) rfl (G := fun o1 => ?_)
  refine Go.dup d15_8 (G := ?_)
  refine Go.iconst d15_9 (v := 0) rfl (G := ?_)
  refine Go.bipush d15_10 (v := 99) rfl (G := ?_)
  refine Go.castore d15_12 0 rfl (x' := 99) rfl (Nat.le_of_ble_eq_true rfl) (D' := [(o1, .inr (.char, [.int 99, .int 0, .int 0, .int 0, .int 0, .int 0, .int 0, .int 0, .int 0, .int 0, .int 0, .int 0, .int 0, .int 0, .int 0, .int 0, .int 0]))]) rfl (G := ?_)
  refine Go.dup d15_13 (G := ?_)
  refine Go.iconst d15_14 (v := 1) rfl (G := ?_)
  refine Go.bipush d15_15 (v := 117) rfl (G := ?_)
  refine Go.castore d15_17 0 rfl (x' := 117) rfl (Nat.le_of_ble_eq_true rfl) (D' := [(o1, .inr (.char, [.int 99, .int 117, .int 0, .int 0, .int 0, .int 0, .int 0, .int 0, .int 0, .int 0, .int 0, .int 0, .int 0, .int 0, .int 0, .int 0, .int 0]))]) rfl (G := ?_)
  refine Go.dup d15_18 (G := ?_)
  refine Go.iconst d15_19 (v := 2) rfl (G := ?_)
  refine Go.bipush d15_20 (v := 115) rfl (G := ?_)
  refine Go.castore d15_22 0 rfl (x' := 115) rfl (Nat.le_of_ble_eq_true rfl) (D' := [(o1, .inr (.char, [.int 99, .int 117, .int 115, .int 0, .int 0, .int 0, .int 0, .int 0, .int 0, .int 0, .int 0, .int 0, .int 0, .int 0, .int 0, .int 0, .int 0]))]) rfl (G := ?_)
  refine Go.dup d15_23 (G := ?_)
  refine Go.iconst d15_24 (v := 3) rfl (G := ?_)
  refine Go.bipush d15_25 (v := 116) rfl (G := ?_)
  refine Go.castore d15_27 0 rfl (x' := 116) rfl (Nat.le_of_ble_eq_true rfl) (D' := [(o1, .inr (.char, [.int 99, .int 117, .int 115, .int 116, .int 0, .int 0, .int 0, .int 0, .int 0, .int 0, .int 0, .int 0, .int 0, .int 0, .int 0, .int 0, .int 0]))]) rfl (G := ?_)
  refine Go.dup d15_28 (G := ?_)
  refine Go.iconst d15_29 (v := 4) rfl (G := ?_)
  refine Go.bipush d15_30 (v := 111) rfl (G := ?_)
  refine Go.castore d15_32 0 rfl (x' := 111) rfl (Nat.le_of_ble_eq_true rfl) (D' := [(o1, .inr (.char, [.int 99, .int 117, .int 115, .int 116, .int 111, .int 0, .int 0, .int 0, .int 0, .int 0, .int 0, .int 0, .int 0, .int 0, .int 0, .int 0, .int 0]))]) rfl (G := ?_)
  refine Go.dup d15_33 (G := ?_)
  refine Go.iconst d15_34 (v := 5) rfl (G := ?_)
  refine Go.bipush d15_35 (v := 109) rfl (G := ?_)
  refine Go.castore d15_37 0 rfl (x' := 109) rfl (Nat.le_of_ble_eq_true rfl) (D' := [(o1, .inr (.char, [.int 99, .int 117, .int 115, .int 116, .int 111, .int 109, .int 0, .int 0, .int 0, .int 0, .int 0, .int 0, .int 0, .int 0, .int 0, .int 0, .int 0]))]) rfl (G := ?_)
  refine Go.dup d15_38 (G := ?_)
  refine Go.bipush d15_39 (v := 6) rfl (G := ?_)
  refine Go.bipush d15_41 (v := 101) rfl (G := ?_)
  refine Go.castore d15_43 0 rfl (x' := 101) rfl (Nat.le_of_ble_eq_true rfl) (D' := [(o1, .inr (.char, [.int 99, .int 117, .int 115, .int 116, .int 111, .int 109, .int 101, .int 0, .int 0, .int 0, .int 0, .int 0, .int 0, .int 0, .int 0, .int 0, .int 0]))]) rfl (G := ?_)
  refine Go.dup d15_44 (G := ?_)
  refine Go.bipush d15_45 (v := 7) rfl (G := ?_)
  refine Go.bipush d15_47 (v := 114) rfl (G := ?_)
  refine Go.castore d15_49 0 rfl (x' := 114) rfl (Nat.le_of_ble_eq_true rfl) (D' := [(o1, .inr (.char, [.int 99, .int 117, .int 115, .int 116, .int 111, .int 109, .int 101, .int 114, .int 0, .int 0, .int 0, .int 0, .int 0, .int 0, .int 0, .int 0, .int 0]))]) rfl (G := ?_)
  refine Go.dup d15_50 (G := ?_)
  refine Go.bipush d15_51 (v := 8) rfl (G := ?_)
  refine Go.bipush d15_53 (v := 46) rfl (G := ?_)
  refine Go.castore d15_55 0 rfl (x' := 46) rfl (Nat.le_of_ble_eq_true rfl) (D' := [(o1, .inr (.char, [.int 99, .int 117, .int 115, .int 116, .int 111, .int 109, .int 101, .int 114, .int 46, .int 0, .int 0, .int 0, .int 0, .int 0, .int 0, .int 0, .int 0]))]) rfl (G := ?_)
  refine Go.dup d15_56 (G := ?_)
  refine Go.bipush d15_57 (v := 9) rfl (G := ?_)
  refine Go.bipush d15_59 (v := 99) rfl (G := ?_)
  refine Go.castore d15_61 0 rfl (x' := 99) rfl (Nat.le_of_ble_eq_true rfl) (D' := [(o1, .inr (.char, [.int 99, .int 117, .int 115, .int 116, .int 111, .int 109, .int 101, .int 114, .int 46, .int 99, .int 0, .int 0, .int 0, .int 0, .int 0, .int 0, .int 0]))]) rfl (G := ?_)
  refine Go.dup d15_62 (G := ?_)
  refine Go.bipush d15_63 (v := 10) rfl (G := ?_)
  refine Go.bipush d15_65 (v := 114) rfl (G := ?_)
  refine Go.castore d15_67 0 rfl (x' := 114) rfl (Nat.le_of_ble_eq_true rfl) (D' := [(o1, .inr (.char, [.int 99, .int 117, .int 115, .int 116, .int 111, .int 109, .int 101, .int 114, .int 46, .int 99, .int 114, .int 0, .int 0, .int 0, .int 0, .int 0, .int 0]))]) rfl (G := ?_)
  refine Go.dup d15_68 (G := ?_)
  refine Go.bipush d15_69 (v := 11) rfl (G := ?_)
  refine Go.bipush d15_71 (v := 101) rfl (G := ?_)
  refine Go.castore d15_73 0 rfl (x' := 101) rfl (Nat.le_of_ble_eq_true rfl) (D' := [(o1, .inr (.char, [.int 99, .int 117, .int 115, .int 116, .int 111, .int 109, .int 101, .int 114, .int 46, .int 99, .int 114, .int 101, .int 0, .int 0, .int 0, .int 0, .int 0]))]) rfl (G := ?_)
  refine Go.dup d15_74 (G := ?_)
  refine Go.bipush d15_75 (v := 12) rfl (G := ?_)
  refine Go.bipush d15_77 (v := 97) rfl (G := ?_)
  refine Go.castore d15_79 0 rfl (x' := 97) rfl (Nat.le_of_ble_eq_true rfl) (D' := [(o1, .inr (.char, [.int 99, .int 117, .int 115, .int 116, .int 111, .int 109, .int 101, .int 114, .int 46, .int 99, .int 114, .int 101, .int 97, .int 0, .int 0, .int 0, .int 0]))]) rfl (G := ?_)
  refine Go.dup d15_80 (G := ?_)
  refine Go.bipush d15_81 (v := 13) rfl (G := ?_)
  refine Go.bipush d15_83 (v := 116) rfl (G := ?_)
  refine Go.castore d15_85 0 rfl (x' := 116) rfl (Nat.le_of_ble_eq_true rfl) (D' := [(o1, .inr (.char, [.int 99, .int 117, .int 115, .int 116, .int 111, .int 109, .int 101, .int 114, .int 46, .int 99, .int 114, .int 101, .int 97, .int 116, .int 0, .int 0, .int 0]))]) rfl (G := ?_)
  refine Go.dup d15_86 (G := ?_)
  refine Go.bipush d15_87 (v := 14) rfl (G := ?_)
  refine Go.bipush d15_89 (v := 101) rfl (G := ?_)
  refine Go.castore d15_91 0 rfl (x' := 101) rfl (Nat.le_of_ble_eq_true rfl) (D' := [(o1, .inr (.char, [.int 99, .int 117, .int 115, .int 116, .int 111, .int 109, .int 101, .int 114, .int 46, .int 99, .int 114, .int 101, .int 97, .int 116, .int 101, .int 0, .int 0]))]) rfl (G := ?_)
  refine Go.dup d15_92 (G := ?_)
  refine Go.bipush d15_93 (v := 15) rfl (G := ?_)
  refine Go.bipush d15_95 (v := 100) rfl (G := ?_)
  refine Go.castore d15_97 0 rfl (x' := 100) rfl (Nat.le_of_ble_eq_true rfl) (D' := [(o1, .inr (.char, [.int 99, .int 117, .int 115, .int 116, .int 111, .int 109, .int 101, .int 114, .int 46, .int 99, .int 114, .int 101, .int 97, .int 116, .int 101, .int 100, .int 0]))]) rfl (G := ?_)
  refine Go.dup d15_98 (G := ?_)
  refine Go.bipush d15_99 (v := 16) rfl (G := ?_)
  refine Go.iloadN d15_101 rfl (G := ?_)
  refine Go.castore d15_102 0 rfl (x' := ch) (nc_of hch) (Nat.le_of_ble_eq_true rfl) (D' := [(o1, .inr (.char, [.int 99, .int 117, .int 115, .int 116, .int 111, .int 109, .int 101, .int 114, .int 46, .int 99, .int 114, .int 101, .int 97, .int 116, .int 101, .int 100, .int ch]))]) rfl (G := ?_)
  exact Go.retA d15_103 ⟨o1, rfl, rfl, rfl⟩
theorem d16_0 : Dx method_3_code 0 (.iload_n 0) 1 1 := ⟨by decide +kernel, rfl⟩
theorem d16_1 : Dx method_3_code 1 (.ifCond .eq 139) 3 4 := ⟨by decide +kernel, rfl⟩
theorem d16_4 : Dx method_3_code 4 (.bipush 23) 2 6 := ⟨by decide +kernel, rfl⟩
theorem d16_6 : Dx method_3_code 6 (.newarray .char) 2 8 := ⟨by decide +kernel, rfl⟩
theorem d16_8 : Dx method_3_code 8 (.dup) 1 9 := ⟨by decide +kernel, rfl⟩
theorem d16_9 : Dx method_3_code 9 (.iconst 0) 1 10 := ⟨by decide +kernel, rfl⟩
theorem d16_10 : Dx method_3_code 10 (.bipush 115) 2 12 := ⟨by decide +kernel, rfl⟩
theorem d16_12 : Dx method_3_code 12 (.castore) 1 13 := ⟨by decide +kernel, rfl⟩
theorem d16_13 : Dx method_3_code 13 (.dup) 1 14 := ⟨by decide +kernel, rfl⟩
theorem d16_14 : Dx method_3_code 14 (.iconst 1) 1 15 := ⟨by decide +kernel, rfl⟩
theorem d16_15 : Dx method_3_code 15 (.bipush 117) 2 17 := ⟨by decide +kernel, rfl⟩
theorem d16_17 : Dx method_3_code 17 (.castore) 1 18 := ⟨by decide +kernel, rfl⟩
theorem d16_18 : Dx method_3_code 18 (.dup) 1 19 := ⟨by decide +kernel, rfl⟩
theorem d16_19 : Dx method_3_code 19 (.iconst 2) 1 20 := ⟨by decide +kernel, rfl⟩
theorem d16_20 : Dx method_3_code 20 (.bipush 98) 2 22 := ⟨by decide +kernel, rfl⟩
theorem d16_22 : Dx method_3_code 22 (.castore) 1 23 := ⟨by decide +kernel, rfl⟩
theorem d16_23 : Dx method_3_code 23 (.dup) 1 24 := ⟨by decide +kernel, rfl⟩
theorem d16_24 : Dx method_3_code 24 (.iconst 3) 1 25 := ⟨by decide +kernel, rfl⟩
theorem d16_25 : Dx method_3_code 25 (.bipush 115) 2 27 := ⟨by decide +kernel, rfl⟩
theorem d16_27 : Dx method_3_code 27 (.castore) 1 28 := ⟨by decide +kernel, rfl⟩
theorem d16_28 : Dx method_3_code 28 (.dup) 1 29 := ⟨by decide +kernel, rfl⟩
theorem d16_29 : Dx method_3_code 29 (.iconst 4) 1 30 := ⟨by decide +kernel, rfl⟩
theorem d16_30 : Dx method_3_code 30 (.bipush 99) 2 32 := ⟨by decide +kernel, rfl⟩
theorem d16_32 : Dx method_3_code 32 (.castore) 1 33 := ⟨by decide +kernel, rfl⟩
theorem d16_33 : Dx method_3_code 33 (.dup) 1 34 := ⟨by decide +kernel, rfl⟩
theorem d16_34 : Dx method_3_code 34 (.iconst 5) 1 35 := ⟨by decide +kernel, rfl⟩
theorem d16_35 : Dx method_3_code 35 (.bipush 114) 2 37 := ⟨by decide +kernel, rfl⟩
theorem d16_37 : Dx method_3_code 37 (.castore) 1 38 := ⟨by decide +kernel, rfl⟩
theorem d16_38 : Dx method_3_code 38 (.dup) 1 39 := ⟨by decide +kernel, rfl⟩
theorem d16_39 : Dx method_3_code 39 (.bipush 6) 2 41 := ⟨by decide +kernel, rfl⟩
theorem d16_41 : Dx method_3_code 41 (.bipush 105) 2 43 := ⟨by decide +kernel, rfl⟩
theorem d16_43 : Dx method_3_code 43 (.castore) 1 44 := ⟨by decide +kernel, rfl⟩
theorem d16_44 : Dx method_3_code 44 (.dup) 1 45 := ⟨by decide +kernel, rfl⟩
theorem d16_45 : Dx method_3_code 45 (.bipush 7) 2 47 := ⟨by decide +kernel, rfl⟩
theorem d16_47 : Dx method_3_code 47 (.bipush 112) 2 49 := ⟨by decide +kernel, rfl⟩
theorem d16_49 : Dx method_3_code 49 (.castore) 1 50 := ⟨by decide +kernel, rfl⟩
theorem d16_50 : Dx method_3_code 50 (.dup) 1 51 := ⟨by decide +kernel, rfl⟩
theorem d16_51 : Dx method_3_code 51 (.bipush 8) 2 53 := ⟨by decide +kernel, rfl⟩
theorem d16_53 : Dx method_3_code 53 (.bipush 116) 2 55 := ⟨by decide +kernel, rfl⟩
theorem d16_55 : Dx method_3_code 55 (.castore) 1 56 := ⟨by decide +kernel, rfl⟩
theorem d16_56 : Dx method_3_code 56 (.dup) 1 57 := ⟨by decide +kernel, rfl⟩
theorem d16_57 : Dx method_3_code 57 (.bipush 9) 2 59 := ⟨by decide +kernel, rfl⟩
theorem d16_59 : Dx method_3_code 59 (.bipush 105) 2 61 := ⟨by decide +kernel, rfl⟩
theorem d16_61 : Dx method_3_code 61 (.castore) 1 62 := ⟨by decide +kernel, rfl⟩
theorem d16_62 : Dx method_3_code 62 (.dup) 1 63 := ⟨by decide +kernel, rfl⟩
theorem d16_63 : Dx method_3_code 63 (.bipush 10) 2 65 := ⟨by decide +kernel, rfl⟩
theorem d16_65 : Dx method_3_code 65 (.bipush 111) 2 67 := ⟨by decide +kernel, rfl⟩
theorem d16_67 : Dx method_3_code 67 (.castore) 1 68 := ⟨by decide +kernel, rfl⟩
theorem d16_68 : Dx method_3_code 68 (.dup) 1 69 := ⟨by decide +kernel, rfl⟩
theorem d16_69 : Dx method_3_code 69 (.bipush 11) 2 71 := ⟨by decide +kernel, rfl⟩
theorem d16_71 : Dx method_3_code 71 (.bipush 110) 2 73 := ⟨by decide +kernel, rfl⟩
theorem d16_73 : Dx method_3_code 73 (.castore) 1 74 := ⟨by decide +kernel, rfl⟩
theorem d16_74 : Dx method_3_code 74 (.dup) 1 75 := ⟨by decide +kernel, rfl⟩
theorem d16_75 : Dx method_3_code 75 (.bipush 12) 2 77 := ⟨by decide +kernel, rfl⟩
theorem d16_77 : Dx method_3_code 77 (.bipush 46) 2 79 := ⟨by decide +kernel, rfl⟩
theorem d16_79 : Dx method_3_code 79 (.castore) 1 80 := ⟨by decide +kernel, rfl⟩
theorem d16_80 : Dx method_3_code 80 (.dup) 1 81 := ⟨by decide +kernel, rfl⟩
theorem d16_81 : Dx method_3_code 81 (.bipush 13) 2 83 := ⟨by decide +kernel, rfl⟩
theorem d16_83 : Dx method_3_code 83 (.bipush 97) 2 85 := ⟨by decide +kernel, rfl⟩
theorem d16_85 : Dx method_3_code 85 (.castore) 1 86 := ⟨by decide +kernel, rfl⟩
theorem d16_86 : Dx method_3_code 86 (.dup) 1 87 := ⟨by decide +kernel, rfl⟩
theorem d16_87 : Dx method_3_code 87 (.bipush 14) 2 89 := ⟨by decide +kernel, rfl⟩
theorem d16_89 : Dx method_3_code 89 (.bipush 99) 2 91 := ⟨by decide +kernel, rfl⟩
theorem d16_91 : Dx method_3_code 91 (.castore) 1 92 := ⟨by decide +kernel, rfl⟩
theorem d16_92 : Dx method_3_code 92 (.dup) 1 93 := ⟨by decide +kernel, rfl⟩
theorem d16_93 : Dx method_3_code 93 (.bipush 15) 2 95 := ⟨by decide +kernel, rfl⟩
theorem d16_95 : Dx method_3_code 95 (.bipush 116) 2 97 := ⟨by decide +kernel, rfl⟩
theorem d16_97 : Dx method_3_code 97 (.castore) 1 98 := ⟨by decide +kernel, rfl⟩
theorem d16_98 : Dx method_3_code 98 (.dup) 1 99 := ⟨by decide +kernel, rfl⟩
theorem d16_99 : Dx method_3_code 99 (.bipush 16) 2 101 := ⟨by decide +kernel, rfl⟩
theorem d16_101 : Dx method_3_code 101 (.bipush 105) 2 103 := ⟨by decide +kernel, rfl⟩
theorem d16_103 : Dx method_3_code 103 (.castore) 1 104 := ⟨by decide +kernel, rfl⟩
theorem d16_104 : Dx method_3_code 104 (.dup) 1 105 := ⟨by decide +kernel, rfl⟩
theorem d16_105 : Dx method_3_code 105 (.bipush 17) 2 107 := ⟨by decide +kernel, rfl⟩
theorem d16_107 : Dx method_3_code 107 (.bipush 118) 2 109 := ⟨by decide +kernel, rfl⟩
theorem d16_109 : Dx method_3_code 109 (.castore) 1 110 := ⟨by decide +kernel, rfl⟩
theorem d16_110 : Dx method_3_code 110 (.dup) 1 111 := ⟨by decide +kernel, rfl⟩
theorem d16_111 : Dx method_3_code 111 (.bipush 18) 2 113 := ⟨by decide +kernel, rfl⟩
theorem d16_113 : Dx method_3_code 113 (.bipush 97) 2 115 := ⟨by decide +kernel, rfl⟩
theorem d16_115 : Dx method_3_code 115 (.castore) 1 116 := ⟨by decide +kernel, rfl⟩
theorem d16_116 : Dx method_3_code 116 (.dup) 1 117 := ⟨by decide +kernel, rfl⟩
theorem d16_117 : Dx method_3_code 117 (.bipush 19) 2 119 := ⟨by decide +kernel, rfl⟩
theorem d16_119 : Dx method_3_code 119 (.bipush 116) 2 121 := ⟨by decide +kernel, rfl⟩
theorem d16_121 : Dx method_3_code 121 (.castore) 1 122 := ⟨by decide +kernel, rfl⟩
theorem d16_122 : Dx method_3_code 122 (.dup) 1 123 := ⟨by decide +kernel, rfl⟩
theorem d16_123 : Dx method_3_code 123 (.bipush 20) 2 125 := ⟨by decide +kernel, rfl⟩
theorem d16_125 : Dx method_3_code 125 (.bipush 101) 2 127 := ⟨by decide +kernel, rfl⟩
theorem d16_127 : Dx method_3_code 127 (.castore) 1 128 := ⟨by decide +kernel, rfl⟩
theorem d16_128 : Dx method_3_code 128 (.dup) 1 129 := ⟨by decide +kernel, rfl⟩
theorem d16_129 : Dx method_3_code 129 (.bipush 21) 2 131 := ⟨by decide +kernel, rfl⟩
theorem d16_131 : Dx method_3_code 131 (.bipush 100) 2 133 := ⟨by decide +kernel, rfl⟩
theorem d16_133 : Dx method_3_code 133 (.castore) 1 134 := ⟨by decide +kernel, rfl⟩
theorem d16_134 : Dx method_3_code 134 (.dup) 1 135 := ⟨by decide +kernel, rfl⟩
theorem d16_135 : Dx method_3_code 135 (.bipush 22) 2 137 := ⟨by decide +kernel, rfl⟩
theorem d16_137 : Dx method_3_code 137 (.iload_n 1) 1 138 := ⟨by decide +kernel, rfl⟩
theorem d16_138 : Dx method_3_code 138 (.castore) 1 139 := ⟨by decide +kernel, rfl⟩
theorem d16_139 : Dx method_3_code 139 (.areturn) 1 140 := ⟨by decide +kernel, rfl⟩
theorem d16_140 : Dx method_3_code 140 (.bipush 22) 2 142 := ⟨by decide +kernel, rfl⟩
theorem d16_142 : Dx method_3_code 142 (.newarray .char) 2 144 := ⟨by decide +kernel, rfl⟩
theorem d16_144 : Dx method_3_code 144 (.dup) 1 145 := ⟨by decide +kernel, rfl⟩
theorem d16_145 : Dx method_3_code 145 (.iconst 0) 1 146 := ⟨by decide +kernel, rfl⟩
theorem d16_146 : Dx method_3_code 146 (.bipush 115) 2 148 := ⟨by decide +kernel, rfl⟩
theorem d16_148 : Dx method_3_code 148 (.castore) 1 149 := ⟨by decide +kernel, rfl⟩
theorem d16_149 : Dx method_3_code 149 (.dup) 1 150 := ⟨by decide +kernel, rfl⟩
theorem d16_150 : Dx method_3_code 150 (.iconst 1) 1 151 := ⟨by decide +kernel, rfl⟩
theorem d16_151 : Dx method_3_code 151 (.bipush 117) 2 153 := ⟨by decide +kernel, rfl⟩
theorem d16_153 : Dx method_3_code 153 (.castore) 1 154 := ⟨by decide +kernel, rfl⟩
theorem d16_154 : Dx method_3_code 154 (.dup) 1 155 := ⟨by decide +kernel, rfl⟩
theorem d16_155 : Dx method_3_code 155 (.iconst 2) 1 156 := ⟨by decide +kernel, rfl⟩
theorem d16_156 : Dx method_3_code 156 (.bipush 98) 2 158 := ⟨by decide +kernel, rfl⟩
theorem d16_158 : Dx method_3_code 158 (.castore) 1 159 := ⟨by decide +kernel, rfl⟩
theorem d16_159 : Dx method_3_code 159 (.dup) 1 160 := ⟨by decide +kernel, rfl⟩
theorem d16_160 : Dx method_3_code 160 (.iconst 3) 1 161 := ⟨by decide +kernel, rfl⟩
theorem d16_161 : Dx method_3_code 161 (.bipush 115) 2 163 := ⟨by decide +kernel, rfl⟩
theorem d16_163 : Dx method_3_code 163 (.castore) 1 164 := ⟨by decide +kernel, rfl⟩
theorem d16_164 : Dx method_3_code 164 (.dup) 1 165 := ⟨by decide +kernel, rfl⟩
theorem d16_165 : Dx method_3_code 165 (.iconst 4) 1 166 := ⟨by decide +kernel, rfl⟩
theorem d16_166 : Dx method_3_code 166 (.bipush 99) 2 168 := ⟨by decide +kernel, rfl⟩
theorem d16_168 : Dx method_3_code 168 (.castore) 1 169 := ⟨by decide +kernel, rfl⟩
theorem d16_169 : Dx method_3_code 169 (.dup) 1 170 := ⟨by decide +kernel, rfl⟩
theorem d16_170 : Dx method_3_code 170 (.iconst 5) 1 171 := ⟨by decide +kernel, rfl⟩
theorem d16_171 : Dx method_3_code 171 (.bipush 114) 2 173 := ⟨by decide +kernel, rfl⟩
theorem d16_173 : Dx method_3_code 173 (.castore) 1 174 := ⟨by decide +kernel, rfl⟩
theorem d16_174 : Dx method_3_code 174 (.dup) 1 175 := ⟨by decide +kernel, rfl⟩
theorem d16_175 : Dx method_3_code 175 (.bipush 6) 2 177 := ⟨by decide +kernel, rfl⟩
theorem d16_177 : Dx method_3_code 177 (.bipush 105) 2 179 := ⟨by decide +kernel, rfl⟩
theorem d16_179 : Dx method_3_code 179 (.castore) 1 180 := ⟨by decide +kernel, rfl⟩
theorem d16_180 : Dx method_3_code 180 (.dup) 1 181 := ⟨by decide +kernel, rfl⟩
theorem d16_181 : Dx method_3_code 181 (.bipush 7) 2 183 := ⟨by decide +kernel, rfl⟩
theorem d16_183 : Dx method_3_code 183 (.bipush 112) 2 185 := ⟨by decide +kernel, rfl⟩
theorem d16_185 : Dx method_3_code 185 (.castore) 1 186 := ⟨by decide +kernel, rfl⟩
theorem d16_186 : Dx method_3_code 186 (.dup) 1 187 := ⟨by decide +kernel, rfl⟩
theorem d16_187 : Dx method_3_code 187 (.bipush 8) 2 189 := ⟨by decide +kernel, rfl⟩
theorem d16_189 : Dx method_3_code 189 (.bipush 116) 2 191 := ⟨by decide +kernel, rfl⟩
theorem d16_191 : Dx method_3_code 191 (.castore) 1 192 := ⟨by decide +kernel, rfl⟩
theorem d16_192 : Dx method_3_code 192 (.dup) 1 193 := ⟨by decide +kernel, rfl⟩
theorem d16_193 : Dx method_3_code 193 (.bipush 9) 2 195 := ⟨by decide +kernel, rfl⟩
theorem d16_195 : Dx method_3_code 195 (.bipush 105) 2 197 := ⟨by decide +kernel, rfl⟩
theorem d16_197 : Dx method_3_code 197 (.castore) 1 198 := ⟨by decide +kernel, rfl⟩
theorem d16_198 : Dx method_3_code 198 (.dup) 1 199 := ⟨by decide +kernel, rfl⟩
theorem d16_199 : Dx method_3_code 199 (.bipush 10) 2 201 := ⟨by decide +kernel, rfl⟩
theorem d16_201 : Dx method_3_code 201 (.bipush 111) 2 203 := ⟨by decide +kernel, rfl⟩
theorem d16_203 : Dx method_3_code 203 (.castore) 1 204 := ⟨by decide +kernel, rfl⟩
theorem d16_204 : Dx method_3_code 204 (.dup) 1 205 := ⟨by decide +kernel, rfl⟩
theorem d16_205 : Dx method_3_code 205 (.bipush 11) 2 207 := ⟨by decide +kernel, rfl⟩
theorem d16_207 : Dx method_3_code 207 (.bipush 110) 2 209 := ⟨by decide +kernel, rfl⟩
theorem d16_209 : Dx method_3_code 209 (.castore) 1 210 := ⟨by decide +kernel, rfl⟩
theorem d16_210 : Dx method_3_code 210 (.dup) 1 211 := ⟨by decide +kernel, rfl⟩
theorem d16_211 : Dx method_3_code 211 (.bipush 12) 2 213 := ⟨by decide +kernel, rfl⟩
theorem d16_213 : Dx method_3_code 213 (.bipush 46) 2 215 := ⟨by decide +kernel, rfl⟩
theorem d16_215 : Dx method_3_code 215 (.castore) 1 216 := ⟨by decide +kernel, rfl⟩
theorem d16_216 : Dx method_3_code 216 (.dup) 1 217 := ⟨by decide +kernel, rfl⟩
theorem d16_217 : Dx method_3_code 217 (.bipush 13) 2 219 := ⟨by decide +kernel, rfl⟩
theorem d16_219 : Dx method_3_code 219 (.bipush 97) 2 221 := ⟨by decide +kernel, rfl⟩
theorem d16_221 : Dx method_3_code 221 (.castore) 1 222 := ⟨by decide +kernel, rfl⟩
theorem d16_222 : Dx method_3_code 222 (.dup) 1 223 := ⟨by decide +kernel, rfl⟩
theorem d16_223 : Dx method_3_code 223 (.bipush 14) 2 225 := ⟨by decide +kernel, rfl⟩
theorem d16_225 : Dx method_3_code 225 (.bipush 99) 2 227 := ⟨by decide +kernel, rfl⟩
theorem d16_227 : Dx method_3_code 227 (.castore) 1 228 := ⟨by decide +kernel, rfl⟩
theorem d16_228 : Dx method_3_code 228 (.dup) 1 229 := ⟨by decide +kernel, rfl⟩
theorem d16_229 : Dx method_3_code 229 (.bipush 15) 2 231 := ⟨by decide +kernel, rfl⟩
theorem d16_231 : Dx method_3_code 231 (.bipush 116) 2 233 := ⟨by decide +kernel, rfl⟩
theorem d16_233 : Dx method_3_code 233 (.castore) 1 234 := ⟨by decide +kernel, rfl⟩
theorem d16_234 : Dx method_3_code 234 (.dup) 1 235 := ⟨by decide +kernel, rfl⟩
theorem d16_235 : Dx method_3_code 235 (.bipush 16) 2 237 := ⟨by decide +kernel, rfl⟩
theorem d16_237 : Dx method_3_code 237 (.bipush 105) 2 239 := ⟨by decide +kernel, rfl⟩
theorem d16_239 : Dx method_3_code 239 (.castore) 1 240 := ⟨by decide +kernel, rfl⟩
theorem d16_240 : Dx method_3_code 240 (.dup) 1 241 := ⟨by decide +kernel, rfl⟩
theorem d16_241 : Dx method_3_code 241 (.bipush 17) 2 243 := ⟨by decide +kernel, rfl⟩
theorem d16_243 : Dx method_3_code 243 (.bipush 118) 2 245 := ⟨by decide +kernel, rfl⟩
theorem d16_245 : Dx method_3_code 245 (.castore) 1 246 := ⟨by decide +kernel, rfl⟩
theorem d16_246 : Dx method_3_code 246 (.dup) 1 247 := ⟨by decide +kernel, rfl⟩
theorem d16_247 : Dx method_3_code 247 (.bipush 18) 2 249 := ⟨by decide +kernel, rfl⟩
theorem d16_249 : Dx method_3_code 249 (.bipush 97) 2 251 := ⟨by decide +kernel, rfl⟩
theorem d16_251 : Dx method_3_code 251 (.castore) 1 252 := ⟨by decide +kernel, rfl⟩
theorem d16_252 : Dx method_3_code 252 (.dup) 1 253 := ⟨by decide +kernel, rfl⟩
theorem d16_253 : Dx method_3_code 253 (.bipush 19) 2 255 := ⟨by decide +kernel, rfl⟩
theorem d16_255 : Dx method_3_code 255 (.bipush 116) 2 257 := ⟨by decide +kernel, rfl⟩
theorem d16_257 : Dx method_3_code 257 (.castore) 1 258 := ⟨by decide +kernel, rfl⟩
theorem d16_258 : Dx method_3_code 258 (.dup) 1 259 := ⟨by decide +kernel, rfl⟩
theorem d16_259 : Dx method_3_code 259 (.bipush 20) 2 261 := ⟨by decide +kernel, rfl⟩
theorem d16_261 : Dx method_3_code 261 (.bipush 101) 2 263 := ⟨by decide +kernel, rfl⟩
theorem d16_263 : Dx method_3_code 263 (.castore) 1 264 := ⟨by decide +kernel, rfl⟩
theorem d16_264 : Dx method_3_code 264 (.dup) 1 265 := ⟨by decide +kernel, rfl⟩
theorem d16_265 : Dx method_3_code 265 (.bipush 21) 2 267 := ⟨by decide +kernel, rfl⟩
theorem d16_267 : Dx method_3_code 267 (.bipush 100) 2 269 := ⟨by decide +kernel, rfl⟩
theorem d16_269 : Dx method_3_code 269 (.castore) 1 270 := ⟨by decide +kernel, rfl⟩
theorem d16_270 : Dx method_3_code 270 (.areturn) 1 271 := ⟨by decide +kernel, rfl⟩
set_option maxRecDepth 65536 in
set_option maxHeartbeats 40000000 in
theorem c_subsF {l : Launch} {Z : State} {a0 : Array Value} {EL : List (String × Nat)} {b : Bool} {n0 : Nat} (hw : ∀ d ∈ tables_1, d.before a0 Z = true) (ch : Int32) (hch : 0 ≤ ch.toInt ∧ ch.toInt ≤ 255) :
    Met l Z a0 EL b n0 (⟨"com/example/gyro/gyro/webhook/EventTypeParsePinLaw", "subs", "(ZC)[C"⟩ : MethodName) method_3_code 2 (some (.array .char)) [] (rm4 0 1 22 0) [.int 0, .int ch] [] [] (fun v D' S' => ∃ a, v = some (.ref a) ∧ D' = [(a, .inr (.char, L2.map Value.int))] ∧ S' = []) := by
  refine Met.of_go (own := "com/example/gyro/gyro/webhook/EventTypeParsePinLaw") (nm := "subs") (Ls := #[.val (.int 0), .val (.int ch)]) (plainFor_of_name png_6) (fun m => by first | rfl | (simp [entryFrame, mkF, argsToLocals, Value.category]; done)) ?_
  refine Go.iloadN d16_0 rfl (G := ?_)
  refine Go.ifc d16_1 (pc2 := 140) (Gy := fun _ => ?_) (Gn := fun h => absurd (show (0 : Int32) = 0 by decide) h)
  refine Go.bipush d16_140 (v := 22) rfl (G := ?_)
  refine Go.newarray d16_142 (hw _ (List.mem_of_getElem? (i := 7) rfl)) (k := 22) rfl (by decide) (by decide) (vs := [.int 0, .int 0, .int 0, .int 0, .int 0, .int 0, .int 0, .int 0, .int 0, .int 0, .int 0, .int 0, .int 0, .int 0, .int 0, .int 0, .int 0, .int 0, .int 0, .int 0, .int 0, .int 0]) rfl (G := fun o1 => ?_)
  refine Go.dup d16_144 (G := ?_)
  refine Go.iconst d16_145 (v := 0) rfl (G := ?_)
  refine Go.bipush d16_146 (v := 115) rfl (G := ?_)
  refine Go.castore d16_148 0 rfl (x' := 115) rfl (Nat.le_of_ble_eq_true rfl) (D' := [(o1, .inr (.char, [.int 115, .int 0, .int 0, .int 0, .int 0, .int 0, .int 0, .int 0, .int 0, .int 0, .int 0, .int 0, .int 0, .int 0, .int 0, .int 0, .int 0, .int 0, .int 0, .int 0, .int 0, .int 0]))]) rfl (G := ?_)
  refine Go.dup d16_149 (G := ?_)
  refine Go.iconst d16_150 (v := 1) rfl (G := ?_)
  refine Go.bipush d16_151 (v := 117) rfl (G := ?_)
  refine Go.castore d16_153 0 rfl (x' := 117) rfl (Nat.le_of_ble_eq_true rfl) (D' := [(o1, .inr (.char, [.int 115, .int 117, .int 0, .int 0, .int 0, .int 0, .int 0, .int 0, .int 0, .int 0, .int 0, .int 0, .int 0, .int 0, .int 0, .int 0, .int 0, .int 0, .int 0, .int 0, .int 0, .int 0]))]) rfl (G := ?_)
  refine Go.dup d16_154 (G := ?_)
  refine Go.iconst d16_155 (v := 2) rfl (G := ?_)
  refine Go.bipush d16_156 (v := 98) rfl (G := ?_)
  refine Go.castore d16_158 0 rfl (x' := 98) rfl (Nat.le_of_ble_eq_true rfl) (D' := [(o1, .inr (.char, [.int 115, .int 117, .int 98, .int 0, .int 0, .int 0, .int 0, .int 0, .int 0, .int 0, .int 0, .int 0, .int 0, .int 0, .int 0, .int 0, .int 0, .int 0, .int 0, .int 0, .int 0, .int 0]))]) rfl (G := ?_)
  refine Go.dup d16_159 (G := ?_)
  refine Go.iconst d16_160 (v := 3) rfl (G := ?_)
  refine Go.bipush d16_161 (v := 115) rfl (G := ?_)
  refine Go.castore d16_163 0 rfl (x' := 115) rfl (Nat.le_of_ble_eq_true rfl) (D' := [(o1, .inr (.char, [.int 115, .int 117, .int 98, .int 115, .int 0, .int 0, .int 0, .int 0, .int 0, .int 0, .int 0, .int 0, .int 0, .int 0, .int 0, .int 0, .int 0, .int 0, .int 0, .int 0, .int 0, .int 0]))]) rfl (G := ?_)
  refine Go.dup d16_164 (G := ?_)
  refine Go.iconst d16_165 (v := 4) rfl (G := ?_)
  refine Go.bipush d16_166 (v := 99) rfl (G := ?_)
  refine Go.castore d16_168 0 rfl (x' := 99) rfl (Nat.le_of_ble_eq_true rfl) (D' := [(o1, .inr (.char, [.int 115, .int 117, .int 98, .int 115, .int 99, .int 0, .int 0, .int 0, .int 0, .int 0, .int 0, .int 0, .int 0, .int 0, .int 0, .int 0, .int 0, .int 0, .int 0, .int 0, .int 0, .int 0]))]) rfl (G := ?_)
  refine Go.dup d16_169 (G := ?_)
  refine Go.iconst d16_170 (v := 5) rfl (G := ?_)
  refine Go.bipush d16_171 (v := 114) rfl (G := ?_)
  refine Go.castore d16_173 0 rfl (x' := 114) rfl (Nat.le_of_ble_eq_true rfl) (D' := [(o1, .inr (.char, [.int 115, .int 117, .int 98, .int 115, .int 99, .int 114, .int 0, .int 0, .int 0, .int 0, .int 0, .int 0, .int 0, .int 0, .int 0, .int 0, .int 0, .int 0, .int 0, .int 0, .int 0, .int 0]))]) rfl (G := ?_)
  refine Go.dup d16_174 (G := ?_)
  refine Go.bipush d16_175 (v := 6) rfl (G := ?_)
  refine Go.bipush d16_177 (v := 105) rfl (G := ?_)
  refine Go.castore d16_179 0 rfl (x' := 105) rfl (Nat.le_of_ble_eq_true rfl) (D' := [(o1, .inr (.char, [.int 115, .int 117, .int 98, .int 115, .int 99, .int 114, .int 105, .int 0, .int 0, .int 0, .int 0, .int 0, .int 0, .int 0, .int 0, .int 0, .int 0, .int 0, .int 0, .int 0, .int 0, .int 0]))]) rfl (G := ?_)
  refine Go.dup d16_180 (G := ?_)
  refine Go.bipush d16_181 (v := 7) rfl (G := ?_)
  refine Go.bipush d16_183 (v := 112) rfl (G := ?_)
  refine Go.castore d16_185 0 rfl (x' := 112) rfl (Nat.le_of_ble_eq_true rfl) (D' := [(o1, .inr (.char, [.int 115, .int 117, .int 98, .int 115, .int 99, .int 114, .int 105, .int 112, .int 0, .int 0, .int 0, .int 0, .int 0, .int 0, .int 0, .int 0, .int 0, .int 0, .int 0, .int 0, .int 0, .int 0]))]) rfl (G := ?_)
  refine Go.dup d16_186 (G := ?_)
  refine Go.bipush d16_187 (v := 8) rfl (G := ?_)
  refine Go.bipush d16_189 (v := 116) rfl (G := ?_)
  refine Go.castore d16_191 0 rfl (x' := 116) rfl (Nat.le_of_ble_eq_true rfl) (D' := [(o1, .inr (.char, [.int 115, .int 117, .int 98, .int 115, .int 99, .int 114, .int 105, .int 112, .int 116, .int 0, .int 0, .int 0, .int 0, .int 0, .int 0, .int 0, .int 0, .int 0, .int 0, .int 0, .int 0, .int 0]))]) rfl (G := ?_)
  refine Go.dup d16_192 (G := ?_)
  refine Go.bipush d16_193 (v := 9) rfl (G := ?_)
  refine Go.bipush d16_195 (v := 105) rfl (G := ?_)
  refine Go.castore d16_197 0 rfl (x' := 105) rfl (Nat.le_of_ble_eq_true rfl) (D' := [(o1, .inr (.char, [.int 115, .int 117, .int 98, .int 115, .int 99, .int 114, .int 105, .int 112, .int 116, .int 105, .int 0, .int 0, .int 0, .int 0, .int 0, .int 0, .int 0, .int 0, .int 0, .int 0, .int 0, .int 0]))]) rfl (G := ?_)
  refine Go.dup d16_198 (G := ?_)
  refine Go.bipush d16_199 (v := 10) rfl (G := ?_)
  refine Go.bipush d16_201 (v := 111) rfl (G := ?_)
  refine Go.castore d16_203 0 rfl (x' := 111) rfl (Nat.le_of_ble_eq_true rfl) (D' := [(o1, .inr (.char, [.int 115, .int 117, .int 98, .int 115, .int 99, .int 114, .int 105, .int 112, .int 116, .int 105, .int 111, .int 0, .int 0, .int 0, .int 0, .int 0, .int 0, .int 0, .int 0, .int 0, .int 0, .int 0]))]) rfl (G := ?_)
  refine Go.dup d16_204 (G := ?_)
  refine Go.bipush d16_205 (v := 11) rfl (G := ?_)
  refine Go.bipush d16_207 (v := 110) rfl (G := ?_)
  refine Go.castore d16_209 0 rfl (x' := 110) rfl (Nat.le_of_ble_eq_true rfl) (D' := [(o1, .inr (.char, [.int 115, .int 117, .int 98, .int 115, .int 99, .int 114, .int 105, .int 112, .int 116, .int 105, .int 111, .int 110, .int 0, .int 0, .int 0, .int 0, .int 0, .int 0, .int 0, .int 0, .int 0, .int 0]))]) rfl (G := ?_)
  refine Go.dup d16_210 (G := ?_)
  refine Go.bipush d16_211 (v := 12) rfl (G := ?_)
  refine Go.bipush d16_213 (v := 46) rfl (G := ?_)
  refine Go.castore d16_215 0 rfl (x' := 46) rfl (Nat.le_of_ble_eq_true rfl) (D' := [(o1, .inr (.char, [.int 115, .int 117, .int 98, .int 115, .int 99, .int 114, .int 105, .int 112, .int 116, .int 105, .int 111, .int 110, .int 46, .int 0, .int 0, .int 0, .int 0, .int 0, .int 0, .int 0, .int 0, .int 0]))]) rfl (G := ?_)
  refine Go.dup d16_216 (G := ?_)
  refine Go.bipush d16_217 (v := 13) rfl (G := ?_)
  refine Go.bipush d16_219 (v := 97) rfl (G := ?_)
  refine Go.castore d16_221 0 rfl (x' := 97) rfl (Nat.le_of_ble_eq_true rfl) (D' := [(o1, .inr (.char, [.int 115, .int 117, .int 98, .int 115, .int 99, .int 114, .int 105, .int 112, .int 116, .int 105, .int 111, .int 110, .int 46, .int 97, .int 0, .int 0, .int 0, .int 0, .int 0, .int 0, .int 0, .int 0]))]) rfl (G := ?_)
  refine Go.dup d16_222 (G := ?_)
  refine Go.bipush d16_223 (v := 14) rfl (G := ?_)
  refine Go.bipush d16_225 (v := 99) rfl (G := ?_)
  refine Go.castore d16_227 0 rfl (x' := 99) rfl (Nat.le_of_ble_eq_true rfl) (D' := [(o1, .inr (.char, [.int 115, .int 117, .int 98, .int 115, .int 99, .int 114, .int 105, .int 112, .int 116, .int 105, .int 111, .int 110, .int 46, .int 97, .int 99, .int 0, .int 0, .int 0, .int 0, .int 0, .int 0, .int 0]))]) rfl (G := ?_)
  refine Go.dup d16_228 (G := ?_)
  refine Go.bipush d16_229 (v := 15) rfl (G := ?_)
  refine Go.bipush d16_231 (v := 116) rfl (G := ?_)
  refine Go.castore d16_233 0 rfl (x' := 116) rfl (Nat.le_of_ble_eq_true rfl) (D' := [(o1, .inr (.char, [.int 115, .int 117, .int 98, .int 115, .int 99, .int 114, .int 105, .int 112, .int 116, .int 105, .int 111, .int 110, .int 46, .int 97, .int 99, .int 116, .int 0, .int 0, .int 0, .int 0, .int 0, .int 0]))]) rfl (G := ?_)
  refine Go.dup d16_234 (G := ?_)
  refine Go.bipush d16_235 (v := 16) rfl (G := ?_)
  refine Go.bipush d16_237 (v := 105) rfl (G := ?_)
  refine Go.castore d16_239 0 rfl (x' := 105) rfl (Nat.le_of_ble_eq_true rfl) (D' := [(o1, .inr (.char, [.int 115, .int 117, .int 98, .int 115, .int 99, .int 114, .int 105, .int 112, .int 116, .int 105, .int 111, .int 110, .int 46, .int 97, .int 99, .int 116, .int 105, .int 0, .int 0, .int 0, .int 0, .int 0]))]) rfl (G := ?_)
  refine Go.dup d16_240 (G := ?_)
  refine Go.bipush d16_241 (v := 17) rfl (G := ?_)
  refine Go.bipush d16_243 (v := 118) rfl (G := ?_)
  refine Go.castore d16_245 0 rfl (x' := 118) rfl (Nat.le_of_ble_eq_true rfl) (D' := [(o1, .inr (.char, [.int 115, .int 117, .int 98, .int 115, .int 99, .int 114, .int 105, .int 112, .int 116, .int 105, .int 111, .int 110, .int 46, .int 97, .int 99, .int 116, .int 105, .int 118, .int 0, .int 0, .int 0, .int 0]))]) rfl (G := ?_)
  refine Go.dup d16_246 (G := ?_)
  refine Go.bipush d16_247 (v := 18) rfl (G := ?_)
  refine Go.bipush d16_249 (v := 97) rfl (G := ?_)
  refine Go.castore d16_251 0 rfl (x' := 97) rfl (Nat.le_of_ble_eq_true rfl) (D' := [(o1, .inr (.char, [.int 115, .int 117, .int 98, .int 115, .int 99, .int 114, .int 105, .int 112, .int 116, .int 105, .int 111, .int 110, .int 46, .int 97, .int 99, .int 116, .int 105, .int 118, .int 97, .int 0, .int 0, .int 0]))]) rfl (G := ?_)
  refine Go.dup d16_252 (G := ?_)
  refine Go.bipush d16_253 (v := 19) rfl (G := ?_)
  refine Go.bipush d16_255 (v := 116) rfl (G := ?_)
  refine Go.castore d16_257 0 rfl (x' := 116) rfl (Nat.le_of_ble_eq_true rfl) (D' := [(o1, .inr (.char, [.int 115, .int 117, .int 98, .int 115, .int 99, .int 114, .int 105, .int 112, .int 116, .int 105, .int 111, .int 110, .int 46, .int 97, .int 99, .int 116, .int 105, .int 118, .int 97, .int 116, .int 0, .int 0]))]) rfl (G := ?_)
  refine Go.dup d16_258 (G := ?_)
  refine Go.bipush d16_259 (v := 20) rfl (G := ?_)
  refine Go.bipush d16_261 (v := 101) rfl (G := ?_)
  refine Go.castore d16_263 0 rfl (x' := 101) rfl (Nat.le_of_ble_eq_true rfl) (D' := [(o1, .inr (.char, [.int 115, .int 117, .int 98, .int 115, .int 99, .int 114, .int 105, .int 112, .int 116, .int 105, .int 111, .int 110, .int 46, .int 97, .int 99, .int 116, .int 105, .int 118, .int 97, .int 116, .int 101, .int 0]))]) rfl (G := ?_)
  refine Go.dup d16_264 (G := ?_)
  refine Go.bipush d16_265 (v := 21) rfl (G := ?_)
  refine Go.bipush d16_267 (v := 100) rfl (G := ?_)
  refine Go.castore d16_269 0 rfl (x' := 100) rfl (Nat.le_of_ble_eq_true rfl) (D' := [(o1, .inr (.char, [.int 115, .int 117, .int 98, .int 115, .int 99, .int 114, .int 105, .int 112, .int 116, .int 105, .int 111, .int 110, .int 46, .int 97, .int 99, .int 116, .int 105, .int 118, .int 97, .int 116, .int 101, .int 100]))]) rfl (G := ?_)
  exact Go.retA d16_270 ⟨o1, rfl, rfl, rfl⟩
set_option maxRecDepth 65536 in
set_option maxHeartbeats 40000000 in
theorem c_subsT {l : Launch} {Z : State} {a0 : Array Value} {EL : List (String × Nat)} {b : Bool} {n0 : Nat} (hw : ∀ d ∈ tables_1, d.before a0 Z = true) (ch : Int32) (hch : 0 ≤ ch.toInt ∧ ch.toInt ≤ 255) :
    Met l Z a0 EL b n0 (⟨"com/example/gyro/gyro/webhook/EventTypeParsePinLaw", "subs", "(ZC)[C"⟩ : MethodName) method_3_code 2 (some (.array .char)) [] (rm4 0 1 23 0) [.int 1, .int ch] [] [] (fun v D' S' => ∃ a, v = some (.ref a) ∧ D' = [(a, .inr (.char, (L2 ++ [ch]).map Value.int))] ∧ S' = []) := by
  refine Met.of_go (own := "com/example/gyro/gyro/webhook/EventTypeParsePinLaw") (nm := "subs") (Ls := #[.val (.int 1), .val (.int ch)]) (plainFor_of_name png_6) (fun m => by first | rfl | (simp [entryFrame, mkF, argsToLocals, Value.category]; done)) ?_
  refine Go.iloadN d16_0 rfl (G := ?_)
  refine Go.ifc d16_1 (pc2 := 140) (Gy := fun h => absurd h (show ¬ ((1 : Int32) = 0) by decide)) (Gn := fun _ => ?_)
  refine Go.bipush d16_4 (v := 23) rfl (G := ?_)
  refine Go.newarray d16_6 (hw _ (List.mem_of_getElem? (i := 7) rfl)) (k := 23) rfl (by decide) (by decide) (vs := [.int 0, .int 0, .int 0, .int 0, .int 0, .int 0, .int 0, .int 0, .int 0, .int 0, .int 0, .int 0, .int 0, .int 0, .int 0, .int 0, .int 0, .int 0, .int 0, .int 0, .int 0, .int 0, .int 0]) rfl (G := fun o1 => ?_)
  refine Go.dup d16_8 (G := ?_)
  refine Go.iconst d16_9 (v := 0) rfl (G := ?_)
  refine Go.bipush d16_10 (v := 115) rfl (G := ?_)
  refine Go.castore d16_12 0 rfl (x' := 115) rfl (Nat.le_of_ble_eq_true rfl) (D' := [(o1, .inr (.char, [.int 115, .int 0, .int 0, .int 0, .int 0, .int 0, .int 0, .int 0, .int 0, .int 0, .int 0, .int 0, .int 0, .int 0, .int 0, .int 0, .int 0, .int 0, .int 0, .int 0, .int 0, .int 0, .int 0]))]) rfl (G := ?_)
  refine Go.dup d16_13 (G := ?_)
  refine Go.iconst d16_14 (v := 1) rfl (G := ?_)
  refine Go.bipush d16_15 (v := 117) rfl (G := ?_)
  refine Go.castore d16_17 0 rfl (x' := 117) rfl (Nat.le_of_ble_eq_true rfl) (D' := [(o1, .inr (.char, [.int 115, .int 117, .int 0, .int 0, .int 0, .int 0, .int 0, .int 0, .int 0, .int 0, .int 0, .int 0, .int 0, .int 0, .int 0, .int 0, .int 0, .int 0, .int 0, .int 0, .int 0, .int 0, .int 0]))]) rfl (G := ?_)
  refine Go.dup d16_18 (G := ?_)
  refine Go.iconst d16_19 (v := 2) rfl (G := ?_)
  refine Go.bipush d16_20 (v := 98) rfl (G := ?_)
  refine Go.castore d16_22 0 rfl (x' := 98) rfl (Nat.le_of_ble_eq_true rfl) (D' := [(o1, .inr (.char, [.int 115, .int 117, .int 98, .int 0, .int 0, .int 0, .int 0, .int 0, .int 0, .int 0, .int 0, .int 0, .int 0, .int 0, .int 0, .int 0, .int 0, .int 0, .int 0, .int 0, .int 0, .int 0, .int 0]))]) rfl (G := ?_)
  refine Go.dup d16_23 (G := ?_)
  refine Go.iconst d16_24 (v := 3) rfl (G := ?_)
  refine Go.bipush d16_25 (v := 115) rfl (G := ?_)
  refine Go.castore d16_27 0 rfl (x' := 115) rfl (Nat.le_of_ble_eq_true rfl) (D' := [(o1, .inr (.char, [.int 115, .int 117, .int 98, .int 115, .int 0, .int 0, .int 0, .int 0, .int 0, .int 0, .int 0, .int 0, .int 0, .int 0, .int 0, .int 0, .int 0, .int 0, .int 0, .int 0, .int 0, .int 0, .int 0]))]) rfl (G := ?_)
  refine Go.dup d16_28 (G := ?_)
  refine Go.iconst d16_29 (v := 4) rfl (G := ?_)
  refine Go.bipush d16_30 (v := 99) rfl (G := ?_)
  refine Go.castore d16_32 0 rfl (x' := 99) rfl (Nat.le_of_ble_eq_true rfl) (D' := [(o1, .inr (.char, [.int 115, .int 117, .int 98, .int 115, .int 99, .int 0, .int 0, .int 0, .int 0, .int 0, .int 0, .int 0, .int 0, .int 0, .int 0, .int 0, .int 0, .int 0, .int 0, .int 0, .int 0, .int 0, .int 0]))]) rfl (G := ?_)
  refine Go.dup d16_33 (G := ?_)
  refine Go.iconst d16_34 (v := 5) rfl (G := ?_)
  refine Go.bipush d16_35 (v := 114) rfl (G := ?_)
  refine Go.castore d16_37 0 rfl (x' := 114) rfl (Nat.le_of_ble_eq_true rfl) (D' := [(o1, .inr (.char, [.int 115, .int 117, .int 98, .int 115, .int 99, .int 114, .int 0, .int 0, .int 0, .int 0, .int 0, .int 0, .int 0, .int 0, .int 0, .int 0, .int 0, .int 0, .int 0, .int 0, .int 0, .int 0, .int 0]))]) rfl (G := ?_)
  refine Go.dup d16_38 (G := ?_)
  refine Go.bipush d16_39 (v := 6) rfl (G := ?_)
  refine Go.bipush d16_41 (v := 105) rfl (G := ?_)
  refine Go.castore d16_43 0 rfl (x' := 105) rfl (Nat.le_of_ble_eq_true rfl) (D' := [(o1, .inr (.char, [.int 115, .int 117, .int 98, .int 115, .int 99, .int 114, .int 105, .int 0, .int 0, .int 0, .int 0, .int 0, .int 0, .int 0, .int 0, .int 0, .int 0, .int 0, .int 0, .int 0, .int 0, .int 0, .int 0]))]) rfl (G := ?_)
  refine Go.dup d16_44 (G := ?_)
  refine Go.bipush d16_45 (v := 7) rfl (G := ?_)
  refine Go.bipush d16_47 (v := 112) rfl (G := ?_)
  refine Go.castore d16_49 0 rfl (x' := 112) rfl (Nat.le_of_ble_eq_true rfl) (D' := [(o1, .inr (.char, [.int 115, .int 117, .int 98, .int 115, .int 99, .int 114, .int 105, .int 112, .int 0, .int 0, .int 0, .int 0, .int 0, .int 0, .int 0, .int 0, .int 0, .int 0, .int 0, .int 0, .int 0, .int 0, .int 0]))]) rfl (G := ?_)
  refine Go.dup d16_50 (G := ?_)
  refine Go.bipush d16_51 (v := 8) rfl (G := ?_)
  refine Go.bipush d16_53 (v := 116) rfl (G := ?_)
  refine Go.castore d16_55 0 rfl (x' := 116) rfl (Nat.le_of_ble_eq_true rfl) (D' := [(o1, .inr (.char, [.int 115, .int 117, .int 98, .int 115, .int 99, .int 114, .int 105, .int 112, .int 116, .int 0, .int 0, .int 0, .int 0, .int 0, .int 0, .int 0, .int 0, .int 0, .int 0, .int 0, .int 0, .int 0, .int 0]))]) rfl (G := ?_)
  refine Go.dup d16_56 (G := ?_)
  refine Go.bipush d16_57 (v := 9) rfl (G := ?_)
  refine Go.bipush d16_59 (v := 105) rfl (G := ?_)
  refine Go.castore d16_61 0 rfl (x' := 105) rfl (Nat.le_of_ble_eq_true rfl) (D' := [(o1, .inr (.char, [.int 115, .int 117, .int 98, .int 115, .int 99, .int 114, .int 105, .int 112, .int 116, .int 105, .int 0, .int 0, .int 0, .int 0, .int 0, .int 0, .int 0, .int 0, .int 0, .int 0, .int 0, .int 0, .int 0]))]) rfl (G := ?_)
  refine Go.dup d16_62 (G := ?_)
  refine Go.bipush d16_63 (v := 10) rfl (G := ?_)
  refine Go.bipush d16_65 (v := 111) rfl (G := ?_)
  refine Go.castore d16_67 0 rfl (x' := 111) rfl (Nat.le_of_ble_eq_true rfl) (D' := [(o1, .inr (.char, [.int 115, .int 117, .int 98, .int 115, .int 99, .int 114, .int 105, .int 112, .int 116, .int 105, .int 111, .int 0, .int 0, .int 0, .int 0, .int 0, .int 0, .int 0, .int 0, .int 0, .int 0, .int 0, .int 0]))]) rfl (G := ?_)
  refine Go.dup d16_68 (G := ?_)
  refine Go.bipush d16_69 (v := 11) rfl (G := ?_)
  refine Go.bipush d16_71 (v := 110) rfl (G := ?_)
  refine Go.castore d16_73 0 rfl (x' := 110) rfl (Nat.le_of_ble_eq_true rfl) (D' := [(o1, .inr (.char, [.int 115, .int 117, .int 98, .int 115, .int 99, .int 114, .int 105, .int 112, .int 116, .int 105, .int 111, .int 110, .int 0, .int 0, .int 0, .int 0, .int 0, .int 0, .int 0, .int 0, .int 0, .int 0, .int 0]))]) rfl (G := ?_)
  refine Go.dup d16_74 (G := ?_)
  refine Go.bipush d16_75 (v := 12) rfl (G := ?_)
  refine Go.bipush d16_77 (v := 46) rfl (G := ?_)
  refine Go.castore d16_79 0 rfl (x' := 46) rfl (Nat.le_of_ble_eq_true rfl) (D' := [(o1, .inr (.char, [.int 115, .int 117, .int 98, .int 115, .int 99, .int 114, .int 105, .int 112, .int 116, .int 105, .int 111, .int 110, .int 46, .int 0, .int 0, .int 0, .int 0, .int 0, .int 0, .int 0, .int 0, .int 0, .int 0]))]) rfl (G := ?_)
  refine Go.dup d16_80 (G := ?_)
  refine Go.bipush d16_81 (v := 13) rfl (G := ?_)
  refine Go.bipush d16_83 (v := 97) rfl (G := ?_)
  refine Go.castore d16_85 0 rfl (x' := 97) rfl (Nat.le_of_ble_eq_true rfl) (D' := [(o1, .inr (.char, [.int 115, .int 117, .int 98, .int 115, .int 99, .int 114, .int 105, .int 112, .int 116, .int 105, .int 111, .int 110, .int 46, .int 97, .int 0, .int 0, .int 0, .int 0, .int 0, .int 0, .int 0, .int 0, .int 0]))]) rfl (G := ?_)
  refine Go.dup d16_86 (G := ?_)
  refine Go.bipush d16_87 (v := 14) rfl (G := ?_)
  refine Go.bipush d16_89 (v := 99) rfl (G := ?_)
  refine Go.castore d16_91 0 rfl (x' := 99) rfl (Nat.le_of_ble_eq_true rfl) (D' := [(o1, .inr (.char, [.int 115, .int 117, .int 98, .int 115, .int 99, .int 114, .int 105, .int 112, .int 116, .int 105, .int 111, .int 110, .int 46, .int 97, .int 99, .int 0, .int 0, .int 0, .int 0, .int 0, .int 0, .int 0, .int 0]))]) rfl (G := ?_)
  refine Go.dup d16_92 (G := ?_)
  refine Go.bipush d16_93 (v := 15) rfl (G := ?_)
  refine Go.bipush d16_95 (v := 116) rfl (G := ?_)
  refine Go.castore d16_97 0 rfl (x' := 116) rfl (Nat.le_of_ble_eq_true rfl) (D' := [(o1, .inr (.char, [.int 115, .int 117, .int 98, .int 115, .int 99, .int 114, .int 105, .int 112, .int 116, .int 105, .int 111, .int 110, .int 46, .int 97, .int 99, .int 116, .int 0, .int 0, .int 0, .int 0, .int 0, .int 0, .int 0]))]) rfl (G := ?_)
  refine Go.dup d16_98 (G := ?_)
  refine Go.bipush d16_99 (v := 16) rfl (G := ?_)
  refine Go.bipush d16_101 (v := 105) rfl (G := ?_)
  refine Go.castore d16_103 0 rfl (x' := 105) rfl (Nat.le_of_ble_eq_true rfl) (D' := [(o1, .inr (.char, [.int 115, .int 117, .int 98, .int 115, .int 99, .int 114, .int 105, .int 112, .int 116, .int 105, .int 111, .int 110, .int 46, .int 97, .int 99, .int 116, .int 105, .int 0, .int 0, .int 0, .int 0, .int 0, .int 0]))]) rfl (G := ?_)
  refine Go.dup d16_104 (G := ?_)
  refine Go.bipush d16_105 (v := 17) rfl (G := ?_)
  refine Go.bipush d16_107 (v := 118) rfl (G := ?_)
  refine Go.castore d16_109 0 rfl (x' := 118) rfl (Nat.le_of_ble_eq_true rfl) (D' := [(o1, .inr (.char, [.int 115, .int 117, .int 98, .int 115, .int 99, .int 114, .int 105, .int 112, .int 116, .int 105, .int 111, .int 110, .int 46, .int 97, .int 99, .int 116, .int 105, .int 118, .int 0, .int 0, .int 0, .int 0, .int 0]))]) rfl (G := ?_)
  refine Go.dup d16_110 (G := ?_)
  refine Go.bipush d16_111 (v := 18) rfl (G := ?_)
  refine Go.bipush d16_113 (v := 97) rfl (G := ?_)
  refine Go.castore d16_115 0 rfl (x' := 97) rfl (Nat.le_of_ble_eq_true rfl) (D' := [(o1, .inr (.char, [.int 115, .int 117, .int 98, .int 115, .int 99, .int 114, .int 105, .int 112, .int 116, .int 105, .int 111, .int 110, .int 46, .int 97, .int 99, .int 116, .int 105, .int 118, .int 97, .int 0, .int 0, .int 0, .int 0]))]) rfl (G := ?_)
  refine Go.dup d16_116 (G := ?_)
  refine Go.bipush d16_117 (v := 19) rfl (G := ?_)
  refine Go.bipush d16_119 (v := 116) rfl (G := ?_)
  refine Go.castore d16_121 0 rfl (x' := 116) rfl (Nat.le_of_ble_eq_true rfl) (D' := [(o1, .inr (.char, [.int 115, .int 117, .int 98, .int 115, .int 99, .int 114, .int 105, .int 112, .int 116, .int 105, .int 111, .int 110, .int 46, .int 97, .int 99, .int 116, .int 105, .int 118, .int 97, .int 116, .int 0, .int 0, .int 0]))]) rfl (G := ?_)
  refine Go.dup d16_122 (G := ?_)
  refine Go.bipush d16_123 (v := 20) rfl (G := ?_)
  refine Go.bipush d16_125 (v := 101) rfl (G := ?_)
  refine Go.castore d16_127 0 rfl (x' := 101) rfl (Nat.le_of_ble_eq_true rfl) (D' := [(o1, .inr (.char, [.int 115, .int 117, .int 98, .int 115, .int 99, .int 114, .int 105, .int 112, .int 116, .int 105, .int 111, .int 110, .int 46, .int 97, .int 99, .int 116, .int 105, .int 118, .int 97, .int 116, .int 101, .int 0, .int 0]))]) rfl (G := ?_)
  refine Go.dup d16_128 (G := ?_)
  refine Go.bipush d16_129 (v := 21) rfl (G := ?_)
  refine Go.bipush d16_131 (v := 100) rfl (G := ?_)
  refine Go.castore d16_133 0 rfl (x' := 100) rfl (Nat.le_of_ble_eq_true rfl) (D' := [(o1, .inr (.char, [.int 115, .int 117, .int 98, .int 115, .int 99, .int 114, .int 105, .int 112, .int 116, .int 105, .int 111, .int 110, .int 46, .int 97, .int 99, .int 116, .int 105, .int 118, .int 97, .int 116, .int 101, .int 100, .int 0]))]) rfl (G := ?_)
  refine Go.dup d16_134 (G := ?_)
  refine Go.bipush d16_135 (v := 22) rfl (G := ?_)
  refine Go.iloadN d16_137 rfl (G := ?_)
  refine Go.castore d16_138 0 rfl (x' := ch) (nc_of hch) (Nat.le_of_ble_eq_true rfl) (D' := [(o1, .inr (.char, [.int 115, .int 117, .int 98, .int 115, .int 99, .int 114, .int 105, .int 112, .int 116, .int 105, .int 111, .int 110, .int 46, .int 97, .int 99, .int 116, .int 105, .int 118, .int 97, .int 116, .int 101, .int 100, .int ch]))]) rfl (G := ?_)
  exact Go.retA d16_139 ⟨o1, rfl, rfl, rfl⟩
theorem d17_0 : Dx code 0 (.iload_n 0) 1 1 := ⟨by decide +kernel, rfl⟩
theorem d17_1 : Dx code 1 (.iconst 3) 1 2 := ⟨by decide +kernel, rfl⟩
theorem d17_2 : Dx code 2 (.iand) 1 3 := ⟨by decide +kernel, rfl⟩
theorem d17_3 : Dx code 3 (.istore 6) 2 5 := ⟨by decide +kernel, rfl⟩
theorem d17_5 : Dx code 5 (.iload_n 0) 1 6 := ⟨by decide +kernel, rfl⟩
theorem d17_6 : Dx code 6 (.iconst 2) 1 7 := ⟨by decide +kernel, rfl⟩
theorem d17_7 : Dx code 7 (.iushr) 1 8 := ⟨by decide +kernel, rfl⟩
theorem d17_8 : Dx code 8 (.iconst 3) 1 9 := ⟨by decide +kernel, rfl⟩
theorem d17_9 : Dx code 9 (.iand) 1 10 := ⟨by decide +kernel, rfl⟩
theorem d17_10 : Dx code 10 (.istore 7) 2 12 := ⟨by decide +kernel, rfl⟩
theorem d17_12 : Dx code 12 (.iload_n 2) 1 13 := ⟨by decide +kernel, rfl⟩
theorem d17_13 : Dx code 13 (.sipush 255) 3 16 := ⟨by decide +kernel, rfl⟩
theorem d17_16 : Dx code 16 (.iand) 1 17 := ⟨by decide +kernel, rfl⟩
theorem d17_17 : Dx code 17 (.i2c) 1 18 := ⟨by decide +kernel, rfl⟩
theorem d17_18 : Dx code 18 (.istore 8) 2 20 := ⟨by decide +kernel, rfl⟩
theorem d17_20 : Dx code 20 (.iload 6) 2 22 := ⟨by decide +kernel, rfl⟩
theorem d17_22 : Dx code 22 (.ifCond .eq 9) 3 25 := ⟨by decide +kernel, rfl⟩
theorem d17_25 : Dx code 25 (.iload 6) 2 27 := ⟨by decide +kernel, rfl⟩
theorem d17_27 : Dx code 27 (.iconst 1) 1 28 := ⟨by decide +kernel, rfl⟩
theorem d17_28 : Dx code 28 (.if_icmp .ne 185) 3 31 := ⟨by decide +kernel, rfl⟩
theorem d17_31 : Dx code 31 (.iload 6) 2 33 := ⟨by decide +kernel, rfl⟩
theorem d17_33 : Dx code 33 (.ifCond .ne 9) 3 36 := ⟨by decide +kernel, rfl⟩
theorem d17_36 : Dx code 36 (.getstatic 7) 3 39 := ⟨by decide +kernel, rfl⟩
theorem d17_39 : Dx code 39 (.goto 6) 3 42 := ⟨by decide +kernel, rfl⟩
theorem d17_42 : Dx code 42 (.getstatic 13) 3 45 := ⟨by decide +kernel, rfl⟩
theorem d17_45 : Dx code 45 (.astore 11) 2 47 := ⟨by decide +kernel, rfl⟩
theorem d17_47 : Dx code 47 (.iload 7) 2 49 := ⟨by decide +kernel, rfl⟩
theorem d17_49 : Dx code 49 (.iconst 2) 1 50 := ⟨by decide +kernel, rfl⟩
theorem d17_50 : Dx code 50 (.if_icmp .ne 42) 3 53 := ⟨by decide +kernel, rfl⟩
theorem d17_53 : Dx code 53 (.iload 6) 2 55 := ⟨by decide +kernel, rfl⟩
theorem d17_55 : Dx code 55 (.ifCond .ne 12) 3 58 := ⟨by decide +kernel, rfl⟩
theorem d17_58 : Dx code 58 (.iconst 1) 1 59 := ⟨by decide +kernel, rfl⟩
theorem d17_59 : Dx code 59 (.iload 8) 2 61 := ⟨by decide +kernel, rfl⟩
theorem d17_61 : Dx code 61 (.invokestatic 16) 3 64 := ⟨by decide +kernel, rfl⟩
theorem d17_64 : Dx code 64 (.goto 9) 3 67 := ⟨by decide +kernel, rfl⟩
theorem d17_67 : Dx code 67 (.iconst 1) 1 68 := ⟨by decide +kernel, rfl⟩
theorem d17_68 : Dx code 68 (.iload 8) 2 70 := ⟨by decide +kernel, rfl⟩
theorem d17_70 : Dx code 70 (.invokestatic 22) 3 73 := ⟨by decide +kernel, rfl⟩
theorem d17_73 : Dx code 73 (.astore 12) 2 75 := ⟨by decide +kernel, rfl⟩
theorem d17_75 : Dx code 75 (.new 25) 3 78 := ⟨by decide +kernel, rfl⟩
theorem d17_78 : Dx code 78 (.dup) 1 79 := ⟨by decide +kernel, rfl⟩
theorem d17_79 : Dx code 79 (.aload 12) 2 81 := ⟨by decide +kernel, rfl⟩
theorem d17_81 : Dx code 81 (.invokespecial 27) 3 84 := ⟨by decide +kernel, rfl⟩
theorem d17_84 : Dx code 84 (.astore 9) 2 86 := ⟨by decide +kernel, rfl⟩
theorem d17_86 : Dx code 86 (.aconst_null) 1 87 := ⟨by decide +kernel, rfl⟩
theorem d17_87 : Dx code 87 (.astore 10) 2 89 := ⟨by decide +kernel, rfl⟩
theorem d17_89 : Dx code 89 (.goto 121) 3 92 := ⟨by decide +kernel, rfl⟩
theorem d17_92 : Dx code 92 (.iload 7) 2 94 := ⟨by decide +kernel, rfl⟩
theorem d17_94 : Dx code 94 (.iconst 1) 1 95 := ⟨by decide +kernel, rfl⟩
theorem d17_95 : Dx code 95 (.if_icmp .ne 78) 3 98 := ⟨by decide +kernel, rfl⟩
theorem d17_98 : Dx code 98 (.iload 6) 2 100 := ⟨by decide +kernel, rfl⟩
theorem d17_100 : Dx code 100 (.ifCond .ne 12) 3 103 := ⟨by decide +kernel, rfl⟩
theorem d17_103 : Dx code 103 (.iconst 0) 1 104 := ⟨by decide +kernel, rfl⟩
theorem d17_104 : Dx code 104 (.iload 8) 2 106 := ⟨by decide +kernel, rfl⟩
theorem d17_106 : Dx code 106 (.invokestatic 16) 3 109 := ⟨by decide +kernel, rfl⟩
theorem d17_109 : Dx code 109 (.goto 9) 3 112 := ⟨by decide +kernel, rfl⟩
theorem d17_112 : Dx code 112 (.iconst 0) 1 113 := ⟨by decide +kernel, rfl⟩
theorem d17_113 : Dx code 113 (.iload 8) 2 115 := ⟨by decide +kernel, rfl⟩
theorem d17_115 : Dx code 115 (.invokestatic 22) 3 118 := ⟨by decide +kernel, rfl⟩
theorem d17_118 : Dx code 118 (.astore 12) 2 120 := ⟨by decide +kernel, rfl⟩
theorem d17_120 : Dx code 120 (.iload_n 1) 1 121 := ⟨by decide +kernel, rfl⟩
theorem d17_121 : Dx code 121 (.ldc 30) 2 123 := ⟨by decide +kernel, rfl⟩
theorem d17_123 : Dx code 123 (.iand) 1 124 := ⟨by decide +kernel, rfl⟩
theorem d17_124 : Dx code 124 (.aload 12) 2 126 := ⟨by decide +kernel, rfl⟩
theorem d17_126 : Dx code 126 (.arraylength) 1 127 := ⟨by decide +kernel, rfl⟩
theorem d17_127 : Dx code 127 (.irem) 1 128 := ⟨by decide +kernel, rfl⟩
theorem d17_128 : Dx code 128 (.istore 13) 2 130 := ⟨by decide +kernel, rfl⟩
theorem d17_130 : Dx code 130 (.aload 12) 2 132 := ⟨by decide +kernel, rfl⟩
theorem d17_132 : Dx code 132 (.iload 13) 2 134 := ⟨by decide +kernel, rfl⟩
theorem d17_134 : Dx code 134 (.caload) 1 135 := ⟨by decide +kernel, rfl⟩
theorem d17_135 : Dx code 135 (.istore 14) 2 137 := ⟨by decide +kernel, rfl⟩
theorem d17_137 : Dx code 137 (.aload 12) 2 139 := ⟨by decide +kernel, rfl⟩
theorem d17_139 : Dx code 139 (.iload 13) 2 141 := ⟨by decide +kernel, rfl⟩
theorem d17_141 : Dx code 141 (.iload 8) 2 143 := ⟨by decide +kernel, rfl⟩
theorem d17_143 : Dx code 143 (.castore) 1 144 := ⟨by decide +kernel, rfl⟩
theorem d17_144 : Dx code 144 (.new 25) 3 147 := ⟨by decide +kernel, rfl⟩
theorem d17_147 : Dx code 147 (.dup) 1 148 := ⟨by decide +kernel, rfl⟩
theorem d17_148 : Dx code 148 (.aload 12) 2 150 := ⟨by decide +kernel, rfl⟩
theorem d17_150 : Dx code 150 (.invokespecial 27) 3 153 := ⟨by decide +kernel, rfl⟩
theorem d17_153 : Dx code 153 (.astore 9) 2 155 := ⟨by decide +kernel, rfl⟩
theorem d17_155 : Dx code 155 (.iload 8) 2 157 := ⟨by decide +kernel, rfl⟩
theorem d17_157 : Dx code 157 (.iload 14) 2 159 := ⟨by decide +kernel, rfl⟩
theorem d17_159 : Dx code 159 (.if_icmp .ne 8) 3 162 := ⟨by decide +kernel, rfl⟩
theorem d17_162 : Dx code 162 (.aload 11) 2 164 := ⟨by decide +kernel, rfl⟩
theorem d17_164 : Dx code 164 (.goto 4) 3 167 := ⟨by decide +kernel, rfl⟩
theorem d17_167 : Dx code 167 (.aconst_null) 1 168 := ⟨by decide +kernel, rfl⟩
theorem d17_168 : Dx code 168 (.astore 10) 2 170 := ⟨by decide +kernel, rfl⟩
theorem d17_170 : Dx code 170 (.goto 40) 3 173 := ⟨by decide +kernel, rfl⟩
theorem d17_173 : Dx code 173 (.iload 6) 2 175 := ⟨by decide +kernel, rfl⟩
theorem d17_175 : Dx code 175 (.ifCond .ne 12) 3 178 := ⟨by decide +kernel, rfl⟩
theorem d17_178 : Dx code 178 (.iconst 0) 1 179 := ⟨by decide +kernel, rfl⟩
theorem d17_179 : Dx code 179 (.iload 8) 2 181 := ⟨by decide +kernel, rfl⟩
theorem d17_181 : Dx code 181 (.invokestatic 16) 3 184 := ⟨by decide +kernel, rfl⟩
theorem d17_184 : Dx code 184 (.goto 9) 3 187 := ⟨by decide +kernel, rfl⟩
theorem d17_187 : Dx code 187 (.iconst 0) 1 188 := ⟨by decide +kernel, rfl⟩
theorem d17_188 : Dx code 188 (.iload 8) 2 190 := ⟨by decide +kernel, rfl⟩
theorem d17_190 : Dx code 190 (.invokestatic 22) 3 193 := ⟨by decide +kernel, rfl⟩
theorem d17_193 : Dx code 193 (.astore 12) 2 195 := ⟨by decide +kernel, rfl⟩
theorem d17_195 : Dx code 195 (.new 25) 3 198 := ⟨by decide +kernel, rfl⟩
theorem d17_198 : Dx code 198 (.dup) 1 199 := ⟨by decide +kernel, rfl⟩
theorem d17_199 : Dx code 199 (.aload 12) 2 201 := ⟨by decide +kernel, rfl⟩
theorem d17_201 : Dx code 201 (.invokespecial 27) 3 204 := ⟨by decide +kernel, rfl⟩
theorem d17_204 : Dx code 204 (.astore 9) 2 206 := ⟨by decide +kernel, rfl⟩
theorem d17_206 : Dx code 206 (.aload 11) 2 208 := ⟨by decide +kernel, rfl⟩
theorem d17_208 : Dx code 208 (.astore 10) 2 210 := ⟨by decide +kernel, rfl⟩
theorem d17_210 : Dx code 210 (.goto 158) 3 213 := ⟨by decide +kernel, rfl⟩
theorem d17_213 : Dx code 213 (.iload 6) 2 215 := ⟨by decide +kernel, rfl⟩
theorem d17_215 : Dx code 215 (.iconst 2) 1 216 := ⟨by decide +kernel, rfl⟩
theorem d17_216 : Dx code 216 (.if_icmp .ne 146) 3 219 := ⟨by decide +kernel, rfl⟩
theorem d17_219 : Dx code 219 (.iload_n 0) 1 220 := ⟨by decide +kernel, rfl⟩
theorem d17_220 : Dx code 220 (.iconst 4) 1 221 := ⟨by decide +kernel, rfl⟩
theorem d17_221 : Dx code 221 (.iushr) 1 222 := ⟨by decide +kernel, rfl⟩
theorem d17_222 : Dx code 222 (.iconst 3) 1 223 := ⟨by decide +kernel, rfl⟩
theorem d17_223 : Dx code 223 (.iand) 1 224 := ⟨by decide +kernel, rfl⟩
theorem d17_224 : Dx code 224 (.istore 11) 2 226 := ⟨by decide +kernel, rfl⟩
theorem d17_226 : Dx code 226 (.iload_n 3) 1 227 := ⟨by decide +kernel, rfl⟩
theorem d17_227 : Dx code 227 (.sipush 255) 3 230 := ⟨by decide +kernel, rfl⟩
theorem d17_230 : Dx code 230 (.iand) 1 231 := ⟨by decide +kernel, rfl⟩
theorem d17_231 : Dx code 231 (.i2c) 1 232 := ⟨by decide +kernel, rfl⟩
theorem d17_232 : Dx code 232 (.istore 12) 2 234 := ⟨by decide +kernel, rfl⟩
theorem d17_234 : Dx code 234 (.iload 4) 2 236 := ⟨by decide +kernel, rfl⟩
theorem d17_236 : Dx code 236 (.sipush 255) 3 239 := ⟨by decide +kernel, rfl⟩
theorem d17_239 : Dx code 239 (.iand) 1 240 := ⟨by decide +kernel, rfl⟩
theorem d17_240 : Dx code 240 (.i2c) 1 241 := ⟨by decide +kernel, rfl⟩
theorem d17_241 : Dx code 241 (.istore 13) 2 243 := ⟨by decide +kernel, rfl⟩
theorem d17_243 : Dx code 243 (.iload 5) 2 245 := ⟨by decide +kernel, rfl⟩
theorem d17_245 : Dx code 245 (.sipush 255) 3 248 := ⟨by decide +kernel, rfl⟩
theorem d17_248 : Dx code 248 (.iand) 1 249 := ⟨by decide +kernel, rfl⟩
theorem d17_249 : Dx code 249 (.i2c) 1 250 := ⟨by decide +kernel, rfl⟩
theorem d17_250 : Dx code 250 (.istore 14) 2 252 := ⟨by decide +kernel, rfl⟩
theorem d17_252 : Dx code 252 (.iload 11) 2 254 := ⟨by decide +kernel, rfl⟩
theorem d17_254 : Dx code 254 (.ifCond .ne 18) 3 257 := ⟨by decide +kernel, rfl⟩
theorem d17_257 : Dx code 257 (.new 25) 3 260 := ⟨by decide +kernel, rfl⟩
theorem d17_260 : Dx code 260 (.dup) 1 261 := ⟨by decide +kernel, rfl⟩
theorem d17_261 : Dx code 261 (.iconst 0) 1 262 := ⟨by decide +kernel, rfl⟩
theorem d17_262 : Dx code 262 (.newarray .char) 2 264 := ⟨by decide +kernel, rfl⟩
theorem d17_264 : Dx code 264 (.invokespecial 27) 3 267 := ⟨by decide +kernel, rfl⟩
theorem d17_267 : Dx code 267 (.astore 9) 2 269 := ⟨by decide +kernel, rfl⟩
theorem d17_269 : Dx code 269 (.goto 87) 3 272 := ⟨by decide +kernel, rfl⟩
theorem d17_272 : Dx code 272 (.iload 11) 2 274 := ⟨by decide +kernel, rfl⟩
theorem d17_274 : Dx code 274 (.iconst 1) 1 275 := ⟨by decide +kernel, rfl⟩
theorem d17_275 : Dx code 275 (.if_icmp .ne 23) 3 278 := ⟨by decide +kernel, rfl⟩
theorem d17_278 : Dx code 278 (.new 25) 3 281 := ⟨by decide +kernel, rfl⟩
theorem d17_281 : Dx code 281 (.dup) 1 282 := ⟨by decide +kernel, rfl⟩
theorem d17_282 : Dx code 282 (.iconst 1) 1 283 := ⟨by decide +kernel, rfl⟩
theorem d17_283 : Dx code 283 (.newarray .char) 2 285 := ⟨by decide +kernel, rfl⟩
theorem d17_285 : Dx code 285 (.dup) 1 286 := ⟨by decide +kernel, rfl⟩
theorem d17_286 : Dx code 286 (.iconst 0) 1 287 := ⟨by decide +kernel, rfl⟩
theorem d17_287 : Dx code 287 (.iload 12) 2 289 := ⟨by decide +kernel, rfl⟩
theorem d17_289 : Dx code 289 (.castore) 1 290 := ⟨by decide +kernel, rfl⟩
theorem d17_290 : Dx code 290 (.invokespecial 27) 3 293 := ⟨by decide +kernel, rfl⟩
theorem d17_293 : Dx code 293 (.astore 9) 2 295 := ⟨by decide +kernel, rfl⟩
theorem d17_295 : Dx code 295 (.goto 61) 3 298 := ⟨by decide +kernel, rfl⟩
theorem d17_298 : Dx code 298 (.iload 11) 2 300 := ⟨by decide +kernel, rfl⟩
theorem d17_300 : Dx code 300 (.iconst 2) 1 301 := ⟨by decide +kernel, rfl⟩
theorem d17_301 : Dx code 301 (.if_icmp .ne 28) 3 304 := ⟨by decide +kernel, rfl⟩
theorem d17_304 : Dx code 304 (.new 25) 3 307 := ⟨by decide +kernel, rfl⟩
theorem d17_307 : Dx code 307 (.dup) 1 308 := ⟨by decide +kernel, rfl⟩
theorem d17_308 : Dx code 308 (.iconst 2) 1 309 := ⟨by decide +kernel, rfl⟩
theorem d17_309 : Dx code 309 (.newarray .char) 2 311 := ⟨by decide +kernel, rfl⟩
theorem d17_311 : Dx code 311 (.dup) 1 312 := ⟨by decide +kernel, rfl⟩
theorem d17_312 : Dx code 312 (.iconst 0) 1 313 := ⟨by decide +kernel, rfl⟩
theorem d17_313 : Dx code 313 (.iload 12) 2 315 := ⟨by decide +kernel, rfl⟩
theorem d17_315 : Dx code 315 (.castore) 1 316 := ⟨by decide +kernel, rfl⟩
theorem d17_316 : Dx code 316 (.dup) 1 317 := ⟨by decide +kernel, rfl⟩
theorem d17_317 : Dx code 317 (.iconst 1) 1 318 := ⟨by decide +kernel, rfl⟩
theorem d17_318 : Dx code 318 (.iload 13) 2 320 := ⟨by decide +kernel, rfl⟩
theorem d17_320 : Dx code 320 (.castore) 1 321 := ⟨by decide +kernel, rfl⟩
theorem d17_321 : Dx code 321 (.invokespecial 27) 3 324 := ⟨by decide +kernel, rfl⟩
theorem d17_324 : Dx code 324 (.astore 9) 2 326 := ⟨by decide +kernel, rfl⟩
theorem d17_326 : Dx code 326 (.goto 30) 3 329 := ⟨by decide +kernel, rfl⟩
theorem d17_329 : Dx code 329 (.new 25) 3 332 := ⟨by decide +kernel, rfl⟩
theorem d17_332 : Dx code 332 (.dup) 1 333 := ⟨by decide +kernel, rfl⟩
theorem d17_333 : Dx code 333 (.iconst 3) 1 334 := ⟨by decide +kernel, rfl⟩
theorem d17_334 : Dx code 334 (.newarray .char) 2 336 := ⟨by decide +kernel, rfl⟩
theorem d17_336 : Dx code 336 (.dup) 1 337 := ⟨by decide +kernel, rfl⟩
theorem d17_337 : Dx code 337 (.iconst 0) 1 338 := ⟨by decide +kernel, rfl⟩
theorem d17_338 : Dx code 338 (.iload 12) 2 340 := ⟨by decide +kernel, rfl⟩
theorem d17_340 : Dx code 340 (.castore) 1 341 := ⟨by decide +kernel, rfl⟩
theorem d17_341 : Dx code 341 (.dup) 1 342 := ⟨by decide +kernel, rfl⟩
theorem d17_342 : Dx code 342 (.iconst 1) 1 343 := ⟨by decide +kernel, rfl⟩
theorem d17_343 : Dx code 343 (.iload 13) 2 345 := ⟨by decide +kernel, rfl⟩
theorem d17_345 : Dx code 345 (.castore) 1 346 := ⟨by decide +kernel, rfl⟩
theorem d17_346 : Dx code 346 (.dup) 1 347 := ⟨by decide +kernel, rfl⟩
theorem d17_347 : Dx code 347 (.iconst 2) 1 348 := ⟨by decide +kernel, rfl⟩
theorem d17_348 : Dx code 348 (.iload 14) 2 350 := ⟨by decide +kernel, rfl⟩
theorem d17_350 : Dx code 350 (.castore) 1 351 := ⟨by decide +kernel, rfl⟩
theorem d17_351 : Dx code 351 (.invokespecial 27) 3 354 := ⟨by decide +kernel, rfl⟩
theorem d17_354 : Dx code 354 (.astore 9) 2 356 := ⟨by decide +kernel, rfl⟩
theorem d17_356 : Dx code 356 (.aconst_null) 1 357 := ⟨by decide +kernel, rfl⟩
theorem d17_357 : Dx code 357 (.astore 10) 2 359 := ⟨by decide +kernel, rfl⟩
theorem d17_359 : Dx code 359 (.goto 9) 3 362 := ⟨by decide +kernel, rfl⟩
theorem d17_362 : Dx code 362 (.aconst_null) 1 363 := ⟨by decide +kernel, rfl⟩
theorem d17_363 : Dx code 363 (.astore 9) 2 365 := ⟨by decide +kernel, rfl⟩
theorem d17_365 : Dx code 365 (.aconst_null) 1 366 := ⟨by decide +kernel, rfl⟩
theorem d17_366 : Dx code 366 (.astore 10) 2 368 := ⟨by decide +kernel, rfl⟩
theorem d17_368 : Dx code 368 (.aload 9) 2 370 := ⟨by decide +kernel, rfl⟩
theorem d17_370 : Dx code 370 (.invokestatic 31) 3 373 := ⟨by decide +kernel, rfl⟩
theorem d17_373 : Dx code 373 (.aconst_null) 1 374 := ⟨by decide +kernel, rfl⟩
theorem d17_374 : Dx code 374 (.invokevirtual 35) 3 377 := ⟨by decide +kernel, rfl⟩
theorem d17_377 : Dx code 377 (.checkcast 8) 3 380 := ⟨by decide +kernel, rfl⟩
theorem d17_380 : Dx code 380 (.astore 11) 2 382 := ⟨by decide +kernel, rfl⟩
theorem d17_382 : Dx code 382 (.aload 11) 2 384 := ⟨by decide +kernel, rfl⟩
theorem d17_384 : Dx code 384 (.aload 10) 2 386 := ⟨by decide +kernel, rfl⟩
theorem d17_386 : Dx code 386 (.if_acmp .ne 7) 3 389 := ⟨by decide +kernel, rfl⟩
theorem d17_389 : Dx code 389 (.iconst 1) 1 390 := ⟨by decide +kernel, rfl⟩
theorem d17_390 : Dx code 390 (.goto 4) 3 393 := ⟨by decide +kernel, rfl⟩
theorem d17_393 : Dx code 393 (.iconst 0) 1 394 := ⟨by decide +kernel, rfl⟩
theorem d17_394 : Dx code 394 (.ireturn) 1 395 := ⟨by decide +kernel, rfl⟩
theorem pdg_11 : parseMethodDescriptor "(ZC)[C" = some ⟨[.boolean, .char], some (.array .char)⟩ := by decide +kernel
theorem pdg_12 : parseMethodDescriptor "([C)V" = some ⟨[.array .char], none⟩ := by decide +kernel
theorem pdg_13 : parseMethodDescriptor "(Ljava/lang/String;)Ljava/util/Optional;" = some ⟨[.object "java/lang/String"], some (.object "java/util/Optional")⟩ := by decide +kernel
set_option maxRecDepth 65536 in
set_option maxHeartbeats 40000000 in
theorem c_law {l : Launch} {Z : State} {a0 : Array Value} {EL : List (String × Nat)} {b : Bool} {n0 : Nat} (hw : ∀ d ∈ tables_1, d.before a0 Z = true) (sel pos c d0 d1 d2 : Int32) (va e1 e2 w1 b1 w2 b2 op : Addr) (hV : Sta Z Z.heap "com/example/gyro/gyro/webhook/EventType" "$VALUES" "[Lcom/example/gyro/gyro/webhook/EventType;" (.ref va)) (hVE : Exa Z Z.heap va "[Lcom/example/gyro/gyro/webhook/EventType;") (hOP : Sta Z Z.heap "java/util/Optional" "EMPTY" "Ljava/util/Optional;" (.ref op)) (hCC : Sta Z Z.heap "com/example/gyro/gyro/webhook/EventType" "CUSTOMER_CREATED" "Lcom/example/gyro/gyro/webhook/EventType;" (.ref e1)) (hSA : Sta Z Z.heap "com/example/gyro/gyro/webhook/EventType" "SUBSCRIPTION_ACTIVATED" "Lcom/example/gyro/gyro/webhook/EventType;" (.ref e2)) (k0 : Kn Z Z.heap (va, .inr (.object "com/example/gyro/gyro/webhook/EventType", [.ref e1, .ref e2]))) (k1 : Kn Z Z.heap (e1, .inl ("com/example/gyro/gyro/webhook/EventType", [("com/example/gyro/gyro/webhook/EventType", "wireName", "Ljava/lang/String;", .ref w1)]))) (k2 : Kn Z Z.heap (e2, .inl ("com/example/gyro/gyro/webhook/EventType", [("com/example/gyro/gyro/webhook/EventType", "wireName", "Ljava/lang/String;", .ref w2)]))) (k3 : Kn Z Z.heap (w1, .inl ("java/lang/String", [("java/lang/String", "value", "[B", .ref b1), ("java/lang/String", "coder", "B", .int 0)]))) (k4 : Kn Z Z.heap (b1, .inr (.byte, L1.map byV))) (k5 : Kn Z Z.heap (w2, .inl ("java/lang/String", [("java/lang/String", "value", "[B", .ref b2), ("java/lang/String", "coder", "B", .int 0)]))) (k6 : Kn Z Z.heap (b2, .inr (.byte, L2.map byV))) (k7 : Kn Z Z.heap (op, .inl ("java/util/Optional", [("java/util/Optional", "value", "Ljava/lang/Object;", .null)]))) (cpt : Int32) (hCS : Sta Z Z.heap "java/lang/String" "COMPACT_STRINGS" "Z" (.int cpt)) (hcpt : ¬ cpt = 0) (hb1 : b = true) (hE_String_7 : ("java/lang/String", 7) ∈ EL) : Met l Z a0 EL b n0 x code 15 (some .boolean) tables_1 room_1 [.int sel, .int pos, .int c, .int d0, .int d1, .int d2] [] [] (fun v D' S' => v = some (.int 1) ∧ D' = [] ∧ S' = []) := by
  refine Met.of_go (own := "com/example/gyro/gyro/webhook/EventTypeParsePinLaw") (nm := "law") (Ls := #[.val (.int sel), .val (.int pos), .val (.int c), .val (.int d0), .val (.int d1), .val (.int d2), .unset, .unset, .unset, .unset, .unset, .unset, .unset, .unset, .unset]) (plainFor_of_name png_6) (fun m => by first | rfl | (simp [entryFrame, mkF, argsToLocals, Value.category]; done)) ?_
  refine Go.old k0 ?_
  refine Go.old k1 ?_
  refine Go.old k2 ?_
  refine Go.old k3 ?_
  refine Go.old k4 ?_
  refine Go.old k5 ?_
  refine Go.old k6 ?_
  refine Go.old k7 ?_
  obtain ⟨ch, hche⟩ : ∃ ch, (c &&& 255) = ch := ⟨_, rfl⟩
  have hch : 0 ≤ ch.toInt ∧ ch.toInt ≤ 255 := hche ▸ m255_int c
  obtain ⟨c0, hce0⟩ : ∃ z, (d0 &&& 255) = z := ⟨_, rfl⟩
  have hc0 : 0 ≤ c0.toInt ∧ c0.toInt ≤ 255 := hce0 ▸ m255_int d0
  obtain ⟨c1, hce1⟩ : ∃ z, (d1 &&& 255) = z := ⟨_, rfl⟩
  have hc1 : 0 ≤ c1.toInt ∧ c1.toInt ≤ 255 := hce1 ▸ m255_int d1
  obtain ⟨c2, hce2⟩ : ∃ z, (d2 &&& 255) = z := ⟨_, rfl⟩
  have hc2 : 0 ≤ c2.toInt ∧ c2.toInt ≤ 255 := hce2 ▸ m255_int d2
  obtain ⟨kd, hkd⟩ : ∃ z, sel &&& 3 = z := ⟨_, rfl⟩
  obtain ⟨vr, hvr⟩ : ∃ z, ush sel 2 &&& 3 = z := ⟨_, rfl⟩
  obtain ⟨ln, hln⟩ : ∃ z, ush sel 4 &&& 3 = z := ⟨_, rfl⟩
  have hk4 := four sel
  have hv4 := four (ush sel 2)
  have hl4 := four (ush sel 4)
  rw [hkd] at hk4
  rw [hvr] at hv4
  rw [hln] at hl4
  rcases hk4 with rfl | rfl | rfl | rfl
  · skip
    rcases hv4 with rfl | rfl | rfl | rfl
    · skip
      refine Go.iloadN d17_0 rfl (G := ?_)
      refine Go.iconst d17_1 (v := 3) rfl (G := ?_)
      refine Go.iand d17_2 (z := 0) hkd (G := ?_)
      refine Go.istore d17_3 (Ls' := #[.val (.int sel), .val (.int pos), .val (.int c), .val (.int d0), .val (.int d1), .val (.int d2), .val (.int 0), .unset, .unset, .unset, .unset, .unset, .unset, .unset, .unset]) rfl (G := ?_)
      refine Go.iloadN d17_5 rfl (G := ?_)
      refine Go.iconst d17_6 (v := 2) rfl (G := ?_)
      refine Go.iushr d17_7 (z := (ush sel 2)) rfl (G := ?_)
      refine Go.iconst d17_8 (v := 3) rfl (G := ?_)
      refine Go.iand d17_9 (z := 0) hvr (G := ?_)
      refine Go.istore d17_10 (Ls' := #[.val (.int sel), .val (.int pos), .val (.int c), .val (.int d0), .val (.int d1), .val (.int d2), .val (.int 0), .val (.int 0), .unset, .unset, .unset, .unset, .unset, .unset, .unset]) rfl (G := ?_)
      refine Go.iloadN d17_12 rfl (G := ?_)
      refine Go.sipush d17_13 (v := 255) rfl (G := ?_)
      refine Go.iand d17_16 (z := (c &&& 255)) rfl (G := ?_)
      refine Go.i2c d17_17 (z := ch) ((i2c_mask _).trans hche) (G := ?_)
      refine Go.istore d17_18 (Ls' := #[.val (.int sel), .val (.int pos), .val (.int c), .val (.int d0), .val (.int d1), .val (.int d2), .val (.int 0), .val (.int 0), .val (.int ch), .unset, .unset, .unset, .unset, .unset, .unset]) rfl (G := ?_)
      refine Go.iload d17_20 rfl (G := ?_)
      refine Go.ifc d17_22 (pc2 := 31) (Gy := fun _ => ?_) (Gn := fun h => absurd (show (0 : Int32) = 0 by decide) h)
      refine Go.iload d17_31 rfl (G := ?_)
      refine Go.ifc d17_33 (pc2 := 42) (Gy := fun h => absurd h (show ¬ (¬ (0 : Int32) = 0) by decide)) (Gn := fun _ => ?_)
      refine Go.getstatic d17_36 (host := "") (Or.inl (hw _ (List.mem_of_getElem? (i := 0) rfl))) Via.refl hCC (G := ?_)
      refine Go.goto d17_39 (pc2 := 45) (G := ?_)
      refine Go.astore d17_45 (Ls' := #[.val (.int sel), .val (.int pos), .val (.int c), .val (.int d0), .val (.int d1), .val (.int d2), .val (.int 0), .val (.int 0), .val (.int ch), .unset, .unset, .val (.ref e1), .unset, .unset, .unset]) rfl (G := ?_)
      refine Go.iload d17_47 rfl (G := ?_)
      refine Go.iconst d17_49 (v := 2) rfl (G := ?_)
      refine Go.icmp d17_50 (pc2 := 92) (Gy := fun _ => ?_) (Gn := fun h => absurd (show ¬ (0 : Int32) = 2 by decide) h)
      refine Go.iload d17_92 rfl (G := ?_)
      refine Go.iconst d17_94 (v := 1) rfl (G := ?_)
      refine Go.icmp d17_95 (pc2 := 173) (Gy := fun _ => ?_) (Gn := fun h => absurd (show ¬ (0 : Int32) = 1 by decide) h)
      refine Go.iload d17_173 rfl (G := ?_)
      refine Go.ifc d17_175 (pc2 := 187) (Gy := fun h => absurd h (show ¬ (¬ (0 : Int32) = 0) by decide)) (Gn := fun _ => ?_)
      refine Go.iconst d17_178 (v := 0) rfl (G := ?_)
      refine Go.iload d17_179 rfl (G := ?_)
      refine Go.invokestatic false d17_181 (hw _ (List.mem_of_getElem? (i := 3) rfl)) (hw _ (List.mem_of_getElem? (i := 4) rfl)) (hw _ (List.mem_of_getElem? (i := 5) rfl)) (hw _ (List.mem_of_getElem? (i := 6) rfl)) (c_custF hw ch hch) pdg_11 rfl (argsL := [.int 0, .int ch]) (rest := []) rfl rfl (Dr := []) rfl eN (G := ?_)
      rintro _ _ _ ⟨a6, rfl, rfl, rfl⟩
      refine Go.norm (D2 := [(a6, .inr (.char, L1.map Value.int))]) (S2 := [(op, .inl ("java/util/Optional", [("java/util/Optional", "value", "Ljava/lang/Object;", .null)])), (b2, .inr (.byte, L2.map byV)), (w2, .inl ("java/lang/String", [("java/lang/String", "value", "[B", .ref b2), ("java/lang/String", "coder", "B", .int 0)])), (b1, .inr (.byte, L1.map byV)), (w1, .inl ("java/lang/String", [("java/lang/String", "value", "[B", .ref b1), ("java/lang/String", "coder", "B", .int 0)])), (e2, .inl ("com/example/gyro/gyro/webhook/EventType", [("com/example/gyro/gyro/webhook/EventType", "wireName", "Ljava/lang/String;", .ref w2)])), (e1, .inl ("com/example/gyro/gyro/webhook/EventType", [("com/example/gyro/gyro/webhook/EventType", "wireName", "Ljava/lang/String;", .ref w1)])), (va, .inr (.object "com/example/gyro/gyro/webhook/EventType", [.ref e1, .ref e2]))]) (c2 := 1) (s2 := 16) (st2 := [.ref a6]) ?_
      refine Go.goto d17_184 (pc2 := 193) (G := ?_)
      refine Go.astore d17_193 (Ls' := #[.val (.int sel), .val (.int pos), .val (.int c), .val (.int d0), .val (.int d1), .val (.int d2), .val (.int 0), .val (.int 0), .val (.int ch), .unset, .unset, .val (.ref e1), .val (.ref a6), .unset, .unset]) rfl (G := ?_)
      refine Go.new d17_195 (hw _ (List.mem_of_getElem? (i := 8) rfl)) (hw _ (List.mem_of_getElem? (i := 9) rfl)) (hw _ (List.mem_of_getElem? (i := 10) rfl)) (NewF.cons (Or.inr (hw _ (List.mem_of_getElem? (i := 36) rfl))) (ty := .array .byte) (by decide +kernel) rfl (by simp) (NewF.cons (Or.inr (hw _ (List.mem_of_getElem? (i := 34) rfl))) (ty := .byte) (by decide +kernel) rfl (by simp) NewF.nil)) (G := fun o7 => ?_)
      refine Go.dup d17_198 (G := ?_)
      refine Go.aload d17_199 rfl (G := ?_)
      refine Go.invokeinit true d17_201 rfl (hw _ (List.mem_of_getElem? (i := 11) rfl)) (hw _ (List.mem_of_getElem? (i := 12) rfl)) (hw _ (List.mem_of_getElem? (i := 10) rfl)) (hw _ (List.mem_of_getElem? (i := 13) rfl)) (c_init hw o7 a6 L1 16 [] cpt hCS hcpt rfl (by decide) (by decide) (fun u hu => nlat (L1_lat u hu))) pdg_12 rfl (argsL := [.ref a6]) (rest := [.ref o7]) rfl rfl (Dr := [(a6, .inr (.char, L1.map Value.int))]) rfl (eS (Or.inr ⟨rfl, List.mem_of_getElem? (i := 0) rfl⟩) eN) (G := ?_)
      rintro _ _ _ ⟨t8, rfl, rfl, rfl⟩
      refine Go.norm (D2 := [(o7, .inl ("java/lang/String", [("java/lang/String", "value", "[B", .ref t8), ("java/lang/String", "coder", "B", .int 0)])), (t8, .inr (.byte, L1.map byV)), (a6, .inr (.char, L1.map Value.int))]) (S2 := [(op, .inl ("java/util/Optional", [("java/util/Optional", "value", "Ljava/lang/Object;", .null)])), (b2, .inr (.byte, L2.map byV)), (w2, .inl ("java/lang/String", [("java/lang/String", "value", "[B", .ref b2), ("java/lang/String", "coder", "B", .int 0)])), (b1, .inr (.byte, L1.map byV)), (w1, .inl ("java/lang/String", [("java/lang/String", "value", "[B", .ref b1), ("java/lang/String", "coder", "B", .int 0)])), (e2, .inl ("com/example/gyro/gyro/webhook/EventType", [("com/example/gyro/gyro/webhook/EventType", "wireName", "Ljava/lang/String;", .ref w2)])), (e1, .inl ("com/example/gyro/gyro/webhook/EventType", [("com/example/gyro/gyro/webhook/EventType", "wireName", "Ljava/lang/String;", .ref w1)])), (va, .inr (.object "com/example/gyro/gyro/webhook/EventType", [.ref e1, .ref e2]))]) (c2 := 3) (s2 := 36) (st2 := [.ref o7]) ?_
      refine Go.astore d17_204 (Ls' := #[.val (.int sel), .val (.int pos), .val (.int c), .val (.int d0), .val (.int d1), .val (.int d2), .val (.int 0), .val (.int 0), .val (.int ch), .val (.ref o7), .unset, .val (.ref e1), .val (.ref a6), .unset, .unset]) rfl (G := ?_)
      refine Go.aload d17_206 rfl (G := ?_)
      refine Go.astore d17_208 (Ls' := #[.val (.int sel), .val (.int pos), .val (.int c), .val (.int d0), .val (.int d1), .val (.int d2), .val (.int 0), .val (.int 0), .val (.int ch), .val (.ref o7), .val (.ref e1), .val (.ref e1), .val (.ref a6), .unset, .unset]) rfl (G := ?_)
      refine Go.goto d17_210 (pc2 := 368) (G := ?_)
      refine Go.aload d17_368 rfl (G := ?_)
      refine Go.neS (x := (o7, .inl ("java/lang/String", [("java/lang/String", "value", "[B", .ref t8), ("java/lang/String", "coder", "B", .int 0)]))) (y := (w1, .inl ("java/lang/String", [("java/lang/String", "value", "[B", .ref b1), ("java/lang/String", "coder", "B", .int 0)]))) (List.mem_of_getElem? (i := 0) rfl) (List.mem_of_getElem? (i := 4) rfl) (fun hx1 => ?_)
      refine Go.neS (x := (o7, .inl ("java/lang/String", [("java/lang/String", "value", "[B", .ref t8), ("java/lang/String", "coder", "B", .int 0)]))) (y := (w2, .inl ("java/lang/String", [("java/lang/String", "value", "[B", .ref b2), ("java/lang/String", "coder", "B", .int 0)]))) (List.mem_of_getElem? (i := 0) rfl) (List.mem_of_getElem? (i := 2) rfl) (fun hx2 => ?_)
      refine Go.invokestatic true d17_370 (hw _ (List.mem_of_getElem? (i := 37) rfl)) (hw _ (List.mem_of_getElem? (i := 38) rfl)) (hw _ (List.mem_of_getElem? (i := 1) rfl)) (hw _ (List.mem_of_getElem? (i := 39) rfl)) (c_p1 hw va e1 e2 w1 b1 w2 b2 op hV hVE hOP o7 t8 L1 16 cpt hCS hcpt (Ne.symm hx1) (Ne.symm hx2) rfl (by decide) L1_lat rfl) pdg_13 rfl (argsL := [.ref o7]) (rest := []) rfl rfl (Dr := [(o7, .inl ("java/lang/String", [("java/lang/String", "value", "[B", .ref t8), ("java/lang/String", "coder", "B", .int 0)])), (t8, .inr (.byte, L1.map byV)), (a6, .inr (.char, L1.map Value.int))]) rfl (eS (Or.inl (List.mem_of_getElem? (i := 7) rfl)) (eS (Or.inl (List.mem_of_getElem? (i := 6) rfl)) (eS (Or.inl (List.mem_of_getElem? (i := 5) rfl)) (eS (Or.inl (List.mem_of_getElem? (i := 4) rfl)) (eS (Or.inl (List.mem_of_getElem? (i := 3) rfl)) (eS (Or.inl (List.mem_of_getElem? (i := 2) rfl)) (eS (Or.inl (List.mem_of_getElem? (i := 1) rfl)) (eS (Or.inr ⟨rfl, List.mem_of_getElem? (i := 0) rfl⟩) (eS (Or.inr ⟨rfl, List.mem_of_getElem? (i := 1) rfl⟩) eN))))))))) (G := ?_)
      rintro _ _ _ ⟨o9, rfl, rfl, rfl⟩
      refine Go.norm (D2 := [(o9, .inl ("java/util/Optional", [("java/util/Optional", "value", "Ljava/lang/Object;", .ref e1)])), (o7, .inl ("java/lang/String", [("java/lang/String", "value", "[B", .ref t8), ("java/lang/String", "coder", "B", .int 0)])), (t8, .inr (.byte, L1.map byV)), (a6, .inr (.char, L1.map Value.int))]) (S2 := [(op, .inl ("java/util/Optional", [("java/util/Optional", "value", "Ljava/lang/Object;", .null)])), (b2, .inr (.byte, L2.map byV)), (w2, .inl ("java/lang/String", [("java/lang/String", "value", "[B", .ref b2), ("java/lang/String", "coder", "B", .int 0)])), (b1, .inr (.byte, L1.map byV)), (w1, .inl ("java/lang/String", [("java/lang/String", "value", "[B", .ref b1), ("java/lang/String", "coder", "B", .int 0)])), (e2, .inl ("com/example/gyro/gyro/webhook/EventType", [("com/example/gyro/gyro/webhook/EventType", "wireName", "Ljava/lang/String;", .ref w2)])), (e1, .inl ("com/example/gyro/gyro/webhook/EventType", [("com/example/gyro/gyro/webhook/EventType", "wireName", "Ljava/lang/String;", .ref w1)])), (va, .inr (.object "com/example/gyro/gyro/webhook/EventType", [.ref e1, .ref e2]))]) (c2 := 5) (s2 := 39) (st2 := [.ref o9]) ?_
      refine Go.aconstNull d17_373 (G := ?_)
      refine Go.invokevirtual true d17_374 (hw _ (List.mem_of_getElem? (i := 85) rfl)) (hw _ (List.mem_of_getElem? (i := 86) rfl)) (hw _ (List.mem_of_getElem? (i := 88) rfl)) (hw _ (List.mem_of_getElem? (i := 87) rfl)) (hw _ (List.mem_of_getElem? (i := 70) rfl)) (hw _ (List.mem_of_getElem? (i := 89) rfl)) (nfSel (hw _ (List.mem_of_getElem? (i := 88) rfl))) (inD (i := 0) rfl) (c_or1 hw o9 e1) pdg_5 rfl (argsL := [.null]) (rest := []) rfl rfl (Dr := [(o9, .inl ("java/util/Optional", [("java/util/Optional", "value", "Ljava/lang/Object;", .ref e1)])), (o7, .inl ("java/lang/String", [("java/lang/String", "value", "[B", .ref t8), ("java/lang/String", "coder", "B", .int 0)])), (t8, .inr (.byte, L1.map byV)), (a6, .inr (.char, L1.map Value.int))]) rfl (eS (Or.inr ⟨rfl, List.mem_of_getElem? (i := 0) rfl⟩) eN) (G := ?_)
      rintro _ _ _ ⟨rfl, rfl, rfl⟩
      refine Go.norm (D2 := [(o9, .inl ("java/util/Optional", [("java/util/Optional", "value", "Ljava/lang/Object;", .ref e1)])), (o7, .inl ("java/lang/String", [("java/lang/String", "value", "[B", .ref t8), ("java/lang/String", "coder", "B", .int 0)])), (t8, .inr (.byte, L1.map byV)), (a6, .inr (.char, L1.map Value.int))]) (S2 := [(op, .inl ("java/util/Optional", [("java/util/Optional", "value", "Ljava/lang/Object;", .null)])), (b2, .inr (.byte, L2.map byV)), (w2, .inl ("java/lang/String", [("java/lang/String", "value", "[B", .ref b2), ("java/lang/String", "coder", "B", .int 0)])), (b1, .inr (.byte, L1.map byV)), (w1, .inl ("java/lang/String", [("java/lang/String", "value", "[B", .ref b1), ("java/lang/String", "coder", "B", .int 0)])), (e2, .inl ("com/example/gyro/gyro/webhook/EventType", [("com/example/gyro/gyro/webhook/EventType", "wireName", "Ljava/lang/String;", .ref w2)])), (e1, .inl ("com/example/gyro/gyro/webhook/EventType", [("com/example/gyro/gyro/webhook/EventType", "wireName", "Ljava/lang/String;", .ref w1)])), (va, .inr (.object "com/example/gyro/gyro/webhook/EventType", [.ref e1, .ref e2]))]) (c2 := 5) (s2 := 39) (st2 := [.ref e1]) ?_
      refine Go.checkcast d17_377 (hw _ (List.mem_of_getElem? (i := 90) rfl)) (inS (i := 6) rfl) (Or.inl rfl) (G := ?_)
      refine Go.astore d17_380 (Ls' := #[.val (.int sel), .val (.int pos), .val (.int c), .val (.int d0), .val (.int d1), .val (.int d2), .val (.int 0), .val (.int 0), .val (.int ch), .val (.ref o7), .val (.ref e1), .val (.ref e1), .val (.ref a6), .unset, .unset]) rfl (G := ?_)
      refine Go.aload d17_382 rfl (G := ?_)
      refine Go.aload d17_384 rfl (G := ?_)
      refine Go.acmpne d17_386 (pc2 := 393) (Gy := fun h => absurd rfl h) (Gn := fun _ => ?_)
      refine Go.iconst d17_389 (v := 1) rfl (G := ?_)
      refine Go.goto d17_390 (pc2 := 394) (G := ?_)
      refine Go.sub [] (by decide) rfl (D' := []) rfl (S' := []) eN (G := ?_)
      exact Go.retB d17_394 (by simp) (z' := 1) rfl ⟨rfl, rfl, rfl⟩
    · skip
      refine Go.iloadN d17_0 rfl (G := ?_)
      refine Go.iconst d17_1 (v := 3) rfl (G := ?_)
      refine Go.iand d17_2 (z := 0) hkd (G := ?_)
      refine Go.istore d17_3 (Ls' := #[.val (.int sel), .val (.int pos), .val (.int c), .val (.int d0), .val (.int d1), .val (.int d2), .val (.int 0), .unset, .unset, .unset, .unset, .unset, .unset, .unset, .unset]) rfl (G := ?_)
      refine Go.iloadN d17_5 rfl (G := ?_)
      refine Go.iconst d17_6 (v := 2) rfl (G := ?_)
      refine Go.iushr d17_7 (z := (ush sel 2)) rfl (G := ?_)
      refine Go.iconst d17_8 (v := 3) rfl (G := ?_)
      refine Go.iand d17_9 (z := 1) hvr (G := ?_)
      refine Go.istore d17_10 (Ls' := #[.val (.int sel), .val (.int pos), .val (.int c), .val (.int d0), .val (.int d1), .val (.int d2), .val (.int 0), .val (.int 1), .unset, .unset, .unset, .unset, .unset, .unset, .unset]) rfl (G := ?_)
      refine Go.iloadN d17_12 rfl (G := ?_)
      refine Go.sipush d17_13 (v := 255) rfl (G := ?_)
      refine Go.iand d17_16 (z := (c &&& 255)) rfl (G := ?_)
      refine Go.i2c d17_17 (z := ch) ((i2c_mask _).trans hche) (G := ?_)
      refine Go.istore d17_18 (Ls' := #[.val (.int sel), .val (.int pos), .val (.int c), .val (.int d0), .val (.int d1), .val (.int d2), .val (.int 0), .val (.int 1), .val (.int ch), .unset, .unset, .unset, .unset, .unset, .unset]) rfl (G := ?_)
      refine Go.iload d17_20 rfl (G := ?_)
      refine Go.ifc d17_22 (pc2 := 31) (Gy := fun _ => ?_) (Gn := fun h => absurd (show (0 : Int32) = 0 by decide) h)
      refine Go.iload d17_31 rfl (G := ?_)
      refine Go.ifc d17_33 (pc2 := 42) (Gy := fun h => absurd h (show ¬ (¬ (0 : Int32) = 0) by decide)) (Gn := fun _ => ?_)
      refine Go.getstatic d17_36 (host := "") (Or.inl (hw _ (List.mem_of_getElem? (i := 0) rfl))) Via.refl hCC (G := ?_)
      refine Go.goto d17_39 (pc2 := 45) (G := ?_)
      refine Go.astore d17_45 (Ls' := #[.val (.int sel), .val (.int pos), .val (.int c), .val (.int d0), .val (.int d1), .val (.int d2), .val (.int 0), .val (.int 1), .val (.int ch), .unset, .unset, .val (.ref e1), .unset, .unset, .unset]) rfl (G := ?_)
      refine Go.iload d17_47 rfl (G := ?_)
      refine Go.iconst d17_49 (v := 2) rfl (G := ?_)
      refine Go.icmp d17_50 (pc2 := 92) (Gy := fun _ => ?_) (Gn := fun h => absurd (show ¬ (1 : Int32) = 2 by decide) h)
      refine Go.iload d17_92 rfl (G := ?_)
      refine Go.iconst d17_94 (v := 1) rfl (G := ?_)
      refine Go.icmp d17_95 (pc2 := 173) (Gy := fun h => absurd h (show ¬ (¬ (1 : Int32) = 1) by decide)) (Gn := fun _ => ?_)
      refine Go.iload d17_98 rfl (G := ?_)
      refine Go.ifc d17_100 (pc2 := 112) (Gy := fun h => absurd h (show ¬ (¬ (0 : Int32) = 0) by decide)) (Gn := fun _ => ?_)
      refine Go.iconst d17_103 (v := 0) rfl (G := ?_)
      refine Go.iload d17_104 rfl (G := ?_)
      refine Go.invokestatic false d17_106 (hw _ (List.mem_of_getElem? (i := 3) rfl)) (hw _ (List.mem_of_getElem? (i := 4) rfl)) (hw _ (List.mem_of_getElem? (i := 5) rfl)) (hw _ (List.mem_of_getElem? (i := 6) rfl)) (c_custF hw ch hch) pdg_11 rfl (argsL := [.int 0, .int ch]) (rest := []) rfl rfl (Dr := []) rfl eN (G := ?_)
      rintro _ _ _ ⟨a16, rfl, rfl, rfl⟩
      refine Go.norm (D2 := [(a16, .inr (.char, L1.map Value.int))]) (S2 := [(op, .inl ("java/util/Optional", [("java/util/Optional", "value", "Ljava/lang/Object;", .null)])), (b2, .inr (.byte, L2.map byV)), (w2, .inl ("java/lang/String", [("java/lang/String", "value", "[B", .ref b2), ("java/lang/String", "coder", "B", .int 0)])), (b1, .inr (.byte, L1.map byV)), (w1, .inl ("java/lang/String", [("java/lang/String", "value", "[B", .ref b1), ("java/lang/String", "coder", "B", .int 0)])), (e2, .inl ("com/example/gyro/gyro/webhook/EventType", [("com/example/gyro/gyro/webhook/EventType", "wireName", "Ljava/lang/String;", .ref w2)])), (e1, .inl ("com/example/gyro/gyro/webhook/EventType", [("com/example/gyro/gyro/webhook/EventType", "wireName", "Ljava/lang/String;", .ref w1)])), (va, .inr (.object "com/example/gyro/gyro/webhook/EventType", [.ref e1, .ref e2]))]) (c2 := 1) (s2 := 16) (st2 := [.ref a16]) ?_
      refine Go.goto d17_109 (pc2 := 118) (G := ?_)
      refine Go.astore d17_118 (Ls' := #[.val (.int sel), .val (.int pos), .val (.int c), .val (.int d0), .val (.int d1), .val (.int d2), .val (.int 0), .val (.int 1), .val (.int ch), .unset, .unset, .val (.ref e1), .val (.ref a16), .unset, .unset]) rfl (G := ?_)
      refine Go.iloadN d17_120 rfl (G := ?_)
      refine Go.ldcInt d17_121 (hw _ (List.mem_of_getElem? (i := 92) rfl)) (G := ?_)
      refine Go.iand d17_123 (z := (pos &&& 2147483647)) rfl (G := ?_)
      refine Go.aload d17_124 rfl (G := ?_)
      refine Go.arraylength d17_126 (inD (i := 0) rfl) (n := 16) rfl (G := ?_)
      obtain ⟨j, hj, hjl, hjn⟩ := rem_at pos 16 16 rfl (by decide) (by decide)
      obtain ⟨og, hog⟩ : ∃ u, L1[j]? = some u := ⟨_, List.getElem?_eq_getElem hjl⟩
      refine Go.irem d17_127 (by decide) (z := ((pos &&& 2147483647) % 16)) rfl (G := ?_)
      refine Go.istore d17_128 (Ls' := #[.val (.int sel), .val (.int pos), .val (.int c), .val (.int d0), .val (.int d1), .val (.int d2), .val (.int 0), .val (.int 1), .val (.int ch), .unset, .unset, .val (.ref e1), .val (.ref a16), .val (.int ((pos &&& 2147483647) % 16)), .unset]) rfl (G := ?_)
      refine Go.aload d17_130 rfl (G := ?_)
      refine Go.iload d17_132 rfl (G := ?_)
      refine Go.caload d17_134 (inD (i := 0) rfl) (v := .int og) (by rw [hj, List.getElem?_map, hog]; rfl) hjn (G := ?_)
      refine Go.istore d17_135 (Ls' := #[.val (.int sel), .val (.int pos), .val (.int c), .val (.int d0), .val (.int d1), .val (.int d2), .val (.int 0), .val (.int 1), .val (.int ch), .unset, .unset, .val (.ref e1), .val (.ref a16), .val (.int ((pos &&& 2147483647) % 16)), .val (.int og)]) rfl (G := ?_)
      refine Go.aload d17_137 rfl (G := ?_)
      refine Go.iload d17_139 rfl (G := ?_)
      refine Go.iload d17_141 rfl (G := ?_)
      refine Go.castore d17_143 0 rfl (x' := ch) (nc_of hch) (by rw [hj]; exact hjl) (D' := [(a16, .inr (.char, (L1.set j ch).map Value.int))]) (by rw [hj, List.map_set]; rfl) hjn (G := ?_)
      refine Go.new d17_144 (hw _ (List.mem_of_getElem? (i := 8) rfl)) (hw _ (List.mem_of_getElem? (i := 9) rfl)) (hw _ (List.mem_of_getElem? (i := 10) rfl)) (NewF.cons (Or.inr (hw _ (List.mem_of_getElem? (i := 36) rfl))) (ty := .array .byte) (by decide +kernel) rfl (by simp) (NewF.cons (Or.inr (hw _ (List.mem_of_getElem? (i := 34) rfl))) (ty := .byte) (by decide +kernel) rfl (by simp) NewF.nil)) (G := fun o17 => ?_)
      refine Go.dup d17_147 (G := ?_)
      refine Go.aload d17_148 rfl (G := ?_)
      refine Go.invokeinit true d17_150 rfl (hw _ (List.mem_of_getElem? (i := 11) rfl)) (hw _ (List.mem_of_getElem? (i := 12) rfl)) (hw _ (List.mem_of_getElem? (i := 10) rfl)) (hw _ (List.mem_of_getElem? (i := 13) rfl)) (c_init hw o17 a16 (L1.set j ch) 16 [] cpt hCS hcpt (by rw [List.length_set]; rfl) (by decide) (by decide) (fun u hu => nlat ((lat_set L1_lat hch) u hu))) pdg_12 rfl (argsL := [.ref a16]) (rest := [.ref o17]) rfl rfl (Dr := [(a16, .inr (.char, (L1.set j ch).map Value.int))]) rfl (eS (Or.inr ⟨rfl, List.mem_of_getElem? (i := 0) rfl⟩) eN) (G := ?_)
      rintro _ _ _ ⟨t18, rfl, rfl, rfl⟩
      refine Go.norm (D2 := [(o17, .inl ("java/lang/String", [("java/lang/String", "value", "[B", .ref t18), ("java/lang/String", "coder", "B", .int 0)])), (t18, .inr (.byte, (L1.set j ch).map byV)), (a16, .inr (.char, (L1.set j ch).map Value.int))]) (S2 := [(op, .inl ("java/util/Optional", [("java/util/Optional", "value", "Ljava/lang/Object;", .null)])), (b2, .inr (.byte, L2.map byV)), (w2, .inl ("java/lang/String", [("java/lang/String", "value", "[B", .ref b2), ("java/lang/String", "coder", "B", .int 0)])), (b1, .inr (.byte, L1.map byV)), (w1, .inl ("java/lang/String", [("java/lang/String", "value", "[B", .ref b1), ("java/lang/String", "coder", "B", .int 0)])), (e2, .inl ("com/example/gyro/gyro/webhook/EventType", [("com/example/gyro/gyro/webhook/EventType", "wireName", "Ljava/lang/String;", .ref w2)])), (e1, .inl ("com/example/gyro/gyro/webhook/EventType", [("com/example/gyro/gyro/webhook/EventType", "wireName", "Ljava/lang/String;", .ref w1)])), (va, .inr (.object "com/example/gyro/gyro/webhook/EventType", [.ref e1, .ref e2]))]) (c2 := 3) (s2 := 36) (st2 := [.ref o17]) ?_
      refine Go.astore d17_153 (Ls' := #[.val (.int sel), .val (.int pos), .val (.int c), .val (.int d0), .val (.int d1), .val (.int d2), .val (.int 0), .val (.int 1), .val (.int ch), .val (.ref o17), .unset, .val (.ref e1), .val (.ref a16), .val (.int ((pos &&& 2147483647) % 16)), .val (.int og)]) rfl (G := ?_)
      refine Go.iload d17_155 rfl (G := ?_)
      refine Go.iload d17_157 rfl (G := ?_)
      refine Go.icmp d17_159 (pc2 := 167) (Gy := fun h19 => ?_) (Gn := fun h19 => ?_)
      · have h19 : ¬ ch = og := h19
        refine Go.aconstNull d17_167 (G := ?_)
        refine Go.astore d17_168 (Ls' := #[.val (.int sel), .val (.int pos), .val (.int c), .val (.int d0), .val (.int d1), .val (.int d2), .val (.int 0), .val (.int 1), .val (.int ch), .val (.ref o17), .val .null, .val (.ref e1), .val (.ref a16), .val (.int ((pos &&& 2147483647) % 16)), .val (.int og)]) rfl (G := ?_)
        refine Go.goto d17_170 (pc2 := 210) (G := ?_)
        refine Go.goto d17_210 (pc2 := 368) (G := ?_)
        refine Go.aload d17_368 rfl (G := ?_)
        refine Go.neS (x := (o17, .inl ("java/lang/String", [("java/lang/String", "value", "[B", .ref t18), ("java/lang/String", "coder", "B", .int 0)]))) (y := (w1, .inl ("java/lang/String", [("java/lang/String", "value", "[B", .ref b1), ("java/lang/String", "coder", "B", .int 0)]))) (List.mem_of_getElem? (i := 0) rfl) (List.mem_of_getElem? (i := 4) rfl) (fun hx1 => ?_)
        refine Go.neS (x := (o17, .inl ("java/lang/String", [("java/lang/String", "value", "[B", .ref t18), ("java/lang/String", "coder", "B", .int 0)]))) (y := (w2, .inl ("java/lang/String", [("java/lang/String", "value", "[B", .ref b2), ("java/lang/String", "coder", "B", .int 0)]))) (List.mem_of_getElem? (i := 0) rfl) (List.mem_of_getElem? (i := 2) rfl) (fun hx2 => ?_)
        refine Go.invokestatic true d17_370 (hw _ (List.mem_of_getElem? (i := 37) rfl)) (hw _ (List.mem_of_getElem? (i := 38) rfl)) (hw _ (List.mem_of_getElem? (i := 1) rfl)) (hw _ (List.mem_of_getElem? (i := 39) rfl)) (c_p0 hw va e1 e2 w1 b1 w2 b2 op hV hVE hOP o17 t18 (L1.set j ch) 16 cpt hCS hcpt (Ne.symm hx1) (Ne.symm hx2) (by rw [List.length_set]; rfl) (by decide) (lat_set L1_lat hch) (set_ne hog h19) (ne_len (by simp [L1, L2]))) pdg_13 rfl (argsL := [.ref o17]) (rest := []) rfl rfl (Dr := [(o17, .inl ("java/lang/String", [("java/lang/String", "value", "[B", .ref t18), ("java/lang/String", "coder", "B", .int 0)])), (t18, .inr (.byte, (L1.set j ch).map byV)), (a16, .inr (.char, (L1.set j ch).map Value.int))]) rfl (eS (Or.inl (List.mem_of_getElem? (i := 7) rfl)) (eS (Or.inl (List.mem_of_getElem? (i := 6) rfl)) (eS (Or.inl (List.mem_of_getElem? (i := 5) rfl)) (eS (Or.inl (List.mem_of_getElem? (i := 4) rfl)) (eS (Or.inl (List.mem_of_getElem? (i := 3) rfl)) (eS (Or.inl (List.mem_of_getElem? (i := 2) rfl)) (eS (Or.inl (List.mem_of_getElem? (i := 1) rfl)) (eS (Or.inr ⟨rfl, List.mem_of_getElem? (i := 0) rfl⟩) (eS (Or.inr ⟨rfl, List.mem_of_getElem? (i := 1) rfl⟩) eN))))))))) (G := ?_)
        rintro _ _ _ ⟨rfl, rfl, rfl⟩
        refine Go.norm (D2 := [(o17, .inl ("java/lang/String", [("java/lang/String", "value", "[B", .ref t18), ("java/lang/String", "coder", "B", .int 0)])), (t18, .inr (.byte, (L1.set j ch).map byV)), (a16, .inr (.char, (L1.set j ch).map Value.int))]) (S2 := [(op, .inl ("java/util/Optional", [("java/util/Optional", "value", "Ljava/lang/Object;", .null)])), (b2, .inr (.byte, L2.map byV)), (w2, .inl ("java/lang/String", [("java/lang/String", "value", "[B", .ref b2), ("java/lang/String", "coder", "B", .int 0)])), (b1, .inr (.byte, L1.map byV)), (w1, .inl ("java/lang/String", [("java/lang/String", "value", "[B", .ref b1), ("java/lang/String", "coder", "B", .int 0)])), (e2, .inl ("com/example/gyro/gyro/webhook/EventType", [("com/example/gyro/gyro/webhook/EventType", "wireName", "Ljava/lang/String;", .ref w2)])), (e1, .inl ("com/example/gyro/gyro/webhook/EventType", [("com/example/gyro/gyro/webhook/EventType", "wireName", "Ljava/lang/String;", .ref w1)])), (va, .inr (.object "com/example/gyro/gyro/webhook/EventType", [.ref e1, .ref e2]))]) (c2 := 5) (s2 := 39) (st2 := [.ref op]) ?_
        refine Go.aconstNull d17_373 (G := ?_)
        refine Go.invokevirtual false d17_374 (hw _ (List.mem_of_getElem? (i := 85) rfl)) (hw _ (List.mem_of_getElem? (i := 86) rfl)) (hw _ (List.mem_of_getElem? (i := 88) rfl)) (hw _ (List.mem_of_getElem? (i := 87) rfl)) (hw _ (List.mem_of_getElem? (i := 70) rfl)) (hw _ (List.mem_of_getElem? (i := 89) rfl)) (nfSel (hw _ (List.mem_of_getElem? (i := 88) rfl))) (inS (i := 0) rfl) (c_or0 hw op) pdg_5 rfl (argsL := [.null]) (rest := []) rfl rfl (Dr := [(o17, .inl ("java/lang/String", [("java/lang/String", "value", "[B", .ref t18), ("java/lang/String", "coder", "B", .int 0)])), (t18, .inr (.byte, (L1.set j ch).map byV)), (a16, .inr (.char, (L1.set j ch).map Value.int))]) rfl (eS (Or.inl (List.mem_of_getElem? (i := 0) rfl)) eN) (G := ?_)
        rintro _ _ _ ⟨rfl, rfl, rfl⟩
        refine Go.norm (D2 := [(o17, .inl ("java/lang/String", [("java/lang/String", "value", "[B", .ref t18), ("java/lang/String", "coder", "B", .int 0)])), (t18, .inr (.byte, (L1.set j ch).map byV)), (a16, .inr (.char, (L1.set j ch).map Value.int))]) (S2 := [(op, .inl ("java/util/Optional", [("java/util/Optional", "value", "Ljava/lang/Object;", .null)])), (b2, .inr (.byte, L2.map byV)), (w2, .inl ("java/lang/String", [("java/lang/String", "value", "[B", .ref b2), ("java/lang/String", "coder", "B", .int 0)])), (b1, .inr (.byte, L1.map byV)), (w1, .inl ("java/lang/String", [("java/lang/String", "value", "[B", .ref b1), ("java/lang/String", "coder", "B", .int 0)])), (e2, .inl ("com/example/gyro/gyro/webhook/EventType", [("com/example/gyro/gyro/webhook/EventType", "wireName", "Ljava/lang/String;", .ref w2)])), (e1, .inl ("com/example/gyro/gyro/webhook/EventType", [("com/example/gyro/gyro/webhook/EventType", "wireName", "Ljava/lang/String;", .ref w1)])), (va, .inr (.object "com/example/gyro/gyro/webhook/EventType", [.ref e1, .ref e2]))]) (c2 := 5) (s2 := 39) (st2 := [.null]) ?_
        refine Go.checkcastNull d17_377 (G := ?_)
        refine Go.astore d17_380 (Ls' := #[.val (.int sel), .val (.int pos), .val (.int c), .val (.int d0), .val (.int d1), .val (.int d2), .val (.int 0), .val (.int 1), .val (.int ch), .val (.ref o17), .val .null, .val .null, .val (.ref a16), .val (.int ((pos &&& 2147483647) % 16)), .val (.int og)]) rfl (G := ?_)
        refine Go.aload d17_382 rfl (G := ?_)
        refine Go.aload d17_384 rfl (G := ?_)
        refine Go.acmpne d17_386 (pc2 := 393) (Gy := fun h => absurd rfl h) (Gn := fun _ => ?_)
        refine Go.iconst d17_389 (v := 1) rfl (G := ?_)
        refine Go.goto d17_390 (pc2 := 394) (G := ?_)
        refine Go.sub [] (by decide) rfl (D' := []) rfl (S' := []) eN (G := ?_)
        exact Go.retB d17_394 (by simp) (z' := 1) rfl ⟨rfl, rfl, rfl⟩
      · have h19 : ch = og := Classical.not_not.mp h19
        refine Go.aload d17_162 rfl (G := ?_)
        refine Go.goto d17_164 (pc2 := 168) (G := ?_)
        refine Go.astore d17_168 (Ls' := #[.val (.int sel), .val (.int pos), .val (.int c), .val (.int d0), .val (.int d1), .val (.int d2), .val (.int 0), .val (.int 1), .val (.int ch), .val (.ref o17), .val (.ref e1), .val (.ref e1), .val (.ref a16), .val (.int ((pos &&& 2147483647) % 16)), .val (.int og)]) rfl (G := ?_)
        refine Go.goto d17_170 (pc2 := 210) (G := ?_)
        refine Go.goto d17_210 (pc2 := 368) (G := ?_)
        refine Go.aload d17_368 rfl (G := ?_)
        refine Go.neS (x := (o17, .inl ("java/lang/String", [("java/lang/String", "value", "[B", .ref t18), ("java/lang/String", "coder", "B", .int 0)]))) (y := (w1, .inl ("java/lang/String", [("java/lang/String", "value", "[B", .ref b1), ("java/lang/String", "coder", "B", .int 0)]))) (List.mem_of_getElem? (i := 0) rfl) (List.mem_of_getElem? (i := 4) rfl) (fun hx1 => ?_)
        refine Go.neS (x := (o17, .inl ("java/lang/String", [("java/lang/String", "value", "[B", .ref t18), ("java/lang/String", "coder", "B", .int 0)]))) (y := (w2, .inl ("java/lang/String", [("java/lang/String", "value", "[B", .ref b2), ("java/lang/String", "coder", "B", .int 0)]))) (List.mem_of_getElem? (i := 0) rfl) (List.mem_of_getElem? (i := 2) rfl) (fun hx2 => ?_)
        refine Go.invokestatic true d17_370 (hw _ (List.mem_of_getElem? (i := 37) rfl)) (hw _ (List.mem_of_getElem? (i := 38) rfl)) (hw _ (List.mem_of_getElem? (i := 1) rfl)) (hw _ (List.mem_of_getElem? (i := 39) rfl)) (c_p1 hw va e1 e2 w1 b1 w2 b2 op hV hVE hOP o17 t18 (L1.set j ch) 16 cpt hCS hcpt (Ne.symm hx1) (Ne.symm hx2) (by rw [List.length_set]; rfl) (by decide) (lat_set L1_lat hch) (by rw [h19]; exact set_same hog)) pdg_13 rfl (argsL := [.ref o17]) (rest := []) rfl rfl (Dr := [(o17, .inl ("java/lang/String", [("java/lang/String", "value", "[B", .ref t18), ("java/lang/String", "coder", "B", .int 0)])), (t18, .inr (.byte, (L1.set j ch).map byV)), (a16, .inr (.char, (L1.set j ch).map Value.int))]) rfl (eS (Or.inl (List.mem_of_getElem? (i := 7) rfl)) (eS (Or.inl (List.mem_of_getElem? (i := 6) rfl)) (eS (Or.inl (List.mem_of_getElem? (i := 5) rfl)) (eS (Or.inl (List.mem_of_getElem? (i := 4) rfl)) (eS (Or.inl (List.mem_of_getElem? (i := 3) rfl)) (eS (Or.inl (List.mem_of_getElem? (i := 2) rfl)) (eS (Or.inl (List.mem_of_getElem? (i := 1) rfl)) (eS (Or.inr ⟨rfl, List.mem_of_getElem? (i := 0) rfl⟩) (eS (Or.inr ⟨rfl, List.mem_of_getElem? (i := 1) rfl⟩) eN))))))))) (G := ?_)
        rintro _ _ _ ⟨o21, rfl, rfl, rfl⟩
        refine Go.norm (D2 := [(o21, .inl ("java/util/Optional", [("java/util/Optional", "value", "Ljava/lang/Object;", .ref e1)])), (o17, .inl ("java/lang/String", [("java/lang/String", "value", "[B", .ref t18), ("java/lang/String", "coder", "B", .int 0)])), (t18, .inr (.byte, (L1.set j ch).map byV)), (a16, .inr (.char, (L1.set j ch).map Value.int))]) (S2 := [(op, .inl ("java/util/Optional", [("java/util/Optional", "value", "Ljava/lang/Object;", .null)])), (b2, .inr (.byte, L2.map byV)), (w2, .inl ("java/lang/String", [("java/lang/String", "value", "[B", .ref b2), ("java/lang/String", "coder", "B", .int 0)])), (b1, .inr (.byte, L1.map byV)), (w1, .inl ("java/lang/String", [("java/lang/String", "value", "[B", .ref b1), ("java/lang/String", "coder", "B", .int 0)])), (e2, .inl ("com/example/gyro/gyro/webhook/EventType", [("com/example/gyro/gyro/webhook/EventType", "wireName", "Ljava/lang/String;", .ref w2)])), (e1, .inl ("com/example/gyro/gyro/webhook/EventType", [("com/example/gyro/gyro/webhook/EventType", "wireName", "Ljava/lang/String;", .ref w1)])), (va, .inr (.object "com/example/gyro/gyro/webhook/EventType", [.ref e1, .ref e2]))]) (c2 := 5) (s2 := 39) (st2 := [.ref o21]) ?_
        refine Go.aconstNull d17_373 (G := ?_)
        refine Go.invokevirtual true d17_374 (hw _ (List.mem_of_getElem? (i := 85) rfl)) (hw _ (List.mem_of_getElem? (i := 86) rfl)) (hw _ (List.mem_of_getElem? (i := 88) rfl)) (hw _ (List.mem_of_getElem? (i := 87) rfl)) (hw _ (List.mem_of_getElem? (i := 70) rfl)) (hw _ (List.mem_of_getElem? (i := 89) rfl)) (nfSel (hw _ (List.mem_of_getElem? (i := 88) rfl))) (inD (i := 0) rfl) (c_or1 hw o21 e1) pdg_5 rfl (argsL := [.null]) (rest := []) rfl rfl (Dr := [(o21, .inl ("java/util/Optional", [("java/util/Optional", "value", "Ljava/lang/Object;", .ref e1)])), (o17, .inl ("java/lang/String", [("java/lang/String", "value", "[B", .ref t18), ("java/lang/String", "coder", "B", .int 0)])), (t18, .inr (.byte, (L1.set j ch).map byV)), (a16, .inr (.char, (L1.set j ch).map Value.int))]) rfl (eS (Or.inr ⟨rfl, List.mem_of_getElem? (i := 0) rfl⟩) eN) (G := ?_)
        rintro _ _ _ ⟨rfl, rfl, rfl⟩
        refine Go.norm (D2 := [(o21, .inl ("java/util/Optional", [("java/util/Optional", "value", "Ljava/lang/Object;", .ref e1)])), (o17, .inl ("java/lang/String", [("java/lang/String", "value", "[B", .ref t18), ("java/lang/String", "coder", "B", .int 0)])), (t18, .inr (.byte, (L1.set j ch).map byV)), (a16, .inr (.char, (L1.set j ch).map Value.int))]) (S2 := [(op, .inl ("java/util/Optional", [("java/util/Optional", "value", "Ljava/lang/Object;", .null)])), (b2, .inr (.byte, L2.map byV)), (w2, .inl ("java/lang/String", [("java/lang/String", "value", "[B", .ref b2), ("java/lang/String", "coder", "B", .int 0)])), (b1, .inr (.byte, L1.map byV)), (w1, .inl ("java/lang/String", [("java/lang/String", "value", "[B", .ref b1), ("java/lang/String", "coder", "B", .int 0)])), (e2, .inl ("com/example/gyro/gyro/webhook/EventType", [("com/example/gyro/gyro/webhook/EventType", "wireName", "Ljava/lang/String;", .ref w2)])), (e1, .inl ("com/example/gyro/gyro/webhook/EventType", [("com/example/gyro/gyro/webhook/EventType", "wireName", "Ljava/lang/String;", .ref w1)])), (va, .inr (.object "com/example/gyro/gyro/webhook/EventType", [.ref e1, .ref e2]))]) (c2 := 5) (s2 := 39) (st2 := [.ref e1]) ?_
        refine Go.checkcast d17_377 (hw _ (List.mem_of_getElem? (i := 90) rfl)) (inS (i := 6) rfl) (Or.inl rfl) (G := ?_)
        refine Go.astore d17_380 (Ls' := #[.val (.int sel), .val (.int pos), .val (.int c), .val (.int d0), .val (.int d1), .val (.int d2), .val (.int 0), .val (.int 1), .val (.int ch), .val (.ref o17), .val (.ref e1), .val (.ref e1), .val (.ref a16), .val (.int ((pos &&& 2147483647) % 16)), .val (.int og)]) rfl (G := ?_)
        refine Go.aload d17_382 rfl (G := ?_)
        refine Go.aload d17_384 rfl (G := ?_)
        refine Go.acmpne d17_386 (pc2 := 393) (Gy := fun h => absurd rfl h) (Gn := fun _ => ?_)
        refine Go.iconst d17_389 (v := 1) rfl (G := ?_)
        refine Go.goto d17_390 (pc2 := 394) (G := ?_)
        refine Go.sub [] (by decide) rfl (D' := []) rfl (S' := []) eN (G := ?_)
        exact Go.retB d17_394 (by simp) (z' := 1) rfl ⟨rfl, rfl, rfl⟩
    · skip
      refine Go.iloadN d17_0 rfl (G := ?_)
      refine Go.iconst d17_1 (v := 3) rfl (G := ?_)
      refine Go.iand d17_2 (z := 0) hkd (G := ?_)
      refine Go.istore d17_3 (Ls' := #[.val (.int sel), .val (.int pos), .val (.int c), .val (.int d0), .val (.int d1), .val (.int d2), .val (.int 0), .unset, .unset, .unset, .unset, .unset, .unset, .unset, .unset]) rfl (G := ?_)
      refine Go.iloadN d17_5 rfl (G := ?_)
      refine Go.iconst d17_6 (v := 2) rfl (G := ?_)
      refine Go.iushr d17_7 (z := (ush sel 2)) rfl (G := ?_)
      refine Go.iconst d17_8 (v := 3) rfl (G := ?_)
      refine Go.iand d17_9 (z := 2) hvr (G := ?_)
      refine Go.istore d17_10 (Ls' := #[.val (.int sel), .val (.int pos), .val (.int c), .val (.int d0), .val (.int d1), .val (.int d2), .val (.int 0), .val (.int 2), .unset, .unset, .unset, .unset, .unset, .unset, .unset]) rfl (G := ?_)
      refine Go.iloadN d17_12 rfl (G := ?_)
      refine Go.sipush d17_13 (v := 255) rfl (G := ?_)
      refine Go.iand d17_16 (z := (c &&& 255)) rfl (G := ?_)
      refine Go.i2c d17_17 (z := ch) ((i2c_mask _).trans hche) (G := ?_)
      refine Go.istore d17_18 (Ls' := #[.val (.int sel), .val (.int pos), .val (.int c), .val (.int d0), .val (.int d1), .val (.int d2), .val (.int 0), .val (.int 2), .val (.int ch), .unset, .unset, .unset, .unset, .unset, .unset]) rfl (G := ?_)
      refine Go.iload d17_20 rfl (G := ?_)
      refine Go.ifc d17_22 (pc2 := 31) (Gy := fun _ => ?_) (Gn := fun h => absurd (show (0 : Int32) = 0 by decide) h)
      refine Go.iload d17_31 rfl (G := ?_)
      refine Go.ifc d17_33 (pc2 := 42) (Gy := fun h => absurd h (show ¬ (¬ (0 : Int32) = 0) by decide)) (Gn := fun _ => ?_)
      refine Go.getstatic d17_36 (host := "") (Or.inl (hw _ (List.mem_of_getElem? (i := 0) rfl))) Via.refl hCC (G := ?_)
      refine Go.goto d17_39 (pc2 := 45) (G := ?_)
      refine Go.astore d17_45 (Ls' := #[.val (.int sel), .val (.int pos), .val (.int c), .val (.int d0), .val (.int d1), .val (.int d2), .val (.int 0), .val (.int 2), .val (.int ch), .unset, .unset, .val (.ref e1), .unset, .unset, .unset]) rfl (G := ?_)
      refine Go.iload d17_47 rfl (G := ?_)
      refine Go.iconst d17_49 (v := 2) rfl (G := ?_)
      refine Go.icmp d17_50 (pc2 := 92) (Gy := fun h => absurd h (show ¬ (¬ (2 : Int32) = 2) by decide)) (Gn := fun _ => ?_)
      refine Go.iload d17_53 rfl (G := ?_)
      refine Go.ifc d17_55 (pc2 := 67) (Gy := fun h => absurd h (show ¬ (¬ (0 : Int32) = 0) by decide)) (Gn := fun _ => ?_)
      refine Go.iconst d17_58 (v := 1) rfl (G := ?_)
      refine Go.iload d17_59 rfl (G := ?_)
      refine Go.invokestatic false d17_61 (hw _ (List.mem_of_getElem? (i := 3) rfl)) (hw _ (List.mem_of_getElem? (i := 4) rfl)) (hw _ (List.mem_of_getElem? (i := 5) rfl)) (hw _ (List.mem_of_getElem? (i := 6) rfl)) (c_custT hw ch hch) pdg_11 rfl (argsL := [.int 1, .int ch]) (rest := []) rfl rfl (Dr := []) rfl eN (G := ?_)
      rintro _ _ _ ⟨a27, rfl, rfl, rfl⟩
      refine Go.norm (D2 := [(a27, .inr (.char, (L1 ++ [ch]).map Value.int))]) (S2 := [(op, .inl ("java/util/Optional", [("java/util/Optional", "value", "Ljava/lang/Object;", .null)])), (b2, .inr (.byte, L2.map byV)), (w2, .inl ("java/lang/String", [("java/lang/String", "value", "[B", .ref b2), ("java/lang/String", "coder", "B", .int 0)])), (b1, .inr (.byte, L1.map byV)), (w1, .inl ("java/lang/String", [("java/lang/String", "value", "[B", .ref b1), ("java/lang/String", "coder", "B", .int 0)])), (e2, .inl ("com/example/gyro/gyro/webhook/EventType", [("com/example/gyro/gyro/webhook/EventType", "wireName", "Ljava/lang/String;", .ref w2)])), (e1, .inl ("com/example/gyro/gyro/webhook/EventType", [("com/example/gyro/gyro/webhook/EventType", "wireName", "Ljava/lang/String;", .ref w1)])), (va, .inr (.object "com/example/gyro/gyro/webhook/EventType", [.ref e1, .ref e2]))]) (c2 := 1) (s2 := 17) (st2 := [.ref a27]) ?_
      refine Go.goto d17_64 (pc2 := 73) (G := ?_)
      refine Go.astore d17_73 (Ls' := #[.val (.int sel), .val (.int pos), .val (.int c), .val (.int d0), .val (.int d1), .val (.int d2), .val (.int 0), .val (.int 2), .val (.int ch), .unset, .unset, .val (.ref e1), .val (.ref a27), .unset, .unset]) rfl (G := ?_)
      refine Go.new d17_75 (hw _ (List.mem_of_getElem? (i := 8) rfl)) (hw _ (List.mem_of_getElem? (i := 9) rfl)) (hw _ (List.mem_of_getElem? (i := 10) rfl)) (NewF.cons (Or.inr (hw _ (List.mem_of_getElem? (i := 36) rfl))) (ty := .array .byte) (by decide +kernel) rfl (by simp) (NewF.cons (Or.inr (hw _ (List.mem_of_getElem? (i := 34) rfl))) (ty := .byte) (by decide +kernel) rfl (by simp) NewF.nil)) (G := fun o28 => ?_)
      refine Go.dup d17_78 (G := ?_)
      refine Go.aload d17_79 rfl (G := ?_)
      refine Go.invokeinit true d17_81 rfl (hw _ (List.mem_of_getElem? (i := 11) rfl)) (hw _ (List.mem_of_getElem? (i := 12) rfl)) (hw _ (List.mem_of_getElem? (i := 10) rfl)) (hw _ (List.mem_of_getElem? (i := 13) rfl)) (c_init hw o28 a27 (L1 ++ [ch]) 17 [] cpt hCS hcpt rfl (by decide) (by decide) (fun u hu => nlat ((lat_app L1_lat hch) u hu))) pdg_12 rfl (argsL := [.ref a27]) (rest := [.ref o28]) rfl rfl (Dr := [(a27, .inr (.char, (L1 ++ [ch]).map Value.int))]) rfl (eS (Or.inr ⟨rfl, List.mem_of_getElem? (i := 0) rfl⟩) eN) (G := ?_)
      rintro _ _ _ ⟨t29, rfl, rfl, rfl⟩
      refine Go.norm (D2 := [(o28, .inl ("java/lang/String", [("java/lang/String", "value", "[B", .ref t29), ("java/lang/String", "coder", "B", .int 0)])), (t29, .inr (.byte, (L1 ++ [ch]).map byV)), (a27, .inr (.char, (L1 ++ [ch]).map Value.int))]) (S2 := [(op, .inl ("java/util/Optional", [("java/util/Optional", "value", "Ljava/lang/Object;", .null)])), (b2, .inr (.byte, L2.map byV)), (w2, .inl ("java/lang/String", [("java/lang/String", "value", "[B", .ref b2), ("java/lang/String", "coder", "B", .int 0)])), (b1, .inr (.byte, L1.map byV)), (w1, .inl ("java/lang/String", [("java/lang/String", "value", "[B", .ref b1), ("java/lang/String", "coder", "B", .int 0)])), (e2, .inl ("com/example/gyro/gyro/webhook/EventType", [("com/example/gyro/gyro/webhook/EventType", "wireName", "Ljava/lang/String;", .ref w2)])), (e1, .inl ("com/example/gyro/gyro/webhook/EventType", [("com/example/gyro/gyro/webhook/EventType", "wireName", "Ljava/lang/String;", .ref w1)])), (va, .inr (.object "com/example/gyro/gyro/webhook/EventType", [.ref e1, .ref e2]))]) (c2 := 3) (s2 := 38) (st2 := [.ref o28]) ?_
      refine Go.astore d17_84 (Ls' := #[.val (.int sel), .val (.int pos), .val (.int c), .val (.int d0), .val (.int d1), .val (.int d2), .val (.int 0), .val (.int 2), .val (.int ch), .val (.ref o28), .unset, .val (.ref e1), .val (.ref a27), .unset, .unset]) rfl (G := ?_)
      refine Go.aconstNull d17_86 (G := ?_)
      refine Go.astore d17_87 (Ls' := #[.val (.int sel), .val (.int pos), .val (.int c), .val (.int d0), .val (.int d1), .val (.int d2), .val (.int 0), .val (.int 2), .val (.int ch), .val (.ref o28), .val .null, .val (.ref e1), .val (.ref a27), .unset, .unset]) rfl (G := ?_)
      refine Go.goto d17_89 (pc2 := 210) (G := ?_)
      refine Go.goto d17_210 (pc2 := 368) (G := ?_)
      refine Go.aload d17_368 rfl (G := ?_)
      refine Go.neS (x := (o28, .inl ("java/lang/String", [("java/lang/String", "value", "[B", .ref t29), ("java/lang/String", "coder", "B", .int 0)]))) (y := (w1, .inl ("java/lang/String", [("java/lang/String", "value", "[B", .ref b1), ("java/lang/String", "coder", "B", .int 0)]))) (List.mem_of_getElem? (i := 0) rfl) (List.mem_of_getElem? (i := 4) rfl) (fun hx1 => ?_)
      refine Go.neS (x := (o28, .inl ("java/lang/String", [("java/lang/String", "value", "[B", .ref t29), ("java/lang/String", "coder", "B", .int 0)]))) (y := (w2, .inl ("java/lang/String", [("java/lang/String", "value", "[B", .ref b2), ("java/lang/String", "coder", "B", .int 0)]))) (List.mem_of_getElem? (i := 0) rfl) (List.mem_of_getElem? (i := 2) rfl) (fun hx2 => ?_)
      refine Go.invokestatic true d17_370 (hw _ (List.mem_of_getElem? (i := 37) rfl)) (hw _ (List.mem_of_getElem? (i := 38) rfl)) (hw _ (List.mem_of_getElem? (i := 1) rfl)) (hw _ (List.mem_of_getElem? (i := 39) rfl)) (c_p0 hw va e1 e2 w1 b1 w2 b2 op hV hVE hOP o28 t29 (L1 ++ [ch]) 17 cpt hCS hcpt (Ne.symm hx1) (Ne.symm hx2) rfl (by decide) (lat_app L1_lat hch) (ne_len (by simp [L1, L2])) (ne_len (by simp [L1, L2]))) pdg_13 rfl (argsL := [.ref o28]) (rest := []) rfl rfl (Dr := [(o28, .inl ("java/lang/String", [("java/lang/String", "value", "[B", .ref t29), ("java/lang/String", "coder", "B", .int 0)])), (t29, .inr (.byte, (L1 ++ [ch]).map byV)), (a27, .inr (.char, (L1 ++ [ch]).map Value.int))]) rfl (eS (Or.inl (List.mem_of_getElem? (i := 7) rfl)) (eS (Or.inl (List.mem_of_getElem? (i := 6) rfl)) (eS (Or.inl (List.mem_of_getElem? (i := 5) rfl)) (eS (Or.inl (List.mem_of_getElem? (i := 4) rfl)) (eS (Or.inl (List.mem_of_getElem? (i := 3) rfl)) (eS (Or.inl (List.mem_of_getElem? (i := 2) rfl)) (eS (Or.inl (List.mem_of_getElem? (i := 1) rfl)) (eS (Or.inr ⟨rfl, List.mem_of_getElem? (i := 0) rfl⟩) (eS (Or.inr ⟨rfl, List.mem_of_getElem? (i := 1) rfl⟩) eN))))))))) (G := ?_)
      rintro _ _ _ ⟨rfl, rfl, rfl⟩
      refine Go.norm (D2 := [(o28, .inl ("java/lang/String", [("java/lang/String", "value", "[B", .ref t29), ("java/lang/String", "coder", "B", .int 0)])), (t29, .inr (.byte, (L1 ++ [ch]).map byV)), (a27, .inr (.char, (L1 ++ [ch]).map Value.int))]) (S2 := [(op, .inl ("java/util/Optional", [("java/util/Optional", "value", "Ljava/lang/Object;", .null)])), (b2, .inr (.byte, L2.map byV)), (w2, .inl ("java/lang/String", [("java/lang/String", "value", "[B", .ref b2), ("java/lang/String", "coder", "B", .int 0)])), (b1, .inr (.byte, L1.map byV)), (w1, .inl ("java/lang/String", [("java/lang/String", "value", "[B", .ref b1), ("java/lang/String", "coder", "B", .int 0)])), (e2, .inl ("com/example/gyro/gyro/webhook/EventType", [("com/example/gyro/gyro/webhook/EventType", "wireName", "Ljava/lang/String;", .ref w2)])), (e1, .inl ("com/example/gyro/gyro/webhook/EventType", [("com/example/gyro/gyro/webhook/EventType", "wireName", "Ljava/lang/String;", .ref w1)])), (va, .inr (.object "com/example/gyro/gyro/webhook/EventType", [.ref e1, .ref e2]))]) (c2 := 5) (s2 := 41) (st2 := [.ref op]) ?_
      refine Go.aconstNull d17_373 (G := ?_)
      refine Go.invokevirtual false d17_374 (hw _ (List.mem_of_getElem? (i := 85) rfl)) (hw _ (List.mem_of_getElem? (i := 86) rfl)) (hw _ (List.mem_of_getElem? (i := 88) rfl)) (hw _ (List.mem_of_getElem? (i := 87) rfl)) (hw _ (List.mem_of_getElem? (i := 70) rfl)) (hw _ (List.mem_of_getElem? (i := 89) rfl)) (nfSel (hw _ (List.mem_of_getElem? (i := 88) rfl))) (inS (i := 0) rfl) (c_or0 hw op) pdg_5 rfl (argsL := [.null]) (rest := []) rfl rfl (Dr := [(o28, .inl ("java/lang/String", [("java/lang/String", "value", "[B", .ref t29), ("java/lang/String", "coder", "B", .int 0)])), (t29, .inr (.byte, (L1 ++ [ch]).map byV)), (a27, .inr (.char, (L1 ++ [ch]).map Value.int))]) rfl (eS (Or.inl (List.mem_of_getElem? (i := 0) rfl)) eN) (G := ?_)
      rintro _ _ _ ⟨rfl, rfl, rfl⟩
      refine Go.norm (D2 := [(o28, .inl ("java/lang/String", [("java/lang/String", "value", "[B", .ref t29), ("java/lang/String", "coder", "B", .int 0)])), (t29, .inr (.byte, (L1 ++ [ch]).map byV)), (a27, .inr (.char, (L1 ++ [ch]).map Value.int))]) (S2 := [(op, .inl ("java/util/Optional", [("java/util/Optional", "value", "Ljava/lang/Object;", .null)])), (b2, .inr (.byte, L2.map byV)), (w2, .inl ("java/lang/String", [("java/lang/String", "value", "[B", .ref b2), ("java/lang/String", "coder", "B", .int 0)])), (b1, .inr (.byte, L1.map byV)), (w1, .inl ("java/lang/String", [("java/lang/String", "value", "[B", .ref b1), ("java/lang/String", "coder", "B", .int 0)])), (e2, .inl ("com/example/gyro/gyro/webhook/EventType", [("com/example/gyro/gyro/webhook/EventType", "wireName", "Ljava/lang/String;", .ref w2)])), (e1, .inl ("com/example/gyro/gyro/webhook/EventType", [("com/example/gyro/gyro/webhook/EventType", "wireName", "Ljava/lang/String;", .ref w1)])), (va, .inr (.object "com/example/gyro/gyro/webhook/EventType", [.ref e1, .ref e2]))]) (c2 := 5) (s2 := 41) (st2 := [.null]) ?_
      refine Go.checkcastNull d17_377 (G := ?_)
      refine Go.astore d17_380 (Ls' := #[.val (.int sel), .val (.int pos), .val (.int c), .val (.int d0), .val (.int d1), .val (.int d2), .val (.int 0), .val (.int 2), .val (.int ch), .val (.ref o28), .val .null, .val .null, .val (.ref a27), .unset, .unset]) rfl (G := ?_)
      refine Go.aload d17_382 rfl (G := ?_)
      refine Go.aload d17_384 rfl (G := ?_)
      refine Go.acmpne d17_386 (pc2 := 393) (Gy := fun h => absurd rfl h) (Gn := fun _ => ?_)
      refine Go.iconst d17_389 (v := 1) rfl (G := ?_)
      refine Go.goto d17_390 (pc2 := 394) (G := ?_)
      refine Go.sub [] (by decide) rfl (D' := []) rfl (S' := []) eN (G := ?_)
      exact Go.retB d17_394 (by simp) (z' := 1) rfl ⟨rfl, rfl, rfl⟩
    · skip
      refine Go.iloadN d17_0 rfl (G := ?_)
      refine Go.iconst d17_1 (v := 3) rfl (G := ?_)
      refine Go.iand d17_2 (z := 0) hkd (G := ?_)
      refine Go.istore d17_3 (Ls' := #[.val (.int sel), .val (.int pos), .val (.int c), .val (.int d0), .val (.int d1), .val (.int d2), .val (.int 0), .unset, .unset, .unset, .unset, .unset, .unset, .unset, .unset]) rfl (G := ?_)
      refine Go.iloadN d17_5 rfl (G := ?_)
      refine Go.iconst d17_6 (v := 2) rfl (G := ?_)
      refine Go.iushr d17_7 (z := (ush sel 2)) rfl (G := ?_)
      refine Go.iconst d17_8 (v := 3) rfl (G := ?_)
      refine Go.iand d17_9 (z := 3) hvr (G := ?_)
      refine Go.istore d17_10 (Ls' := #[.val (.int sel), .val (.int pos), .val (.int c), .val (.int d0), .val (.int d1), .val (.int d2), .val (.int 0), .val (.int 3), .unset, .unset, .unset, .unset, .unset, .unset, .unset]) rfl (G := ?_)
      refine Go.iloadN d17_12 rfl (G := ?_)
      refine Go.sipush d17_13 (v := 255) rfl (G := ?_)
      refine Go.iand d17_16 (z := (c &&& 255)) rfl (G := ?_)
      refine Go.i2c d17_17 (z := ch) ((i2c_mask _).trans hche) (G := ?_)
      refine Go.istore d17_18 (Ls' := #[.val (.int sel), .val (.int pos), .val (.int c), .val (.int d0), .val (.int d1), .val (.int d2), .val (.int 0), .val (.int 3), .val (.int ch), .unset, .unset, .unset, .unset, .unset, .unset]) rfl (G := ?_)
      refine Go.iload d17_20 rfl (G := ?_)
      refine Go.ifc d17_22 (pc2 := 31) (Gy := fun _ => ?_) (Gn := fun h => absurd (show (0 : Int32) = 0 by decide) h)
      refine Go.iload d17_31 rfl (G := ?_)
      refine Go.ifc d17_33 (pc2 := 42) (Gy := fun h => absurd h (show ¬ (¬ (0 : Int32) = 0) by decide)) (Gn := fun _ => ?_)
      refine Go.getstatic d17_36 (host := "") (Or.inl (hw _ (List.mem_of_getElem? (i := 0) rfl))) Via.refl hCC (G := ?_)
      refine Go.goto d17_39 (pc2 := 45) (G := ?_)
      refine Go.astore d17_45 (Ls' := #[.val (.int sel), .val (.int pos), .val (.int c), .val (.int d0), .val (.int d1), .val (.int d2), .val (.int 0), .val (.int 3), .val (.int ch), .unset, .unset, .val (.ref e1), .unset, .unset, .unset]) rfl (G := ?_)
      refine Go.iload d17_47 rfl (G := ?_)
      refine Go.iconst d17_49 (v := 2) rfl (G := ?_)
      refine Go.icmp d17_50 (pc2 := 92) (Gy := fun _ => ?_) (Gn := fun h => absurd (show ¬ (3 : Int32) = 2 by decide) h)
      refine Go.iload d17_92 rfl (G := ?_)
      refine Go.iconst d17_94 (v := 1) rfl (G := ?_)
      refine Go.icmp d17_95 (pc2 := 173) (Gy := fun _ => ?_) (Gn := fun h => absurd (show ¬ (3 : Int32) = 1 by decide) h)
      refine Go.iload d17_173 rfl (G := ?_)
      refine Go.ifc d17_175 (pc2 := 187) (Gy := fun h => absurd h (show ¬ (¬ (0 : Int32) = 0) by decide)) (Gn := fun _ => ?_)
      refine Go.iconst d17_178 (v := 0) rfl (G := ?_)
      refine Go.iload d17_179 rfl (G := ?_)
      refine Go.invokestatic false d17_181 (hw _ (List.mem_of_getElem? (i := 3) rfl)) (hw _ (List.mem_of_getElem? (i := 4) rfl)) (hw _ (List.mem_of_getElem? (i := 5) rfl)) (hw _ (List.mem_of_getElem? (i := 6) rfl)) (c_custF hw ch hch) pdg_11 rfl (argsL := [.int 0, .int ch]) (rest := []) rfl rfl (Dr := []) rfl eN (G := ?_)
      rintro _ _ _ ⟨a36, rfl, rfl, rfl⟩
      refine Go.norm (D2 := [(a36, .inr (.char, L1.map Value.int))]) (S2 := [(op, .inl ("java/util/Optional", [("java/util/Optional", "value", "Ljava/lang/Object;", .null)])), (b2, .inr (.byte, L2.map byV)), (w2, .inl ("java/lang/String", [("java/lang/String", "value", "[B", .ref b2), ("java/lang/String", "coder", "B", .int 0)])), (b1, .inr (.byte, L1.map byV)), (w1, .inl ("java/lang/String", [("java/lang/String", "value", "[B", .ref b1), ("java/lang/String", "coder", "B", .int 0)])), (e2, .inl ("com/example/gyro/gyro/webhook/EventType", [("com/example/gyro/gyro/webhook/EventType", "wireName", "Ljava/lang/String;", .ref w2)])), (e1, .inl ("com/example/gyro/gyro/webhook/EventType", [("com/example/gyro/gyro/webhook/EventType", "wireName", "Ljava/lang/String;", .ref w1)])), (va, .inr (.object "com/example/gyro/gyro/webhook/EventType", [.ref e1, .ref e2]))]) (c2 := 1) (s2 := 16) (st2 := [.ref a36]) ?_
      refine Go.goto d17_184 (pc2 := 193) (G := ?_)
      refine Go.astore d17_193 (Ls' := #[.val (.int sel), .val (.int pos), .val (.int c), .val (.int d0), .val (.int d1), .val (.int d2), .val (.int 0), .val (.int 3), .val (.int ch), .unset, .unset, .val (.ref e1), .val (.ref a36), .unset, .unset]) rfl (G := ?_)
      refine Go.new d17_195 (hw _ (List.mem_of_getElem? (i := 8) rfl)) (hw _ (List.mem_of_getElem? (i := 9) rfl)) (hw _ (List.mem_of_getElem? (i := 10) rfl)) (NewF.cons (Or.inr (hw _ (List.mem_of_getElem? (i := 36) rfl))) (ty := .array .byte) (by decide +kernel) rfl (by simp) (NewF.cons (Or.inr (hw _ (List.mem_of_getElem? (i := 34) rfl))) (ty := .byte) (by decide +kernel) rfl (by simp) NewF.nil)) (G := fun o37 => ?_)
      refine Go.dup d17_198 (G := ?_)
      refine Go.aload d17_199 rfl (G := ?_)
      refine Go.invokeinit true d17_201 rfl (hw _ (List.mem_of_getElem? (i := 11) rfl)) (hw _ (List.mem_of_getElem? (i := 12) rfl)) (hw _ (List.mem_of_getElem? (i := 10) rfl)) (hw _ (List.mem_of_getElem? (i := 13) rfl)) (c_init hw o37 a36 L1 16 [] cpt hCS hcpt rfl (by decide) (by decide) (fun u hu => nlat (L1_lat u hu))) pdg_12 rfl (argsL := [.ref a36]) (rest := [.ref o37]) rfl rfl (Dr := [(a36, .inr (.char, L1.map Value.int))]) rfl (eS (Or.inr ⟨rfl, List.mem_of_getElem? (i := 0) rfl⟩) eN) (G := ?_)
      rintro _ _ _ ⟨t38, rfl, rfl, rfl⟩
      refine Go.norm (D2 := [(o37, .inl ("java/lang/String", [("java/lang/String", "value", "[B", .ref t38), ("java/lang/String", "coder", "B", .int 0)])), (t38, .inr (.byte, L1.map byV)), (a36, .inr (.char, L1.map Value.int))]) (S2 := [(op, .inl ("java/util/Optional", [("java/util/Optional", "value", "Ljava/lang/Object;", .null)])), (b2, .inr (.byte, L2.map byV)), (w2, .inl ("java/lang/String", [("java/lang/String", "value", "[B", .ref b2), ("java/lang/String", "coder", "B", .int 0)])), (b1, .inr (.byte, L1.map byV)), (w1, .inl ("java/lang/String", [("java/lang/String", "value", "[B", .ref b1), ("java/lang/String", "coder", "B", .int 0)])), (e2, .inl ("com/example/gyro/gyro/webhook/EventType", [("com/example/gyro/gyro/webhook/EventType", "wireName", "Ljava/lang/String;", .ref w2)])), (e1, .inl ("com/example/gyro/gyro/webhook/EventType", [("com/example/gyro/gyro/webhook/EventType", "wireName", "Ljava/lang/String;", .ref w1)])), (va, .inr (.object "com/example/gyro/gyro/webhook/EventType", [.ref e1, .ref e2]))]) (c2 := 3) (s2 := 36) (st2 := [.ref o37]) ?_
      refine Go.astore d17_204 (Ls' := #[.val (.int sel), .val (.int pos), .val (.int c), .val (.int d0), .val (.int d1), .val (.int d2), .val (.int 0), .val (.int 3), .val (.int ch), .val (.ref o37), .unset, .val (.ref e1), .val (.ref a36), .unset, .unset]) rfl (G := ?_)
      refine Go.aload d17_206 rfl (G := ?_)
      refine Go.astore d17_208 (Ls' := #[.val (.int sel), .val (.int pos), .val (.int c), .val (.int d0), .val (.int d1), .val (.int d2), .val (.int 0), .val (.int 3), .val (.int ch), .val (.ref o37), .val (.ref e1), .val (.ref e1), .val (.ref a36), .unset, .unset]) rfl (G := ?_)
      refine Go.goto d17_210 (pc2 := 368) (G := ?_)
      refine Go.aload d17_368 rfl (G := ?_)
      refine Go.neS (x := (o37, .inl ("java/lang/String", [("java/lang/String", "value", "[B", .ref t38), ("java/lang/String", "coder", "B", .int 0)]))) (y := (w1, .inl ("java/lang/String", [("java/lang/String", "value", "[B", .ref b1), ("java/lang/String", "coder", "B", .int 0)]))) (List.mem_of_getElem? (i := 0) rfl) (List.mem_of_getElem? (i := 4) rfl) (fun hx1 => ?_)
      refine Go.neS (x := (o37, .inl ("java/lang/String", [("java/lang/String", "value", "[B", .ref t38), ("java/lang/String", "coder", "B", .int 0)]))) (y := (w2, .inl ("java/lang/String", [("java/lang/String", "value", "[B", .ref b2), ("java/lang/String", "coder", "B", .int 0)]))) (List.mem_of_getElem? (i := 0) rfl) (List.mem_of_getElem? (i := 2) rfl) (fun hx2 => ?_)
      refine Go.invokestatic true d17_370 (hw _ (List.mem_of_getElem? (i := 37) rfl)) (hw _ (List.mem_of_getElem? (i := 38) rfl)) (hw _ (List.mem_of_getElem? (i := 1) rfl)) (hw _ (List.mem_of_getElem? (i := 39) rfl)) (c_p1 hw va e1 e2 w1 b1 w2 b2 op hV hVE hOP o37 t38 L1 16 cpt hCS hcpt (Ne.symm hx1) (Ne.symm hx2) rfl (by decide) L1_lat rfl) pdg_13 rfl (argsL := [.ref o37]) (rest := []) rfl rfl (Dr := [(o37, .inl ("java/lang/String", [("java/lang/String", "value", "[B", .ref t38), ("java/lang/String", "coder", "B", .int 0)])), (t38, .inr (.byte, L1.map byV)), (a36, .inr (.char, L1.map Value.int))]) rfl (eS (Or.inl (List.mem_of_getElem? (i := 7) rfl)) (eS (Or.inl (List.mem_of_getElem? (i := 6) rfl)) (eS (Or.inl (List.mem_of_getElem? (i := 5) rfl)) (eS (Or.inl (List.mem_of_getElem? (i := 4) rfl)) (eS (Or.inl (List.mem_of_getElem? (i := 3) rfl)) (eS (Or.inl (List.mem_of_getElem? (i := 2) rfl)) (eS (Or.inl (List.mem_of_getElem? (i := 1) rfl)) (eS (Or.inr ⟨rfl, List.mem_of_getElem? (i := 0) rfl⟩) (eS (Or.inr ⟨rfl, List.mem_of_getElem? (i := 1) rfl⟩) eN))))))))) (G := ?_)
      rintro _ _ _ ⟨o39, rfl, rfl, rfl⟩
      refine Go.norm (D2 := [(o39, .inl ("java/util/Optional", [("java/util/Optional", "value", "Ljava/lang/Object;", .ref e1)])), (o37, .inl ("java/lang/String", [("java/lang/String", "value", "[B", .ref t38), ("java/lang/String", "coder", "B", .int 0)])), (t38, .inr (.byte, L1.map byV)), (a36, .inr (.char, L1.map Value.int))]) (S2 := [(op, .inl ("java/util/Optional", [("java/util/Optional", "value", "Ljava/lang/Object;", .null)])), (b2, .inr (.byte, L2.map byV)), (w2, .inl ("java/lang/String", [("java/lang/String", "value", "[B", .ref b2), ("java/lang/String", "coder", "B", .int 0)])), (b1, .inr (.byte, L1.map byV)), (w1, .inl ("java/lang/String", [("java/lang/String", "value", "[B", .ref b1), ("java/lang/String", "coder", "B", .int 0)])), (e2, .inl ("com/example/gyro/gyro/webhook/EventType", [("com/example/gyro/gyro/webhook/EventType", "wireName", "Ljava/lang/String;", .ref w2)])), (e1, .inl ("com/example/gyro/gyro/webhook/EventType", [("com/example/gyro/gyro/webhook/EventType", "wireName", "Ljava/lang/String;", .ref w1)])), (va, .inr (.object "com/example/gyro/gyro/webhook/EventType", [.ref e1, .ref e2]))]) (c2 := 5) (s2 := 39) (st2 := [.ref o39]) ?_
      refine Go.aconstNull d17_373 (G := ?_)
      refine Go.invokevirtual true d17_374 (hw _ (List.mem_of_getElem? (i := 85) rfl)) (hw _ (List.mem_of_getElem? (i := 86) rfl)) (hw _ (List.mem_of_getElem? (i := 88) rfl)) (hw _ (List.mem_of_getElem? (i := 87) rfl)) (hw _ (List.mem_of_getElem? (i := 70) rfl)) (hw _ (List.mem_of_getElem? (i := 89) rfl)) (nfSel (hw _ (List.mem_of_getElem? (i := 88) rfl))) (inD (i := 0) rfl) (c_or1 hw o39 e1) pdg_5 rfl (argsL := [.null]) (rest := []) rfl rfl (Dr := [(o39, .inl ("java/util/Optional", [("java/util/Optional", "value", "Ljava/lang/Object;", .ref e1)])), (o37, .inl ("java/lang/String", [("java/lang/String", "value", "[B", .ref t38), ("java/lang/String", "coder", "B", .int 0)])), (t38, .inr (.byte, L1.map byV)), (a36, .inr (.char, L1.map Value.int))]) rfl (eS (Or.inr ⟨rfl, List.mem_of_getElem? (i := 0) rfl⟩) eN) (G := ?_)
      rintro _ _ _ ⟨rfl, rfl, rfl⟩
      refine Go.norm (D2 := [(o39, .inl ("java/util/Optional", [("java/util/Optional", "value", "Ljava/lang/Object;", .ref e1)])), (o37, .inl ("java/lang/String", [("java/lang/String", "value", "[B", .ref t38), ("java/lang/String", "coder", "B", .int 0)])), (t38, .inr (.byte, L1.map byV)), (a36, .inr (.char, L1.map Value.int))]) (S2 := [(op, .inl ("java/util/Optional", [("java/util/Optional", "value", "Ljava/lang/Object;", .null)])), (b2, .inr (.byte, L2.map byV)), (w2, .inl ("java/lang/String", [("java/lang/String", "value", "[B", .ref b2), ("java/lang/String", "coder", "B", .int 0)])), (b1, .inr (.byte, L1.map byV)), (w1, .inl ("java/lang/String", [("java/lang/String", "value", "[B", .ref b1), ("java/lang/String", "coder", "B", .int 0)])), (e2, .inl ("com/example/gyro/gyro/webhook/EventType", [("com/example/gyro/gyro/webhook/EventType", "wireName", "Ljava/lang/String;", .ref w2)])), (e1, .inl ("com/example/gyro/gyro/webhook/EventType", [("com/example/gyro/gyro/webhook/EventType", "wireName", "Ljava/lang/String;", .ref w1)])), (va, .inr (.object "com/example/gyro/gyro/webhook/EventType", [.ref e1, .ref e2]))]) (c2 := 5) (s2 := 39) (st2 := [.ref e1]) ?_
      refine Go.checkcast d17_377 (hw _ (List.mem_of_getElem? (i := 90) rfl)) (inS (i := 6) rfl) (Or.inl rfl) (G := ?_)
      refine Go.astore d17_380 (Ls' := #[.val (.int sel), .val (.int pos), .val (.int c), .val (.int d0), .val (.int d1), .val (.int d2), .val (.int 0), .val (.int 3), .val (.int ch), .val (.ref o37), .val (.ref e1), .val (.ref e1), .val (.ref a36), .unset, .unset]) rfl (G := ?_)
      refine Go.aload d17_382 rfl (G := ?_)
      refine Go.aload d17_384 rfl (G := ?_)
      refine Go.acmpne d17_386 (pc2 := 393) (Gy := fun h => absurd rfl h) (Gn := fun _ => ?_)
      refine Go.iconst d17_389 (v := 1) rfl (G := ?_)
      refine Go.goto d17_390 (pc2 := 394) (G := ?_)
      refine Go.sub [] (by decide) rfl (D' := []) rfl (S' := []) eN (G := ?_)
      exact Go.retB d17_394 (by simp) (z' := 1) rfl ⟨rfl, rfl, rfl⟩
  · skip
    rcases hv4 with rfl | rfl | rfl | rfl
    · skip
      refine Go.iloadN d17_0 rfl (G := ?_)
      refine Go.iconst d17_1 (v := 3) rfl (G := ?_)
      refine Go.iand d17_2 (z := 1) hkd (G := ?_)
      refine Go.istore d17_3 (Ls' := #[.val (.int sel), .val (.int pos), .val (.int c), .val (.int d0), .val (.int d1), .val (.int d2), .val (.int 1), .unset, .unset, .unset, .unset, .unset, .unset, .unset, .unset]) rfl (G := ?_)
      refine Go.iloadN d17_5 rfl (G := ?_)
      refine Go.iconst d17_6 (v := 2) rfl (G := ?_)
      refine Go.iushr d17_7 (z := (ush sel 2)) rfl (G := ?_)
      refine Go.iconst d17_8 (v := 3) rfl (G := ?_)
      refine Go.iand d17_9 (z := 0) hvr (G := ?_)
      refine Go.istore d17_10 (Ls' := #[.val (.int sel), .val (.int pos), .val (.int c), .val (.int d0), .val (.int d1), .val (.int d2), .val (.int 1), .val (.int 0), .unset, .unset, .unset, .unset, .unset, .unset, .unset]) rfl (G := ?_)
      refine Go.iloadN d17_12 rfl (G := ?_)
      refine Go.sipush d17_13 (v := 255) rfl (G := ?_)
      refine Go.iand d17_16 (z := (c &&& 255)) rfl (G := ?_)
      refine Go.i2c d17_17 (z := ch) ((i2c_mask _).trans hche) (G := ?_)
      refine Go.istore d17_18 (Ls' := #[.val (.int sel), .val (.int pos), .val (.int c), .val (.int d0), .val (.int d1), .val (.int d2), .val (.int 1), .val (.int 0), .val (.int ch), .unset, .unset, .unset, .unset, .unset, .unset]) rfl (G := ?_)
      refine Go.iload d17_20 rfl (G := ?_)
      refine Go.ifc d17_22 (pc2 := 31) (Gy := fun h => absurd h (show ¬ ((1 : Int32) = 0) by decide)) (Gn := fun _ => ?_)
      refine Go.iload d17_25 rfl (G := ?_)
      refine Go.iconst d17_27 (v := 1) rfl (G := ?_)
      refine Go.icmp d17_28 (pc2 := 213) (Gy := fun h => absurd h (show ¬ (¬ (1 : Int32) = 1) by decide)) (Gn := fun _ => ?_)
      refine Go.iload d17_31 rfl (G := ?_)
      refine Go.ifc d17_33 (pc2 := 42) (Gy := fun _ => ?_) (Gn := fun h => absurd (show ¬ (1 : Int32) = 0 by decide) h)
      refine Go.getstatic d17_42 (host := "") (Or.inl (hw _ (List.mem_of_getElem? (i := 97) rfl))) Via.refl hSA (G := ?_)
      refine Go.astore d17_45 (Ls' := #[.val (.int sel), .val (.int pos), .val (.int c), .val (.int d0), .val (.int d1), .val (.int d2), .val (.int 1), .val (.int 0), .val (.int ch), .unset, .unset, .val (.ref e2), .unset, .unset, .unset]) rfl (G := ?_)
      refine Go.iload d17_47 rfl (G := ?_)
      refine Go.iconst d17_49 (v := 2) rfl (G := ?_)
      refine Go.icmp d17_50 (pc2 := 92) (Gy := fun _ => ?_) (Gn := fun h => absurd (show ¬ (0 : Int32) = 2 by decide) h)
      refine Go.iload d17_92 rfl (G := ?_)
      refine Go.iconst d17_94 (v := 1) rfl (G := ?_)
      refine Go.icmp d17_95 (pc2 := 173) (Gy := fun _ => ?_) (Gn := fun h => absurd (show ¬ (0 : Int32) = 1 by decide) h)
      refine Go.iload d17_173 rfl (G := ?_)
      refine Go.ifc d17_175 (pc2 := 187) (Gy := fun _ => ?_) (Gn := fun h => absurd (show ¬ (1 : Int32) = 0 by decide) h)
      refine Go.iconst d17_187 (v := 0) rfl (G := ?_)
      refine Go.iload d17_188 rfl (G := ?_)
      refine Go.invokestatic false d17_190 (hw _ (List.mem_of_getElem? (i := 98) rfl)) (hw _ (List.mem_of_getElem? (i := 99) rfl)) (hw _ (List.mem_of_getElem? (i := 5) rfl)) (hw _ (List.mem_of_getElem? (i := 100) rfl)) (c_subsF hw ch hch) pdg_11 rfl (argsL := [.int 0, .int ch]) (rest := []) rfl rfl (Dr := []) rfl eN (G := ?_)
      rintro _ _ _ ⟨a47, rfl, rfl, rfl⟩
      refine Go.norm (D2 := [(a47, .inr (.char, L2.map Value.int))]) (S2 := [(op, .inl ("java/util/Optional", [("java/util/Optional", "value", "Ljava/lang/Object;", .null)])), (b2, .inr (.byte, L2.map byV)), (w2, .inl ("java/lang/String", [("java/lang/String", "value", "[B", .ref b2), ("java/lang/String", "coder", "B", .int 0)])), (b1, .inr (.byte, L1.map byV)), (w1, .inl ("java/lang/String", [("java/lang/String", "value", "[B", .ref b1), ("java/lang/String", "coder", "B", .int 0)])), (e2, .inl ("com/example/gyro/gyro/webhook/EventType", [("com/example/gyro/gyro/webhook/EventType", "wireName", "Ljava/lang/String;", .ref w2)])), (e1, .inl ("com/example/gyro/gyro/webhook/EventType", [("com/example/gyro/gyro/webhook/EventType", "wireName", "Ljava/lang/String;", .ref w1)])), (va, .inr (.object "com/example/gyro/gyro/webhook/EventType", [.ref e1, .ref e2]))]) (c2 := 1) (s2 := 22) (st2 := [.ref a47]) ?_
      refine Go.astore d17_193 (Ls' := #[.val (.int sel), .val (.int pos), .val (.int c), .val (.int d0), .val (.int d1), .val (.int d2), .val (.int 1), .val (.int 0), .val (.int ch), .unset, .unset, .val (.ref e2), .val (.ref a47), .unset, .unset]) rfl (G := ?_)
      refine Go.new d17_195 (hw _ (List.mem_of_getElem? (i := 8) rfl)) (hw _ (List.mem_of_getElem? (i := 9) rfl)) (hw _ (List.mem_of_getElem? (i := 10) rfl)) (NewF.cons (Or.inr (hw _ (List.mem_of_getElem? (i := 36) rfl))) (ty := .array .byte) (by decide +kernel) rfl (by simp) (NewF.cons (Or.inr (hw _ (List.mem_of_getElem? (i := 34) rfl))) (ty := .byte) (by decide +kernel) rfl (by simp) NewF.nil)) (G := fun o48 => ?_)
      refine Go.dup d17_198 (G := ?_)
      refine Go.aload d17_199 rfl (G := ?_)
      refine Go.invokeinit true d17_201 rfl (hw _ (List.mem_of_getElem? (i := 11) rfl)) (hw _ (List.mem_of_getElem? (i := 12) rfl)) (hw _ (List.mem_of_getElem? (i := 10) rfl)) (hw _ (List.mem_of_getElem? (i := 13) rfl)) (c_init hw o48 a47 L2 22 [] cpt hCS hcpt rfl (by decide) (by decide) (fun u hu => nlat (L2_lat u hu))) pdg_12 rfl (argsL := [.ref a47]) (rest := [.ref o48]) rfl rfl (Dr := [(a47, .inr (.char, L2.map Value.int))]) rfl (eS (Or.inr ⟨rfl, List.mem_of_getElem? (i := 0) rfl⟩) eN) (G := ?_)
      rintro _ _ _ ⟨t49, rfl, rfl, rfl⟩
      refine Go.norm (D2 := [(o48, .inl ("java/lang/String", [("java/lang/String", "value", "[B", .ref t49), ("java/lang/String", "coder", "B", .int 0)])), (t49, .inr (.byte, L2.map byV)), (a47, .inr (.char, L2.map Value.int))]) (S2 := [(op, .inl ("java/util/Optional", [("java/util/Optional", "value", "Ljava/lang/Object;", .null)])), (b2, .inr (.byte, L2.map byV)), (w2, .inl ("java/lang/String", [("java/lang/String", "value", "[B", .ref b2), ("java/lang/String", "coder", "B", .int 0)])), (b1, .inr (.byte, L1.map byV)), (w1, .inl ("java/lang/String", [("java/lang/String", "value", "[B", .ref b1), ("java/lang/String", "coder", "B", .int 0)])), (e2, .inl ("com/example/gyro/gyro/webhook/EventType", [("com/example/gyro/gyro/webhook/EventType", "wireName", "Ljava/lang/String;", .ref w2)])), (e1, .inl ("com/example/gyro/gyro/webhook/EventType", [("com/example/gyro/gyro/webhook/EventType", "wireName", "Ljava/lang/String;", .ref w1)])), (va, .inr (.object "com/example/gyro/gyro/webhook/EventType", [.ref e1, .ref e2]))]) (c2 := 3) (s2 := 48) (st2 := [.ref o48]) ?_
      refine Go.astore d17_204 (Ls' := #[.val (.int sel), .val (.int pos), .val (.int c), .val (.int d0), .val (.int d1), .val (.int d2), .val (.int 1), .val (.int 0), .val (.int ch), .val (.ref o48), .unset, .val (.ref e2), .val (.ref a47), .unset, .unset]) rfl (G := ?_)
      refine Go.aload d17_206 rfl (G := ?_)
      refine Go.astore d17_208 (Ls' := #[.val (.int sel), .val (.int pos), .val (.int c), .val (.int d0), .val (.int d1), .val (.int d2), .val (.int 1), .val (.int 0), .val (.int ch), .val (.ref o48), .val (.ref e2), .val (.ref e2), .val (.ref a47), .unset, .unset]) rfl (G := ?_)
      refine Go.goto d17_210 (pc2 := 368) (G := ?_)
      refine Go.aload d17_368 rfl (G := ?_)
      refine Go.neS (x := (o48, .inl ("java/lang/String", [("java/lang/String", "value", "[B", .ref t49), ("java/lang/String", "coder", "B", .int 0)]))) (y := (w1, .inl ("java/lang/String", [("java/lang/String", "value", "[B", .ref b1), ("java/lang/String", "coder", "B", .int 0)]))) (List.mem_of_getElem? (i := 0) rfl) (List.mem_of_getElem? (i := 4) rfl) (fun hx1 => ?_)
      refine Go.neS (x := (o48, .inl ("java/lang/String", [("java/lang/String", "value", "[B", .ref t49), ("java/lang/String", "coder", "B", .int 0)]))) (y := (w2, .inl ("java/lang/String", [("java/lang/String", "value", "[B", .ref b2), ("java/lang/String", "coder", "B", .int 0)]))) (List.mem_of_getElem? (i := 0) rfl) (List.mem_of_getElem? (i := 2) rfl) (fun hx2 => ?_)
      refine Go.invokestatic true d17_370 (hw _ (List.mem_of_getElem? (i := 37) rfl)) (hw _ (List.mem_of_getElem? (i := 38) rfl)) (hw _ (List.mem_of_getElem? (i := 1) rfl)) (hw _ (List.mem_of_getElem? (i := 39) rfl)) (c_p2 hw va e1 e2 w1 b1 w2 b2 op hV hVE hOP o48 t49 L2 22 cpt hCS hcpt (Ne.symm hx1) (Ne.symm hx2) rfl (by decide) L2_lat (ne_len (by simp [L1, L2])) rfl) pdg_13 rfl (argsL := [.ref o48]) (rest := []) rfl rfl (Dr := [(o48, .inl ("java/lang/String", [("java/lang/String", "value", "[B", .ref t49), ("java/lang/String", "coder", "B", .int 0)])), (t49, .inr (.byte, L2.map byV)), (a47, .inr (.char, L2.map Value.int))]) rfl (eS (Or.inl (List.mem_of_getElem? (i := 7) rfl)) (eS (Or.inl (List.mem_of_getElem? (i := 6) rfl)) (eS (Or.inl (List.mem_of_getElem? (i := 5) rfl)) (eS (Or.inl (List.mem_of_getElem? (i := 4) rfl)) (eS (Or.inl (List.mem_of_getElem? (i := 3) rfl)) (eS (Or.inl (List.mem_of_getElem? (i := 2) rfl)) (eS (Or.inl (List.mem_of_getElem? (i := 1) rfl)) (eS (Or.inr ⟨rfl, List.mem_of_getElem? (i := 0) rfl⟩) (eS (Or.inr ⟨rfl, List.mem_of_getElem? (i := 1) rfl⟩) eN))))))))) (G := ?_)
      rintro _ _ _ ⟨o50, rfl, rfl, rfl⟩
      refine Go.norm (D2 := [(o50, .inl ("java/util/Optional", [("java/util/Optional", "value", "Ljava/lang/Object;", .ref e2)])), (o48, .inl ("java/lang/String", [("java/lang/String", "value", "[B", .ref t49), ("java/lang/String", "coder", "B", .int 0)])), (t49, .inr (.byte, L2.map byV)), (a47, .inr (.char, L2.map Value.int))]) (S2 := [(op, .inl ("java/util/Optional", [("java/util/Optional", "value", "Ljava/lang/Object;", .null)])), (b2, .inr (.byte, L2.map byV)), (w2, .inl ("java/lang/String", [("java/lang/String", "value", "[B", .ref b2), ("java/lang/String", "coder", "B", .int 0)])), (b1, .inr (.byte, L1.map byV)), (w1, .inl ("java/lang/String", [("java/lang/String", "value", "[B", .ref b1), ("java/lang/String", "coder", "B", .int 0)])), (e2, .inl ("com/example/gyro/gyro/webhook/EventType", [("com/example/gyro/gyro/webhook/EventType", "wireName", "Ljava/lang/String;", .ref w2)])), (e1, .inl ("com/example/gyro/gyro/webhook/EventType", [("com/example/gyro/gyro/webhook/EventType", "wireName", "Ljava/lang/String;", .ref w1)])), (va, .inr (.object "com/example/gyro/gyro/webhook/EventType", [.ref e1, .ref e2]))]) (c2 := 5) (s2 := 51) (st2 := [.ref o50]) ?_
      refine Go.aconstNull d17_373 (G := ?_)
      refine Go.invokevirtual true d17_374 (hw _ (List.mem_of_getElem? (i := 85) rfl)) (hw _ (List.mem_of_getElem? (i := 86) rfl)) (hw _ (List.mem_of_getElem? (i := 88) rfl)) (hw _ (List.mem_of_getElem? (i := 87) rfl)) (hw _ (List.mem_of_getElem? (i := 70) rfl)) (hw _ (List.mem_of_getElem? (i := 89) rfl)) (nfSel (hw _ (List.mem_of_getElem? (i := 88) rfl))) (inD (i := 0) rfl) (c_or1 hw o50 e2) pdg_5 rfl (argsL := [.null]) (rest := []) rfl rfl (Dr := [(o50, .inl ("java/util/Optional", [("java/util/Optional", "value", "Ljava/lang/Object;", .ref e2)])), (o48, .inl ("java/lang/String", [("java/lang/String", "value", "[B", .ref t49), ("java/lang/String", "coder", "B", .int 0)])), (t49, .inr (.byte, L2.map byV)), (a47, .inr (.char, L2.map Value.int))]) rfl (eS (Or.inr ⟨rfl, List.mem_of_getElem? (i := 0) rfl⟩) eN) (G := ?_)
      rintro _ _ _ ⟨rfl, rfl, rfl⟩
      refine Go.norm (D2 := [(o50, .inl ("java/util/Optional", [("java/util/Optional", "value", "Ljava/lang/Object;", .ref e2)])), (o48, .inl ("java/lang/String", [("java/lang/String", "value", "[B", .ref t49), ("java/lang/String", "coder", "B", .int 0)])), (t49, .inr (.byte, L2.map byV)), (a47, .inr (.char, L2.map Value.int))]) (S2 := [(op, .inl ("java/util/Optional", [("java/util/Optional", "value", "Ljava/lang/Object;", .null)])), (b2, .inr (.byte, L2.map byV)), (w2, .inl ("java/lang/String", [("java/lang/String", "value", "[B", .ref b2), ("java/lang/String", "coder", "B", .int 0)])), (b1, .inr (.byte, L1.map byV)), (w1, .inl ("java/lang/String", [("java/lang/String", "value", "[B", .ref b1), ("java/lang/String", "coder", "B", .int 0)])), (e2, .inl ("com/example/gyro/gyro/webhook/EventType", [("com/example/gyro/gyro/webhook/EventType", "wireName", "Ljava/lang/String;", .ref w2)])), (e1, .inl ("com/example/gyro/gyro/webhook/EventType", [("com/example/gyro/gyro/webhook/EventType", "wireName", "Ljava/lang/String;", .ref w1)])), (va, .inr (.object "com/example/gyro/gyro/webhook/EventType", [.ref e1, .ref e2]))]) (c2 := 5) (s2 := 51) (st2 := [.ref e2]) ?_
      refine Go.checkcast d17_377 (hw _ (List.mem_of_getElem? (i := 90) rfl)) (inS (i := 5) rfl) (Or.inl rfl) (G := ?_)
      refine Go.astore d17_380 (Ls' := #[.val (.int sel), .val (.int pos), .val (.int c), .val (.int d0), .val (.int d1), .val (.int d2), .val (.int 1), .val (.int 0), .val (.int ch), .val (.ref o48), .val (.ref e2), .val (.ref e2), .val (.ref a47), .unset, .unset]) rfl (G := ?_)
      refine Go.aload d17_382 rfl (G := ?_)
      refine Go.aload d17_384 rfl (G := ?_)
      refine Go.acmpne d17_386 (pc2 := 393) (Gy := fun h => absurd rfl h) (Gn := fun _ => ?_)
      refine Go.iconst d17_389 (v := 1) rfl (G := ?_)
      refine Go.goto d17_390 (pc2 := 394) (G := ?_)
      refine Go.sub [] (by decide) rfl (D' := []) rfl (S' := []) eN (G := ?_)
      exact Go.retB d17_394 (by simp) (z' := 1) rfl ⟨rfl, rfl, rfl⟩
    · skip
      refine Go.iloadN d17_0 rfl (G := ?_)
      refine Go.iconst d17_1 (v := 3) rfl (G := ?_)
      refine Go.iand d17_2 (z := 1) hkd (G := ?_)
      refine Go.istore d17_3 (Ls' := #[.val (.int sel), .val (.int pos), .val (.int c), .val (.int d0), .val (.int d1), .val (.int d2), .val (.int 1), .unset, .unset, .unset, .unset, .unset, .unset, .unset, .unset]) rfl (G := ?_)
      refine Go.iloadN d17_5 rfl (G := ?_)
      refine Go.iconst d17_6 (v := 2) rfl (G := ?_)
      refine Go.iushr d17_7 (z := (ush sel 2)) rfl (G := ?_)
      refine Go.iconst d17_8 (v := 3) rfl (G := ?_)
      refine Go.iand d17_9 (z := 1) hvr (G := ?_)
      refine Go.istore d17_10 (Ls' := #[.val (.int sel), .val (.int pos), .val (.int c), .val (.int d0), .val (.int d1), .val (.int d2), .val (.int 1), .val (.int 1), .unset, .unset, .unset, .unset, .unset, .unset, .unset]) rfl (G := ?_)
      refine Go.iloadN d17_12 rfl (G := ?_)
      refine Go.sipush d17_13 (v := 255) rfl (G := ?_)
      refine Go.iand d17_16 (z := (c &&& 255)) rfl (G := ?_)
      refine Go.i2c d17_17 (z := ch) ((i2c_mask _).trans hche) (G := ?_)
      refine Go.istore d17_18 (Ls' := #[.val (.int sel), .val (.int pos), .val (.int c), .val (.int d0), .val (.int d1), .val (.int d2), .val (.int 1), .val (.int 1), .val (.int ch), .unset, .unset, .unset, .unset, .unset, .unset]) rfl (G := ?_)
      refine Go.iload d17_20 rfl (G := ?_)
      refine Go.ifc d17_22 (pc2 := 31) (Gy := fun h => absurd h (show ¬ ((1 : Int32) = 0) by decide)) (Gn := fun _ => ?_)
      refine Go.iload d17_25 rfl (G := ?_)
      refine Go.iconst d17_27 (v := 1) rfl (G := ?_)
      refine Go.icmp d17_28 (pc2 := 213) (Gy := fun h => absurd h (show ¬ (¬ (1 : Int32) = 1) by decide)) (Gn := fun _ => ?_)
      refine Go.iload d17_31 rfl (G := ?_)
      refine Go.ifc d17_33 (pc2 := 42) (Gy := fun _ => ?_) (Gn := fun h => absurd (show ¬ (1 : Int32) = 0 by decide) h)
      refine Go.getstatic d17_42 (host := "") (Or.inl (hw _ (List.mem_of_getElem? (i := 97) rfl))) Via.refl hSA (G := ?_)
      refine Go.astore d17_45 (Ls' := #[.val (.int sel), .val (.int pos), .val (.int c), .val (.int d0), .val (.int d1), .val (.int d2), .val (.int 1), .val (.int 1), .val (.int ch), .unset, .unset, .val (.ref e2), .unset, .unset, .unset]) rfl (G := ?_)
      refine Go.iload d17_47 rfl (G := ?_)
      refine Go.iconst d17_49 (v := 2) rfl (G := ?_)
      refine Go.icmp d17_50 (pc2 := 92) (Gy := fun _ => ?_) (Gn := fun h => absurd (show ¬ (1 : Int32) = 2 by decide) h)
      refine Go.iload d17_92 rfl (G := ?_)
      refine Go.iconst d17_94 (v := 1) rfl (G := ?_)
      refine Go.icmp d17_95 (pc2 := 173) (Gy := fun h => absurd h (show ¬ (¬ (1 : Int32) = 1) by decide)) (Gn := fun _ => ?_)
      refine Go.iload d17_98 rfl (G := ?_)
      refine Go.ifc d17_100 (pc2 := 112) (Gy := fun _ => ?_) (Gn := fun h => absurd (show ¬ (1 : Int32) = 0 by decide) h)
      refine Go.iconst d17_112 (v := 0) rfl (G := ?_)
      refine Go.iload d17_113 rfl (G := ?_)
      refine Go.invokestatic false d17_115 (hw _ (List.mem_of_getElem? (i := 98) rfl)) (hw _ (List.mem_of_getElem? (i := 99) rfl)) (hw _ (List.mem_of_getElem? (i := 5) rfl)) (hw _ (List.mem_of_getElem? (i := 100) rfl)) (c_subsF hw ch hch) pdg_11 rfl (argsL := [.int 0, .int ch]) (rest := []) rfl rfl (Dr := []) rfl eN (G := ?_)
      rintro _ _ _ ⟨a58, rfl, rfl, rfl⟩
      refine Go.norm (D2 := [(a58, .inr (.char, L2.map Value.int))]) (S2 := [(op, .inl ("java/util/Optional", [("java/util/Optional", "value", "Ljava/lang/Object;", .null)])), (b2, .inr (.byte, L2.map byV)), (w2, .inl ("java/lang/String", [("java/lang/String", "value", "[B", .ref b2), ("java/lang/String", "coder", "B", .int 0)])), (b1, .inr (.byte, L1.map byV)), (w1, .inl ("java/lang/String", [("java/lang/String", "value", "[B", .ref b1), ("java/lang/String", "coder", "B", .int 0)])), (e2, .inl ("com/example/gyro/gyro/webhook/EventType", [("com/example/gyro/gyro/webhook/EventType", "wireName", "Ljava/lang/String;", .ref w2)])), (e1, .inl ("com/example/gyro/gyro/webhook/EventType", [("com/example/gyro/gyro/webhook/EventType", "wireName", "Ljava/lang/String;", .ref w1)])), (va, .inr (.object "com/example/gyro/gyro/webhook/EventType", [.ref e1, .ref e2]))]) (c2 := 1) (s2 := 22) (st2 := [.ref a58]) ?_
      refine Go.astore d17_118 (Ls' := #[.val (.int sel), .val (.int pos), .val (.int c), .val (.int d0), .val (.int d1), .val (.int d2), .val (.int 1), .val (.int 1), .val (.int ch), .unset, .unset, .val (.ref e2), .val (.ref a58), .unset, .unset]) rfl (G := ?_)
      refine Go.iloadN d17_120 rfl (G := ?_)
      refine Go.ldcInt d17_121 (hw _ (List.mem_of_getElem? (i := 92) rfl)) (G := ?_)
      refine Go.iand d17_123 (z := (pos &&& 2147483647)) rfl (G := ?_)
      refine Go.aload d17_124 rfl (G := ?_)
      refine Go.arraylength d17_126 (inD (i := 0) rfl) (n := 22) rfl (G := ?_)
      obtain ⟨j, hj, hjl, hjn⟩ := rem_at pos 22 22 rfl (by decide) (by decide)
      obtain ⟨og, hog⟩ : ∃ u, L2[j]? = some u := ⟨_, List.getElem?_eq_getElem hjl⟩
      refine Go.irem d17_127 (by decide) (z := ((pos &&& 2147483647) % 22)) rfl (G := ?_)
      refine Go.istore d17_128 (Ls' := #[.val (.int sel), .val (.int pos), .val (.int c), .val (.int d0), .val (.int d1), .val (.int d2), .val (.int 1), .val (.int 1), .val (.int ch), .unset, .unset, .val (.ref e2), .val (.ref a58), .val (.int ((pos &&& 2147483647) % 22)), .unset]) rfl (G := ?_)
      refine Go.aload d17_130 rfl (G := ?_)
      refine Go.iload d17_132 rfl (G := ?_)
      refine Go.caload d17_134 (inD (i := 0) rfl) (v := .int og) (by rw [hj, List.getElem?_map, hog]; rfl) hjn (G := ?_)
      refine Go.istore d17_135 (Ls' := #[.val (.int sel), .val (.int pos), .val (.int c), .val (.int d0), .val (.int d1), .val (.int d2), .val (.int 1), .val (.int 1), .val (.int ch), .unset, .unset, .val (.ref e2), .val (.ref a58), .val (.int ((pos &&& 2147483647) % 22)), .val (.int og)]) rfl (G := ?_)
      refine Go.aload d17_137 rfl (G := ?_)
      refine Go.iload d17_139 rfl (G := ?_)
      refine Go.iload d17_141 rfl (G := ?_)
      refine Go.castore d17_143 0 rfl (x' := ch) (nc_of hch) (by rw [hj]; exact hjl) (D' := [(a58, .inr (.char, (L2.set j ch).map Value.int))]) (by rw [hj, List.map_set]; rfl) hjn (G := ?_)
      refine Go.new d17_144 (hw _ (List.mem_of_getElem? (i := 8) rfl)) (hw _ (List.mem_of_getElem? (i := 9) rfl)) (hw _ (List.mem_of_getElem? (i := 10) rfl)) (NewF.cons (Or.inr (hw _ (List.mem_of_getElem? (i := 36) rfl))) (ty := .array .byte) (by decide +kernel) rfl (by simp) (NewF.cons (Or.inr (hw _ (List.mem_of_getElem? (i := 34) rfl))) (ty := .byte) (by decide +kernel) rfl (by simp) NewF.nil)) (G := fun o59 => ?_)
      refine Go.dup d17_147 (G := ?_)
      refine Go.aload d17_148 rfl (G := ?_)
      refine Go.invokeinit true d17_150 rfl (hw _ (List.mem_of_getElem? (i := 11) rfl)) (hw _ (List.mem_of_getElem? (i := 12) rfl)) (hw _ (List.mem_of_getElem? (i := 10) rfl)) (hw _ (List.mem_of_getElem? (i := 13) rfl)) (c_init hw o59 a58 (L2.set j ch) 22 [] cpt hCS hcpt (by rw [List.length_set]; rfl) (by decide) (by decide) (fun u hu => nlat ((lat_set L2_lat hch) u hu))) pdg_12 rfl (argsL := [.ref a58]) (rest := [.ref o59]) rfl rfl (Dr := [(a58, .inr (.char, (L2.set j ch).map Value.int))]) rfl (eS (Or.inr ⟨rfl, List.mem_of_getElem? (i := 0) rfl⟩) eN) (G := ?_)
      rintro _ _ _ ⟨t60, rfl, rfl, rfl⟩
      refine Go.norm (D2 := [(o59, .inl ("java/lang/String", [("java/lang/String", "value", "[B", .ref t60), ("java/lang/String", "coder", "B", .int 0)])), (t60, .inr (.byte, (L2.set j ch).map byV)), (a58, .inr (.char, (L2.set j ch).map Value.int))]) (S2 := [(op, .inl ("java/util/Optional", [("java/util/Optional", "value", "Ljava/lang/Object;", .null)])), (b2, .inr (.byte, L2.map byV)), (w2, .inl ("java/lang/String", [("java/lang/String", "value", "[B", .ref b2), ("java/lang/String", "coder", "B", .int 0)])), (b1, .inr (.byte, L1.map byV)), (w1, .inl ("java/lang/String", [("java/lang/String", "value", "[B", .ref b1), ("java/lang/String", "coder", "B", .int 0)])), (e2, .inl ("com/example/gyro/gyro/webhook/EventType", [("com/example/gyro/gyro/webhook/EventType", "wireName", "Ljava/lang/String;", .ref w2)])), (e1, .inl ("com/example/gyro/gyro/webhook/EventType", [("com/example/gyro/gyro/webhook/EventType", "wireName", "Ljava/lang/String;", .ref w1)])), (va, .inr (.object "com/example/gyro/gyro/webhook/EventType", [.ref e1, .ref e2]))]) (c2 := 3) (s2 := 48) (st2 := [.ref o59]) ?_
      refine Go.astore d17_153 (Ls' := #[.val (.int sel), .val (.int pos), .val (.int c), .val (.int d0), .val (.int d1), .val (.int d2), .val (.int 1), .val (.int 1), .val (.int ch), .val (.ref o59), .unset, .val (.ref e2), .val (.ref a58), .val (.int ((pos &&& 2147483647) % 22)), .val (.int og)]) rfl (G := ?_)
      refine Go.iload d17_155 rfl (G := ?_)
      refine Go.iload d17_157 rfl (G := ?_)
      refine Go.icmp d17_159 (pc2 := 167) (Gy := fun h61 => ?_) (Gn := fun h61 => ?_)
      · have h61 : ¬ ch = og := h61
        refine Go.aconstNull d17_167 (G := ?_)
        refine Go.astore d17_168 (Ls' := #[.val (.int sel), .val (.int pos), .val (.int c), .val (.int d0), .val (.int d1), .val (.int d2), .val (.int 1), .val (.int 1), .val (.int ch), .val (.ref o59), .val .null, .val (.ref e2), .val (.ref a58), .val (.int ((pos &&& 2147483647) % 22)), .val (.int og)]) rfl (G := ?_)
        refine Go.goto d17_170 (pc2 := 210) (G := ?_)
        refine Go.goto d17_210 (pc2 := 368) (G := ?_)
        refine Go.aload d17_368 rfl (G := ?_)
        refine Go.neS (x := (o59, .inl ("java/lang/String", [("java/lang/String", "value", "[B", .ref t60), ("java/lang/String", "coder", "B", .int 0)]))) (y := (w1, .inl ("java/lang/String", [("java/lang/String", "value", "[B", .ref b1), ("java/lang/String", "coder", "B", .int 0)]))) (List.mem_of_getElem? (i := 0) rfl) (List.mem_of_getElem? (i := 4) rfl) (fun hx1 => ?_)
        refine Go.neS (x := (o59, .inl ("java/lang/String", [("java/lang/String", "value", "[B", .ref t60), ("java/lang/String", "coder", "B", .int 0)]))) (y := (w2, .inl ("java/lang/String", [("java/lang/String", "value", "[B", .ref b2), ("java/lang/String", "coder", "B", .int 0)]))) (List.mem_of_getElem? (i := 0) rfl) (List.mem_of_getElem? (i := 2) rfl) (fun hx2 => ?_)
        refine Go.invokestatic true d17_370 (hw _ (List.mem_of_getElem? (i := 37) rfl)) (hw _ (List.mem_of_getElem? (i := 38) rfl)) (hw _ (List.mem_of_getElem? (i := 1) rfl)) (hw _ (List.mem_of_getElem? (i := 39) rfl)) (c_p0 hw va e1 e2 w1 b1 w2 b2 op hV hVE hOP o59 t60 (L2.set j ch) 22 cpt hCS hcpt (Ne.symm hx1) (Ne.symm hx2) (by rw [List.length_set]; rfl) (by decide) (lat_set L2_lat hch) (ne_len (by simp [L1, L2])) (set_ne hog h61)) pdg_13 rfl (argsL := [.ref o59]) (rest := []) rfl rfl (Dr := [(o59, .inl ("java/lang/String", [("java/lang/String", "value", "[B", .ref t60), ("java/lang/String", "coder", "B", .int 0)])), (t60, .inr (.byte, (L2.set j ch).map byV)), (a58, .inr (.char, (L2.set j ch).map Value.int))]) rfl (eS (Or.inl (List.mem_of_getElem? (i := 7) rfl)) (eS (Or.inl (List.mem_of_getElem? (i := 6) rfl)) (eS (Or.inl (List.mem_of_getElem? (i := 5) rfl)) (eS (Or.inl (List.mem_of_getElem? (i := 4) rfl)) (eS (Or.inl (List.mem_of_getElem? (i := 3) rfl)) (eS (Or.inl (List.mem_of_getElem? (i := 2) rfl)) (eS (Or.inl (List.mem_of_getElem? (i := 1) rfl)) (eS (Or.inr ⟨rfl, List.mem_of_getElem? (i := 0) rfl⟩) (eS (Or.inr ⟨rfl, List.mem_of_getElem? (i := 1) rfl⟩) eN))))))))) (G := ?_)
        rintro _ _ _ ⟨rfl, rfl, rfl⟩
        refine Go.norm (D2 := [(o59, .inl ("java/lang/String", [("java/lang/String", "value", "[B", .ref t60), ("java/lang/String", "coder", "B", .int 0)])), (t60, .inr (.byte, (L2.set j ch).map byV)), (a58, .inr (.char, (L2.set j ch).map Value.int))]) (S2 := [(op, .inl ("java/util/Optional", [("java/util/Optional", "value", "Ljava/lang/Object;", .null)])), (b2, .inr (.byte, L2.map byV)), (w2, .inl ("java/lang/String", [("java/lang/String", "value", "[B", .ref b2), ("java/lang/String", "coder", "B", .int 0)])), (b1, .inr (.byte, L1.map byV)), (w1, .inl ("java/lang/String", [("java/lang/String", "value", "[B", .ref b1), ("java/lang/String", "coder", "B", .int 0)])), (e2, .inl ("com/example/gyro/gyro/webhook/EventType", [("com/example/gyro/gyro/webhook/EventType", "wireName", "Ljava/lang/String;", .ref w2)])), (e1, .inl ("com/example/gyro/gyro/webhook/EventType", [("com/example/gyro/gyro/webhook/EventType", "wireName", "Ljava/lang/String;", .ref w1)])), (va, .inr (.object "com/example/gyro/gyro/webhook/EventType", [.ref e1, .ref e2]))]) (c2 := 5) (s2 := 51) (st2 := [.ref op]) ?_
        refine Go.aconstNull d17_373 (G := ?_)
        refine Go.invokevirtual false d17_374 (hw _ (List.mem_of_getElem? (i := 85) rfl)) (hw _ (List.mem_of_getElem? (i := 86) rfl)) (hw _ (List.mem_of_getElem? (i := 88) rfl)) (hw _ (List.mem_of_getElem? (i := 87) rfl)) (hw _ (List.mem_of_getElem? (i := 70) rfl)) (hw _ (List.mem_of_getElem? (i := 89) rfl)) (nfSel (hw _ (List.mem_of_getElem? (i := 88) rfl))) (inS (i := 0) rfl) (c_or0 hw op) pdg_5 rfl (argsL := [.null]) (rest := []) rfl rfl (Dr := [(o59, .inl ("java/lang/String", [("java/lang/String", "value", "[B", .ref t60), ("java/lang/String", "coder", "B", .int 0)])), (t60, .inr (.byte, (L2.set j ch).map byV)), (a58, .inr (.char, (L2.set j ch).map Value.int))]) rfl (eS (Or.inl (List.mem_of_getElem? (i := 0) rfl)) eN) (G := ?_)
        rintro _ _ _ ⟨rfl, rfl, rfl⟩
        refine Go.norm (D2 := [(o59, .inl ("java/lang/String", [("java/lang/String", "value", "[B", .ref t60), ("java/lang/String", "coder", "B", .int 0)])), (t60, .inr (.byte, (L2.set j ch).map byV)), (a58, .inr (.char, (L2.set j ch).map Value.int))]) (S2 := [(op, .inl ("java/util/Optional", [("java/util/Optional", "value", "Ljava/lang/Object;", .null)])), (b2, .inr (.byte, L2.map byV)), (w2, .inl ("java/lang/String", [("java/lang/String", "value", "[B", .ref b2), ("java/lang/String", "coder", "B", .int 0)])), (b1, .inr (.byte, L1.map byV)), (w1, .inl ("java/lang/String", [("java/lang/String", "value", "[B", .ref b1), ("java/lang/String", "coder", "B", .int 0)])), (e2, .inl ("com/example/gyro/gyro/webhook/EventType", [("com/example/gyro/gyro/webhook/EventType", "wireName", "Ljava/lang/String;", .ref w2)])), (e1, .inl ("com/example/gyro/gyro/webhook/EventType", [("com/example/gyro/gyro/webhook/EventType", "wireName", "Ljava/lang/String;", .ref w1)])), (va, .inr (.object "com/example/gyro/gyro/webhook/EventType", [.ref e1, .ref e2]))]) (c2 := 5) (s2 := 51) (st2 := [.null]) ?_
        refine Go.checkcastNull d17_377 (G := ?_)
        refine Go.astore d17_380 (Ls' := #[.val (.int sel), .val (.int pos), .val (.int c), .val (.int d0), .val (.int d1), .val (.int d2), .val (.int 1), .val (.int 1), .val (.int ch), .val (.ref o59), .val .null, .val .null, .val (.ref a58), .val (.int ((pos &&& 2147483647) % 22)), .val (.int og)]) rfl (G := ?_)
        refine Go.aload d17_382 rfl (G := ?_)
        refine Go.aload d17_384 rfl (G := ?_)
        refine Go.acmpne d17_386 (pc2 := 393) (Gy := fun h => absurd rfl h) (Gn := fun _ => ?_)
        refine Go.iconst d17_389 (v := 1) rfl (G := ?_)
        refine Go.goto d17_390 (pc2 := 394) (G := ?_)
        refine Go.sub [] (by decide) rfl (D' := []) rfl (S' := []) eN (G := ?_)
        exact Go.retB d17_394 (by simp) (z' := 1) rfl ⟨rfl, rfl, rfl⟩
      · have h61 : ch = og := Classical.not_not.mp h61
        refine Go.aload d17_162 rfl (G := ?_)
        refine Go.goto d17_164 (pc2 := 168) (G := ?_)
        refine Go.astore d17_168 (Ls' := #[.val (.int sel), .val (.int pos), .val (.int c), .val (.int d0), .val (.int d1), .val (.int d2), .val (.int 1), .val (.int 1), .val (.int ch), .val (.ref o59), .val (.ref e2), .val (.ref e2), .val (.ref a58), .val (.int ((pos &&& 2147483647) % 22)), .val (.int og)]) rfl (G := ?_)
        refine Go.goto d17_170 (pc2 := 210) (G := ?_)
        refine Go.goto d17_210 (pc2 := 368) (G := ?_)
        refine Go.aload d17_368 rfl (G := ?_)
        refine Go.neS (x := (o59, .inl ("java/lang/String", [("java/lang/String", "value", "[B", .ref t60), ("java/lang/String", "coder", "B", .int 0)]))) (y := (w1, .inl ("java/lang/String", [("java/lang/String", "value", "[B", .ref b1), ("java/lang/String", "coder", "B", .int 0)]))) (List.mem_of_getElem? (i := 0) rfl) (List.mem_of_getElem? (i := 4) rfl) (fun hx1 => ?_)
        refine Go.neS (x := (o59, .inl ("java/lang/String", [("java/lang/String", "value", "[B", .ref t60), ("java/lang/String", "coder", "B", .int 0)]))) (y := (w2, .inl ("java/lang/String", [("java/lang/String", "value", "[B", .ref b2), ("java/lang/String", "coder", "B", .int 0)]))) (List.mem_of_getElem? (i := 0) rfl) (List.mem_of_getElem? (i := 2) rfl) (fun hx2 => ?_)
        refine Go.invokestatic true d17_370 (hw _ (List.mem_of_getElem? (i := 37) rfl)) (hw _ (List.mem_of_getElem? (i := 38) rfl)) (hw _ (List.mem_of_getElem? (i := 1) rfl)) (hw _ (List.mem_of_getElem? (i := 39) rfl)) (c_p2 hw va e1 e2 w1 b1 w2 b2 op hV hVE hOP o59 t60 (L2.set j ch) 22 cpt hCS hcpt (Ne.symm hx1) (Ne.symm hx2) (by rw [List.length_set]; rfl) (by decide) (lat_set L2_lat hch) (ne_len (by simp [L1, L2])) (by rw [h61]; exact set_same hog)) pdg_13 rfl (argsL := [.ref o59]) (rest := []) rfl rfl (Dr := [(o59, .inl ("java/lang/String", [("java/lang/String", "value", "[B", .ref t60), ("java/lang/String", "coder", "B", .int 0)])), (t60, .inr (.byte, (L2.set j ch).map byV)), (a58, .inr (.char, (L2.set j ch).map Value.int))]) rfl (eS (Or.inl (List.mem_of_getElem? (i := 7) rfl)) (eS (Or.inl (List.mem_of_getElem? (i := 6) rfl)) (eS (Or.inl (List.mem_of_getElem? (i := 5) rfl)) (eS (Or.inl (List.mem_of_getElem? (i := 4) rfl)) (eS (Or.inl (List.mem_of_getElem? (i := 3) rfl)) (eS (Or.inl (List.mem_of_getElem? (i := 2) rfl)) (eS (Or.inl (List.mem_of_getElem? (i := 1) rfl)) (eS (Or.inr ⟨rfl, List.mem_of_getElem? (i := 0) rfl⟩) (eS (Or.inr ⟨rfl, List.mem_of_getElem? (i := 1) rfl⟩) eN))))))))) (G := ?_)
        rintro _ _ _ ⟨o63, rfl, rfl, rfl⟩
        refine Go.norm (D2 := [(o63, .inl ("java/util/Optional", [("java/util/Optional", "value", "Ljava/lang/Object;", .ref e2)])), (o59, .inl ("java/lang/String", [("java/lang/String", "value", "[B", .ref t60), ("java/lang/String", "coder", "B", .int 0)])), (t60, .inr (.byte, (L2.set j ch).map byV)), (a58, .inr (.char, (L2.set j ch).map Value.int))]) (S2 := [(op, .inl ("java/util/Optional", [("java/util/Optional", "value", "Ljava/lang/Object;", .null)])), (b2, .inr (.byte, L2.map byV)), (w2, .inl ("java/lang/String", [("java/lang/String", "value", "[B", .ref b2), ("java/lang/String", "coder", "B", .int 0)])), (b1, .inr (.byte, L1.map byV)), (w1, .inl ("java/lang/String", [("java/lang/String", "value", "[B", .ref b1), ("java/lang/String", "coder", "B", .int 0)])), (e2, .inl ("com/example/gyro/gyro/webhook/EventType", [("com/example/gyro/gyro/webhook/EventType", "wireName", "Ljava/lang/String;", .ref w2)])), (e1, .inl ("com/example/gyro/gyro/webhook/EventType", [("com/example/gyro/gyro/webhook/EventType", "wireName", "Ljava/lang/String;", .ref w1)])), (va, .inr (.object "com/example/gyro/gyro/webhook/EventType", [.ref e1, .ref e2]))]) (c2 := 5) (s2 := 51) (st2 := [.ref o63]) ?_
        refine Go.aconstNull d17_373 (G := ?_)
        refine Go.invokevirtual true d17_374 (hw _ (List.mem_of_getElem? (i := 85) rfl)) (hw _ (List.mem_of_getElem? (i := 86) rfl)) (hw _ (List.mem_of_getElem? (i := 88) rfl)) (hw _ (List.mem_of_getElem? (i := 87) rfl)) (hw _ (List.mem_of_getElem? (i := 70) rfl)) (hw _ (List.mem_of_getElem? (i := 89) rfl)) (nfSel (hw _ (List.mem_of_getElem? (i := 88) rfl))) (inD (i := 0) rfl) (c_or1 hw o63 e2) pdg_5 rfl (argsL := [.null]) (rest := []) rfl rfl (Dr := [(o63, .inl ("java/util/Optional", [("java/util/Optional", "value", "Ljava/lang/Object;", .ref e2)])), (o59, .inl ("java/lang/String", [("java/lang/String", "value", "[B", .ref t60), ("java/lang/String", "coder", "B", .int 0)])), (t60, .inr (.byte, (L2.set j ch).map byV)), (a58, .inr (.char, (L2.set j ch).map Value.int))]) rfl (eS (Or.inr ⟨rfl, List.mem_of_getElem? (i := 0) rfl⟩) eN) (G := ?_)
        rintro _ _ _ ⟨rfl, rfl, rfl⟩
        refine Go.norm (D2 := [(o63, .inl ("java/util/Optional", [("java/util/Optional", "value", "Ljava/lang/Object;", .ref e2)])), (o59, .inl ("java/lang/String", [("java/lang/String", "value", "[B", .ref t60), ("java/lang/String", "coder", "B", .int 0)])), (t60, .inr (.byte, (L2.set j ch).map byV)), (a58, .inr (.char, (L2.set j ch).map Value.int))]) (S2 := [(op, .inl ("java/util/Optional", [("java/util/Optional", "value", "Ljava/lang/Object;", .null)])), (b2, .inr (.byte, L2.map byV)), (w2, .inl ("java/lang/String", [("java/lang/String", "value", "[B", .ref b2), ("java/lang/String", "coder", "B", .int 0)])), (b1, .inr (.byte, L1.map byV)), (w1, .inl ("java/lang/String", [("java/lang/String", "value", "[B", .ref b1), ("java/lang/String", "coder", "B", .int 0)])), (e2, .inl ("com/example/gyro/gyro/webhook/EventType", [("com/example/gyro/gyro/webhook/EventType", "wireName", "Ljava/lang/String;", .ref w2)])), (e1, .inl ("com/example/gyro/gyro/webhook/EventType", [("com/example/gyro/gyro/webhook/EventType", "wireName", "Ljava/lang/String;", .ref w1)])), (va, .inr (.object "com/example/gyro/gyro/webhook/EventType", [.ref e1, .ref e2]))]) (c2 := 5) (s2 := 51) (st2 := [.ref e2]) ?_
        refine Go.checkcast d17_377 (hw _ (List.mem_of_getElem? (i := 90) rfl)) (inS (i := 5) rfl) (Or.inl rfl) (G := ?_)
        refine Go.astore d17_380 (Ls' := #[.val (.int sel), .val (.int pos), .val (.int c), .val (.int d0), .val (.int d1), .val (.int d2), .val (.int 1), .val (.int 1), .val (.int ch), .val (.ref o59), .val (.ref e2), .val (.ref e2), .val (.ref a58), .val (.int ((pos &&& 2147483647) % 22)), .val (.int og)]) rfl (G := ?_)
        refine Go.aload d17_382 rfl (G := ?_)
        refine Go.aload d17_384 rfl (G := ?_)
        refine Go.acmpne d17_386 (pc2 := 393) (Gy := fun h => absurd rfl h) (Gn := fun _ => ?_)
        refine Go.iconst d17_389 (v := 1) rfl (G := ?_)
        refine Go.goto d17_390 (pc2 := 394) (G := ?_)
        refine Go.sub [] (by decide) rfl (D' := []) rfl (S' := []) eN (G := ?_)
        exact Go.retB d17_394 (by simp) (z' := 1) rfl ⟨rfl, rfl, rfl⟩
    · skip
      refine Go.iloadN d17_0 rfl (G := ?_)
      refine Go.iconst d17_1 (v := 3) rfl (G := ?_)
      refine Go.iand d17_2 (z := 1) hkd (G := ?_)
      refine Go.istore d17_3 (Ls' := #[.val (.int sel), .val (.int pos), .val (.int c), .val (.int d0), .val (.int d1), .val (.int d2), .val (.int 1), .unset, .unset, .unset, .unset, .unset, .unset, .unset, .unset]) rfl (G := ?_)
      refine Go.iloadN d17_5 rfl (G := ?_)
      refine Go.iconst d17_6 (v := 2) rfl (G := ?_)
      refine Go.iushr d17_7 (z := (ush sel 2)) rfl (G := ?_)
      refine Go.iconst d17_8 (v := 3) rfl (G := ?_)
      refine Go.iand d17_9 (z := 2) hvr (G := ?_)
      refine Go.istore d17_10 (Ls' := #[.val (.int sel), .val (.int pos), .val (.int c), .val (.int d0), .val (.int d1), .val (.int d2), .val (.int 1), .val (.int 2), .unset, .unset, .unset, .unset, .unset, .unset, .unset]) rfl (G := ?_)
      refine Go.iloadN d17_12 rfl (G := ?_)
      refine Go.sipush d17_13 (v := 255) rfl (G := ?_)
      refine Go.iand d17_16 (z := (c &&& 255)) rfl (G := ?_)
      refine Go.i2c d17_17 (z := ch) ((i2c_mask _).trans hche) (G := ?_)
      refine Go.istore d17_18 (Ls' := #[.val (.int sel), .val (.int pos), .val (.int c), .val (.int d0), .val (.int d1), .val (.int d2), .val (.int 1), .val (.int 2), .val (.int ch), .unset, .unset, .unset, .unset, .unset, .unset]) rfl (G := ?_)
      refine Go.iload d17_20 rfl (G := ?_)
      refine Go.ifc d17_22 (pc2 := 31) (Gy := fun h => absurd h (show ¬ ((1 : Int32) = 0) by decide)) (Gn := fun _ => ?_)
      refine Go.iload d17_25 rfl (G := ?_)
      refine Go.iconst d17_27 (v := 1) rfl (G := ?_)
      refine Go.icmp d17_28 (pc2 := 213) (Gy := fun h => absurd h (show ¬ (¬ (1 : Int32) = 1) by decide)) (Gn := fun _ => ?_)
      refine Go.iload d17_31 rfl (G := ?_)
      refine Go.ifc d17_33 (pc2 := 42) (Gy := fun _ => ?_) (Gn := fun h => absurd (show ¬ (1 : Int32) = 0 by decide) h)
      refine Go.getstatic d17_42 (host := "") (Or.inl (hw _ (List.mem_of_getElem? (i := 97) rfl))) Via.refl hSA (G := ?_)
      refine Go.astore d17_45 (Ls' := #[.val (.int sel), .val (.int pos), .val (.int c), .val (.int d0), .val (.int d1), .val (.int d2), .val (.int 1), .val (.int 2), .val (.int ch), .unset, .unset, .val (.ref e2), .unset, .unset, .unset]) rfl (G := ?_)
      refine Go.iload d17_47 rfl (G := ?_)
      refine Go.iconst d17_49 (v := 2) rfl (G := ?_)
      refine Go.icmp d17_50 (pc2 := 92) (Gy := fun h => absurd h (show ¬ (¬ (2 : Int32) = 2) by decide)) (Gn := fun _ => ?_)
      refine Go.iload d17_53 rfl (G := ?_)
      refine Go.ifc d17_55 (pc2 := 67) (Gy := fun _ => ?_) (Gn := fun h => absurd (show ¬ (1 : Int32) = 0 by decide) h)
      refine Go.iconst d17_67 (v := 1) rfl (G := ?_)
      refine Go.iload d17_68 rfl (G := ?_)
      refine Go.invokestatic false d17_70 (hw _ (List.mem_of_getElem? (i := 98) rfl)) (hw _ (List.mem_of_getElem? (i := 99) rfl)) (hw _ (List.mem_of_getElem? (i := 5) rfl)) (hw _ (List.mem_of_getElem? (i := 100) rfl)) (c_subsT hw ch hch) pdg_11 rfl (argsL := [.int 1, .int ch]) (rest := []) rfl rfl (Dr := []) rfl eN (G := ?_)
      rintro _ _ _ ⟨a70, rfl, rfl, rfl⟩
      refine Go.norm (D2 := [(a70, .inr (.char, (L2 ++ [ch]).map Value.int))]) (S2 := [(op, .inl ("java/util/Optional", [("java/util/Optional", "value", "Ljava/lang/Object;", .null)])), (b2, .inr (.byte, L2.map byV)), (w2, .inl ("java/lang/String", [("java/lang/String", "value", "[B", .ref b2), ("java/lang/String", "coder", "B", .int 0)])), (b1, .inr (.byte, L1.map byV)), (w1, .inl ("java/lang/String", [("java/lang/String", "value", "[B", .ref b1), ("java/lang/String", "coder", "B", .int 0)])), (e2, .inl ("com/example/gyro/gyro/webhook/EventType", [("com/example/gyro/gyro/webhook/EventType", "wireName", "Ljava/lang/String;", .ref w2)])), (e1, .inl ("com/example/gyro/gyro/webhook/EventType", [("com/example/gyro/gyro/webhook/EventType", "wireName", "Ljava/lang/String;", .ref w1)])), (va, .inr (.object "com/example/gyro/gyro/webhook/EventType", [.ref e1, .ref e2]))]) (c2 := 1) (s2 := 23) (st2 := [.ref a70]) ?_
      refine Go.astore d17_73 (Ls' := #[.val (.int sel), .val (.int pos), .val (.int c), .val (.int d0), .val (.int d1), .val (.int d2), .val (.int 1), .val (.int 2), .val (.int ch), .unset, .unset, .val (.ref e2), .val (.ref a70), .unset, .unset]) rfl (G := ?_)
      refine Go.new d17_75 (hw _ (List.mem_of_getElem? (i := 8) rfl)) (hw _ (List.mem_of_getElem? (i := 9) rfl)) (hw _ (List.mem_of_getElem? (i := 10) rfl)) (NewF.cons (Or.inr (hw _ (List.mem_of_getElem? (i := 36) rfl))) (ty := .array .byte) (by decide +kernel) rfl (by simp) (NewF.cons (Or.inr (hw _ (List.mem_of_getElem? (i := 34) rfl))) (ty := .byte) (by decide +kernel) rfl (by simp) NewF.nil)) (G := fun o71 => ?_)
      refine Go.dup d17_78 (G := ?_)
      refine Go.aload d17_79 rfl (G := ?_)
      refine Go.invokeinit true d17_81 rfl (hw _ (List.mem_of_getElem? (i := 11) rfl)) (hw _ (List.mem_of_getElem? (i := 12) rfl)) (hw _ (List.mem_of_getElem? (i := 10) rfl)) (hw _ (List.mem_of_getElem? (i := 13) rfl)) (c_init hw o71 a70 (L2 ++ [ch]) 23 [] cpt hCS hcpt rfl (by decide) (by decide) (fun u hu => nlat ((lat_app L2_lat hch) u hu))) pdg_12 rfl (argsL := [.ref a70]) (rest := [.ref o71]) rfl rfl (Dr := [(a70, .inr (.char, (L2 ++ [ch]).map Value.int))]) rfl (eS (Or.inr ⟨rfl, List.mem_of_getElem? (i := 0) rfl⟩) eN) (G := ?_)
      rintro _ _ _ ⟨t72, rfl, rfl, rfl⟩
      refine Go.norm (D2 := [(o71, .inl ("java/lang/String", [("java/lang/String", "value", "[B", .ref t72), ("java/lang/String", "coder", "B", .int 0)])), (t72, .inr (.byte, (L2 ++ [ch]).map byV)), (a70, .inr (.char, (L2 ++ [ch]).map Value.int))]) (S2 := [(op, .inl ("java/util/Optional", [("java/util/Optional", "value", "Ljava/lang/Object;", .null)])), (b2, .inr (.byte, L2.map byV)), (w2, .inl ("java/lang/String", [("java/lang/String", "value", "[B", .ref b2), ("java/lang/String", "coder", "B", .int 0)])), (b1, .inr (.byte, L1.map byV)), (w1, .inl ("java/lang/String", [("java/lang/String", "value", "[B", .ref b1), ("java/lang/String", "coder", "B", .int 0)])), (e2, .inl ("com/example/gyro/gyro/webhook/EventType", [("com/example/gyro/gyro/webhook/EventType", "wireName", "Ljava/lang/String;", .ref w2)])), (e1, .inl ("com/example/gyro/gyro/webhook/EventType", [("com/example/gyro/gyro/webhook/EventType", "wireName", "Ljava/lang/String;", .ref w1)])), (va, .inr (.object "com/example/gyro/gyro/webhook/EventType", [.ref e1, .ref e2]))]) (c2 := 3) (s2 := 50) (st2 := [.ref o71]) ?_
      refine Go.astore d17_84 (Ls' := #[.val (.int sel), .val (.int pos), .val (.int c), .val (.int d0), .val (.int d1), .val (.int d2), .val (.int 1), .val (.int 2), .val (.int ch), .val (.ref o71), .unset, .val (.ref e2), .val (.ref a70), .unset, .unset]) rfl (G := ?_)
      refine Go.aconstNull d17_86 (G := ?_)
      refine Go.astore d17_87 (Ls' := #[.val (.int sel), .val (.int pos), .val (.int c), .val (.int d0), .val (.int d1), .val (.int d2), .val (.int 1), .val (.int 2), .val (.int ch), .val (.ref o71), .val .null, .val (.ref e2), .val (.ref a70), .unset, .unset]) rfl (G := ?_)
      refine Go.goto d17_89 (pc2 := 210) (G := ?_)
      refine Go.goto d17_210 (pc2 := 368) (G := ?_)
      refine Go.aload d17_368 rfl (G := ?_)
      refine Go.neS (x := (o71, .inl ("java/lang/String", [("java/lang/String", "value", "[B", .ref t72), ("java/lang/String", "coder", "B", .int 0)]))) (y := (w1, .inl ("java/lang/String", [("java/lang/String", "value", "[B", .ref b1), ("java/lang/String", "coder", "B", .int 0)]))) (List.mem_of_getElem? (i := 0) rfl) (List.mem_of_getElem? (i := 4) rfl) (fun hx1 => ?_)
      refine Go.neS (x := (o71, .inl ("java/lang/String", [("java/lang/String", "value", "[B", .ref t72), ("java/lang/String", "coder", "B", .int 0)]))) (y := (w2, .inl ("java/lang/String", [("java/lang/String", "value", "[B", .ref b2), ("java/lang/String", "coder", "B", .int 0)]))) (List.mem_of_getElem? (i := 0) rfl) (List.mem_of_getElem? (i := 2) rfl) (fun hx2 => ?_)
      refine Go.invokestatic true d17_370 (hw _ (List.mem_of_getElem? (i := 37) rfl)) (hw _ (List.mem_of_getElem? (i := 38) rfl)) (hw _ (List.mem_of_getElem? (i := 1) rfl)) (hw _ (List.mem_of_getElem? (i := 39) rfl)) (c_p0 hw va e1 e2 w1 b1 w2 b2 op hV hVE hOP o71 t72 (L2 ++ [ch]) 23 cpt hCS hcpt (Ne.symm hx1) (Ne.symm hx2) rfl (by decide) (lat_app L2_lat hch) (ne_len (by simp [L1, L2])) (ne_len (by simp [L1, L2]))) pdg_13 rfl (argsL := [.ref o71]) (rest := []) rfl rfl (Dr := [(o71, .inl ("java/lang/String", [("java/lang/String", "value", "[B", .ref t72), ("java/lang/String", "coder", "B", .int 0)])), (t72, .inr (.byte, (L2 ++ [ch]).map byV)), (a70, .inr (.char, (L2 ++ [ch]).map Value.int))]) rfl (eS (Or.inl (List.mem_of_getElem? (i := 7) rfl)) (eS (Or.inl (List.mem_of_getElem? (i := 6) rfl)) (eS (Or.inl (List.mem_of_getElem? (i := 5) rfl)) (eS (Or.inl (List.mem_of_getElem? (i := 4) rfl)) (eS (Or.inl (List.mem_of_getElem? (i := 3) rfl)) (eS (Or.inl (List.mem_of_getElem? (i := 2) rfl)) (eS (Or.inl (List.mem_of_getElem? (i := 1) rfl)) (eS (Or.inr ⟨rfl, List.mem_of_getElem? (i := 0) rfl⟩) (eS (Or.inr ⟨rfl, List.mem_of_getElem? (i := 1) rfl⟩) eN))))))))) (G := ?_)
      rintro _ _ _ ⟨rfl, rfl, rfl⟩
      refine Go.norm (D2 := [(o71, .inl ("java/lang/String", [("java/lang/String", "value", "[B", .ref t72), ("java/lang/String", "coder", "B", .int 0)])), (t72, .inr (.byte, (L2 ++ [ch]).map byV)), (a70, .inr (.char, (L2 ++ [ch]).map Value.int))]) (S2 := [(op, .inl ("java/util/Optional", [("java/util/Optional", "value", "Ljava/lang/Object;", .null)])), (b2, .inr (.byte, L2.map byV)), (w2, .inl ("java/lang/String", [("java/lang/String", "value", "[B", .ref b2), ("java/lang/String", "coder", "B", .int 0)])), (b1, .inr (.byte, L1.map byV)), (w1, .inl ("java/lang/String", [("java/lang/String", "value", "[B", .ref b1), ("java/lang/String", "coder", "B", .int 0)])), (e2, .inl ("com/example/gyro/gyro/webhook/EventType", [("com/example/gyro/gyro/webhook/EventType", "wireName", "Ljava/lang/String;", .ref w2)])), (e1, .inl ("com/example/gyro/gyro/webhook/EventType", [("com/example/gyro/gyro/webhook/EventType", "wireName", "Ljava/lang/String;", .ref w1)])), (va, .inr (.object "com/example/gyro/gyro/webhook/EventType", [.ref e1, .ref e2]))]) (c2 := 5) (s2 := 53) (st2 := [.ref op]) ?_
      refine Go.aconstNull d17_373 (G := ?_)
      refine Go.invokevirtual false d17_374 (hw _ (List.mem_of_getElem? (i := 85) rfl)) (hw _ (List.mem_of_getElem? (i := 86) rfl)) (hw _ (List.mem_of_getElem? (i := 88) rfl)) (hw _ (List.mem_of_getElem? (i := 87) rfl)) (hw _ (List.mem_of_getElem? (i := 70) rfl)) (hw _ (List.mem_of_getElem? (i := 89) rfl)) (nfSel (hw _ (List.mem_of_getElem? (i := 88) rfl))) (inS (i := 0) rfl) (c_or0 hw op) pdg_5 rfl (argsL := [.null]) (rest := []) rfl rfl (Dr := [(o71, .inl ("java/lang/String", [("java/lang/String", "value", "[B", .ref t72), ("java/lang/String", "coder", "B", .int 0)])), (t72, .inr (.byte, (L2 ++ [ch]).map byV)), (a70, .inr (.char, (L2 ++ [ch]).map Value.int))]) rfl (eS (Or.inl (List.mem_of_getElem? (i := 0) rfl)) eN) (G := ?_)
      rintro _ _ _ ⟨rfl, rfl, rfl⟩
      refine Go.norm (D2 := [(o71, .inl ("java/lang/String", [("java/lang/String", "value", "[B", .ref t72), ("java/lang/String", "coder", "B", .int 0)])), (t72, .inr (.byte, (L2 ++ [ch]).map byV)), (a70, .inr (.char, (L2 ++ [ch]).map Value.int))]) (S2 := [(op, .inl ("java/util/Optional", [("java/util/Optional", "value", "Ljava/lang/Object;", .null)])), (b2, .inr (.byte, L2.map byV)), (w2, .inl ("java/lang/String", [("java/lang/String", "value", "[B", .ref b2), ("java/lang/String", "coder", "B", .int 0)])), (b1, .inr (.byte, L1.map byV)), (w1, .inl ("java/lang/String", [("java/lang/String", "value", "[B", .ref b1), ("java/lang/String", "coder", "B", .int 0)])), (e2, .inl ("com/example/gyro/gyro/webhook/EventType", [("com/example/gyro/gyro/webhook/EventType", "wireName", "Ljava/lang/String;", .ref w2)])), (e1, .inl ("com/example/gyro/gyro/webhook/EventType", [("com/example/gyro/gyro/webhook/EventType", "wireName", "Ljava/lang/String;", .ref w1)])), (va, .inr (.object "com/example/gyro/gyro/webhook/EventType", [.ref e1, .ref e2]))]) (c2 := 5) (s2 := 53) (st2 := [.null]) ?_
      refine Go.checkcastNull d17_377 (G := ?_)
      refine Go.astore d17_380 (Ls' := #[.val (.int sel), .val (.int pos), .val (.int c), .val (.int d0), .val (.int d1), .val (.int d2), .val (.int 1), .val (.int 2), .val (.int ch), .val (.ref o71), .val .null, .val .null, .val (.ref a70), .unset, .unset]) rfl (G := ?_)
      refine Go.aload d17_382 rfl (G := ?_)
      refine Go.aload d17_384 rfl (G := ?_)
      refine Go.acmpne d17_386 (pc2 := 393) (Gy := fun h => absurd rfl h) (Gn := fun _ => ?_)
      refine Go.iconst d17_389 (v := 1) rfl (G := ?_)
      refine Go.goto d17_390 (pc2 := 394) (G := ?_)
      refine Go.sub [] (by decide) rfl (D' := []) rfl (S' := []) eN (G := ?_)
      exact Go.retB d17_394 (by simp) (z' := 1) rfl ⟨rfl, rfl, rfl⟩
    · skip
      refine Go.iloadN d17_0 rfl (G := ?_)
      refine Go.iconst d17_1 (v := 3) rfl (G := ?_)
      refine Go.iand d17_2 (z := 1) hkd (G := ?_)
      refine Go.istore d17_3 (Ls' := #[.val (.int sel), .val (.int pos), .val (.int c), .val (.int d0), .val (.int d1), .val (.int d2), .val (.int 1), .unset, .unset, .unset, .unset, .unset, .unset, .unset, .unset]) rfl (G := ?_)
      refine Go.iloadN d17_5 rfl (G := ?_)
      refine Go.iconst d17_6 (v := 2) rfl (G := ?_)
      refine Go.iushr d17_7 (z := (ush sel 2)) rfl (G := ?_)
      refine Go.iconst d17_8 (v := 3) rfl (G := ?_)
      refine Go.iand d17_9 (z := 3) hvr (G := ?_)
      refine Go.istore d17_10 (Ls' := #[.val (.int sel), .val (.int pos), .val (.int c), .val (.int d0), .val (.int d1), .val (.int d2), .val (.int 1), .val (.int 3), .unset, .unset, .unset, .unset, .unset, .unset, .unset]) rfl (G := ?_)
      refine Go.iloadN d17_12 rfl (G := ?_)
      refine Go.sipush d17_13 (v := 255) rfl (G := ?_)
      refine Go.iand d17_16 (z := (c &&& 255)) rfl (G := ?_)
      refine Go.i2c d17_17 (z := ch) ((i2c_mask _).trans hche) (G := ?_)
      refine Go.istore d17_18 (Ls' := #[.val (.int sel), .val (.int pos), .val (.int c), .val (.int d0), .val (.int d1), .val (.int d2), .val (.int 1), .val (.int 3), .val (.int ch), .unset, .unset, .unset, .unset, .unset, .unset]) rfl (G := ?_)
      refine Go.iload d17_20 rfl (G := ?_)
      refine Go.ifc d17_22 (pc2 := 31) (Gy := fun h => absurd h (show ¬ ((1 : Int32) = 0) by decide)) (Gn := fun _ => ?_)
      refine Go.iload d17_25 rfl (G := ?_)
      refine Go.iconst d17_27 (v := 1) rfl (G := ?_)
      refine Go.icmp d17_28 (pc2 := 213) (Gy := fun h => absurd h (show ¬ (¬ (1 : Int32) = 1) by decide)) (Gn := fun _ => ?_)
      refine Go.iload d17_31 rfl (G := ?_)
      refine Go.ifc d17_33 (pc2 := 42) (Gy := fun _ => ?_) (Gn := fun h => absurd (show ¬ (1 : Int32) = 0 by decide) h)
      refine Go.getstatic d17_42 (host := "") (Or.inl (hw _ (List.mem_of_getElem? (i := 97) rfl))) Via.refl hSA (G := ?_)
      refine Go.astore d17_45 (Ls' := #[.val (.int sel), .val (.int pos), .val (.int c), .val (.int d0), .val (.int d1), .val (.int d2), .val (.int 1), .val (.int 3), .val (.int ch), .unset, .unset, .val (.ref e2), .unset, .unset, .unset]) rfl (G := ?_)
      refine Go.iload d17_47 rfl (G := ?_)
      refine Go.iconst d17_49 (v := 2) rfl (G := ?_)
      refine Go.icmp d17_50 (pc2 := 92) (Gy := fun _ => ?_) (Gn := fun h => absurd (show ¬ (3 : Int32) = 2 by decide) h)
      refine Go.iload d17_92 rfl (G := ?_)
      refine Go.iconst d17_94 (v := 1) rfl (G := ?_)
      refine Go.icmp d17_95 (pc2 := 173) (Gy := fun _ => ?_) (Gn := fun h => absurd (show ¬ (3 : Int32) = 1 by decide) h)
      refine Go.iload d17_173 rfl (G := ?_)
      refine Go.ifc d17_175 (pc2 := 187) (Gy := fun _ => ?_) (Gn := fun h => absurd (show ¬ (1 : Int32) = 0 by decide) h)
      refine Go.iconst d17_187 (v := 0) rfl (G := ?_)
      refine Go.iload d17_188 rfl (G := ?_)
      refine Go.invokestatic false d17_190 (hw _ (List.mem_of_getElem? (i := 98) rfl)) (hw _ (List.mem_of_getElem? (i := 99) rfl)) (hw _ (List.mem_of_getElem? (i := 5) rfl)) (hw _ (List.mem_of_getElem? (i := 100) rfl)) (c_subsF hw ch hch) pdg_11 rfl (argsL := [.int 0, .int ch]) (rest := []) rfl rfl (Dr := []) rfl eN (G := ?_)
      rintro _ _ _ ⟨a80, rfl, rfl, rfl⟩
      refine Go.norm (D2 := [(a80, .inr (.char, L2.map Value.int))]) (S2 := [(op, .inl ("java/util/Optional", [("java/util/Optional", "value", "Ljava/lang/Object;", .null)])), (b2, .inr (.byte, L2.map byV)), (w2, .inl ("java/lang/String", [("java/lang/String", "value", "[B", .ref b2), ("java/lang/String", "coder", "B", .int 0)])), (b1, .inr (.byte, L1.map byV)), (w1, .inl ("java/lang/String", [("java/lang/String", "value", "[B", .ref b1), ("java/lang/String", "coder", "B", .int 0)])), (e2, .inl ("com/example/gyro/gyro/webhook/EventType", [("com/example/gyro/gyro/webhook/EventType", "wireName", "Ljava/lang/String;", .ref w2)])), (e1, .inl ("com/example/gyro/gyro/webhook/EventType", [("com/example/gyro/gyro/webhook/EventType", "wireName", "Ljava/lang/String;", .ref w1)])), (va, .inr (.object "com/example/gyro/gyro/webhook/EventType", [.ref e1, .ref e2]))]) (c2 := 1) (s2 := 22) (st2 := [.ref a80]) ?_
      refine Go.astore d17_193 (Ls' := #[.val (.int sel), .val (.int pos), .val (.int c), .val (.int d0), .val (.int d1), .val (.int d2), .val (.int 1), .val (.int 3), .val (.int ch), .unset, .unset, .val (.ref e2), .val (.ref a80), .unset, .unset]) rfl (G := ?_)
      refine Go.new d17_195 (hw _ (List.mem_of_getElem? (i := 8) rfl)) (hw _ (List.mem_of_getElem? (i := 9) rfl)) (hw _ (List.mem_of_getElem? (i := 10) rfl)) (NewF.cons (Or.inr (hw _ (List.mem_of_getElem? (i := 36) rfl))) (ty := .array .byte) (by decide +kernel) rfl (by simp) (NewF.cons (Or.inr (hw _ (List.mem_of_getElem? (i := 34) rfl))) (ty := .byte) (by decide +kernel) rfl (by simp) NewF.nil)) (G := fun o81 => ?_)
      refine Go.dup d17_198 (G := ?_)
      refine Go.aload d17_199 rfl (G := ?_)
      refine Go.invokeinit true d17_201 rfl (hw _ (List.mem_of_getElem? (i := 11) rfl)) (hw _ (List.mem_of_getElem? (i := 12) rfl)) (hw _ (List.mem_of_getElem? (i := 10) rfl)) (hw _ (List.mem_of_getElem? (i := 13) rfl)) (c_init hw o81 a80 L2 22 [] cpt hCS hcpt rfl (by decide) (by decide) (fun u hu => nlat (L2_lat u hu))) pdg_12 rfl (argsL := [.ref a80]) (rest := [.ref o81]) rfl rfl (Dr := [(a80, .inr (.char, L2.map Value.int))]) rfl (eS (Or.inr ⟨rfl, List.mem_of_getElem? (i := 0) rfl⟩) eN) (G := ?_)
      rintro _ _ _ ⟨t82, rfl, rfl, rfl⟩
      refine Go.norm (D2 := [(o81, .inl ("java/lang/String", [("java/lang/String", "value", "[B", .ref t82), ("java/lang/String", "coder", "B", .int 0)])), (t82, .inr (.byte, L2.map byV)), (a80, .inr (.char, L2.map Value.int))]) (S2 := [(op, .inl ("java/util/Optional", [("java/util/Optional", "value", "Ljava/lang/Object;", .null)])), (b2, .inr (.byte, L2.map byV)), (w2, .inl ("java/lang/String", [("java/lang/String", "value", "[B", .ref b2), ("java/lang/String", "coder", "B", .int 0)])), (b1, .inr (.byte, L1.map byV)), (w1, .inl ("java/lang/String", [("java/lang/String", "value", "[B", .ref b1), ("java/lang/String", "coder", "B", .int 0)])), (e2, .inl ("com/example/gyro/gyro/webhook/EventType", [("com/example/gyro/gyro/webhook/EventType", "wireName", "Ljava/lang/String;", .ref w2)])), (e1, .inl ("com/example/gyro/gyro/webhook/EventType", [("com/example/gyro/gyro/webhook/EventType", "wireName", "Ljava/lang/String;", .ref w1)])), (va, .inr (.object "com/example/gyro/gyro/webhook/EventType", [.ref e1, .ref e2]))]) (c2 := 3) (s2 := 48) (st2 := [.ref o81]) ?_
      refine Go.astore d17_204 (Ls' := #[.val (.int sel), .val (.int pos), .val (.int c), .val (.int d0), .val (.int d1), .val (.int d2), .val (.int 1), .val (.int 3), .val (.int ch), .val (.ref o81), .unset, .val (.ref e2), .val (.ref a80), .unset, .unset]) rfl (G := ?_)
      refine Go.aload d17_206 rfl (G := ?_)
      refine Go.astore d17_208 (Ls' := #[.val (.int sel), .val (.int pos), .val (.int c), .val (.int d0), .val (.int d1), .val (.int d2), .val (.int 1), .val (.int 3), .val (.int ch), .val (.ref o81), .val (.ref e2), .val (.ref e2), .val (.ref a80), .unset, .unset]) rfl (G := ?_)
      refine Go.goto d17_210 (pc2 := 368) (G := ?_)
      refine Go.aload d17_368 rfl (G := ?_)
      refine Go.neS (x := (o81, .inl ("java/lang/String", [("java/lang/String", "value", "[B", .ref t82), ("java/lang/String", "coder", "B", .int 0)]))) (y := (w1, .inl ("java/lang/String", [("java/lang/String", "value", "[B", .ref b1), ("java/lang/String", "coder", "B", .int 0)]))) (List.mem_of_getElem? (i := 0) rfl) (List.mem_of_getElem? (i := 4) rfl) (fun hx1 => ?_)
      refine Go.neS (x := (o81, .inl ("java/lang/String", [("java/lang/String", "value", "[B", .ref t82), ("java/lang/String", "coder", "B", .int 0)]))) (y := (w2, .inl ("java/lang/String", [("java/lang/String", "value", "[B", .ref b2), ("java/lang/String", "coder", "B", .int 0)]))) (List.mem_of_getElem? (i := 0) rfl) (List.mem_of_getElem? (i := 2) rfl) (fun hx2 => ?_)
      refine Go.invokestatic true d17_370 (hw _ (List.mem_of_getElem? (i := 37) rfl)) (hw _ (List.mem_of_getElem? (i := 38) rfl)) (hw _ (List.mem_of_getElem? (i := 1) rfl)) (hw _ (List.mem_of_getElem? (i := 39) rfl)) (c_p2 hw va e1 e2 w1 b1 w2 b2 op hV hVE hOP o81 t82 L2 22 cpt hCS hcpt (Ne.symm hx1) (Ne.symm hx2) rfl (by decide) L2_lat (ne_len (by simp [L1, L2])) rfl) pdg_13 rfl (argsL := [.ref o81]) (rest := []) rfl rfl (Dr := [(o81, .inl ("java/lang/String", [("java/lang/String", "value", "[B", .ref t82), ("java/lang/String", "coder", "B", .int 0)])), (t82, .inr (.byte, L2.map byV)), (a80, .inr (.char, L2.map Value.int))]) rfl (eS (Or.inl (List.mem_of_getElem? (i := 7) rfl)) (eS (Or.inl (List.mem_of_getElem? (i := 6) rfl)) (eS (Or.inl (List.mem_of_getElem? (i := 5) rfl)) (eS (Or.inl (List.mem_of_getElem? (i := 4) rfl)) (eS (Or.inl (List.mem_of_getElem? (i := 3) rfl)) (eS (Or.inl (List.mem_of_getElem? (i := 2) rfl)) (eS (Or.inl (List.mem_of_getElem? (i := 1) rfl)) (eS (Or.inr ⟨rfl, List.mem_of_getElem? (i := 0) rfl⟩) (eS (Or.inr ⟨rfl, List.mem_of_getElem? (i := 1) rfl⟩) eN))))))))) (G := ?_)
      rintro _ _ _ ⟨o83, rfl, rfl, rfl⟩
      refine Go.norm (D2 := [(o83, .inl ("java/util/Optional", [("java/util/Optional", "value", "Ljava/lang/Object;", .ref e2)])), (o81, .inl ("java/lang/String", [("java/lang/String", "value", "[B", .ref t82), ("java/lang/String", "coder", "B", .int 0)])), (t82, .inr (.byte, L2.map byV)), (a80, .inr (.char, L2.map Value.int))]) (S2 := [(op, .inl ("java/util/Optional", [("java/util/Optional", "value", "Ljava/lang/Object;", .null)])), (b2, .inr (.byte, L2.map byV)), (w2, .inl ("java/lang/String", [("java/lang/String", "value", "[B", .ref b2), ("java/lang/String", "coder", "B", .int 0)])), (b1, .inr (.byte, L1.map byV)), (w1, .inl ("java/lang/String", [("java/lang/String", "value", "[B", .ref b1), ("java/lang/String", "coder", "B", .int 0)])), (e2, .inl ("com/example/gyro/gyro/webhook/EventType", [("com/example/gyro/gyro/webhook/EventType", "wireName", "Ljava/lang/String;", .ref w2)])), (e1, .inl ("com/example/gyro/gyro/webhook/EventType", [("com/example/gyro/gyro/webhook/EventType", "wireName", "Ljava/lang/String;", .ref w1)])), (va, .inr (.object "com/example/gyro/gyro/webhook/EventType", [.ref e1, .ref e2]))]) (c2 := 5) (s2 := 51) (st2 := [.ref o83]) ?_
      refine Go.aconstNull d17_373 (G := ?_)
      refine Go.invokevirtual true d17_374 (hw _ (List.mem_of_getElem? (i := 85) rfl)) (hw _ (List.mem_of_getElem? (i := 86) rfl)) (hw _ (List.mem_of_getElem? (i := 88) rfl)) (hw _ (List.mem_of_getElem? (i := 87) rfl)) (hw _ (List.mem_of_getElem? (i := 70) rfl)) (hw _ (List.mem_of_getElem? (i := 89) rfl)) (nfSel (hw _ (List.mem_of_getElem? (i := 88) rfl))) (inD (i := 0) rfl) (c_or1 hw o83 e2) pdg_5 rfl (argsL := [.null]) (rest := []) rfl rfl (Dr := [(o83, .inl ("java/util/Optional", [("java/util/Optional", "value", "Ljava/lang/Object;", .ref e2)])), (o81, .inl ("java/lang/String", [("java/lang/String", "value", "[B", .ref t82), ("java/lang/String", "coder", "B", .int 0)])), (t82, .inr (.byte, L2.map byV)), (a80, .inr (.char, L2.map Value.int))]) rfl (eS (Or.inr ⟨rfl, List.mem_of_getElem? (i := 0) rfl⟩) eN) (G := ?_)
      rintro _ _ _ ⟨rfl, rfl, rfl⟩
      refine Go.norm (D2 := [(o83, .inl ("java/util/Optional", [("java/util/Optional", "value", "Ljava/lang/Object;", .ref e2)])), (o81, .inl ("java/lang/String", [("java/lang/String", "value", "[B", .ref t82), ("java/lang/String", "coder", "B", .int 0)])), (t82, .inr (.byte, L2.map byV)), (a80, .inr (.char, L2.map Value.int))]) (S2 := [(op, .inl ("java/util/Optional", [("java/util/Optional", "value", "Ljava/lang/Object;", .null)])), (b2, .inr (.byte, L2.map byV)), (w2, .inl ("java/lang/String", [("java/lang/String", "value", "[B", .ref b2), ("java/lang/String", "coder", "B", .int 0)])), (b1, .inr (.byte, L1.map byV)), (w1, .inl ("java/lang/String", [("java/lang/String", "value", "[B", .ref b1), ("java/lang/String", "coder", "B", .int 0)])), (e2, .inl ("com/example/gyro/gyro/webhook/EventType", [("com/example/gyro/gyro/webhook/EventType", "wireName", "Ljava/lang/String;", .ref w2)])), (e1, .inl ("com/example/gyro/gyro/webhook/EventType", [("com/example/gyro/gyro/webhook/EventType", "wireName", "Ljava/lang/String;", .ref w1)])), (va, .inr (.object "com/example/gyro/gyro/webhook/EventType", [.ref e1, .ref e2]))]) (c2 := 5) (s2 := 51) (st2 := [.ref e2]) ?_
      refine Go.checkcast d17_377 (hw _ (List.mem_of_getElem? (i := 90) rfl)) (inS (i := 5) rfl) (Or.inl rfl) (G := ?_)
      refine Go.astore d17_380 (Ls' := #[.val (.int sel), .val (.int pos), .val (.int c), .val (.int d0), .val (.int d1), .val (.int d2), .val (.int 1), .val (.int 3), .val (.int ch), .val (.ref o81), .val (.ref e2), .val (.ref e2), .val (.ref a80), .unset, .unset]) rfl (G := ?_)
      refine Go.aload d17_382 rfl (G := ?_)
      refine Go.aload d17_384 rfl (G := ?_)
      refine Go.acmpne d17_386 (pc2 := 393) (Gy := fun h => absurd rfl h) (Gn := fun _ => ?_)
      refine Go.iconst d17_389 (v := 1) rfl (G := ?_)
      refine Go.goto d17_390 (pc2 := 394) (G := ?_)
      refine Go.sub [] (by decide) rfl (D' := []) rfl (S' := []) eN (G := ?_)
      exact Go.retB d17_394 (by simp) (z' := 1) rfl ⟨rfl, rfl, rfl⟩
  · skip
    rcases hl4 with rfl | rfl | rfl | rfl
    · skip
      refine Go.iloadN d17_0 rfl (G := ?_)
      refine Go.iconst d17_1 (v := 3) rfl (G := ?_)
      refine Go.iand d17_2 (z := 2) hkd (G := ?_)
      refine Go.istore d17_3 (Ls' := #[.val (.int sel), .val (.int pos), .val (.int c), .val (.int d0), .val (.int d1), .val (.int d2), .val (.int 2), .unset, .unset, .unset, .unset, .unset, .unset, .unset, .unset]) rfl (G := ?_)
      refine Go.iloadN d17_5 rfl (G := ?_)
      refine Go.iconst d17_6 (v := 2) rfl (G := ?_)
      refine Go.iushr d17_7 (z := (ush sel 2)) rfl (G := ?_)
      refine Go.iconst d17_8 (v := 3) rfl (G := ?_)
      refine Go.iand d17_9 (z := vr) hvr (G := ?_)
      refine Go.istore d17_10 (Ls' := #[.val (.int sel), .val (.int pos), .val (.int c), .val (.int d0), .val (.int d1), .val (.int d2), .val (.int 2), .val (.int vr), .unset, .unset, .unset, .unset, .unset, .unset, .unset]) rfl (G := ?_)
      refine Go.iloadN d17_12 rfl (G := ?_)
      refine Go.sipush d17_13 (v := 255) rfl (G := ?_)
      refine Go.iand d17_16 (z := (c &&& 255)) rfl (G := ?_)
      refine Go.i2c d17_17 (z := ch) ((i2c_mask _).trans hche) (G := ?_)
      refine Go.istore d17_18 (Ls' := #[.val (.int sel), .val (.int pos), .val (.int c), .val (.int d0), .val (.int d1), .val (.int d2), .val (.int 2), .val (.int vr), .val (.int ch), .unset, .unset, .unset, .unset, .unset, .unset]) rfl (G := ?_)
      refine Go.iload d17_20 rfl (G := ?_)
      refine Go.ifc d17_22 (pc2 := 31) (Gy := fun h => absurd h (show ¬ ((2 : Int32) = 0) by decide)) (Gn := fun _ => ?_)
      refine Go.iload d17_25 rfl (G := ?_)
      refine Go.iconst d17_27 (v := 1) rfl (G := ?_)
      refine Go.icmp d17_28 (pc2 := 213) (Gy := fun _ => ?_) (Gn := fun h => absurd (show ¬ (2 : Int32) = 1 by decide) h)
      refine Go.iload d17_213 rfl (G := ?_)
      refine Go.iconst d17_215 (v := 2) rfl (G := ?_)
      refine Go.icmp d17_216 (pc2 := 362) (Gy := fun h => absurd h (show ¬ (¬ (2 : Int32) = 2) by decide)) (Gn := fun _ => ?_)
      refine Go.iloadN d17_219 rfl (G := ?_)
      refine Go.iconst d17_220 (v := 4) rfl (G := ?_)
      refine Go.iushr d17_221 (z := (ush sel 4)) rfl (G := ?_)
      refine Go.iconst d17_222 (v := 3) rfl (G := ?_)
      refine Go.iand d17_223 (z := 0) hln (G := ?_)
      refine Go.istore d17_224 (Ls' := #[.val (.int sel), .val (.int pos), .val (.int c), .val (.int d0), .val (.int d1), .val (.int d2), .val (.int 2), .val (.int vr), .val (.int ch), .unset, .unset, .val (.int 0), .unset, .unset, .unset]) rfl (G := ?_)
      refine Go.iloadN d17_226 rfl (G := ?_)
      refine Go.sipush d17_227 (v := 255) rfl (G := ?_)
      refine Go.iand d17_230 (z := (d0 &&& 255)) rfl (G := ?_)
      refine Go.i2c d17_231 (z := c0) ((i2c_mask _).trans hce0) (G := ?_)
      refine Go.istore d17_232 (Ls' := #[.val (.int sel), .val (.int pos), .val (.int c), .val (.int d0), .val (.int d1), .val (.int d2), .val (.int 2), .val (.int vr), .val (.int ch), .unset, .unset, .val (.int 0), .val (.int c0), .unset, .unset]) rfl (G := ?_)
      refine Go.iload d17_234 rfl (G := ?_)
      refine Go.sipush d17_236 (v := 255) rfl (G := ?_)
      refine Go.iand d17_239 (z := (d1 &&& 255)) rfl (G := ?_)
      refine Go.i2c d17_240 (z := c1) ((i2c_mask _).trans hce1) (G := ?_)
      refine Go.istore d17_241 (Ls' := #[.val (.int sel), .val (.int pos), .val (.int c), .val (.int d0), .val (.int d1), .val (.int d2), .val (.int 2), .val (.int vr), .val (.int ch), .unset, .unset, .val (.int 0), .val (.int c0), .val (.int c1), .unset]) rfl (G := ?_)
      refine Go.iload d17_243 rfl (G := ?_)
      refine Go.sipush d17_245 (v := 255) rfl (G := ?_)
      refine Go.iand d17_248 (z := (d2 &&& 255)) rfl (G := ?_)
      refine Go.i2c d17_249 (z := c2) ((i2c_mask _).trans hce2) (G := ?_)
      refine Go.istore d17_250 (Ls' := #[.val (.int sel), .val (.int pos), .val (.int c), .val (.int d0), .val (.int d1), .val (.int d2), .val (.int 2), .val (.int vr), .val (.int ch), .unset, .unset, .val (.int 0), .val (.int c0), .val (.int c1), .val (.int c2)]) rfl (G := ?_)
      refine Go.iload d17_252 rfl (G := ?_)
      refine Go.ifc d17_254 (pc2 := 272) (Gy := fun h => absurd h (show ¬ (¬ (0 : Int32) = 0) by decide)) (Gn := fun _ => ?_)
      refine Go.new d17_257 (hw _ (List.mem_of_getElem? (i := 8) rfl)) (hw _ (List.mem_of_getElem? (i := 9) rfl)) (hw _ (List.mem_of_getElem? (i := 10) rfl)) (NewF.cons (Or.inr (hw _ (List.mem_of_getElem? (i := 36) rfl))) (ty := .array .byte) (by decide +kernel) rfl (by simp) (NewF.cons (Or.inr (hw _ (List.mem_of_getElem? (i := 34) rfl))) (ty := .byte) (by decide +kernel) rfl (by simp) NewF.nil)) (G := fun o89 => ?_)
      refine Go.dup d17_260 (G := ?_)
      refine Go.iconst d17_261 (v := 0) rfl (G := ?_)
      refine Go.newarray d17_262 (hw _ (List.mem_of_getElem? (i := 7) rfl)) (k := 0) rfl (by decide) (by decide) (vs := []) rfl (G := fun o90 => ?_)
      refine Go.perm [1, 0] (by decide) rfl (D' := [(o89, .inl ("java/lang/String", [("java/lang/String", "value", "[B", .null), ("java/lang/String", "coder", "B", .int 0)])), (o90, .inr (.char, []))]) rfl (G := ?_)
      refine Go.invokeinit false d17_264 rfl (hw _ (List.mem_of_getElem? (i := 11) rfl)) (hw _ (List.mem_of_getElem? (i := 12) rfl)) (hw _ (List.mem_of_getElem? (i := 10) rfl)) (hw _ (List.mem_of_getElem? (i := 13) rfl)) (c_init0 hw o89 o90 [] hb1 hE_String_7) pdg_12 rfl (argsL := [.ref o90]) (rest := [.ref o89]) rfl rfl (Dr := []) rfl eN (G := ?_)
      rintro _ _ _ ⟨kc91, rfl, rfl, rfl⟩
      refine Go.norm (D2 := [(o89, .inl ("java/lang/String", [("java/lang/String", "value", "[B", .ref kc91), ("java/lang/String", "coder", "B", .int 0)])), (o90, .inr (.char, []))]) (S2 := [(kc91, .inr (.byte, ([] : List Int32).map byV)), (op, .inl ("java/util/Optional", [("java/util/Optional", "value", "Ljava/lang/Object;", .null)])), (b2, .inr (.byte, L2.map byV)), (w2, .inl ("java/lang/String", [("java/lang/String", "value", "[B", .ref b2), ("java/lang/String", "coder", "B", .int 0)])), (b1, .inr (.byte, L1.map byV)), (w1, .inl ("java/lang/String", [("java/lang/String", "value", "[B", .ref b1), ("java/lang/String", "coder", "B", .int 0)])), (e2, .inl ("com/example/gyro/gyro/webhook/EventType", [("com/example/gyro/gyro/webhook/EventType", "wireName", "Ljava/lang/String;", .ref w2)])), (e1, .inl ("com/example/gyro/gyro/webhook/EventType", [("com/example/gyro/gyro/webhook/EventType", "wireName", "Ljava/lang/String;", .ref w1)])), (va, .inr (.object "com/example/gyro/gyro/webhook/EventType", [.ref e1, .ref e2]))]) (c2 := 6) (s2 := 12) (st2 := [.ref o89]) ?_
      refine Go.astore d17_267 (Ls' := #[.val (.int sel), .val (.int pos), .val (.int c), .val (.int d0), .val (.int d1), .val (.int d2), .val (.int 2), .val (.int vr), .val (.int ch), .val (.ref o89), .unset, .val (.int 0), .val (.int c0), .val (.int c1), .val (.int c2)]) rfl (G := ?_)
      refine Go.goto d17_269 (pc2 := 356) (G := ?_)
      refine Go.aconstNull d17_356 (G := ?_)
      refine Go.astore d17_357 (Ls' := #[.val (.int sel), .val (.int pos), .val (.int c), .val (.int d0), .val (.int d1), .val (.int d2), .val (.int 2), .val (.int vr), .val (.int ch), .val (.ref o89), .val .null, .val (.int 0), .val (.int c0), .val (.int c1), .val (.int c2)]) rfl (G := ?_)
      refine Go.goto d17_359 (pc2 := 368) (G := ?_)
      refine Go.aload d17_368 rfl (G := ?_)
      refine Go.neS (x := (o89, .inl ("java/lang/String", [("java/lang/String", "value", "[B", .ref kc91), ("java/lang/String", "coder", "B", .int 0)]))) (y := (w1, .inl ("java/lang/String", [("java/lang/String", "value", "[B", .ref b1), ("java/lang/String", "coder", "B", .int 0)]))) (List.mem_of_getElem? (i := 0) rfl) (List.mem_of_getElem? (i := 5) rfl) (fun hx1 => ?_)
      refine Go.neS (x := (o89, .inl ("java/lang/String", [("java/lang/String", "value", "[B", .ref kc91), ("java/lang/String", "coder", "B", .int 0)]))) (y := (w2, .inl ("java/lang/String", [("java/lang/String", "value", "[B", .ref b2), ("java/lang/String", "coder", "B", .int 0)]))) (List.mem_of_getElem? (i := 0) rfl) (List.mem_of_getElem? (i := 3) rfl) (fun hx2 => ?_)
      refine Go.invokestatic true d17_370 (hw _ (List.mem_of_getElem? (i := 37) rfl)) (hw _ (List.mem_of_getElem? (i := 38) rfl)) (hw _ (List.mem_of_getElem? (i := 1) rfl)) (hw _ (List.mem_of_getElem? (i := 39) rfl)) (c_p0 hw va e1 e2 w1 b1 w2 b2 op hV hVE hOP o89 kc91 ([] : List Int32) 0 cpt hCS hcpt (Ne.symm hx1) (Ne.symm hx2) rfl (by decide) (show ∀ u ∈ ([] : List Int32), 0 ≤ u.toInt ∧ u.toInt ≤ 255 from eN) (ne_len (by simp [L1, L2])) (ne_len (by simp [L1, L2]))) pdg_13 rfl (argsL := [.ref o89]) (rest := []) rfl rfl (Dr := [(o89, .inl ("java/lang/String", [("java/lang/String", "value", "[B", .ref kc91), ("java/lang/String", "coder", "B", .int 0)])), (o90, .inr (.char, []))]) rfl (eS (Or.inl (List.mem_of_getElem? (i := 8) rfl)) (eS (Or.inl (List.mem_of_getElem? (i := 7) rfl)) (eS (Or.inl (List.mem_of_getElem? (i := 6) rfl)) (eS (Or.inl (List.mem_of_getElem? (i := 5) rfl)) (eS (Or.inl (List.mem_of_getElem? (i := 4) rfl)) (eS (Or.inl (List.mem_of_getElem? (i := 3) rfl)) (eS (Or.inl (List.mem_of_getElem? (i := 2) rfl)) (eS (Or.inr ⟨rfl, List.mem_of_getElem? (i := 0) rfl⟩) (eS (Or.inl (List.mem_of_getElem? (i := 0) rfl)) eN))))))))) (G := ?_)
      rintro _ _ _ ⟨rfl, rfl, rfl⟩
      refine Go.norm (D2 := [(o89, .inl ("java/lang/String", [("java/lang/String", "value", "[B", .ref kc91), ("java/lang/String", "coder", "B", .int 0)])), (o90, .inr (.char, []))]) (S2 := [(kc91, .inr (.byte, ([] : List Int32).map byV)), (op, .inl ("java/util/Optional", [("java/util/Optional", "value", "Ljava/lang/Object;", .null)])), (b2, .inr (.byte, L2.map byV)), (w2, .inl ("java/lang/String", [("java/lang/String", "value", "[B", .ref b2), ("java/lang/String", "coder", "B", .int 0)])), (b1, .inr (.byte, L1.map byV)), (w1, .inl ("java/lang/String", [("java/lang/String", "value", "[B", .ref b1), ("java/lang/String", "coder", "B", .int 0)])), (e2, .inl ("com/example/gyro/gyro/webhook/EventType", [("com/example/gyro/gyro/webhook/EventType", "wireName", "Ljava/lang/String;", .ref w2)])), (e1, .inl ("com/example/gyro/gyro/webhook/EventType", [("com/example/gyro/gyro/webhook/EventType", "wireName", "Ljava/lang/String;", .ref w1)])), (va, .inr (.object "com/example/gyro/gyro/webhook/EventType", [.ref e1, .ref e2]))]) (c2 := 8) (s2 := 15) (st2 := [.ref op]) ?_
      refine Go.aconstNull d17_373 (G := ?_)
      refine Go.invokevirtual false d17_374 (hw _ (List.mem_of_getElem? (i := 85) rfl)) (hw _ (List.mem_of_getElem? (i := 86) rfl)) (hw _ (List.mem_of_getElem? (i := 88) rfl)) (hw _ (List.mem_of_getElem? (i := 87) rfl)) (hw _ (List.mem_of_getElem? (i := 70) rfl)) (hw _ (List.mem_of_getElem? (i := 89) rfl)) (nfSel (hw _ (List.mem_of_getElem? (i := 88) rfl))) (inS (i := 1) rfl) (c_or0 hw op) pdg_5 rfl (argsL := [.null]) (rest := []) rfl rfl (Dr := [(o89, .inl ("java/lang/String", [("java/lang/String", "value", "[B", .ref kc91), ("java/lang/String", "coder", "B", .int 0)])), (o90, .inr (.char, []))]) rfl (eS (Or.inl (List.mem_of_getElem? (i := 1) rfl)) eN) (G := ?_)
      rintro _ _ _ ⟨rfl, rfl, rfl⟩
      refine Go.norm (D2 := [(o89, .inl ("java/lang/String", [("java/lang/String", "value", "[B", .ref kc91), ("java/lang/String", "coder", "B", .int 0)])), (o90, .inr (.char, []))]) (S2 := [(kc91, .inr (.byte, ([] : List Int32).map byV)), (op, .inl ("java/util/Optional", [("java/util/Optional", "value", "Ljava/lang/Object;", .null)])), (b2, .inr (.byte, L2.map byV)), (w2, .inl ("java/lang/String", [("java/lang/String", "value", "[B", .ref b2), ("java/lang/String", "coder", "B", .int 0)])), (b1, .inr (.byte, L1.map byV)), (w1, .inl ("java/lang/String", [("java/lang/String", "value", "[B", .ref b1), ("java/lang/String", "coder", "B", .int 0)])), (e2, .inl ("com/example/gyro/gyro/webhook/EventType", [("com/example/gyro/gyro/webhook/EventType", "wireName", "Ljava/lang/String;", .ref w2)])), (e1, .inl ("com/example/gyro/gyro/webhook/EventType", [("com/example/gyro/gyro/webhook/EventType", "wireName", "Ljava/lang/String;", .ref w1)])), (va, .inr (.object "com/example/gyro/gyro/webhook/EventType", [.ref e1, .ref e2]))]) (c2 := 8) (s2 := 15) (st2 := [.null]) ?_
      refine Go.checkcastNull d17_377 (G := ?_)
      refine Go.astore d17_380 (Ls' := #[.val (.int sel), .val (.int pos), .val (.int c), .val (.int d0), .val (.int d1), .val (.int d2), .val (.int 2), .val (.int vr), .val (.int ch), .val (.ref o89), .val .null, .val .null, .val (.int c0), .val (.int c1), .val (.int c2)]) rfl (G := ?_)
      refine Go.aload d17_382 rfl (G := ?_)
      refine Go.aload d17_384 rfl (G := ?_)
      refine Go.acmpne d17_386 (pc2 := 393) (Gy := fun h => absurd rfl h) (Gn := fun _ => ?_)
      refine Go.iconst d17_389 (v := 1) rfl (G := ?_)
      refine Go.goto d17_390 (pc2 := 394) (G := ?_)
      refine Go.sub [] (by decide) rfl (D' := []) rfl (S' := []) eN (G := ?_)
      exact Go.retB d17_394 (by simp) (z' := 1) rfl ⟨rfl, rfl, rfl⟩
    · skip
      refine Go.iloadN d17_0 rfl (G := ?_)
      refine Go.iconst d17_1 (v := 3) rfl (G := ?_)
      refine Go.iand d17_2 (z := 2) hkd (G := ?_)
      refine Go.istore d17_3 (Ls' := #[.val (.int sel), .val (.int pos), .val (.int c), .val (.int d0), .val (.int d1), .val (.int d2), .val (.int 2), .unset, .unset, .unset, .unset, .unset, .unset, .unset, .unset]) rfl (G := ?_)
      refine Go.iloadN d17_5 rfl (G := ?_)
      refine Go.iconst d17_6 (v := 2) rfl (G := ?_)
      refine Go.iushr d17_7 (z := (ush sel 2)) rfl (G := ?_)
      refine Go.iconst d17_8 (v := 3) rfl (G := ?_)
      refine Go.iand d17_9 (z := vr) hvr (G := ?_)
      refine Go.istore d17_10 (Ls' := #[.val (.int sel), .val (.int pos), .val (.int c), .val (.int d0), .val (.int d1), .val (.int d2), .val (.int 2), .val (.int vr), .unset, .unset, .unset, .unset, .unset, .unset, .unset]) rfl (G := ?_)
      refine Go.iloadN d17_12 rfl (G := ?_)
      refine Go.sipush d17_13 (v := 255) rfl (G := ?_)
      refine Go.iand d17_16 (z := (c &&& 255)) rfl (G := ?_)
      refine Go.i2c d17_17 (z := ch) ((i2c_mask _).trans hche) (G := ?_)
      refine Go.istore d17_18 (Ls' := #[.val (.int sel), .val (.int pos), .val (.int c), .val (.int d0), .val (.int d1), .val (.int d2), .val (.int 2), .val (.int vr), .val (.int ch), .unset, .unset, .unset, .unset, .unset, .unset]) rfl (G := ?_)
      refine Go.iload d17_20 rfl (G := ?_)
      refine Go.ifc d17_22 (pc2 := 31) (Gy := fun h => absurd h (show ¬ ((2 : Int32) = 0) by decide)) (Gn := fun _ => ?_)
      refine Go.iload d17_25 rfl (G := ?_)
      refine Go.iconst d17_27 (v := 1) rfl (G := ?_)
      refine Go.icmp d17_28 (pc2 := 213) (Gy := fun _ => ?_) (Gn := fun h => absurd (show ¬ (2 : Int32) = 1 by decide) h)
      refine Go.iload d17_213 rfl (G := ?_)
      refine Go.iconst d17_215 (v := 2) rfl (G := ?_)
      refine Go.icmp d17_216 (pc2 := 362) (Gy := fun h => absurd h (show ¬ (¬ (2 : Int32) = 2) by decide)) (Gn := fun _ => ?_)
      refine Go.iloadN d17_219 rfl (G := ?_)
      refine Go.iconst d17_220 (v := 4) rfl (G := ?_)
      refine Go.iushr d17_221 (z := (ush sel 4)) rfl (G := ?_)
      refine Go.iconst d17_222 (v := 3) rfl (G := ?_)
      refine Go.iand d17_223 (z := 1) hln (G := ?_)
      refine Go.istore d17_224 (Ls' := #[.val (.int sel), .val (.int pos), .val (.int c), .val (.int d0), .val (.int d1), .val (.int d2), .val (.int 2), .val (.int vr), .val (.int ch), .unset, .unset, .val (.int 1), .unset, .unset, .unset]) rfl (G := ?_)
      refine Go.iloadN d17_226 rfl (G := ?_)
      refine Go.sipush d17_227 (v := 255) rfl (G := ?_)
      refine Go.iand d17_230 (z := (d0 &&& 255)) rfl (G := ?_)
      refine Go.i2c d17_231 (z := c0) ((i2c_mask _).trans hce0) (G := ?_)
      refine Go.istore d17_232 (Ls' := #[.val (.int sel), .val (.int pos), .val (.int c), .val (.int d0), .val (.int d1), .val (.int d2), .val (.int 2), .val (.int vr), .val (.int ch), .unset, .unset, .val (.int 1), .val (.int c0), .unset, .unset]) rfl (G := ?_)
      refine Go.iload d17_234 rfl (G := ?_)
      refine Go.sipush d17_236 (v := 255) rfl (G := ?_)
      refine Go.iand d17_239 (z := (d1 &&& 255)) rfl (G := ?_)
      refine Go.i2c d17_240 (z := c1) ((i2c_mask _).trans hce1) (G := ?_)
      refine Go.istore d17_241 (Ls' := #[.val (.int sel), .val (.int pos), .val (.int c), .val (.int d0), .val (.int d1), .val (.int d2), .val (.int 2), .val (.int vr), .val (.int ch), .unset, .unset, .val (.int 1), .val (.int c0), .val (.int c1), .unset]) rfl (G := ?_)
      refine Go.iload d17_243 rfl (G := ?_)
      refine Go.sipush d17_245 (v := 255) rfl (G := ?_)
      refine Go.iand d17_248 (z := (d2 &&& 255)) rfl (G := ?_)
      refine Go.i2c d17_249 (z := c2) ((i2c_mask _).trans hce2) (G := ?_)
      refine Go.istore d17_250 (Ls' := #[.val (.int sel), .val (.int pos), .val (.int c), .val (.int d0), .val (.int d1), .val (.int d2), .val (.int 2), .val (.int vr), .val (.int ch), .unset, .unset, .val (.int 1), .val (.int c0), .val (.int c1), .val (.int c2)]) rfl (G := ?_)
      refine Go.iload d17_252 rfl (G := ?_)
      refine Go.ifc d17_254 (pc2 := 272) (Gy := fun _ => ?_) (Gn := fun h => absurd (show ¬ (1 : Int32) = 0 by decide) h)
      refine Go.iload d17_272 rfl (G := ?_)
      refine Go.iconst d17_274 (v := 1) rfl (G := ?_)
      refine Go.icmp d17_275 (pc2 := 298) (Gy := fun h => absurd h (show ¬ (¬ (1 : Int32) = 1) by decide)) (Gn := fun _ => ?_)
      refine Go.new d17_278 (hw _ (List.mem_of_getElem? (i := 8) rfl)) (hw _ (List.mem_of_getElem? (i := 9) rfl)) (hw _ (List.mem_of_getElem? (i := 10) rfl)) (NewF.cons (Or.inr (hw _ (List.mem_of_getElem? (i := 36) rfl))) (ty := .array .byte) (by decide +kernel) rfl (by simp) (NewF.cons (Or.inr (hw _ (List.mem_of_getElem? (i := 34) rfl))) (ty := .byte) (by decide +kernel) rfl (by simp) NewF.nil)) (G := fun o98 => ?_)
      refine Go.dup d17_281 (G := ?_)
      refine Go.iconst d17_282 (v := 1) rfl (G := ?_)
      refine Go.newarray d17_283 (hw _ (List.mem_of_getElem? (i := 7) rfl)) (k := 1) rfl (by decide) (by decide) (vs := [.int 0]) rfl (G := fun o99 => ?_)
      refine Go.dup d17_285 (G := ?_)
      refine Go.iconst d17_286 (v := 0) rfl (G := ?_)
      refine Go.iload d17_287 rfl (G := ?_)
      refine Go.castore d17_289 0 rfl (x' := c0) (nc_of hc0) (Nat.le_of_ble_eq_true rfl) (D' := [(o99, .inr (.char, [.int c0])), (o98, .inl ("java/lang/String", [("java/lang/String", "value", "[B", .null), ("java/lang/String", "coder", "B", .int 0)]))]) rfl (G := ?_)
      refine Go.perm [1, 0] (by decide) rfl (D' := [(o98, .inl ("java/lang/String", [("java/lang/String", "value", "[B", .null), ("java/lang/String", "coder", "B", .int 0)])), (o99, .inr (.char, [.int c0]))]) rfl (G := ?_)
      refine Go.invokeinit true d17_290 rfl (hw _ (List.mem_of_getElem? (i := 11) rfl)) (hw _ (List.mem_of_getElem? (i := 12) rfl)) (hw _ (List.mem_of_getElem? (i := 10) rfl)) (hw _ (List.mem_of_getElem? (i := 13) rfl)) (c_init hw o98 o99 ([c0] : List Int32) 1 [] cpt hCS hcpt rfl (by decide) (by decide) (fun u hu => nlat ((show ∀ u ∈ ([c0] : List Int32), 0 ≤ u.toInt ∧ u.toInt ≤ 255 from (eS hc0 eN)) u hu))) pdg_12 rfl (argsL := [.ref o99]) (rest := [.ref o98]) rfl rfl (Dr := [(o99, .inr (.char, [.int c0]))]) rfl (eS (Or.inr ⟨rfl, List.mem_of_getElem? (i := 0) rfl⟩) eN) (G := ?_)
      rintro _ _ _ ⟨t100, rfl, rfl, rfl⟩
      refine Go.norm (D2 := [(o98, .inl ("java/lang/String", [("java/lang/String", "value", "[B", .ref t100), ("java/lang/String", "coder", "B", .int 0)])), (t100, .inr (.byte, ([c0] : List Int32).map byV)), (o99, .inr (.char, [.int c0]))]) (S2 := [(op, .inl ("java/util/Optional", [("java/util/Optional", "value", "Ljava/lang/Object;", .null)])), (b2, .inr (.byte, L2.map byV)), (w2, .inl ("java/lang/String", [("java/lang/String", "value", "[B", .ref b2), ("java/lang/String", "coder", "B", .int 0)])), (b1, .inr (.byte, L1.map byV)), (w1, .inl ("java/lang/String", [("java/lang/String", "value", "[B", .ref b1), ("java/lang/String", "coder", "B", .int 0)])), (e2, .inl ("com/example/gyro/gyro/webhook/EventType", [("com/example/gyro/gyro/webhook/EventType", "wireName", "Ljava/lang/String;", .ref w2)])), (e1, .inl ("com/example/gyro/gyro/webhook/EventType", [("com/example/gyro/gyro/webhook/EventType", "wireName", "Ljava/lang/String;", .ref w1)])), (va, .inr (.object "com/example/gyro/gyro/webhook/EventType", [.ref e1, .ref e2]))]) (c2 := 3) (s2 := 6) (st2 := [.ref o98]) ?_
      refine Go.astore d17_293 (Ls' := #[.val (.int sel), .val (.int pos), .val (.int c), .val (.int d0), .val (.int d1), .val (.int d2), .val (.int 2), .val (.int vr), .val (.int ch), .val (.ref o98), .unset, .val (.int 1), .val (.int c0), .val (.int c1), .val (.int c2)]) rfl (G := ?_)
      refine Go.goto d17_295 (pc2 := 356) (G := ?_)
      refine Go.aconstNull d17_356 (G := ?_)
      refine Go.astore d17_357 (Ls' := #[.val (.int sel), .val (.int pos), .val (.int c), .val (.int d0), .val (.int d1), .val (.int d2), .val (.int 2), .val (.int vr), .val (.int ch), .val (.ref o98), .val .null, .val (.int 1), .val (.int c0), .val (.int c1), .val (.int c2)]) rfl (G := ?_)
      refine Go.goto d17_359 (pc2 := 368) (G := ?_)
      refine Go.aload d17_368 rfl (G := ?_)
      refine Go.neS (x := (o98, .inl ("java/lang/String", [("java/lang/String", "value", "[B", .ref t100), ("java/lang/String", "coder", "B", .int 0)]))) (y := (w1, .inl ("java/lang/String", [("java/lang/String", "value", "[B", .ref b1), ("java/lang/String", "coder", "B", .int 0)]))) (List.mem_of_getElem? (i := 0) rfl) (List.mem_of_getElem? (i := 4) rfl) (fun hx1 => ?_)
      refine Go.neS (x := (o98, .inl ("java/lang/String", [("java/lang/String", "value", "[B", .ref t100), ("java/lang/String", "coder", "B", .int 0)]))) (y := (w2, .inl ("java/lang/String", [("java/lang/String", "value", "[B", .ref b2), ("java/lang/String", "coder", "B", .int 0)]))) (List.mem_of_getElem? (i := 0) rfl) (List.mem_of_getElem? (i := 2) rfl) (fun hx2 => ?_)
      refine Go.invokestatic true d17_370 (hw _ (List.mem_of_getElem? (i := 37) rfl)) (hw _ (List.mem_of_getElem? (i := 38) rfl)) (hw _ (List.mem_of_getElem? (i := 1) rfl)) (hw _ (List.mem_of_getElem? (i := 39) rfl)) (c_p0 hw va e1 e2 w1 b1 w2 b2 op hV hVE hOP o98 t100 ([c0] : List Int32) 1 cpt hCS hcpt (Ne.symm hx1) (Ne.symm hx2) rfl (by decide) (show ∀ u ∈ ([c0] : List Int32), 0 ≤ u.toInt ∧ u.toInt ≤ 255 from (eS hc0 eN)) (ne_len (by simp [L1, L2])) (ne_len (by simp [L1, L2]))) pdg_13 rfl (argsL := [.ref o98]) (rest := []) rfl rfl (Dr := [(o98, .inl ("java/lang/String", [("java/lang/String", "value", "[B", .ref t100), ("java/lang/String", "coder", "B", .int 0)])), (t100, .inr (.byte, ([c0] : List Int32).map byV)), (o99, .inr (.char, [.int c0]))]) rfl (eS (Or.inl (List.mem_of_getElem? (i := 7) rfl)) (eS (Or.inl (List.mem_of_getElem? (i := 6) rfl)) (eS (Or.inl (List.mem_of_getElem? (i := 5) rfl)) (eS (Or.inl (List.mem_of_getElem? (i := 4) rfl)) (eS (Or.inl (List.mem_of_getElem? (i := 3) rfl)) (eS (Or.inl (List.mem_of_getElem? (i := 2) rfl)) (eS (Or.inl (List.mem_of_getElem? (i := 1) rfl)) (eS (Or.inr ⟨rfl, List.mem_of_getElem? (i := 0) rfl⟩) (eS (Or.inr ⟨rfl, List.mem_of_getElem? (i := 1) rfl⟩) eN))))))))) (G := ?_)
      rintro _ _ _ ⟨rfl, rfl, rfl⟩
      refine Go.norm (D2 := [(o98, .inl ("java/lang/String", [("java/lang/String", "value", "[B", .ref t100), ("java/lang/String", "coder", "B", .int 0)])), (t100, .inr (.byte, ([c0] : List Int32).map byV)), (o99, .inr (.char, [.int c0]))]) (S2 := [(op, .inl ("java/util/Optional", [("java/util/Optional", "value", "Ljava/lang/Object;", .null)])), (b2, .inr (.byte, L2.map byV)), (w2, .inl ("java/lang/String", [("java/lang/String", "value", "[B", .ref b2), ("java/lang/String", "coder", "B", .int 0)])), (b1, .inr (.byte, L1.map byV)), (w1, .inl ("java/lang/String", [("java/lang/String", "value", "[B", .ref b1), ("java/lang/String", "coder", "B", .int 0)])), (e2, .inl ("com/example/gyro/gyro/webhook/EventType", [("com/example/gyro/gyro/webhook/EventType", "wireName", "Ljava/lang/String;", .ref w2)])), (e1, .inl ("com/example/gyro/gyro/webhook/EventType", [("com/example/gyro/gyro/webhook/EventType", "wireName", "Ljava/lang/String;", .ref w1)])), (va, .inr (.object "com/example/gyro/gyro/webhook/EventType", [.ref e1, .ref e2]))]) (c2 := 5) (s2 := 9) (st2 := [.ref op]) ?_
      refine Go.aconstNull d17_373 (G := ?_)
      refine Go.invokevirtual false d17_374 (hw _ (List.mem_of_getElem? (i := 85) rfl)) (hw _ (List.mem_of_getElem? (i := 86) rfl)) (hw _ (List.mem_of_getElem? (i := 88) rfl)) (hw _ (List.mem_of_getElem? (i := 87) rfl)) (hw _ (List.mem_of_getElem? (i := 70) rfl)) (hw _ (List.mem_of_getElem? (i := 89) rfl)) (nfSel (hw _ (List.mem_of_getElem? (i := 88) rfl))) (inS (i := 0) rfl) (c_or0 hw op) pdg_5 rfl (argsL := [.null]) (rest := []) rfl rfl (Dr := [(o98, .inl ("java/lang/String", [("java/lang/String", "value", "[B", .ref t100), ("java/lang/String", "coder", "B", .int 0)])), (t100, .inr (.byte, ([c0] : List Int32).map byV)), (o99, .inr (.char, [.int c0]))]) rfl (eS (Or.inl (List.mem_of_getElem? (i := 0) rfl)) eN) (G := ?_)
      rintro _ _ _ ⟨rfl, rfl, rfl⟩
      refine Go.norm (D2 := [(o98, .inl ("java/lang/String", [("java/lang/String", "value", "[B", .ref t100), ("java/lang/String", "coder", "B", .int 0)])), (t100, .inr (.byte, ([c0] : List Int32).map byV)), (o99, .inr (.char, [.int c0]))]) (S2 := [(op, .inl ("java/util/Optional", [("java/util/Optional", "value", "Ljava/lang/Object;", .null)])), (b2, .inr (.byte, L2.map byV)), (w2, .inl ("java/lang/String", [("java/lang/String", "value", "[B", .ref b2), ("java/lang/String", "coder", "B", .int 0)])), (b1, .inr (.byte, L1.map byV)), (w1, .inl ("java/lang/String", [("java/lang/String", "value", "[B", .ref b1), ("java/lang/String", "coder", "B", .int 0)])), (e2, .inl ("com/example/gyro/gyro/webhook/EventType", [("com/example/gyro/gyro/webhook/EventType", "wireName", "Ljava/lang/String;", .ref w2)])), (e1, .inl ("com/example/gyro/gyro/webhook/EventType", [("com/example/gyro/gyro/webhook/EventType", "wireName", "Ljava/lang/String;", .ref w1)])), (va, .inr (.object "com/example/gyro/gyro/webhook/EventType", [.ref e1, .ref e2]))]) (c2 := 5) (s2 := 9) (st2 := [.null]) ?_
      refine Go.checkcastNull d17_377 (G := ?_)
      refine Go.astore d17_380 (Ls' := #[.val (.int sel), .val (.int pos), .val (.int c), .val (.int d0), .val (.int d1), .val (.int d2), .val (.int 2), .val (.int vr), .val (.int ch), .val (.ref o98), .val .null, .val .null, .val (.int c0), .val (.int c1), .val (.int c2)]) rfl (G := ?_)
      refine Go.aload d17_382 rfl (G := ?_)
      refine Go.aload d17_384 rfl (G := ?_)
      refine Go.acmpne d17_386 (pc2 := 393) (Gy := fun h => absurd rfl h) (Gn := fun _ => ?_)
      refine Go.iconst d17_389 (v := 1) rfl (G := ?_)
      refine Go.goto d17_390 (pc2 := 394) (G := ?_)
      refine Go.sub [] (by decide) rfl (D' := []) rfl (S' := []) eN (G := ?_)
      exact Go.retB d17_394 (by simp) (z' := 1) rfl ⟨rfl, rfl, rfl⟩
    · skip
      refine Go.iloadN d17_0 rfl (G := ?_)
      refine Go.iconst d17_1 (v := 3) rfl (G := ?_)
      refine Go.iand d17_2 (z := 2) hkd (G := ?_)
      refine Go.istore d17_3 (Ls' := #[.val (.int sel), .val (.int pos), .val (.int c), .val (.int d0), .val (.int d1), .val (.int d2), .val (.int 2), .unset, .unset, .unset, .unset, .unset, .unset, .unset, .unset]) rfl (G := ?_)
      refine Go.iloadN d17_5 rfl (G := ?_)
      refine Go.iconst d17_6 (v := 2) rfl (G := ?_)
      refine Go.iushr d17_7 (z := (ush sel 2)) rfl (G := ?_)
      refine Go.iconst d17_8 (v := 3) rfl (G := ?_)
      refine Go.iand d17_9 (z := vr) hvr (G := ?_)
      refine Go.istore d17_10 (Ls' := #[.val (.int sel), .val (.int pos), .val (.int c), .val (.int d0), .val (.int d1), .val (.int d2), .val (.int 2), .val (.int vr), .unset, .unset, .unset, .unset, .unset, .unset, .unset]) rfl (G := ?_)
      refine Go.iloadN d17_12 rfl (G := ?_)
      refine Go.sipush d17_13 (v := 255) rfl (G := ?_)
      refine Go.iand d17_16 (z := (c &&& 255)) rfl (G := ?_)
      refine Go.i2c d17_17 (z := ch) ((i2c_mask _).trans hche) (G := ?_)
      refine Go.istore d17_18 (Ls' := #[.val (.int sel), .val (.int pos), .val (.int c), .val (.int d0), .val (.int d1), .val (.int d2), .val (.int 2), .val (.int vr), .val (.int ch), .unset, .unset, .unset, .unset, .unset, .unset]) rfl (G := ?_)
      refine Go.iload d17_20 rfl (G := ?_)
      refine Go.ifc d17_22 (pc2 := 31) (Gy := fun h => absurd h (show ¬ ((2 : Int32) = 0) by decide)) (Gn := fun _ => ?_)
      refine Go.iload d17_25 rfl (G := ?_)
      refine Go.iconst d17_27 (v := 1) rfl (G := ?_)
      refine Go.icmp d17_28 (pc2 := 213) (Gy := fun _ => ?_) (Gn := fun h => absurd (show ¬ (2 : Int32) = 1 by decide) h)
      refine Go.iload d17_213 rfl (G := ?_)
      refine Go.iconst d17_215 (v := 2) rfl (G := ?_)
      refine Go.icmp d17_216 (pc2 := 362) (Gy := fun h => absurd h (show ¬ (¬ (2 : Int32) = 2) by decide)) (Gn := fun _ => ?_)
      refine Go.iloadN d17_219 rfl (G := ?_)
      refine Go.iconst d17_220 (v := 4) rfl (G := ?_)
      refine Go.iushr d17_221 (z := (ush sel 4)) rfl (G := ?_)
      refine Go.iconst d17_222 (v := 3) rfl (G := ?_)
      refine Go.iand d17_223 (z := 2) hln (G := ?_)
      refine Go.istore d17_224 (Ls' := #[.val (.int sel), .val (.int pos), .val (.int c), .val (.int d0), .val (.int d1), .val (.int d2), .val (.int 2), .val (.int vr), .val (.int ch), .unset, .unset, .val (.int 2), .unset, .unset, .unset]) rfl (G := ?_)
      refine Go.iloadN d17_226 rfl (G := ?_)
      refine Go.sipush d17_227 (v := 255) rfl (G := ?_)
      refine Go.iand d17_230 (z := (d0 &&& 255)) rfl (G := ?_)
      refine Go.i2c d17_231 (z := c0) ((i2c_mask _).trans hce0) (G := ?_)
      refine Go.istore d17_232 (Ls' := #[.val (.int sel), .val (.int pos), .val (.int c), .val (.int d0), .val (.int d1), .val (.int d2), .val (.int 2), .val (.int vr), .val (.int ch), .unset, .unset, .val (.int 2), .val (.int c0), .unset, .unset]) rfl (G := ?_)
      refine Go.iload d17_234 rfl (G := ?_)
      refine Go.sipush d17_236 (v := 255) rfl (G := ?_)
      refine Go.iand d17_239 (z := (d1 &&& 255)) rfl (G := ?_)
      refine Go.i2c d17_240 (z := c1) ((i2c_mask _).trans hce1) (G := ?_)
      refine Go.istore d17_241 (Ls' := #[.val (.int sel), .val (.int pos), .val (.int c), .val (.int d0), .val (.int d1), .val (.int d2), .val (.int 2), .val (.int vr), .val (.int ch), .unset, .unset, .val (.int 2), .val (.int c0), .val (.int c1), .unset]) rfl (G := ?_)
      refine Go.iload d17_243 rfl (G := ?_)
      refine Go.sipush d17_245 (v := 255) rfl (G := ?_)
      refine Go.iand d17_248 (z := (d2 &&& 255)) rfl (G := ?_)
      refine Go.i2c d17_249 (z := c2) ((i2c_mask _).trans hce2) (G := ?_)
      refine Go.istore d17_250 (Ls' := #[.val (.int sel), .val (.int pos), .val (.int c), .val (.int d0), .val (.int d1), .val (.int d2), .val (.int 2), .val (.int vr), .val (.int ch), .unset, .unset, .val (.int 2), .val (.int c0), .val (.int c1), .val (.int c2)]) rfl (G := ?_)
      refine Go.iload d17_252 rfl (G := ?_)
      refine Go.ifc d17_254 (pc2 := 272) (Gy := fun _ => ?_) (Gn := fun h => absurd (show ¬ (2 : Int32) = 0 by decide) h)
      refine Go.iload d17_272 rfl (G := ?_)
      refine Go.iconst d17_274 (v := 1) rfl (G := ?_)
      refine Go.icmp d17_275 (pc2 := 298) (Gy := fun _ => ?_) (Gn := fun h => absurd (show ¬ (2 : Int32) = 1 by decide) h)
      refine Go.iload d17_298 rfl (G := ?_)
      refine Go.iconst d17_300 (v := 2) rfl (G := ?_)
      refine Go.icmp d17_301 (pc2 := 329) (Gy := fun h => absurd h (show ¬ (¬ (2 : Int32) = 2) by decide)) (Gn := fun _ => ?_)
      refine Go.new d17_304 (hw _ (List.mem_of_getElem? (i := 8) rfl)) (hw _ (List.mem_of_getElem? (i := 9) rfl)) (hw _ (List.mem_of_getElem? (i := 10) rfl)) (NewF.cons (Or.inr (hw _ (List.mem_of_getElem? (i := 36) rfl))) (ty := .array .byte) (by decide +kernel) rfl (by simp) (NewF.cons (Or.inr (hw _ (List.mem_of_getElem? (i := 34) rfl))) (ty := .byte) (by decide +kernel) rfl (by simp) NewF.nil)) (G := fun o108 => ?_)
      refine Go.dup d17_307 (G := ?_)
      refine Go.iconst d17_308 (v := 2) rfl (G := ?_)
      refine Go.newarray d17_309 (hw _ (List.mem_of_getElem? (i := 7) rfl)) (k := 2) rfl (by decide) (by decide) (vs := [.int 0, .int 0]) rfl (G := fun o109 => ?_)
      refine Go.dup d17_311 (G := ?_)
      refine Go.iconst d17_312 (v := 0) rfl (G := ?_)
      refine Go.iload d17_313 rfl (G := ?_)
      refine Go.castore d17_315 0 rfl (x' := c0) (nc_of hc0) (Nat.le_of_ble_eq_true rfl) (D' := [(o109, .inr (.char, [.int c0, .int 0])), (o108, .inl ("java/lang/String", [("java/lang/String", "value", "[B", .null), ("java/lang/String", "coder", "B", .int 0)]))]) rfl (G := ?_)
      refine Go.dup d17_316 (G := ?_)
      refine Go.iconst d17_317 (v := 1) rfl (G := ?_)
      refine Go.iload d17_318 rfl (G := ?_)
      refine Go.castore d17_320 0 rfl (x' := c1) (nc_of hc1) (Nat.le_of_ble_eq_true rfl) (D' := [(o109, .inr (.char, [.int c0, .int c1])), (o108, .inl ("java/lang/String", [("java/lang/String", "value", "[B", .null), ("java/lang/String", "coder", "B", .int 0)]))]) rfl (G := ?_)
      refine Go.perm [1, 0] (by decide) rfl (D' := [(o108, .inl ("java/lang/String", [("java/lang/String", "value", "[B", .null), ("java/lang/String", "coder", "B", .int 0)])), (o109, .inr (.char, [.int c0, .int c1]))]) rfl (G := ?_)
      refine Go.invokeinit true d17_321 rfl (hw _ (List.mem_of_getElem? (i := 11) rfl)) (hw _ (List.mem_of_getElem? (i := 12) rfl)) (hw _ (List.mem_of_getElem? (i := 10) rfl)) (hw _ (List.mem_of_getElem? (i := 13) rfl)) (c_init hw o108 o109 ([c0, c1] : List Int32) 2 [] cpt hCS hcpt rfl (by decide) (by decide) (fun u hu => nlat ((show ∀ u ∈ ([c0, c1] : List Int32), 0 ≤ u.toInt ∧ u.toInt ≤ 255 from (eS hc0 (eS hc1 eN))) u hu))) pdg_12 rfl (argsL := [.ref o109]) (rest := [.ref o108]) rfl rfl (Dr := [(o109, .inr (.char, [.int c0, .int c1]))]) rfl (eS (Or.inr ⟨rfl, List.mem_of_getElem? (i := 0) rfl⟩) eN) (G := ?_)
      rintro _ _ _ ⟨t110, rfl, rfl, rfl⟩
      refine Go.norm (D2 := [(o108, .inl ("java/lang/String", [("java/lang/String", "value", "[B", .ref t110), ("java/lang/String", "coder", "B", .int 0)])), (t110, .inr (.byte, ([c0, c1] : List Int32).map byV)), (o109, .inr (.char, [.int c0, .int c1]))]) (S2 := [(op, .inl ("java/util/Optional", [("java/util/Optional", "value", "Ljava/lang/Object;", .null)])), (b2, .inr (.byte, L2.map byV)), (w2, .inl ("java/lang/String", [("java/lang/String", "value", "[B", .ref b2), ("java/lang/String", "coder", "B", .int 0)])), (b1, .inr (.byte, L1.map byV)), (w1, .inl ("java/lang/String", [("java/lang/String", "value", "[B", .ref b1), ("java/lang/String", "coder", "B", .int 0)])), (e2, .inl ("com/example/gyro/gyro/webhook/EventType", [("com/example/gyro/gyro/webhook/EventType", "wireName", "Ljava/lang/String;", .ref w2)])), (e1, .inl ("com/example/gyro/gyro/webhook/EventType", [("com/example/gyro/gyro/webhook/EventType", "wireName", "Ljava/lang/String;", .ref w1)])), (va, .inr (.object "com/example/gyro/gyro/webhook/EventType", [.ref e1, .ref e2]))]) (c2 := 3) (s2 := 8) (st2 := [.ref o108]) ?_
      refine Go.astore d17_324 (Ls' := #[.val (.int sel), .val (.int pos), .val (.int c), .val (.int d0), .val (.int d1), .val (.int d2), .val (.int 2), .val (.int vr), .val (.int ch), .val (.ref o108), .unset, .val (.int 2), .val (.int c0), .val (.int c1), .val (.int c2)]) rfl (G := ?_)
      refine Go.goto d17_326 (pc2 := 356) (G := ?_)
      refine Go.aconstNull d17_356 (G := ?_)
      refine Go.astore d17_357 (Ls' := #[.val (.int sel), .val (.int pos), .val (.int c), .val (.int d0), .val (.int d1), .val (.int d2), .val (.int 2), .val (.int vr), .val (.int ch), .val (.ref o108), .val .null, .val (.int 2), .val (.int c0), .val (.int c1), .val (.int c2)]) rfl (G := ?_)
      refine Go.goto d17_359 (pc2 := 368) (G := ?_)
      refine Go.aload d17_368 rfl (G := ?_)
      refine Go.neS (x := (o108, .inl ("java/lang/String", [("java/lang/String", "value", "[B", .ref t110), ("java/lang/String", "coder", "B", .int 0)]))) (y := (w1, .inl ("java/lang/String", [("java/lang/String", "value", "[B", .ref b1), ("java/lang/String", "coder", "B", .int 0)]))) (List.mem_of_getElem? (i := 0) rfl) (List.mem_of_getElem? (i := 4) rfl) (fun hx1 => ?_)
      refine Go.neS (x := (o108, .inl ("java/lang/String", [("java/lang/String", "value", "[B", .ref t110), ("java/lang/String", "coder", "B", .int 0)]))) (y := (w2, .inl ("java/lang/String", [("java/lang/String", "value", "[B", .ref b2), ("java/lang/String", "coder", "B", .int 0)]))) (List.mem_of_getElem? (i := 0) rfl) (List.mem_of_getElem? (i := 2) rfl) (fun hx2 => ?_)
      refine Go.invokestatic true d17_370 (hw _ (List.mem_of_getElem? (i := 37) rfl)) (hw _ (List.mem_of_getElem? (i := 38) rfl)) (hw _ (List.mem_of_getElem? (i := 1) rfl)) (hw _ (List.mem_of_getElem? (i := 39) rfl)) (c_p0 hw va e1 e2 w1 b1 w2 b2 op hV hVE hOP o108 t110 ([c0, c1] : List Int32) 2 cpt hCS hcpt (Ne.symm hx1) (Ne.symm hx2) rfl (by decide) (show ∀ u ∈ ([c0, c1] : List Int32), 0 ≤ u.toInt ∧ u.toInt ≤ 255 from (eS hc0 (eS hc1 eN))) (ne_len (by simp [L1, L2])) (ne_len (by simp [L1, L2]))) pdg_13 rfl (argsL := [.ref o108]) (rest := []) rfl rfl (Dr := [(o108, .inl ("java/lang/String", [("java/lang/String", "value", "[B", .ref t110), ("java/lang/String", "coder", "B", .int 0)])), (t110, .inr (.byte, ([c0, c1] : List Int32).map byV)), (o109, .inr (.char, [.int c0, .int c1]))]) rfl (eS (Or.inl (List.mem_of_getElem? (i := 7) rfl)) (eS (Or.inl (List.mem_of_getElem? (i := 6) rfl)) (eS (Or.inl (List.mem_of_getElem? (i := 5) rfl)) (eS (Or.inl (List.mem_of_getElem? (i := 4) rfl)) (eS (Or.inl (List.mem_of_getElem? (i := 3) rfl)) (eS (Or.inl (List.mem_of_getElem? (i := 2) rfl)) (eS (Or.inl (List.mem_of_getElem? (i := 1) rfl)) (eS (Or.inr ⟨rfl, List.mem_of_getElem? (i := 0) rfl⟩) (eS (Or.inr ⟨rfl, List.mem_of_getElem? (i := 1) rfl⟩) eN))))))))) (G := ?_)
      rintro _ _ _ ⟨rfl, rfl, rfl⟩
      refine Go.norm (D2 := [(o108, .inl ("java/lang/String", [("java/lang/String", "value", "[B", .ref t110), ("java/lang/String", "coder", "B", .int 0)])), (t110, .inr (.byte, ([c0, c1] : List Int32).map byV)), (o109, .inr (.char, [.int c0, .int c1]))]) (S2 := [(op, .inl ("java/util/Optional", [("java/util/Optional", "value", "Ljava/lang/Object;", .null)])), (b2, .inr (.byte, L2.map byV)), (w2, .inl ("java/lang/String", [("java/lang/String", "value", "[B", .ref b2), ("java/lang/String", "coder", "B", .int 0)])), (b1, .inr (.byte, L1.map byV)), (w1, .inl ("java/lang/String", [("java/lang/String", "value", "[B", .ref b1), ("java/lang/String", "coder", "B", .int 0)])), (e2, .inl ("com/example/gyro/gyro/webhook/EventType", [("com/example/gyro/gyro/webhook/EventType", "wireName", "Ljava/lang/String;", .ref w2)])), (e1, .inl ("com/example/gyro/gyro/webhook/EventType", [("com/example/gyro/gyro/webhook/EventType", "wireName", "Ljava/lang/String;", .ref w1)])), (va, .inr (.object "com/example/gyro/gyro/webhook/EventType", [.ref e1, .ref e2]))]) (c2 := 5) (s2 := 11) (st2 := [.ref op]) ?_
      refine Go.aconstNull d17_373 (G := ?_)
      refine Go.invokevirtual false d17_374 (hw _ (List.mem_of_getElem? (i := 85) rfl)) (hw _ (List.mem_of_getElem? (i := 86) rfl)) (hw _ (List.mem_of_getElem? (i := 88) rfl)) (hw _ (List.mem_of_getElem? (i := 87) rfl)) (hw _ (List.mem_of_getElem? (i := 70) rfl)) (hw _ (List.mem_of_getElem? (i := 89) rfl)) (nfSel (hw _ (List.mem_of_getElem? (i := 88) rfl))) (inS (i := 0) rfl) (c_or0 hw op) pdg_5 rfl (argsL := [.null]) (rest := []) rfl rfl (Dr := [(o108, .inl ("java/lang/String", [("java/lang/String", "value", "[B", .ref t110), ("java/lang/String", "coder", "B", .int 0)])), (t110, .inr (.byte, ([c0, c1] : List Int32).map byV)), (o109, .inr (.char, [.int c0, .int c1]))]) rfl (eS (Or.inl (List.mem_of_getElem? (i := 0) rfl)) eN) (G := ?_)
      rintro _ _ _ ⟨rfl, rfl, rfl⟩
      refine Go.norm (D2 := [(o108, .inl ("java/lang/String", [("java/lang/String", "value", "[B", .ref t110), ("java/lang/String", "coder", "B", .int 0)])), (t110, .inr (.byte, ([c0, c1] : List Int32).map byV)), (o109, .inr (.char, [.int c0, .int c1]))]) (S2 := [(op, .inl ("java/util/Optional", [("java/util/Optional", "value", "Ljava/lang/Object;", .null)])), (b2, .inr (.byte, L2.map byV)), (w2, .inl ("java/lang/String", [("java/lang/String", "value", "[B", .ref b2), ("java/lang/String", "coder", "B", .int 0)])), (b1, .inr (.byte, L1.map byV)), (w1, .inl ("java/lang/String", [("java/lang/String", "value", "[B", .ref b1), ("java/lang/String", "coder", "B", .int 0)])), (e2, .inl ("com/example/gyro/gyro/webhook/EventType", [("com/example/gyro/gyro/webhook/EventType", "wireName", "Ljava/lang/String;", .ref w2)])), (e1, .inl ("com/example/gyro/gyro/webhook/EventType", [("com/example/gyro/gyro/webhook/EventType", "wireName", "Ljava/lang/String;", .ref w1)])), (va, .inr (.object "com/example/gyro/gyro/webhook/EventType", [.ref e1, .ref e2]))]) (c2 := 5) (s2 := 11) (st2 := [.null]) ?_
      refine Go.checkcastNull d17_377 (G := ?_)
      refine Go.astore d17_380 (Ls' := #[.val (.int sel), .val (.int pos), .val (.int c), .val (.int d0), .val (.int d1), .val (.int d2), .val (.int 2), .val (.int vr), .val (.int ch), .val (.ref o108), .val .null, .val .null, .val (.int c0), .val (.int c1), .val (.int c2)]) rfl (G := ?_)
      refine Go.aload d17_382 rfl (G := ?_)
      refine Go.aload d17_384 rfl (G := ?_)
      refine Go.acmpne d17_386 (pc2 := 393) (Gy := fun h => absurd rfl h) (Gn := fun _ => ?_)
      refine Go.iconst d17_389 (v := 1) rfl (G := ?_)
      refine Go.goto d17_390 (pc2 := 394) (G := ?_)
      refine Go.sub [] (by decide) rfl (D' := []) rfl (S' := []) eN (G := ?_)
      exact Go.retB d17_394 (by simp) (z' := 1) rfl ⟨rfl, rfl, rfl⟩
    · skip
      refine Go.iloadN d17_0 rfl (G := ?_)
      refine Go.iconst d17_1 (v := 3) rfl (G := ?_)
      refine Go.iand d17_2 (z := 2) hkd (G := ?_)
      refine Go.istore d17_3 (Ls' := #[.val (.int sel), .val (.int pos), .val (.int c), .val (.int d0), .val (.int d1), .val (.int d2), .val (.int 2), .unset, .unset, .unset, .unset, .unset, .unset, .unset, .unset]) rfl (G := ?_)
      refine Go.iloadN d17_5 rfl (G := ?_)
      refine Go.iconst d17_6 (v := 2) rfl (G := ?_)
      refine Go.iushr d17_7 (z := (ush sel 2)) rfl (G := ?_)
      refine Go.iconst d17_8 (v := 3) rfl (G := ?_)
      refine Go.iand d17_9 (z := vr) hvr (G := ?_)
      refine Go.istore d17_10 (Ls' := #[.val (.int sel), .val (.int pos), .val (.int c), .val (.int d0), .val (.int d1), .val (.int d2), .val (.int 2), .val (.int vr), .unset, .unset, .unset, .unset, .unset, .unset, .unset]) rfl (G := ?_)
      refine Go.iloadN d17_12 rfl (G := ?_)
      refine Go.sipush d17_13 (v := 255) rfl (G := ?_)
      refine Go.iand d17_16 (z := (c &&& 255)) rfl (G := ?_)
      refine Go.i2c d17_17 (z := ch) ((i2c_mask _).trans hche) (G := ?_)
      refine Go.istore d17_18 (Ls' := #[.val (.int sel), .val (.int pos), .val (.int c), .val (.int d0), .val (.int d1), .val (.int d2), .val (.int 2), .val (.int vr), .val (.int ch), .unset, .unset, .unset, .unset, .unset, .unset]) rfl (G := ?_)
      refine Go.iload d17_20 rfl (G := ?_)
      refine Go.ifc d17_22 (pc2 := 31) (Gy := fun h => absurd h (show ¬ ((2 : Int32) = 0) by decide)) (Gn := fun _ => ?_)
      refine Go.iload d17_25 rfl (G := ?_)
      refine Go.iconst d17_27 (v := 1) rfl (G := ?_)
      refine Go.icmp d17_28 (pc2 := 213) (Gy := fun _ => ?_) (Gn := fun h => absurd (show ¬ (2 : Int32) = 1 by decide) h)
      refine Go.iload d17_213 rfl (G := ?_)
      refine Go.iconst d17_215 (v := 2) rfl (G := ?_)
      refine Go.icmp d17_216 (pc2 := 362) (Gy := fun h => absurd h (show ¬ (¬ (2 : Int32) = 2) by decide)) (Gn := fun _ => ?_)
      refine Go.iloadN d17_219 rfl (G := ?_)
      refine Go.iconst d17_220 (v := 4) rfl (G := ?_)
      refine Go.iushr d17_221 (z := (ush sel 4)) rfl (G := ?_)
      refine Go.iconst d17_222 (v := 3) rfl (G := ?_)
      refine Go.iand d17_223 (z := 3) hln (G := ?_)
      refine Go.istore d17_224 (Ls' := #[.val (.int sel), .val (.int pos), .val (.int c), .val (.int d0), .val (.int d1), .val (.int d2), .val (.int 2), .val (.int vr), .val (.int ch), .unset, .unset, .val (.int 3), .unset, .unset, .unset]) rfl (G := ?_)
      refine Go.iloadN d17_226 rfl (G := ?_)
      refine Go.sipush d17_227 (v := 255) rfl (G := ?_)
      refine Go.iand d17_230 (z := (d0 &&& 255)) rfl (G := ?_)
      refine Go.i2c d17_231 (z := c0) ((i2c_mask _).trans hce0) (G := ?_)
      refine Go.istore d17_232 (Ls' := #[.val (.int sel), .val (.int pos), .val (.int c), .val (.int d0), .val (.int d1), .val (.int d2), .val (.int 2), .val (.int vr), .val (.int ch), .unset, .unset, .val (.int 3), .val (.int c0), .unset, .unset]) rfl (G := ?_)
      refine Go.iload d17_234 rfl (G := ?_)
      refine Go.sipush d17_236 (v := 255) rfl (G := ?_)
      refine Go.iand d17_239 (z := (d1 &&& 255)) rfl (G := ?_)
      refine Go.i2c d17_240 (z := c1) ((i2c_mask _).trans hce1) (G := ?_)
      refine Go.istore d17_241 (Ls' := #[.val (.int sel), .val (.int pos), .val (.int c), .val (.int d0), .val (.int d1), .val (.int d2), .val (.int 2), .val (.int vr), .val (.int ch), .unset, .unset, .val (.int 3), .val (.int c0), .val (.int c1), .unset]) rfl (G := ?_)
      refine Go.iload d17_243 rfl (G := ?_)
      refine Go.sipush d17_245 (v := 255) rfl (G := ?_)
      refine Go.iand d17_248 (z := (d2 &&& 255)) rfl (G := ?_)
      refine Go.i2c d17_249 (z := c2) ((i2c_mask _).trans hce2) (G := ?_)
      refine Go.istore d17_250 (Ls' := #[.val (.int sel), .val (.int pos), .val (.int c), .val (.int d0), .val (.int d1), .val (.int d2), .val (.int 2), .val (.int vr), .val (.int ch), .unset, .unset, .val (.int 3), .val (.int c0), .val (.int c1), .val (.int c2)]) rfl (G := ?_)
      refine Go.iload d17_252 rfl (G := ?_)
      refine Go.ifc d17_254 (pc2 := 272) (Gy := fun _ => ?_) (Gn := fun h => absurd (show ¬ (3 : Int32) = 0 by decide) h)
      refine Go.iload d17_272 rfl (G := ?_)
      refine Go.iconst d17_274 (v := 1) rfl (G := ?_)
      refine Go.icmp d17_275 (pc2 := 298) (Gy := fun _ => ?_) (Gn := fun h => absurd (show ¬ (3 : Int32) = 1 by decide) h)
      refine Go.iload d17_298 rfl (G := ?_)
      refine Go.iconst d17_300 (v := 2) rfl (G := ?_)
      refine Go.icmp d17_301 (pc2 := 329) (Gy := fun _ => ?_) (Gn := fun h => absurd (show ¬ (3 : Int32) = 2 by decide) h)
      refine Go.new d17_329 (hw _ (List.mem_of_getElem? (i := 8) rfl)) (hw _ (List.mem_of_getElem? (i := 9) rfl)) (hw _ (List.mem_of_getElem? (i := 10) rfl)) (NewF.cons (Or.inr (hw _ (List.mem_of_getElem? (i := 36) rfl))) (ty := .array .byte) (by decide +kernel) rfl (by simp) (NewF.cons (Or.inr (hw _ (List.mem_of_getElem? (i := 34) rfl))) (ty := .byte) (by decide +kernel) rfl (by simp) NewF.nil)) (G := fun o118 => ?_)
      refine Go.dup d17_332 (G := ?_)
      refine Go.iconst d17_333 (v := 3) rfl (G := ?_)
      refine Go.newarray d17_334 (hw _ (List.mem_of_getElem? (i := 7) rfl)) (k := 3) rfl (by decide) (by decide) (vs := [.int 0, .int 0, .int 0]) rfl (G := fun o119 => ?_)
      refine Go.dup d17_336 (G := ?_)
      refine Go.iconst d17_337 (v := 0) rfl (G := ?_)
      refine Go.iload d17_338 rfl (G := ?_)
      refine Go.castore d17_340 0 rfl (x' := c0) (nc_of hc0) (Nat.le_of_ble_eq_true rfl) (D' := [(o119, .inr (.char, [.int c0, .int 0, .int 0])), (o118, .inl ("java/lang/String", [("java/lang/String", "value", "[B", .null), ("java/lang/String", "coder", "B", .int 0)]))]) rfl (G := ?_)
      refine Go.dup d17_341 (G := ?_)
      refine Go.iconst d17_342 (v := 1) rfl (G := ?_)
      refine Go.iload d17_343 rfl (G := ?_)
      refine Go.castore d17_345 0 rfl (x' := c1) (nc_of hc1) (Nat.le_of_ble_eq_true rfl) (D' := [(o119, .inr (.char, [.int c0, .int c1, .int 0])), (o118, .inl ("java/lang/String", [("java/lang/String", "value", "[B", .null), ("java/lang/String", "coder", "B", .int 0)]))]) rfl (G := ?_)
      refine Go.dup d17_346 (G := ?_)
      refine Go.iconst d17_347 (v := 2) rfl (G := ?_)
      refine Go.iload d17_348 rfl (G := ?_)
      refine Go.castore d17_350 0 rfl (x' := c2) (nc_of hc2) (Nat.le_of_ble_eq_true rfl) (D' := [(o119, .inr (.char, [.int c0, .int c1, .int c2])), (o118, .inl ("java/lang/String", [("java/lang/String", "value", "[B", .null), ("java/lang/String", "coder", "B", .int 0)]))]) rfl (G := ?_)
      refine Go.perm [1, 0] (by decide) rfl (D' := [(o118, .inl ("java/lang/String", [("java/lang/String", "value", "[B", .null), ("java/lang/String", "coder", "B", .int 0)])), (o119, .inr (.char, [.int c0, .int c1, .int c2]))]) rfl (G := ?_)
      refine Go.invokeinit true d17_351 rfl (hw _ (List.mem_of_getElem? (i := 11) rfl)) (hw _ (List.mem_of_getElem? (i := 12) rfl)) (hw _ (List.mem_of_getElem? (i := 10) rfl)) (hw _ (List.mem_of_getElem? (i := 13) rfl)) (c_init hw o118 o119 ([c0, c1, c2] : List Int32) 3 [] cpt hCS hcpt rfl (by decide) (by decide) (fun u hu => nlat ((show ∀ u ∈ ([c0, c1, c2] : List Int32), 0 ≤ u.toInt ∧ u.toInt ≤ 255 from (eS hc0 (eS hc1 (eS hc2 eN)))) u hu))) pdg_12 rfl (argsL := [.ref o119]) (rest := [.ref o118]) rfl rfl (Dr := [(o119, .inr (.char, [.int c0, .int c1, .int c2]))]) rfl (eS (Or.inr ⟨rfl, List.mem_of_getElem? (i := 0) rfl⟩) eN) (G := ?_)
      rintro _ _ _ ⟨t120, rfl, rfl, rfl⟩
      refine Go.norm (D2 := [(o118, .inl ("java/lang/String", [("java/lang/String", "value", "[B", .ref t120), ("java/lang/String", "coder", "B", .int 0)])), (t120, .inr (.byte, ([c0, c1, c2] : List Int32).map byV)), (o119, .inr (.char, [.int c0, .int c1, .int c2]))]) (S2 := [(op, .inl ("java/util/Optional", [("java/util/Optional", "value", "Ljava/lang/Object;", .null)])), (b2, .inr (.byte, L2.map byV)), (w2, .inl ("java/lang/String", [("java/lang/String", "value", "[B", .ref b2), ("java/lang/String", "coder", "B", .int 0)])), (b1, .inr (.byte, L1.map byV)), (w1, .inl ("java/lang/String", [("java/lang/String", "value", "[B", .ref b1), ("java/lang/String", "coder", "B", .int 0)])), (e2, .inl ("com/example/gyro/gyro/webhook/EventType", [("com/example/gyro/gyro/webhook/EventType", "wireName", "Ljava/lang/String;", .ref w2)])), (e1, .inl ("com/example/gyro/gyro/webhook/EventType", [("com/example/gyro/gyro/webhook/EventType", "wireName", "Ljava/lang/String;", .ref w1)])), (va, .inr (.object "com/example/gyro/gyro/webhook/EventType", [.ref e1, .ref e2]))]) (c2 := 3) (s2 := 10) (st2 := [.ref o118]) ?_
      refine Go.astore d17_354 (Ls' := #[.val (.int sel), .val (.int pos), .val (.int c), .val (.int d0), .val (.int d1), .val (.int d2), .val (.int 2), .val (.int vr), .val (.int ch), .val (.ref o118), .unset, .val (.int 3), .val (.int c0), .val (.int c1), .val (.int c2)]) rfl (G := ?_)
      refine Go.aconstNull d17_356 (G := ?_)
      refine Go.astore d17_357 (Ls' := #[.val (.int sel), .val (.int pos), .val (.int c), .val (.int d0), .val (.int d1), .val (.int d2), .val (.int 2), .val (.int vr), .val (.int ch), .val (.ref o118), .val .null, .val (.int 3), .val (.int c0), .val (.int c1), .val (.int c2)]) rfl (G := ?_)
      refine Go.goto d17_359 (pc2 := 368) (G := ?_)
      refine Go.aload d17_368 rfl (G := ?_)
      refine Go.neS (x := (o118, .inl ("java/lang/String", [("java/lang/String", "value", "[B", .ref t120), ("java/lang/String", "coder", "B", .int 0)]))) (y := (w1, .inl ("java/lang/String", [("java/lang/String", "value", "[B", .ref b1), ("java/lang/String", "coder", "B", .int 0)]))) (List.mem_of_getElem? (i := 0) rfl) (List.mem_of_getElem? (i := 4) rfl) (fun hx1 => ?_)
      refine Go.neS (x := (o118, .inl ("java/lang/String", [("java/lang/String", "value", "[B", .ref t120), ("java/lang/String", "coder", "B", .int 0)]))) (y := (w2, .inl ("java/lang/String", [("java/lang/String", "value", "[B", .ref b2), ("java/lang/String", "coder", "B", .int 0)]))) (List.mem_of_getElem? (i := 0) rfl) (List.mem_of_getElem? (i := 2) rfl) (fun hx2 => ?_)
      refine Go.invokestatic true d17_370 (hw _ (List.mem_of_getElem? (i := 37) rfl)) (hw _ (List.mem_of_getElem? (i := 38) rfl)) (hw _ (List.mem_of_getElem? (i := 1) rfl)) (hw _ (List.mem_of_getElem? (i := 39) rfl)) (c_p0 hw va e1 e2 w1 b1 w2 b2 op hV hVE hOP o118 t120 ([c0, c1, c2] : List Int32) 3 cpt hCS hcpt (Ne.symm hx1) (Ne.symm hx2) rfl (by decide) (show ∀ u ∈ ([c0, c1, c2] : List Int32), 0 ≤ u.toInt ∧ u.toInt ≤ 255 from (eS hc0 (eS hc1 (eS hc2 eN)))) (ne_len (by simp [L1, L2])) (ne_len (by simp [L1, L2]))) pdg_13 rfl (argsL := [.ref o118]) (rest := []) rfl rfl (Dr := [(o118, .inl ("java/lang/String", [("java/lang/String", "value", "[B", .ref t120), ("java/lang/String", "coder", "B", .int 0)])), (t120, .inr (.byte, ([c0, c1, c2] : List Int32).map byV)), (o119, .inr (.char, [.int c0, .int c1, .int c2]))]) rfl (eS (Or.inl (List.mem_of_getElem? (i := 7) rfl)) (eS (Or.inl (List.mem_of_getElem? (i := 6) rfl)) (eS (Or.inl (List.mem_of_getElem? (i := 5) rfl)) (eS (Or.inl (List.mem_of_getElem? (i := 4) rfl)) (eS (Or.inl (List.mem_of_getElem? (i := 3) rfl)) (eS (Or.inl (List.mem_of_getElem? (i := 2) rfl)) (eS (Or.inl (List.mem_of_getElem? (i := 1) rfl)) (eS (Or.inr ⟨rfl, List.mem_of_getElem? (i := 0) rfl⟩) (eS (Or.inr ⟨rfl, List.mem_of_getElem? (i := 1) rfl⟩) eN))))))))) (G := ?_)
      rintro _ _ _ ⟨rfl, rfl, rfl⟩
      refine Go.norm (D2 := [(o118, .inl ("java/lang/String", [("java/lang/String", "value", "[B", .ref t120), ("java/lang/String", "coder", "B", .int 0)])), (t120, .inr (.byte, ([c0, c1, c2] : List Int32).map byV)), (o119, .inr (.char, [.int c0, .int c1, .int c2]))]) (S2 := [(op, .inl ("java/util/Optional", [("java/util/Optional", "value", "Ljava/lang/Object;", .null)])), (b2, .inr (.byte, L2.map byV)), (w2, .inl ("java/lang/String", [("java/lang/String", "value", "[B", .ref b2), ("java/lang/String", "coder", "B", .int 0)])), (b1, .inr (.byte, L1.map byV)), (w1, .inl ("java/lang/String", [("java/lang/String", "value", "[B", .ref b1), ("java/lang/String", "coder", "B", .int 0)])), (e2, .inl ("com/example/gyro/gyro/webhook/EventType", [("com/example/gyro/gyro/webhook/EventType", "wireName", "Ljava/lang/String;", .ref w2)])), (e1, .inl ("com/example/gyro/gyro/webhook/EventType", [("com/example/gyro/gyro/webhook/EventType", "wireName", "Ljava/lang/String;", .ref w1)])), (va, .inr (.object "com/example/gyro/gyro/webhook/EventType", [.ref e1, .ref e2]))]) (c2 := 5) (s2 := 13) (st2 := [.ref op]) ?_
      refine Go.aconstNull d17_373 (G := ?_)
      refine Go.invokevirtual false d17_374 (hw _ (List.mem_of_getElem? (i := 85) rfl)) (hw _ (List.mem_of_getElem? (i := 86) rfl)) (hw _ (List.mem_of_getElem? (i := 88) rfl)) (hw _ (List.mem_of_getElem? (i := 87) rfl)) (hw _ (List.mem_of_getElem? (i := 70) rfl)) (hw _ (List.mem_of_getElem? (i := 89) rfl)) (nfSel (hw _ (List.mem_of_getElem? (i := 88) rfl))) (inS (i := 0) rfl) (c_or0 hw op) pdg_5 rfl (argsL := [.null]) (rest := []) rfl rfl (Dr := [(o118, .inl ("java/lang/String", [("java/lang/String", "value", "[B", .ref t120), ("java/lang/String", "coder", "B", .int 0)])), (t120, .inr (.byte, ([c0, c1, c2] : List Int32).map byV)), (o119, .inr (.char, [.int c0, .int c1, .int c2]))]) rfl (eS (Or.inl (List.mem_of_getElem? (i := 0) rfl)) eN) (G := ?_)
      rintro _ _ _ ⟨rfl, rfl, rfl⟩
      refine Go.norm (D2 := [(o118, .inl ("java/lang/String", [("java/lang/String", "value", "[B", .ref t120), ("java/lang/String", "coder", "B", .int 0)])), (t120, .inr (.byte, ([c0, c1, c2] : List Int32).map byV)), (o119, .inr (.char, [.int c0, .int c1, .int c2]))]) (S2 := [(op, .inl ("java/util/Optional", [("java/util/Optional", "value", "Ljava/lang/Object;", .null)])), (b2, .inr (.byte, L2.map byV)), (w2, .inl ("java/lang/String", [("java/lang/String", "value", "[B", .ref b2), ("java/lang/String", "coder", "B", .int 0)])), (b1, .inr (.byte, L1.map byV)), (w1, .inl ("java/lang/String", [("java/lang/String", "value", "[B", .ref b1), ("java/lang/String", "coder", "B", .int 0)])), (e2, .inl ("com/example/gyro/gyro/webhook/EventType", [("com/example/gyro/gyro/webhook/EventType", "wireName", "Ljava/lang/String;", .ref w2)])), (e1, .inl ("com/example/gyro/gyro/webhook/EventType", [("com/example/gyro/gyro/webhook/EventType", "wireName", "Ljava/lang/String;", .ref w1)])), (va, .inr (.object "com/example/gyro/gyro/webhook/EventType", [.ref e1, .ref e2]))]) (c2 := 5) (s2 := 13) (st2 := [.null]) ?_
      refine Go.checkcastNull d17_377 (G := ?_)
      refine Go.astore d17_380 (Ls' := #[.val (.int sel), .val (.int pos), .val (.int c), .val (.int d0), .val (.int d1), .val (.int d2), .val (.int 2), .val (.int vr), .val (.int ch), .val (.ref o118), .val .null, .val .null, .val (.int c0), .val (.int c1), .val (.int c2)]) rfl (G := ?_)
      refine Go.aload d17_382 rfl (G := ?_)
      refine Go.aload d17_384 rfl (G := ?_)
      refine Go.acmpne d17_386 (pc2 := 393) (Gy := fun h => absurd rfl h) (Gn := fun _ => ?_)
      refine Go.iconst d17_389 (v := 1) rfl (G := ?_)
      refine Go.goto d17_390 (pc2 := 394) (G := ?_)
      refine Go.sub [] (by decide) rfl (D' := []) rfl (S' := []) eN (G := ?_)
      exact Go.retB d17_394 (by simp) (z' := 1) rfl ⟨rfl, rfl, rfl⟩
  · skip
    refine Go.iloadN d17_0 rfl (G := ?_)
    refine Go.iconst d17_1 (v := 3) rfl (G := ?_)
    refine Go.iand d17_2 (z := 3) hkd (G := ?_)
    refine Go.istore d17_3 (Ls' := #[.val (.int sel), .val (.int pos), .val (.int c), .val (.int d0), .val (.int d1), .val (.int d2), .val (.int 3), .unset, .unset, .unset, .unset, .unset, .unset, .unset, .unset]) rfl (G := ?_)
    refine Go.iloadN d17_5 rfl (G := ?_)
    refine Go.iconst d17_6 (v := 2) rfl (G := ?_)
    refine Go.iushr d17_7 (z := (ush sel 2)) rfl (G := ?_)
    refine Go.iconst d17_8 (v := 3) rfl (G := ?_)
    refine Go.iand d17_9 (z := vr) hvr (G := ?_)
    refine Go.istore d17_10 (Ls' := #[.val (.int sel), .val (.int pos), .val (.int c), .val (.int d0), .val (.int d1), .val (.int d2), .val (.int 3), .val (.int vr), .unset, .unset, .unset, .unset, .unset, .unset, .unset]) rfl (G := ?_)
    refine Go.iloadN d17_12 rfl (G := ?_)
    refine Go.sipush d17_13 (v := 255) rfl (G := ?_)
    refine Go.iand d17_16 (z := (c &&& 255)) rfl (G := ?_)
    refine Go.i2c d17_17 (z := ch) ((i2c_mask _).trans hche) (G := ?_)
    refine Go.istore d17_18 (Ls' := #[.val (.int sel), .val (.int pos), .val (.int c), .val (.int d0), .val (.int d1), .val (.int d2), .val (.int 3), .val (.int vr), .val (.int ch), .unset, .unset, .unset, .unset, .unset, .unset]) rfl (G := ?_)
    refine Go.iload d17_20 rfl (G := ?_)
    refine Go.ifc d17_22 (pc2 := 31) (Gy := fun h => absurd h (show ¬ ((3 : Int32) = 0) by decide)) (Gn := fun _ => ?_)
    refine Go.iload d17_25 rfl (G := ?_)
    refine Go.iconst d17_27 (v := 1) rfl (G := ?_)
    refine Go.icmp d17_28 (pc2 := 213) (Gy := fun _ => ?_) (Gn := fun h => absurd (show ¬ (3 : Int32) = 1 by decide) h)
    refine Go.iload d17_213 rfl (G := ?_)
    refine Go.iconst d17_215 (v := 2) rfl (G := ?_)
    refine Go.icmp d17_216 (pc2 := 362) (Gy := fun _ => ?_) (Gn := fun h => absurd (show ¬ (3 : Int32) = 2 by decide) h)
    refine Go.aconstNull d17_362 (G := ?_)
    refine Go.astore d17_363 (Ls' := #[.val (.int sel), .val (.int pos), .val (.int c), .val (.int d0), .val (.int d1), .val (.int d2), .val (.int 3), .val (.int vr), .val (.int ch), .val .null, .unset, .unset, .unset, .unset, .unset]) rfl (G := ?_)
    refine Go.aconstNull d17_365 (G := ?_)
    refine Go.astore d17_366 (Ls' := #[.val (.int sel), .val (.int pos), .val (.int c), .val (.int d0), .val (.int d1), .val (.int d2), .val (.int 3), .val (.int vr), .val (.int ch), .val .null, .val .null, .unset, .unset, .unset, .unset]) rfl (G := ?_)
    refine Go.aload d17_368 rfl (G := ?_)
    refine Go.invokestatic false d17_370 (hw _ (List.mem_of_getElem? (i := 37) rfl)) (hw _ (List.mem_of_getElem? (i := 38) rfl)) (hw _ (List.mem_of_getElem? (i := 1) rfl)) (hw _ (List.mem_of_getElem? (i := 39) rfl)) (c_pN hw va e1 e2 w1 b1 w2 b2 op hV hVE hOP) pdg_13 rfl (argsL := [.null]) (rest := []) rfl rfl (Dr := []) rfl (eS (Or.inl (List.mem_of_getElem? (i := 7) rfl)) (eS (Or.inl (List.mem_of_getElem? (i := 6) rfl)) (eS (Or.inl (List.mem_of_getElem? (i := 5) rfl)) (eS (Or.inl (List.mem_of_getElem? (i := 4) rfl)) (eS (Or.inl (List.mem_of_getElem? (i := 3) rfl)) (eS (Or.inl (List.mem_of_getElem? (i := 2) rfl)) (eS (Or.inl (List.mem_of_getElem? (i := 1) rfl)) eN))))))) (G := ?_)
    rintro _ _ _ ⟨rfl, rfl, rfl⟩
    refine Go.norm (D2 := []) (S2 := [(op, .inl ("java/util/Optional", [("java/util/Optional", "value", "Ljava/lang/Object;", .null)])), (b2, .inr (.byte, L2.map byV)), (w2, .inl ("java/lang/String", [("java/lang/String", "value", "[B", .ref b2), ("java/lang/String", "coder", "B", .int 0)])), (b1, .inr (.byte, L1.map byV)), (w1, .inl ("java/lang/String", [("java/lang/String", "value", "[B", .ref b1), ("java/lang/String", "coder", "B", .int 0)])), (e2, .inl ("com/example/gyro/gyro/webhook/EventType", [("com/example/gyro/gyro/webhook/EventType", "wireName", "Ljava/lang/String;", .ref w2)])), (e1, .inl ("com/example/gyro/gyro/webhook/EventType", [("com/example/gyro/gyro/webhook/EventType", "wireName", "Ljava/lang/String;", .ref w1)])), (va, .inr (.object "com/example/gyro/gyro/webhook/EventType", [.ref e1, .ref e2]))]) (c2 := 2) (s2 := 3) (st2 := [.ref op]) ?_
    refine Go.aconstNull d17_373 (G := ?_)
    refine Go.invokevirtual false d17_374 (hw _ (List.mem_of_getElem? (i := 85) rfl)) (hw _ (List.mem_of_getElem? (i := 86) rfl)) (hw _ (List.mem_of_getElem? (i := 88) rfl)) (hw _ (List.mem_of_getElem? (i := 87) rfl)) (hw _ (List.mem_of_getElem? (i := 70) rfl)) (hw _ (List.mem_of_getElem? (i := 89) rfl)) (nfSel (hw _ (List.mem_of_getElem? (i := 88) rfl))) (inS (i := 0) rfl) (c_or0 hw op) pdg_5 rfl (argsL := [.null]) (rest := []) rfl rfl (Dr := []) rfl (eS (Or.inl (List.mem_of_getElem? (i := 0) rfl)) eN) (G := ?_)
    rintro _ _ _ ⟨rfl, rfl, rfl⟩
    refine Go.norm (D2 := []) (S2 := [(op, .inl ("java/util/Optional", [("java/util/Optional", "value", "Ljava/lang/Object;", .null)])), (b2, .inr (.byte, L2.map byV)), (w2, .inl ("java/lang/String", [("java/lang/String", "value", "[B", .ref b2), ("java/lang/String", "coder", "B", .int 0)])), (b1, .inr (.byte, L1.map byV)), (w1, .inl ("java/lang/String", [("java/lang/String", "value", "[B", .ref b1), ("java/lang/String", "coder", "B", .int 0)])), (e2, .inl ("com/example/gyro/gyro/webhook/EventType", [("com/example/gyro/gyro/webhook/EventType", "wireName", "Ljava/lang/String;", .ref w2)])), (e1, .inl ("com/example/gyro/gyro/webhook/EventType", [("com/example/gyro/gyro/webhook/EventType", "wireName", "Ljava/lang/String;", .ref w1)])), (va, .inr (.object "com/example/gyro/gyro/webhook/EventType", [.ref e1, .ref e2]))]) (c2 := 2) (s2 := 3) (st2 := [.null]) ?_
    refine Go.checkcastNull d17_377 (G := ?_)
    refine Go.astore d17_380 (Ls' := #[.val (.int sel), .val (.int pos), .val (.int c), .val (.int d0), .val (.int d1), .val (.int d2), .val (.int 3), .val (.int vr), .val (.int ch), .val .null, .val .null, .val .null, .unset, .unset, .unset]) rfl (G := ?_)
    refine Go.aload d17_382 rfl (G := ?_)
    refine Go.aload d17_384 rfl (G := ?_)
    refine Go.acmpne d17_386 (pc2 := 393) (Gy := fun h => absurd rfl h) (Gn := fun _ => ?_)
    refine Go.iconst d17_389 (v := 1) rfl (G := ?_)
    refine Go.goto d17_390 (pc2 := 394) (G := ?_)
    refine Go.sub [] (by decide) rfl (D' := []) rfl (S' := []) eN (G := ?_)
    exact Go.retB d17_394 (by simp) (z' := 1) rfl ⟨rfl, rfl, rfl⟩
set_option maxRecDepth 65536 in
set_option maxHeartbeats 40000000 in
theorem comes_1 {Post : Tables → Env → Array Value → State → Outcome → State → Prop} (hpost : ∀ tb e args s v u, (limb_1_1.after args s (.returned v) u = true ∧ limb_1_2.after args s (.returned v) u = true ∧ True) → ReturnedEndW s (.returned v) u (Jvm.fieldLocs frame_1_writes args s ++ Jvm.arrayLocs frame_1_arrays args s ++ Jvm.staticLocs frame_1_statics s) 24 1216 → Post tb e args s (.returned v) u) :
    ArmFor flags0 classFile x code maxLocals ret World_1 tables_1 room_1 Calls_1 rest_1 Pre_1 Post := by
  intro l hfl _ _ p e ha hc hk s m args below hf hA hF happ hP
  obtain ⟨hcalls, hrest, hpre⟩ := hP
  obtain ⟨-, -, -, hnamed, -, -, -, hat⟩ := (Spec.applies_iff hf).mp happ
  obtain ⟨hg, hn⟩ := and_e (Cond.before_iff.mp (show (Jvm.Cond.and given_1 narrow_1).before args s = true from hpre))
  obtain ⟨hcount, g0⟩ := and_e hg
  obtain ⟨t0, g1⟩ := and_e g0
  obtain ⟨t1, g2⟩ := and_e g1
  obtain ⟨t2, g3⟩ := and_e g2
  obtain ⟨t3, g4⟩ := and_e g3
  obtain ⟨t4, g5⟩ := and_e g4
  obtain ⟨w0, w1, w2, w3, w4, w5, rfl⟩ : ∃ w0 w1 w2 w3 w4 w5 : Value, args = #[w0, w1, w2, w3, w4, w5] := by
    have hs : args.size = 6 := by simpa [Cond.value, given_1] using hcount
    obtain ⟨L⟩ := args
    match L, hs with
    | [w0, w1, w2, w3, w4, w5], _ => exact ⟨w0, w1, w2, w3, w4, w5, rfl⟩
  have hw := fun d (hd : d ∈ tables_1) => atoms_spec (ws := Jvm.Cond.code x code maxLocals ret :: tables_1) hat d (List.mem_cons_of_mem _ hd)
  obtain ⟨hsets, hown0⟩ := atoms_of _ (rest_1_c_eq ▸ (show rest_1_c.before _ s = true from hrest))
  have hfit : Fit s := fun {y c} hc i hi => by
    obtain ⟨ha, rfl⟩ := Array.getElem?_eq_some_iff.mp hc
    have q := List.all_eq_true.mp ((Array.all_eq_true_iff_forall_mem.mp hF) _ (Array.getElem_mem ha)) i (List.mem_range.mpr hi)
    simpa [Array.getElem?_eq_getElem hi] using q
  obtain ⟨x0, ex0⟩ := is_v t0
  obtain rfl : w0 = (.int x0) := Option.some.inj ex0
  obtain ⟨x1, ex1⟩ := is_v t1
  obtain rfl : w1 = (.int x1) := Option.some.inj ex1
  obtain ⟨x2, ex2⟩ := is_v t2
  obtain rfl : w2 = (.int x2) := Option.some.inj ex2
  obtain ⟨x3, ex3⟩ := is_v t3
  obtain rfl : w3 = (.int x3) := Option.some.inj ex3
  obtain ⟨x4, ex4⟩ := is_v t4
  obtain rfl : w4 = (.int x4) := Option.some.inj ex4
  obtain ⟨x5, ex5⟩ := is_v g5
  obtain rfl : w5 = (.int x5) := Option.some.inj ex5
  have nz := not_v (Cond.before_iff.mp (hsets _ (List.mem_of_getElem? (i := 2) rfl)))
  obtain ⟨cpt, ecs⟩ := is_v (Cond.before_iff.mp (hsets _ (List.mem_of_getElem? (i := 1) rfl)))
  have hCS : Sta s s.heap "java/lang/String" "COMPACT_STRINGS" "Z" (.int cpt) := Sta.start ecs (Or.inl (hsets _ (List.mem_of_getElem? (i := 0) rfl)))
  have hcpt : ¬ (cpt = (0 : Int32)) := gotF (Cond.eq_ints ecs (Term.int_eval (0))) nz
  obtain ⟨fmt, efm, hfm⟩ := isR_v (Cond.before_iff.mp (hsets _ (List.mem_of_getElem? (i := 8) rfl)))
  have hFM : Sta s s.heap "jdk/internal/util/Preconditions" "SIOOBE_FORMATTER" "Ljava/util/function/BiFunction;" fmt := Sta.start efm (Or.inl (hsets _ (List.mem_of_getElem? (i := 7) rfl)))
  obtain ⟨q0, u0⟩ := and_e hn
  obtain ⟨q1, u1⟩ := and_e u0
  obtain ⟨q2, u2⟩ := and_e u1
  obtain ⟨q3, u3⟩ := and_e u2
  obtain ⟨q4, u4⟩ := and_e u3
  obtain ⟨q5, u5⟩ := and_e u4
  obtain ⟨q6, u6⟩ := and_e u5
  obtain ⟨q7, u7⟩ := and_e u6
  obtain ⟨q8, u8⟩ := and_e u7
  obtain ⟨q9, u9⟩ := and_e u8
  obtain ⟨q10, u10⟩ := and_e u9
  obtain ⟨q11, u11⟩ := and_e u10
  obtain ⟨q12, u12⟩ := and_e u11
  obtain ⟨q13, u13⟩ := and_e u12
  obtain ⟨q14, u14⟩ := and_e u13
  obtain ⟨q15, u15⟩ := and_e u14
  obtain ⟨q16, u16⟩ := and_e u15
  obtain ⟨q17, u17⟩ := and_e u16
  obtain ⟨q18, u18⟩ := and_e u17
  obtain ⟨q19, u19⟩ := and_e u18
  obtain ⟨q20, u20⟩ := and_e u19
  obtain ⟨q21, u21⟩ := and_e u20
  obtain ⟨q22, u22⟩ := and_e u21
  obtain ⟨q23, u23⟩ := and_e u22
  obtain ⟨q24, u24⟩ := and_e u23
  obtain ⟨q25, u25⟩ := and_e u24
  obtain ⟨q26, u26⟩ := and_e u25
  obtain ⟨q27, u27⟩ := and_e u26
  obtain ⟨q28, u28⟩ := and_e u27
  obtain ⟨q29, u29⟩ := and_e u28
  obtain ⟨q30, u30⟩ := and_e u29
  obtain ⟨q31, u31⟩ := and_e u30
  obtain ⟨q32, u32⟩ := and_e u31
  obtain ⟨q33, u33⟩ := and_e u32
  obtain ⟨q34, u34⟩ := and_e u33
  obtain ⟨q35, u35⟩ := and_e u34
  obtain ⟨q36, u36⟩ := and_e u35
  obtain ⟨q37, u37⟩ := and_e u36
  obtain ⟨q38, u38⟩ := and_e u37
  obtain ⟨q39, u39⟩ := and_e u38
  obtain ⟨q40, u40⟩ := and_e u39
  obtain ⟨q41, u41⟩ := and_e u40
  obtain ⟨q42, u42⟩ := and_e u41
  obtain ⟨q43, u43⟩ := and_e u42
  obtain ⟨q44, u44⟩ := and_e u43
  obtain ⟨q45, u45⟩ := and_e u44
  obtain ⟨q46, u46⟩ := and_e u45
  obtain ⟨q47, u47⟩ := and_e u46
  obtain ⟨q48, u48⟩ := and_e u47
  obtain ⟨q49, u49⟩ := and_e u48
  obtain ⟨q50, u50⟩ := and_e u49
  obtain ⟨q51, q52⟩ := and_e u50
  obtain ⟨e1, ev1⟩ := exa_v q0
  obtain ⟨va, evV⟩ := exa_v q2
  obtain ⟨e2, ev2⟩ := exa_v q5
  obtain ⟨w1, ew1⟩ := exa_v q7
  obtain ⟨w2, ew2⟩ := exa_v q11
  obtain ⟨b1, eb1⟩ := arr_v q9
  obtain ⟨b2, eb2⟩ := arr_v q13
  have hCC : Sta s s.heap "com/example/gyro/gyro/webhook/EventType" "CUSTOMER_CREATED" "Lcom/example/gyro/gyro/webhook/EventType;" (.ref e1) := Sta.start ev1 (Or.inr ⟨(hw _ (List.mem_of_getElem? (i := 1) rfl)), (hw _ (List.mem_of_getElem? (i := 2) rfl))⟩)
  have hSA : Sta s s.heap "com/example/gyro/gyro/webhook/EventType" "SUBSCRIPTION_ACTIVATED" "Lcom/example/gyro/gyro/webhook/EventType;" (.ref e2) := Sta.start ev2 (Or.inr ⟨(hw _ (List.mem_of_getElem? (i := 1) rfl)), (hw _ (List.mem_of_getElem? (i := 52) rfl))⟩)
  have hV : Sta s s.heap "com/example/gyro/gyro/webhook/EventType" "$VALUES" "[Lcom/example/gyro/gyro/webhook/EventType;" (.ref va) := Sta.start evV (Or.inr ⟨(hw _ (List.mem_of_getElem? (i := 1) rfl)), (hw _ (List.mem_of_getElem? (i := 44) rfl))⟩)
  have hVE : Exa s s.heap va "[Lcom/example/gyro/gyro/webhook/EventType;" := Exa.start evV q2
  have qo := Cond.before_iff.mp (hsets _ (List.mem_of_getElem? (i := 11) rfl))
  obtain ⟨op, eop⟩ := exa_v qo
  have hOP : Sta s s.heap "java/util/Optional" "EMPTY" "Ljava/util/Optional;" (.ref op) := Sta.start eop (Or.inl (hsets _ (List.mem_of_getElem? (i := 10) rfl)))
  have k7 : Kn s s.heap (op, .inl ("java/util/Optional", [("java/util/Optional", "value", "Ljava/lang/Object;", .null)])) := ⟨Exa.start eop qo, eS (fld_of eop (null_v (Cond.before_iff.mp (hsets _ (List.mem_of_getElem? (i := 12) rfl))))) eN, by simp⟩
  obtain ⟨cV, AV⟩ := Arr.start evV q1
  obtain ⟨cB1, AB1⟩ := Arr.start eb1 q9
  obtain ⟨cB2, AB2⟩ := Arr.start eb2 q13
  obtain ⟨y4, f4, g4⟩ := Cond.eq_worth q4
  obtain rfl : y4 = .ref e1 := Option.some.inj (g4.symm.trans ev1)
  obtain ⟨y6, f6, g6⟩ := Cond.eq_worth q6
  obtain rfl : y6 = .ref e2 := Option.some.inj (g6.symm.trans ev2)
  have k0 : Kn s s.heap (va, .inr (.object "com/example/gyro/gyro/webhook/EventType", [.ref e1, .ref e2])) := ⟨cV, AV, arr_of (vs := [.ref e1, .ref e2]) AV evV q3 rfl (fun i hi => match i, hi with | 0, _ => f4 | 1, _ => f6 | k + 2, h => absurd h (by simp)), (show 2 < 2147483648 by decide), eS rfl (eS rfl eN), fun C h hne => absurd (FieldType.object.inj h).symm hne⟩
  have k1 : Kn s s.heap (e1, .inl ("com/example/gyro/gyro/webhook/EventType", [("com/example/gyro/gyro/webhook/EventType", "wireName", "Ljava/lang/String;", .ref w1)])) := ⟨Exa.start ev1 q0, eS (fld_of ev1 ew1) eN, by simp⟩
  have k3 : Kn s s.heap (w1, .inl ("java/lang/String", [("java/lang/String", "value", "[B", .ref b1), ("java/lang/String", "coder", "B", .int 0)])) := ⟨Exa.start ew1 q7, eS (fld_of ew1 eb1) (eS (fld_of ew1 (eqi_of q8)) eN), LayS.nodup (layS hw)⟩
  have k4 : Kn s s.heap (b1, .inr (.byte, L1.map byV)) := ⟨cB1, AB1, arr_of (vs := L1.map byV) AB1 eb1 q10 rfl (fun i hi => match i, hi with | 0, _ => eqi_of q15 | 1, _ => eqi_of q16 | 2, _ => eqi_of q17 | 3, _ => eqi_of q18 | 4, _ => eqi_of q19 | 5, _ => eqi_of q20 | 6, _ => eqi_of q21 | 7, _ => eqi_of q22 | 8, _ => eqi_of q23 | 9, _ => eqi_of q24 | 10, _ => eqi_of q25 | 11, _ => eqi_of q26 | 12, _ => eqi_of q27 | 13, _ => eqi_of q28 | 14, _ => eqi_of q29 | 15, _ => eqi_of q30 | k + 16, h => absurd h (by simp [L1])), by decide, by decide +kernel, fun C h => nomatch h⟩
  have k2 : Kn s s.heap (e2, .inl ("com/example/gyro/gyro/webhook/EventType", [("com/example/gyro/gyro/webhook/EventType", "wireName", "Ljava/lang/String;", .ref w2)])) := ⟨Exa.start ev2 q5, eS (fld_of ev2 ew2) eN, by simp⟩
  have k5 : Kn s s.heap (w2, .inl ("java/lang/String", [("java/lang/String", "value", "[B", .ref b2), ("java/lang/String", "coder", "B", .int 0)])) := ⟨Exa.start ew2 q11, eS (fld_of ew2 eb2) (eS (fld_of ew2 (eqi_of q12)) eN), LayS.nodup (layS hw)⟩
  have k6 : Kn s s.heap (b2, .inr (.byte, L2.map byV)) := ⟨cB2, AB2, arr_of (vs := L2.map byV) AB2 eb2 q14 rfl (fun i hi => match i, hi with | 0, _ => eqi_of q31 | 1, _ => eqi_of q32 | 2, _ => eqi_of q33 | 3, _ => eqi_of q34 | 4, _ => eqi_of q35 | 5, _ => eqi_of q36 | 6, _ => eqi_of q37 | 7, _ => eqi_of q38 | 8, _ => eqi_of q39 | 9, _ => eqi_of q40 | 10, _ => eqi_of q41 | 11, _ => eqi_of q42 | 12, _ => eqi_of q43 | 13, _ => eqi_of q44 | 14, _ => eqi_of q45 | 15, _ => eqi_of q46 | 16, _ => eqi_of q47 | 17, _ => eqi_of q48 | 18, _ => eqi_of q49 | 19, _ => eqi_of q50 | 20, _ => eqi_of q51 | 21, _ => eqi_of q52 | k + 22, h => absurd h (by simp [L2])), by decide, by decide +kernel, fun C h => nomatch h⟩
  have hEW : EW s #[.int x0, .int x1, .int x2, .int x3, .int x4, .int x5] ([("java/lang/String", 7)] : List (String × Nat)) := (EW.cons (hw _ (List.mem_of_getElem? (i := 101) rfl)) (by decide) EW.nil)
  have hCH : CHv s ([("java/lang/String", 7)] : List (String × Nat)) s.vm s.heap := CHv.start hEW (show ∀ p ∈ ([("java/lang/String", 7)] : List (String × Nat)), Jvm.Lit.constHeld s p.1 p.2 from hcalls.1) (hsets _ (List.mem_of_getElem? (i := 2) rfl)) (hw _ (List.mem_of_getElem? (i := 26) rfl)) (hw _ (List.mem_of_getElem? (i := 9) rfl))
  obtain ⟨n, o, r1, r2, r3, v, L, rfl, ⟨D', S', hQ, hHH, -, -, -, hFr, -, -, hwb⟩, hend⟩ := c_law (l := l) (EL := ([("java/lang/String", 7)] : List (String × Nat))) (b := true) (n0 := s.heap.size) hw x0 x1 x2 x3 x4 x5 va e1 e2 w1 b1 w2 b2 op hV hVE hOP hCC hSA k0 k1 k2 k3 k4 k5 k6 k7 cpt hCS hcpt rfl (by simp) (fun _ => False) p e ha hc hk s m _ below hf ((Spec.applies_iff_loose hf).mp happ).1 ⟨rfl, hEW, State.Warmed39.refl s, hCH, Old.start s, ⟨eN, eN, List.nodup_nil, eN⟩, eN, eN, fun _ q => False.elim q⟩ trivial
  obtain ⟨rfl, -, -⟩ := hQ
  exact ⟨n, _, r1, r2, r3, hpost _ _ _ _ _ _ ⟨Cond.after_iff.mpr rfl, Cond.after_iff.mpr (eq_i res_at (Term.int_eval (1)) rfl), trivial⟩ ⟨hend.1, hend.2.1, hend.2.2.1, (hend.2.2.2.sift fun y hy => Or.inr (hFr y hy)).mono (by decide) (by decide)⟩⟩
theorem main_1_1 : Claimed_1_1 := comes_1 fun _ _ _ _ _ _ h hF => ⟨h.1, hF⟩
theorem main_1_2 : Claimed_1_2 := comes_1 fun _ _ _ _ _ _ h hF => ⟨h.2.1, hF⟩
end Jvm.Pilot.@@N@@
namespace Jvm.Pilot.@@N@@
open Jvm Jvm.ClassFile Sem Op Lib Jvm.Free Jvm.Stand Jvm.Pilot.@@N@@.Jvm.D
/-! MADE BY PROGRAM (witnessworld.py) out of the Statement's table words and the real class files: 24 classes; the members and pool entries that the words name. The judged class is class 1, her method 3. -/
namespace start1
open Jvm.ClassFile
def u (s : String) : CpInfo := .utf8 (stringToUtf16 s)
/-- a pool by its gaps: so many unusable entries, then the entry; so many at the end -/
def gap : Nat → List CpInfo → List CpInfo
  | 0, r => r
  | n + 1, r => .unusable :: gap n r
def poolList (es : List (Nat × CpInfo)) (last : Nat) : List CpInfo := es.foldr (fun e r => gap e.1 (e.2 :: r)) (gap last [])
def pool (es : List (Nat × CpInfo)) (last : Nat) : Array CpInfo := ⟨poolList es last⟩
def fileOf (pool : Array CpInfo) (this : Nat) (attrs : Array Attribute := #[]) (ms : Array MethodInfo := #[]) (fl : Nat := 33) (sup : Nat := 0) (ifs : Array Nat := #[]) (fds : Array FieldInfo := #[]) : ClassFile where
  minorVersion := 0
  majorVersion := 65
  constantPool := pool
  accessFlags := fl
  thisClass := this
  superClass := sup
  interfaces := ifs
  fields := fds
  methods := ms
  attributes := attrs
def plain (name : String) (sup : Option ClassId) : Class where
  name := name
  kind := .ordinary
  loader := none
  accessFlags := 33
  super := sup
  interfaces := #[]
  cf := none
  fields := #[]
  methods := #[]
  instanceTypes := #[]
  staticTypes := #[]
  resolved := #[]
  callSites := []
  init := .initialized
  statics := none
  mirror := none

def pool0 : Array CpInfo := pool [(5, u "<init>"), (0, u "()V"), (1, .class_ 10), (1, u "java/lang/Object"), (85, u "clone"), (0, u "()Ljava/lang/Object;")] 26

def k0c0 : Code := { maxStack := 0, maxLocals := 1, code := object_method_1_code, exceptionTable := #[], attributes := #[] }
def k0m0 : Method := { name := "<init>", desc := "()V", sig := { parameters := [], returnType := none }, accessFlags := 1, code := some k0c0 }
def k0m1 : Method := { name := "clone", desc := "()Ljava/lang/Object;", sig := { parameters := [], returnType := some (.object "java/lang/Object") }, accessFlags := 260, code := none }
/-- java/lang/Object -/
def k0 : Class := { plain "java/lang/Object" none with
  accessFlags := 33
  interfaces := #[]
  cf := some (fileOf pool0 8 #[] #[{ accessFlags := 1, nameIndex := 5, descriptorIndex := 6, attributes := #[] }, { accessFlags := 260, nameIndex := 96, descriptorIndex := 97, attributes := #[] }] 33 0 #[] #[])
  fields := #[]
  methods := #[k0m0, k0m1]
  instanceTypes := #[]
  staticTypes := #[]
  resolved := Array.replicate 124 none
  statics := none }

def pool1 : Array CpInfo := pool [(2, .class_ 4), (1, u "java/lang/Object"), (0, u "<init>"), (0, u "()V"), (0, .fieldref 8 9), (0, .class_ 10), (0, .nameAndType 11 12), (0, u "com/example/gyro/gyro/webhook/EventType"), (0, u "CUSTOMER_CREATED"), (0, u "Lcom/example/gyro/gyro/webhook/EventType;"), (0, .fieldref 8 14), (0, .nameAndType 15 12), (0, u "SUBSCRIPTION_ACTIVATED"), (0, .methodref 17 18), (0, .class_ 19), (0, .nameAndType 20 21), (0, u "com/example/gyro/gyro/webhook/EventTypeParsePinLaw"), (0, u "cust"), (0, u "(ZC)[C"), (0, .methodref 17 23), (0, .nameAndType 24 21), (0, u "subs"), (0, .class_ 26), (0, u "java/lang/String"), (0, .methodref 25 28), (0, .nameAndType 5 29), (0, u "([C)V"), (0, .integer 2147483647), (0, .methodref 8 32), (0, .nameAndType 33 34), (0, u "parse"), (0, u "(Ljava/lang/String;)Ljava/util/Optional;"), (0, .methodref 36 37), (0, .class_ 38), (0, .nameAndType 39 40), (0, u "java/util/Optional"), (0, u "orElse"), (0, u "(Ljava/lang/Object;)Ljava/lang/Object;"), (3, u "law"), (0, u "(IIIIII)Z")] 4

def k1m0 : Method := { name := "<init>", desc := "()V", sig := { parameters := [], returnType := none }, accessFlags := 1, code := none }
def k1c1 : Code := { maxStack := 4, maxLocals := 2, code := method_2_code, exceptionTable := #[], attributes := #[] }
def k1m1 : Method := { name := "cust", desc := "(ZC)[C", sig := { parameters := [.boolean, .char], returnType := some (.array .char) }, accessFlags := 10, code := some k1c1 }
def k1c2 : Code := { maxStack := 4, maxLocals := 2, code := method_3_code, exceptionTable := #[], attributes := #[] }
def k1m2 : Method := { name := "subs", desc := "(ZC)[C", sig := { parameters := [.boolean, .char], returnType := some (.array .char) }, accessFlags := 10, code := some k1c2 }
def k1c3 : Code := { maxStack := 6, maxLocals := 15, code := code, exceptionTable := #[], attributes := #[] }
def k1m3 : Method := { name := "law", desc := "(IIIIII)Z", sig := { parameters := [.int, .int, .int, .int, .int, .int], returnType := some .boolean }, accessFlags := 9, code := some k1c3 }
/-- com/example/gyro/gyro/webhook/EventTypeParsePinLaw -/
def k1 : Class := { plain "com/example/gyro/gyro/webhook/EventTypeParsePinLaw" (some 0) with
  accessFlags := 49
  interfaces := #[]
  cf := some (fileOf pool1 17 #[] #[{ accessFlags := 1, nameIndex := 5, descriptorIndex := 6, attributes := #[] }, { accessFlags := 10, nameIndex := 20, descriptorIndex := 21, attributes := #[] }, { accessFlags := 10, nameIndex := 24, descriptorIndex := 21, attributes := #[] }, { accessFlags := 9, nameIndex := 44, descriptorIndex := 45, attributes := #[] }] 49 2 #[] #[])
  fields := #[]
  methods := #[k1m0, k1m1, k1m2, k1m3]
  instanceTypes := #[]
  staticTypes := #[]
  resolved := Array.replicate 50 none
  statics := none }

def pool2 : Array CpInfo := pool [(1, .class_ 2), (0, u "java/lang/constant/Constable"), (0, .class_ 4), (0, u "java/lang/Object")] 6

/-- java/lang/constant/Constable -/
def k2 : Class := { plain "java/lang/constant/Constable" (some 0) with
  accessFlags := 1537
  interfaces := #[]
  cf := some (fileOf pool2 1 #[] #[] 1537 3 #[] #[])
  fields := #[]
  methods := #[]
  instanceTypes := #[]
  staticTypes := #[]
  resolved := Array.replicate 11 none
  statics := none }

def pool3 : Array CpInfo := pool [(1, .class_ 2), (0, u "java/lang/Comparable"), (0, .class_ 4), (0, u "java/lang/Object")] 7

/-- java/lang/Comparable -/
def k3 : Class := { plain "java/lang/Comparable" (some 0) with
  accessFlags := 1537
  interfaces := #[]
  cf := some (fileOf pool3 1 #[] #[] 1537 3 #[] #[])
  fields := #[]
  methods := #[]
  instanceTypes := #[]
  staticTypes := #[]
  resolved := Array.replicate 12 none
  statics := none }

def pool4 : Array CpInfo := pool [(1, .class_ 2), (0, u "java/io/Serializable"), (0, .class_ 4), (0, u "java/lang/Object")] 2

/-- java/io/Serializable -/
def k4 : Class := { plain "java/io/Serializable" (some 0) with
  accessFlags := 1537
  interfaces := #[]
  cf := some (fileOf pool4 1 #[] #[] 1537 3 #[] #[])
  fields := #[]
  methods := #[]
  instanceTypes := #[]
  staticTypes := #[]
  resolved := Array.replicate 7 none
  statics := none }

def pool5 : Array CpInfo := pool [(2, .class_ 4), (1, u "java/lang/Enum"), (0, u "name"), (0, u "Ljava/lang/String;"), (2, u "ordinal"), (0, u "I"), (1, .class_ 14), (1, u "java/lang/Object"), (4, u "hash"), (86, .class_ 108), (1, u "java/lang/Enum$EnumDesc"), (2, .class_ 112), (0, u "java/lang/constant/Constable"), (0, .class_ 114), (0, u "java/lang/Comparable"), (0, .class_ 116), (0, u "java/io/Serializable")] 87

/-- java/lang/Enum -/
def k5 : Class := { plain "java/lang/Enum" (some 0) with
  accessFlags := 1057
  interfaces := #[2, 3, 4]
  cf := some (fileOf pool5 2 #[.nestMembers #[106]] #[] 1057 12 #[111, 113, 115] #[{ accessFlags := 18, nameIndex := 5, descriptorIndex := 6, attributes := #[] }, { accessFlags := 18, nameIndex := 9, descriptorIndex := 10, attributes := #[] }, { accessFlags := 2, nameIndex := 19, descriptorIndex := 10, attributes := #[] }])
  fields := #[{ name := "name", type := (.object "java/lang/String"), accessFlags := 18, slot := 0, constantValue := 0 }, { name := "ordinal", type := .int, accessFlags := 18, slot := 1, constantValue := 0 }, { name := "hash", type := .int, accessFlags := 2, slot := 2, constantValue := 0 }]
  methods := #[]
  instanceTypes := #[(.object "java/lang/String"), .int, .int]
  staticTypes := #[]
  resolved := Array.replicate 204 none
  statics := none }

def pool6 : Array CpInfo := pool [(1, .class_ 2), (0, u "com/example/gyro/gyro/webhook/EventType"), (2, u "CUSTOMER_CREATED"), (0, u "Lcom/example/gyro/gyro/webhook/EventType;"), (2, u "SUBSCRIPTION_ACTIVATED"), (0, .fieldref 1 11), (0, .nameAndType 12 13), (0, u "$VALUES"), (0, u "[Lcom/example/gyro/gyro/webhook/EventType;"), (0, .methodref 15 16), (0, .class_ 13), (0, .nameAndType 17 18), (0, u "clone"), (0, u "()Ljava/lang/Object;"), (1, .class_ 22), (1, u "java/lang/Enum"), (6, .fieldref 1 30), (0, .nameAndType 31 32), (0, u "wireName"), (0, u "Ljava/lang/String;"), (0, .methodref 1 34), (0, .nameAndType 35 36), (0, u "values"), (0, u "()[Lcom/example/gyro/gyro/webhook/EventType;"), (0, .methodref 38 39), (0, .class_ 40), (0, .nameAndType 41 42), (0, u "java/lang/String"), (0, u "equals"), (0, u "(Ljava/lang/Object;)Z"), (0, .methodref 44 45), (0, .class_ 46), (0, .nameAndType 47 48), (0, u "java/util/Optional"), (0, u "of"), (0, u "(Ljava/lang/Object;)Ljava/util/Optional;"), (0, .methodref 44 50), (0, .nameAndType 51 52), (0, u "empty"), (0, u "()Ljava/util/Optional;"), (22, u "ALL"), (10, u "parse"), (0, u "(Ljava/lang/String;)Ljava/util/Optional;")] 9

def k6c0 : Code := { maxStack := 1, maxLocals := 0, code := prog_28_method_1_code, exceptionTable := #[], attributes := #[] }
def k6m0 : Method := { name := "values", desc := "()[Lcom/example/gyro/gyro/webhook/EventType;", sig := { parameters := [], returnType := some (.array (.object "com/example/gyro/gyro/webhook/EventType")) }, accessFlags := 9, code := some k6c0 }
def k6c1 : Code := { maxStack := 2, maxLocals := 5, code := prog_28_method_5_code, exceptionTable := #[], attributes := #[] }
def k6m1 : Method := { name := "parse", desc := "(Ljava/lang/String;)Ljava/util/Optional;", sig := { parameters := [(.object "java/lang/String")], returnType := some (.object "java/util/Optional") }, accessFlags := 9, code := some k6c1 }
/-- com/example/gyro/gyro/webhook/EventType -/
def k6 : Class := { plain "com/example/gyro/gyro/webhook/EventType" (some 5) with
  accessFlags := 16433
  interfaces := #[]
  cf := some (fileOf pool6 1 #[] #[{ accessFlags := 9, nameIndex := 35, descriptorIndex := 36, attributes := #[] }, { accessFlags := 9, nameIndex := 86, descriptorIndex := 87, attributes := #[] }] 16433 20 #[] #[{ accessFlags := 16409, nameIndex := 5, descriptorIndex := 6, attributes := #[] }, { accessFlags := 16409, nameIndex := 9, descriptorIndex := 6, attributes := #[] }, { accessFlags := 25, nameIndex := 75, descriptorIndex := 32, attributes := #[] }, { accessFlags := 18, nameIndex := 31, descriptorIndex := 32, attributes := #[] }, { accessFlags := 4122, nameIndex := 12, descriptorIndex := 13, attributes := #[] }])
  fields := #[{ name := "CUSTOMER_CREATED", type := (.object "com/example/gyro/gyro/webhook/EventType"), accessFlags := 16409, slot := 0, constantValue := 0 }, { name := "SUBSCRIPTION_ACTIVATED", type := (.object "com/example/gyro/gyro/webhook/EventType"), accessFlags := 16409, slot := 1, constantValue := 0 }, { name := "ALL", type := (.object "java/lang/String"), accessFlags := 25, slot := 2, constantValue := 0 }, { name := "wireName", type := (.object "java/lang/String"), accessFlags := 18, slot := 3, constantValue := 0 }, { name := "$VALUES", type := (.array (.object "com/example/gyro/gyro/webhook/EventType")), accessFlags := 4122, slot := 3, constantValue := 0 }]
  methods := #[k6m0, k6m1]
  instanceTypes := #[(.object "java/lang/String"), .int, .int, (.object "java/lang/String")]
  staticTypes := #[(.object "com/example/gyro/gyro/webhook/EventType"), (.object "com/example/gyro/gyro/webhook/EventType"), (.object "java/lang/String"), (.array (.object "com/example/gyro/gyro/webhook/EventType"))]
  resolved := Array.replicate 97 none
  statics := some 0 }

def pool7 : Array CpInfo := pool [(2, .class_ 4), (1, u "java/lang/CharSequence"), (42, .class_ 48), (0, u "java/lang/CharSequence$1CodePointIterator"), (10, .class_ 60), (0, u "java/lang/CharSequence$1CharIterator"), (5, .class_ 67), (0, u "java/lang/Object")] 63

/-- java/lang/CharSequence -/
def k7 : Class := { plain "java/lang/CharSequence" (some 0) with
  accessFlags := 1537
  interfaces := #[]
  cf := some (fileOf pool7 2 #[.nestMembers #[47, 59]] #[] 1537 66 #[] #[])
  fields := #[]
  methods := #[]
  instanceTypes := #[]
  staticTypes := #[]
  resolved := Array.replicate 131 none
  statics := none }

def pool8 : Array CpInfo := pool [(1, .class_ 2), (0, u "java/lang/constant/ConstantDesc"), (0, .class_ 4), (0, u "java/lang/Object")] 32

/-- java/lang/constant/ConstantDesc -/
def k8 : Class := { plain "java/lang/constant/ConstantDesc" (some 0) with
  accessFlags := 1537
  interfaces := #[]
  cf := some (fileOf pool8 1 #[] #[] 1537 3 #[] #[])
  fields := #[]
  methods := #[]
  instanceTypes := #[]
  staticTypes := #[]
  resolved := Array.replicate 37 none
  statics := none }

def pool9 : Array CpInfo := pool [(1, .methodref 2 3), (0, .class_ 4), (0, .nameAndType 5 6), (0, u "java/lang/Object"), (0, u "<init>"), (0, u "()V"), (0, .string 8), (0, u ""), (0, .fieldref 10 11), (0, .class_ 12), (0, .nameAndType 13 14), (0, u "java/lang/String"), (0, u "value"), (0, u "[B"), (0, .fieldref 10 16), (0, .nameAndType 17 18), (0, u "coder"), (0, u "B"), (2, u "hash"), (0, u "I"), (2, u "hashIsZero"), (0, u "Z"), (0, .methodref 10 28), (0, .nameAndType 5 29), (0, u "([CIILjava/lang/Void;)V"), (8, .fieldref 10 39), (0, .nameAndType 40 26), (0, u "COMPACT_STRINGS"), (1, .class_ 44), (1, u "java/lang/StringUTF16"), (0, u "compress"), (1, .methodref 42 48), (0, .nameAndType 49 50), (0, u "coderFromArrayLen"), (0, u "([BI)B"), (56, .class_ 109), (1, u "java/lang/StringLatin1"), (67, .methodref 42 178), (0, .nameAndType 45 179), (0, u "([CII)[B"), (361, .methodref 107 542), (0, .nameAndType 543 544), (0, u "equals"), (0, u "([B[B)Z"), (28, u "(Ljava/lang/Object;)Z"), (1, .class_ 576), (0, u "java/lang/CharSequence"), (22, u "CASE_INSENSITIVE_ORDER"), (0, u "Ljava/util/Comparator;"), (409, u "([C)V"), (90, u "serialPersistentFields"), (0, u "[Ljava/io/ObjectStreamField;"), (0, .class_ 1104), (0, u "java/lang/String$CaseInsensitiveComparator"), (1, .class_ 1107), (0, u "java/io/Serializable"), (0, .class_ 1109), (0, u "java/lang/Comparable"), (0, .class_ 1111), (0, u "java/lang/constant/Constable"), (0, .class_ 1113), (0, u "java/lang/constant/ConstantDesc"), (2, u "serialVersionUID"), (0, u "J"), (3, u "REPL"), (0, u "C"), (2, u "LATIN1"), (1, u "UTF16")] 323

def k9m0 : Method := { name := "<init>", desc := "()V", sig := { parameters := [], returnType := none }, accessFlags := 1, code := none }
def k9c1 : Code := { maxStack := 5, maxLocals := 2, code := jdk_42_method_3_code, exceptionTable := #[], attributes := #[] }
def k9m1 : Method := { name := "<init>", desc := "([C)V", sig := { parameters := [(.array .char)], returnType := none }, accessFlags := 1, code := some k9c1 }
def k9c2 : Code := { maxStack := 2, maxLocals := 3, code := jdk_42_method_66_code, exceptionTable := #[], attributes := #[] }
def k9m2 : Method := { name := "equals", desc := "(Ljava/lang/Object;)Z", sig := { parameters := [(.object "java/lang/Object")], returnType := some .boolean }, accessFlags := 1, code := some k9c2 }
def k9c3 : Code := { maxStack := 4, maxLocals := 6, code := jdk_42_method_149_code, exceptionTable := #[], attributes := #[] }
def k9m3 : Method := { name := "<init>", desc := "([CIILjava/lang/Void;)V", sig := { parameters := [(.array .char), .int, .int, (.object "java/lang/Void")], returnType := none }, accessFlags := 2, code := some k9c3 }
/-- java/lang/String -/
def k9 : Class := { plain "java/lang/String" (some 0) with
  accessFlags := 49
  interfaces := #[4, 3, 7, 2, 8]
  cf := some (fileOf pool9 10 #[.nestMembers #[1103]] #[{ accessFlags := 1, nameIndex := 5, descriptorIndex := 6, attributes := #[] }, { accessFlags := 1, nameIndex := 5, descriptorIndex := 1010, attributes := #[] }, { accessFlags := 1, nameIndex := 543, descriptorIndex := 573, attributes := #[] }, { accessFlags := 2, nameIndex := 5, descriptorIndex := 29, attributes := #[] }] 49 2 #[1106, 1108, 575, 1110, 1112] #[{ accessFlags := 18, nameIndex := 13, descriptorIndex := 14, attributes := #[] }, { accessFlags := 18, nameIndex := 17, descriptorIndex := 18, attributes := #[] }, { accessFlags := 2, nameIndex := 21, descriptorIndex := 22, attributes := #[] }, { accessFlags := 2, nameIndex := 25, descriptorIndex := 26, attributes := #[] }, { accessFlags := 26, nameIndex := 1116, descriptorIndex := 1117, attributes := #[] }, { accessFlags := 24, nameIndex := 40, descriptorIndex := 26, attributes := #[] }, { accessFlags := 26, nameIndex := 1101, descriptorIndex := 1102, attributes := #[] }, { accessFlags := 26, nameIndex := 1121, descriptorIndex := 1122, attributes := #[] }, { accessFlags := 25, nameIndex := 599, descriptorIndex := 600, attributes := #[] }, { accessFlags := 24, nameIndex := 1125, descriptorIndex := 18, attributes := #[] }, { accessFlags := 24, nameIndex := 1127, descriptorIndex := 18, attributes := #[] }])
  fields := #[{ name := "value", type := (.array .byte), accessFlags := 18, slot := 0, constantValue := 0 }, { name := "coder", type := .byte, accessFlags := 18, slot := 1, constantValue := 0 }, { name := "hash", type := .int, accessFlags := 2, slot := 2, constantValue := 0 }, { name := "hashIsZero", type := .boolean, accessFlags := 2, slot := 3, constantValue := 0 }, { name := "serialVersionUID", type := .long, accessFlags := 26, slot := 0, constantValue := 0 }, { name := "COMPACT_STRINGS", type := .boolean, accessFlags := 24, slot := 1, constantValue := 0 }, { name := "serialPersistentFields", type := (.array (.object "java/io/ObjectStreamField")), accessFlags := 26, slot := 2, constantValue := 0 }, { name := "REPL", type := .char, accessFlags := 26, slot := 3, constantValue := 0 }, { name := "CASE_INSENSITIVE_ORDER", type := (.object "java/util/Comparator"), accessFlags := 25, slot := 4, constantValue := 0 }, { name := "LATIN1", type := .byte, accessFlags := 24, slot := 5, constantValue := 0 }, { name := "UTF16", type := .byte, accessFlags := 24, slot := 6, constantValue := 0 }]
  methods := #[k9m0, k9m1, k9m2, k9m3]
  instanceTypes := #[(.array .byte), .byte, .int, .boolean]
  staticTypes := #[.long, .boolean, (.array (.object "java/io/ObjectStreamField")), .char, (.object "java/util/Comparator"), .byte, .byte]
  resolved := Array.replicate 1451 none
  statics := some 1 }

def pool10 : Array CpInfo := pool [(6, .class_ 8), (1, u "java/lang/Object"), (0, u "<init>"), (0, u "()V"), (1, .class_ 14), (1, u "java/lang/StringUTF16"), (31, u "$assertionsDisabled"), (0, u "Z"), (13, u "HI_BYTE_SHIFT"), (0, u "I"), (2, u "LO_BYTE_SHIFT"), (49, .methodref 12 116), (0, .nameAndType 117 118), (0, u "compress"), (0, u "([CI[BII)I"), (3, u "([CII)[B"), (138, u "coderFromArrayLen"), (0, u "([BI)B"), (106, .class_ 371), (1, u "java/lang/StringUTF16$LinesSpliterator"), (58, u "MAX_LENGTH"), (196, .class_ 628), (0, u "java/lang/StringUTF16$CodePointsSpliterator"), (0, .class_ 630), (0, u "java/lang/StringUTF16$CharsSpliterator")] 4

def k10m0 : Method := { name := "<init>", desc := "()V", sig := { parameters := [], returnType := none }, accessFlags := 0, code := none }
def k10c1 : Code := { maxStack := 2, maxLocals := 2, code := jdk_52_method_15_code, exceptionTable := #[], attributes := #[] }
def k10m1 : Method := { name := "coderFromArrayLen", desc := "([BI)B", sig := { parameters := [(.array .byte), .int], returnType := some .byte }, accessFlags := 8, code := some k10c1 }
def k10c2 : Code := { maxStack := 5, maxLocals := 6, code := jdk_52_method_16_code, exceptionTable := #[], attributes := #[] }
def k10m2 : Method := { name := "compress", desc := "([CII)[B", sig := { parameters := [(.array .char), .int, .int], returnType := some (.array .byte) }, accessFlags := 9, code := some k10c2 }
def k10c3 : Code := { maxStack := 3, maxLocals := 7, code := jdk_52_method_21_code, exceptionTable := #[], attributes := #[] }
def k10m3 : Method := { name := "compress", desc := "([CI[BII)I", sig := { parameters := [(.array .char), .int, (.array .byte), .int, .int], returnType := some .int }, accessFlags := 9, code := some k10c3 }
/-- java/lang/StringUTF16 -/
def k10 : Class := { plain "java/lang/StringUTF16" (some 0) with
  accessFlags := 48
  interfaces := #[]
  cf := some (fileOf pool10 12 #[.nestMembers #[627, 629, 369]] #[{ accessFlags := 0, nameIndex := 9, descriptorIndex := 10, attributes := #[] }, { accessFlags := 8, nameIndex := 261, descriptorIndex := 262, attributes := #[] }, { accessFlags := 9, nameIndex := 117, descriptorIndex := 122, attributes := #[] }, { accessFlags := 9, nameIndex := 117, descriptorIndex := 118, attributes := #[] }] 48 6 #[] #[{ accessFlags := 26, nameIndex := 61, descriptorIndex := 62, attributes := #[] }, { accessFlags := 26, nameIndex := 65, descriptorIndex := 62, attributes := #[] }, { accessFlags := 24, nameIndex := 430, descriptorIndex := 62, attributes := #[] }, { accessFlags := 4120, nameIndex := 46, descriptorIndex := 47, attributes := #[] }])
  fields := #[{ name := "HI_BYTE_SHIFT", type := .int, accessFlags := 26, slot := 0, constantValue := 0 }, { name := "LO_BYTE_SHIFT", type := .int, accessFlags := 26, slot := 1, constantValue := 0 }, { name := "MAX_LENGTH", type := .int, accessFlags := 24, slot := 2, constantValue := 0 }, { name := "$assertionsDisabled", type := .boolean, accessFlags := 4120, slot := 3, constantValue := 0 }]
  methods := #[k10m0, k10m1, k10m2, k10m3]
  instanceTypes := #[]
  staticTypes := #[.int, .int, .int, .boolean]
  resolved := Array.replicate 635 none
  statics := none }

def pool11 : Array CpInfo := pool [(1, .class_ 2), (0, u "java/lang/Cloneable"), (0, .class_ 4), (0, u "java/lang/Object")] 2

/-- java/lang/Cloneable -/
def k11 : Class := { plain "java/lang/Cloneable" (some 0) with
  accessFlags := 1537
  interfaces := #[]
  cf := some (fileOf pool11 1 #[] #[] 1537 3 #[] #[])
  fields := #[]
  methods := #[]
  instanceTypes := #[]
  staticTypes := #[]
  resolved := Array.replicate 7 none
  statics := none }

def pool12 : Array CpInfo := pool [(4, .class_ 6), (1, u "java/lang/Object"), (0, u "<init>"), (0, u "()V"), (5, .class_ 16), (1, u "java/lang/StringLatin1"), (104, u "$assertionsDisabled"), (0, u "Z"), (98, .class_ 223), (1, u "java/lang/StringLatin1$LinesSpliterator"), (57, u "equals"), (0, u "([B[B)Z"), (107, .class_ 391), (0, u "java/lang/StringLatin1$CharsSpliterator")] 3

def k12m0 : Method := { name := "<init>", desc := "()V", sig := { parameters := [], returnType := none }, accessFlags := 0, code := none }
def k12c1 : Code := { maxStack := 3, maxLocals := 3, code := jdk_43_method_13_code, exceptionTable := #[], attributes := #[] }
def k12m1 : Method := { name := "equals", desc := "([B[B)Z", sig := { parameters := [(.array .byte), (.array .byte)], returnType := some .boolean }, accessFlags := 9, code := some k12c1 }
/-- java/lang/StringLatin1 -/
def k12 : Class := { plain "java/lang/StringLatin1" (some 0) with
  accessFlags := 48
  interfaces := #[]
  cf := some (fileOf pool12 14 #[.nestMembers #[390, 221]] #[{ accessFlags := 0, nameIndex := 7, descriptorIndex := 8, attributes := #[] }, { accessFlags := 9, nameIndex := 281, descriptorIndex := 282, attributes := #[] }] 48 4 #[] #[{ accessFlags := 4120, nameIndex := 121, descriptorIndex := 122, attributes := #[] }])
  fields := #[{ name := "$assertionsDisabled", type := .boolean, accessFlags := 4120, slot := 0, constantValue := 0 }]
  methods := #[k12m0, k12m1]
  instanceTypes := #[]
  staticTypes := #[.boolean]
  resolved := Array.replicate 395 none
  statics := none }

def pool13 : Array CpInfo := pool [(1, .fieldref 2 3), (0, .class_ 4), (0, .nameAndType 5 6), (0, u "java/util/Optional"), (0, u "EMPTY"), (0, u "Ljava/util/Optional;"), (0, .methodref 8 9), (0, .class_ 10), (0, .nameAndType 11 12), (0, u "java/lang/Object"), (0, u "<init>"), (0, u "()V"), (0, .fieldref 2 14), (0, .nameAndType 15 16), (0, u "value"), (0, u "Ljava/lang/Object;"), (0, .methodref 18 19), (0, .class_ 20), (0, .nameAndType 21 22), (0, u "java/util/Objects"), (0, u "requireNonNull"), (0, u "(Ljava/lang/Object;)Ljava/lang/Object;"), (0, .methodref 2 24), (0, .nameAndType 11 25), (0, u "(Ljava/lang/Object;)V"), (29, u "empty"), (0, u "()Ljava/util/Optional;"), (8, u "(Ljava/lang/Object;)Ljava/util/Optional;"), (16, u "of"), (82, u "orElse")] 21

def k13c0 : Code := { maxStack := 1, maxLocals := 1, code := jdk_32_method_1_code, exceptionTable := #[], attributes := #[] }
def k13m0 : Method := { name := "empty", desc := "()Ljava/util/Optional;", sig := { parameters := [], returnType := some (.object "java/util/Optional") }, accessFlags := 9, code := some k13c0 }
def k13c1 : Code := { maxStack := 2, maxLocals := 2, code := jdk_32_method_2_code, exceptionTable := #[], attributes := #[] }
def k13m1 : Method := { name := "<init>", desc := "(Ljava/lang/Object;)V", sig := { parameters := [(.object "java/lang/Object")], returnType := none }, accessFlags := 2, code := some k13c1 }
def k13c2 : Code := { maxStack := 3, maxLocals := 1, code := jdk_32_method_3_code, exceptionTable := #[], attributes := #[] }
def k13m2 : Method := { name := "of", desc := "(Ljava/lang/Object;)Ljava/util/Optional;", sig := { parameters := [(.object "java/lang/Object")], returnType := some (.object "java/util/Optional") }, accessFlags := 9, code := some k13c2 }
def k13c3 : Code := { maxStack := 1, maxLocals := 2, code := jdk_32_method_15_code, exceptionTable := #[], attributes := #[] }
def k13m3 : Method := { name := "orElse", desc := "(Ljava/lang/Object;)Ljava/lang/Object;", sig := { parameters := [(.object "java/lang/Object")], returnType := some (.object "java/lang/Object") }, accessFlags := 1, code := some k13c3 }
/-- java/util/Optional -/
def k13 : Class := { plain "java/util/Optional" (some 0) with
  accessFlags := 49
  interfaces := #[]
  cf := some (fileOf pool13 2 #[] #[{ accessFlags := 9, nameIndex := 55, descriptorIndex := 56, attributes := #[] }, { accessFlags := 2, nameIndex := 11, descriptorIndex := 25, attributes := #[] }, { accessFlags := 9, nameIndex := 82, descriptorIndex := 65, attributes := #[] }, { accessFlags := 1, nameIndex := 165, descriptorIndex := 22, attributes := #[] }] 49 8 #[] #[{ accessFlags := 26, nameIndex := 5, descriptorIndex := 6, attributes := #[] }, { accessFlags := 18, nameIndex := 15, descriptorIndex := 16, attributes := #[] }])
  fields := #[{ name := "EMPTY", type := (.object "java/util/Optional"), accessFlags := 26, slot := 0, constantValue := 0 }, { name := "value", type := (.object "java/lang/Object"), accessFlags := 18, slot := 0, constantValue := 0 }]
  methods := #[k13m0, k13m1, k13m2, k13m3]
  instanceTypes := #[(.object "java/lang/Object")]
  staticTypes := #[(.object "java/util/Optional")]
  resolved := Array.replicate 187 none
  statics := some 2 }

def pool14 : Array CpInfo := pool [(2, .class_ 4), (1, u "java/lang/Object"), (0, u "<init>"), (0, u "()V"), (35, .class_ 44), (1, u "java/util/Objects"), (0, u "requireNonNull"), (0, u "(Ljava/lang/Object;)Ljava/lang/Object;")] 137

def k14m0 : Method := { name := "<init>", desc := "()V", sig := { parameters := [], returnType := none }, accessFlags := 2, code := none }
def k14c1 : Code := { maxStack := 2, maxLocals := 1, code := jdk_31_method_10_code, exceptionTable := #[], attributes := #[] }
def k14m1 : Method := { name := "requireNonNull", desc := "(Ljava/lang/Object;)Ljava/lang/Object;", sig := { parameters := [(.object "java/lang/Object")], returnType := some (.object "java/lang/Object") }, accessFlags := 9, code := some k14c1 }
/-- java/util/Objects -/
def k14 : Class := { plain "java/util/Objects" (some 0) with
  accessFlags := 49
  interfaces := #[]
  cf := some (fileOf pool14 42 #[] #[{ accessFlags := 2, nameIndex := 5, descriptorIndex := 6, attributes := #[] }, { accessFlags := 9, nameIndex := 45, descriptorIndex := 46, attributes := #[] }] 49 2 #[] #[])
  fields := #[]
  methods := #[k14m0, k14m1]
  instanceTypes := #[]
  staticTypes := #[]
  resolved := Array.replicate 184 none
  statics := none }

def pool15 : Array CpInfo := pool [(2, .class_ 4), (1, u "java/lang/Object"), (0, u "<init>"), (0, u "()V"), (17, .class_ 26), (1, u "jdk/internal/util/Preconditions"), (28, .class_ 56), (0, u "jdk/internal/util/Preconditions$4"), (57, .class_ 115), (0, u "jdk/internal/util/Preconditions$1"), (7, u "SIOOBE_FORMATTER"), (0, u "Ljava/util/function/BiFunction;"), (0, .class_ 126), (0, u "jdk/internal/util/Preconditions$2"), (3, u "AIOOBE_FORMATTER"), (0, .class_ 132), (0, u "jdk/internal/util/Preconditions$3"), (3, u "IOOBE_FORMATTER")] 57

def k15m0 : Method := { name := "<init>", desc := "()V", sig := { parameters := [], returnType := none }, accessFlags := 1, code := none }
/-- jdk/internal/util/Preconditions -/
def k15 : Class := { plain "jdk/internal/util/Preconditions" (some 0) with
  accessFlags := 33
  interfaces := #[]
  cf := some (fileOf pool15 24 #[.nestMembers #[55, 131, 125, 114]] #[{ accessFlags := 1, nameIndex := 5, descriptorIndex := 6, attributes := #[] }] 33 2 #[] #[{ accessFlags := 25, nameIndex := 123, descriptorIndex := 124, attributes := #[] }, { accessFlags := 25, nameIndex := 130, descriptorIndex := 124, attributes := #[] }, { accessFlags := 25, nameIndex := 136, descriptorIndex := 124, attributes := #[] }])
  fields := #[{ name := "SIOOBE_FORMATTER", type := (.object "java/util/function/BiFunction"), accessFlags := 25, slot := 0, constantValue := 0 }, { name := "AIOOBE_FORMATTER", type := (.object "java/util/function/BiFunction"), accessFlags := 25, slot := 1, constantValue := 0 }, { name := "IOOBE_FORMATTER", type := (.object "java/util/function/BiFunction"), accessFlags := 25, slot := 2, constantValue := 0 }]
  methods := #[k15m0]
  instanceTypes := #[]
  staticTypes := #[(.object "java/util/function/BiFunction"), (.object "java/util/function/BiFunction"), (.object "java/util/function/BiFunction")]
  resolved := Array.replicate 194 none
  statics := some 3 }

def pool16 : Array CpInfo := pool [(9, u "<init>"), (6, .class_ 18), (1, u "java/lang/Object"), (0, u "()V"), (1, .class_ 23), (1, u "jdk/internal/util/ArraysSupport"), (0, u "LOG2_ARRAY_LONG_INDEX_SCALE"), (0, u "I"), (2, u "U"), (0, u "Ljdk/internal/misc/Unsafe;"), (8, u "BIG_ENDIAN"), (0, u "Z"), (8, u "LOG2_BYTE_BIT_SIZE"), (4, u "LOG2_ARRAY_INT_INDEX_SCALE"), (54, u "JLA"), (0, u "Ljdk/internal/access/JavaLangAccess;"), (11, u "LOG2_ARRAY_BOOLEAN_INDEX_SCALE"), (9, u "LOG2_ARRAY_BYTE_INDEX_SCALE"), (5, u "LOG2_ARRAY_CHAR_INDEX_SCALE"), (5, u "LOG2_ARRAY_SHORT_INDEX_SCALE"), (18, u "LOG2_ARRAY_FLOAT_INDEX_SCALE"), (24, u "LOG2_ARRAY_DOUBLE_INDEX_SCALE"), (89, u "T_BOOLEAN"), (2, u "T_CHAR"), (1, u "T_FLOAT"), (1, u "T_DOUBLE"), (1, u "T_BYTE"), (1, u "T_SHORT"), (1, u "T_INT"), (1, u "T_LONG"), (1, u "SOFT_MAX_ARRAY_LENGTH")] 83

def k16m0 : Method := { name := "<init>", desc := "()V", sig := { parameters := [], returnType := none }, accessFlags := 2, code := none }
/-- jdk/internal/util/ArraysSupport -/
def k16 : Class := { plain "jdk/internal/util/ArraysSupport" (some 0) with
  accessFlags := 33
  interfaces := #[]
  cf := some (fileOf pool16 21 #[] #[{ accessFlags := 2, nameIndex := 9, descriptorIndex := 19, attributes := #[] }] 33 16 #[] #[{ accessFlags := 24, nameIndex := 28, descriptorIndex := 29, attributes := #[] }, { accessFlags := 26, nameIndex := 38, descriptorIndex := 39, attributes := #[] }, { accessFlags := 25, nameIndex := 121, descriptorIndex := 25, attributes := #[] }, { accessFlags := 25, nameIndex := 131, descriptorIndex := 25, attributes := #[] }, { accessFlags := 25, nameIndex := 137, descriptorIndex := 25, attributes := #[] }, { accessFlags := 25, nameIndex := 143, descriptorIndex := 25, attributes := #[] }, { accessFlags := 25, nameIndex := 53, descriptorIndex := 25, attributes := #[] }, { accessFlags := 25, nameIndex := 24, descriptorIndex := 25, attributes := #[] }, { accessFlags := 25, nameIndex := 162, descriptorIndex := 25, attributes := #[] }, { accessFlags := 25, nameIndex := 187, descriptorIndex := 25, attributes := #[] }, { accessFlags := 26, nameIndex := 48, descriptorIndex := 25, attributes := #[] }, { accessFlags := 25, nameIndex := 277, descriptorIndex := 25, attributes := #[] }, { accessFlags := 25, nameIndex := 280, descriptorIndex := 25, attributes := #[] }, { accessFlags := 25, nameIndex := 282, descriptorIndex := 25, attributes := #[] }, { accessFlags := 25, nameIndex := 284, descriptorIndex := 25, attributes := #[] }, { accessFlags := 25, nameIndex := 286, descriptorIndex := 25, attributes := #[] }, { accessFlags := 25, nameIndex := 288, descriptorIndex := 25, attributes := #[] }, { accessFlags := 25, nameIndex := 290, descriptorIndex := 25, attributes := #[] }, { accessFlags := 25, nameIndex := 292, descriptorIndex := 25, attributes := #[] }, { accessFlags := 26, nameIndex := 108, descriptorIndex := 109, attributes := #[] }, { accessFlags := 25, nameIndex := 294, descriptorIndex := 25, attributes := #[] }])
  fields := #[{ name := "U", type := (.object "jdk/internal/misc/Unsafe"), accessFlags := 24, slot := 0, constantValue := 0 }, { name := "BIG_ENDIAN", type := .boolean, accessFlags := 26, slot := 1, constantValue := 0 }, { name := "LOG2_ARRAY_BOOLEAN_INDEX_SCALE", type := .int, accessFlags := 25, slot := 2, constantValue := 0 }, { name := "LOG2_ARRAY_BYTE_INDEX_SCALE", type := .int, accessFlags := 25, slot := 3, constantValue := 0 }, { name := "LOG2_ARRAY_CHAR_INDEX_SCALE", type := .int, accessFlags := 25, slot := 4, constantValue := 0 }, { name := "LOG2_ARRAY_SHORT_INDEX_SCALE", type := .int, accessFlags := 25, slot := 5, constantValue := 0 }, { name := "LOG2_ARRAY_INT_INDEX_SCALE", type := .int, accessFlags := 25, slot := 6, constantValue := 0 }, { name := "LOG2_ARRAY_LONG_INDEX_SCALE", type := .int, accessFlags := 25, slot := 7, constantValue := 0 }, { name := "LOG2_ARRAY_FLOAT_INDEX_SCALE", type := .int, accessFlags := 25, slot := 8, constantValue := 0 }, { name := "LOG2_ARRAY_DOUBLE_INDEX_SCALE", type := .int, accessFlags := 25, slot := 9, constantValue := 0 }, { name := "LOG2_BYTE_BIT_SIZE", type := .int, accessFlags := 26, slot := 10, constantValue := 0 }, { name := "T_BOOLEAN", type := .int, accessFlags := 25, slot := 11, constantValue := 0 }, { name := "T_CHAR", type := .int, accessFlags := 25, slot := 12, constantValue := 0 }, { name := "T_FLOAT", type := .int, accessFlags := 25, slot := 13, constantValue := 0 }, { name := "T_DOUBLE", type := .int, accessFlags := 25, slot := 14, constantValue := 0 }, { name := "T_BYTE", type := .int, accessFlags := 25, slot := 15, constantValue := 0 }, { name := "T_SHORT", type := .int, accessFlags := 25, slot := 16, constantValue := 0 }, { name := "T_INT", type := .int, accessFlags := 25, slot := 17, constantValue := 0 }, { name := "T_LONG", type := .int, accessFlags := 25, slot := 18, constantValue := 0 }, { name := "JLA", type := (.object "jdk/internal/access/JavaLangAccess"), accessFlags := 26, slot := 19, constantValue := 0 }, { name := "SOFT_MAX_ARRAY_LENGTH", type := .int, accessFlags := 25, slot := 20, constantValue := 0 }]
  methods := #[k16m0]
  instanceTypes := #[]
  staticTypes := #[(.object "jdk/internal/misc/Unsafe"), .boolean, .int, .int, .int, .int, .int, .int, .int, .int, .int, .int, .int, .int, .int, .int, .int, .int, .int, (.object "jdk/internal/access/JavaLangAccess"), .int]
  resolved := Array.replicate 378 none
  statics := none }

/-- the primitive byte -/
def k17 : Class := { plain "byte" none with kind := .primitive 'B', accessFlags := 0x411 }
/-- [B -/
def k18 : Class := { plain "[B" (some 0) with kind := .array 17 .byte, interfaces := #[11, 4], accessFlags := 1041 }

/-- the primitive char -/
def k19 : Class := { plain "char" none with kind := .primitive 'C', accessFlags := 0x411 }
/-- [C -/
def k20 : Class := { plain "[C" (some 0) with kind := .array 19 .char, interfaces := #[11, 4], accessFlags := 1041 }

/-- the primitive int -/
def k21 : Class := { plain "int" none with kind := .primitive 'I', accessFlags := 0x411 }
/-- [I -/
def k22 : Class := { plain "[I" (some 0) with kind := .array 21 .int, interfaces := #[11, 4], accessFlags := 1041 }

/-- [Lcom/example/gyro/gyro/webhook/EventType; -/
def k23 : Class := { plain "[Lcom/example/gyro/gyro/webhook/EventType;" (some 0) with kind := .array 6 (.object "com/example/gyro/gyro/webhook/EventType"), interfaces := #[11, 4], accessFlags := 1041 }

def heap : Heap := #[{ cls := 6, slots := #[.ref 5, .ref 6, .null, .ref 4], vm := .statics 6 },
  { cls := 9, slots := #[.long 0, .int 1, .null, .int 0, .null, .int 0, .int 0], vm := .statics 9 },
  { cls := 13, slots := #[.ref 11], vm := .statics 13 },
  { cls := 15, slots := #[.null, .null, .null], vm := .statics 15 },
  { cls := 23, slots := #[.ref 5, .ref 6], vm := .none },
  { cls := 6, slots := #[.null, .int 0, .int 0, .ref 7], vm := .none },
  { cls := 6, slots := #[.null, .int 1, .int 0, .ref 8], vm := .none },
  { cls := 9, slots := #[.ref 9, .int 0, .int 0, .int 0], vm := .none },
  { cls := 9, slots := #[.ref 10, .int 0, .int 0, .int 0], vm := .none },
  { cls := 18, slots := #[.int 99, .int 117, .int 115, .int 116, .int 111, .int 109, .int 101, .int 114, .int 46, .int 99, .int 114, .int 101, .int 97, .int 116, .int 101, .int 100], vm := .none },
  { cls := 18, slots := #[.int 115, .int 117, .int 98, .int 115, .int 99, .int 114, .int 105, .int 112, .int 116, .int 105, .int 111, .int 110, .int 46, .int 97, .int 99, .int 116, .int 105, .int 118, .int 97, .int 116, .int 101, .int 100], vm := .none },
  { cls := 13, slots := #[.null], vm := .none }]
def classes : Array Class := #[k0, k1, k2, k3, k4, k5, k6, k7, k8, k9, k10, k11, k12, k13, k14, k15, k16, k17, k18, k19, k20, k21, k22, k23]
def interned : List (Array UInt16 × Addr) := []
def slotsUsed : Nat := 72
def theMethod : MethodId := ⟨1, 3⟩
def args0 : Array Value := #[.int 5, .int 6, .int 7, .int 8, .int 9, .int 10]
def aboutOver (below : List Frame) : State where
  vm := { classes := classes, interned := interned.toArray }
  heap := heap
  slotsUsed := slotsUsed
  threads := #[{ frames := .invoking theMethod args0 :: below }]
def below0 : List Frame := [.native { method := ⟨0, 0⟩, args := #[] }]
def about1 : State := aboutOver below0
def p0 : Program := .bare "" "" ""
def e0 : Env := launch0.env 0 0 0
theorem w_frames : about1.frames = Frame.invoking theMethod args0 :: below0 := rfl
set_option maxRecDepth 65536 in
theorem w_args : argsFit about1.vm theMethod args0 = true := by decide +kernel
set_option maxRecDepth 65536 in
theorem w_heap : heapFits about1 = true := by decide +kernel
set_option maxRecDepth 65536 in
theorem w_runnable : about1.curStatus? = some .runnable := by decide +kernel
set_option maxRecDepth 65536 in
theorem w_alone : about1.alone = true := by decide +kernel
set_option maxRecDepth 65536 in
theorem w_named : about1.methodNamed? x = some theMethod := by decide +kernel
set_option maxRecDepth 65536 in
theorem w_hears : about1.hears theMethod below0 = true := by decide +kernel
set_option maxRecDepth 65536 in
theorem w_ripe : about1.ripe theMethod args0 below0 = true := by decide +kernel
theorem w_running : about1.status = .running := rfl
set_option maxRecDepth 65536 in
theorem w_room : about1.hasRoom e0.platform room_1 = true :=
  launch0.hasRoom_least _ room_1 (by decide +kernel) (by decide +kernel) (by decide +kernel) (by decide +kernel) (by decide +kernel) (by decide +kernel)
theorem allAtoms_all (ts : List Jvm.Cond) (a : Array Jvm.Value) (st : Jvm.State) : (allAtoms ts).before a st = ts.all (fun c => c.before a st) := by
  induction ts with
  | nil => rfl
  | cons c t ih =>
    show (Jvm.Cond.and c (allAtoms t)).before a st = _
    rw [Jvm.Cond.before_and, ih, List.all_cons]
def words1 : List Jvm.Cond := Jvm.Cond.code x code maxLocals ret :: tables_1
/-- a 'code' word, met by the world's own term for the bytes: nothing is compared byte by byte -/
theorem code_word {y : MethodName} {bytes : ByteArray} {mx : Nat} {rt : Option FieldType} {a : Array Value} {s : State} {m : MethodId} {meth : Method} {c : Code} (h1 : s.methodNamed? y = some m) (h2 : s.vm.method? m = some meth) (h3 : meth.code = some c) (h4 : c.code = bytes)
    (h5 : (c.maxLocals == mx && c.exceptionTable.isEmpty && decide (c.maxStack ≤ mostOperands) && decide (meth.sig.returnType = rt) && !meth.locks && decide (parseMethodDescriptor y.desc = some meth.sig)) = true) : (Jvm.Cond.code y bytes mx rt).before a s = true := by
  simp only [Bool.and_eq_true, beq_iff_eq, Bool.not_eq_true', decide_eq_true_eq] at h5
  obtain ⟨⟨⟨⟨⟨g1, g2⟩, g3⟩, g4⟩, g5⟩, g6⟩ := h5
  simp [Cond.before, Cond.holds, Cond.value, h1, h2, h3, h4, g1, g2, g3, g4, g5, g6]
def isCode : Jvm.Cond → Bool
  | .code _ _ _ _ => true
  | _ => false
theorem all_split {L : List Jvm.Cond} {P : Jvm.Cond → Bool} (h1 : L.all (fun c => isCode c || P c) = true) (h2 : ∀ c ∈ L.filter isCode, P c = true) : L.all P = true := by
  refine List.all_eq_true.mpr fun c hc => ?_
  have h := List.all_eq_true.mp h1 c hc
  rcases Bool.eq_false_or_eq_true (isCode c) with hi | hi
  · exact h2 c (List.mem_filter.mpr ⟨hc, hi⟩)
  · simpa [hi] using h
set_option maxRecDepth 65536 in
theorem w_c0 : (Jvm.Cond.code x code maxLocals ret).before args0 about1 = true := code_word (m := ⟨1, 3⟩) (meth := k1m3) (c := k1c3) (by decide +kernel) rfl rfl rfl (by decide +kernel)
set_option maxRecDepth 65536 in
theorem w_c1 : (Jvm.Cond.code ({ cls := "com/example/gyro/gyro/webhook/EventTypeParsePinLaw", name := "cust", desc := "(ZC)[C" } : Jvm.MethodName) method_2_code (2 : Nat) (Option.some (Jvm.ClassFile.FieldType.array Jvm.ClassFile.FieldType.char))).before args0 about1 = true := code_word (m := ⟨1, 1⟩) (meth := k1m1) (c := k1c1) (by decide +kernel) rfl rfl rfl (by decide +kernel)
set_option maxRecDepth 65536 in
theorem w_c2 : (Jvm.Cond.code ({ cls := "java/lang/String", name := "<init>", desc := "([C)V" } : Jvm.MethodName) jdk_42_method_3_code (2 : Nat) (Option.none : Option Jvm.ClassFile.FieldType)).before args0 about1 = true := code_word (m := ⟨9, 1⟩) (meth := k9m1) (c := k9c1) (by decide +kernel) rfl rfl rfl (by decide +kernel)
set_option maxRecDepth 65536 in
theorem w_c3 : (Jvm.Cond.code ({ cls := "java/lang/String", name := "<init>", desc := "([CIILjava/lang/Void;)V" } : Jvm.MethodName) jdk_42_method_149_code (6 : Nat) (Option.none : Option Jvm.ClassFile.FieldType)).before args0 about1 = true := code_word (m := ⟨9, 3⟩) (meth := k9m3) (c := k9c3) (by decide +kernel) rfl rfl rfl (by decide +kernel)
set_option maxRecDepth 65536 in
theorem w_c4 : (Jvm.Cond.code ({ cls := "java/lang/Object", name := "<init>", desc := "()V" } : Jvm.MethodName) object_method_1_code (1 : Nat) (Option.none : Option Jvm.ClassFile.FieldType)).before args0 about1 = true := code_word (m := ⟨0, 0⟩) (meth := k0m0) (c := k0c0) (by decide +kernel) rfl rfl rfl (by decide +kernel)
set_option maxRecDepth 65536 in
theorem w_c5 : (Jvm.Cond.code ({ cls := "java/lang/StringUTF16", name := "compress", desc := "([CII)[B" } : Jvm.MethodName) jdk_52_method_16_code (6 : Nat) (Option.some (Jvm.ClassFile.FieldType.array Jvm.ClassFile.FieldType.byte))).before args0 about1 = true := code_word (m := ⟨10, 2⟩) (meth := k10m2) (c := k10c2) (by decide +kernel) rfl rfl rfl (by decide +kernel)
set_option maxRecDepth 65536 in
theorem w_c6 : (Jvm.Cond.code ({ cls := "java/lang/StringUTF16", name := "compress", desc := "([CI[BII)I" } : Jvm.MethodName) jdk_52_method_21_code (7 : Nat) (Option.some Jvm.ClassFile.FieldType.int)).before args0 about1 = true := code_word (m := ⟨10, 3⟩) (meth := k10m3) (c := k10c3) (by decide +kernel) rfl rfl rfl (by decide +kernel)
set_option maxRecDepth 65536 in
theorem w_c7 : (Jvm.Cond.code ({ cls := "java/lang/StringUTF16", name := "coderFromArrayLen", desc := "([BI)B" } : Jvm.MethodName) jdk_52_method_15_code (2 : Nat) (Option.some Jvm.ClassFile.FieldType.byte)).before args0 about1 = true := code_word (m := ⟨10, 1⟩) (meth := k10m1) (c := k10c1) (by decide +kernel) rfl rfl rfl (by decide +kernel)
set_option maxRecDepth 65536 in
theorem w_c8 : (Jvm.Cond.code ({ cls := "com/example/gyro/gyro/webhook/EventType", name := "parse", desc := "(Ljava/lang/String;)Ljava/util/Optional;" } : Jvm.MethodName) prog_28_method_5_code (5 : Nat) (Option.some (Jvm.ClassFile.FieldType.object "java/util/Optional"))).before args0 about1 = true := code_word (m := ⟨6, 1⟩) (meth := k6m1) (c := k6c1) (by decide +kernel) rfl rfl rfl (by decide +kernel)
set_option maxRecDepth 65536 in
theorem w_c9 : (Jvm.Cond.code ({ cls := "com/example/gyro/gyro/webhook/EventType", name := "values", desc := "()[Lcom/example/gyro/gyro/webhook/EventType;" } : Jvm.MethodName) prog_28_method_1_code (0 : Nat) (Option.some (Jvm.ClassFile.FieldType.array (Jvm.ClassFile.FieldType.object "com/example/gyro/gyro/webhook/EventType")))).before args0 about1 = true := code_word (m := ⟨6, 0⟩) (meth := k6m0) (c := k6c0) (by decide +kernel) rfl rfl rfl (by decide +kernel)
set_option maxRecDepth 65536 in
theorem w_c10 : (Jvm.Cond.code ({ cls := "java/lang/String", name := "equals", desc := "(Ljava/lang/Object;)Z" } : Jvm.MethodName) jdk_42_method_66_code (3 : Nat) (Option.some Jvm.ClassFile.FieldType.boolean)).before args0 about1 = true := code_word (m := ⟨9, 2⟩) (meth := k9m2) (c := k9c2) (by decide +kernel) rfl rfl rfl (by decide +kernel)
set_option maxRecDepth 65536 in
theorem w_c11 : (Jvm.Cond.code ({ cls := "java/lang/StringLatin1", name := "equals", desc := "([B[B)Z" } : Jvm.MethodName) jdk_43_method_13_code (3 : Nat) (Option.some Jvm.ClassFile.FieldType.boolean)).before args0 about1 = true := code_word (m := ⟨12, 1⟩) (meth := k12m1) (c := k12c1) (by decide +kernel) rfl rfl rfl (by decide +kernel)
set_option maxRecDepth 65536 in
theorem w_c12 : (Jvm.Cond.code ({ cls := "java/util/Optional", name := "of", desc := "(Ljava/lang/Object;)Ljava/util/Optional;" } : Jvm.MethodName) jdk_32_method_3_code (1 : Nat) (Option.some (Jvm.ClassFile.FieldType.object "java/util/Optional"))).before args0 about1 = true := code_word (m := ⟨13, 2⟩) (meth := k13m2) (c := k13c2) (by decide +kernel) rfl rfl rfl (by decide +kernel)
set_option maxRecDepth 65536 in
theorem w_c13 : (Jvm.Cond.code ({ cls := "java/util/Objects", name := "requireNonNull", desc := "(Ljava/lang/Object;)Ljava/lang/Object;" } : Jvm.MethodName) jdk_31_method_10_code (1 : Nat) (Option.some (Jvm.ClassFile.FieldType.object "java/lang/Object"))).before args0 about1 = true := code_word (m := ⟨14, 1⟩) (meth := k14m1) (c := k14c1) (by decide +kernel) rfl rfl rfl (by decide +kernel)
set_option maxRecDepth 65536 in
theorem w_c14 : (Jvm.Cond.code ({ cls := "java/util/Optional", name := "<init>", desc := "(Ljava/lang/Object;)V" } : Jvm.MethodName) jdk_32_method_2_code (2 : Nat) (Option.none : Option Jvm.ClassFile.FieldType)).before args0 about1 = true := code_word (m := ⟨13, 1⟩) (meth := k13m1) (c := k13c1) (by decide +kernel) rfl rfl rfl (by decide +kernel)
set_option maxRecDepth 65536 in
theorem w_c15 : (Jvm.Cond.code ({ cls := "java/util/Optional", name := "orElse", desc := "(Ljava/lang/Object;)Ljava/lang/Object;" } : Jvm.MethodName) jdk_32_method_15_code (2 : Nat) (Option.some (Jvm.ClassFile.FieldType.object "java/lang/Object"))).before args0 about1 = true := code_word (m := ⟨13, 3⟩) (meth := k13m3) (c := k13c3) (by decide +kernel) rfl rfl rfl (by decide +kernel)
set_option maxRecDepth 65536 in
theorem w_c16 : (Jvm.Cond.code ({ cls := "java/util/Optional", name := "empty", desc := "()Ljava/util/Optional;" } : Jvm.MethodName) jdk_32_method_1_code (1 : Nat) (Option.some (Jvm.ClassFile.FieldType.object "java/util/Optional"))).before args0 about1 = true := code_word (m := ⟨13, 0⟩) (meth := k13m0) (c := k13c0) (by decide +kernel) rfl rfl rfl (by decide +kernel)
set_option maxRecDepth 65536 in
theorem w_c17 : (Jvm.Cond.code ({ cls := "com/example/gyro/gyro/webhook/EventTypeParsePinLaw", name := "subs", desc := "(ZC)[C" } : Jvm.MethodName) method_3_code (2 : Nat) (Option.some (Jvm.ClassFile.FieldType.array Jvm.ClassFile.FieldType.char))).before args0 about1 = true := code_word (m := ⟨1, 2⟩) (meth := k1m2) (c := k1c2) (by decide +kernel) rfl rfl rfl (by decide +kernel)
def codes1 : List Jvm.Cond := [Jvm.Cond.code x code maxLocals ret, Jvm.Cond.code ({ cls := "com/example/gyro/gyro/webhook/EventTypeParsePinLaw", name := "cust", desc := "(ZC)[C" } : Jvm.MethodName) method_2_code (2 : Nat) (Option.some (Jvm.ClassFile.FieldType.array Jvm.ClassFile.FieldType.char)), Jvm.Cond.code ({ cls := "java/lang/String", name := "<init>", desc := "([C)V" } : Jvm.MethodName) jdk_42_method_3_code (2 : Nat) (Option.none : Option Jvm.ClassFile.FieldType), Jvm.Cond.code ({ cls := "java/lang/String", name := "<init>", desc := "([CIILjava/lang/Void;)V" } : Jvm.MethodName) jdk_42_method_149_code (6 : Nat) (Option.none : Option Jvm.ClassFile.FieldType), Jvm.Cond.code ({ cls := "java/lang/Object", name := "<init>", desc := "()V" } : Jvm.MethodName) object_method_1_code (1 : Nat) (Option.none : Option Jvm.ClassFile.FieldType), Jvm.Cond.code ({ cls := "java/lang/StringUTF16", name := "compress", desc := "([CII)[B" } : Jvm.MethodName) jdk_52_method_16_code (6 : Nat) (Option.some (Jvm.ClassFile.FieldType.array Jvm.ClassFile.FieldType.byte)), Jvm.Cond.code ({ cls := "java/lang/StringUTF16", name := "compress", desc := "([CI[BII)I" } : Jvm.MethodName) jdk_52_method_21_code (7 : Nat) (Option.some Jvm.ClassFile.FieldType.int), Jvm.Cond.code ({ cls := "java/lang/StringUTF16", name := "coderFromArrayLen", desc := "([BI)B" } : Jvm.MethodName) jdk_52_method_15_code (2 : Nat) (Option.some Jvm.ClassFile.FieldType.byte), Jvm.Cond.code ({ cls := "com/example/gyro/gyro/webhook/EventType", name := "parse", desc := "(Ljava/lang/String;)Ljava/util/Optional;" } : Jvm.MethodName) prog_28_method_5_code (5 : Nat) (Option.some (Jvm.ClassFile.FieldType.object "java/util/Optional")), Jvm.Cond.code ({ cls := "com/example/gyro/gyro/webhook/EventType", name := "values", desc := "()[Lcom/example/gyro/gyro/webhook/EventType;" } : Jvm.MethodName) prog_28_method_1_code (0 : Nat) (Option.some (Jvm.ClassFile.FieldType.array (Jvm.ClassFile.FieldType.object "com/example/gyro/gyro/webhook/EventType"))), Jvm.Cond.code ({ cls := "java/lang/String", name := "equals", desc := "(Ljava/lang/Object;)Z" } : Jvm.MethodName) jdk_42_method_66_code (3 : Nat) (Option.some Jvm.ClassFile.FieldType.boolean), Jvm.Cond.code ({ cls := "java/lang/StringLatin1", name := "equals", desc := "([B[B)Z" } : Jvm.MethodName) jdk_43_method_13_code (3 : Nat) (Option.some Jvm.ClassFile.FieldType.boolean), Jvm.Cond.code ({ cls := "java/util/Optional", name := "of", desc := "(Ljava/lang/Object;)Ljava/util/Optional;" } : Jvm.MethodName) jdk_32_method_3_code (1 : Nat) (Option.some (Jvm.ClassFile.FieldType.object "java/util/Optional")), Jvm.Cond.code ({ cls := "java/util/Objects", name := "requireNonNull", desc := "(Ljava/lang/Object;)Ljava/lang/Object;" } : Jvm.MethodName) jdk_31_method_10_code (1 : Nat) (Option.some (Jvm.ClassFile.FieldType.object "java/lang/Object")), Jvm.Cond.code ({ cls := "java/util/Optional", name := "<init>", desc := "(Ljava/lang/Object;)V" } : Jvm.MethodName) jdk_32_method_2_code (2 : Nat) (Option.none : Option Jvm.ClassFile.FieldType), Jvm.Cond.code ({ cls := "java/util/Optional", name := "orElse", desc := "(Ljava/lang/Object;)Ljava/lang/Object;" } : Jvm.MethodName) jdk_32_method_15_code (2 : Nat) (Option.some (Jvm.ClassFile.FieldType.object "java/lang/Object")), Jvm.Cond.code ({ cls := "java/util/Optional", name := "empty", desc := "()Ljava/util/Optional;" } : Jvm.MethodName) jdk_32_method_1_code (1 : Nat) (Option.some (Jvm.ClassFile.FieldType.object "java/util/Optional")), Jvm.Cond.code ({ cls := "com/example/gyro/gyro/webhook/EventTypeParsePinLaw", name := "subs", desc := "(ZC)[C" } : Jvm.MethodName) method_3_code (2 : Nat) (Option.some (Jvm.ClassFile.FieldType.array Jvm.ClassFile.FieldType.char))]
set_option maxRecDepth 65536 in
theorem codes_eq : words1.filter isCode = codes1 := rfl
theorem w_codes : ∀ c ∈ words1.filter isCode, c.before args0 about1 = true := by
  rw [codes_eq]
  intro c hc
  simp only [codes1, List.mem_cons, List.not_mem_nil, or_false] at hc
  rcases hc with rfl | rfl | rfl | rfl | rfl | rfl | rfl | rfl | rfl | rfl | rfl | rfl | rfl | rfl | rfl | rfl | rfl | rfl
  · exact w_c0
  · exact w_c1
  · exact w_c2
  · exact w_c3
  · exact w_c4
  · exact w_c5
  · exact w_c6
  · exact w_c7
  · exact w_c8
  · exact w_c9
  · exact w_c10
  · exact w_c11
  · exact w_c12
  · exact w_c13
  · exact w_c14
  · exact w_c15
  · exact w_c16
  · exact w_c17
set_option maxRecDepth 65536 in
theorem w_t1 : (words1.take 24).all (fun c => isCode c || c.before args0 about1) = true := by decide +kernel
set_option maxRecDepth 65536 in
theorem w_t2 : ((words1.drop 24).take 24).all (fun c => isCode c || c.before args0 about1) = true := by decide +kernel
set_option maxRecDepth 65536 in
theorem w_t3 : (((words1.drop 24).drop 24).take 24).all (fun c => isCode c || c.before args0 about1) = true := by decide +kernel
set_option maxRecDepth 65536 in
theorem w_t4 : ((((words1.drop 24).drop 24).drop 24).take 24).all (fun c => isCode c || c.before args0 about1) = true := by decide +kernel
set_option maxRecDepth 65536 in
theorem w_t5 : ((((words1.drop 24).drop 24).drop 24).drop 24).all (fun c => isCode c || c.before args0 about1) = true := by decide +kernel
theorem w_tables : (allAtoms (Jvm.Cond.code x code maxLocals ret :: tables_1)).before args0 about1 = true := by
  rw [allAtoms_all]
  show words1.all (fun c => c.before args0 about1) = true
  refine all_split ?_ w_codes
  rw [← List.take_append_drop 24 words1, List.all_append, w_t1, ← List.take_append_drop 24 (words1.drop 24), List.all_append, w_t2, ← List.take_append_drop 24 ((words1.drop 24).drop 24), List.all_append, w_t3, ← List.take_append_drop 24 (((words1.drop 24).drop 24).drop 24), List.all_append, w_t4, w_t5]
  rfl
set_option maxRecDepth 65536 in
theorem w_rest : rest_1_c.before args0 about1 = true := by decide +kernel
set_option maxRecDepth 65536 in
theorem w_case : (Jvm.Cond.and given_1 narrow_1).before args0 about1 = true := by decide +kernel
set_option maxRecDepth 65536 in
theorem w_consts : constsHeld consts_1 about1 := Jvm.Lit.constsHeldB_iff.mp (by decide +kernel)
theorem w_applies : (headSpec (Jvm.Cond.code x code maxLocals ret :: tables_1) room_1).applies x e0.platform about1 = true :=
  (Spec.applies_iff w_frames).mpr ⟨w_running, w_runnable, w_alone, w_named, w_hears, w_ripe, w_room, w_tables⟩
theorem atStart : AtStart classFile x code maxLocals ret World_1 tables_1 room_1 Calls_1 rest_1 Pre_1 launch0 p0 e0 about1 theMethod args0 below0 :=
  ⟨lists_1, trivial, launch0.admits_env _ _ _, launch0.least_env, fairChoices_fair.cas, fairChoices_fair.clock, w_frames, w_args, w_heap, w_applies, ⟨w_consts, trivial⟩, w_rest, w_case⟩
end start1
theorem witness_1 : WitnessClaimed_1 := ⟨start1.p0, start1.e0, start1.about1, start1.theMethod, start1.args0, start1.below0, start1.atStart⟩
end Jvm.Pilot.@@N@@
