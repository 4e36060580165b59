import JvmDerived
import JvmDerived.Pilot.@@N@@Statement
import JvmDerived.Pilot.@@N@@Code
set_option linter.unusedVariables false
set_option linter.unusedSimpArgs false
namespace Jvm.Pilot.@@N@@
open Jvm Jvm.ClassFile Sem Op Lib Jvm.Free Jvm.Stand Jvm.LawKit Jvm.RoadKit Bundle Jvm.Pilot.@@N@@.Jvm.D
def exB : Bool := true
def kfB : Bool := true
def excC : String := "startbeam/ComponentException"
section GoKit
theorem aN {a b : Addr} (h : a = b) : @Eq Nat a b := h
theorem aL {a : Addr} {n : Nat} (h : a < n) : @LT.lt Nat _ a n := h
theorem aM {a : Addr} {n : Nat} (h : n ≤ a) : @LE.le Nat _ n a := h
abbrev ush (x y : Int32) : Int32 := (x.toUInt32 >>> (y &&& 31).toUInt32).toInt32
abbrev ushL (x : Int64) (y : Int32) : Int64 := (x.toUInt64 >>> (y &&& 0x3f).toInt64.toUInt64).toInt64
/-! The walk's own calculus: a run that stands in a method's body, its heap told by two lists of entries (D: cells of its own, which it may write; S: cells that nobody writes), all else hidden. -/
abbrev Ob : Type := (String × List (String × String × String × Value)) ⊕ (FieldType × List Value)
abbrev Ent : Type := Addr × Ob
/-- where a stack trace is filled in: the tables' methods and the frames beneath are known -/
def Kf (Z : State) (below : List Frame) : Prop := kfB = true → Z.vm.MethodsKnown ∧ Z.vm.FramesKnown below
def KnO (Z : State) (h : Heap) (a : Addr) (C : String) (fs : List (String × String × String × Value)) : Prop :=
  Exa Z h a C ∧ (∀ f ∈ fs, Fld Z h a f.1 f.2.1 f.2.2.1 f.2.2.2) ∧ (fs.map fun f => Jvm.RoadKit.slotOf Z f.1 f.2.1 f.2.2.1).Nodup ∧ (kfB = true → C = excC → Unt h a)
/-- the one class whose arrays are read alone (what an array class lies over is not said of them) -/
def nstC : String := "com/example/gyro/gyro/webhook/EventType"
/-- of the array's class: over C (for stores); a byte array's is '[B', where the claim asks for that -/
def KX (Z : State) (h : Heap) (a : Addr) (cA : ClassId) (ty : FieldType) : Prop := (∀ C, ty = .object C → C ≠ nstC → Ovr Z cA C) ∧ (exB = true → ty = .byte → Exa Z h a "[B")
def KnA (Z : State) (h : Heap) (a : Addr) (ty : FieldType) (vs : List Value) : Prop :=
  ∃ c : Cell, Arr Z h a c ty ∧ c.slots = vs.toArray ∧ vs.length < 2147483648 ∧ (∀ v ∈ vs, fits ty v = true) ∧ KX Z h a c.cls ty
def Kn (Z : State) (h : Heap) (x : Ent) : Prop :=
  match x.2 with
  | .inl o => KnO Z h x.1 o.1 o.2
  | .inr o => KnA Z h x.1 o.1 o.2
theorem KnO.keep {Z : State} {h h' : Heap} {a : Addr} {C : String} {fs : List (String × String × String × Value)} {ws : List Addr} (F : KnO Z h a C fs) (K : Keep h h' ws) (q : a ∉ ws) : KnO Z h' a C fs :=
  ⟨F.1.keep K, fun f hf => (F.2.1 f hf).keep K q, F.2.2.1, fun x y => Unt.keep K q (F.2.2.2 x y)⟩
theorem KnA.keep {Z : State} {h h' : Heap} {a : Addr} {ty : FieldType} {vs : List Value} {ws : List Addr} (F : KnA Z h a ty vs) (K : Keep h h' ws) (q : a ∉ ws) : KnA Z h' a ty vs := by
  obtain ⟨c, A, r1, r2, r3, r4, r5⟩ := F
  exact ⟨c, ⟨K.2.1 a c A.1 q, A.2⟩, r1, r2, r3, r4, fun x y => (r5 x y).keep K⟩
theorem Kn.keep {Z : State} {h h' : Heap} {x : Ent} {ws : List Addr} (F : Kn Z h x) (K : Keep h h' ws) (q : x.1 ∉ ws) : Kn Z h' x := by
  obtain ⟨a, o | o⟩ := x
  · exact KnO.keep (show KnO Z h a o.1 o.2 from F) K q
  · exact KnA.keep (show KnA Z h a o.1 o.2 from F) K q
theorem Kn.lt {Z : State} {h : Heap} {x : Ent} (F : Kn Z h x) : x.1 < h.size := by
  obtain ⟨a, o | o⟩ := x
  · exact (show KnO Z h a o.1 o.2 from F).1.lt
  · obtain ⟨c, A, -⟩ := (show KnA Z h a o.1 o.2 from F)
    exact A.lt
theorem Kn.ext {Z : State} {h h' : Heap} {x : Ent} (F : Kn Z h x) (E : Ext h h') : Kn Z h' x := F.keep ((Keep.refl h []).ext E) (fun q => nomatch q)
def HH (Z : State) (h : Heap) (D S : List Ent) : Prop :=
  (∀ x ∈ D, Kn Z h x) ∧ (∀ x ∈ S, Kn Z h x) ∧ (D.map Prod.fst).Nodup ∧ ∀ x ∈ S, x.1 ∉ D.map Prod.fst
def In (x : Ent) (D S : List Ent) : Prop := x ∈ D ∨ x ∈ S
theorem inD {x : Ent} {D S : List Ent} {i : Nat} (h : D[i]? = some x) : In x D S := Or.inl (List.mem_of_getElem? h)
theorem inS {x : Ent} {D S : List Ent} {i : Nat} (h : S[i]? = some x) : In x D S := Or.inr (List.mem_of_getElem? h)
theorem HH.at {Z : State} {h : Heap} {D S : List Ent} {x : Ent} (H : HH Z h D S) (q : In x D S) : Kn Z h x := q.elim (H.1 x) (H.2.1 x)
def Inv (Z : State) (a0 : Array Value) (EL : List (String × Nat)) (b : Bool) (n0 : Nat) (W0 : List Addr) (fr : Addr → Prop) (D S : List Ent) (s : State) (vm0 : Vm) (h : Heap) (locs : List Loc) : Prop :=
  (EW Z a0 EL ∧ Z.Warmed39 vm0 ∧ (∃ k0, (s.Since vm0 k0 ∧ Old Z n0 s.heap) ∧ k0 ≤ h.size) ∧ (b = false → s.WarmedH vm0)) ∧
  (CHr Z EL s.vm s.heap vm0 h ∧ Fr n0 locs ∧ Old Z n0 h ∧ Keep s.heap h W0) ∧
  HH Z h D S ∧
  (∀ x ∈ D, n0 ≤ x.1 ∧ Safe Z EL vm0 h x.1 ∧ ¬ fr x.1 ∧ (x.1 ∈ W0 ∨ s.heap.size ≤ x.1)) ∧ (∀ x ∈ S, ¬ fr x.1) ∧ (∀ y, fr y → n0 ≤ y ∧ Safe Z EL vm0 h y ∧ y < s.heap.size)
def PreC (Z : State) (a0 : Array Value) (EL : List (String × Nat)) (n0 : Nat) (fr : Addr → Prop) (D S : List Ent) (U : State) : Prop :=
  EW Z a0 EL ∧ Z.Warmed39 U.vm ∧ CHv Z EL U.vm U.heap ∧ Old Z n0 U.heap ∧ HH Z U.heap D S ∧ (∀ x ∈ D, n0 ≤ x.1 ∧ Safe Z EL U.vm U.heap x.1 ∧ ¬ fr x.1) ∧ (∀ x ∈ S, ¬ fr x.1) ∧ (∀ y, fr y → n0 ≤ y ∧ Safe Z EL U.vm U.heap y ∧ y < U.heap.size)
def PostC (Z : State) (EL : List (String × Nat)) (b : Bool) (n0 : Nat) (W0 : List Addr) (fr : Addr → Prop) (Q : Option Value → List Ent → List Ent → Prop) (U U' : State) (v : Option Value) (L : List Loc) : Prop :=
  ∃ D' S', Q v D' S' ∧ HH Z U'.heap D' S' ∧ (∀ x ∈ D', n0 ≤ x.1 ∧ Safe Z EL U'.vm U'.heap x.1 ∧ ¬ fr x.1 ∧ (x.1 ∈ W0 ∨ U.heap.size ≤ x.1)) ∧ (∀ x ∈ S', ¬ fr x.1) ∧
    Keep U.heap U'.heap W0 ∧ Fr n0 L ∧ Old Z n0 U'.heap ∧ CHr Z EL U.vm U.heap U'.vm U'.heap ∧ (b = false → U.WarmedH U'.vm)
def Met (l : Launch) (Z : State) (a0 : Array Value) (EL : List (String × Nat)) (b : Bool) (n0 : Nat) (y : MethodName) (bytes : ByteArray) (maxL : Nat) (ret : Option FieldType) (ws : List Jvm.Cond) (rm : Room) (as' : List Value) (D S : List Ent) (Q : Option Value → List Ent → List Ent → Prop) : Prop :=
  ∀ fr : Addr → Prop, MetFree l y (head1 (Jvm.Cond.code y bytes maxL ret :: ws) rm) (fun a U => a = as'.toArray ∧ PreC Z a0 EL n0 fr D S U) (fun _ _ bl _ _ => Kf Z bl)
    (fun _ U o U' => ∃ v L, o = .returned v ∧ PostC Z EL b n0 (D.map Prod.fst) fr Q U U' v L ∧ ReturnedEndW U o U' L rm.cells rm.slots)
def Sst (Z : State) (own : String) (code : ByteArray) (maxL : Nat) (ret : Option FieldType) (nm : String) (p : Program) (m : MethodId) (meth : Method) (c : Code) (vm0 : Vm) (below : List Frame) : Prop :=
  p.tables.exec = Jvm.exec ∧ c.code = code ∧ c.maxLocals = maxL ∧ meth.sig.returnType = ret ∧ meth.name = nm ∧ (meth.locks = false ∧ Kf Z below) ∧ vm0.findClass own = some m.cls
def Go (l : Launch) (Z : State) (a0 : Array Value) (EL : List (String × Nat)) (b : Bool) (n0 : Nat) (own : String) (code : ByteArray) (maxL : Nat) (ret : Option FieldType) (nm : String) (R : Room) (W0 : List Addr) (Q : Option Value → List Ent → List Ent → Prop)
    (D S : List Ent) (cells slots pc : Nat) (Ls : Array Slot) (st : List Value) : Prop :=
  ∀ (fr : Addr → Prop) (p : Program) (e : Env) (s : State) (m : MethodId) (args : Array Value) (below : List Frame) (meth : Method) (c : Code) (vm0 : Vm) (T : State) (locs : List Loc),
    Sst Z own code maxL ret nm p m meth c vm0 below → Stand p l e R (s.setVm vm0) m args below meth c T locs cells slots → Inv Z a0 EL b n0 W0 fr D S s vm0 T.heap locs →
    ∃ (t : State) (v : Option Value), Steps p.tables e below (T.setTop (mkF m pc Ls st)) t ∧ t.status = .running ∧ Ended t below (.returned v) ∧ ∃ L, PostC Z EL b n0 W0 fr Q s t v L ∧ ReturnedEndW s (.returned v) t L R.cells R.slots
def Dx (code : ByteArray) (pc : Nat) (i : Instr) (n pc' : Nat) : Prop := decode code pc = .ok (i, n) ∧ pc + n = pc'
variable {l : Launch} {Z : State} {a0 : Array Value} {EL : List (String × Nat)} {b : Bool} {n0 : Nat} {own : String} {code : ByteArray} {maxL : Nat} {ret : Option FieldType} {nm : String} {R : Room} {W0 : List Addr} {Q : Option Value → List Ent → List Ent → Prop}
  {D D' S S' : List Ent} {cells slots pc pc' : Nat} {Ls Ls' : Array Slot} {st st' rest : List Value}
theorem Met.of_go {y : MethodName} {bytes : ByteArray} {ws : List Jvm.Cond} {rm : Room} {as' : List Value} (hpf : plainFor y = true) (hL : ∀ m, entryFrame m as'.toArray maxL = mkF m 0 Ls [])
    (G : Go l Z a0 EL b n0 own bytes maxL ret nm rm (D.map Prod.fst) Q D S 0 0 0 Ls []) (ho : y.cls = own := by rfl) (hn : y.name = nm := by rfl) : Met l Z a0 EL b n0 y bytes maxL ret ws rm as' D S Q := by
  subst ho hn
  intro fr
  refine MetFree.of_bodySF hpf hisR ?_
  intro p e s m args below meth c s₁ Bd hml hP hK
  obtain ⟨rfl, q1, q2, q3, q4, q5, q6, q7, q8⟩ := hP
  have X0 : Stand p l e rm s m as'.toArray below meth c s₁ [] 0 0 := Stand.of_body Bd
  have e0 : s₁.heap = s.heap := by rw [Bd.state]; rfl
  obtain ⟨t, v, st, h1, h2, L, hp, hr⟩ := G fr p e s m _ below meth c s.vm s₁ [] ⟨Bd.exec, Bd.bytes, hml, Bd.returns, (name_of_methodNamed Bd.named Bd.method).1, ⟨Bd.notSynchronized, hK⟩, findClass_of_methodNamed Bd.named⟩ X0
    (by
      rw [e0]
      exact ⟨⟨q1, q2, ⟨s.heap.size, ⟨(State.WarmedH.refl s).since _, q4⟩, Nat.le_refl _⟩, fun _ => State.WarmedH.refl s⟩, ⟨CHr.refl q3, Fr.nil _, q4, Keep.refl _ _⟩, q5, fun x hx => ⟨(q6 x hx).1, (q6 x hx).2.1, (q6 x hx).2.2, Or.inl (List.mem_map.mpr ⟨x, hx, rfl⟩)⟩, q7, q8⟩)
  exact ⟨t, _, castTop (hL m) st, h1, h2, v, L, rfl, hp, hr⟩
/-- a step that leaves the heap as it is -/
theorem Go.same (H : ∀ {p : Program} {e : Env} {s : State} {m : MethodId} {args : Array Value} {below : List Frame} {meth : Method} {c : Code} {vm0 : Vm} {T : State} {locs : List Loc}, Sst Z own code maxL ret nm p m meth c vm0 below → Stand p l e R (s.setVm vm0) m args below meth c T locs cells slots → Z.Warmed39 (s.setVm vm0).vm → Old Z n0 T.heap → HH Z T.heap D S →
      ∃ T', Stand p l e R (s.setVm vm0) m args below meth c T' locs cells slots ∧ T'.heap = T.heap ∧ ∀ t, Steps p.tables e below (T'.setTop (mkF m pc' Ls' st')) t → Steps p.tables e below (T.setTop (mkF m pc Ls st)) t)
    (G : Go l Z a0 EL b n0 own code maxL ret nm R W0 Q D S cells slots pc' Ls' st') : Go l Z a0 EL b n0 own code maxL ret nm R W0 Q D S cells slots pc Ls st := by
  intro fr p e s m args below meth c vm0 T locs hs X I
  obtain ⟨T', X', e', k⟩ := H hs X I.1.2.1 I.2.1.2.2.1 I.2.2.1
  obtain ⟨t, v, k', r⟩ := G fr p e s m args below meth c vm0 T' locs hs X' (by rw [e']; exact I)
  exact ⟨t, v, k t k', r⟩
/-- a step that reads frames alone -/
theorem Go.plain (H : ∀ {p : Program} {e : Env} {m : MethodId} {c : Code} {below : List Frame} {T : State}, p.tables.exec = Jvm.exec → c.code = code → At T m c below → ∀ t, Steps p.tables e below (T.setTop (mkF m pc' Ls' st')) t → Steps p.tables e below (T.setTop (mkF m pc Ls st)) t)
    (G : Go l Z a0 EL b n0 own code maxL ret nm R W0 Q D S cells slots pc' Ls' st') : Go l Z a0 EL b n0 own code maxL ret nm R W0 Q D S cells slots pc Ls st :=
  Go.same (fun hs X _ _ _ => ⟨_, X, rfl, H hs.1 hs.2.1 X.here⟩) G
theorem Go.more {cells' slots' : Nat} (hc : cells ≤ cells') (hs : slots ≤ slots') (G : Go l Z a0 EL b n0 own code maxL ret nm R W0 Q D S cells' slots' pc Ls st) : Go l Z a0 EL b n0 own code maxL ret nm R W0 Q D S cells slots pc Ls st := by
  intro fr p e s m args below meth c vm0 T locs h X I
  exact G fr p e s m args below meth c vm0 T locs h (X.mono hc hs) I
/-- less is known -/
theorem HH.sub {h : Heap} (H : HH Z h D S) (h1 : ∀ x ∈ D', x ∈ D) (h2 : (D'.map Prod.fst).Nodup) (h3 : ∀ x ∈ S', x ∈ S ∨ (x ∈ D ∧ x.1 ∉ D'.map Prod.fst)) : HH Z h D' S' := by
  refine ⟨fun x hx => H.1 x (h1 x hx), fun x hx => ?_, h2, fun x hx q => ?_⟩
  · rcases h3 x hx with q | ⟨q, -⟩
    · exact H.2.1 x q
    · exact H.1 x q
  · rcases h3 x hx with r | ⟨-, r⟩
    · obtain ⟨y, hy, e⟩ := List.mem_map.mp q
      exact H.2.2.2 x r (List.mem_map.mpr ⟨y, h1 y hy, e⟩)
    · exact r q
theorem nodup_pick {α : Type} (dv : α) {L : List α} (hn : L.Nodup) {idx : List Nat} (h1 : idx.Nodup) (h2 : ∀ i ∈ idx, i < L.length) : (idx.map fun i => L.getD i dv).Nodup := by
  induction idx with
  | nil => simp
  | cons i r ih =>
    rw [List.map_cons, List.nodup_cons]
    rw [List.nodup_cons] at h1
    refine ⟨fun q => ?_, ih h1.2 fun j hj => h2 j (List.mem_cons_of_mem _ hj)⟩
    obtain ⟨j, hj, e⟩ := List.mem_map.mp q
    have hi := h2 i (List.mem_cons_self ..)
    have hj' := h2 j (List.mem_cons_of_mem _ hj)
    have : j = i := by
      refine (List.getElem?_inj hj' hn).mp ?_
      rw [List.getElem?_eq_getElem hj', List.getElem?_eq_getElem hi]
      simpa [List.getD, List.getElem?_eq_getElem hj', List.getElem?_eq_getElem hi] using e
    exact h1.1 (this ▸ hj)
def dE : Ent := (0, .inr (.int, []))
def pick (D : List Ent) (idx : List Nat) : List Ent := idx.map fun i => D.getD i dE
theorem pick_mem {D : List Ent} {idx : List Nat} (h2 : ∀ i ∈ idx, i < D.length) : ∀ x ∈ pick D idx, x ∈ D := fun x hx => by
  obtain ⟨i, hi, rfl⟩ := List.mem_map.mp hx
  have := h2 i hi
  simp [List.getD, List.getElem?_eq_getElem this]
theorem pick_nodup {D : List Ent} (hn : (D.map Prod.fst).Nodup) {idx : List Nat} (h1 : idx.Nodup) (h2 : ∀ i ∈ idx, i < D.length) : ((pick D idx).map Prod.fst).Nodup := by
  have e : (pick D idx).map Prod.fst = idx.map fun i => (D.map Prod.fst).getD i 0 := by
    rw [pick, List.map_map]
    refine List.map_congr_left fun i hi => ?_
    have := h2 i hi
    simp [List.getD, List.getElem?_eq_getElem this]
  rw [e]
  exact nodup_pick 0 hn h1 (by simpa using h2)
/-- forget, order anew, freeze -/
theorem Go.sub (idx : List Nat) (h1 : idx.Nodup) (h2' : (idx.all fun i => Nat.blt i D.length) = true) (hD : D' = pick D idx) (h3 : ∀ x ∈ S', x ∈ S ∨ (x ∈ D ∧ x.1 ∉ D'.map Prod.fst))
    (G : Go l Z a0 EL b n0 own code maxL ret nm R W0 Q D' S' cells slots pc Ls st) : Go l Z a0 EL b n0 own code maxL ret nm R W0 Q D S cells slots pc Ls st := by
  have h2 : ∀ i ∈ idx, i < D.length := fun i hi => Nat.blt_eq.mp (List.all_eq_true.mp h2' i hi)
  intro fr p e s m args below meth c vm0 T locs h X I
  obtain ⟨i1, i2, i3, i4, i5, i6⟩ := I
  have hm : ∀ x ∈ D', x ∈ D := by rw [hD]; exact pick_mem h2
  refine G fr p e s m args below meth c vm0 T locs h X ⟨i1, i2, i3.sub hm (by rw [hD]; exact pick_nodup i3.2.2.1 h1 h2) h3, fun x hx => i4 x (hm x hx), fun x hx => ?_, i6⟩
  rcases h3 x hx with q | ⟨q, -⟩
  · exact i5 x q
  · exact (i4 x q).2.2.1
/-- forget and order anew, D alone -/
theorem Go.perm (idx : List Nat) (h1 : idx.Nodup) (h2 : (idx.all fun i => Nat.blt i D.length) = true) (hD : D' = pick D idx)
    (G : Go l Z a0 EL b n0 own code maxL ret nm R W0 Q D' S cells slots pc Ls st) : Go l Z a0 EL b n0 own code maxL ret nm R W0 Q D S cells slots pc Ls st :=
  Go.sub idx h1 h2 hD (fun x hx => Or.inl hx) G
/-- two own cells are two -/
theorem Go.ne (i j : Nat) {x y : Ent} (hi : D[i]? = some x) (hj : D[j]? = some y) (hij : i ≠ j) (G : x.1 ≠ y.1 → Go l Z a0 EL b n0 own code maxL ret nm R W0 Q D S cells slots pc Ls st) : Go l Z a0 EL b n0 own code maxL ret nm R W0 Q D S cells slots pc Ls st := by
  intro fr p e s m args below meth c vm0 T locs h X I
  refine G (fun q => hij ?_) fr p e s m args below meth c vm0 T locs h X I
  have hn := I.2.2.1.2.2.1
  have li : i < (D.map Prod.fst).length := by simpa using (List.getElem?_eq_some_iff.mp hi).1
  refine (List.getElem?_inj li hn).mp ?_
  simp [hi, hj, q]
/-- an own cell and a frozen one are two -/
theorem Go.neS {x y : Ent} (hi : x ∈ D) (hj : y ∈ S) (G : x.1 ≠ y.1 → Go l Z a0 EL b n0 own code maxL ret nm R W0 Q D S cells slots pc Ls st) : Go l Z a0 EL b n0 own code maxL ret nm R W0 Q D S cells slots pc Ls st := by
  intro fr p e s m args below meth c vm0 T locs h X I
  exact G (fun q => I.2.2.1.2.2.2 y hj (List.mem_map.mpr ⟨x, hi, q⟩)) fr p e s m args below meth c vm0 T locs h X I
/-- a cell of the start's heap, taken up as frozen -/
theorem Go.old {x : Ent} (F : Kn Z Z.heap x) (G : Go l Z a0 EL b n0 own code maxL ret nm R W0 Q D (x :: S) cells slots pc Ls st) : Go l Z a0 EL b n0 own code maxL ret nm R W0 Q D S cells slots pc Ls st := by
  intro fr p e s m args below meth c vm0 T locs h X I
  obtain ⟨i1, i2, i3, i4, i5, i6⟩ := I
  have hO := i2.2.2.1
  have hlt : x.1 < n0 := hO.1 ▸ F.lt
  refine G fr p e s m args below meth c vm0 T locs h X ⟨i1, i2, ⟨i3.1, fun y hy => ?_, i3.2.2.1, fun y hy => ?_⟩, i4, fun y hy => ?_, i6⟩
  · rcases List.mem_cons.mp hy with rfl | hy
    · exact F.ext hO.2
    · exact i3.2.1 y hy
  · rcases List.mem_cons.mp hy with rfl | hy
    · intro q
      obtain ⟨z, hz, e⟩ := List.mem_map.mp q
      exact absurd (Nat.lt_of_lt_of_le hlt (i4 z hz).1) (by rw [e]; exact Nat.lt_irrefl _)
    · exact i3.2.2.2 y hy
  · rcases List.mem_cons.mp hy with rfl | hy
    · intro q
      exact absurd (Nat.lt_of_lt_of_le hlt (i6 _ q).1) (Nat.lt_irrefl _)
    · exact i5 y hy
/-! the plain steps -/
theorem Go.aloadN {k : Fin 4} {v : Value} (hd : Dx code pc (.aload_n k) 1 pc') (hl : Ls[k.val]? = some (.val v)) (hv : v.isRef = true := by rfl) (G : Go l Z a0 EL b n0 own code maxL ret nm R W0 Q D S cells slots pc' Ls (v :: st)) : Go l Z a0 EL b n0 own code maxL ret nm R W0 Q D S cells slots pc Ls (st) := by
  obtain ⟨h1, rfl⟩ := hd
  exact Go.plain (fun hx hc h t k => XS.aloadN h hx rfl (hb hc h1) hl hv k) G
theorem Go.aload {k : Nat} {v : Value} (hd : Dx code pc (.aload k) 2 pc') (hl : Ls[k]? = some (.val v)) (hv : v.isRef = true := by rfl) (G : Go l Z a0 EL b n0 own code maxL ret nm R W0 Q D S cells slots pc' Ls (v :: st)) : Go l Z a0 EL b n0 own code maxL ret nm R W0 Q D S cells slots pc Ls (st) := by
  obtain ⟨h1, rfl⟩ := hd
  exact Go.plain (fun hx hc h t k => XS.aload h hx rfl (hb hc h1) hl hv k) G
theorem Go.iloadN {k : Fin 4} {v : Int32} (hd : Dx code pc (.iload_n k) 1 pc') (hl : Ls[k.val]? = some (.val (.int v))) (G : Go l Z a0 EL b n0 own code maxL ret nm R W0 Q D S cells slots pc' Ls (.int v :: st)) : Go l Z a0 EL b n0 own code maxL ret nm R W0 Q D S cells slots pc Ls (st) := by
  obtain ⟨h1, rfl⟩ := hd
  exact Go.plain (fun hx hc h t k => XS.iloadN h hx rfl (hb hc h1) hl k) G
theorem Go.iload {k : Nat} {v : Int32} (hd : Dx code pc (.iload k) 2 pc') (hl : Ls[k]? = some (.val (.int v))) (G : Go l Z a0 EL b n0 own code maxL ret nm R W0 Q D S cells slots pc' Ls (.int v :: st)) : Go l Z a0 EL b n0 own code maxL ret nm R W0 Q D S cells slots pc Ls (st) := by
  obtain ⟨h1, rfl⟩ := hd
  exact Go.plain (fun hx hc h t k => XS.iload h hx rfl (hb hc h1) hl k) G
theorem Go.lloadN {k : Fin 4} {v : Int64} (hd : Dx code pc (.lload_n k) 1 pc') (hl : Ls[k.val]? = some (.val (.long v))) (G : Go l Z a0 EL b n0 own code maxL ret nm R W0 Q D S cells slots pc' Ls (.long v :: st)) : Go l Z a0 EL b n0 own code maxL ret nm R W0 Q D S cells slots pc Ls (st) := by
  obtain ⟨h1, rfl⟩ := hd
  exact Go.plain (fun hx hc h t k => XS.lloadN h hx rfl (hb hc h1) hl k) G
theorem Go.lload {k : Nat} {v : Int64} (hd : Dx code pc (.lload k) 2 pc') (hl : Ls[k]? = some (.val (.long v))) (G : Go l Z a0 EL b n0 own code maxL ret nm R W0 Q D S cells slots pc' Ls (.long v :: st)) : Go l Z a0 EL b n0 own code maxL ret nm R W0 Q D S cells slots pc Ls (st) := by
  obtain ⟨h1, rfl⟩ := hd
  exact Go.plain (fun hx hc h t k => XS.lload h hx rfl (hb hc h1) hl k) G
theorem Go.iconst {i : Int} {v : Int32} (hd : Dx code pc (.iconst i) 1 pc') (hv : Int32.ofInt i = v) (G : Go l Z a0 EL b n0 own code maxL ret nm R W0 Q D S cells slots pc' Ls (.int v :: st)) : Go l Z a0 EL b n0 own code maxL ret nm R W0 Q D S cells slots pc Ls (st) := by
  obtain ⟨h1, rfl⟩ := hd
  exact Go.plain (fun hx hc h t k => XS.iconst h hx rfl (hb hc h1) (by rw [hv]; exact k)) G
theorem Go.bipush {i : Int} {v : Int32} (hd : Dx code pc (.bipush i) 2 pc') (hv : (Int8.ofInt i).toInt32 = v) (G : Go l Z a0 EL b n0 own code maxL ret nm R W0 Q D S cells slots pc' Ls (.int v :: st)) : Go l Z a0 EL b n0 own code maxL ret nm R W0 Q D S cells slots pc Ls (st) := by
  obtain ⟨h1, rfl⟩ := hd
  exact Go.plain (fun hx hc h t k => XS.bipush h hx rfl (hb hc h1) (by rw [hv]; exact k)) G
theorem Go.sipush {i : Int} {v : Int32} (hd : Dx code pc (.sipush i) 3 pc') (hv : (Int16.ofInt i).toInt32 = v) (G : Go l Z a0 EL b n0 own code maxL ret nm R W0 Q D S cells slots pc' Ls (.int v :: st)) : Go l Z a0 EL b n0 own code maxL ret nm R W0 Q D S cells slots pc Ls (st) := by
  obtain ⟨h1, rfl⟩ := hd
  exact Go.plain (fun hx hc h t k => XT.sipushV h hx rfl v (hb hc h1) hv k) G
theorem Go.lconst {i : Fin 2} {v : Int64} (hd : Dx code pc (.lconst i) 1 pc') (hv : Int64.ofNat i = v) (G : Go l Z a0 EL b n0 own code maxL ret nm R W0 Q D S cells slots pc' Ls (.long v :: st)) : Go l Z a0 EL b n0 own code maxL ret nm R W0 Q D S cells slots pc Ls (st) := by
  obtain ⟨h1, rfl⟩ := hd
  exact Go.plain (fun hx hc h t k => XT.lconstV h hx rfl v (hb hc h1) hv k) G
theorem Go.aconstNull (hd : Dx code pc (.aconst_null) 1 pc') (G : Go l Z a0 EL b n0 own code maxL ret nm R W0 Q D S cells slots pc' Ls (.null :: st)) : Go l Z a0 EL b n0 own code maxL ret nm R W0 Q D S cells slots pc Ls (st) := by
  obtain ⟨h1, rfl⟩ := hd
  exact Go.plain (fun hx hc h t k => XS.aconstNull h hx rfl (hb hc h1) k) G
theorem Go.istoreN {k : Fin 4} {x : Int32} (hd : Dx code pc (.istore_n k) 1 pc') (hl : storeLocals Ls k.val (.int x) = some Ls') (G : Go l Z a0 EL b n0 own code maxL ret nm R W0 Q D S cells slots pc' Ls' (rest)) : Go l Z a0 EL b n0 own code maxL ret nm R W0 Q D S cells slots pc Ls (.int x :: rest) := by
  obtain ⟨h1, rfl⟩ := hd
  exact Go.plain (fun hx hc h t k => XS.istoreN h hx rfl (hb hc h1) rfl hl k) G
theorem Go.istore {k : Nat} {x : Int32} (hd : Dx code pc (.istore k) 2 pc') (hl : storeLocals Ls k (.int x) = some Ls') (G : Go l Z a0 EL b n0 own code maxL ret nm R W0 Q D S cells slots pc' Ls' (rest)) : Go l Z a0 EL b n0 own code maxL ret nm R W0 Q D S cells slots pc Ls (.int x :: rest) := by
  obtain ⟨h1, rfl⟩ := hd
  exact Go.plain (fun hx hc h t k => XS.istore h hx rfl (hb hc h1) rfl hl k) G
theorem Go.lstoreN {k : Fin 4} {x : Int64} (hd : Dx code pc (.lstore_n k) 1 pc') (hl : storeLocals Ls k.val (.long x) = some Ls') (G : Go l Z a0 EL b n0 own code maxL ret nm R W0 Q D S cells slots pc' Ls' (rest)) : Go l Z a0 EL b n0 own code maxL ret nm R W0 Q D S cells slots pc Ls (.long x :: rest) := by
  obtain ⟨h1, rfl⟩ := hd
  exact Go.plain (fun hx hc h t k => XS.lstoreN h hx rfl (hb hc h1) rfl hl k) G
theorem Go.lstore {k : Nat} {x : Int64} (hd : Dx code pc (.lstore k) 2 pc') (hl : storeLocals Ls k (.long x) = some Ls') (G : Go l Z a0 EL b n0 own code maxL ret nm R W0 Q D S cells slots pc' Ls' (rest)) : Go l Z a0 EL b n0 own code maxL ret nm R W0 Q D S cells slots pc Ls (.long x :: rest) := by
  obtain ⟨h1, rfl⟩ := hd
  exact Go.plain (fun hx hc h t k => XS.lstore h hx rfl (hb hc h1) rfl hl k) G
theorem Go.astoreN {k : Fin 4} {x : Value} (hd : Dx code pc (.astore_n k) 1 pc') (hl : storeLocals Ls k.val x = some Ls') (hv : x.isRef = true := by rfl) (G : Go l Z a0 EL b n0 own code maxL ret nm R W0 Q D S cells slots pc' Ls' (rest)) : Go l Z a0 EL b n0 own code maxL ret nm R W0 Q D S cells slots pc Ls (x :: rest) := by
  obtain ⟨h1, rfl⟩ := hd
  exact Go.plain (fun hx hc h t k => XS.astoreN h hx rfl (hb hc h1) rfl hv hl k) G
theorem Go.astore {k : Nat} {x : Value} (hd : Dx code pc (.astore k) 2 pc') (hl : storeLocals Ls k x = some Ls') (hv : x.isRef = true := by rfl) (G : Go l Z a0 EL b n0 own code maxL ret nm R W0 Q D S cells slots pc' Ls' (rest)) : Go l Z a0 EL b n0 own code maxL ret nm R W0 Q D S cells slots pc Ls (x :: rest) := by
  obtain ⟨h1, rfl⟩ := hd
  exact Go.plain (fun hx hc h t k => XS.astore h hx rfl (hb hc h1) rfl hv hl k) G
theorem Go.iinc {i : Nat} {cst : Int} {x v z : Int32} (hd : Dx code pc (.iinc i cst) 3 pc') (hl : Ls[i]? = some (.val (.int x))) (hv : Int32.ofInt cst = v) (hz : x + v = z) (hl' : storeLocals Ls i (.int z) = some Ls') (G : Go l Z a0 EL b n0 own code maxL ret nm R W0 Q D S cells slots pc' Ls' (st)) : Go l Z a0 EL b n0 own code maxL ret nm R W0 Q D S cells slots pc Ls (st) := by
  obtain ⟨h1, rfl⟩ := hd
  subst hz
  exact Go.plain (fun hx hc h t k => XT.iincV h hx rfl v (hb hc h1) hv hl hl' k) G
theorem Go.iadd {x y z : Int32} (hd : Dx code pc (.iadd) 1 pc') (hz : x + y = z) (G : Go l Z a0 EL b n0 own code maxL ret nm R W0 Q D S cells slots pc' Ls (.int z :: rest)) : Go l Z a0 EL b n0 own code maxL ret nm R W0 Q D S cells slots pc Ls (.int y :: .int x :: rest) := by
  obtain ⟨h1, rfl⟩ := hd
  subst hz
  exact Go.plain (fun hx hc h t k => XS.iadd h hx rfl (hb hc h1) rfl k) G
theorem Go.isub {x y z : Int32} (hd : Dx code pc (.isub) 1 pc') (hz : x - y = z) (G : Go l Z a0 EL b n0 own code maxL ret nm R W0 Q D S cells slots pc' Ls (.int z :: rest)) : Go l Z a0 EL b n0 own code maxL ret nm R W0 Q D S cells slots pc Ls (.int y :: .int x :: rest) := by
  obtain ⟨h1, rfl⟩ := hd
  subst hz
  exact Go.plain (fun hx hc h t k => XS.isub h hx rfl (hb hc h1) rfl k) G
theorem Go.imul {x y z : Int32} (hd : Dx code pc (.imul) 1 pc') (hz : x * y = z) (G : Go l Z a0 EL b n0 own code maxL ret nm R W0 Q D S cells slots pc' Ls (.int z :: rest)) : Go l Z a0 EL b n0 own code maxL ret nm R W0 Q D S cells slots pc Ls (.int y :: .int x :: rest) := by
  obtain ⟨h1, rfl⟩ := hd
  subst hz
  exact Go.plain (fun hx hc h t k => XS.imul h hx rfl (hb hc h1) rfl k) G
theorem Go.iand {x y z : Int32} (hd : Dx code pc (.iand) 1 pc') (hz : x &&& y = z) (G : Go l Z a0 EL b n0 own code maxL ret nm R W0 Q D S cells slots pc' Ls (.int z :: rest)) : Go l Z a0 EL b n0 own code maxL ret nm R W0 Q D S cells slots pc Ls (.int y :: .int x :: rest) := by
  obtain ⟨h1, rfl⟩ := hd
  subst hz
  exact Go.plain (fun hx hc h t k => XS.iand h hx rfl (hb hc h1) rfl k) G
theorem Go.ior {x y z : Int32} (hd : Dx code pc (.ior) 1 pc') (hz : x ||| y = z) (G : Go l Z a0 EL b n0 own code maxL ret nm R W0 Q D S cells slots pc' Ls (.int z :: rest)) : Go l Z a0 EL b n0 own code maxL ret nm R W0 Q D S cells slots pc Ls (.int y :: .int x :: rest) := by
  obtain ⟨h1, rfl⟩ := hd
  subst hz
  exact Go.plain (fun hx hc h t k => XS.ior h hx rfl (hb hc h1) rfl k) G
theorem Go.ixor {x y z : Int32} (hd : Dx code pc (.ixor) 1 pc') (hz : x ^^^ y = z) (G : Go l Z a0 EL b n0 own code maxL ret nm R W0 Q D S cells slots pc' Ls (.int z :: rest)) : Go l Z a0 EL b n0 own code maxL ret nm R W0 Q D S cells slots pc Ls (.int y :: .int x :: rest) := by
  obtain ⟨h1, rfl⟩ := hd
  subst hz
  exact Go.plain (fun hx hc h t k => XS.ixor h hx rfl (hb hc h1) rfl k) G
theorem Go.ishl {x y z : Int32} (hd : Dx code pc (.ishl) 1 pc') (hz : x <<< (y &&& 31) = z) (G : Go l Z a0 EL b n0 own code maxL ret nm R W0 Q D S cells slots pc' Ls (.int z :: rest)) : Go l Z a0 EL b n0 own code maxL ret nm R W0 Q D S cells slots pc Ls (.int y :: .int x :: rest) := by
  obtain ⟨h1, rfl⟩ := hd
  subst hz
  exact Go.plain (fun hx hc h t k => XS.ishl h hx rfl (hb hc h1) rfl k) G
theorem Go.ishr {x y z : Int32} (hd : Dx code pc (.ishr) 1 pc') (hz : x >>> (y &&& 31) = z) (G : Go l Z a0 EL b n0 own code maxL ret nm R W0 Q D S cells slots pc' Ls (.int z :: rest)) : Go l Z a0 EL b n0 own code maxL ret nm R W0 Q D S cells slots pc Ls (.int y :: .int x :: rest) := by
  obtain ⟨h1, rfl⟩ := hd
  subst hz
  exact Go.plain (fun hx hc h t k => XS.ishr h hx rfl (hb hc h1) rfl k) G
theorem Go.iushr {x y z : Int32} (hd : Dx code pc (.iushr) 1 pc') (hz : ush x y = z) (G : Go l Z a0 EL b n0 own code maxL ret nm R W0 Q D S cells slots pc' Ls (.int z :: rest)) : Go l Z a0 EL b n0 own code maxL ret nm R W0 Q D S cells slots pc Ls (.int y :: .int x :: rest) := by
  obtain ⟨h1, rfl⟩ := hd
  subst hz
  exact Go.plain (fun hx hc h t k => XS.iushr h hx rfl (hb hc h1) rfl k) G
theorem Go.ladd {x y z : Int64} (hd : Dx code pc (.ladd) 1 pc') (hz : x + y = z) (G : Go l Z a0 EL b n0 own code maxL ret nm R W0 Q D S cells slots pc' Ls (.long z :: rest)) : Go l Z a0 EL b n0 own code maxL ret nm R W0 Q D S cells slots pc Ls (.long y :: .long x :: rest) := by
  obtain ⟨h1, rfl⟩ := hd
  subst hz
  exact Go.plain (fun hx hc h t k => XS.ladd h hx rfl (hb hc h1) rfl k) G
theorem Go.lsub {x y z : Int64} (hd : Dx code pc (.lsub) 1 pc') (hz : x - y = z) (G : Go l Z a0 EL b n0 own code maxL ret nm R W0 Q D S cells slots pc' Ls (.long z :: rest)) : Go l Z a0 EL b n0 own code maxL ret nm R W0 Q D S cells slots pc Ls (.long y :: .long x :: rest) := by
  obtain ⟨h1, rfl⟩ := hd
  subst hz
  exact Go.plain (fun hx hc h t k => XS.lsub h hx rfl (hb hc h1) rfl k) G
theorem Go.lmul {x y z : Int64} (hd : Dx code pc (.lmul) 1 pc') (hz : x * y = z) (G : Go l Z a0 EL b n0 own code maxL ret nm R W0 Q D S cells slots pc' Ls (.long z :: rest)) : Go l Z a0 EL b n0 own code maxL ret nm R W0 Q D S cells slots pc Ls (.long y :: .long x :: rest) := by
  obtain ⟨h1, rfl⟩ := hd
  subst hz
  exact Go.plain (fun hx hc h t k => XS.lmul h hx rfl (hb hc h1) rfl k) G
theorem Go.land {x y z : Int64} (hd : Dx code pc (.land) 1 pc') (hz : x &&& y = z) (G : Go l Z a0 EL b n0 own code maxL ret nm R W0 Q D S cells slots pc' Ls (.long z :: rest)) : Go l Z a0 EL b n0 own code maxL ret nm R W0 Q D S cells slots pc Ls (.long y :: .long x :: rest) := by
  obtain ⟨h1, rfl⟩ := hd
  subst hz
  exact Go.plain (fun hx hc h t k => XS.land h hx rfl (hb hc h1) rfl k) G
theorem Go.lor {x y z : Int64} (hd : Dx code pc (.lor) 1 pc') (hz : x ||| y = z) (G : Go l Z a0 EL b n0 own code maxL ret nm R W0 Q D S cells slots pc' Ls (.long z :: rest)) : Go l Z a0 EL b n0 own code maxL ret nm R W0 Q D S cells slots pc Ls (.long y :: .long x :: rest) := by
  obtain ⟨h1, rfl⟩ := hd
  subst hz
  exact Go.plain (fun hx hc h t k => XS.lor h hx rfl (hb hc h1) rfl k) G
theorem Go.lxor {x y z : Int64} (hd : Dx code pc (.lxor) 1 pc') (hz : x ^^^ y = z) (G : Go l Z a0 EL b n0 own code maxL ret nm R W0 Q D S cells slots pc' Ls (.long z :: rest)) : Go l Z a0 EL b n0 own code maxL ret nm R W0 Q D S cells slots pc Ls (.long y :: .long x :: rest) := by
  obtain ⟨h1, rfl⟩ := hd
  subst hz
  exact Go.plain (fun hx hc h t k => XS.lxor h hx rfl (hb hc h1) rfl k) G
theorem Go.lshl {x z : Int64} {y : Int32} (hd : Dx code pc (.lshl) 1 pc') (hz : x <<< (y &&& 0x3f).toInt64 = z) (G : Go l Z a0 EL b n0 own code maxL ret nm R W0 Q D S cells slots pc' Ls (.long z :: rest)) : Go l Z a0 EL b n0 own code maxL ret nm R W0 Q D S cells slots pc Ls (.int y :: .long x :: rest) := by
  obtain ⟨h1, rfl⟩ := hd
  subst hz
  exact Go.plain (fun hx hc h t k => XS.lshl h hx rfl (hb hc h1) rfl k) G
theorem Go.lshr {x z : Int64} {y : Int32} (hd : Dx code pc (.lshr) 1 pc') (hz : x >>> (y &&& 0x3f).toInt64 = z) (G : Go l Z a0 EL b n0 own code maxL ret nm R W0 Q D S cells slots pc' Ls (.long z :: rest)) : Go l Z a0 EL b n0 own code maxL ret nm R W0 Q D S cells slots pc Ls (.int y :: .long x :: rest) := by
  obtain ⟨h1, rfl⟩ := hd
  subst hz
  exact Go.plain (fun hx hc h t k => XS.lshr h hx rfl (hb hc h1) rfl k) G
theorem Go.lushr {x z : Int64} {y : Int32} (hd : Dx code pc (.lushr) 1 pc') (hz : ushL x y = z) (G : Go l Z a0 EL b n0 own code maxL ret nm R W0 Q D S cells slots pc' Ls (.long z :: rest)) : Go l Z a0 EL b n0 own code maxL ret nm R W0 Q D S cells slots pc Ls (.int y :: .long x :: rest) := by
  obtain ⟨h1, rfl⟩ := hd
  subst hz
  exact Go.plain (fun hx hc h t k => XS.lushr h hx rfl (hb hc h1) rfl k) G
theorem Go.lcmp {x y : Int64} {z : Int32} (hd : Dx code pc (.lcmp) 1 pc') (hz : lcmpW x y = z) (G : Go l Z a0 EL b n0 own code maxL ret nm R W0 Q D S cells slots pc' Ls (.int z :: rest)) : Go l Z a0 EL b n0 own code maxL ret nm R W0 Q D S cells slots pc Ls (.long y :: .long x :: rest) := by
  obtain ⟨h1, rfl⟩ := hd
  subst hz
  exact Go.plain (fun hx hc h t k => XS.lcmp h hx rfl (hb hc h1) rfl k) G
theorem Go.idiv {x y z : Int32} (hd : Dx code pc (.idiv) 1 pc') (hy : y ≠ 0) (hz : x / y = z) (G : Go l Z a0 EL b n0 own code maxL ret nm R W0 Q D S cells slots pc' Ls (.int z :: rest)) : Go l Z a0 EL b n0 own code maxL ret nm R W0 Q D S cells slots pc Ls (.int y :: .int x :: rest) := by
  obtain ⟨h1, rfl⟩ := hd
  subst hz
  exact Go.plain (fun hx hc h t k => XS.idiv h hx rfl (hb hc h1) rfl hy k) G
theorem Go.ldiv {x y z : Int64} (hd : Dx code pc (.ldiv) 1 pc') (hy : y ≠ 0) (hz : x / y = z) (G : Go l Z a0 EL b n0 own code maxL ret nm R W0 Q D S cells slots pc' Ls (.long z :: rest)) : Go l Z a0 EL b n0 own code maxL ret nm R W0 Q D S cells slots pc Ls (.long y :: .long x :: rest) := by
  obtain ⟨h1, rfl⟩ := hd
  subst hz
  exact Go.plain (fun hx hc h t k => XT.ldiv h hx rfl (hb hc h1) rfl hy k) G
theorem Go.ineg {x z : Int32} (hd : Dx code pc (.ineg) 1 pc') (hz : -x = z) (G : Go l Z a0 EL b n0 own code maxL ret nm R W0 Q D S cells slots pc' Ls (.int z :: rest)) : Go l Z a0 EL b n0 own code maxL ret nm R W0 Q D S cells slots pc Ls (.int x :: rest) := by
  obtain ⟨h1, rfl⟩ := hd
  subst hz
  exact Go.plain (fun hx hc h t k => XS.ineg h hx rfl (hb hc h1) rfl k) G
theorem Go.lneg {x z : Int64} (hd : Dx code pc (.lneg) 1 pc') (hz : -x = z) (G : Go l Z a0 EL b n0 own code maxL ret nm R W0 Q D S cells slots pc' Ls (.long z :: rest)) : Go l Z a0 EL b n0 own code maxL ret nm R W0 Q D S cells slots pc Ls (.long x :: rest) := by
  obtain ⟨h1, rfl⟩ := hd
  subst hz
  exact Go.plain (fun hx hc h t k => XS.lneg h hx rfl (hb hc h1) rfl k) G
theorem Go.i2l {x : Int32} {z : Int64} (hd : Dx code pc (.i2l) 1 pc') (hz : x.toInt64 = z) (G : Go l Z a0 EL b n0 own code maxL ret nm R W0 Q D S cells slots pc' Ls (.long z :: rest)) : Go l Z a0 EL b n0 own code maxL ret nm R W0 Q D S cells slots pc Ls (.int x :: rest) := by
  obtain ⟨h1, rfl⟩ := hd
  subst hz
  exact Go.plain (fun hx hc h t k => XS.i2l h hx rfl (hb hc h1) rfl k) G
theorem Go.l2i {x : Int64} {z : Int32} (hd : Dx code pc (.l2i) 1 pc') (hz : x.toInt32 = z) (G : Go l Z a0 EL b n0 own code maxL ret nm R W0 Q D S cells slots pc' Ls (.int z :: rest)) : Go l Z a0 EL b n0 own code maxL ret nm R W0 Q D S cells slots pc Ls (.long x :: rest) := by
  obtain ⟨h1, rfl⟩ := hd
  subst hz
  exact Go.plain (fun hx hc h t k => XS.l2i h hx rfl (hb hc h1) rfl k) G
theorem Go.i2b {x : Int32} {z : Int32} (hd : Dx code pc (.i2b) 1 pc') (hz : x.toInt8.toInt32 = z) (G : Go l Z a0 EL b n0 own code maxL ret nm R W0 Q D S cells slots pc' Ls (.int z :: rest)) : Go l Z a0 EL b n0 own code maxL ret nm R W0 Q D S cells slots pc Ls (.int x :: rest) := by
  obtain ⟨h1, rfl⟩ := hd
  subst hz
  exact Go.plain (fun hx hc h t k => XS.i2b h hx rfl (hb hc h1) rfl k) G
theorem Go.i2c {x : Int32} {z : Int32} (hd : Dx code pc (.i2c) 1 pc') (hz : x.toUInt32.toUInt16.toUInt32.toInt32 = z) (G : Go l Z a0 EL b n0 own code maxL ret nm R W0 Q D S cells slots pc' Ls (.int z :: rest)) : Go l Z a0 EL b n0 own code maxL ret nm R W0 Q D S cells slots pc Ls (.int x :: rest) := by
  obtain ⟨h1, rfl⟩ := hd
  subst hz
  exact Go.plain (fun hx hc h t k => XS.i2c h hx rfl (hb hc h1) rfl k) G
theorem Go.i2s {x : Int32} {z : Int32} (hd : Dx code pc (.i2s) 1 pc') (hz : x.toInt16.toInt32 = z) (G : Go l Z a0 EL b n0 own code maxL ret nm R W0 Q D S cells slots pc' Ls (.int z :: rest)) : Go l Z a0 EL b n0 own code maxL ret nm R W0 Q D S cells slots pc Ls (.int x :: rest) := by
  obtain ⟨h1, rfl⟩ := hd
  subst hz
  exact Go.plain (fun hx hc h t k => XS.i2s h hx rfl (hb hc h1) rfl k) G
theorem Go.dup {x : Value} (hd : Dx code pc (.dup) 1 pc') (hc1 : x.category = 1 := by rfl) (G : Go l Z a0 EL b n0 own code maxL ret nm R W0 Q D S cells slots pc' Ls (x :: x :: rest)) : Go l Z a0 EL b n0 own code maxL ret nm R W0 Q D S cells slots pc Ls (x :: rest) := by
  obtain ⟨h1, rfl⟩ := hd
  exact Go.plain (fun hx hc h t k => XS.dup h hx rfl (hb hc h1) rfl hc1 k) G
theorem Go.pop {x : Value} (hd : Dx code pc (.pop) 1 pc') (hc1 : x.category = 1 := by rfl) (G : Go l Z a0 EL b n0 own code maxL ret nm R W0 Q D S cells slots pc' Ls (rest)) : Go l Z a0 EL b n0 own code maxL ret nm R W0 Q D S cells slots pc Ls (x :: rest) := by
  obtain ⟨h1, rfl⟩ := hd
  exact Go.plain (fun hx hc h t k => XS.pop h hx rfl (hb hc h1) rfl hc1 k) G
theorem Go.dupX1 {x y : Value} (hd : Dx code pc (.dup_x1) 1 pc') (hc1 : x.category = 1 := by rfl) (hc2 : y.category = 1 := by rfl) (G : Go l Z a0 EL b n0 own code maxL ret nm R W0 Q D S cells slots pc' Ls (x :: y :: x :: rest)) : Go l Z a0 EL b n0 own code maxL ret nm R W0 Q D S cells slots pc Ls (x :: y :: rest) := by
  obtain ⟨h1, rfl⟩ := hd
  exact Go.plain (fun hx hc h t k => XS.dupX1 h hx rfl (hb hc h1) rfl hc1 hc2 k) G
theorem Go.dup2 {x y : Value} (hd : Dx code pc (.dup2) 1 pc') (hc1 : x.category = 1 := by rfl) (hc2 : y.category = 1 := by rfl) (G : Go l Z a0 EL b n0 own code maxL ret nm R W0 Q D S cells slots pc' Ls (x :: y :: x :: y :: rest)) : Go l Z a0 EL b n0 own code maxL ret nm R W0 Q D S cells slots pc Ls (x :: y :: rest) := by
  obtain ⟨h1, rfl⟩ := hd
  exact Go.plain (fun hx hc h t k => XT.dup2 h hx rfl (hb hc h1) rfl hc1 hc2 k) G
theorem Go.irem {x y z : Int32} (hd : Dx code pc .irem 1 pc') (hy : y ≠ 0) (hz : x % y = z) (G : Go l Z a0 EL b n0 own code maxL ret nm R W0 Q D S cells slots pc' Ls (.int z :: rest)) : Go l Z a0 EL b n0 own code maxL ret nm R W0 Q D S cells slots pc Ls (.int y :: .int x :: rest) := by
  obtain ⟨h1, rfl⟩ := hd
  subst hz
  refine Go.same (fun hs X _ _ _ => ⟨_, X, rfl, fun t k => iremM X hs.1 rfl (hb hs.2.1 h1) rfl hy k⟩) G
theorem Go.goto {o : Int} {pc2 : Nat} (hd : Dx code pc (.goto o) 3 pc') (hp : ((pc : Int) + o).toNat = pc2 := by decide) (ho : 0 ≤ (pc : Int) + o := by decide) (G : Go l Z a0 EL b n0 own code maxL ret nm R W0 Q D S cells slots pc2 Ls st) : Go l Z a0 EL b n0 own code maxL ret nm R W0 Q D S cells slots pc Ls st := by
  obtain ⟨h1, rfl⟩ := hd
  exact Go.plain (fun hx hc h t k => XS.goto h hx rfl rfl (hb hc h1) ho hp k) G
/-- what a comparison says -/
def cP : ClassFile.Cond → Int32 → Int32 → Prop
  | .eq, x, y => x = y
  | .ne, x, y => ¬ x = y
  | .lt, x, y => x < y
  | .ge, x, y => ¬ x < y
  | .gt, x, y => y < x
  | .le, x, y => ¬ y < x
theorem cP_t {cd : ClassFile.Cond} {x y : Int32} (h : cP cd x y) : if_icmp.holds cd x y = true := by
  cases cd
  · exact XT.ii_eq_t h
  · exact XT.ii_ne_t h
  · exact XT.ii_lt_t h
  · exact XT.ii_ge_t h
  · exact XT.ii_gt_t h
  · exact XT.ii_le_t h
theorem cP_f {cd : ClassFile.Cond} {x y : Int32} (h : ¬ cP cd x y) : if_icmp.holds cd x y = false := by
  cases cd
  · exact XT.ii_eq_f h
  · exact XT.ii_ne_f (Classical.not_not.mp h)
  · exact XT.ii_lt_f h
  · exact XT.ii_ge_f (Classical.not_not.mp h)
  · exact XT.ii_gt_f h
  · exact XT.ii_le_f (Classical.not_not.mp h)
theorem cP0_t {cd : ClassFile.Cond} {x : Int32} (h : cP cd x 0) : ifCond.holds cd x = true := by
  cases cd
  · exact XT.i0_eq_t h
  · exact XT.i0_ne_t h
  · exact XT.i0_lt_t h
  · exact XT.i0_ge_t h
  · exact XT.i0_gt_t h
  · exact XT.i0_le_t h
theorem cP0_f {cd : ClassFile.Cond} {x : Int32} (h : ¬ cP cd x 0) : ifCond.holds cd x = false := by
  cases cd
  · exact XT.i0_eq_f h
  · exact XT.i0_ne_f (Classical.not_not.mp h)
  · exact XT.i0_lt_f h
  · exact XT.i0_ge_f (Classical.not_not.mp h)
  · exact XT.i0_gt_f h
  · exact XT.i0_le_f (Classical.not_not.mp h)
theorem Go.icmp {cd : ClassFile.Cond} {x y : Int32} {o : Int} {pc2 : Nat} (hd : Dx code pc (.if_icmp cd o) 3 pc') (hp : ((pc : Int) + o).toNat = pc2 := by decide) (ho : 0 ≤ (pc : Int) + o := by decide)
    (Gy : cP cd x y → Go l Z a0 EL b n0 own code maxL ret nm R W0 Q D S cells slots pc2 Ls rest) (Gn : ¬ cP cd x y → Go l Z a0 EL b n0 own code maxL ret nm R W0 Q D S cells slots pc' Ls rest) : Go l Z a0 EL b n0 own code maxL ret nm R W0 Q D S cells slots pc Ls (.int y :: .int x :: rest) := by
  obtain ⟨h1, rfl⟩ := hd
  by_cases q : cP cd x y
  · exact Go.plain (fun hx hc h t k => XS.icmpYes h hx rfl rfl (hb hc h1) rfl (cP_t q) ho hp k) (Gy q)
  · exact Go.plain (fun hx hc h t k => XS.icmpNo h hx rfl (hb hc h1) rfl (cP_f q) k) (Gn q)
theorem Go.ifc {cd : ClassFile.Cond} {x : Int32} {o : Int} {pc2 : Nat} (hd : Dx code pc (.ifCond cd o) 3 pc') (hp : ((pc : Int) + o).toNat = pc2 := by decide) (ho : 0 ≤ (pc : Int) + o := by decide)
    (Gy : cP cd x 0 → Go l Z a0 EL b n0 own code maxL ret nm R W0 Q D S cells slots pc2 Ls rest) (Gn : ¬ cP cd x 0 → Go l Z a0 EL b n0 own code maxL ret nm R W0 Q D S cells slots pc' Ls rest) : Go l Z a0 EL b n0 own code maxL ret nm R W0 Q D S cells slots pc Ls (.int x :: rest) := by
  obtain ⟨h1, rfl⟩ := hd
  by_cases q : cP cd x 0
  · exact Go.plain (fun hx hc h t k => XS.ifYes h hx rfl rfl (hb hc h1) rfl (cP0_t q) ho hp k) (Gy q)
  · exact Go.plain (fun hx hc h t k => XS.ifNo h hx rfl (hb hc h1) rfl (cP0_f q) k) (Gn q)
theorem Go.ifnullY {o : Int} {pc2 : Nat} (hd : Dx code pc (.ifnull o) 3 pc') (hp : ((pc : Int) + o).toNat = pc2 := by decide) (ho : 0 ≤ (pc : Int) + o := by decide)
    (G : Go l Z a0 EL b n0 own code maxL ret nm R W0 Q D S cells slots pc2 Ls rest) : Go l Z a0 EL b n0 own code maxL ret nm R W0 Q D S cells slots pc Ls (.null :: rest) := by
  obtain ⟨h1, rfl⟩ := hd
  exact Go.plain (fun hx hc h t k => XS.ifnullYes h hx rfl rfl (hb hc h1) rfl ho hp k) G
theorem Go.ifnullN {o : Int} {a : Addr} (hd : Dx code pc (.ifnull o) 3 pc') (G : Go l Z a0 EL b n0 own code maxL ret nm R W0 Q D S cells slots pc' Ls rest) : Go l Z a0 EL b n0 own code maxL ret nm R W0 Q D S cells slots pc Ls (.ref a :: rest) := by
  obtain ⟨h1, rfl⟩ := hd
  exact Go.plain (fun hx hc h t k => XS.ifnullNo h hx rfl (hb hc h1) rfl k) G
theorem Go.ifnonnullY {o : Int} {a : Addr} {pc2 : Nat} (hd : Dx code pc (.ifnonnull o) 3 pc') (hp : ((pc : Int) + o).toNat = pc2 := by decide) (ho : 0 ≤ (pc : Int) + o := by decide)
    (G : Go l Z a0 EL b n0 own code maxL ret nm R W0 Q D S cells slots pc2 Ls rest) : Go l Z a0 EL b n0 own code maxL ret nm R W0 Q D S cells slots pc Ls (.ref a :: rest) := by
  obtain ⟨h1, rfl⟩ := hd
  exact Go.plain (fun hx hc h t k => XS.ifnonnullYes h hx rfl rfl (hb hc h1) rfl ho hp k) G
theorem Go.ifnonnullN {o : Int} (hd : Dx code pc (.ifnonnull o) 3 pc') (G : Go l Z a0 EL b n0 own code maxL ret nm R W0 Q D S cells slots pc' Ls rest) : Go l Z a0 EL b n0 own code maxL ret nm R W0 Q D S cells slots pc Ls (.null :: rest) := by
  obtain ⟨h1, rfl⟩ := hd
  exact Go.plain (fun hx hc h t k => XS.ifnonnullNo h hx rfl (hb hc h1) rfl k) G
theorem Go.acmpeq {o : Int} {x y : Value} {pc2 : Nat} (hd : Dx code pc (.if_acmp .eq o) 3 pc') (hx' : x.isRef = true := by rfl) (hy' : y.isRef = true := by rfl) (hp : ((pc : Int) + o).toNat = pc2 := by decide) (ho : 0 ≤ (pc : Int) + o := by decide)
    (Gy : x = y → Go l Z a0 EL b n0 own code maxL ret nm R W0 Q D S cells slots pc2 Ls rest) (Gn : ¬ x = y → Go l Z a0 EL b n0 own code maxL ret nm R W0 Q D S cells slots pc' Ls rest) : Go l Z a0 EL b n0 own code maxL ret nm R W0 Q D S cells slots pc Ls (y :: x :: rest) := by
  obtain ⟨h1, rfl⟩ := hd
  by_cases q : x = y
  · exact Go.plain (fun hx hc h t k => XT.acmpYes h hx rfl rfl (hb hc h1) rfl hx' hy' (XT.aa_eq_t q) ho hp k) (Gy q)
  · exact Go.plain (fun hx hc h t k => XT.acmpNo h hx rfl (hb hc h1) rfl hx' hy' (XT.aa_eq_f q) k) (Gn q)
theorem Go.acmpne {o : Int} {x y : Value} {pc2 : Nat} (hd : Dx code pc (.if_acmp .ne o) 3 pc') (hx' : x.isRef = true := by rfl) (hy' : y.isRef = true := by rfl) (hp : ((pc : Int) + o).toNat = pc2 := by decide) (ho : 0 ≤ (pc : Int) + o := by decide)
    (Gy : ¬ x = y → Go l Z a0 EL b n0 own code maxL ret nm R W0 Q D S cells slots pc2 Ls rest) (Gn : x = y → Go l Z a0 EL b n0 own code maxL ret nm R W0 Q D S cells slots pc' Ls rest) : Go l Z a0 EL b n0 own code maxL ret nm R W0 Q D S cells slots pc Ls (y :: x :: rest) := by
  obtain ⟨h1, rfl⟩ := hd
  by_cases q : x = y
  · exact Go.plain (fun hx hc h t k => XT.acmpNo h hx rfl (hb hc h1) rfl hx' hy' (XT.aa_ne_f q) k) (Gn q)
  · exact Go.plain (fun hx hc h t k => XT.acmpYes h hx rfl rfl (hb hc h1) rfl hx' hy' (XT.aa_ne_t q) ho hp k) (Gy q)
/-! the steps that read or write the heap -/
theorem Inv.alike {fr : Addr → Prop} {s : State} {vm0 : Vm} {h : Heap} {locs : List Loc} (I : Inv Z a0 EL b n0 W0 fr D S s vm0 h locs) : Z.Warmed39 vm0 := I.1.2.1
theorem Inv.ext {fr : Addr → Prop} {s : State} {vm0 : Vm} {h h' : Heap} {locs : List Loc} (I : Inv Z a0 EL b n0 W0 fr D S s vm0 h locs) (E : Ext h h') {x : Ent} (hx : x.1 = h.size) (F : Kn Z h' x) :
    Inv Z a0 EL b n0 W0 fr (x :: D) S s vm0 h' locs := by
  obtain ⟨⟨e1, e2, ⟨k0, e3, e4⟩, e5⟩, ⟨c1, c2, c3, c4⟩, ⟨g1, g2, g3, g4⟩, i4, i5, i6⟩ := I
  have hs : s.heap.size ≤ h.size := c1.2.1
  have hx' := aN hx
  refine ⟨⟨e1, e2, ⟨k0, e3, Nat.le_trans e4 E.1⟩, e5⟩, ⟨c1.trans (CHr.ext E c1.1), c2, c3.ext E, c4.ext E⟩, ⟨fun y hy => ?_, fun y hy => (g2 y hy).ext E, ?_, fun y hy => ?_⟩, fun y hy => ?_, i5, fun y hy => ?_⟩
  · rcases List.mem_cons.mp hy with rfl | hy
    · exact F
    · exact (g1 y hy).ext E
  · rw [List.map_cons, List.nodup_cons]
    refine ⟨fun q => ?_, g3⟩
    obtain ⟨y, hy, e⟩ := List.mem_map.mp q
    have e := aN e
    have := aL (g1 y hy).lt
    omega
  · rw [List.map_cons, List.mem_cons]
    rintro (q | q)
    · have q := aN q
      have := aL (g2 y hy).lt
      omega
    · exact g4 y hy q
  · rcases List.mem_cons.mp hy with rfl | hy
    · refine ⟨?_, ?_, fun q => ?_, Or.inr (by rw [hx]; exact hs)⟩
      · rw [hx]; have a1 := c3.1; have a2 := c3.2.1; omega
      · rw [hx]; exact (Safe.new (Nat.le_refl _)).ext E c1.1
      · have := aL (i6 _ q).2.2
        omega
    · obtain ⟨r1, r2, r3, r4⟩ := i4 y hy
      exact ⟨r1, r2.ext E c1.1, r3, r4⟩
  · obtain ⟨r1, r2, r3⟩ := i6 y hy
    exact ⟨r1, r2.ext E c1.1, r3⟩
theorem set_mem {α : Type} {L : List α} {i : Nat} {y x : α} (h : x ∈ L.set i y) : x = y ∨ ∃ j, j ≠ i ∧ L[j]? = some x := by
  obtain ⟨j, hj⟩ := List.mem_iff_getElem?.mp h
  rw [List.getElem?_set] at hj
  by_cases q : i = j
  · rw [if_pos q] at hj
    split at hj
    · exact Or.inl (Option.some.inj hj).symm
    · cases hj
  · rw [if_neg q] at hj
    exact Or.inr ⟨j, fun e => q e.symm, hj⟩
theorem map_set_same {D : List Ent} {i : Nat} {x y : Ent} (hi : D[i]? = some x) (e : y.1 = x.1) : (D.set i y).map Prod.fst = D.map Prod.fst := by
  apply List.ext_getElem?
  intro j
  rw [List.getElem?_map, List.getElem?_map, List.getElem?_set]
  by_cases q : i = j
  · subst q
    rw [if_pos rfl, hi]
    simp [(List.getElem?_eq_some_iff.mp hi).1, e]
  · rw [if_neg q]
theorem Inv.wr {fr : Addr → Prop} {s : State} {vm0 : Vm} {h h' : Heap} {locs : List Loc} {sl : Nat} {v : Value} {x y : Ent} {i : Nat} (I : Inv Z a0 EL b n0 W0 fr D S s vm0 h locs) (hi : D[i]? = some x) (W : Wr h h' x.1 sl v) (e : y.1 = x.1) (F : Kn Z h' y) :
    Inv Z a0 EL b n0 W0 fr (D.set i y) S s vm0 h' (locs ++ [⟨x.1, sl⟩]) := by
  obtain ⟨⟨e1, e2, ⟨k0, e3, e4⟩, e5⟩, ⟨c1, c2, c3, c4⟩, ⟨g1, g2, g3, g4⟩, i4, i5, i6⟩ := I
  have hx : x ∈ D := List.mem_of_getElem? hi
  obtain ⟨r1, r2, r3, r4⟩ := i4 x hx
  have K := Keep.of_wr W
  have apart : ∀ z j, j ≠ i → D[j]? = some z → z.1 ≠ x.1 := fun z j hj hz q => hj (by
    have lj : j < (D.map Prod.fst).length := by simpa using (List.getElem?_eq_some_iff.mp hz).1
    refine (List.getElem?_inj lj g3).mp ?_
    simp [hz, hi, q])
  refine ⟨⟨e1, e2, ⟨k0, e3, by rw [W.size]; exact e4⟩, e5⟩, ⟨c1.trans (CHr.wr W r2 c1.1), c2.app (fun z hz => by cases List.mem_singleton.mp hz; exact r1), c3.wr W r1, c4.wr W r4⟩, ⟨fun z hz => ?_, fun z hz => ?_, ?_, fun z hz => ?_⟩, fun z hz => ?_, i5, fun z hz => ?_⟩
  · rcases set_mem hz with rfl | ⟨j, hj, q⟩
    · exact F
    · exact (g1 z (List.mem_of_getElem? q)).keep K (fun r => apart z j hj q (List.mem_singleton.mp r))
  · exact (g2 z hz).keep K (fun r => g4 z hz (List.mem_map.mpr ⟨x, hx, (List.mem_singleton.mp r).symm⟩))
  · rw [map_set_same hi e]; exact g3
  · rw [map_set_same hi e]; exact g4 z hz
  · rcases set_mem hz with rfl | ⟨j, hj, q⟩
    · rw [e]; exact ⟨r1, Safe.wr W r2 c1.1 r2, r3, r4⟩
    · obtain ⟨t1, t2, t3, t4⟩ := i4 z (List.mem_of_getElem? q)
      exact ⟨t1, Safe.wr W r2 c1.1 t2, t3, t4⟩
  · obtain ⟨t1, t2, t3⟩ := i6 z hz
    exact ⟨t1, Safe.wr W r2 c1.1 t2, t3⟩
/-- a step that makes one cell -/
theorem Go.grow {k n : Nat} {o : Ob} (H : ∀ {p : Program} {e : Env} {s : State} {m : MethodId} {args : Array Value} {below : List Frame} {meth : Method} {c : Code} {vm0 : Vm} {T : State} {locs : List Loc}, Sst Z own code maxL ret nm p m meth c vm0 below → Stand p l e R (s.setVm vm0) m args below meth c T locs cells slots → Z.Warmed39 (s.setVm vm0).vm → HH Z T.heap D S →
      ∃ T', Stand p l e R (s.setVm vm0) m args below meth c T' locs k n ∧ Ext T.heap T'.heap ∧ Kn Z T'.heap (T.heap.size, o) ∧ ∀ t, Steps p.tables e below (T'.setTop (mkF m pc' Ls' (.ref T.heap.size :: st'))) t → Steps p.tables e below (T.setTop (mkF m pc Ls st)) t)
    (G : ∀ a, Go l Z a0 EL b n0 own code maxL ret nm R W0 Q ((a, o) :: D) S k n pc' Ls' (.ref a :: st')) : Go l Z a0 EL b n0 own code maxL ret nm R W0 Q D S cells slots pc Ls st := by
  intro fr p e s m args below meth c vm0 T locs hs X I
  obtain ⟨T', X', E, F, st⟩ := H hs X I.1.2.1 I.2.2.1
  obtain ⟨t, v, k', r⟩ := G T.heap.size fr p e s m args below meth c vm0 T' locs hs X' (I.ext E (x := (T.heap.size, o)) rfl F)
  exact ⟨t, v, st t k', r⟩
/-- a step that writes one slot of an own cell -/
theorem Go.write {i : Nat} {x y : Ent} (hi : D[i]? = some x) (hD : D' = D.set i y) (e : y.1 = x.1) (H : ∀ {p : Program} {e : Env} {s : State} {m : MethodId} {args : Array Value} {below : List Frame} {meth : Method} {c : Code} {vm0 : Vm} {T : State} {locs : List Loc}, Sst Z own code maxL ret nm p m meth c vm0 below → Stand p l e R (s.setVm vm0) m args below meth c T locs cells slots → Z.Warmed39 (s.setVm vm0).vm → HH Z T.heap D S →
      ∃ T' sl v, Stand p l e R (s.setVm vm0) m args below meth c T' (locs ++ [⟨x.1, sl⟩]) cells slots ∧ Wr T.heap T'.heap x.1 sl v ∧ Kn Z T'.heap y ∧ ∀ t, Steps p.tables e below (T'.setTop (mkF m pc' Ls' st')) t → Steps p.tables e below (T.setTop (mkF m pc Ls st)) t)
    (G : Go l Z a0 EL b n0 own code maxL ret nm R W0 Q D' S cells slots pc' Ls' st') : Go l Z a0 EL b n0 own code maxL ret nm R W0 Q D S cells slots pc Ls st := by
  intro fr p e' s m args below meth c vm0 T locs hs X I
  obtain ⟨T', sl, v, X', W, F, st⟩ := H hs X I.1.2.1 I.2.2.1
  subst hD
  obtain ⟨t, v, k', r⟩ := G fr p e' s m args below meth c vm0 T' _ hs X' (I.wr hi W e F)
  exact ⟨t, v, st t k', r⟩
/-- the fields of a new object -/
def NewF (Z : State) (a0 : Array Value) (C : String) (fs : List (String × String × String × Value)) : Prop :=
  (∀ f ∈ fs, Laid Z a0 C f.1 f.2.1 f.2.2.1 ∧ ∃ ty, parseFieldDescriptor f.2.2.1 = some ty ∧ defaultValue ty = f.2.2.2) ∧ (fs.map fun f => Jvm.RoadKit.slotOf Z f.1 f.2.1 f.2.2.1).Nodup
theorem NewF.nil {C : String} : NewF Z a0 C [] := ⟨fun _ q => (nomatch q), List.nodup_nil⟩
theorem NewF.cons {C O n d : String} {v : Value} {ty : FieldType} {fs : List (String × String × String × Value)} (L : Laid Z a0 C O n d) (ht : parseFieldDescriptor d = some ty) (hv : defaultValue ty = v) (hne : ∀ f ∈ fs, n ≠ f.2.1) (F : NewF Z a0 C fs) : NewF Z a0 C ((O, n, d, v) :: fs) := by
  refine ⟨fun f hf => ?_, ?_⟩
  · rcases List.mem_cons.mp hf with rfl | hf
    · exact ⟨L, ty, ht, hv⟩
    · exact F.1 f hf
  · rw [List.map_cons, List.nodup_cons]
    refine ⟨fun q => ?_, F.2⟩
    obtain ⟨f, hf, e⟩ := List.mem_map.mp q
    obtain ⟨L', ty', ht', -⟩ := F.1 f hf
    exact slot_ne L L' (hne f hf) ht ht' e.symm
theorem Go.new {idx n : Nat} {C : String} {fs : List (String × String × String × Value)} (hd : Dx code pc (.new idx) 3 pc') (w1 : (Jvm.Cond.classLink own idx C).before a0 Z = true) (w2 : (Jvm.Cond.instantiable C n).before a0 Z = true) (w3 : (Jvm.Cond.initialized C).before a0 Z = true) (hf : NewF Z a0 C fs)
    (hc : cells + 1 ≤ R.cells := by exact Nat.le_of_ble_eq_true rfl) (hl : slots + n ≤ R.slots := by exact Nat.le_of_ble_eq_true rfl) (G : ∀ a, Go l Z a0 EL b n0 own code maxL ret nm R W0 Q ((a, .inl (C, fs)) :: D) S (cells + 1) (slots + n) pc' Ls (.ref a :: st)) : Go l Z a0 EL b n0 own code maxL ret nm R W0 Q D S cells slots pc Ls st := by
  obtain ⟨h1, rfl⟩ := hd
  refine Go.grow (fun {p e s m args below meth c vm0 T locs} hs X hZ hH => ?_) G
  obtain ⟨T', h', X', rfl, E, A, F, UN, k⟩ := newO X hs.1 hZ hs.2.2.2.2.2.2 w1 w2 w3 rfl (g := mkF m pc Ls st) rfl (hb hs.2.1 h1) hc hl
  refine ⟨T', X', E, ⟨A, fun f hf' => ?_, hf.2, fun _ _ => UN⟩, k⟩
  obtain ⟨L, ty, ht, hv⟩ := hf.1 f hf'
  rw [← hv]
  exact F L ht
theorem rep_fits {ty : FieldType} {v : Value} {k : Nat} (hv : fits ty v = true) : ∀ x ∈ List.replicate k v, fits ty x = true := fun x hx => by rw [List.eq_of_mem_replicate hx]; exact hv
theorem def_fits (ty : FieldType) : fits ty (defaultValue ty) = true := by cases ty <;> rfl
theorem Go.newarray {aty : ArrayType} {n : Int32} {k : Nat} {vs : List Value} (hd : Dx code pc (.newarray aty) 2 pc') (w : (Jvm.Cond.arrayClass (newarray.typeOf aty)).before a0 Z = true) (hk : n.toNatClampNeg = k) (hn : ¬ n < 0) (hb' : k * 8 ≤ 536870912) (hvs : vs = List.replicate k (defaultValue (newarray.typeOf aty)))
    (hc : cells + 1 ≤ R.cells := by exact Nat.le_of_ble_eq_true rfl) (hl : slots + k ≤ R.slots := by exact Nat.le_of_ble_eq_true rfl) (G : ∀ a, Go l Z a0 EL b n0 own code maxL ret nm R W0 Q ((a, .inr (newarray.typeOf aty, vs)) :: D) S (cells + 1) (slots + k) pc' Ls (.ref a :: rest)) : Go l Z a0 EL b n0 own code maxL ret nm R W0 Q D S cells slots pc Ls (.int n :: rest) := by
  obtain ⟨h1, rfl⟩ := hd
  refine Go.grow (fun {p e s m args below meth c vm0 T locs} hs X hZ hH => ?_) G
  obtain ⟨T', h', cA, X', rfl, E, A, EE, k'⟩ := newPE X hs.1 hZ w rfl (g := mkF m pc Ls (.int n :: rest)) rfl (hb hs.2.1 h1) rfl hn (cap := k) (by omega) hb' hc hl rfl
  refine ⟨T', X', E, ⟨_, A, ?_, ?_, ?_, ?_⟩, k'⟩
  · subst hvs hk; simp [newA]
  · subst hvs; simp; omega
  · subst hvs; exact rep_fits (def_fits _)
  · refine ⟨fun C q => (by cases aty <;> cases q), fun _ q => ?_⟩
    have e : ("[" ++ FieldType.toString .byte) = "[B" := by decide
    have q : newarray.typeOf aty = .byte := q
    rw [q, e] at EE
    exact EE
theorem Go.anewarray {idx : Nat} {C : String} {n : Int32} {k : Nat} {vs : List Value} (hd : Dx code pc (.anewarray idx) 3 pc') (w1 : (Jvm.Cond.classLink own idx C).before a0 Z = true) (w2 : (Jvm.Cond.arrayOver (.object C)).before a0 Z = true) (hk : n.toNatClampNeg = k) (hn : ¬ n < 0) (hb' : k * 8 ≤ 536870912) (hvs : vs = List.replicate k .null)
    (hc : cells + 1 ≤ R.cells := by exact Nat.le_of_ble_eq_true rfl) (hl : slots + k ≤ R.slots := by exact Nat.le_of_ble_eq_true rfl) (G : ∀ a, Go l Z a0 EL b n0 own code maxL ret nm R W0 Q ((a, .inr (.object C, vs)) :: D) S (cells + 1) (slots + k) pc' Ls (.ref a :: rest)) : Go l Z a0 EL b n0 own code maxL ret nm R W0 Q D S cells slots pc Ls (.int n :: rest) := by
  obtain ⟨h1, rfl⟩ := hd
  refine Go.grow (fun {p e s m args below meth c vm0 T locs} hs X hZ hH => ?_) G
  obtain ⟨T', h', cA, X', rfl, E, A, O, k'⟩ := newR X hs.1 hZ hs.2.2.2.2.2.2 w1 w2 rfl (g := mkF m pc Ls (.int n :: rest)) rfl (hb hs.2.1 h1) rfl hn (cap := k) (by omega) hb' hc hl
  refine ⟨T', X', E, ⟨_, A, ?_, ?_, ?_, ?_⟩, k'⟩
  · subst hvs hk; simp [newA, defaultValue]
  · subst hvs; simp; omega
  · subst hvs; exact rep_fits rfl
  · exact ⟨fun C' q _ => by cases q; exact O, fun _ q => nomatch q⟩
theorem in_of {vs : List Value} {j : Int32} {v : Value} {c : Cell} (hc : c.slots = vs.toArray) (hv : vs[j.toNatClampNeg]? = some v) (hj : ¬ j < 0) : ¬ (j < 0 ∨ c.slots.size ≤ j.toNatClampNeg) ∧ c.slots[j.toNatClampNeg]? = some v := by
  have h := (List.getElem?_eq_some_iff.mp hv).1
  refine ⟨fun q => q.elim hj fun r => ?_, ?_⟩
  · rw [hc, List.size_toArray] at r; omega
  · rw [hc, List.getElem?_toArray]; exact hv
theorem Go.caload {a : Addr} {vs : List Value} {j : Int32} {v : Value} (hd : Dx code pc .caload 1 pc') (hm : In (a, .inr (.char, vs)) D S) (hv : vs[j.toNatClampNeg]? = some v) (hj : ¬ j < 0 := by decide) (G : Go l Z a0 EL b n0 own code maxL ret nm R W0 Q D S cells slots pc' Ls (v :: rest)) : Go l Z a0 EL b n0 own code maxL ret nm R W0 Q D S cells slots pc Ls (.int j :: .ref a :: rest) := by
  obtain ⟨h1, rfl⟩ := hd
  refine Go.same (fun {p e s m args below meth c vm0 T locs} hs X hZ _ hH => ?_) G
  obtain ⟨cl, A, hc, -⟩ := (show KnA Z T.heap a .char vs from hH.at hm)
  obtain ⟨q1, q2⟩ := in_of hc hv hj
  exact ⟨_, X, rfl, fun t k => X.caload hs.1 A.1 (State.isArrayOf_alike hZ.alike A.2.1) A.2.2 q1 q2 (g := mkF m pc Ls (.int j :: .ref a :: rest)) rfl rfl (hb hs.2.1 h1) t k⟩
theorem Go.baload {a : Addr} {vs : List Value} {j : Int32} {v : Value} (hd : Dx code pc .baload 1 pc') (hm : In (a, .inr (.byte, vs)) D S) (hv : vs[j.toNatClampNeg]? = some v) (hj : ¬ j < 0 := by decide) (G : Go l Z a0 EL b n0 own code maxL ret nm R W0 Q D S cells slots pc' Ls (v :: rest)) : Go l Z a0 EL b n0 own code maxL ret nm R W0 Q D S cells slots pc Ls (.int j :: .ref a :: rest) := by
  obtain ⟨h1, rfl⟩ := hd
  refine Go.same (fun {p e s m args below meth c vm0 T locs} hs X hZ _ hH => ?_) G
  obtain ⟨cl, A, hc, -⟩ := (show KnA Z T.heap a .byte vs from hH.at hm)
  obtain ⟨q1, q2⟩ := in_of hc hv hj
  exact ⟨_, X, rfl, fun t k => X.baloadBytes hs.1 A.1 (State.isArrayOf_alike hZ.alike A.2.1) A.2.2 q1 q2 (g := mkF m pc Ls (.int j :: .ref a :: rest)) rfl rfl (hb hs.2.1 h1) t k⟩
theorem Go.iaload {a : Addr} {vs : List Value} {j : Int32} {v : Value} (hd : Dx code pc .iaload 1 pc') (hm : In (a, .inr (.int, vs)) D S) (hv : vs[j.toNatClampNeg]? = some v) (hj : ¬ j < 0 := by decide) (G : Go l Z a0 EL b n0 own code maxL ret nm R W0 Q D S cells slots pc' Ls (v :: rest)) : Go l Z a0 EL b n0 own code maxL ret nm R W0 Q D S cells slots pc Ls (.int j :: .ref a :: rest) := by
  obtain ⟨h1, rfl⟩ := hd
  refine Go.same (fun {p e s m args below meth c vm0 T locs} hs X hZ _ hH => ?_) G
  obtain ⟨cl, A, hc, -⟩ := (show KnA Z T.heap a .int vs from hH.at hm)
  obtain ⟨q1, q2⟩ := in_of hc hv hj
  exact ⟨_, X, rfl, fun t k => X.iaload hs.1 A.1 (State.isArrayOf_alike hZ.alike A.2.1) A.2.2 q1 q2 (g := mkF m pc Ls (.int j :: .ref a :: rest)) rfl rfl (hb hs.2.1 h1) t k⟩
theorem Go.aaload {a : Addr} {ty : FieldType} {vs : List Value} {j : Int32} {v : Value} (hd : Dx code pc .aaload 1 pc') (hm : In (a, .inr (ty, vs)) D S) (hv : vs[j.toNatClampNeg]? = some v) (hty : ty.isReference = true := by rfl) (hj : ¬ j < 0 := by decide) (G : Go l Z a0 EL b n0 own code maxL ret nm R W0 Q D S cells slots pc' Ls (v :: rest)) : Go l Z a0 EL b n0 own code maxL ret nm R W0 Q D S cells slots pc Ls (.int j :: .ref a :: rest) := by
  obtain ⟨h1, rfl⟩ := hd
  refine Go.same (fun {p e s m args below meth c vm0 T locs} hs X hZ _ hH => ?_) G
  obtain ⟨cl, A, hc, -⟩ := (show KnA Z T.heap a ty vs from hH.at hm)
  obtain ⟨q1, q2⟩ := in_of hc hv hj
  exact ⟨_, X, rfl, fun t k => X.aaload hs.1 A.1 (State.isArrayOf_alike hZ.alike A.2.1) hty A.2.2 q1 q2 (g := mkF m pc Ls (.int j :: .ref a :: rest)) rfl rfl (hb hs.2.1 h1) t k⟩
theorem Go.arraylength {a : Addr} {ty : FieldType} {vs : List Value} {n : Int32} (hd : Dx code pc .arraylength 1 pc') (hm : In (a, .inr (ty, vs)) D S) (hn : vs.length.toInt32 = n) (G : Go l Z a0 EL b n0 own code maxL ret nm R W0 Q D S cells slots pc' Ls (.int n :: rest)) : Go l Z a0 EL b n0 own code maxL ret nm R W0 Q D S cells slots pc Ls (.ref a :: rest) := by
  obtain ⟨h1, rfl⟩ := hd
  refine Go.same (fun {p e s m args below meth c vm0 T locs} hs X hZ _ hH => ?_) G
  obtain ⟨cl, A, hc, -⟩ := (show KnA Z T.heap a ty vs from hH.at hm)
  have e : cl.slots.size.toInt32 = n := by rw [hc, List.size_toArray]; exact hn
  exact ⟨_, X, rfl, fun t k => X.arraylength hs.1 A.1 (State.isArrayOf_alike hZ.alike A.2.1) (g := mkF m pc Ls (.ref a :: rest)) rfl rfl (hb hs.2.1 h1) t (by rw [e]; exact k)⟩
theorem KnA.set {h h' : Heap} {a : Addr} {ty : FieldType} {vs : List Value} {j : Nat} {v : Value} {c : Cell} (A : Arr Z h a c ty) (hc : c.slots = vs.toArray) (hlen : vs.length < 2147483648) (hf : ∀ v ∈ vs, fits ty v = true) (hO : KX Z h a c.cls ty) (hv : fits ty v = true) (W : Wr h h' a j v) : KnA Z h' a ty (vs.set j v) := by
  refine ⟨c.setSlot j v, A.same W, ?_, by simpa using hlen, fun x hx => ?_, hO.1, fun x y => (hO.2 x y).wr W⟩
  · have : (c.setSlot j v).slots = c.slots.setIfInBounds j v := rfl
    rw [this, hc]; simp
  · rcases List.mem_or_eq_of_mem_set hx with q | rfl
    · exact hf x q
    · exact hv
theorem st_in {vs : List Value} {j : Int32} {c : Cell} (hc : c.slots = vs.toArray) (hj : ¬ j < 0) (hlt : j.toNatClampNeg < vs.length) : ¬ (j < 0 ∨ c.slots.size ≤ j.toNatClampNeg) := by
  rintro (q | q)
  · exact hj q
  · rw [hc, List.size_toArray] at q; omega
theorem Go.castore {a : Addr} {vs : List Value} {j x x' : Int32} (hd : Dx code pc .castore 1 pc') (i : Nat) (hi : D[i]? = some (a, .inr (.char, vs))) (hx : nar .char x = x') (hlt : j.toNatClampNeg < vs.length) (hD : D' = D.set i (a, .inr (.char, vs.set j.toNatClampNeg (.int x')))) (hj : ¬ j < 0 := by decide) (G : Go l Z a0 EL b n0 own code maxL ret nm R W0 Q D' S cells slots pc' Ls rest) : Go l Z a0 EL b n0 own code maxL ret nm R W0 Q D S cells slots pc Ls (.int x :: .int j :: .ref a :: rest) := by
  obtain ⟨h1, rfl⟩ := hd
  subst hx
  refine Go.write hi hD rfl (fun {p e s m args below meth c vm0 T locs} hs X hZ hH => ?_) G
  obtain ⟨cl, A, hc, r1, r2, r3⟩ := (show KnA Z T.heap a .char vs from hH.1 _ (List.mem_of_getElem? hi))
  obtain ⟨T', h', X', rfl, W, k⟩ := stC X hs.1 hZ rfl A (st_in hc hj hlt) (g := mkF m pc Ls (.int x :: .int j :: .ref a :: rest)) rfl rfl (hb hs.2.1 h1)
  exact ⟨T', _, _, X', W, KnA.set A hc r1 r2 r3 (fits_nar_char x) W, k⟩
theorem Go.bastore {a : Addr} {vs : List Value} {j x x' : Int32} (hd : Dx code pc .bastore 1 pc') (i : Nat) (hi : D[i]? = some (a, .inr (.byte, vs))) (hx : nar .byte x = x') (hlt : j.toNatClampNeg < vs.length) (hD : D' = D.set i (a, .inr (.byte, vs.set j.toNatClampNeg (.int x')))) (hj : ¬ j < 0 := by decide) (G : Go l Z a0 EL b n0 own code maxL ret nm R W0 Q D' S cells slots pc' Ls rest) : Go l Z a0 EL b n0 own code maxL ret nm R W0 Q D S cells slots pc Ls (.int x :: .int j :: .ref a :: rest) := by
  obtain ⟨h1, rfl⟩ := hd
  subst hx
  refine Go.write hi hD rfl (fun {p e s m args below meth c vm0 T locs} hs X hZ hH => ?_) G
  obtain ⟨cl, A, hc, r1, r2, r3⟩ := (show KnA Z T.heap a .byte vs from hH.1 _ (List.mem_of_getElem? hi))
  obtain ⟨T', h', X', rfl, W, k⟩ := stB X hs.1 hZ rfl A (st_in hc hj hlt) (g := mkF m pc Ls (.int x :: .int j :: .ref a :: rest)) rfl rfl (hb hs.2.1 h1)
  exact ⟨T', _, _, X', W, KnA.set A hc r1 r2 r3 (fits_nar_byte x) W, k⟩
theorem Go.iastore {a : Addr} {vs : List Value} {j x : Int32} (hd : Dx code pc .iastore 1 pc') (i : Nat) (hi : D[i]? = some (a, .inr (.int, vs))) (hlt : j.toNatClampNeg < vs.length) (hD : D' = D.set i (a, .inr (.int, vs.set j.toNatClampNeg (.int x)))) (hj : ¬ j < 0 := by decide) (G : Go l Z a0 EL b n0 own code maxL ret nm R W0 Q D' S cells slots pc' Ls rest) : Go l Z a0 EL b n0 own code maxL ret nm R W0 Q D S cells slots pc Ls (.int x :: .int j :: .ref a :: rest) := by
  obtain ⟨h1, rfl⟩ := hd
  refine Go.write hi hD rfl (fun {p e s m args below meth c vm0 T locs} hs X hZ hH => ?_) G
  obtain ⟨cl, A, hc, r1, r2, r3⟩ := (show KnA Z T.heap a .int vs from hH.1 _ (List.mem_of_getElem? hi))
  obtain ⟨T', h', X', rfl, W, k⟩ := stI X hs.1 hZ rfl A (st_in hc hj hlt) (g := mkF m pc Ls (.int x :: .int j :: .ref a :: rest)) rfl rfl (hb hs.2.1 h1)
  exact ⟨T', _, _, X', W, KnA.set A hc r1 r2 r3 rfl W, k⟩
/-- what may lie in an array of C -/
def Fit1 (Z : State) (a0 : Array Value) (D S : List Ent) (C : String) (v : Value) : Prop :=
  v = .null ∨ ∃ y K fs, v = .ref y ∧ In (y, .inl (K, fs)) D S ∧ (K = C ∨ (Jvm.Cond.castable K C).before a0 Z = true)
theorem Go.aastore {a : Addr} {C : String} {vs : List Value} {j : Int32} {v : Value} (hd : Dx code pc .aastore 1 pc') (i : Nat) (hi : D[i]? = some (a, .inr (.object C, vs))) (hF : Fit1 Z a0 D S C v) (hlt : j.toNatClampNeg < vs.length) (hD : D' = D.set i (a, .inr (.object C, vs.set j.toNatClampNeg v))) (hj : ¬ j < 0 := by decide) (hst : C ≠ nstC := by decide) (G : Go l Z a0 EL b n0 own code maxL ret nm R W0 Q D' S cells slots pc' Ls rest) : Go l Z a0 EL b n0 own code maxL ret nm R W0 Q D S cells slots pc Ls (v :: .int j :: .ref a :: rest) := by
  obtain ⟨h1, rfl⟩ := hd
  refine Go.write hi hD rfl (fun {p e s m args below meth c vm0 T locs} hs X hZ hH => ?_) G
  obtain ⟨cl, A, hc, r1, r2, r3⟩ := (show KnA Z T.heap a (.object C) vs from hH.1 _ (List.mem_of_getElem? hi))
  have hsto : Sto Z T.heap a v ∧ fits (.object C) v = true := by
    rcases hF with rfl | ⟨y, K, fs, rfl, hy, hK⟩
    · exact ⟨Or.inl rfl, rfl⟩
    · obtain ⟨E, -⟩ := (show KnO Z T.heap y K fs from hH.at hy)
      refine ⟨Sto.of A (r3.1 C rfl hst) ?_, rfl⟩
      rcases hK with rfl | hK
      · exact Ins.self E
      · exact Ins.of_exa E hK
  obtain ⟨T', h', X', rfl, W, k⟩ := stR X hs.1 hZ rfl A (st_in hc hj hlt) rfl hsto.1 (g := mkF m pc Ls (v :: .int j :: .ref a :: rest)) rfl rfl (hb hs.2.1 h1)
  exact ⟨T', _, _, X', W, KnA.set A hc r1 r2 r3 hsto.2 W, k⟩
theorem Go.getfield {a : Addr} {idx : Nat} {C R0 O n d host : String} {fs : List (String × String × String × Value)} {v : Value} (hd : Dx code pc (.getfield idx) 3 pc') (w : (Jvm.Cond.fieldLink own idx R0 n d).before a0 Z = true ∨ (Jvm.Cond.fieldLinkNest own idx R0 n d host).before a0 Z = true) (via : Via Z R0 O n d) (hm : In (a, .inl (C, fs)) D S) (j : Nat) (hj : fs[j]? = some (O, n, d, v))
    (G : Go l Z a0 EL b n0 own code maxL ret nm R W0 Q D S cells slots pc' Ls (v :: rest)) : Go l Z a0 EL b n0 own code maxL ret nm R W0 Q D S cells slots pc Ls (.ref a :: rest) := by
  obtain ⟨h1, rfl⟩ := hd
  refine Go.same (fun {p e s m args below meth c vm0 T locs} hs X hZ _ hH => ?_) G
  obtain ⟨E, F, -⟩ := (show KnO Z T.heap a C fs from hH.at hm)
  obtain ⟨T', X', e', k⟩ := getF X hs.1 hZ hs.2.2.2.2.2.2 w via rfl (F _ (List.mem_of_getElem? hj)) (g := mkF m pc Ls (.ref a :: rest)) rfl rfl (hb hs.2.1 h1)
  exact ⟨T', X', e', k⟩
theorem Go.getstatic {idx : Nat} {R0 O n d host : String} {v : Value} (hd : Dx code pc (.getstatic idx) 3 pc') (w : (Jvm.Cond.fieldLink own idx R0 n d).before a0 Z = true ∨ (Jvm.Cond.fieldLinkNest own idx R0 n d host).before a0 Z = true) (via : Via Z R0 O n d) (F : Sta Z Z.heap O n d v)
    (G : Go l Z a0 EL b n0 own code maxL ret nm R W0 Q D S cells slots pc' Ls (v :: st)) : Go l Z a0 EL b n0 own code maxL ret nm R W0 Q D S cells slots pc Ls st := by
  obtain ⟨h1, rfl⟩ := hd
  refine Go.same (fun {p e s m args below meth c vm0 T locs} hs X hZ hO hH => ?_) G
  obtain ⟨T', X', e', k⟩ := getS2 X hs.1 hZ hs.2.2.2.2.2.2 w via rfl (F.ext hO.2) (g := mkF m pc Ls st) rfl (hb hs.2.1 h1)
  exact ⟨T', X', e', k⟩
theorem KnO.set {h h' : Heap} {a : Addr} {C O n d : String} {fs : List (String × String × String × Value)} {j : Nat} {v old : Value} (F : KnO Z h a C fs) (hj : fs[j]? = some (O, n, d, old)) (W : Wr h h' a (Jvm.RoadKit.slotOf Z O n d) v) : KnO Z h' a C (fs.set j (O, n, d, v)) := by
  obtain ⟨E, G, N, UN⟩ := F
  refine ⟨E.wr W, fun f hf => ?_, ?_, fun x y => (UN x y).wr W⟩
  · rcases set_mem hf with rfl | ⟨i, hi, q⟩
    · exact Fld.same (w := old) W (G _ (List.mem_of_getElem? hj))
    · refine Fld.other W (G f (List.mem_of_getElem? q)) (Or.inr fun e => hi ?_)
      have li : i < (fs.map fun f => Jvm.RoadKit.slotOf Z f.1 f.2.1 f.2.2.1).length := by simpa using (List.getElem?_eq_some_iff.mp q).1
      refine (List.getElem?_inj li N).mp ?_
      simp [q, hj, e]
  · have e : (fs.set j (O, n, d, v)).map (fun f => Jvm.RoadKit.slotOf Z f.1 f.2.1 f.2.2.1) = fs.map fun f => Jvm.RoadKit.slotOf Z f.1 f.2.1 f.2.2.1 := by
      apply List.ext_getElem?
      intro i
      rw [List.getElem?_map, List.getElem?_map, List.getElem?_set]
      by_cases q : j = i
      · subst q; rw [if_pos rfl, hj]; simp [(List.getElem?_eq_some_iff.mp hj).1]
      · rw [if_neg q]
    rw [e]; exact N
theorem Go.putfield {a : Addr} {idx kk : Nat} {C R0 O n d : String} {fs : List (String × String × String × Value)} {v v' old : Value} {ty : FieldType} (hd : Dx code pc (.putfield idx) 3 pc') (w : (Jvm.Cond.fieldLink own idx R0 n d).before a0 Z = true) (via : Via Z R0 O n d) (i : Nat) (hi : D[i]? = some (a, .inl (C, fs))) (j : Nat) (hj : fs[j]? = some (O, n, d, old))
    (hL : (Jvm.Cond.lays C O n d).before a0 Z = true ∨ ((Jvm.Cond.laysFinal C O n d).before a0 Z = true ∧ own = O ∧ nm = "<init>")) (wi : (Jvm.Cond.instantiable C kk).before a0 Z = true) (hty : parseFieldDescriptor d = some ty) (hn : narrow ty v = v') (hf : fits ty v' = true) (hD : D' = D.set i (a, .inl (C, fs.set j (O, n, d, v'))))
    (G : Go l Z a0 EL b n0 own code maxL ret nm R W0 Q D' S cells slots pc' Ls rest) : Go l Z a0 EL b n0 own code maxL ret nm R W0 Q D S cells slots pc Ls (v :: .ref a :: rest) := by
  obtain ⟨h1, rfl⟩ := hd
  refine Go.write hi hD rfl (fun {p e s m args below meth c vm0 T locs} hs X hZ hH => ?_) G
  have F := (show KnO Z T.heap a C fs from hH.1 _ (List.mem_of_getElem? hi))
  obtain ⟨T', h', X', rfl, W, k⟩ := putFN X hs.1 hZ hs.2.2.2.2.2.2 w via rfl (F.2.1 _ (List.mem_of_getElem? hj)) F.1 (hL.imp id fun q => ⟨q.1, q.2.1, hs.2.2.2.2.1.trans q.2.2⟩) wi hty hn hf (g := mkF m pc Ls (v :: .ref a :: rest)) rfl rfl (hb hs.2.1 h1)
  exact ⟨T', _, _, X', W, F.set hj W, k⟩
theorem Go.objInit {idx : Nat} {a : Addr} (hd : Dx code pc (.invokespecial idx) 3 pc') (w1 : (Jvm.Cond.methodLink own idx Lib.objectInit).before a0 Z = true) (w2 : (Jvm.Cond.instanceMethod Lib.objectInit).before a0 Z = true) (w3 : (Jvm.Cond.code Lib.objectInit ⟨#[0xb1]⟩ 1 none).before a0 Z = true) (hls : Ls.size = maxL) (hf : 1 ≤ R.frames) (hlo : (rest.map fun v => v.category).sum + 12 ≤ R.locals)
    (G : Go l Z a0 EL b n0 own code maxL ret nm R W0 Q D S cells slots pc' Ls rest) : Go l Z a0 EL b n0 own code maxL ret nm R W0 Q D S cells slots pc Ls (.ref a :: rest) := by
  obtain ⟨h1, rfl⟩ := hd
  refine Go.same (fun {p e s m args below meth c vm0 T locs} hs X hZ _ hH => ?_) G
  obtain ⟨T', X', e', k⟩ := initO X hs.1 hZ hs.2.2.2.2.2.2 w1 w2 w3 rfl (g := mkF m pc Ls (.ref a :: rest)) rfl (hls.trans hs.2.2.1.symm) rfl (hb hs.2.1 h1) hf (W := (rest.map fun v => v.category).sum) (by show 2 * 0 + _ ≤ _; omega) hlo
  exact ⟨T', X', e', k⟩
theorem Go.ldcInt {idx : Nat} {v : Int32} (hd : Dx code pc (.ldc idx) 2 pc') (w : (Jvm.Cond.constant own idx v).before a0 Z = true) (G : Go l Z a0 EL b n0 own code maxL ret nm R W0 Q D S cells slots pc' Ls (.int v :: st)) : Go l Z a0 EL b n0 own code maxL ret nm R W0 Q D S cells slots pc Ls st := by
  obtain ⟨h1, rfl⟩ := hd
  exact Go.same (fun {p e s m args below meth c vm0 T locs} hs X hZ _ hH => ⟨_, X, rfl, X.ldcInt hs.1 hs.2.2.2.2.2.2 (mvT hZ w) (g := mkF m pc Ls st) rfl (hb hs.2.1 h1)⟩) G
theorem Go.ldc2Long {idx : Nat} {v : Int64} (hd : Dx code pc (.ldc2_w idx) 3 pc') (w : (Jvm.Cond.constantLong own idx v).before a0 Z = true) (G : Go l Z a0 EL b n0 own code maxL ret nm R W0 Q D S cells slots pc' Ls (.long v :: st)) : Go l Z a0 EL b n0 own code maxL ret nm R W0 Q D S cells slots pc Ls st := by
  obtain ⟨h1, rfl⟩ := hd
  exact Go.same (fun {p e s m args below meth c vm0 T locs} hs X hZ _ hH => ⟨_, X, rfl, X.ldc2Long hs.1 hs.2.2.2.2.2.2 (mvT hZ w) (g := mkF m pc Ls st) rfl (hb hs.2.1 h1)⟩) G
theorem Go.checkcast {idx : Nat} {K C : String} {a : Addr} {fs : List (String × String × String × Value)} (hd : Dx code pc (.checkcast idx) 3 pc') (w : (Jvm.Cond.classLink own idx K).before a0 Z = true) (hm : In (a, .inl (C, fs)) D S) (hC : C = K ∨ (Jvm.Cond.castable C K).before a0 Z = true)
    (G : Go l Z a0 EL b n0 own code maxL ret nm R W0 Q D S cells slots pc' Ls (.ref a :: rest)) : Go l Z a0 EL b n0 own code maxL ret nm R W0 Q D S cells slots pc Ls (.ref a :: rest) := by
  obtain ⟨h1, rfl⟩ := hd
  refine Go.same (fun {p e s m args below meth c vm0 T locs} hs X hZ _ hH => ?_) G
  obtain ⟨E, -⟩ := (show KnO Z T.heap a C fs from hH.at hm)
  have I : Ins Z T.heap a K true := by
    rcases hC with rfl | hC
    · exact Ins.self E
    · exact Ins.of_exa E hC
  obtain ⟨T', X', e', k⟩ := castY X hs.1 hZ hs.2.2.2.2.2.2 w rfl I (g := mkF m pc Ls (.ref a :: rest)) rfl rfl (hb hs.2.1 h1)
  exact ⟨T', X', e', k⟩
theorem Go.instanceofY {idx : Nat} {K C : String} {a : Addr} {fs : List (String × String × String × Value)} (hd : Dx code pc (.instanceof idx) 3 pc') (w : (Jvm.Cond.classLink own idx K).before a0 Z = true) (hm : In (a, .inl (C, fs)) D S) (hC : C = K ∨ (Jvm.Cond.castable C K).before a0 Z = true)
    (G : Go l Z a0 EL b n0 own code maxL ret nm R W0 Q D S cells slots pc' Ls (.int 1 :: rest)) : Go l Z a0 EL b n0 own code maxL ret nm R W0 Q D S cells slots pc Ls (.ref a :: rest) := by
  obtain ⟨h1, rfl⟩ := hd
  refine Go.same (fun {p e s m args below meth c vm0 T locs} hs X hZ _ hH => ?_) G
  obtain ⟨E, -⟩ := (show KnO Z T.heap a C fs from hH.at hm)
  have I : Ins Z T.heap a K true := by
    rcases hC with rfl | hC
    · exact Ins.self E
    · exact Ins.of_exa E hC
  obtain ⟨T', X', e', k⟩ := instY X hs.1 hZ hs.2.2.2.2.2.2 w rfl I (g := mkF m pc Ls (.ref a :: rest)) rfl rfl (hb hs.2.1 h1)
  exact ⟨T', X', e', k⟩
theorem Go.lookupHit {d : Int} {ps : Array (Int × Int)} {len : Nat} {k : Int32} {a off : Int} {pc2 : Nat} (hd : Dx code pc (.lookupswitch d ps) len pc') (hs : (ps.toList.zip (ps.toList.drop 1)).all (fun (a, next) => a.1 < next.1) = true) (hf : ps.find? (·.1 == k.toInt) = some (a, off)) (hp : ((pc : Int) + off).toNat = pc2) (ho : 0 ≤ (pc : Int) + off)
    (G : Go l Z a0 EL b n0 own code maxL ret nm R W0 Q D S cells slots pc2 Ls rest) : Go l Z a0 EL b n0 own code maxL ret nm R W0 Q D S cells slots pc Ls (.int k :: rest) := by
  obtain ⟨h1, rfl⟩ := hd
  subst hp
  exact Go.same (fun {p e s m args below meth c vm0 T locs} h X hZ _ hH => ⟨_, X, rfl, fun t q => X.lookupswitchHit h.1 (g := mkF m pc Ls (.int k :: rest)) rfl rfl (hb h.2.1 h1) hs hf ho t q⟩) G
theorem Go.lookupMiss {d : Int} {ps : Array (Int × Int)} {len : Nat} {k : Int32} {pc2 : Nat} (hd : Dx code pc (.lookupswitch d ps) len pc') (hs : (ps.toList.zip (ps.toList.drop 1)).all (fun (a, next) => a.1 < next.1) = true) (hf : ps.find? (·.1 == k.toInt) = none) (hp : ((pc : Int) + d).toNat = pc2) (ho : 0 ≤ (pc : Int) + d)
    (G : Go l Z a0 EL b n0 own code maxL ret nm R W0 Q D S cells slots pc2 Ls rest) : Go l Z a0 EL b n0 own code maxL ret nm R W0 Q D S cells slots pc Ls (.int k :: rest) := by
  obtain ⟨h1, rfl⟩ := hd
  subst hp
  exact Go.same (fun {p e s m args below meth c vm0 T locs} h X hZ _ hH => ⟨_, X, rfl, fun t q => X.lookupswitchMiss h.1 (g := mkF m pc Ls (.int k :: rest)) rfl rfl (hb h.2.1 h1) hs hf ho t q⟩) G
theorem Go.instanceofN {idx : Nat} {K C : String} {a : Addr} {fs : List (String × String × String × Value)} (hd : Dx code pc (.instanceof idx) 3 pc') (w : (Jvm.Cond.classLink own idx K).before a0 Z = true) (hm : In (a, .inl (C, fs)) D S) (F : ∃ c t, Z.vm.findClass C = some c ∧ Z.vm.findClass K = some t ∧ Z.vm.assignable c t = false)
    (G : Go l Z a0 EL b n0 own code maxL ret nm R W0 Q D S cells slots pc' Ls (.int 0 :: rest)) : Go l Z a0 EL b n0 own code maxL ret nm R W0 Q D S cells slots pc Ls (.ref a :: rest) := by
  obtain ⟨h1, rfl⟩ := hd
  refine Go.same (fun {p e s m args below meth c vm0 T locs} hs X hZ _ hH => ?_) G
  obtain ⟨E, -⟩ := (show KnO Z T.heap a C fs from hH.at hm)
  obtain ⟨T', X', e', k⟩ := instNo X hs.1 hZ hs.2.2.2.2.2.2 w rfl E F (g := mkF m pc Ls (.ref a :: rest)) rfl rfl (hb hs.2.1 h1)
  exact ⟨T', X', e', k⟩
theorem Go.instanceofNull {idx : Nat} (hd : Dx code pc (.instanceof idx) 3 pc') (G : Go l Z a0 EL b n0 own code maxL ret nm R W0 Q D S cells slots pc' Ls (.int 0 :: rest)) : Go l Z a0 EL b n0 own code maxL ret nm R W0 Q D S cells slots pc Ls (.null :: rest) := by
  obtain ⟨h1, rfl⟩ := hd
  exact Go.same (fun {p e s m args below meth c vm0 T locs} hs X hZ _ hH => ⟨_, X, rfl, X.instanceofNull hs.1 (g := mkF m pc Ls (.null :: rest)) rfl rfl (hb hs.2.1 h1)⟩) G
theorem Go.checkcastNull {idx : Nat} (hd : Dx code pc (.checkcast idx) 3 pc') (G : Go l Z a0 EL b n0 own code maxL ret nm R W0 Q D S cells slots pc' Ls (.null :: rest)) : Go l Z a0 EL b n0 own code maxL ret nm R W0 Q D S cells slots pc Ls (.null :: rest) := by
  obtain ⟨h1, rfl⟩ := hd
  exact Go.same (fun {p e s m args below meth c vm0 T locs} hs X hZ _ hH => ⟨_, X, rfl, X.checkcastNull hs.1 (g := mkF m pc Ls (.null :: rest)) rfl rfl (hb hs.2.1 h1)⟩) G
/-- a class whose chain of superclasses misses K, K known by what is said of its objects -/
theorem NSroot {O K : String} {n : Nat} (w : (Jvm.Cond.noSuperclass O).before a0 Z = true) (wk : (Jvm.Cond.instantiable K n).before a0 Z = true) (hn : O ≠ K) : NS Z O K := by
  obtain ⟨c, k, h1, h2, h3, -⟩ := Cond.noSuperclass_spec w
  obtain ⟨t, kt, g1, -⟩ := Cond.instantiable_spec wk
  have hne := ids_ne h1 g1 hn
  exact ⟨c, t, h1, g1, fun fuel => by cases fuel <;> simp [Vm.isSubclassAux, hne, h2, h3]⟩
theorem NSno {C S K : String} {n : Nat} (w : (Jvm.Cond.superclass C S).before a0 Z = true) (wk : (Jvm.Cond.instantiable K n).before a0 Z = true) (N : NS Z C K) (hn : C ≠ K) : ∃ c t, Z.vm.findClass C = some c ∧ Z.vm.findClass K = some t ∧ Z.vm.assignable c t = false := by
  obtain ⟨c, t, h0, g0, n3⟩ := N
  obtain ⟨-, k, -, -, h2, -, -, h5, -, -⟩ := Cond.superclass_spec h0 w
  obtain ⟨t', kt, g1, g2, g5, g7, -⟩ := Cond.instantiable_spec wk
  cases g0.symm.trans g1
  have g8 : kt.isInterface = false := by simp at g7; exact g7.1
  have hne := ids_ne h0 g0 hn
  refine ⟨c, t, h0, g0, ?_⟩
  show Z.vm.assignableAux (255 + 1) c t = false
  simp [Vm.assignableAux, hne, h2, g2, h5, g5, g8, Vm.isSubclass, n3]
/-! the end of a body -/
theorem Go.retCore {v : Option Value} (hQ : Q v D S) (hc : cells ≤ R.cells) (hl : slots ≤ R.slots) (hv : ret = none → v = none)
    (H : ∀ {p : Program} {e : Env} {s : State} {m : MethodId} {args : Array Value} {below : List Frame} {meth : Method} {c : Code} {vm0 : Vm} {T : State} {locs : List Loc}, Sst Z own code maxL ret nm p m meth c vm0 below → Stand p l e R (s.setVm vm0) m args below meth c T locs cells slots → ∀ fs, (∀ (f : JFrame) (acts : List Action), f.method = m → f.locked = none → f.entered = [] → (doReturn e (T.setTop f) acts v).1 = T.setFrames fs) → Steps p.tables e below (T.setTop (mkF m pc Ls st)) (T.setFrames fs)) :
    Go l Z a0 EL b n0 own code maxL ret nm R W0 Q D S cells slots pc Ls st := by
  intro fr p e s m args below meth c vm0 T locs hs X I
  obtain ⟨⟨e1, e2, ⟨k0, e3, e4⟩, e5⟩, ⟨c1, c2, c3, c4⟩, hH, i4, i5, i6⟩ := I
  have hlk : meth.locks = false := hs.2.2.2.2.2.1.1
  obtain ⟨fs, k1, k2, k3, k4⟩ := X.leaveW e3.1 e4 (v := v) (fun q => hv (hs.2.2.2.1.symm.trans q))
  have hA := CHv.at X e2 e1 c1.1
  refine ⟨T.setFrames fs, v, H hs X fs k1, k2, k3, locs, ⟨D, S, hQ, hH, fun x hx => ?_, i5, c4, c2, c3, c1.trans hA, fun q => State.WarmedH.trans (e5 q) X.warmed⟩, ?_⟩
  · obtain ⟨r1, r2, r3, r4⟩ := i4 x hx
    exact ⟨r1, hA.safe (hH.1 x hx).lt r2, r3, r4⟩
  · obtain ⟨a1, a2, a3, a4⟩ := k4
    exact ⟨a1, a2, a3, a4.mono hc hl⟩
theorem Go.retB {t : FieldType} {z z' : Int32} (hd : Dx code pc .ireturn 1 pc') (ht : t = .boolean ∨ t = .byte ∨ t = .char ∨ t = .short) (hz : nar t z = z') (hQ : Q (some (.int z')) D S) (hc : cells ≤ R.cells := by exact Nat.le_of_ble_eq_true rfl) (hl : slots ≤ R.slots := by exact Nat.le_of_ble_eq_true rfl) :
    Go l Z a0 EL b n0 own code maxL (some t) nm R W0 Q D S cells slots pc Ls (.int z :: rest) := by
  obtain ⟨h1, rfl⟩ := hd
  subst hz
  exact Go.retCore hQ hc hl (fun q => by cases q) (fun {p e s m args below meth c vm0 T locs} hs X fs hfs => retN X hs.1 hs.2.2.2.1 ht (hb hs.2.1 h1) hfs)
theorem Go.retI {z : Int32} (hd : Dx code pc .ireturn 1 pc') (hQ : Q (some (.int z)) D S) (hc : cells ≤ R.cells := by exact Nat.le_of_ble_eq_true rfl) (hl : slots ≤ R.slots := by exact Nat.le_of_ble_eq_true rfl) :
    Go l Z a0 EL b n0 own code maxL (some .int) nm R W0 Q D S cells slots pc Ls (.int z :: rest) := by
  obtain ⟨h1, rfl⟩ := hd
  exact Go.retCore hQ hc hl (fun q => by cases q) (fun {p e s m args below meth c vm0 T locs} hs X fs hfs => retOut X hs.1 hs.2.2.2.1 rfl (Or.inl ⟨rfl, Or.inl rfl, z, rfl⟩) (hb hs.2.1 h1) hfs)
theorem Go.retL {z : Int64} (hd : Dx code pc .lreturn 1 pc') (hQ : Q (some (.long z)) D S) (hc : cells ≤ R.cells := by exact Nat.le_of_ble_eq_true rfl) (hl : slots ≤ R.slots := by exact Nat.le_of_ble_eq_true rfl) :
    Go l Z a0 EL b n0 own code maxL (some .long) nm R W0 Q D S cells slots pc Ls (.long z :: rest) := by
  obtain ⟨h1, rfl⟩ := hd
  exact Go.retCore hQ hc hl (fun q => by cases q) (fun {p e s m args below meth c vm0 T locs} hs X fs hfs => retOut X hs.1 hs.2.2.2.1 rfl (Or.inr (Or.inl ⟨rfl, rfl, z, rfl⟩)) (hb hs.2.1 h1) hfs)
theorem Go.retA {t : FieldType} {w : Value} (hd : Dx code pc .areturn 1 pc') (hQ : Q (some w) D S) (ht : t.isReference = true := by rfl) (hw : w.isRef = true := by rfl) (hn : narrow t w = w := by rfl) (hc : cells ≤ R.cells := by exact Nat.le_of_ble_eq_true rfl) (hl : slots ≤ R.slots := by exact Nat.le_of_ble_eq_true rfl) :
    Go l Z a0 EL b n0 own code maxL (some t) nm R W0 Q D S cells slots pc Ls (w :: rest) := by
  obtain ⟨h1, rfl⟩ := hd
  exact Go.retCore hQ hc hl (fun q => by cases q) (fun {p e s m args below meth c vm0 T locs} hs X fs hfs => retOut X hs.1 hs.2.2.2.1 hn (Or.inr (Or.inr (Or.inr (Or.inr ⟨rfl, ht, hw⟩)))) (hb hs.2.1 h1) hfs)
theorem Go.retV (hd : Dx code pc .return_ 1 pc') (hQ : Q none D S) (hc : cells ≤ R.cells := by exact Nat.le_of_ble_eq_true rfl) (hl : slots ≤ R.slots := by exact Nat.le_of_ble_eq_true rfl) :
    Go l Z a0 EL b n0 own code maxL none nm R W0 Q D S cells slots pc Ls [] := by
  obtain ⟨h1, rfl⟩ := hd
  exact Go.retCore hQ hc hl (fun _ => rfl) (fun {p e s m args below meth c vm0 T locs} hs X fs hfs => X.returnOut hs.1 hs.2.2.2.1 (hb hs.2.1 h1) hfs)
/-! a String constant -/
abbrev sob (c : Addr) : Ob := .inl ("java/lang/String", [("java/lang/String", "value", "[B", .ref c), ("java/lang/String", "coder", "B", .int 0)])
def LayS (Z : State) (a0 : Array Value) : Prop := (Jvm.Cond.laysFinal "java/lang/String" "java/lang/String" "value" "[B").before a0 Z = true ∧ (Jvm.Cond.laysFinal "java/lang/String" "java/lang/String" "coder" "B").before a0 Z = true
theorem LayS.nodup (h : LayS Z a0) : [Jvm.RoadKit.slotOf Z "java/lang/String" "value" "[B", Jvm.RoadKit.slotOf Z "java/lang/String" "coder" "B"].Nodup := by
  have q := slot_ne (Or.inr h.1) (Or.inr h.2) (by decide) (t := .array .byte) (t' := .byte) (by decide) (by decide)
  simp [q]
theorem knA_of_arv {h : Heap} {a : Addr} {k : ClassId} {z : Int32} {vs : List Value} {d : Value} {ty : FieldType} (F : Arv Z h a k ty z vs d) (hz : z.toNatClampNeg = vs.length) (hlt : vs.length < 2147483648) (hty : ∀ C, ty ≠ .object C) (hX : exB = true → ty = .byte → Exa Z h a "[B") : KnA Z h a ty vs := by
  obtain ⟨c, A, -, h1, -, H, G⟩ := F
  have e : c.slots = vs.toArray := by
    apply Array.ext_getElem?
    intro i
    by_cases q : i < c.slots.size
    · rw [H i q]
      have : i < vs.length := by omega
      simp [List.getD, this]
    · rw [Array.getElem?_eq_none (by omega)]
      simp; omega
  refine ⟨c, A, e, hlt, fun v hv => ?_, fun C q => absurd q (hty C), hX⟩
  obtain ⟨i, hi, rfl⟩ := List.getElem_of_mem hv
  have := G i (by omega)
  simpa [List.getD, hi] using this
/-- the array of a String constant is exactly a '[B' -/
theorem constExa {s : State} {vm : Vm} {h : Heap} {idx : Nat} {text : String} {a cb : Addr} {mc : ClassId} (hW : Z.Warmed39 vm) (hf : vm.findClass own = some mc) (w : (Jvm.Cond.stringLink own idx text).before a0 Z = true) (hL : RoadKit.Lit (s.setVm vm) own idx a) (hmem : (own, idx) ∈ EL) (hC : CHv Z EL vm h)
    (F : Fld Z h a "java/lang/String" "value" "[B" (.ref cb)) : Exa Z h cb "[B" := by
  have hal : Z.vm.Alike vm := hW.alike
  have w2 : (Jvm.Cond.stringLink own idx text).before a0 (Wst Z vm h) = true := mvS (s := { Z with heap := h }) hW w
  obtain ⟨k0, cf, i, units, hk, hcf, hp, hu, -⟩ := Cond.stringLink_spec (s := Wst Z vm h) hf w2
  have hk' : vm.classes[mc]? = some k0 := hk
  have hr : k0.resolved[idx]? = some (some (.string a)) := by
    have q : (s.setVm vm).resolvedAt? own idx = some (.string a) := hL
    have hf' : vm.findClass own = some mc := hf
    simp only [State.resolvedAt?, State.vm_setVm, hf', hk', Option.bind_eq_bind, Option.bind_some] at q
    cases e : k0.resolved[idx]? with
    | none => simp [e] at q
    | some o => cases o <;> simp [e] at q ⊢; exact q
  obtain ⟨q, hqa, G⟩ := SlB.of (hC _ hmem units a ⟨mc, k0, cf, i, hf, hk', hcf, hp, hu, Or.inl hr⟩)
  subst hqa
  have hd := G.hd
  have ha := G.ha
  obtain ⟨cS, ⟨⟨-, -, -, ⟨cv, kv, iv, f1, -⟩, -, -, -, v1, -, -, s11, -⟩, -⟩, -, hB, -⟩ := G
  obtain ⟨kv', z4⟩ := ff_back (U := Wst Z vm h) hal f1
  obtain ⟨cell, cf2, k2, i2, f2, g1, g2, g3⟩ := F
  cases ha.symm.trans g1
  have e4 := z4.symm.trans g2
  simp only [Option.some.injEq, Prod.mk.injEq] at e4
  have hBZ : Z.vm.findClass "[B" = some q.SA.cls := by rw [← hal.findClass]; exact hB
  obtain ⟨kb, hkb, -⟩ := Vm.findClass_spec hBZ
  obtain ⟨kb', hkb', ekb⟩ := hal.2.2 _ _ hkb
  obtain ⟨hst, k9, hk9, comp, hk9'⟩ := s11
  have hk9 : vm.classes[q.SA.cls]? = some k9 := hk9
  cases hk9.symm.trans hkb'
  have ev : cb = q.sd := by
    have v2 := g3.2.2.2.2
    rw [← e4.2.2.2, v1] at v2
    simpa using v2.symm
  subst ev
  exact ⟨q.SA, kb, hd, hBZ, hkb, by cases hq : q.SA.vm <;> first | rfl | exact absurd hq (hst _), fun ho => by rw [ekb] at hk9'; rw [ho] at hk9'; cases hk9'⟩
theorem Go.ldcStr {idx n : Nat} {text : String} {vs : List Value} (hd : Dx code pc (.ldc idx) 2 pc') (w : (Jvm.Cond.stringLink own idx text).before a0 Z = true) (wS : ∀ a ∈ Bundle.stringAtoms, a.before a0 Z = true) (hmem : (own, idx) ∈ EL) (hb1 : b = true) (hlay : LayS Z a0)
    (ht : (∀ c ∈ text.toList, c.toNat < 256) ∧ text.toList.map (fun c => Value.int (Jvm.Lit.byteI c.toNat.toUInt16)) = vs) (hn : 4 * text.toList.length ≤ n) (hbig : n ≤ 536870912) (hc : cells + 2 ≤ R.cells := by exact Nat.le_of_ble_eq_true rfl) (hl : slots + (n + 4) ≤ R.slots := by exact Nat.le_of_ble_eq_true rfl)
    (G : ∀ a c, Go l Z a0 EL b n0 own code maxL ret nm R W0 Q D ((a, sob c) :: (c, .inr (.byte, vs)) :: S) (cells + 2) (slots + (n + 4)) pc' Ls (.ref a :: st)) : Go l Z a0 EL b n0 own code maxL ret nm R W0 Q D S cells slots pc Ls st := by
  obtain ⟨h1, rfl⟩ := hd
  intro fr p e s m args below meth c vm0 T locs hs X I
  obtain ⟨⟨e1, e2, ⟨k0, e3, e4⟩, e5⟩, ⟨c1, c2, c3, c4⟩, hH, i4, i5, i6⟩ := I
  have hlen : vs.length = text.toList.length := by rw [← ht.2, List.length_map]
  have hvl : vs.length < 2147483648 := by omega
  have hz : (vs.length.toInt32).toNatClampNeg = vs.length := by
    have q : vs.length.toInt32.toInt = vs.length := len_toInt hvl
    simp only [Int32.toNatClampNeg, q]; omega
  have hz0 : ¬ vs.length.toInt32 < 0 := by
    have q : vs.length.toInt32.toInt = vs.length := len_toInt hvl
    simp only [Int32.lt_iff_toInt_lt, q, Int32.reduceToInt]; omega
  obtain ⟨a, T', h', k1, cb, k, X', rfl, E, hS', hk', hW', hf', F1, F2, F3, F4, l1, l2, hC, hL, hne, st⟩ := ldcCH X hs.1 e2 hs.2.2.2.2.2.2 w wS rfl e3.1 e4 e1 hmem c1.1 ht hz0 hz (g := mkF m pc Ls st) rfl (hb hs.2.1 h1) hn hbig hc hl
  have sf : ∀ x ∈ D, Safe Z EL T'.vm T'.heap x.1 := fun x hx => hC.safe (hH.1 x hx).lt (i4 x hx).2.1
  have ff : ∀ y, fr y → Safe Z EL T'.vm T'.heap y := fun y hy => hC.safe (Nat.lt_of_lt_of_le (i6 y hy).2.2 c1.2.1) (i6 y hy).2.1
  obtain ⟨t, v, k', r⟩ := G a cb fr p e s m args below meth c T'.vm T' locs ⟨hs.1, hs.2.1, hs.2.2.1, hs.2.2.2.1, hs.2.2.2.2.1, hs.2.2.2.2.2.1, hf'⟩ X'
    ⟨⟨e1, hW', ⟨k1, ⟨hS', e3.2⟩, hk'⟩, fun q => by rw [hb1] at q; cases q⟩, ⟨c1.trans hC, c2, c3.ext E, c4.ext E⟩, ⟨fun x hx => (hH.1 x hx).ext E, fun x hx => by
        rcases List.mem_cons.mp hx with rfl | hx
        · refine ⟨F1, fun f hf => ?_, hlay.nodup, fun _ q => absurd (show "java/lang/String" = excC from q) (by decide)⟩
          rcases List.mem_cons.mp hf with rfl | hf
          · exact F3
          · cases List.mem_singleton.mp hf; exact F2
        · rcases List.mem_cons.mp hx with rfl | hx
          · exact knA_of_arv F4 hz hvl (by simp) (fun _ _ => constExa hW' hf' w hL hmem hC.1 F3)
          · exact (hH.2.1 x hx).ext E, hH.2.2.1, fun x hx q => by
        obtain ⟨z, hz', ez⟩ := List.mem_map.mp q
        rcases List.mem_cons.mp hx with rfl | hx
        · exact (hne _ (sf z hz')).1 ez
        · rcases List.mem_cons.mp hx with rfl | hx
          · exact (hne _ (sf z hz')).2 ez
          · exact hH.2.2.2 x hx q⟩, fun x hx => ⟨(i4 x hx).1, sf x hx, (i4 x hx).2.2⟩, fun x hx q => by
        rcases List.mem_cons.mp hx with rfl | hx
        · exact (hne _ (ff _ q)).1 rfl
        · rcases List.mem_cons.mp hx with rfl | hx
          · exact (hne _ (ff _ q)).2 rfl
          · exact i5 x hx q, fun y hy => ⟨(i6 y hy).1, ff y hy, (i6 y hy).2.2⟩⟩
  exact ⟨t, v, st t k', r⟩
/-! calls -/
theorem Kf.at {s : State} {vm0 : Vm} {p : Program} {e : Env} {below : List Frame} {m : MethodId} {args : Array Value} {meth : Method} {c : Code} {T : State} {locs : List Loc} {cells slots : Nat} (hZ : Z.Warmed39 vm0) (Y : Stand p l e R (s.setVm vm0) m args below meth c T locs cells slots) {g : JFrame} (hg : g.method = m) (hK : Kf Z below) : Kf Z (T.setTop g).frames := fun q => by
  have a1 : Z.vm.Alike vm0 := hZ.alike
  have a2 : vm0.Alike T.vm := Y.warmed.alike
  obtain ⟨k1, k2⟩ := Jvm.Free.known_frames Y hg (Vm.MethodsKnown.alikeC a1 (hK q).1) (Vm.FramesKnown.alikeC a1 (hK q).2)
  exact ⟨Vm.MethodsKnown.alikeC (a1.trans a2).symm k1, Vm.FramesKnown.alikeC (a1.trans a2).symm k2⟩
theorem Met.backS {y : MethodName} {bytes : ByteArray} {mL : Nat} {rt : Option FieldType} {rm : Room} {as' : List Value} {D0 S0 : List Ent} {Q' : Option Value → List Ent → List Ent → Prop} {p : Program} {e : Env} {below : List Frame} {s : State} {vm0 : Vm} {args : Array Value} {len W : Nat} (hM : Met l Z a0 EL b n0 y bytes mL rt [] rm as' D0 S0 Q') (fr : Addr → Prop)
    (hZ : Z.Warmed39 vm0) (hKf : Kf Z below) (wc : (Jvm.Cond.code y bytes mL rt).before a0 Z = true) (wz : (Jvm.Cond.initialized y.cls).before a0 Z = true) (hf : rm.frames + 1 ≤ R.frames) (hl : W + (mL + 11) + rm.locals ≤ R.locals) :
    BackS l R p e below (s.setVm vm0) args y len W (fun A a => a = as'.toArray ∧ PreC Z a0 EL n0 fr D0 S0 A.U ∧ A.cells + rm.cells ≤ R.cells ∧ A.slots + rm.slots ≤ R.slots)
      (fun A _ v B => ∃ L, PostC Z EL b n0 (D0.map Prod.fst) fr Q' A.U B.U v L ∧ B.locs = A.locs ++ L ∧ B.cells = A.cells + rm.cells ∧ B.slots = A.slots + rm.slots) :=
  BackS.of_freeWG (bytes := bytes) (maxL := mL) (ret := rt) (E := fun _ first o t L k n => k = rm.cells ∧ n = rm.slots ∧ ∃ v, o = .returned v ∧ PostC Z EL b n0 (D0.map Prod.fst) fr Q' first t v L) (hM fr) hf hl
    (fun m meth c A a Y hp => have hU : Z.Warmed39 A.U.vm := wtrans (s := s.setVm vm0) hZ Y.warmed
      ⟨by show (Jvm.Cond.and _ .tt).before a A.U = true; rw [Cond.before_and, mv hU wc]; rfl, mv hU wc, mv hU wz, hp.2.2.1, hp.2.2.2⟩)
    (fun m meth c A a g mk Y hp => ⟨hp.1, hp.2.1⟩) (fun m meth c A a g mk Y _ hg => Kf.at hZ Y hg hKf)
    (fun _ _ _ _ ⟨v, L, h1, h2, h3⟩ => ⟨L, _, _, h3, rfl, rfl, v, h1, h2⟩)
    (fun m meth c A a g mk v t L k n Y hp _ _ ⟨e1, e2, v', e3, e4⟩ => by cases e3; subst e1 e2; exact ⟨L, e4, rfl, rfl, rfl⟩)
/-! methods with an exception table whose walk throws nothing -/
theorem backSWith {y : MethodName} {s : State} {sargs : Array Value} {p : Program} {e : Env} {below : List Frame} {len W : Nat} {hs : List (Nat × Nat × Nat × Nat)} {Pre : Pt → Array Value → Prop} {Post : Pt → Array Value → Option Value → Pt → Prop} {S : Spec} {P : Array Value → State → Prop}
    {Q : Array Value → State → Outcome → State → Prop} {bytes : ByteArray} {mL : Nat} {rt : Option FieldType} {E : Array Value → State → Outcome → State → List Loc → Nat → Nat → Prop} (hM : MetFree l y S P (fun _ _ bl _ _ => Kf Z bl) Q) (hKf : ∀ m meth c (A : Pt) (g : JFrame), Stand p l e R s m sargs below meth c A.U A.locs A.cells A.slots → g.method = m → Kf Z (A.U.setTop g).frames)
    (hf : S.room.frames + 1 ≤ R.frames) (hlo : W + (mL + 11) + S.room.locals ≤ R.locals)
    (hpre : ∀ m meth c (A : Pt) a, Stand p l e R s m sargs below meth c A.U A.locs A.cells A.slots → Pre A a → S.pre.before a A.U = true ∧ (Jvm.Cond.codeWith y bytes mL rt hs).before a A.U = true ∧ (Jvm.Cond.initialized y.cls).before a A.U = true ∧ A.cells + S.room.cells ≤ R.cells ∧ A.slots + S.room.slots ≤ R.slots)
    (hP : ∀ (A : Pt) a (g : JFrame) mk, Pre A a → P a (A.U.calling g mk a))
    (hQ : ∀ a first o t, Q a first o t → ∃ L k n, ReturnedEndW first o t L k n ∧ E a first o t L k n)
    (hpost : ∀ (A : Pt) a (g : JFrame) mk v t L k n, Pre A a → E a (A.U.calling g mk a) (.returned v) t L k n → Post A a v ⟨(({ A.U with heap := t.heap, slotsUsed := t.slotsUsed } : State).setVm t.vm), A.locs ++ L, A.cells + k, A.slots + n⟩) :
    BackS l R p e below s sargs y len W Pre Post := by
  intro m meth c A g ig mk a X hg hsize hdg hW hn hp
  obtain ⟨q1, q2, q3, q4, q5⟩ := hpre m meth c A a X hp
  obtain ⟨U, La, c0, s0⟩ := A
  dsimp only [Pt.U, Pt.locs, Pt.cells, Pt.slots] at q1 q2 q3 q4 q5 X hn ⊢
  obtain ⟨mY, methY, cY, hnY, hmY, hcY, -, hlY, -⟩ := Cond.codeWith_spec q2
  cases hn.symm.trans hnY
  obtain ⟨kY, hkY, -⟩ := className_of_methodNamed hn
  have h : At U g.method c below := by rw [hg]; exact X.here
  have happ : S.appliesLoose y e.platform (U.calling g mk a) = true :=
    Spec.appliesLoose_calling (g := g) h hdg hn hkY (Cond.initialized_spec (findClass_of_methodNamed hn) hkY q3) (X.room_calling (g := g) (R' := S.room) hsize hmY hcY hf (by rw [hlY]; omega) q4 q5) q1
  obtain ⟨mid, hmid⟩ := h.above
  have hfr : (U.setTop g).frames = (.java g :: mid) ++ below := by rw [State.frames_setTop' g h.top, hmid]; rfl
  obtain ⟨o, t, hsteps, -, hend, hq⟩ := Steps.callFree hM p X.admits X.cas X.clock (acts := []) hfr happ (hP ⟨U, La, c0, s0⟩ a g mk hp) (hKf m meth c ⟨U, La, c0, s0⟩ g X hg)
  have hq : Q a (U.calling g mk a) o t := hq
  rw [State.frames_setTop' g h.top] at hend
  obtain ⟨L, k, n, hfe, hE⟩ := hQ _ _ _ _ hq
  obtain ⟨⟨v, rfl⟩, hW2, hB2, e2, r2, r3, r4, r5, r6⟩ := id hfe
  have e3 : t = ({ (U.calling g mk a).setFrames t.frames with heap := t.heap, slotsUsed := t.slotsUsed } : State).setVm t.vm := by
    have q : t = ({ t with vm := (U.calling g mk a).vm } : State).setVm t.vm := rfl
    rw [e2] at q
    exact q
  obtain ⟨c2, i2, len2, hc2, hd2, hf2⟩ := hend
  have hW' : U.Warmed39 t.vm := hW2
  have hcc : c2 = c := Option.some.inj (hc2.symm.trans ((by rw [State.code?_eq, State.code?_eq, hW'.alike.method?] : t.code? g.method = U.code? g.method).trans h.code))
  subst hcc
  have hlen : len2 = len := by rw [hdg] at hd2; cases hd2; rfl
  subst hlen
  obtain ⟨g0, hg0⟩ := Option.isSome_iff_exists.mp h.top
  obtain ⟨r, hr⟩ := State.topJava?_eq_some.mp hg0
  have ht : t = (({ U with heap := t.heap, slotsUsed := t.slotsUsed } : State).setVm t.vm).setTop { g with pc := g.pc + len2, stack := v.toList ++ g.stack } := by
    have hr' : (({ U with heap := t.heap, slotsUsed := t.slotsUsed } : State).setVm t.vm).frames = .java g0 :: r := hr
    refine e3.trans ?_
    rw [hf2, State.calling_eq h.top, State.setFrames_setFrames, State.setTop_of_frames _ hr', hr]
    rfl
  have hsame : U.sameButNew ({ U with heap := t.heap, slotsUsed := t.slotsUsed } : State) L k n := by
    refine ⟨?_, r2, r3, r4, r5, r6⟩
    obtain ⟨z, hz, -⟩ := State.frames_cons hr
    show ({ U with heap := t.heap, slotsUsed := t.slotsUsed } : State) = { U.setFrames U.frames with heap := t.heap, slotsUsed := t.slotsUsed }
    rw [State.setFrames_self hz]
  subst hg
  obtain ⟨X', hS⟩ := X.movedW (T₂ := (({ U with heap := t.heap, slotsUsed := t.slotsUsed } : State).setVm t.vm)) ((X.here.setHeapUsed t.heap t.slotsUsed).setVm hW'.alike) X.tail rfl rfl hW' hB2 hsame
  refine ⟨v, ⟨(({ U with heap := t.heap, slotsUsed := t.slotsUsed } : State).setVm t.vm), La ++ L, c0 + k, s0 + n⟩, X', hS, hsame.2.1, hpost ⟨U, La, c0, s0⟩ a g mk v t L k n hp hE, ?_⟩
  show Steps p.tables e below _ ((({ U with heap := t.heap, slotsUsed := t.slotsUsed } : State).setVm t.vm).setTop { g with pc := g.pc + len2, stack := v.toList ++ g.stack })
  rw [← ht]
  exact hsteps
def MetH (l : Launch) (Z : State) (a0 : Array Value) (EL : List (String × Nat)) (b : Bool) (n0 : Nat) (y : MethodName) (bytes : ByteArray) (maxL : Nat) (ret : Option FieldType) (hs : List (Nat × Nat × Nat × Nat)) (rm : Room) (as' : List Value) (D S : List Ent) (Q : Option Value → List Ent → List Ent → Prop) : Prop :=
  ∀ fr : Addr → Prop, MetFree l y (head1 [Jvm.Cond.codeWith y bytes maxL ret hs] rm) (fun a U => a = as'.toArray ∧ PreC Z a0 EL n0 fr D S U) (fun _ _ bl _ _ => Kf Z bl)
    (fun _ U o U' => ∃ v L, o = .returned v ∧ PostC Z EL b n0 (D.map Prod.fst) fr Q U U' v L ∧ ReturnedEndW U o U' L rm.cells rm.slots)
theorem MetH.of_go {y : MethodName} {bytes : ByteArray} {hs : List (Nat × Nat × Nat × Nat)} {rm : Room} {as' : List Value} (hpf : plainFor y = true) (hL : ∀ m, entryFrame m as'.toArray maxL = mkF m 0 Ls [])
    (G : Go l Z a0 EL b n0 own bytes maxL ret nm rm (D.map Prod.fst) Q D S 0 0 0 Ls []) (ho : y.cls = own := by rfl) (hn : y.name = nm := by rfl) : MetH l Z a0 EL b n0 y bytes maxL ret hs rm as' D S Q := by
  subst ho hn
  intro fr
  refine MetFree.of_bodySF hpf hisWith ?_
  intro p e s m args below meth c s₁ Bd hml hP hK
  obtain ⟨rfl, q1, q2, q3, q4, q5, q6, q7, q8⟩ := hP
  have X0 : Stand p l e rm s m as'.toArray below meth c s₁ [] 0 0 := Stand.of_body Bd
  have e0 : s₁.heap = s.heap := by rw [Bd.state]; rfl
  obtain ⟨t, v, st, h1, h2, L, hp, hr⟩ := G fr p e s m _ below meth c s.vm s₁ [] ⟨Bd.exec, Bd.bytes, hml, Bd.returns, (name_of_methodNamed Bd.named Bd.method).1, ⟨Bd.notSynchronized, hK⟩, findClass_of_methodNamed Bd.named⟩ X0
    (by
      rw [e0]
      exact ⟨⟨q1, q2, ⟨s.heap.size, ⟨(State.WarmedH.refl s).since _, q4⟩, Nat.le_refl _⟩, fun _ => State.WarmedH.refl s⟩, ⟨CHr.refl q3, Fr.nil _, q4, Keep.refl _ _⟩, q5, fun x hx => ⟨(q6 x hx).1, (q6 x hx).2.1, (q6 x hx).2.2, Or.inl (List.mem_map.mpr ⟨x, hx, rfl⟩)⟩, q7, q8⟩)
  exact ⟨t, _, castTop (hL m) st, h1, h2, v, L, rfl, hp, hr⟩
theorem MetH.backS {y : MethodName} {bytes : ByteArray} {mL : Nat} {rt : Option FieldType} {hs : List (Nat × Nat × Nat × Nat)} {rm : Room} {as' : List Value} {D0 S0 : List Ent} {Q' : Option Value → List Ent → List Ent → Prop} {p : Program} {e : Env} {below : List Frame} {s : State} {vm0 : Vm} {args : Array Value} {len W : Nat} (hM : MetH l Z a0 EL b n0 y bytes mL rt hs rm as' D0 S0 Q') (fr : Addr → Prop)
    (hZ : Z.Warmed39 vm0) (hKf : Kf Z below) (wc : (Jvm.Cond.codeWith y bytes mL rt hs).before a0 Z = true) (wz : (Jvm.Cond.initialized y.cls).before a0 Z = true) (hf : rm.frames + 1 ≤ R.frames) (hl : W + (mL + 11) + rm.locals ≤ R.locals) :
    BackS l R p e below (s.setVm vm0) args y len W (fun A a => a = as'.toArray ∧ PreC Z a0 EL n0 fr D0 S0 A.U ∧ A.cells + rm.cells ≤ R.cells ∧ A.slots + rm.slots ≤ R.slots)
      (fun A _ v B => ∃ L, PostC Z EL b n0 (D0.map Prod.fst) fr Q' A.U B.U v L ∧ B.locs = A.locs ++ L ∧ B.cells = A.cells + rm.cells ∧ B.slots = A.slots + rm.slots) :=
  backSWith (bytes := bytes) (mL := mL) (rt := rt) (hs := hs) (E := fun _ first o t L k n => k = rm.cells ∧ n = rm.slots ∧ ∃ v, o = .returned v ∧ PostC Z EL b n0 (D0.map Prod.fst) fr Q' first t v L) (hM fr) (fun m meth c A g Y hg => Kf.at hZ Y hg hKf) hf hl
    (fun m meth c A a Y hp => have hU : Z.Warmed39 A.U.vm := wtrans (s := s.setVm vm0) hZ Y.warmed
      ⟨by show (Jvm.Cond.and _ .tt).before a A.U = true; rw [Cond.before_and, mv hU wc]; rfl, mv hU wc, mv hU wz, hp.2.2.1, hp.2.2.2⟩)
    (fun A a g mk hp => ⟨hp.1, hp.2.1⟩)
    (fun _ _ _ _ ⟨v, L, h1, h2, h3⟩ => ⟨L, _, _, h3, rfl, rfl, v, h1, h2⟩)
    (fun A a g mk v t L k n hp ⟨e1, e2, v', e3, e4⟩ => by cases e3; subst e1 e2; exact ⟨L, e4, rfl, rfl, rfl⟩)
theorem Go.callCore {y : MethodName} {rm : Room} {as' : List Value} {D0 Dr S0 : List Ent} {Q' : Option Value → List Ent → List Ent → Prop} {len W : Nat} (lend : Bool)
    (hM : ∀ (fr : Addr → Prop) {p : Program} {e : Env} {below : List Frame} {s : State} {vm0 : Vm} {args : Array Value}, Z.Warmed39 vm0 → Kf Z below → BackS l R p e below (s.setVm vm0) args y len W (fun A a => a = as'.toArray ∧ PreC Z a0 EL n0 fr D0 S0 A.U ∧ A.cells + rm.cells ≤ R.cells ∧ A.slots + rm.slots ≤ R.slots)
      (fun A _ v B => ∃ L, PostC Z EL b n0 (D0.map Prod.fst) fr Q' A.U B.U v L ∧ B.locs = A.locs ++ L ∧ B.cells = A.cells + rm.cells ∧ B.slots = A.slots + rm.slots))
    (hce : cells + rm.cells ≤ R.cells) (hsl : slots + rm.slots ≤ R.slots)
    (hD : D = D0 ++ Dr) (hS : ∀ x ∈ S0, x ∈ S ∨ (lend = true ∧ x ∈ Dr))
    (H : ∀ {p : Program} {e : Env} {s : State} {m : MethodId} {args : Array Value} {below : List Frame} {meth : Method} {c : Code} {vm0 : Vm} {T : State} {locs : List Loc}, Sst Z own code maxL ret nm p m meth c vm0 below → Stand p l e R (s.setVm vm0) m args below meth c T locs cells slots → Z.Warmed39 (s.setVm vm0).vm → HH Z T.heap D S →
      ∀ {Pre : Pt → Array Value → Prop} {Post : Pt → Array Value → Option Value → Pt → Prop}, BackS l R p e below (s.setVm vm0) args y len W Pre Post → (∀ vm₁, (s.setVm vm0).WarmedH vm₁ → Pre ⟨T.setVm vm₁, locs, cells, slots⟩ as'.toArray) →
      ∃ (v : Option Value) (vm₁ : Vm) (B : Pt), (s.setVm vm0).WarmedH vm₁ ∧ Stand p l e R ((s.setVm vm0).setVm B.U.vm) m args below meth c B.U B.locs B.cells B.slots ∧ (s.setVm vm0).Since B.U.vm B.U.heap.size ∧ T.heap.size ≤ B.U.heap.size ∧ Post ⟨T.setVm vm₁, locs, cells, slots⟩ as'.toArray v B ∧
        Steps p.tables e below (T.setTop (mkF m pc Ls st)) (B.U.setTop (mkF m pc' Ls (v.toList ++ rest))))
    (G : ∀ v D' S', Q' v D' S' → Go l Z a0 EL b n0 own code maxL ret nm R W0 Q (D' ++ Dr) (bif lend then S else S' ++ S) (cells + rm.cells) (slots + rm.slots) pc' Ls (v.toList ++ rest)) : Go l Z a0 EL b n0 own code maxL ret nm R W0 Q D S cells slots pc Ls st := by
  intro fr p e s m args below meth c vm0 T locs hs X I
  obtain ⟨⟨e1, e2, ⟨k0, e3, e4⟩, e5⟩, ⟨c1, c2, c3, c4⟩, hH, i4, i5, i6⟩ := I
  subst hD
  have nd := hH.2.2.1
  rw [List.map_append, List.nodup_append] at nd
  obtain ⟨nd0, ndr, ndx⟩ := nd
  have sep : ∀ x ∈ D0, x.1 ∉ Dr.map Prod.fst := fun x hx q => ndx _ (List.mem_map.mpr ⟨x, hx, rfl⟩) _ q rfl
  have sep' : ∀ x ∈ Dr, x.1 ∉ D0.map Prod.fst := fun x hx q => ndx _ q _ (List.mem_map.mpr ⟨x, hx, rfl⟩) rfl
  have hA : ∀ vm₁, (s.setVm vm0).WarmedH vm₁ → CHr Z EL vm0 T.heap vm₁ T.heap := fun vm₁ hW => by
    have q := CHv.later (h' := T.heap) e2 (hW := (show (Wst Z vm0 T.heap).Warmed39 vm₁ from hW.wide)) e1 ⟨Nat.le_refl _, fun _ _ q => q⟩ (Or.inl hW.interned_eq) c1.1
    exact ⟨q.1, Nat.le_refl _, q.2⟩
  have hss : s.heap.size ≤ T.heap.size := c1.2.1
  have hpre : ∀ vm₁, (s.setVm vm0).WarmedH vm₁ → PreC Z a0 EL n0 (fun y => fr y ∨ (lend = false ∧ y ∈ Dr.map Prod.fst)) D0 S0 (T.setVm vm₁) := fun vm₁ hW => by
    have A := hA vm₁ hW
    refine ⟨e1, wtrans (s := s.setVm vm0) (U := T.setVm vm₁) e2 hW, A.1, c3, hH.sub (fun x hx => List.mem_append_left _ hx) nd0 (fun x hx => ?_), fun x hx => ?_, fun x hx q => ?_, fun y hy => ?_⟩
    · rcases hS x hx with q | ⟨-, q⟩
      · exact Or.inl q
      · exact Or.inr ⟨List.mem_append_right _ q, sep' x q⟩
    · obtain ⟨r1, r2, r3, r4⟩ := i4 x (List.mem_append_left _ hx)
      exact ⟨r1, A.safe (hH.1 x (List.mem_append_left _ hx)).lt r2, fun q => q.elim r3 fun r => sep x hx r.2⟩
    · rcases hS x hx with r | ⟨r0, r⟩
      · rcases q with q | ⟨-, q⟩
        · exact i5 x r q
        · exact hH.2.2.2 x r (by rw [List.map_append]; exact List.mem_append_right _ q)
      · rcases q with q | ⟨q0, -⟩
        · exact (i4 x (List.mem_append_right _ r)).2.2.1 q
        · rw [r0] at q0; cases q0
    · rcases hy with hy | ⟨-, hy⟩
      · obtain ⟨r1, r2, r3⟩ := i6 y hy
        exact ⟨r1, A.safe (Nat.lt_of_lt_of_le r3 hss) r2, Nat.lt_of_lt_of_le r3 hss⟩
      · obtain ⟨x, hx, rfl⟩ := List.mem_map.mp hy
        obtain ⟨r1, r2, r3, r4⟩ := i4 x (List.mem_append_right _ hx)
        have lt := (hH.1 x (List.mem_append_right _ hx)).lt
        exact ⟨r1, A.safe lt r2, lt⟩
  obtain ⟨v, vm₁, ⟨U, Lc, kc, nc⟩, hW, X', hS', hg, ⟨L, hP, l1, l2, l3⟩, k⟩ := H hs X e2 hH (hM (fun y => fr y ∨ (lend = false ∧ y ∈ Dr.map Prod.fst)) e2 hs.2.2.2.2.2.1.2) (fun vm₁ hW => ⟨rfl, hpre vm₁ hW, hce, hsl⟩)
  dsimp only [Pt.U, Pt.locs, Pt.cells, Pt.slots] at X' hS' hg hP l1 l2 l3 k
  subst l1 l2 l3
  obtain ⟨D', S', hq, hH', hD', hS'', hK, hFr, hO, hC, hWb⟩ := hP
  have hK : Keep T.heap U.heap (D0.map Prod.fst) := hK
  have hC0 : CHr Z EL vm₁ T.heap U.vm U.heap := hC
  have hC1 : CHr Z EL vm0 T.heap U.vm U.heap := (hA vm₁ hW).trans hC0
  have new' : ∀ x ∈ D', x.1 ∉ Dr.map Prod.fst ∧ (∀ z ∈ S, z.1 ≠ x.1) := fun x hx => by
    rcases (hD' x hx).2.2.2 with q | q
    · refine ⟨fun r => ndx _ q _ r rfl, fun z hz r => hH.2.2.2 z hz ?_⟩
      rw [List.map_append, r]; exact List.mem_append_left _ q
    · have q : T.heap.size ≤ x.1 := q
      refine ⟨fun r => ?_, fun z hz r => ?_⟩
      · obtain ⟨z, hz, ez⟩ := List.mem_map.mp r
        have ez := aN ez; have q := aM q; have := aL (hH.1 z (List.mem_append_right _ hz)).lt; omega
      · have r := aN r; have q := aM q; have := aL (hH.2.1 z hz).lt; omega
  have kdr : ∀ x ∈ Dr, Kn Z U.heap x := fun x hx => (hH.1 x (List.mem_append_right _ hx)).keep hK (sep' x hx)
  have ks : ∀ x ∈ S, Kn Z U.heap x := fun x hx => (hH.2.1 x hx).keep hK (fun q => hH.2.2.2 x hx (by rw [List.map_append]; exact List.mem_append_left _ q))
  have hHH : HH Z U.heap (D' ++ Dr) (bif lend then S else S' ++ S) := by
    refine ⟨fun x hx => (List.mem_append.mp hx).elim (hH'.1 x) (kdr x), fun x hx => ?_, ?_, fun x hx => ?_⟩
    · cases lend
      · exact (List.mem_append.mp hx).elim (hH'.2.1 x) (ks x)
      · exact ks x hx
    · rw [List.map_append, List.nodup_append]
      refine ⟨hH'.2.2.1, ndr, fun a ha b hb e => ?_⟩
      obtain ⟨x, hx, rfl⟩ := List.mem_map.mp ha
      exact (new' x hx).1 (e ▸ hb)
    · have hSs : ∀ x ∈ S, x.1 ∉ (D' ++ Dr).map Prod.fst := fun x hx q => by
        rw [List.map_append, List.mem_append] at q
        rcases q with q | q
        · obtain ⟨z, hz, ez⟩ := List.mem_map.mp q
          exact (new' z hz).2 x hx ez.symm
        · exact hH.2.2.2 x hx (by rw [List.map_append]; exact List.mem_append_right _ q)
      cases lend
      · rcases List.mem_append.mp hx with hx | hx
        · rw [List.map_append, List.mem_append]
          rintro (q | q)
          · exact hH'.2.2.2 x hx q
          · exact hS'' x hx (Or.inr ⟨rfl, q⟩)
        · exact hSs x hx
      · exact hSs x hx
  have hZU : Z.Warmed39 U.vm := State.Warmed39.trans (t := s.setVm vm0) e2 hS'.1
  obtain ⟨t, v', k', r⟩ := G v D' S' hq fr p e s m args below meth c U.vm U (locs ++ L) ⟨hs.1, hs.2.1, hs.2.2.1, hs.2.2.2.1, hs.2.2.2.2.1, hs.2.2.2.2.2.1, by rw [hS'.1.alike.findClass]; exact hs.2.2.2.2.2.2⟩ X'
    ⟨⟨e1, hZU, ⟨U.heap.size, ⟨e3.1.trans hS' (Nat.le_trans e4 hg), e3.2⟩, Nat.le_refl _⟩, fun q => State.WarmedH.trans (State.WarmedH.trans (t := s.setVm vm0) (e5 q) hW) (hWb q)⟩,
      ⟨c1.trans hC1, c2.app hFr, hO, c4.trans hK (fun x hx => by
        obtain ⟨z, hz, rfl⟩ := List.mem_map.mp hx
        exact (i4 z (List.mem_append_left _ hz)).2.2.2)⟩, hHH, fun x hx => by
        rcases List.mem_append.mp hx with hx | hx
        · obtain ⟨r1, r2, r3, r4⟩ := hD' x hx
          refine ⟨r1, r2, fun q => r3 (Or.inl q), ?_⟩
          rcases r4 with q | q
          · obtain ⟨z, hz, ez⟩ := List.mem_map.mp q
            rw [← ez]; exact (i4 z (List.mem_append_left _ hz)).2.2.2
          · exact Or.inr (Nat.le_trans hss q)
        · obtain ⟨r1, r2, r3, r4⟩ := i4 x (List.mem_append_right _ hx)
          exact ⟨r1, hC1.safe (hH.1 x (List.mem_append_right _ hx)).lt r2, r3, r4⟩, fun x hx => by
        cases lend
        · rcases List.mem_append.mp hx with hx | hx
          · exact fun q => hS'' x hx (Or.inl q)
          · exact i5 x hx
        · exact i5 x hx, fun y hy => by
        obtain ⟨r1, r2, r3⟩ := i6 y hy
        exact ⟨r1, hC1.safe (Nat.lt_of_lt_of_le r3 hss) r2, r3⟩⟩
  exact ⟨t, v', k.trans k', r⟩
/-- the state, written anew -/
theorem Go.norm {D2 S2 : List Ent} {c2 s2 pc2 : Nat} {Ls2 : Array Slot} {st2 : List Value} (G : Go l Z a0 EL b n0 own code maxL ret nm R W0 Q D2 S2 c2 s2 pc2 Ls2 st2) (h1 : D = D2 := by rfl) (h2 : S = S2 := by rfl) (h3 : cells = c2 := by rfl) (h4 : slots = s2 := by rfl) (h5 : pc = pc2 := by rfl) (h6 : Ls = Ls2 := by rfl) (h7 : st = st2 := by rfl) :
    Go l Z a0 EL b n0 own code maxL ret nm R W0 Q D S cells slots pc Ls st := by
  subst h1 h2 h3 h4 h5 h6 h7; exact G
section Calls
variable {y : MethodName} {bytes : ByteArray} {mL : Nat} {rt : Option FieldType} {rm : Room} {argsL : List Value} {D0 Dr S0 : List Ent} {Q' : Option Value → List Ent → List Ent → Prop} {idx : Nat} {ps : List FieldType} {rr : Option FieldType}
theorem Go.invokestatic (lend : Bool) (hd : Dx code pc (.invokestatic idx) 3 pc') (w1 : (Jvm.Cond.methodLink own idx y).before a0 Z = true) (w2 : (Jvm.Cond.static y).before a0 Z = true) (w3 : (Jvm.Cond.initialized y.cls).before a0 Z = true) (w4 : (Jvm.Cond.code y bytes mL rt).before a0 Z = true) (hM : Met l Z a0 EL b n0 y bytes mL rt [] rm argsL D0 S0 Q')
    (hp : parseMethodDescriptor y.desc = some ⟨ps, rr⟩) (hlen : argsL.length = ps.length) (hst : st = argsL.reverse ++ rest) (hls : Ls.size = maxL) (hD : D = D0 ++ Dr) (hS : ∀ x ∈ S0, x ∈ S ∨ (lend = true ∧ x ∈ Dr)) (hy : y.cls ≠ "java/lang/invoke/MethodHandle" ∧ y.cls ≠ "java/lang/invoke/VarHandle" := by decide)
    (hf : rm.frames + 1 ≤ R.frames := by exact Nat.le_of_ble_eq_true rfl) (hlo : (rest.map fun v => v.category).sum + (mL + 11) + rm.locals ≤ R.locals := by exact Nat.le_of_ble_eq_true rfl) (hce : cells + rm.cells ≤ R.cells := by exact Nat.le_of_ble_eq_true rfl) (hsl : slots + rm.slots ≤ R.slots := by exact Nat.le_of_ble_eq_true rfl)
    (G : ∀ v D' S', Q' v D' S' → Go l Z a0 EL b n0 own code maxL ret nm R W0 Q (D' ++ Dr) (bif lend then S else S' ++ S) (cells + rm.cells) (slots + rm.slots) pc' Ls (v.toList ++ rest)) : Go l Z a0 EL b n0 own code maxL ret nm R W0 Q D S cells slots pc Ls st := by
  obtain ⟨h1, rfl⟩ := hd
  subst hst
  refine Go.callCore (len := 3) lend (fun fr {_ _ _ _ _ _} hZ hKf => hM.backS fr hZ hKf w4 w3 hf hlo) hce hsl hD hS (fun {p e s m args below meth c vm0 T locs} hs X hZ hH {Pre Post} hB hpre => ?_) G
  exact callSS X hs.1 hs.2.2.2.2.2.2 (mvT hZ w1) (mvT hZ w2) (mvT hZ w3) (mvT hZ w4) hy hB (g := mkF m pc Ls (argsL.reverse ++ rest)) rfl (hls.trans hs.2.2.1.symm) (argsL := argsL) (rest := rest) (lenOf hp hlen) rfl (by show 2 * 0 + _ ≤ _; omega) (hb hs.2.1 h1) hpre
theorem Go.invokeinit {a : Addr} (lend : Bool) (hd : Dx code pc (.invokespecial idx) 3 pc') (hy1 : y.name = "<init>") (w1 : (Jvm.Cond.methodLink own idx y).before a0 Z = true) (w2 : (Jvm.Cond.instanceMethod y).before a0 Z = true) (w3 : (Jvm.Cond.initialized y.cls).before a0 Z = true) (w4 : (Jvm.Cond.code y bytes mL none).before a0 Z = true) (hM : Met l Z a0 EL b n0 y bytes mL none [] rm (.ref a :: argsL) D0 S0 Q')
    (hp : parseMethodDescriptor y.desc = some ⟨ps, rr⟩) (hlen : argsL.length = ps.length) (hst : st = argsL.reverse ++ .ref a :: rest) (hls : Ls.size = maxL) (hD : D = D0 ++ Dr) (hS : ∀ x ∈ S0, x ∈ S ∨ (lend = true ∧ x ∈ Dr)) (hy : y.cls ≠ "java/lang/invoke/MethodHandle" ∧ y.cls ≠ "java/lang/invoke/VarHandle" := by decide)
    (hf : rm.frames + 1 ≤ R.frames := by exact Nat.le_of_ble_eq_true rfl) (hlo : (rest.map fun v => v.category).sum + (mL + 11) + rm.locals ≤ R.locals := by exact Nat.le_of_ble_eq_true rfl) (hce : cells + rm.cells ≤ R.cells := by exact Nat.le_of_ble_eq_true rfl) (hsl : slots + rm.slots ≤ R.slots := by exact Nat.le_of_ble_eq_true rfl)
    (G : ∀ v D' S', Q' v D' S' → Go l Z a0 EL b n0 own code maxL ret nm R W0 Q (D' ++ Dr) (bif lend then S else S' ++ S) (cells + rm.cells) (slots + rm.slots) pc' Ls (v.toList ++ rest)) : Go l Z a0 EL b n0 own code maxL ret nm R W0 Q D S cells slots pc Ls st := by
  obtain ⟨h1, rfl⟩ := hd
  subst hst
  refine Go.callCore (len := 3) lend (fun fr {_ _ _ _ _ _} hZ hKf => hM.backS fr hZ hKf w4 w3 hf hlo) hce hsl hD hS (fun {p e s m args below meth c vm0 T locs} hs X hZ hH {Pre Post} hB hpre => ?_) G
  exact X.specialBackS hs.1 hy1 hs.2.2.2.2.2.2 (mvT hZ w1) (mvT hZ w2) (mvT hZ w4) hy hB (g := mkF m pc Ls (argsL.reverse ++ .ref a :: rest)) rfl (hls.trans hs.2.2.1.symm) (Steps.refl _) (a := a) (argsL := argsL) (rest := rest) (lenOf hp hlen) rfl (by show 2 * 0 + _ ≤ _; omega) (hb hs.2.1 h1) hpre
theorem Go.invokevirtual {a : Addr} {z : MethodName} {C : String} {fs : List (String × String × String × Value)} (lend : Bool) (hd : Dx code pc (.invokevirtual idx) 3 pc') (w1 : (Jvm.Cond.methodLink own idx y).before a0 Z = true) (w2 : (Jvm.Cond.declares y).before a0 Z = true) (w5 : (Jvm.Cond.selects C y z).before a0 Z = true) (w6 : (Jvm.Cond.instanceMethod z).before a0 Z = true) (w3 : (Jvm.Cond.initialized z.cls).before a0 Z = true) (w4 : (Jvm.Cond.code z bytes mL rt).before a0 Z = true)
    (hnf : ∀ s : State, Z.Warmed39 s.vm → NotFace s y) (hm : In (a, .inl (C, fs)) D S) (hM : Met l Z a0 EL b n0 z bytes mL rt [] rm (.ref a :: argsL) D0 S0 Q')
    (hp : parseMethodDescriptor y.desc = some ⟨ps, rr⟩) (hlen : argsL.length = ps.length) (hst : st = argsL.reverse ++ .ref a :: rest) (hls : Ls.size = maxL) (hD : D = D0 ++ Dr) (hS : ∀ x ∈ S0, x ∈ S ∨ (lend = true ∧ x ∈ Dr)) (hy : y.cls ≠ "java/lang/invoke/MethodHandle" ∧ y.cls ≠ "java/lang/invoke/VarHandle" := by decide)
    (hf : rm.frames + 1 ≤ R.frames := by exact Nat.le_of_ble_eq_true rfl) (hlo : (rest.map fun v => v.category).sum + (mL + 11) + rm.locals ≤ R.locals := by exact Nat.le_of_ble_eq_true rfl) (hce : cells + rm.cells ≤ R.cells := by exact Nat.le_of_ble_eq_true rfl) (hsl : slots + rm.slots ≤ R.slots := by exact Nat.le_of_ble_eq_true rfl)
    (G : ∀ v D' S', Q' v D' S' → Go l Z a0 EL b n0 own code maxL ret nm R W0 Q (D' ++ Dr) (bif lend then S else S' ++ S) (cells + rm.cells) (slots + rm.slots) pc' Ls (v.toList ++ rest)) : Go l Z a0 EL b n0 own code maxL ret nm R W0 Q D S cells slots pc Ls st := by
  obtain ⟨h1, rfl⟩ := hd
  subst hst
  refine Go.callCore (len := 3) lend (fun fr {_ _ _ _ _ _} hZ hKf => hM.backS fr hZ hKf w4 w3 hf hlo) hce hsl hD hS (fun {p e s m args below meth c vm0 T locs} hs X hZ hH {Pre Post} hB hpre => ?_) G
  obtain ⟨E, -⟩ := (show KnO Z T.heap a C fs from hH.at hm)
  obtain ⟨cB, kB, q1, q2, q3⟩ := isOf hZ rfl E
  exact X.virtualBackS hs.1 hs.2.2.2.2.2.2 (mvT hZ w1) (mvT hZ w2) (hnf _ hZ) (mvT hZ w5) (mvT hZ w6) hy hB q1 q3 (g := mkF m pc Ls (argsL.reverse ++ .ref a :: rest)) rfl (hls.trans hs.2.2.1.symm) (Steps.refl _) (argsL := argsL) (rest := rest) (lenOf hp hlen) rfl (by show 2 * 0 + _ ≤ _; omega) (hb hs.2.1 h1) hpre
/-- the class that declares it selects it: no interface -/
theorem nfSel {C : String} (w : (Jvm.Cond.selects C y y).before a0 Z = true) : ∀ s : State, Z.Warmed39 s.vm → NotFace s y := fun s hZ => notFace_of_selects (args := #[]) (mvT hZ w)
theorem Go.invokeprivate {a : Addr} {C : String} {fs : List (String × String × String × Value)} (lend : Bool) (hd : Dx code pc (.invokevirtual idx) 3 pc') (w1 : (Jvm.Cond.methodLink own idx y).before a0 Z = true) (w2 : (Jvm.Cond.instanceMethod y).before a0 Z = true) (w5 : (Jvm.Cond.selects y.cls y y).before a0 Z = true) (w6 : (Jvm.Cond.privateMethod y).before a0 Z = true) (w3 : (Jvm.Cond.initialized y.cls).before a0 Z = true) (w4 : (Jvm.Cond.code y bytes mL rt).before a0 Z = true)
    (hm : In (a, .inl (C, fs)) D S) (hM : Met l Z a0 EL b n0 y bytes mL rt [] rm (.ref a :: argsL) D0 S0 Q')
    (hp : parseMethodDescriptor y.desc = some ⟨ps, rr⟩) (hlen : argsL.length = ps.length) (hst : st = argsL.reverse ++ .ref a :: rest) (hls : Ls.size = maxL) (hD : D = D0 ++ Dr) (hS : ∀ x ∈ S0, x ∈ S ∨ (lend = true ∧ x ∈ Dr)) (hy : y.cls ≠ "java/lang/invoke/MethodHandle" ∧ y.cls ≠ "java/lang/invoke/VarHandle" := by decide)
    (hf : rm.frames + 1 ≤ R.frames := by exact Nat.le_of_ble_eq_true rfl) (hlo : (rest.map fun v => v.category).sum + (mL + 11) + rm.locals ≤ R.locals := by exact Nat.le_of_ble_eq_true rfl) (hce : cells + rm.cells ≤ R.cells := by exact Nat.le_of_ble_eq_true rfl) (hsl : slots + rm.slots ≤ R.slots := by exact Nat.le_of_ble_eq_true rfl)
    (G : ∀ v D' S', Q' v D' S' → Go l Z a0 EL b n0 own code maxL ret nm R W0 Q (D' ++ Dr) (bif lend then S else S' ++ S) (cells + rm.cells) (slots + rm.slots) pc' Ls (v.toList ++ rest)) : Go l Z a0 EL b n0 own code maxL ret nm R W0 Q D S cells slots pc Ls st := by
  obtain ⟨h1, rfl⟩ := hd
  subst hst
  refine Go.callCore (len := 3) lend (fun fr {_ _ _ _ _ _} hZ hKf => hM.backS fr hZ hKf w4 w3 hf hlo) hce hsl hD hS (fun {p e s m args below meth c vm0 T locs} hs X hZ hH {Pre Post} hB hpre => ?_) G
  obtain ⟨E, -⟩ := (show KnO Z T.heap a C fs from hH.at hm)
  obtain ⟨cq, q1, q2⟩ := E.cell
  exact X.privateBackS hs.1 hs.2.2.2.2.2.2 (mvT hZ w1) (mvT hZ w2) (mvT hZ w5) (Cond.privateMethod_at (mvP hZ w6 (args := #[]))) (mvT hZ w4) hy hB (g := mkF m pc Ls (argsL.reverse ++ .ref a :: rest)) rfl (hls.trans hs.2.2.1.symm) (Steps.refl _) q1 q2 (argsL := argsL) (rest := rest) (lenOf hp hlen) rfl (by show 2 * 0 + _ ≤ _; omega) (hb hs.2.1 h1) hpre
theorem Go.invokeinterface {a : Addr} {xi : MethodName} {count : Nat} {C : String} {fs : List (String × String × String × Value)} (lend : Bool) (hd : Dx code pc (.invokeinterface idx count) 5 pc') (w1 : (Jvm.Cond.methodLink own idx xi).before a0 Z = true) (w2 : (Jvm.Cond.declares xi).before a0 Z = true) (w7 : (Jvm.Cond.interfaceMethod xi.cls xi.cls xi.name xi.desc).before a0 Z = true) (w5 : (Jvm.Cond.selects C xi y).before a0 Z = true) (w6 : (Jvm.Cond.instanceMethod y).before a0 Z = true) (w8 : (Jvm.Cond.publicMethod y).before a0 Z = true) (w9 : (Jvm.Cond.unhidden C xi.name xi.desc).before a0 Z = true) (w10 : (Jvm.Cond.castable C xi.cls).before a0 Z = true)
    (w3 : (Jvm.Cond.initialized y.cls).before a0 Z = true) (w4 : (Jvm.Cond.code y bytes mL rt).before a0 Z = true) (hm : In (a, .inl (C, fs)) D S) (hM : Met l Z a0 EL b n0 y bytes mL rt [] rm (.ref a :: argsL) D0 S0 Q')
    (hp : parseMethodDescriptor xi.desc = some ⟨ps, rr⟩) (hlen : argsL.length = ps.length) (hst : st = argsL.reverse ++ .ref a :: rest) (hls : Ls.size = maxL) (hD : D = D0 ++ Dr) (hS : ∀ x ∈ S0, x ∈ S ∨ (lend = true ∧ x ∈ Dr)) (hy : xi.cls ≠ "java/lang/invoke/MethodHandle" ∧ xi.cls ≠ "java/lang/invoke/VarHandle" := by decide)
    (hk7 : ((Jvm.Cond.interfaceMethod xi.cls xi.cls xi.name xi.desc).onTables && (Jvm.Cond.interfaceMethod xi.cls xi.cls xi.name xi.desc).keepsFace) = true := by first | rfl | decide)
    (hf : rm.frames + 1 ≤ R.frames := by exact Nat.le_of_ble_eq_true rfl) (hlo : (rest.map fun v => v.category).sum + (mL + 11) + rm.locals ≤ R.locals := by exact Nat.le_of_ble_eq_true rfl) (hce : cells + rm.cells ≤ R.cells := by exact Nat.le_of_ble_eq_true rfl) (hsl : slots + rm.slots ≤ R.slots := by exact Nat.le_of_ble_eq_true rfl)
    (G : ∀ v D' S', Q' v D' S' → Go l Z a0 EL b n0 own code maxL ret nm R W0 Q (D' ++ Dr) (bif lend then S else S' ++ S) (cells + rm.cells) (slots + rm.slots) pc' Ls (v.toList ++ rest)) : Go l Z a0 EL b n0 own code maxL ret nm R W0 Q D S cells slots pc Ls st := by
  obtain ⟨h1, rfl⟩ := hd
  subst hst
  refine Go.callCore (len := 5) lend (fun fr {_ _ _ _ _ _} hZ hKf => hM.backS fr hZ hKf w4 w3 hf hlo) hce hsl hD hS (fun {p e s m args below meth c vm0 T locs} hs X hZ hH {Pre Post} hB hpre => ?_) G
  obtain ⟨E, -⟩ := (show KnO Z T.heap a C fs from hH.at hm)
  obtain ⟨cB, kB, q1, q2, q3⟩ := isOf hZ rfl E
  exact X.interfaceBackS hs.1 hs.2.2.2.2.2.2 (mvT hZ w1) (mvT hZ w2) (mvT hZ w7 hk7) (mvT hZ w5) (mvT hZ w6) (mvT hZ w8) (mvT hZ w9) (mvT hZ w10) hy hB q1 q2 q3 (g := mkF m pc Ls (argsL.reverse ++ .ref a :: rest)) rfl (hls.trans hs.2.2.1.symm) (Steps.refl _) (argsL := argsL) (rest := rest) (lenOf hp hlen) rfl (by show 2 * 0 + _ ≤ _; omega) (hb hs.2.1 h1) hpre
theorem Go.invokestaticH {hs : List (Nat × Nat × Nat × Nat)} (lend : Bool) (hd : Dx code pc (.invokestatic idx) 3 pc') (w1 : (Jvm.Cond.methodLink own idx y).before a0 Z = true) (w2 : (Jvm.Cond.static y).before a0 Z = true) (w3 : (Jvm.Cond.initialized y.cls).before a0 Z = true) (w4 : (Jvm.Cond.codeWith y bytes mL rt hs).before a0 Z = true) (hM : MetH l Z a0 EL b n0 y bytes mL rt hs rm argsL D0 S0 Q')
    (hp : parseMethodDescriptor y.desc = some ⟨ps, rr⟩) (hlen : argsL.length = ps.length) (hst : st = argsL.reverse ++ rest) (hls : Ls.size = maxL) (hD : D = D0 ++ Dr) (hS : ∀ x ∈ S0, x ∈ S ∨ (lend = true ∧ x ∈ Dr)) (hy : y.cls ≠ "java/lang/invoke/MethodHandle" ∧ y.cls ≠ "java/lang/invoke/VarHandle" := by decide)
    (hf : rm.frames + 1 ≤ R.frames := by exact Nat.le_of_ble_eq_true rfl) (hlo : (rest.map fun v => v.category).sum + (mL + 11) + rm.locals ≤ R.locals := by exact Nat.le_of_ble_eq_true rfl) (hce : cells + rm.cells ≤ R.cells := by exact Nat.le_of_ble_eq_true rfl) (hsl : slots + rm.slots ≤ R.slots := by exact Nat.le_of_ble_eq_true rfl)
    (G : ∀ v D' S', Q' v D' S' → Go l Z a0 EL b n0 own code maxL ret nm R W0 Q (D' ++ Dr) (bif lend then S else S' ++ S) (cells + rm.cells) (slots + rm.slots) pc' Ls (v.toList ++ rest)) : Go l Z a0 EL b n0 own code maxL ret nm R W0 Q D S cells slots pc Ls st := by
  obtain ⟨h1, rfl⟩ := hd
  subst hst
  refine Go.callCore (len := 3) lend (fun fr {_ _ _ _ _ _} hZ hKf => hM.backS fr hZ hKf w4 w3 hf hlo) hce hsl hD hS (fun {p e s m args below meth c vm0 T locs} hs X hZ hH {Pre Post} hB hpre => ?_) G
  obtain ⟨mk, methM, cM, hnamed, hmethM, -, -, -, -, -, -, hsig⟩ := Cond.codeWith_spec (mvT hZ w4 (args := args))
  exact X.staticBackS hs.1 hs.2.2.2.2.2.2 (mvT hZ w1) (mvT hZ w2) (mvT hZ w3) hnamed hmethM hsig hy hB (g := mkF m pc Ls (argsL.reverse ++ rest)) rfl (hls.trans hs.2.2.1.symm) (Steps.refl _) (argsL := argsL) (rest := rest) (lenOf hp hlen) rfl (by show 2 * 0 + _ ≤ _; omega) (hb hs.2.1 h1) hpre
theorem Go.invokeprivateH {hs : List (Nat × Nat × Nat × Nat)} {a : Addr} {C : String} {fs : List (String × String × String × Value)} (lend : Bool) (hd : Dx code pc (.invokevirtual idx) 3 pc') (w1 : (Jvm.Cond.methodLink own idx y).before a0 Z = true) (w2 : (Jvm.Cond.instanceMethod y).before a0 Z = true) (w5 : (Jvm.Cond.selects y.cls y y).before a0 Z = true) (w6 : (Jvm.Cond.privateMethod y).before a0 Z = true) (w3 : (Jvm.Cond.initialized y.cls).before a0 Z = true) (w4 : (Jvm.Cond.codeWith y bytes mL rt hs).before a0 Z = true)
    (hm : In (a, .inl (C, fs)) D S) (hM : MetH l Z a0 EL b n0 y bytes mL rt hs rm (.ref a :: argsL) D0 S0 Q')
    (hp : parseMethodDescriptor y.desc = some ⟨ps, rr⟩) (hlen : argsL.length = ps.length) (hst : st = argsL.reverse ++ .ref a :: rest) (hls : Ls.size = maxL) (hD : D = D0 ++ Dr) (hS : ∀ x ∈ S0, x ∈ S ∨ (lend = true ∧ x ∈ Dr)) (hy : y.cls ≠ "java/lang/invoke/MethodHandle" ∧ y.cls ≠ "java/lang/invoke/VarHandle" := by decide)
    (hf : rm.frames + 1 ≤ R.frames := by exact Nat.le_of_ble_eq_true rfl) (hlo : (rest.map fun v => v.category).sum + (mL + 11) + rm.locals ≤ R.locals := by exact Nat.le_of_ble_eq_true rfl) (hce : cells + rm.cells ≤ R.cells := by exact Nat.le_of_ble_eq_true rfl) (hsl : slots + rm.slots ≤ R.slots := by exact Nat.le_of_ble_eq_true rfl)
    (G : ∀ v D' S', Q' v D' S' → Go l Z a0 EL b n0 own code maxL ret nm R W0 Q (D' ++ Dr) (bif lend then S else S' ++ S) (cells + rm.cells) (slots + rm.slots) pc' Ls (v.toList ++ rest)) : Go l Z a0 EL b n0 own code maxL ret nm R W0 Q D S cells slots pc Ls st := by
  obtain ⟨h1, rfl⟩ := hd
  subst hst
  refine Go.callCore (len := 3) lend (fun fr {_ _ _ _ _ _} hZ hKf => hM.backS fr hZ hKf w4 w3 hf hlo) hce hsl hD hS (fun {p e s m args below meth c vm0 T locs} hs X hZ hH {Pre Post} hB hpre => ?_) G
  obtain ⟨E, -⟩ := (show KnO Z T.heap a C fs from hH.at hm)
  obtain ⟨cq, q1, q2⟩ := E.cell
  obtain ⟨mk, methM, hnamed, hmethM, hstM, habM⟩ := Cond.instanceMethod_spec (mvT hZ w2 (args := args))
  obtain ⟨mk', methM', cM, hnamed', hmethM', -, -, -, -, -, -, hsigM⟩ := Cond.codeWith_spec (mvT hZ w4 (args := args))
  cases hnamed.symm.trans hnamed'
  cases hmethM.symm.trans hmethM'
  obtain ⟨c2, r2, m2, -, -, q3, -, kP, hkP, hkPi⟩ := Cond.selects_spec (mvT hZ w5 (args := args))
  cases hnamed.symm.trans q3
  obtain ⟨vm₁, X₁, hstep⟩ := X.invokevirtual hs.1 hs.2.2.2.2.2.2 (mvT hZ w1) hnamed hmethM hstM hkP hkPi hy (a := a) (cell := cq) q1 q2 (selectMethod_private hmethM (Cond.privateMethod_at (mvP hZ w6 (args := #[])) mk methM hnamed hmethM)) hmethM habM hkP hkPi (g := mkF m pc Ls (argsL.reverse ++ .ref a :: rest)) rfl (argsL := argsL) (rest := rest) (lenOf hp hlen _ hsigM) rfl (hb hs.2.1 h1)
  obtain ⟨v, B, X', hS', hgr, hpost, hsteps⟩ := hB m meth c ⟨T.setVm vm₁, locs, cells, slots⟩ (mkF m pc Ls rest) (.invokevirtual idx) mk (.ref a :: argsL).toArray X₁ rfl (hls.trans hs.2.2.1.symm) (hb hs.2.1 h1) (by show 2 * 0 + (rest.map fun v => v.category).sum ≤ (rest.map fun v => v.category).sum; omega) (X₁.named hnamed) (hpre vm₁ X₁.warmed)
  exact ⟨v, vm₁, B, X₁.warmed, X', hS', hgr, hpost, (hstep _ fun acts => by rw [doInvoke_state]; exact Steps.refl _).trans hsteps⟩
/-- an array cloned, and the cast behind it -/
theorem Go.cloneCore {k2 : Nat} {a : Addr} {ad : String} {ty : FieldType} {vs : List Value} {pc2 : Nat} (hd : Dx code pc (.invokevirtual idx) 3 pc') (hd2 : Dx code pc' (.checkcast k2) 3 pc2) (w1 : (Jvm.Cond.methodLink own idx ⟨ad, "clone", "()Ljava/lang/Object;"⟩).before a0 Z = true) (w2 : (Jvm.Cond.sameMethod ad "java/lang/Object" "clone" "()Ljava/lang/Object;").before a0 Z = true) (w3 : (Jvm.Cond.native ⟨"java/lang/Object", "clone", "()Ljava/lang/Object;"⟩).before a0 Z = true)
    (w4 : (Jvm.Cond.instanceMethod ⟨"java/lang/Object", "clone", "()Ljava/lang/Object;"⟩).before a0 Z = true) (w5 : (Jvm.Cond.selects ad ⟨ad, "clone", "()Ljava/lang/Object;"⟩ ⟨"java/lang/Object", "clone", "()Ljava/lang/Object;"⟩).before a0 Z = true) (w6 : (Jvm.Cond.castable ad "java/lang/Cloneable").before a0 Z = true) (w7 : (Jvm.Cond.classLink own k2 ad).before a0 Z = true)
    (hm : In (a, .inr (ty, vs)) D S) (E : ∀ {h : Heap}, Ext Z.heap h → KnA Z h a ty vs → Exa Z h a ad) (had : ty = .byte → ad = "[B") (hls : Ls.size = maxL := by rfl) (hf : 1 ≤ R.frames := by exact Nat.le_of_ble_eq_true rfl) (hlo : (rest.map fun v => v.category).sum + 14 ≤ R.locals := by exact Nat.le_of_ble_eq_true rfl) (hce : cells + 1 ≤ R.cells := by exact Nat.le_of_ble_eq_true rfl) (hsl : slots + vs.length ≤ R.slots := by exact Nat.le_of_ble_eq_true rfl)
    (G : ∀ d, Go l Z a0 EL b n0 own code maxL ret nm R W0 Q ((d, .inr (ty, vs)) :: D) S (cells + 1) (slots + vs.length) pc2 Ls (.ref d :: rest)) : Go l Z a0 EL b n0 own code maxL ret nm R W0 Q D S cells slots pc Ls (.ref a :: rest) := by
  obtain ⟨h1, rfl⟩ := hd
  obtain ⟨h2, rfl⟩ := hd2
  intro fr p e s m args below meth c vm0 T locs hs X I
  have hO := I.2.1.2.2.1
  have E' : Exa Z T.heap a ad := E hO.2 (show KnA Z T.heap a ty vs from I.2.2.1.at hm)
  obtain ⟨cl, A, hc', r1, r2, r3⟩ := (show KnA Z T.heap a ty vs from I.2.2.1.at hm)
  have F : FitC Z cl := fitC_of A fun i hi v hv => r2 v (by rw [hc', List.getElem?_toArray] at hv; exact List.mem_of_getElem? hv)
  obtain ⟨T', h', X', rfl, EE, A', E2, k⟩ := cloneA X hs.1 I.1.2.1 hs.2.2.2.2.2.2 w1 w2 w3 w4 w5 w6 rfl A E' F (g := mkF m pc Ls (.ref a :: rest)) rfl (hls.trans hs.2.2.1.symm) rfl (hb hs.2.1 h1) hf (W := (rest.map fun v => v.category).sum) (by show 2 * 0 + _ ≤ _; omega) hlo (cap := vs.length) (by rw [hc', List.size_toArray]; exact Nat.le_refl _) hce hsl
  obtain ⟨T2, X2, e2, k2⟩ := castY X' hs.1 I.1.2.1 hs.2.2.2.2.2.2 w7 rfl (Ins.self E2) (g := mkF m (pc + 3) Ls (.ref T.heap.size :: rest)) rfl rfl (hb hs.2.1 h2)
  obtain ⟨t, v, k', r⟩ := G T.heap.size fr p e s m args below meth c vm0 T2 locs hs X2 (by rw [e2]; exact I.ext EE (x := (T.heap.size, .inr (ty, vs))) rfl ⟨_, A', hc', r1, r2, r3.1, fun _ y => had y ▸ E2⟩)
  exact ⟨t, v, k t (k2 t k'), r⟩
theorem Go.cloneCast {k2 : Nat} {a : Addr} {ad : String} {ty : FieldType} {vs : List Value} {pc2 : Nat} (hd : Dx code pc (.invokevirtual idx) 3 pc') (hd2 : Dx code pc' (.checkcast k2) 3 pc2) (w1 : (Jvm.Cond.methodLink own idx ⟨ad, "clone", "()Ljava/lang/Object;"⟩).before a0 Z = true) (w2 : (Jvm.Cond.sameMethod ad "java/lang/Object" "clone" "()Ljava/lang/Object;").before a0 Z = true) (w3 : (Jvm.Cond.native ⟨"java/lang/Object", "clone", "()Ljava/lang/Object;"⟩).before a0 Z = true)
    (w4 : (Jvm.Cond.instanceMethod ⟨"java/lang/Object", "clone", "()Ljava/lang/Object;"⟩).before a0 Z = true) (w5 : (Jvm.Cond.selects ad ⟨ad, "clone", "()Ljava/lang/Object;"⟩ ⟨"java/lang/Object", "clone", "()Ljava/lang/Object;"⟩).before a0 Z = true) (w6 : (Jvm.Cond.castable ad "java/lang/Cloneable").before a0 Z = true) (w7 : (Jvm.Cond.classLink own k2 ad).before a0 Z = true)
    (hm : In (a, .inr (ty, vs)) D S) (E : Exa Z Z.heap a ad) (hls : Ls.size = maxL := by rfl) (hf : 1 ≤ R.frames := by exact Nat.le_of_ble_eq_true rfl) (hlo : (rest.map fun v => v.category).sum + 14 ≤ R.locals := by exact Nat.le_of_ble_eq_true rfl) (hce : cells + 1 ≤ R.cells := by exact Nat.le_of_ble_eq_true rfl) (hsl : slots + vs.length ≤ R.slots := by exact Nat.le_of_ble_eq_true rfl)
    (had : ty = .byte → ad = "[B" := by first | exact fun _ => rfl | exact fun h => nomatch h) (G : ∀ d, Go l Z a0 EL b n0 own code maxL ret nm R W0 Q ((d, .inr (ty, vs)) :: D) S (cells + 1) (slots + vs.length) pc2 Ls (.ref d :: rest)) : Go l Z a0 EL b n0 own code maxL ret nm R W0 Q D S cells slots pc Ls (.ref a :: rest) :=
  Go.cloneCore hd hd2 w1 w2 w3 w4 w5 w6 w7 hm (fun x _ => E.keep ((Keep.refl _ []).ext x)) had hls hf hlo hce hsl G
theorem Go.cloneB {k2 : Nat} {a : Addr} {vs : List Value} {pc2 : Nat} (hd : Dx code pc (.invokevirtual idx) 3 pc') (hd2 : Dx code pc' (.checkcast k2) 3 pc2) (w1 : (Jvm.Cond.methodLink own idx ⟨"[B", "clone", "()Ljava/lang/Object;"⟩).before a0 Z = true) (w2 : (Jvm.Cond.sameMethod "[B" "java/lang/Object" "clone" "()Ljava/lang/Object;").before a0 Z = true) (w3 : (Jvm.Cond.native ⟨"java/lang/Object", "clone", "()Ljava/lang/Object;"⟩).before a0 Z = true)
    (w4 : (Jvm.Cond.instanceMethod ⟨"java/lang/Object", "clone", "()Ljava/lang/Object;"⟩).before a0 Z = true) (w5 : (Jvm.Cond.selects "[B" ⟨"[B", "clone", "()Ljava/lang/Object;"⟩ ⟨"java/lang/Object", "clone", "()Ljava/lang/Object;"⟩).before a0 Z = true) (w6 : (Jvm.Cond.castable "[B" "java/lang/Cloneable").before a0 Z = true) (w7 : (Jvm.Cond.classLink own k2 "[B").before a0 Z = true)
    (hm : In (a, .inr (.byte, vs)) D S) (hx : exB = true := by rfl) (hls : Ls.size = maxL := by rfl) (hf : 1 ≤ R.frames := by exact Nat.le_of_ble_eq_true rfl) (hlo : (rest.map fun v => v.category).sum + 14 ≤ R.locals := by exact Nat.le_of_ble_eq_true rfl) (hce : cells + 1 ≤ R.cells := by exact Nat.le_of_ble_eq_true rfl) (hsl : slots + vs.length ≤ R.slots := by exact Nat.le_of_ble_eq_true rfl)
    (G : ∀ d, Go l Z a0 EL b n0 own code maxL ret nm R W0 Q ((d, .inr (.byte, vs)) :: D) S (cells + 1) (slots + vs.length) pc2 Ls (.ref d :: rest)) : Go l Z a0 EL b n0 own code maxL ret nm R W0 Q D S cells slots pc Ls (.ref a :: rest) :=
  Go.cloneCore (ad := "[B") hd hd2 w1 w2 w3 w4 w5 w6 w7 hm (fun _ k => by obtain ⟨c, -, -, -, -, -, r5⟩ := k; exact r5 hx rfl) (fun _ => rfl) hls hf hlo hce hsl G
end Calls
end GoKit
abbrev rm4 (f c s l : Nat) : Room := { frames := f, cells := c, slots := s, locals := l }
theorem eN {α : Type} {P : α → Prop} : ∀ x ∈ ([] : List α), P x := fun _ q => nomatch q
theorem eS {α : Type} {P : α → Prop} {y : α} {L : List α} (q : P y) (r : ∀ x ∈ L, P x) : ∀ x ∈ y :: L, P x := fun x z => (List.mem_cons.mp z).elim (fun u => u ▸ q) (r x)
theorem nI_int {i : Nat} (h : i < 2147483648) : (Int32.ofNat i).toInt = i := len_toInt h
theorem nI_nn {i : Nat} (h : i < 2147483648) : ¬ Int32.ofNat i < 0 := by
  rw [Int32.lt_iff_toInt_lt, nI_int h]; simp
theorem nI_nat {i : Nat} (h : i < 2147483648) : (Int32.ofNat i).toNatClampNeg = i := by
  simp only [Int32.toNatClampNeg, nI_int h]; omega
theorem nI_lt {i n : Nat} (h : i < 2147483648) (hn : n < 2147483648) : Int32.ofNat i < Int32.ofNat n ↔ i < n := by
  rw [Int32.lt_iff_toInt_lt, nI_int h, nI_int hn]; omega
theorem nI_succ (i : Nat) : Int32.ofNat i + 1 = Int32.ofNat (i + 1) := (Int32.ofNat_add i 1).symm
theorem nI_eq {i n : Nat} (h : i < 2147483648) (hn : n < 2147483648) : Int32.ofNat i = Int32.ofNat n ↔ i = n := by
  rw [← Int32.toInt_inj, nI_int h, nI_int hn]; omega
theorem nar_b (x : Int32) : nar .byte x.toInt8.toInt32 = x.toInt8.toInt32 := by
  show x.toInt8.toInt32.toInt8.toInt32 = _
  simp
theorem nar_c (x : Int32) : nar .char x.toUInt32.toUInt16.toUInt32.toInt32 = x.toUInt32.toUInt16.toUInt32.toInt32 := by
  show x.toUInt32.toUInt16.toUInt32.toInt32.toUInt32.toUInt16.toUInt32.toInt32 = _
  simp only [UInt32.toUInt32_toInt32, UInt16.toUInt16_toUInt32]
section GoKit6
variable {l : Launch} {Z : State} {a0 : Array Value} {EL : List (String × Nat)} {b : Bool} {n0 : Nat} {own : String} {code : ByteArray} {maxL : Nat} {ret : Option FieldType} {nm : String} {R : Room} {W0 : List Addr} {Q : Option Value → List Ent → List Ent → Prop}
  {D D' S S' : List Ent} {cells slots pc pc' : Nat} {Ls Ls' : Array Slot} {st st' rest : List Value}
def setRun (at_ : Nat) (us : List (Value × Nat)) (ws : List Value) : List Value := us.foldl (fun w q => w.set (at_ + q.2) q.1) ws
theorem setRun_len (at_ : Nat) : ∀ (us : List (Value × Nat)) (ws : List Value), (setRun at_ us ws).length = ws.length
  | [], _ => rfl
  | q :: r, ws => by show (setRun at_ r (ws.set (at_ + q.2) q.1)).length = _; rw [setRun_len at_ r]; simp
/-- a run of writes into an own array -/
theorem Inv.run {fr : Addr → Prop} {s : State} {vm0 : Vm} {i : Nat} {dst : Addr} {ty : FieldType} (at_ : Nat) : ∀ (us : List (Value × Nat)) {h : Heap} {ws : List Value} {locs : List Loc} {cd : Cell} {D : List Ent}, Inv Z a0 EL b n0 W0 fr D S s vm0 h locs → D[i]? = some (dst, .inr (ty, ws)) → h[dst]? = some cd →
    (∀ q ∈ us, fits ty q.1 = true ∧ at_ + q.2 < ws.length) → Inv Z a0 EL b n0 W0 fr (D.set i (dst, .inr (ty, setRun at_ us ws))) S s vm0 (h.setIfInBounds dst (cd.storePairs at_ us)) (locs ++ us.map fun q => ⟨dst, at_ + q.2⟩)
  | [], h, ws, locs, cd, D, I, hi, hc, _ => by
    have e1 : D.set i (dst, .inr (ty, setRun at_ [] ws)) = D := by
      apply List.ext_getElem?
      intro j
      by_cases q : i = j
      · subst q; rw [List.getElem?_set_self (List.getElem?_eq_some_iff.mp hi).1, hi]; rfl
      · rw [List.getElem?_set_ne q]
    have e2 : h.setIfInBounds dst (cd.storePairs at_ []) = h := by
      apply Array.ext_getElem?
      intro j
      rw [Array.getElem?_setIfInBounds]
      by_cases q : dst = j
      · subst q; rw [if_pos rfl, if_pos (Array.getElem?_eq_some_iff.mp hc).1, hc]; rfl
      · rw [if_neg q]
    rw [e1, e2, List.map_nil, List.append_nil]; exact I
  | q :: r, h, ws, locs, cd, D, I, hi, hc, hu => by
    obtain ⟨u1, u2⟩ := hu q (List.mem_cons_self ..)
    obtain ⟨c', A, hcs, r1, r2, r3⟩ := (show KnA Z h dst ty ws from I.2.2.1.1 _ (List.mem_of_getElem? hi))
    cases hc.symm.trans A.1
    have W : Wr h (h.setIfInBounds dst (cd.setSlot (at_ + q.2) q.1)) dst (at_ + q.2) q.1 := ⟨cd, hc, by cases hq : cd.vm <;> first | rfl | exact absurd hq (A.2.1.1 _), by rw [hcs, List.size_toArray]; exact u2, rfl⟩
    have F : Kn Z (h.setIfInBounds dst (cd.setSlot (at_ + q.2) q.1)) (dst, .inr (ty, ws.set (at_ + q.2) q.1)) := KnA.set A hcs r1 r2 r3 u1 W
    have I2 := I.wr hi W (y := (dst, .inr (ty, ws.set (at_ + q.2) q.1))) rfl F
    have hdst : dst < h.size := (Array.getElem?_eq_some_iff.mp hc).1
    have J := Inv.run at_ r I2 (by rw [List.getElem?_set_self (List.getElem?_eq_some_iff.mp hi).1]) (cd := cd.setSlot (at_ + q.2) q.1) (by rw [Array.getElem?_setIfInBounds, if_pos rfl, if_pos hdst]) (fun z hz => by have := hu z (List.mem_cons_of_mem _ hz); simpa using this)
    have e1 : (h.setIfInBounds dst (cd.setSlot (at_ + q.2) q.1)).setIfInBounds dst ((cd.setSlot (at_ + q.2) q.1).storePairs at_ r) = h.setIfInBounds dst (cd.storePairs at_ (q :: r)) := by
      apply Array.ext_getElem?
      intro j
      simp only [Array.getElem?_setIfInBounds, Array.size_setIfInBounds]
      by_cases w : dst = j
      · subst w; simp [hdst]; rfl
      · simp [w]
    rw [e1, List.set_set, List.append_assoc] at J
    exact J
theorem setRun_at (at_ : Nat) : ∀ (vs : List Value) (k : Nat) (ws : List Value), at_ + k + vs.length ≤ ws.length → setRun at_ (vs.zipIdx k) ws = ws.take (at_ + k) ++ (vs ++ ws.drop (at_ + k + vs.length))
  | [], k, ws, _ => by simp [setRun]
  | v :: r, k, ws, h => by
    have h : at_ + k + (r.length + 1) ≤ ws.length := h
    show setRun at_ (r.zipIdx (k + 1)) (ws.set (at_ + k) v) = _
    rw [setRun_at at_ r (k + 1) _ (by simp; omega)]
    have e1 : (ws.set (at_ + k) v).take (at_ + (k + 1)) = ws.take (at_ + k) ++ [v] := by
      rw [show at_ + (k + 1) = (at_ + k) + 1 by omega, List.take_add_one, List.take_set_of_le (Nat.le_refl _), List.getElem?_set_self (by omega)]; rfl
    have e2 : (ws.set (at_ + k) v).drop (at_ + (k + 1) + r.length) = ws.drop (at_ + k + (v :: r).length) := by
      rw [List.drop_set_of_lt (by omega)]
      congr 1; simp; omega
    rw [e1, e2]; simp
theorem setRun_eq {dp n sp : Nat} {vs ws : List Value} (h1 : sp + n ≤ vs.length) (h2 : dp + n ≤ ws.length) : setRun dp ((List.range n).map fun k => vs.getD (sp + k) .null).zipIdx ws = ws.take dp ++ ((vs.drop sp).take n ++ ws.drop (dp + n)) := by
  have e : ((List.range n).map fun k => vs.getD (sp + k) .null) = (vs.drop sp).take n := by
    apply List.ext_getElem?
    intro i
    rw [List.getElem?_map, List.getElem?_take, List.getElem?_drop]
    by_cases q : i < n
    · rw [List.getElem?_range q, if_pos q, List.getElem?_eq_getElem (by omega)]; simp [List.getD, List.getElem?_eq_getElem (show sp + i < vs.length by omega)]
    · rw [if_neg q, List.getElem?_eq_none (by simpa using by omega)]; rfl
  rw [e, setRun_at dp _ 0 ws (by simp; omega)]
  have : ((vs.drop sp).take n).length = n := by simp; omega
  rw [this]; simp
theorem takes_prim {T : State} {comp : ClassId} {ty : FieldType} {v : Value} (h : refKind ty = false) (f : fits ty v = true) : T.takes comp v := by
  cases v <;> first | trivial | (cases ty <;> simp [fits, refKind] at f h)
/-- System.arraycopy between two arrays of one primitive kind, the second an own one -/
theorem Go.arraycopy {idx : Nat} {src dst : Addr} {ty : FieldType} {vs ws : List Value} {sp dp n : Int32} (hd : Dx code pc (.invokestatic idx) 3 pc') (w1 : (Jvm.Cond.methodLink own idx arraycopyName).before a0 Z = true) (w2 : (Jvm.Cond.native arraycopyName).before a0 Z = true) (w3 : (Jvm.Cond.static arraycopyName).before a0 Z = true) (w4 : (Jvm.Cond.initialized "java/lang/System").before a0 Z = true)
    (hm : In (src, .inr (ty, vs)) D S) (i : Nat) (hi : D[i]? = some (dst, .inr (ty, ws))) (hty : refKind ty = false) (h1 : ¬ sp < 0) (h2 : ¬ dp < 0) (h3 : ¬ n < 0) (h4 : sp.toNatClampNeg + n.toNatClampNeg ≤ vs.length) (h5 : dp.toNatClampNeg + n.toNatClampNeg ≤ ws.length)
    (hD : D' = D.set i (dst, .inr (ty, ws.take dp.toNatClampNeg ++ ((vs.drop sp.toNatClampNeg).take n.toNatClampNeg ++ ws.drop (dp.toNatClampNeg + n.toNatClampNeg))))) (hls : Ls.size = maxL := by rfl) (hf : 1 ≤ R.frames := by exact Nat.le_of_ble_eq_true rfl) (hlo : (rest.map fun v => v.category).sum + 18 ≤ R.locals := by exact Nat.le_of_ble_eq_true rfl)
    (G : Go l Z a0 EL b n0 own code maxL ret nm R W0 Q D' S cells slots pc' Ls rest) : Go l Z a0 EL b n0 own code maxL ret nm R W0 Q D S cells slots pc Ls (.int n :: .int dp :: .ref dst :: .int sp :: .ref src :: rest) := by
  obtain ⟨g1, rfl⟩ := hd
  intro fr p e s m args below meth c vm0 T locs hs X I
  have hZ := I.1.2.1
  obtain ⟨cs, A, hcs, r1, r2, r3⟩ := (show KnA Z T.heap src ty vs from I.2.2.1.at hm)
  obtain ⟨cd, B, hcd, t1, t2, t3⟩ := (show KnA Z T.heap dst ty ws from I.2.2.1.1 _ (List.mem_of_getElem? hi))
  obtain ⟨a1, ka, ha, ca, hka⟩ := State.isArrayOf_alike (T := s.setVm vm0) hZ.alike A.2.1
  obtain ⟨b1, kb, hb', cb, hkb⟩ := State.isArrayOf_alike (T := s.setVm vm0) hZ.alike B.2.1
  have nn : ∀ {z : Int32}, ¬ z < 0 → z.toInt = z.toNatClampNeg := fun {z} hz => by
    rw [Int32.lt_iff_toInt_lt] at hz; have : (0 : Int32).toInt = 0 := rfl; simp only [Int32.toNatClampNeg]; omega
  have e1 := nn h1; have e2 := nn h2; have e3 := nn h3
  have zs : cs.slots.size = vs.length := by rw [hcs, List.size_toArray]
  have zd : cd.slots.size = ws.length := by rw [hcd, List.size_toArray]
  have gv : ∀ k, cs.slots.getD k .null = vs.getD k .null := fun k => by rw [hcs]; simp
  have fv : ∀ k, k < n.toNatClampNeg → fits ty (vs.getD (sp.toNatClampNeg + k) .null) = true := fun k hk => by
    have hlt : sp.toNatClampNeg + k < vs.length := by omega
    rw [List.getD_eq_getElem?_getD, List.getElem?_eq_getElem hlt]; exact r2 _ (List.getElem_mem hlt)
  obtain ⟨vm', X', k'⟩ := X.arraycopy hs.1 hs.2.2.2.2.2.2 (mvT hZ w1) (mvT hZ w2) (mvT hZ w3) (mvT hZ w4) A.1 B.1 a1 b1 A.2.2 B.2.2 ha hb' hka hkb (by rw [hty]; simp) h1 h2 h3 (by rw [zs, e1, e3]; omega) (by rw [zd, e2, e3]; omega)
    (fun vm'' _ k hk => by rw [gv]; exact ⟨fv k hk, takes_prim hty (fv k hk)⟩) (g := mkF m pc Ls (.int n :: .int dp :: .ref dst :: .int sp :: .ref src :: rest)) rfl (hls.trans hs.2.2.1.symm) rfl (hb hs.2.1 g1) hf (by show 2 * 0 + _ + (7 + 11) ≤ _; omega)
  have est : cs.stretch sp.toNatClampNeg n.toNatClampNeg = (List.range n.toNatClampNeg).map fun k => vs.getD (sp.toNatClampNeg + k) .null := by
    unfold Cell.stretch
    exact List.map_congr_left fun k _ => gv _
  have J := Inv.run dp.toNatClampNeg ((List.range n.toNatClampNeg).map fun k => vs.getD (sp.toNatClampNeg + k) .null).zipIdx I hi B.1 (fun q hq => by
    obtain ⟨k, hk⟩ := List.mem_iff_getElem?.mp hq
    rw [List.getElem?_zipIdx] at hk
    obtain ⟨v, hv, rfl⟩ := Option.map_eq_some_iff.mp hk
    have hkn : k < n.toNatClampNeg := by have := (List.getElem?_eq_some_iff.mp hv).1; simpa using this
    rw [List.getElem?_map, List.getElem?_range hkn] at hv
    cases hv
    exact ⟨fv k hkn, by simp; omega⟩)
  rw [setRun_eq h4 h5] at J
  subst hD
  rw [est] at X'
  obtain ⟨t, v, k2, r⟩ := G fr p e s m args below meth c vm0 _ _ hs X' (by
    have eh : ((T.setVm vm').setCell dst (copied cs cd sp dp n)).heap = T.heap.setIfInBounds dst (cd.storePairs dp.toNatClampNeg ((List.range n.toNatClampNeg).map fun k => vs.getD (sp.toNatClampNeg + k) .null).zipIdx) := by
      rw [← est]; rfl
    rw [eh]; exact J)
  exact ⟨t, v, k' t k2, r⟩
theorem nfCls {C : String} {q y : MethodName} (w : (Jvm.Cond.selects C q q).before a0 Z = true) (hq : q.cls = y.cls) : ∀ s : State, Z.Warmed39 s.vm → NotFace s y := fun s hZ r0 h0 => by
  obtain ⟨c, r, m, -, -, hm, -, k, hk, hki⟩ := Cond.selects_spec (mvT hZ w (args := #[]))
  have h1 := findClass_of_methodNamed h0
  have h2 := findClass_of_methodNamed hm
  rw [hq] at h2
  have e : m.cls = r0.cls := Option.some.inj (h2.symm.trans h1)
  rw [e] at hk
  exact ⟨k, hk, hki⟩
theorem sameOwn {C : String} {y q : MethodName} (wi : (Jvm.Cond.instanceMethod y).before a0 Z = true) (ws : (Jvm.Cond.selects C q q).before a0 Z = true) (hq : q.cls = y.cls) (hy : y.cls ≠ "java/lang/invoke/MethodHandle" ∧ y.cls ≠ "java/lang/invoke/VarHandle") : (Jvm.Cond.sameMethod y.cls y.cls y.name y.desc).before a0 Z = true := by
  obtain ⟨mk, meth, hnamed, -⟩ := Cond.instanceMethod_spec wi
  obtain ⟨c, r, m, -, -, hm, -, k, hk, hki⟩ := Cond.selects_spec ws
  have hf := State.methodFound?_of_named hnamed hy
  have hc := findClass_of_methodNamed hnamed
  have hc2 := findClass_of_methodNamed hm
  rw [hq] at hc2
  have e : m.cls = mk.cls := Option.some.inj (hc2.symm.trans hc)
  rw [e] at hk
  simp [Cond.before, Cond.holds, Cond.value, hc, hf, hnamed, hk, hki]
theorem Go.invokesuper {y : MethodName} {bytes : ByteArray} {mL : Nat} {rt : Option FieldType} {rm : Room} {argsL : List Value} {D0 Dr S0 : List Ent} {Q' : Option Value → List Ent → List Ent → Prop} {idx : Nat} {ps : List FieldType} {rr : Option FieldType} {a : Addr} {C : String} {fs : List (String × String × String × Value)} (lend : Bool) (hd : Dx code pc (.invokespecial idx) 3 pc') (hy1 : y.name ≠ "<init>") (w1 : (Jvm.Cond.methodLink own idx y).before a0 Z = true) (w2 : (Jvm.Cond.instanceMethod y).before a0 Z = true) (w5 : (Jvm.Cond.sameMethod y.cls y.cls y.name y.desc).before a0 Z = true) (w6 : (Jvm.Cond.superclass own y.cls).before a0 Z = true) (w3 : (Jvm.Cond.initialized y.cls).before a0 Z = true) (w4 : (Jvm.Cond.code y bytes mL rt).before a0 Z = true) (hm : In (a, .inl (C, fs)) D S) (hM : Met l Z a0 EL b n0 y bytes mL rt [] rm (.ref a :: argsL) D0 S0 Q')
    (hp : parseMethodDescriptor y.desc = some ⟨ps, rr⟩) (hlen : argsL.length = ps.length) (hst : st = argsL.reverse ++ .ref a :: rest) (hls : Ls.size = maxL) (hD : D = D0 ++ Dr) (hS : ∀ x ∈ S0, x ∈ S ∨ (lend = true ∧ x ∈ Dr)) (hy : y.cls ≠ "java/lang/invoke/MethodHandle" ∧ y.cls ≠ "java/lang/invoke/VarHandle" := by decide)
    (hf : rm.frames + 1 ≤ R.frames := by exact Nat.le_of_ble_eq_true rfl) (hlo : (rest.map fun v => v.category).sum + (mL + 11) + rm.locals ≤ R.locals := by exact Nat.le_of_ble_eq_true rfl) (hce : cells + rm.cells ≤ R.cells := by exact Nat.le_of_ble_eq_true rfl) (hsl : slots + rm.slots ≤ R.slots := by exact Nat.le_of_ble_eq_true rfl)
    (G : ∀ v D' S', Q' v D' S' → Go l Z a0 EL b n0 own code maxL ret nm R W0 Q (D' ++ Dr) (bif lend then S else S' ++ S) (cells + rm.cells) (slots + rm.slots) pc' Ls (v.toList ++ rest)) : Go l Z a0 EL b n0 own code maxL ret nm R W0 Q D S cells slots pc Ls st := by
  obtain ⟨h1, rfl⟩ := hd
  subst hst
  refine Go.callCore (len := 3) lend (fun fr {_ _ _ _ _ _} hZ hKf => hM.backS fr hZ hKf w4 w3 hf hlo) hce hsl hD hS (fun {p e s m args below meth c vm0 T locs} hs X hZ hH {Pre Post} hB hpre => ?_) G
  obtain ⟨E, -⟩ := (show KnO Z T.heap a C fs from hH.at hm)
  exact superBackS X hs.1 hZ hs.2.2.2.2.2.2 w1 w5 w2 w6 hy1 hB rfl (Ins.self E) (g := mkF m pc Ls (argsL.reverse ++ .ref a :: rest)) rfl (hls.trans hs.2.2.1.symm) w4 (argsL := argsL) (rest := rest) (lenOf hp hlen) rfl (by show 2 * 0 + _ ≤ _; omega) (hb hs.2.1 h1) hpre
theorem Go.invokevirtualUp {y : MethodName} {bytes : ByteArray} {mL : Nat} {rt : Option FieldType} {rm : Room} {argsL : List Value} {D0 Dr S0 : List Ent} {Q' : Option Value → List Ent → List Ent → Prop} {idx : Nat} {ps : List FieldType} {rr : Option FieldType} {owner : String} {a : Addr} {z : MethodName} {C : String} {fs : List (String × String × String × Value)} (lend : Bool) (hd : Dx code pc (.invokevirtual idx) 3 pc') (w1 : (Jvm.Cond.methodLink own idx y).before a0 Z = true) (wS : (Jvm.Cond.sameMethod y.cls owner y.name y.desc).before a0 Z = true) (w2 : (Jvm.Cond.declares ⟨owner, y.name, y.desc⟩).before a0 Z = true) (w5 : (Jvm.Cond.selects C y z).before a0 Z = true) (w6 : (Jvm.Cond.instanceMethod z).before a0 Z = true) (w3 : (Jvm.Cond.initialized z.cls).before a0 Z = true) (w4 : (Jvm.Cond.code z bytes mL rt).before a0 Z = true)
    (hm : In (a, .inl (C, fs)) D S) (hM : Met l Z a0 EL b n0 z bytes mL rt [] rm (.ref a :: argsL) D0 S0 Q')
    (hp : parseMethodDescriptor y.desc = some ⟨ps, rr⟩) (hlen : argsL.length = ps.length) (hst : st = argsL.reverse ++ .ref a :: rest) (hls : Ls.size = maxL) (hD : D = D0 ++ Dr) (hS : ∀ x ∈ S0, x ∈ S ∨ (lend = true ∧ x ∈ Dr)) (hy : owner ≠ "java/lang/invoke/MethodHandle" ∧ owner ≠ "java/lang/invoke/VarHandle" := by decide)
    (hf : rm.frames + 1 ≤ R.frames := by exact Nat.le_of_ble_eq_true rfl) (hlo : (rest.map fun v => v.category).sum + (mL + 11) + rm.locals ≤ R.locals := by exact Nat.le_of_ble_eq_true rfl) (hce : cells + rm.cells ≤ R.cells := by exact Nat.le_of_ble_eq_true rfl) (hsl : slots + rm.slots ≤ R.slots := by exact Nat.le_of_ble_eq_true rfl)
    (G : ∀ v D' S', Q' v D' S' → Go l Z a0 EL b n0 own code maxL ret nm R W0 Q (D' ++ Dr) (bif lend then S else S' ++ S) (cells + rm.cells) (slots + rm.slots) pc' Ls (v.toList ++ rest)) : Go l Z a0 EL b n0 own code maxL ret nm R W0 Q D S cells slots pc Ls st := by
  obtain ⟨h1, rfl⟩ := hd
  subst hst
  refine Go.callCore (len := 3) lend (fun fr {_ _ _ _ _ _} hZ hKf => hM.backS fr hZ hKf w4 w3 hf hlo) hce hsl hD hS (fun {p e s m args below meth c vm0 T locs} hs X hZ hH {Pre Post} hB hpre => ?_) G
  obtain ⟨E, -⟩ := (show KnO Z T.heap a C fs from hH.at hm)
  obtain ⟨cB, kB, q1, q2, q3⟩ := isOf hZ rfl E
  exact X.virtualBackUpS hs.1 hs.2.2.2.2.2.2 (mvT hZ w1) (mvT hZ wS) (mvT hZ w2) hy (mvT hZ w5) (mvT hZ w6) hB q1 q3 (g := mkF m pc Ls (argsL.reverse ++ .ref a :: rest)) rfl (hls.trans hs.2.2.1.symm) (Steps.refl _) (argsL := argsL) (rest := rest) (lenOf hp hlen) rfl (by show 2 * 0 + _ ≤ _; omega) (hb hs.2.1 h1) hpre
theorem Go.invokeprivateG {y : MethodName} {bytes : ByteArray} {mL : Nat} {rt : Option FieldType} {rm : Room} {argsL : List Value} {D0 Dr S0 : List Ent} {Q' : Option Value → List Ent → List Ent → Prop} {idx : Nat} {ps : List FieldType} {rr : Option FieldType} {K : String} {a : Addr} {C : String} {fs : List (String × String × String × Value)} (lend : Bool) (hd : Dx code pc (.invokevirtual idx) 3 pc') (w1 : (Jvm.Cond.methodLink own idx y).before a0 Z = true) (w2 : (Jvm.Cond.instanceMethod y).before a0 Z = true) (w5 : (Jvm.Cond.selects K y y).before a0 Z = true) (w6 : (Jvm.Cond.privateMethod y).before a0 Z = true) (w3 : (Jvm.Cond.initialized y.cls).before a0 Z = true) (w4 : (Jvm.Cond.code y bytes mL rt).before a0 Z = true)
    (hm : In (a, .inl (C, fs)) D S) (hM : Met l Z a0 EL b n0 y bytes mL rt [] rm (.ref a :: argsL) D0 S0 Q')
    (hp : parseMethodDescriptor y.desc = some ⟨ps, rr⟩) (hlen : argsL.length = ps.length) (hst : st = argsL.reverse ++ .ref a :: rest) (hls : Ls.size = maxL) (hD : D = D0 ++ Dr) (hS : ∀ x ∈ S0, x ∈ S ∨ (lend = true ∧ x ∈ Dr)) (hy : y.cls ≠ "java/lang/invoke/MethodHandle" ∧ y.cls ≠ "java/lang/invoke/VarHandle" := by decide)
    (hf : rm.frames + 1 ≤ R.frames := by exact Nat.le_of_ble_eq_true rfl) (hlo : (rest.map fun v => v.category).sum + (mL + 11) + rm.locals ≤ R.locals := by exact Nat.le_of_ble_eq_true rfl) (hce : cells + rm.cells ≤ R.cells := by exact Nat.le_of_ble_eq_true rfl) (hsl : slots + rm.slots ≤ R.slots := by exact Nat.le_of_ble_eq_true rfl)
    (G : ∀ v D' S', Q' v D' S' → Go l Z a0 EL b n0 own code maxL ret nm R W0 Q (D' ++ Dr) (bif lend then S else S' ++ S) (cells + rm.cells) (slots + rm.slots) pc' Ls (v.toList ++ rest)) : Go l Z a0 EL b n0 own code maxL ret nm R W0 Q D S cells slots pc Ls st := by
  obtain ⟨h1, rfl⟩ := hd
  subst hst
  refine Go.callCore (len := 3) lend (fun fr {_ _ _ _ _ _} hZ hKf => hM.backS fr hZ hKf w4 w3 hf hlo) hce hsl hD hS (fun {p e s m args below meth c vm0 T locs} hs X hZ hH {Pre Post} hB hpre => ?_) G
  obtain ⟨E, -⟩ := (show KnO Z T.heap a C fs from hH.at hm)
  obtain ⟨cq, q1, q2⟩ := E.cell
  obtain ⟨mk, methM, hnamed, hmethM, hstM, habM⟩ := Cond.instanceMethod_spec (mvT hZ w2 (args := args))
  obtain ⟨methM', cM, hmethM', -, -, -, -, -, -, hsigM⟩ := Cond.code_spec hnamed (mvT hZ w4 (args := args))
  cases hmethM.symm.trans hmethM'
  obtain ⟨c2, r2, m2, -, -, q3, -, kP, hkP, hkPi⟩ := Cond.selects_spec (mvT hZ w5 (args := args))
  cases hnamed.symm.trans q3
  obtain ⟨vm₁, X₁, hstep⟩ := X.invokevirtual hs.1 hs.2.2.2.2.2.2 (mvT hZ w1) hnamed hmethM hstM hkP hkPi hy (a := a) (cell := cq) q1 q2 (selectMethod_private hmethM (Cond.privateMethod_at (mvP hZ w6 (args := #[])) mk methM hnamed hmethM)) hmethM habM hkP hkPi (g := mkF m pc Ls (argsL.reverse ++ .ref a :: rest)) rfl (argsL := argsL) (rest := rest) (lenOf hp hlen _ hsigM) rfl (hb hs.2.1 h1)
  obtain ⟨v, B, X', hS', hgr, hpost, hsteps⟩ := hB m meth c ⟨T.setVm vm₁, locs, cells, slots⟩ (mkF m pc Ls rest) (.invokevirtual idx) mk (.ref a :: argsL).toArray X₁ rfl (hls.trans hs.2.2.1.symm) (hb hs.2.1 h1) (by show 2 * 0 + (rest.map fun v => v.category).sum ≤ (rest.map fun v => v.category).sum; omega) (X₁.named hnamed) (hpre vm₁ X₁.warmed)
  exact ⟨v, vm₁, B, X₁.warmed, X', hS', hgr, hpost, (hstep _ fun acts => by rw [doInvoke_state]; exact Steps.refl _).trans hsteps⟩
end GoKit6
section GoKit7
open Jvm.Free.Exc
variable {l : Launch} {Z : State} {a0 : Array Value} {EL : List (String × Nat)} {b : Bool} {n0 : Nat} {own : String} {code : ByteArray} {maxL : Nat} {ret : Option FieldType} {nm : String} {R : Room} {W0 : List Addr} {Q : Option Value → List Ent → List Ent → Prop}
  {D D' S S' : List Ent} {cells slots pc pc' : Nat} {Ls Ls' : Array Slot} {st st' rest : List Value}
theorem Inv.kp {fr : Addr → Prop} {s : State} {vm0 : Vm} {h h' : Heap} {locs : List Loc} {i : Nat} {a : Addr} {C : String} {fs fs' : List (String × String × String × Value)} (I : Inv Z a0 EL b n0 W0 fr D S s vm0 h locs) (hi : D[i]? = some (a, .inl (C, fs))) (K : Kp Z h h' a) (F : Kn Z h' (a, .inl (C, fs'))) :
    Inv Z a0 EL b n0 W0 fr (D.set i (a, .inl (C, fs'))) S s vm0 h' (locs ++ sixLocs Z a) := by
  obtain ⟨⟨e1, e2, ⟨k0, e3, e4⟩, e5⟩, ⟨c1, c2, c3, c4⟩, ⟨g1, g2, g3, g4⟩, i4, i5, i6⟩ := I
  have hx : (a, (.inl (C, fs) : Ob)) ∈ D := List.mem_of_getElem? hi
  obtain ⟨r1, r2, r3, r4⟩ := i4 _ hx
  have K' := keep_of_kp K
  have sf : ∀ x ∈ [a], Safe Z EL vm0 h x := fun x hx => by cases List.mem_singleton.mp hx; exact r2
  have apart : ∀ (z : Ent) j, j ≠ i → D[j]? = some z → z.1 ≠ a := fun z j hj hz q => hj (by
    have lj : j < (D.map Prod.fst).length := by simpa using (List.getElem?_eq_some_iff.mp hz).1
    refine (List.getElem?_inj lj g3).mp ?_
    simp [hz, hi, q])
  have es : (D.set i (a, .inl (C, fs'))).map Prod.fst = D.map Prod.fst := map_set_same hi rfl
  refine ⟨⟨e1, e2, ⟨k0, e3, Nat.le_trans e4 K.1⟩, e5⟩, ⟨c1.trans (CHr.keep K' sf c1.1), c2.six r1, c3.keep K' (fun x hx => by cases List.mem_singleton.mp hx; exact r1), c4.trans K' (fun x hx => by cases List.mem_singleton.mp hx; exact r4)⟩, ⟨fun z hz => ?_, fun z hz => ?_, ?_, fun z hz => ?_⟩, fun z hz => ?_, i5, fun z hz => ?_⟩
  · rcases set_mem hz with rfl | ⟨j, hj, q⟩
    · exact F
    · exact (g1 z (List.mem_of_getElem? q)).keep K' (fun r => apart z j hj q (List.mem_singleton.mp r))
  · exact (g2 z hz).keep K' (fun r => g4 z hz (List.mem_map.mpr ⟨_, hx, (List.mem_singleton.mp r).symm⟩))
  · rw [es]; exact g3
  · rw [es]; exact g4 z hz
  · rcases set_mem hz with rfl | ⟨j, hj, q⟩
    · exact ⟨r1, Safe.keep K' sf c1.1 r2, r3, r4⟩
    · obtain ⟨t1, t2, t3, t4⟩ := i4 z (List.mem_of_getElem? q)
      exact ⟨t1, Safe.keep K' sf c1.1 t2, t3, t4⟩
  · obtain ⟨t1, t2, t3⟩ := i6 z hz
    exact ⟨t1, Safe.keep K' sf c1.1 t2, t3⟩
/-- the chain of exception constructors (message, cause), with the stack trace filled in -/
theorem Go.excInit2 {idx n : Nat} {links : List Link} {a : Addr} {msg cz : Value} {fs fs' ks : List (String × String × String × Value)} (hl : l.stackTraces = true) (hkf : kfB = true) (hd : Dx code pc (.invokespecial idx) 3 pc') (hok : linksOk 2 links = true)
    (w1 : (Jvm.Cond.methodLink own idx (ctor 2 (headName links))).before a0 Z = true) (w2 : (Jvm.Cond.instanceMethod (ctor 2 (headName links))).before a0 Z = true) (wT : (chainTab 2 excC links).before a0 Z = true) (wi : (Jvm.Cond.instantiable excC n).before a0 Z = true) (r : ∀ d ∈ twoRefs, d.before a0 Z = true)
    (i : Nat) (hi : D[i]? = some (a, .inl (excC, fs))) (hb1 : (tN, "backtrace", obD, Value.null) ∈ fs) (hb2 : (tN, "detailMessage", msgD, Value.null) ∈ fs) (hmsg : msg.isRef = true) (hcz : cz.isRef = true)
    (hfs : fs' = (tN, "detailMessage", msgD, msg) :: (tN, "cause", thD, cz) :: ks) (hks : ∀ f ∈ ks, f ∈ fs ∧ ∀ nd ∈ sixNames, Jvm.RoadKit.slotOf Z tN nd.1 nd.2 ≠ Jvm.RoadKit.slotOf Z f.1 f.2.1 f.2.2.1) (hnd : (fs'.map fun f => Jvm.RoadKit.slotOf Z f.1 f.2.1 f.2.2.1).Nodup) (hD : D' = D.set i (a, .inl (excC, fs')))
    (hls : Ls.size = maxL := by rfl) (hf : 4 + links.length ≤ R.frames := by exact Nat.le_of_ble_eq_true rfl) (hlo : (rest.map fun v => v.category).sum + (56 + 14 * links.length) ≤ R.locals := by exact Nat.le_of_ble_eq_true rfl) (hc : cells + 1 ≤ R.cells := by exact Nat.le_of_ble_eq_true rfl) (hsl : slots + 2752 ≤ R.slots := by exact Nat.le_of_ble_eq_true rfl)
    (G : Go l Z a0 EL b n0 own code maxL ret nm R W0 Q D' S (cells + 1) (slots + 2752) pc' Ls rest) : Go l Z a0 EL b n0 own code maxL ret nm R W0 Q D S cells slots pc Ls (cz :: msg :: .ref a :: rest) := by
  obtain ⟨g1, rfl⟩ := hd
  intro fr p e s m args below meth c vm0 T locs hs X I
  have hZ := I.1.2.1
  obtain ⟨E, F, N, UN⟩ := (show KnO Z T.heap a excC fs from I.2.2.1.1 _ (List.mem_of_getElem? hi))
  obtain ⟨k1, k2⟩ := hs.2.2.2.2.2.1.2 hkf
  have hold := I.2.1.2.2.1
  obtain ⟨k0, ⟨-, hold0⟩, -⟩ := I.1.2.2.1
  obtain ⟨T', h', X', rfl, K, E', N', F1, F2, -, k⟩ := excL2 X hs.1 hl hZ hs.2.2.2.2.2.2 hok w1 w2 wT wi r (ThS.start.ext hold0.2) (ThS.start.ext hold.2) (Vm.MethodsKnown.alikeC hZ.alike k1) (Vm.FramesKnown.alikeC hZ.alike k2) rfl E (UN hkf rfl) (F _ hb1) (F _ hb2) hmsg hcz
    (g := mkF m pc Ls (cz :: msg :: .ref a :: rest)) rfl (hls.trans hs.2.2.1.symm) rfl (hb hs.2.1 g1) hf (by show 2 * 0 + _ + _ ≤ _; omega) hc hsl
  subst hD hfs
  obtain ⟨t, v, k', r'⟩ := G fr p e s m args below meth c vm0 T' _ hs X' (I.kp hi K ⟨E', fun f hf => by
    rcases List.mem_cons.mp hf with rfl | hf
    · exact F1
    · rcases List.mem_cons.mp hf with rfl | hf
      · exact F2
      · exact (F f (hks f hf).1).kp K (Or.inr (hks f hf).2), hnd, fun _ _ => N'⟩)
  exact ⟨t, v, k t k', r'⟩
/-- Throwable.getCause (synchronized) on an exception of its own -/
theorem Go.getCause {idx : Nat} {a : Addr} {cz : Value} {fs : List (String × String × String × Value)} (hkf : kfB = true) (hd : Dx code pc (.invokevirtual idx) 3 pc') (w1 : (Jvm.Cond.methodLink own idx ⟨excC, "getCause", "()Ljava/lang/Throwable;"⟩).before a0 Z = true) (wS : (Jvm.Cond.sameMethod excC tN "getCause" "()Ljava/lang/Throwable;").before a0 Z = true)
    (w2 : (Jvm.Cond.declares RoadKit.gcN).before a0 Z = true) (w5 : (Jvm.Cond.selects excC ⟨excC, "getCause", "()Ljava/lang/Throwable;"⟩ RoadKit.gcN).before a0 Z = true) (w6 : (Jvm.Cond.instanceMethod RoadKit.gcN).before a0 Z = true) (w4 : (Jvm.Cond.codeSync RoadKit.gcN RoadKit.gcB 1 (some (.object tN))).before a0 Z = true) (w3 : (Jvm.Cond.initialized tN).before a0 Z = true) (wf : (Jvm.Cond.fieldLink tN 7 tN "cause" thD).before a0 Z = true)
    (hm : In (a, .inl (excC, fs)) D S) (hc : (tN, "cause", thD, cz) ∈ fs) (hcz : cz.isRef = true) (hls : Ls.size = maxL := by rfl) (hf : 1 ≤ R.frames := by exact Nat.le_of_ble_eq_true rfl) (hlo : (rest.map fun v => v.category).sum + 12 ≤ R.locals := by exact Nat.le_of_ble_eq_true rfl) (hce : cells ≤ R.cells := by exact Nat.le_of_ble_eq_true rfl) (hsl : slots ≤ R.slots := by exact Nat.le_of_ble_eq_true rfl)
    (G : Go l Z a0 EL b n0 own code maxL ret nm R W0 Q D S cells slots pc' Ls (gcV a cz :: rest)) : Go l Z a0 EL b n0 own code maxL ret nm R W0 Q D S cells slots pc Ls (.ref a :: rest) := by
  obtain ⟨g1, rfl⟩ := hd
  refine Go.same (fun {p e s m args below meth c vm0 T locs} hs X hZ _ hH => ?_) G
  obtain ⟨E, F, -, UN⟩ := (show KnO Z T.heap a excC fs from hH.at hm)
  obtain ⟨cB, kB, q1, q2, q3⟩ := isOf hZ rfl E
  obtain ⟨v, vm₁, ⟨U, Lc, kc, nc⟩, hW, X', ⟨e1, e2, e3, e4, e5⟩, k⟩ := X.virtualBackUp hs.1 hs.2.2.2.2.2.2 (mvT hZ w1) (mvT hZ wS) (mvT hZ w2) (by decide) (mvT hZ w5) (mvT hZ w6)
    (gcBackPure (rm := { frames := 0, cells := 0, slots := 0, locals := 0 }) (W := (rest.map fun v => v.category).sum) hZ w4 w6 w3 wf (UN hkf rfl) (F _ hc) hcz hf hlo) q1 q3 (g := mkF m pc Ls (.ref a :: rest)) rfl (hls.trans hs.2.2.1.symm) (Steps.refl _) (argsL := []) (rest := rest)
    (fun sig h => by have e : parseMethodDescriptor "()Ljava/lang/Throwable;" = some ⟨[], some (.object "java/lang/Throwable")⟩ := by decide +kernel
                     rw [e] at h; cases h; rfl) rfl (by show 2 * 0 + _ ≤ _; omega) (hb hs.2.1 g1) (fun vm₁ _ => ⟨rfl, rfl, hce, hsl⟩)
  dsimp only [Pt.U, Pt.locs, Pt.cells, Pt.slots] at X' e1 e2 e3 e4 e5 k
  subst e1 e3 e4 e5
  exact ⟨U, X', e2, fun t h => k.trans h⟩
end GoKit7
section GoKit8
open Jvm.Free.Exc
variable {l : Launch} {Z : State} {a0 : Array Value} {EL : List (String × Nat)} {b : Bool} {n0 : Nat} {own : String} {code : ByteArray} {maxL : Nat} {ret : Option FieldType} {nm : String} {R : Room} {W0 : List Addr} {Q : Option Value → List Ent → List Ent → Prop}
  {D D' S S' : List Ent} {cells slots pc pc' : Nat} {Ls Ls' : Array Slot} {st st' rest : List Value}
/-- the words that the filling of a stack trace asks, of the thrown class rc (of Throwable alone as few as this sheet has) -/
def thW (rc : String) : List Jvm.Cond := [.native tFill0, .initialized tN, .superclass tN "java/lang/Object", .instanceMethod tFill, .codeSync tFill LibCode.Throwable.Fill.code 1 (some (.object tN)), .instanceMethod tFill0, .instanceMethod oInit, .code oInit ⟨#[0xb1]⟩ 1 none,
  .methodLink tN 1 oInit, .methodLink tN 27 tFill, .methodLink tN 202 tFill0, .fieldLink tN 7 tN "cause" thD, .lays rc tN "cause" thD, .fieldLink tN 17 tN "stackTrace" steD, .lays rc tN "stackTrace" steD, .fieldLink tN 24 tN "suppressedExceptions" listD, .lays rc tN "suppressedExceptions" listD,
  .fieldLink tN 13 tN "UNASSIGNED_STACK" steD, .laysStatic tN "UNASSIGNED_STACK" steD, .fieldLink tN 20 tN "SUPPRESSED_SENTINEL" listD, .laysStatic tN "SUPPRESSED_SENTINEL" listD, .lays rc tN "detailMessage" msgD,
  .declares tFill, .selects rc tFill tFill, .selects rc tFill0 tFill0, .fieldLink tN 198 tN "backtrace" obD, .lays rc tN "backtrace" obD, .lays rc tN "depth" "I", .arrayOver (.object "java/lang/Object"), .soleField tN "backtrace", .soleField tN "depth"]
theorem thW_ok {rc : String} : (thW rc).all xOk = true := rfl
theorem th_of {args : Array Value} {s : State} {pl : Platform} {rc : String} (howns : pl.frameOwnsMonitors = true) (hfin : pl.finalization = false) (hpl : pl.magicAccessors = ({} : Platform).magicAccessors) (h : ∀ c ∈ thW rc, c.before args s = true)
    {cX : ClassId} {kX : Class} (hX : s.vm.findClass rc = some cX) (hkX : s.vm.classes[cX]? = some kX) :
    ∃ T : ThrowableC, T.Links pl s ∧ s.vm.findClass tN = some T.cT ∧ s.methodNamed? tFill = some T.fill ∧ s.methodNamed? tFill0 = some T.fill0 ∧ s.fieldFound? tN "stackTrace" steD = some (T.cT, T.kT, T.i17, T.fStack) ∧
      s.fieldFound? tN "UNASSIGNED_STACK" steD = some (T.cT, T.kT, T.i13, T.fUnassigned) ∧ T.fStack.type = .array (.object "java/lang/StackTraceElement") ∧ ∃ cell, s.heap[T.aS]? = some cell ∧ cell.vm.isStatics = true := by
  have W : ∀ (i : Nat) (c : Jvm.Cond), (thW rc)[i]? = some c → c.holds args s none s [] = true := fun i c q => h c (List.mem_of_getElem? q)
  obtain ⟨⟨c, i0⟩, meth0, hn0, hm0, hnat0, hcode0, hlocks0, hsig0⟩ := Cond.native_spec (W 0 _ rfl)
  have hc : s.vm.findClass tN = some c := findClass_of_methodNamed hn0
  obtain ⟨k, hk, hname⟩ := Vm.findClass_spec hc
  obtain ⟨-, k1, -, -, hk1, -, -, -, -, hni⟩ := Cond.superclass_spec hc (W 2 _ rfl)
  cases hk.symm.trans hk1
  obtain ⟨iF, methF, hnF, hmF, hatF, hstF, habF, -, -⟩ := Cond.ownMethod (x := tFill) hc hk (W 3 _ rfl)
  obtain ⟨methF', cF, hmF', hcF, hbF, hlF, hrF, hlkF, -, hsigF⟩ := Cond.codeSync_spec hnF (W 4 _ rfl)
  cases hmF.symm.trans hmF'
  obtain ⟨i0', meth0', hn0', hm0', hat0, hst0, hab0, hnm0, hds0⟩ := Cond.ownMethod (x := tFill0) hc hk (W 5 _ rfl)
  cases hn0.symm.trans hn0'
  cases hm0.symm.trans hm0'
  obtain ⟨mO, methO, hnO, hmO, hstO, habO⟩ := Cond.instanceMethod_spec (W 6 _ rfl)
  obtain ⟨methO', cO, hmO', hcO, hbO, -, -, hlkO, -, hsigO⟩ := Cond.code_spec hnO (W 7 _ rfl)
  cases hmO.symm.trans hmO'
  obtain ⟨kO, hkO, hnameO⟩ := Vm.findClass_spec (findClass_of_methodNamed hnO)
  obtain ⟨hnmO, hdsO⟩ := name_of_methodNamed hnO hmO
  obtain ⟨ci1, n1, cf, hl1, hr1, hcf, hp1⟩ := Cond.linkedMethod hc hk hnO (W 8 _ rfl) pl hpl
  obtain ⟨ci27, n27, cf2, hl27, hr27, hcf2, hp27⟩ := Cond.linkedMethod hc hk hnF (W 9 _ rfl) pl hpl
  cases hcf.symm.trans hcf2
  obtain ⟨ci202, n202, cf3, hl202, hr202, hcf3, hp202⟩ := Cond.linkedMethod hc hk hn0 (W 10 _ rfl) pl hpl
  cases hcf.symm.trans hcf3
  obtain ⟨ci7, i7, f7, hk7, hg7, ha7, hs7, hf7, -, -, -⟩ := Cond.ownField (t := .object tN) hc hk (by decide +kernel) (W 11 _ rfl) (W 12 _ rfl) pl hpl
  obtain ⟨ci17, i17, f17, hk17, hg17, ha17, hs17, hf17, hn17, ht17, hff17⟩ := Cond.ownField (t := .array (.object "java/lang/StackTraceElement")) hc hk (by decide +kernel) (W 13 _ rfl) (W 14 _ rfl) pl hpl
  obtain ⟨ci24, i24, f24, hk24, hg24, ha24, hs24, hf24, hn24, -, hff24⟩ := Cond.ownField (t := .object "java/util/List") hc hk (by decide +kernel) (W 15 _ rfl) (W 16 _ rfl) pl hpl
  obtain ⟨ci13, i13, f13, aS, cellS, hk13, hg13, ha13, hs13, -, -, hsta, hcellS, hissS, -, -, hff13⟩ := Cond.ownStatic (t := .array (.object "java/lang/StackTraceElement")) hc hk (by decide +kernel) (W 17 _ rfl) (W 18 _ rfl) pl hpl
  obtain ⟨ci20, i20, f20, -, -, hk20, hg20, ha20, hs20, -, -, -, -, -, -, -, -⟩ := Cond.ownStatic (t := .object "java/util/List") hc hk (by decide +kernel) (W 19 _ rfl) (W 20 _ rfl) pl hpl
  obtain ⟨-, -, -, -, -, fM, -, -, -, hsM, hfM, -⟩ := Cond.lays_spec (W 21 _ rfl)
  obtain ⟨-, d17, hd17, hdn17⟩ := Cond.laysAt hX hkX hff17 (W 14 _ rfl)
  obtain ⟨-, d24, hd24, hdn24⟩ := Cond.laysAt hX hkX hff24 (W 16 _ rfl)
  have hapart : f17.slot ≠ f24.slot := Cond.laysApart hd17 hd24 hdn17 hdn24 (by rw [hn17, hn24]; decide)
  have pF : methF.sig.parameters = [] := by
    have q : parseMethodDescriptor tFill.desc = some ⟨[], some (.object tN)⟩ := by decide +kernel
    rw [← Option.some.inj (q.symm.trans hsigF)]
  have p0 : meth0.sig.parameters = [.int] := by
    have q : parseMethodDescriptor tFill0.desc = some ⟨[.int], some (.object tN)⟩ := by decide +kernel
    rw [← Option.some.inj (q.symm.trans hsig0)]
  have pO : methO.sig.parameters.length = 0 := by
    have q : parseMethodDescriptor oInit.desc = some ⟨[], none⟩ := by decide +kernel
    rw [← Option.some.inj (q.symm.trans hsigO)]; rfl
  refine ⟨{ cT := c, kT := k, cO := c, aS := aS, fillIdx := iF, fill0Idx := i0, initSIdx := iF, obj := mO, kObj := kO, methFill := methF, methFill0 := meth0, methInitS := methF, methObj := methO, codeFill := cF, codeInitS := cF, codeObj := cO, fBack := f7, fDepth := f7, fStack := f17, fCause := f7, fSupp := f24, fMsg := fM, fUnassigned := f13, fSentinel := f20, cfT := cf, ci1 := ci1, n1 := n1, ci27 := ci27, n27 := n27, ci202 := ci202, n202 := n202, ci7 := ci7, i7 := i7, ci13 := ci13, i13 := i13, ci17 := ci17, i17 := i17, ci20 := ci20, i20 := i20, ci24 := ci24, i24 := i24 }, ?_, hc, hnF, hn0, hff17, hff13, ht17, cellS, hcellS, hissS⟩
  constructor <;> first | assumption | exact hsta | exact Vm.findClass_boot hc hk | exact Cond.initialized_spec hc hk (W 1 _ rfl) | (rw [hdsO]; exact lookupSpecial_of_named hnO hmO hstO)
theorem Go.fill {n : Nat} {a su : Addr} {fs fs' : List (String × String × String × Value)} (hl : l.stackTraces = true) (hkf : kfB = true) (ho : own = tN) (hd : Dx code pc (.invokevirtual 27) 3 pc') (w : ∀ c ∈ thW excC, c.before a0 Z = true) (wi : (Jvm.Cond.instantiable excC n).before a0 Z = true)
    (hU : Sta Z Z.heap tN "UNASSIGNED_STACK" steD (.ref su)) (i : Nat) (hi : D[i]? = some (a, .inl (excC, fs))) (h1 : (tN, "stackTrace", steD, Value.ref su) ∈ fs) (h2 : (tN, "backtrace", obD, Value.null) ∈ fs)
    (hks : ∀ f ∈ fs', f ∈ fs ∧ Jvm.RoadKit.slotOf Z tN "backtrace" obD ≠ Jvm.RoadKit.slotOf Z f.1 f.2.1 f.2.2.1 ∧ Jvm.RoadKit.slotOf Z tN "depth" "I" ≠ Jvm.RoadKit.slotOf Z f.1 f.2.1 f.2.2.1 ∧ Jvm.RoadKit.slotOf Z tN "stackTrace" steD ≠ Jvm.RoadKit.slotOf Z f.1 f.2.1 f.2.2.1)
    (hnd : (fs'.map fun f => Jvm.RoadKit.slotOf Z f.1 f.2.1 f.2.2.1).Nodup) (hD : D' = D.set i (a, .inl (excC, fs'))) (hls : Ls.size = maxL := by rfl) (hf : 3 ≤ R.frames := by exact Nat.le_of_ble_eq_true rfl) (hlo : (rest.map fun v => v.category).sum + 42 ≤ R.locals := by exact Nat.le_of_ble_eq_true rfl)
    (hc : cells + 1 ≤ R.cells := by exact Nat.le_of_ble_eq_true rfl) (hsl : slots + 2752 ≤ R.slots := by exact Nat.le_of_ble_eq_true rfl)
    (G : Go l Z a0 EL b n0 own code maxL ret nm R W0 Q D' S (cells + 1) (slots + 2752) pc' Ls (.ref a :: rest)) : Go l Z a0 EL b n0 own code maxL ret nm R W0 Q D S cells slots pc Ls (.ref a :: rest) := by
  subst ho
  obtain ⟨g1, rfl⟩ := hd
  intro fr p e s m args below meth c vm0 T locs hs X I
  have hZ := I.1.2.1
  have hal : Z.vm.Alike vm0 := hZ.alike
  obtain ⟨E, F, N, UN⟩ := (show KnO Z T.heap a excC fs from I.2.2.1.1 _ (List.mem_of_getElem? hi))
  obtain ⟨k1, k2⟩ := hs.2.2.2.2.2.1.2 hkf
  have hold := I.2.1.2.2.1
  obtain ⟨k0, ⟨-, hold0⟩, -⟩ := I.1.2.2.1
  have wS : ∀ c ∈ thW excC, c.before args (s.setVm vm0) = true := fun c hc => mvX (s := s.setVm vm0) (ThS.start.ext hold0.2) hZ (List.all_eq_true.mp thW_ok c hc) (w c hc)
  have wa : ∀ (i : Nat) (c : Jvm.Cond), (thW excC)[i]? = some c → c.before args (s.setVm vm0) = true := fun i c q => wS c (List.mem_of_getElem? q)
  have UN' := UN hkf rfl
  obtain ⟨cell, hcell, hvm, hmon⟩ := id UN'
  obtain ⟨cell2, kZ, e1, e2, e3, -, e5⟩ := id E
  cases hcell.symm.trans e1
  obtain ⟨cI, kI, i1, i2, i3, -⟩ := Cond.instantiable_spec wi
  cases e2.symm.trans i1
  cases e3.symm.trans i2
  obtain ⟨kX, q1, q2⟩ := hal.2.2 _ _ e3
  have hfound : (s.setVm vm0).vm.findClass excC = some cell.cls := by show vm0.findClass excC = _; rw [hal.findClass]; exact e2
  have hkX : (s.setVm vm0).vm.classes[cell.cls]? = some kX := q1
  have hordX : kX.kind = .ordinary := by rw [q2]; exact i3
  have hsz : cell.slots.size = kX.instanceTypes.size := by rw [q2]; exact e5 i3
  have htr : e.platform.stackTraces = true := by rw [X.admits.platform]; exact hl
  have hpl : e.platform.magicAccessors = ({} : Platform).magicAccessors := by rw [X.admits.platform]
  obtain ⟨TC, L, tFound, tF, tF0, tS, tU, tyS, -⟩ := th_of (args := args) (s := s.setVm vm0) (pl := e.platform) (rc := excC) (by rw [X.admits.platform]) (by rw [X.admits.platform]) hpl wS hfound hkX
  obtain ⟨cf, i', kU, fU, stA, cellS, u1, u2, u3, u4, u5, u6, u7⟩ := hU.ext hold.2
  obtain ⟨k', hi', hek⟩ := State.fieldFound?_setVm (s := Z) hal u1
  have hU2 := Option.some.inj (tU.symm.trans (show (s.setVm vm0).fieldFound? tN "UNASSIGNED_STACK" steD = some (cf, k', i', fU) from hi'))
  simp only [Prod.mk.injEq] at hU2
  obtain ⟨-, v2, -, v4⟩ := hU2
  have haS : TC.aS = stA := by
    have q := L.statics
    rw [v2] at q
    exact Option.some.inj (q.symm.trans (by rw [hek]; exact u4))
  have hcS : T.heap[TC.aS]? = some cellS := by rw [haS]; exact u5
  have hneS : TC.aS ≠ a := fun q => by
    rw [q, hcell] at hcS
    cases hcS
    rw [hvm] at u6; cases u6
  have hknS : cellS.vm ≠ .unknown := fun q => by rw [q] at u6; cases u6
  have hsel0 : selectMethod e.platform (s.setVm vm0).vm cell.cls TC.fill0 = .method TC.fill0 := by
    obtain ⟨c2, r2, m2, s1, s2, s3, s4, -⟩ := Cond.selects_spec (wa 24 _ rfl)
    cases Option.some.inj (s1.symm.trans hfound)
    cases Option.some.inj (s2.symm.trans (State.methodFound?_of_named tF0 (by decide)))
    cases Option.some.inj (s3.symm.trans tF0)
    rw [Launch.admits_selectMethod X.admits]; exact s4
  obtain ⟨ci198, i198, fB, hk198, hg198, ha198, hsB, -, hnB, htB, hffB⟩ := Cond.ownField (t := .object "java/lang/Object") tFound L.cls (by decide +kernel) (wa 25 _ rfl) (wa 26 _ rfl) e.platform hpl
  obtain ⟨-, -, cD, kD, iD, fD, -, -, hffD, hstD, -⟩ := Cond.lays_spec (wa 27 _ rfl)
  cases Option.some.inj ((Cond.lays_declared (wa 27 _ rfl) hffD).symm.trans tFound)
  obtain ⟨hkD, hatD⟩ := State.fieldFound?_spec hffD
  cases Option.some.inj (hkD.symm.trans L.cls)
  obtain ⟨hnD, htD⟩ := State.fieldFound?_type hffD (t := .int) (by decide +kernel)
  have hfb := Cond.soleField_find tFound L.cls (wa 29 _ rfl) ha198 hnB hsB
  have hfd := Cond.soleField_find tFound L.cls (wa 30 _ rfl) hatD hnD hstD
  obtain ⟨comp, cO, kO, -, -, hkO, hkindO, hO⟩ := Cond.arrayOver_spec (wa 28 _ rfl)
  obtain ⟨yS, -⟩ := Cond.laysAt hfound hkX tS (wa 14 _ rfl)
  obtain ⟨yB, -⟩ := Cond.laysAt hfound hkX hffB (wa 26 _ rfl)
  obtain ⟨yD, -⟩ := Cond.laysAt hfound hkX hffD (wa 27 _ rfl)
  have tk : ∀ {f : Field} {v : Value}, kX.instanceTypes[f.slot]? = some f.type → fits f.type v = true → Jvm.Takes (s.setVm vm0) cell f v := fun {f v} z1 z2 => by
    obtain ⟨y1, y2⟩ := Takes.of_laid (v := v) hkX hordX z1 z2
    exact ⟨by rw [hsz]; simpa using y1, by rw [hvm]; exact y2⟩
  have slo : ∀ {n d : String} {c' : ClassId} {k' : Class} {i' : Nat} {ff : Field}, (s.setVm vm0).fieldFound? tN n d = some (c', k', i', ff) → Jvm.RoadKit.slotOf Z tN n d = ff.slot := fun {n d c' k' i' ff} q => by
    obtain ⟨c5, k5, i5, g5⟩ := Jvm.Free.BdW.found_ride (U := s.setVm vm0) (U' := Z) hZ.alike.symm ⟨_, _, _, q⟩
    simp [Jvm.RoadKit.slotOf, g5]
  have val : ∀ {n d : String} {v : Value} {c' : ClassId} {k' : Class} {i' : Nat} {ff : Field}, Fld Z T.heap a tN n d v → (s.setVm vm0).fieldFound? tN n d = some (c', k', i', ff) → cell.slots[ff.slot]? = some v := fun {n d v c' k' i' ff} q1 q2 => by
    obtain ⟨cl, cf, k, i, f, z1, z2, -, -, -, -, z7⟩ := q1
    cases hcell.symm.trans z1
    have e := slo q2
    simp only [Jvm.RoadKit.slotOf, z2, Option.map_some, Option.getD_some] at e
    rw [← e]; exact z7
  obtain ⟨v6, vm6, ⟨U, Lc, kc, nc⟩, hW6, X6, ⟨hv6, vm7, lines, hlines, hW7, hUU, hL6, hc6, hn6⟩, k6⟩ := X.virtualBack hs.1 (own := tN) (C := excC) (index := 27) (y := tFill) (z := tFill) hs.2.2.2.2.2.2 (wa 9 _ rfl) (wa 22 _ rfl) (notFace_of_selects (wa 23 _ rfl)) (wa 23 _ rfl) (wa 3 _ rfl) (by decide)
    (Jvm.Free.Str.fillPays (l := l) (W := (rest.map fun v => v.category).sum) hs.1 htr TC L tF (u0 := ⟨.ref su, rfl⟩) (fun q => by cases q) (self := a) (cell := cell) (cellS := cellS) (fun _ => by rw [hvm]; simp) (by rw [hvm]; simp) (by rw [hmon]) (by rw [hmon]) (val (F _ h1) tS) hsel0 hneS hknS (by rw [v4]; exact u7) (tk yS (by rw [tyS]; rfl))
      ⟨{ ci198 := ci198, i198 := i198, fBack := fB }, ⟨hk198, hg198, ha198, hsB⟩, val (F _ h2) hffB⟩ (Vm.MethodsKnown.alikeC hal k1) (Vm.FramesKnown.alikeC hal k2) tFound hO hkO hkindO hfb hfd (fun x => tk yB (by rw [htB]; rfl)) (fun x => tk yD (by rw [htD]; rfl)) (by omega) (by omega))
    (b := a) (cB := cell.cls) hfound ⟨cell, hcell, rfl, by rw [hvm]; rfl⟩ (g := mkF m pc Ls (.ref a :: rest)) rfl (hls.trans hs.2.2.1.symm) (Steps.refl _) (argsL := []) (rest := rest)
    (fun sig h => by rw [show parseMethodDescriptor tFill.desc = some ⟨[], some (.object tN)⟩ from by decide +kernel] at h; cases h; rfl) rfl (by show 2 * 0 + _ ≤ _; omega) (hb hs.2.1 g1) (fun vmx hWx => ⟨rfl, hc, hsl, hcell, hcS⟩)
  dsimp only [Pt.U, Pt.locs, Pt.cells, Pt.slots] at X6 hUU hL6 hc6 hn6 k6
  subst hv6 hL6 hc6 hn6
  have lt := (Array.getElem?_eq_some_iff.mp hcell).1
  have hh : U.heap = (T.heap.push (traceHolder cO lines)).setIfInBounds a (Jvm.Free.Str.filledOn TC.toThrowableT fB fD cell ⟨.ref su, rfl⟩ T.heap.size lines.length.toInt32) := by rw [hUU]; rfl
  have sB := slo hffB
  have sD := slo hffD
  have sS := slo tS
  have hC : U.heap[a]? = some (Jvm.Free.Str.filledOn TC.toThrowableT fB fD cell ⟨.ref su, rfl⟩ T.heap.size lines.length.toInt32) := by
    rw [hh, Array.getElem?_setIfInBounds_self_of_lt (by rw [Array.size_push]; exact Nat.lt_succ_of_lt lt)]
  have hsl2 : ∀ j, fB.slot ≠ j → fD.slot ≠ j → TC.fStack.slot ≠ j → (Jvm.Free.Str.filledOn TC.toThrowableT fB fD cell ⟨.ref su, rfl⟩ T.heap.size lines.length.toInt32).slots[j]? = cell.slots[j]? := fun j z1 z2 z3 => by
    simp [Jvm.Free.Str.filledOn, Cell.setSlot, Array.getElem?_setIfInBounds, z1, z2, z3]
  have K : Kp Z T.heap U.heap a := by
    refine ⟨by rw [hh]; simp, fun y cy hy => ?_⟩
    by_cases hya : y = a
    · subst hya
      cases hcell.symm.trans hy
      exact ⟨_, hC, rfl, by simp [Jvm.Free.Str.filledOn, Cell.setSlot], fun q => absurd rfl q, fun j hj => hsl2 j (sB ▸ hj ("backtrace", obD) (by simp [sixNames])) (sD ▸ hj ("depth", "I") (by simp [sixNames])) (sS ▸ hj ("stackTrace", steD) (by simp [sixNames]))⟩
    · have ly := (Array.getElem?_eq_some_iff.mp hy).1
      refine ⟨cy, ?_, rfl, rfl, fun _ => rfl, fun _ _ => rfl⟩
      rw [hh, Array.getElem?_setIfInBounds_ne (fun q => hya q.symm), Array.getElem?_push_lt ly, ← Array.getElem?_eq_getElem ly]; exact hy
  have X7 := (wider X6 hZ (a := a) (fun x hx => by
    simp only [List.mem_cons, List.not_mem_nil, or_false] at hx
    rcases hx with rfl | rfl | rfl
    · exact ⟨("backtrace", obD), _, by simp [sixNames], ⟨_, _, _, hffB⟩, rfl⟩
    · exact ⟨("depth", "I"), _, by simp [sixNames], ⟨_, _, _, hffD⟩, rfl⟩
    · exact ⟨("stackTrace", steD), _, by simp [sixNames], ⟨_, _, _, tS⟩, rfl⟩)).more (Nat.le_refl _) (Nat.add_le_add_left (traceHolder_size_le cO hlines) _)
  subst hD
  obtain ⟨t, v, k', r'⟩ := G fr p e s m args below meth c vm0 U _ hs X7 (I.kp hi K ⟨E.kp K, fun f hf => by
    obtain ⟨z0, z1, z2, z3⟩ := hks f hf
    obtain ⟨cl, cf, k, i, ff, y1, y2, y3, y4, y5, y6, y7⟩ := F f z0
    cases hcell.symm.trans y1
    have ef : Jvm.RoadKit.slotOf Z f.1 f.2.1 f.2.2.1 = ff.slot := by simp [Jvm.RoadKit.slotOf, y2]
    exact ⟨_, cf, k, i, ff, hC, y2, y3, y4, y5, y6, by rw [hsl2 _ (by rw [← sB, ← ef]; exact z1) (by rw [← sD, ← ef]; exact z2) (by rw [← sS, ← ef]; exact z3)]; exact y7⟩, hnd, fun _ _ => UN'.kp K⟩)
  exact ⟨t, v, k6.trans k', r'⟩
end GoKit8

theorem strW {Z : State} {a0 : Array Value} (hw : ∀ d ∈ tables_1, d.before a0 Z = true) : ∀ a ∈ Bundle.stringAtoms, a.before a0 Z = true := fun a ha => hw a ((show ∀ a ∈ Bundle.stringAtoms, a ∈ tables_1 by decide +kernel) a ha)
theorem layS {Z : State} {a0 : Array Value} (hw : ∀ d ∈ tables_1, d.before a0 Z = true) : LayS Z a0 := ⟨(hw _ (List.mem_of_getElem? (i := 29) rfl)), (hw _ (List.mem_of_getElem? (i := 27) rfl))⟩


theorem m255_int (x : Int32) : 0 ≤ (x &&& 255).toInt ∧ (x &&& 255).toInt ≤ 255 := by
  have h1 : 0 ≤ (x &&& 255).toInt := (c_andS x 255).2.2 (by decide)
  refine ⟨h1, ?_⟩
  have h : (x &&& 255).toBitVec.toNat < 256 := by
    simp only [Int32.toBitVec_and, BitVec.toNat_and]
    exact Nat.lt_succ_of_le Nat.and_le_right
  have e : (x &&& 255).toInt = (x &&& 255).toBitVec.toInt := rfl
  rw [e, BitVec.toInt_eq_toNat_cond]; split <;> omega
theorem m255_le (x : Int32) : ¬ (255 : Int32) < x &&& 255 := by
  rw [Int32.lt_iff_toInt_lt]; have := (m255_int x).2; have : (255 : Int32).toInt = 255 := rfl; omega
theorem m255_c (x : Int32) : nar .char (x &&& 255) = x &&& 255 := i2c_mask x

theorem c16_nar {c : Int32} (h0 : 0 ≤ c.toInt) (h1 : c.toInt ≤ 65535) : nar .char c = c := by
  have q := c_i2c c
  show c.toUInt32.toUInt16.toUInt32.toInt32 = c
  apply Int32.toInt_inj.mp
  omega


theorem st6 {z0 z1 z2 z3 z4 z5 : Value} {s6 : Slot} {v : Int32} (h : s6 = .unset ∨ ∃ w : Int32, s6 = .val (.int w)) : storeLocals #[.val z0, .val z1, .val z2, .val z3, .val z4, .val z5, s6] 6 (.int v) = some #[.val z0, .val z1, .val z2, .val z3, .val z4, .val z5, .val (.int v)] := by
  rcases h with rfl | ⟨w, rfl⟩ <;> rfl
/-- how many of the first chars fit a byte -/
def latN : List Int32 → Nat
  | [] => 0
  | c :: r => if (255 : Int32) < c then 0 else latN r + 1
theorem latN_le : ∀ cs, latN cs ≤ cs.length
  | [] => Nat.le_refl _
  | c :: r => by unfold latN; split <;> simp; exact latN_le r
theorem latN_all : ∀ {cs : List Int32}, (∀ c ∈ cs, ¬ (255 : Int32) < c) → latN cs = cs.length
  | [], _ => rfl
  | c :: r, h => by
    unfold latN; rw [if_neg (h c (by simp)), latN_all fun x hx => h x (by simp [hx])]; rfl
theorem latN_at : ∀ {cs : List Int32} {i : Nat}, (∀ j x, j < i → cs[j]? = some x → ¬ (255 : Int32) < x) → (∀ x, cs[i]? = some x → (255 : Int32) < x) → i ≤ cs.length → latN cs = i
  | [], i, _, _, h => by simp at h; subst h; rfl
  | c :: r, 0, _, h, _ => by unfold latN; rw [if_pos (h c rfl)]
  | c :: r, i + 1, h1, h2, h3 => by
    unfold latN
    rw [if_neg (h1 0 c (by omega) rfl), latN_at (fun j x hj hx => h1 (j + 1) x (by omega) hx) (fun x hx => h2 x hx) (by simpa using h3)]
def byV (c : Int32) : Value := .int c.toInt8.toInt32
/-- the byte array while compress fills it -/
def part (cs : List Int32) (n i : Nat) : List Value := (cs.take i).map byV ++ List.replicate (n - i) (.int 0)
theorem part_len {cs : List Int32} {n i : Nat} (h : i ≤ n) (hn : cs.length = n) : (part cs n i).length = n := by simp [part]; omega
theorem part_set {cs : List Int32} {n i : Nat} {x : Int32} (hx : cs[i]? = some x) (hn : cs.length = n) : (part cs n i).set i (byV x) = part cs n (i + 1) := by
  have hi := (List.getElem?_eq_some_iff.mp hx).1
  have e1 : n - i = (n - (i + 1)) + 1 := by omega
  unfold part
  rw [List.set_append_right _ _ (by simp; omega), e1, List.replicate_succ]
  have e2 : i - (List.map byV (List.take i cs)).length = 0 := by simp; omega
  rw [e2, List.set_cons_zero, List.take_add_one, hx]
  simp

theorem png_0 : plainName "java/lang/StringUTF16" = true := by first | (simp [plainName, overriddenIn]; done) | decide +kernel
theorem d1_0 : Dx jdk_52_method_15_code 0 (.iload_n 1) 1 1 := ⟨by decide +kernel, rfl⟩
theorem d1_1 : Dx jdk_52_method_15_code 1 (.aload_n 0) 1 2 := ⟨by decide +kernel, rfl⟩
theorem d1_2 : Dx jdk_52_method_15_code 2 (.arraylength) 1 3 := ⟨by decide +kernel, rfl⟩
theorem d1_3 : Dx jdk_52_method_15_code 3 (.isub) 1 4 := ⟨by decide +kernel, rfl⟩
theorem d1_4 : Dx jdk_52_method_15_code 4 (.bipush 31) 2 6 := ⟨by decide +kernel, rfl⟩
theorem d1_6 : Dx jdk_52_method_15_code 6 (.iushr) 1 7 := ⟨by decide +kernel, rfl⟩
theorem d1_7 : Dx jdk_52_method_15_code 7 (.i2b) 1 8 := ⟨by decide +kernel, rfl⟩
theorem d1_8 : Dx jdk_52_method_15_code 8 (.ireturn) 1 9 := ⟨by decide +kernel, rfl⟩
set_option maxRecDepth 65536 in
set_option maxHeartbeats 40000000 in
theorem c_coderFrom {l : Launch} {Z : State} {a0 : Array Value} {EL : List (String × Nat)} {b : Bool} {n0 : Nat} (hw : ∀ d ∈ tables_1, d.before a0 Z = true) (t : Addr) (vs : List Value) (m k : Int32) (hk : (ush (m - Int32.ofNat vs.length) 31).toInt8.toInt32 = k) (hk2 : nar .byte k = k) :
    Met l Z a0 EL b n0 (⟨"java/lang/StringUTF16", "coderFromArrayLen", "([BI)B"⟩ : MethodName) jdk_52_method_15_code 2 (some .byte) [] (rm4 0 0 0 0) [.ref t, .int m] [] [(t, .inr (.byte, vs))] (fun v D' S' => v = some (.int k) ∧ D' = [] ∧ S' = []) := by
  refine Met.of_go (own := "java/lang/StringUTF16") (nm := "coderFromArrayLen") (Ls := #[.val (.ref t), .val (.int m)]) (plainFor_of_name png_0) (fun m => by first | (simp [entryFrame, mkF, argsToLocals, Value.category]; done) | rfl) ?_
  refine Go.iloadN d1_0 rfl (G := ?_)
  refine Go.aloadN d1_1 rfl (G := ?_)
  refine Go.arraylength d1_2 (inS (i := 0) rfl) (n := (Int32.ofNat vs.length)) rfl (G := ?_)
  refine Go.isub d1_3 (z := (m - (Int32.ofNat vs.length))) rfl (G := ?_)
  refine Go.bipush d1_4 (v := 31) rfl (G := ?_)
  refine Go.iushr d1_6 (z := (ush (m - (Int32.ofNat vs.length)) 31)) rfl (G := ?_)
  refine Go.i2b d1_7 (z := k) hk (G := ?_)
  refine Go.sub [] (by decide) rfl (D' := []) rfl (S' := []) eN (G := ?_)
  exact Go.retB d1_8 (by simp) (z' := k) hk2 ⟨rfl, rfl, rfl⟩
theorem d2_0 : Dx jdk_52_method_21_code 0 (.iconst 0) 1 1 := ⟨by decide +kernel, rfl⟩
theorem d2_1 : Dx jdk_52_method_21_code 1 (.istore 5) 2 3 := ⟨by decide +kernel, rfl⟩
theorem d2_3 : Dx jdk_52_method_21_code 3 (.iload 5) 2 5 := ⟨by decide +kernel, rfl⟩
theorem d2_5 : Dx jdk_52_method_21_code 5 (.iload 4) 2 7 := ⟨by decide +kernel, rfl⟩
theorem d2_7 : Dx jdk_52_method_21_code 7 (.if_icmp .ge 37) 3 10 := ⟨by decide +kernel, rfl⟩
theorem d2_10 : Dx jdk_52_method_21_code 10 (.aload_n 0) 1 11 := ⟨by decide +kernel, rfl⟩
theorem d2_11 : Dx jdk_52_method_21_code 11 (.iload_n 1) 1 12 := ⟨by decide +kernel, rfl⟩
theorem d2_12 : Dx jdk_52_method_21_code 12 (.caload) 1 13 := ⟨by decide +kernel, rfl⟩
theorem d2_13 : Dx jdk_52_method_21_code 13 (.istore 6) 2 15 := ⟨by decide +kernel, rfl⟩
theorem d2_15 : Dx jdk_52_method_21_code 15 (.iload 6) 2 17 := ⟨by decide +kernel, rfl⟩
theorem d2_17 : Dx jdk_52_method_21_code 17 (.sipush 255) 3 20 := ⟨by decide +kernel, rfl⟩
theorem d2_20 : Dx jdk_52_method_21_code 20 (.if_icmp .le 6) 3 23 := ⟨by decide +kernel, rfl⟩
theorem d2_23 : Dx jdk_52_method_21_code 23 (.iload 5) 2 25 := ⟨by decide +kernel, rfl⟩
theorem d2_25 : Dx jdk_52_method_21_code 25 (.ireturn) 1 26 := ⟨by decide +kernel, rfl⟩
theorem d2_26 : Dx jdk_52_method_21_code 26 (.aload_n 2) 1 27 := ⟨by decide +kernel, rfl⟩
theorem d2_27 : Dx jdk_52_method_21_code 27 (.iload_n 3) 1 28 := ⟨by decide +kernel, rfl⟩
theorem d2_28 : Dx jdk_52_method_21_code 28 (.iload 6) 2 30 := ⟨by decide +kernel, rfl⟩
theorem d2_30 : Dx jdk_52_method_21_code 30 (.i2b) 1 31 := ⟨by decide +kernel, rfl⟩
theorem d2_31 : Dx jdk_52_method_21_code 31 (.bastore) 1 32 := ⟨by decide +kernel, rfl⟩
theorem d2_32 : Dx jdk_52_method_21_code 32 (.iinc 1 1) 3 35 := ⟨by decide +kernel, rfl⟩
theorem d2_35 : Dx jdk_52_method_21_code 35 (.iinc 3 1) 3 38 := ⟨by decide +kernel, rfl⟩
theorem d2_38 : Dx jdk_52_method_21_code 38 (.iinc 5 1) 3 41 := ⟨by decide +kernel, rfl⟩
theorem d2_41 : Dx jdk_52_method_21_code 41 (.goto (-38)) 3 44 := ⟨by decide +kernel, rfl⟩
theorem d2_44 : Dx jdk_52_method_21_code 44 (.iload 4) 2 46 := ⟨by decide +kernel, rfl⟩
theorem d2_46 : Dx jdk_52_method_21_code 46 (.ireturn) 1 47 := ⟨by decide +kernel, rfl⟩
set_option maxRecDepth 65536 in
set_option maxHeartbeats 40000000 in
theorem c_comprLoop {l : Launch} {Z : State} {a0 : Array Value} {EL : List (String × Nat)} {b : Bool} {n0 : Nat} (hw : ∀ d ∈ tables_1, d.before a0 Z = true) (src dst : Addr) (cs : List Int32) (n : Nat) (hn : cs.length = n) (hb : n ≤ 4000) :
    Met l Z a0 EL b n0 (⟨"java/lang/StringUTF16", "compress", "([CI[BII)I"⟩ : MethodName) jdk_52_method_21_code 7 (some .int) [] (rm4 0 0 0 0) [.ref src, .int 0, .ref dst, .int 0, .int (Int32.ofNat n)] [(dst, .inr (.byte, List.replicate n (.int 0)))] [(src, .inr (.char, cs.map Value.int))] (fun v D' S' => v = some (.int (Int32.ofNat (latN cs))) ∧ D' = [(dst, .inr (.byte, part cs n (latN cs)))] ∧ S' = []) := by
  refine Met.of_go (own := "java/lang/StringUTF16") (nm := "compress") (Ls := #[.val (.ref src), .val (.int 0), .val (.ref dst), .val (.int 0), .val (.int (Int32.ofNat n)), .unset, .unset]) (plainFor_of_name png_0) (fun m => by first | (simp [entryFrame, mkF, argsToLocals, Value.category]; done) | rfl) ?_
  refine Go.iconst d2_0 (v := 0) rfl (G := ?_)
  refine Go.istore d2_1 (Ls' := #[.val (.ref src), .val (.int 0), .val (.ref dst), .val (.int 0), .val (.int (Int32.ofNat n)), .val (.int 0), .unset]) rfl (G := ?_)
  refine Go.norm (D2 := [(dst, .inr (.byte, part cs n 0))]) ?_
  have main : ∀ m i (s6 : Slot), i + m = n → (s6 = .unset ∨ ∃ w : Int32, s6 = .val (.int w)) → (∀ j x, j < i → cs[j]? = some x → ¬ (255 : Int32) < x) →
      Go l Z a0 EL b n0 "java/lang/StringUTF16" jdk_52_method_21_code 7 (some .int) "compress" (rm4 0 0 0 0) ([(dst, (.inr (.byte, List.replicate n (.int 0)) : Ob))].map Prod.fst) (fun v D' S' => v = some (.int (Int32.ofNat (latN cs))) ∧ D' = [(dst, .inr (.byte, part cs n (latN cs)))] ∧ S' = []) [(dst, .inr (.byte, part cs n i))] [(src, .inr (.char, cs.map Value.int))] 0 0 3 #[.val (.ref src), .val (.int (Int32.ofNat i)), .val (.ref dst), .val (.int (Int32.ofNat i)), .val (.int (Int32.ofNat n)), .val (.int (Int32.ofNat i)), s6] [] := by
    intro m
    induction m with
    | zero =>
      intro i s6 hi h6 hall
      obtain rfl : i = n := by omega
      refine Go.iload d2_3 rfl (G := ?_)
      refine Go.iload d2_5 rfl (G := ?_)
      refine Go.icmp d2_7 (pc2 := 44) (Gy := fun _ => ?_) (Gn := fun h => absurd (show ¬ (Int32.ofNat i < Int32.ofNat i) from Int32.lt_irrefl) h)
      refine Go.iload d2_44 rfl (G := ?_)
      have e : latN cs = i := latN_at hall (fun x hx => absurd (List.getElem?_eq_some_iff.mp hx).1 (by omega)) (by omega)
      refine Go.sub [0] (by decide) rfl (D' := [(dst, .inr (.byte, part cs i i))]) rfl (S' := []) eN (G := ?_)
      exact Go.retI d2_46 ⟨by rw [e], by rw [e], rfl⟩
    | succ m ih =>
      intro i s6 hi h6 hall
      have hin : i < n := by omega
      have hi31 : i < 2147483648 := by omega
      have hn31 : n < 2147483648 := by omega
      obtain ⟨x, hx⟩ : ∃ x, cs[i]? = some x := ⟨_, List.getElem?_eq_getElem (by omega)⟩
      refine Go.iload d2_3 rfl (G := ?_)
      refine Go.iload d2_5 rfl (G := ?_)
      refine Go.icmp d2_7 (pc2 := 44) (Gy := fun h => absurd ((nI_lt hi31 hn31).mpr hin) h) (Gn := fun _ => ?_)
      refine Go.aloadN d2_10 rfl (G := ?_)
      refine Go.iloadN d2_11 rfl (G := ?_)
      refine Go.caload d2_12 (inS (i := 0) rfl) (v := .int x) (by rw [nI_nat hi31, List.getElem?_map, hx]; rfl) (nI_nn hi31) (G := ?_)
      refine Go.istore d2_13 (Ls' := #[.val (.ref src), .val (.int (Int32.ofNat i)), .val (.ref dst), .val (.int (Int32.ofNat i)), .val (.int (Int32.ofNat n)), .val (.int (Int32.ofNat i)), .val (.int x)]) (st6 h6) (G := ?_)
      refine Go.iload d2_15 rfl (G := ?_)
      refine Go.sipush d2_17 (v := 255) rfl (G := ?_)
      refine Go.icmp d2_20 (pc2 := 26) (Gy := fun hle => ?_) (Gn := fun hgt => ?_)
      · have hle : ¬ (255 : Int32) < x := hle
        refine Go.aloadN d2_26 rfl (G := ?_)
        refine Go.iloadN d2_27 rfl (G := ?_)
        refine Go.iload d2_28 rfl (G := ?_)
        refine Go.i2b d2_30 (z := (x.toInt8.toInt32)) rfl (G := ?_)
        refine Go.bastore d2_31 0 rfl (x' := (x.toInt8.toInt32)) (nar_b x) (by rw [nI_nat hi31, part_len (by omega) hn]; exact hin) (D' := [(dst, .inr (.byte, part cs n (i + 1)))]) (by rw [nI_nat hi31]; show _ = [(dst, Sum.inr (FieldType.byte, (part cs n i).set i (byV x)))]; rw [part_set hx hn]) (nI_nn hi31) (G := ?_)
        refine Go.iinc d2_32 rfl (v := 1) rfl (z := (Int32.ofNat (i + 1))) (nI_succ i) (Ls' := #[.val (.ref src), .val (.int (Int32.ofNat (i + 1))), .val (.ref dst), .val (.int (Int32.ofNat i)), .val (.int (Int32.ofNat n)), .val (.int (Int32.ofNat i)), .val (.int x)]) rfl (G := ?_)
        refine Go.iinc d2_35 rfl (v := 1) rfl (z := (Int32.ofNat (i + 1))) (nI_succ i) (Ls' := #[.val (.ref src), .val (.int (Int32.ofNat (i + 1))), .val (.ref dst), .val (.int (Int32.ofNat (i + 1))), .val (.int (Int32.ofNat n)), .val (.int (Int32.ofNat i)), .val (.int x)]) rfl (G := ?_)
        refine Go.iinc d2_38 rfl (v := 1) rfl (z := (Int32.ofNat (i + 1))) (nI_succ i) (Ls' := #[.val (.ref src), .val (.int (Int32.ofNat (i + 1))), .val (.ref dst), .val (.int (Int32.ofNat (i + 1))), .val (.int (Int32.ofNat n)), .val (.int (Int32.ofNat (i + 1))), .val (.int x)]) rfl (G := ?_)
        refine Go.goto d2_41 (pc2 := 3) (G := ?_)
        exact ih (i + 1) _ (by omega) (Or.inr ⟨x, rfl⟩) (fun j z hj hz => by
          rcases Nat.lt_or_ge j i with q | q
          · exact hall j z q hz
          · obtain rfl : j = i := by omega
            cases hx.symm.trans hz; exact hle)
      · have hgt : (255 : Int32) < x := Classical.not_not.mp hgt
        refine Go.iload d2_23 rfl (G := ?_)
        have e : latN cs = i := latN_at hall (fun z hz => by cases hx.symm.trans hz; exact hgt) (by omega)
        refine Go.sub [0] (by decide) rfl (D' := [(dst, .inr (.byte, part cs n i))]) rfl (S' := []) eN (G := ?_)
        exact Go.retI d2_25 ⟨by rw [e], by rw [e], rfl⟩
  exact main n 0 .unset (by omega) (Or.inl rfl) (fun j x hj => absurd hj (by omega))
theorem d3_0 : Dx jdk_52_method_16_code 0 (.iload_n 2) 1 1 := ⟨by decide +kernel, rfl⟩
theorem d3_1 : Dx jdk_52_method_16_code 1 (.newarray .byte) 2 3 := ⟨by decide +kernel, rfl⟩
theorem d3_3 : Dx jdk_52_method_16_code 3 (.astore_n 3) 1 4 := ⟨by decide +kernel, rfl⟩
theorem d3_4 : Dx jdk_52_method_16_code 4 (.aload_n 0) 1 5 := ⟨by decide +kernel, rfl⟩
theorem d3_5 : Dx jdk_52_method_16_code 5 (.iload_n 1) 1 6 := ⟨by decide +kernel, rfl⟩
theorem d3_6 : Dx jdk_52_method_16_code 6 (.aload_n 3) 1 7 := ⟨by decide +kernel, rfl⟩
theorem d3_7 : Dx jdk_52_method_16_code 7 (.iconst 0) 1 8 := ⟨by decide +kernel, rfl⟩
theorem d3_8 : Dx jdk_52_method_16_code 8 (.iload_n 2) 1 9 := ⟨by decide +kernel, rfl⟩
theorem d3_9 : Dx jdk_52_method_16_code 9 (.invokestatic 115) 3 12 := ⟨by decide +kernel, rfl⟩
theorem d3_12 : Dx jdk_52_method_16_code 12 (.istore 4) 2 14 := ⟨by decide +kernel, rfl⟩
theorem d3_14 : Dx jdk_52_method_16_code 14 (.iload 4) 2 16 := ⟨by decide +kernel, rfl⟩
theorem d3_16 : Dx jdk_52_method_16_code 16 (.iload_n 2) 1 17 := ⟨by decide +kernel, rfl⟩
theorem d3_17 : Dx jdk_52_method_16_code 17 (.if_icmp .eq 40) 3 20 := ⟨by decide +kernel, rfl⟩
theorem d3_20 : Dx jdk_52_method_16_code 20 (.aload_n 0) 1 21 := ⟨by decide +kernel, rfl⟩
theorem d3_21 : Dx jdk_52_method_16_code 21 (.iload_n 1) 1 22 := ⟨by decide +kernel, rfl⟩
theorem d3_22 : Dx jdk_52_method_16_code 22 (.iload_n 2) 1 23 := ⟨by decide +kernel, rfl⟩
theorem d3_23 : Dx jdk_52_method_16_code 23 (.invokestatic 119) 3 26 := ⟨by decide +kernel, rfl⟩
theorem d3_26 : Dx jdk_52_method_16_code 26 (.astore 5) 2 28 := ⟨by decide +kernel, rfl⟩
theorem d3_28 : Dx jdk_52_method_16_code 28 (.aload 5) 2 30 := ⟨by decide +kernel, rfl⟩
theorem d3_30 : Dx jdk_52_method_16_code 30 (.iload 4) 2 32 := ⟨by decide +kernel, rfl⟩
theorem d3_32 : Dx jdk_52_method_16_code 32 (.invokestatic 71) 3 35 := ⟨by decide +kernel, rfl⟩
theorem d3_35 : Dx jdk_52_method_16_code 35 (.sipush 255) 3 38 := ⟨by decide +kernel, rfl⟩
theorem d3_38 : Dx jdk_52_method_16_code 38 (.if_icmp .gt 16) 3 41 := ⟨by decide +kernel, rfl⟩
theorem d3_41 : Dx jdk_52_method_16_code 41 (.aload 5) 2 43 := ⟨by decide +kernel, rfl⟩
theorem d3_43 : Dx jdk_52_method_16_code 43 (.iconst 0) 1 44 := ⟨by decide +kernel, rfl⟩
theorem d3_44 : Dx jdk_52_method_16_code 44 (.aload_n 3) 1 45 := ⟨by decide +kernel, rfl⟩
theorem d3_45 : Dx jdk_52_method_16_code 45 (.iconst 0) 1 46 := ⟨by decide +kernel, rfl⟩
theorem d3_46 : Dx jdk_52_method_16_code 46 (.iload_n 2) 1 47 := ⟨by decide +kernel, rfl⟩
theorem d3_47 : Dx jdk_52_method_16_code 47 (.invokestatic 123) 3 50 := ⟨by decide +kernel, rfl⟩
theorem d3_50 : Dx jdk_52_method_16_code 50 (.iload_n 2) 1 51 := ⟨by decide +kernel, rfl⟩
theorem d3_51 : Dx jdk_52_method_16_code 51 (.if_icmp .eq 6) 3 54 := ⟨by decide +kernel, rfl⟩
theorem d3_54 : Dx jdk_52_method_16_code 54 (.aload 5) 2 56 := ⟨by decide +kernel, rfl⟩
theorem d3_56 : Dx jdk_52_method_16_code 56 (.areturn) 1 57 := ⟨by decide +kernel, rfl⟩
theorem d3_57 : Dx jdk_52_method_16_code 57 (.aload_n 3) 1 58 := ⟨by decide +kernel, rfl⟩
theorem d3_58 : Dx jdk_52_method_16_code 58 (.areturn) 1 59 := ⟨by decide +kernel, rfl⟩
theorem pdg_0 : parseMethodDescriptor "([CI[BII)I" = some ⟨[.array .char, .int, .array .byte, .int, .int], some .int⟩ := by decide +kernel
set_option maxRecDepth 65536 in
set_option maxHeartbeats 40000000 in
theorem c_compress {l : Launch} {Z : State} {a0 : Array Value} {EL : List (String × Nat)} {b : Bool} {n0 : Nat} (hw : ∀ d ∈ tables_1, d.before a0 Z = true) (src : Addr) (cs : List Int32) (n : Nat) (hn : cs.length = n) (hb : n ≤ 4000) (hlat : ∀ c ∈ cs, ¬ (255 : Int32) < c) :
    Met l Z a0 EL b n0 (⟨"java/lang/StringUTF16", "compress", "([CII)[B"⟩ : MethodName) jdk_52_method_16_code 6 (some (.array .byte)) [] (rm4 1 1 n 18) [.ref src, .int 0, .int (Int32.ofNat n)] [] [(src, .inr (.char, cs.map Value.int))] (fun v D' S' => ∃ t, v = some (.ref t) ∧ D' = [(t, .inr (.byte, cs.map byV))] ∧ S' = []) := by
  refine Met.of_go (own := "java/lang/StringUTF16") (nm := "compress") (Ls := #[.val (.ref src), .val (.int 0), .val (.int (Int32.ofNat n)), .unset, .unset, .unset]) (plainFor_of_name png_0) (fun m => by first | (simp [entryFrame, mkF, argsToLocals, Value.category]; done) | rfl) ?_
  refine Go.iloadN d3_0 rfl (G := ?_)
  refine Go.newarray d3_1 (hw _ (List.mem_of_getElem? (i := 19) rfl)) (k := n) (nI_nat (by omega)) (nI_nn (by omega)) (by omega) (vs := List.replicate n (.int 0)) rfl (hl := by show 0 + n ≤ n; omega) (G := fun t => ?_)
  refine Go.astoreN d3_3 (Ls' := #[.val (.ref src), .val (.int 0), .val (.int (Int32.ofNat n)), .val (.ref t), .unset, .unset]) rfl (G := ?_)
  refine Go.aloadN d3_4 rfl (G := ?_)
  refine Go.iloadN d3_5 rfl (G := ?_)
  refine Go.aloadN d3_6 rfl (G := ?_)
  refine Go.iconst d3_7 (v := 0) rfl (G := ?_)
  refine Go.iloadN d3_8 rfl (G := ?_)
  refine Go.invokestatic false d3_9 (hw _ (List.mem_of_getElem? (i := 20) rfl)) (hw _ (List.mem_of_getElem? (i := 21) rfl)) (hw _ (List.mem_of_getElem? (i := 17) rfl)) (hw _ (List.mem_of_getElem? (i := 22) rfl)) (c_comprLoop hw src t cs n hn hb) pdg_0 rfl (argsL := [.ref src, .int 0, .ref t, .int 0, .int (Int32.ofNat n)]) (rest := []) rfl rfl (Dr := []) rfl (eS (Or.inl (List.mem_of_getElem? (i := 0) rfl)) eN) (hsl := by show 0 + n + 0 ≤ n; omega) (G := ?_)
  rintro _ _ _ ⟨rfl, rfl, rfl⟩
  refine Go.norm (D2 := [(t, .inr (.byte, part cs n (latN cs)))]) (S2 := [(src, .inr (.char, cs.map Value.int))]) (c2 := 1) (s2 := 0 + n + 0) (st2 := [.int (Int32.ofNat (latN cs))]) ?_
  refine Go.istore d3_12 (Ls' := #[.val (.ref src), .val (.int 0), .val (.int (Int32.ofNat n)), .val (.ref t), .val (.int (Int32.ofNat (latN cs))), .unset]) rfl (G := ?_)
  refine Go.iload d3_14 rfl (G := ?_)
  refine Go.iloadN d3_16 rfl (G := ?_)
  have e : latN cs = n := by rw [latN_all hlat, hn]
  refine Go.icmp d3_17 (pc2 := 57) (Gy := fun _ => ?_) (Gn := fun h => absurd (show Int32.ofNat (latN cs) = Int32.ofNat n by rw [e]) h)
  refine Go.aloadN d3_57 rfl (G := ?_)
  have e2 : part cs n (latN cs) = cs.map byV := by rw [e, part, Nat.sub_self, ← hn, List.take_length]; simp
  refine Go.sub [0] (by decide) rfl (D' := [(t, .inr (.byte, part cs n (latN cs)))]) rfl (S' := []) eN (G := ?_)
  exact Go.retA d3_58 ⟨t, rfl, by rw [e2], rfl⟩ (hl := by show 0 + n + 0 ≤ n; omega)
theorem png_1 : plainName "java/lang/String" = true := by first | (simp [plainName, overriddenIn]; done) | decide +kernel
theorem d4_0 : Dx jdk_42_method_149_code 0 (.aload_n 0) 1 1 := ⟨by decide +kernel, rfl⟩
theorem d4_1 : Dx jdk_42_method_149_code 1 (.invokespecial 1) 3 4 := ⟨by decide +kernel, rfl⟩
theorem d4_4 : Dx jdk_42_method_149_code 4 (.iload_n 3) 1 5 := ⟨by decide +kernel, rfl⟩
theorem d4_5 : Dx jdk_42_method_149_code 5 (.ifCond .ne 22) 3 8 := ⟨by decide +kernel, rfl⟩
theorem d4_8 : Dx jdk_42_method_149_code 8 (.aload_n 0) 1 9 := ⟨by decide +kernel, rfl⟩
theorem d4_9 : Dx jdk_42_method_149_code 9 (.ldc 7) 2 11 := ⟨by decide +kernel, rfl⟩
theorem d4_11 : Dx jdk_42_method_149_code 11 (.getfield 9) 3 14 := ⟨by decide +kernel, rfl⟩
theorem d4_14 : Dx jdk_42_method_149_code 14 (.putfield 9) 3 17 := ⟨by decide +kernel, rfl⟩
theorem d4_17 : Dx jdk_42_method_149_code 17 (.aload_n 0) 1 18 := ⟨by decide +kernel, rfl⟩
theorem d4_18 : Dx jdk_42_method_149_code 18 (.ldc 7) 2 20 := ⟨by decide +kernel, rfl⟩
theorem d4_20 : Dx jdk_42_method_149_code 20 (.getfield 15) 3 23 := ⟨by decide +kernel, rfl⟩
theorem d4_23 : Dx jdk_42_method_149_code 23 (.putfield 15) 3 26 := ⟨by decide +kernel, rfl⟩
theorem d4_26 : Dx jdk_42_method_149_code 26 (.return_) 1 27 := ⟨by decide +kernel, rfl⟩
theorem d4_27 : Dx jdk_42_method_149_code 27 (.getstatic 38) 3 30 := ⟨by decide +kernel, rfl⟩
theorem d4_30 : Dx jdk_42_method_149_code 30 (.ifCond .eq 28) 3 33 := ⟨by decide +kernel, rfl⟩
theorem d4_33 : Dx jdk_42_method_149_code 33 (.aload_n 1) 1 34 := ⟨by decide +kernel, rfl⟩
theorem d4_34 : Dx jdk_42_method_149_code 34 (.iload_n 2) 1 35 := ⟨by decide +kernel, rfl⟩
theorem d4_35 : Dx jdk_42_method_149_code 35 (.iload_n 3) 1 36 := ⟨by decide +kernel, rfl⟩
theorem d4_36 : Dx jdk_42_method_149_code 36 (.invokestatic 177) 3 39 := ⟨by decide +kernel, rfl⟩
theorem d4_39 : Dx jdk_42_method_149_code 39 (.astore 5) 2 41 := ⟨by decide +kernel, rfl⟩
theorem d4_41 : Dx jdk_42_method_149_code 41 (.aload_n 0) 1 42 := ⟨by decide +kernel, rfl⟩
theorem d4_42 : Dx jdk_42_method_149_code 42 (.aload 5) 2 44 := ⟨by decide +kernel, rfl⟩
theorem d4_44 : Dx jdk_42_method_149_code 44 (.iload_n 3) 1 45 := ⟨by decide +kernel, rfl⟩
theorem d4_45 : Dx jdk_42_method_149_code 45 (.invokestatic 47) 3 48 := ⟨by decide +kernel, rfl⟩
theorem d4_48 : Dx jdk_42_method_149_code 48 (.putfield 15) 3 51 := ⟨by decide +kernel, rfl⟩
theorem d4_51 : Dx jdk_42_method_149_code 51 (.aload_n 0) 1 52 := ⟨by decide +kernel, rfl⟩
theorem d4_52 : Dx jdk_42_method_149_code 52 (.aload 5) 2 54 := ⟨by decide +kernel, rfl⟩
theorem d4_54 : Dx jdk_42_method_149_code 54 (.putfield 9) 3 57 := ⟨by decide +kernel, rfl⟩
theorem d4_57 : Dx jdk_42_method_149_code 57 (.return_) 1 58 := ⟨by decide +kernel, rfl⟩
theorem d4_58 : Dx jdk_42_method_149_code 58 (.aload_n 0) 1 59 := ⟨by decide +kernel, rfl⟩
theorem d4_59 : Dx jdk_42_method_149_code 59 (.iconst 1) 1 60 := ⟨by decide +kernel, rfl⟩
theorem d4_60 : Dx jdk_42_method_149_code 60 (.putfield 15) 3 63 := ⟨by decide +kernel, rfl⟩
theorem d4_63 : Dx jdk_42_method_149_code 63 (.aload_n 0) 1 64 := ⟨by decide +kernel, rfl⟩
theorem d4_64 : Dx jdk_42_method_149_code 64 (.aload_n 1) 1 65 := ⟨by decide +kernel, rfl⟩
theorem d4_65 : Dx jdk_42_method_149_code 65 (.iload_n 2) 1 66 := ⟨by decide +kernel, rfl⟩
theorem d4_66 : Dx jdk_42_method_149_code 66 (.iload_n 3) 1 67 := ⟨by decide +kernel, rfl⟩
theorem d4_67 : Dx jdk_42_method_149_code 67 (.invokestatic 180) 3 70 := ⟨by decide +kernel, rfl⟩
theorem d4_70 : Dx jdk_42_method_149_code 70 (.putfield 9) 3 73 := ⟨by decide +kernel, rfl⟩
theorem d4_73 : Dx jdk_42_method_149_code 73 (.return_) 1 74 := ⟨by decide +kernel, rfl⟩
theorem pdg_1 : parseMethodDescriptor "([CII)[B" = some ⟨[.array .char, .int, .int], some (.array .byte)⟩ := by decide +kernel
theorem pdg_2 : parseMethodDescriptor "([BI)B" = some ⟨[.array .byte, .int], some .byte⟩ := by decide +kernel
set_option maxRecDepth 65536 in
set_option maxHeartbeats 40000000 in
theorem c_initV {l : Launch} {Z : State} {a0 : Array Value} {EL : List (String × Nat)} {b : Bool} {n0 : Nat} (hw : ∀ d ∈ tables_1, d.before a0 Z = true) (x src : Addr) (cs : List Int32) (n : Nat) (more : List (String × String × String × Value)) (cpt : Int32) (hCS : Sta Z Z.heap "java/lang/String" "COMPACT_STRINGS" "Z" (.int cpt)) (hcpt : ¬ cpt = 0) (hn : cs.length = n) (hb : n ≤ 4000) (hpos : 0 < n) (hlat : ∀ c ∈ cs, ¬ (255 : Int32) < c) :
    Met l Z a0 EL b n0 (⟨"java/lang/String", "<init>", "([CIILjava/lang/Void;)V"⟩ : MethodName) jdk_42_method_149_code 6 none [] (rm4 2 1 n 35) [.ref x, .ref src, .int 0, .int (Int32.ofNat n), .null] [(x, .inl ("java/lang/String", ("java/lang/String", "value", "[B", .null) :: ("java/lang/String", "coder", "B", .int 0) :: more))] [(src, .inr (.char, cs.map Value.int))] (fun v D' S' => ∃ t, v = none ∧ D' = [(x, .inl ("java/lang/String", ("java/lang/String", "value", "[B", .ref t) :: ("java/lang/String", "coder", "B", .int 0) :: more)), (t, .inr (.byte, cs.map byV))] ∧ S' = []) := by
  refine Met.of_go (own := "java/lang/String") (nm := "<init>") (Ls := #[.val (.ref x), .val (.ref src), .val (.int 0), .val (.int (Int32.ofNat n)), .val .null, .unset]) (plainFor_of_name png_1) (fun m => by first | (simp [entryFrame, mkF, argsToLocals, Value.category]; done) | rfl) ?_
  refine Go.aloadN d4_0 rfl (G := ?_)
  refine Go.objInit d4_1 (hw _ (List.mem_of_getElem? (i := 11) rfl)) (hw _ (List.mem_of_getElem? (i := 12) rfl)) (hw _ (List.mem_of_getElem? (i := 13) rfl)) rfl (Nat.le_of_ble_eq_true rfl) (Nat.le_of_ble_eq_true rfl) (G := ?_)
  refine Go.iloadN d4_4 rfl (G := ?_)
  refine Go.ifc d4_5 (pc2 := 27) (Gy := fun _ => ?_) (Gn := fun h => absurd (fun (e : Int32.ofNat n = 0) => by have := (nI_eq (n := 0) (by omega) (by omega)).mp e; omega) h)
  refine Go.getstatic d4_27 (host := "") (Or.inl (hw _ (List.mem_of_getElem? (i := 14) rfl))) Via.refl hCS (G := ?_)
  refine Go.ifc d4_30 (pc2 := 58) (Gy := fun h => absurd h hcpt) (Gn := fun _ => ?_)
  refine Go.aloadN d4_33 rfl (G := ?_)
  refine Go.iloadN d4_34 rfl (G := ?_)
  refine Go.iloadN d4_35 rfl (G := ?_)
  refine Go.invokestatic false d4_36 (hw _ (List.mem_of_getElem? (i := 15) rfl)) (hw _ (List.mem_of_getElem? (i := 16) rfl)) (hw _ (List.mem_of_getElem? (i := 17) rfl)) (hw _ (List.mem_of_getElem? (i := 18) rfl)) (c_compress hw src cs n hn hb hlat) pdg_1 rfl (argsL := [.ref src, .int 0, .int (Int32.ofNat n)]) (rest := []) rfl rfl (Dr := [(x, .inl ("java/lang/String", ("java/lang/String", "value", "[B", .null) :: ("java/lang/String", "coder", "B", .int 0) :: more))]) rfl (eS (Or.inl (List.mem_of_getElem? (i := 0) rfl)) eN) (hsl := by show 0 + n ≤ n; omega) (G := ?_)
  rintro _ _ _ ⟨t, rfl, rfl, rfl⟩
  refine Go.norm (D2 := [(t, .inr (.byte, cs.map byV)), (x, .inl ("java/lang/String", ("java/lang/String", "value", "[B", .null) :: ("java/lang/String", "coder", "B", .int 0) :: more))]) (S2 := [(src, .inr (.char, cs.map Value.int))]) (c2 := 1) (s2 := 0 + n) (st2 := [.ref t]) ?_
  refine Go.astore d4_39 (Ls' := #[.val (.ref x), .val (.ref src), .val (.int 0), .val (.int (Int32.ofNat n)), .val .null, .val (.ref t)]) rfl (G := ?_)
  refine Go.aloadN d4_41 rfl (G := ?_)
  refine Go.aload d4_42 rfl (G := ?_)
  refine Go.iloadN d4_44 rfl (G := ?_)
  refine Go.invokestatic true d4_45 (hw _ (List.mem_of_getElem? (i := 23) rfl)) (hw _ (List.mem_of_getElem? (i := 24) rfl)) (hw _ (List.mem_of_getElem? (i := 17) rfl)) (hw _ (List.mem_of_getElem? (i := 25) rfl)) (c_coderFrom hw t (cs.map byV) (Int32.ofNat n) 0 (by rw [List.length_map, hn, Int32.sub_self]; decide) rfl) pdg_2 rfl (argsL := [.ref t, .int (Int32.ofNat n)]) (rest := [.ref x]) rfl rfl (Dr := [(t, .inr (.byte, cs.map byV)), (x, .inl ("java/lang/String", ("java/lang/String", "value", "[B", .null) :: ("java/lang/String", "coder", "B", .int 0) :: more))]) rfl (eS (Or.inr ⟨rfl, List.mem_of_getElem? (i := 0) rfl⟩) eN) (hsl := by show 0 + n + 0 ≤ n; omega) (G := ?_)
  rintro _ _ _ ⟨rfl, rfl, rfl⟩
  refine Go.norm (D2 := [(t, .inr (.byte, cs.map byV)), (x, .inl ("java/lang/String", ("java/lang/String", "value", "[B", .null) :: ("java/lang/String", "coder", "B", .int 0) :: more))]) (S2 := [(src, .inr (.char, cs.map Value.int))]) (c2 := 1) (s2 := 0 + n + 0) (st2 := [.int 0, .ref x]) ?_
  refine Go.putfield d4_48 (hw _ (List.mem_of_getElem? (i := 26) rfl)) Via.refl 1 rfl 1 rfl (Or.inr ⟨(hw _ (List.mem_of_getElem? (i := 27) rfl)), rfl, rfl⟩) (hw _ (List.mem_of_getElem? (i := 1) rfl)) (ty := .byte) (by decide +kernel) (v' := .int 0) rfl rfl (D' := [(t, .inr (.byte, cs.map byV)), (x, .inl ("java/lang/String", ("java/lang/String", "value", "[B", .null) :: ("java/lang/String", "coder", "B", .int 0) :: more))]) rfl (G := ?_)
  refine Go.aloadN d4_51 rfl (G := ?_)
  refine Go.aload d4_52 rfl (G := ?_)
  refine Go.putfield d4_54 (hw _ (List.mem_of_getElem? (i := 28) rfl)) Via.refl 1 rfl 0 rfl (Or.inr ⟨(hw _ (List.mem_of_getElem? (i := 29) rfl)), rfl, rfl⟩) (hw _ (List.mem_of_getElem? (i := 1) rfl)) (ty := .array .byte) (by decide +kernel) (v' := .ref t) rfl rfl (D' := [(t, .inr (.byte, cs.map byV)), (x, .inl ("java/lang/String", ("java/lang/String", "value", "[B", .ref t) :: ("java/lang/String", "coder", "B", .int 0) :: more))]) rfl (G := ?_)
  refine Go.sub [1, 0] (by decide) rfl (D' := [(x, .inl ("java/lang/String", ("java/lang/String", "value", "[B", .ref t) :: ("java/lang/String", "coder", "B", .int 0) :: more)), (t, .inr (.byte, cs.map byV))]) rfl (S' := []) eN (G := ?_)
  exact Go.retV d4_57 ⟨t, rfl, rfl, rfl⟩ (hl := by show 0 + n + 0 ≤ n; omega)
theorem d5_0 : Dx jdk_42_method_3_code 0 (.aload_n 0) 1 1 := ⟨by decide +kernel, rfl⟩
theorem d5_1 : Dx jdk_42_method_3_code 1 (.aload_n 1) 1 2 := ⟨by decide +kernel, rfl⟩
theorem d5_2 : Dx jdk_42_method_3_code 2 (.iconst 0) 1 3 := ⟨by decide +kernel, rfl⟩
theorem d5_3 : Dx jdk_42_method_3_code 3 (.aload_n 1) 1 4 := ⟨by decide +kernel, rfl⟩
theorem d5_4 : Dx jdk_42_method_3_code 4 (.arraylength) 1 5 := ⟨by decide +kernel, rfl⟩
theorem d5_5 : Dx jdk_42_method_3_code 5 (.aconst_null) 1 6 := ⟨by decide +kernel, rfl⟩
theorem d5_6 : Dx jdk_42_method_3_code 6 (.invokespecial 27) 3 9 := ⟨by decide +kernel, rfl⟩
theorem d5_9 : Dx jdk_42_method_3_code 9 (.return_) 1 10 := ⟨by decide +kernel, rfl⟩
theorem pdg_3 : parseMethodDescriptor "([CIILjava/lang/Void;)V" = some ⟨[.array .char, .int, .int, .object "java/lang/Void"], none⟩ := by decide +kernel
set_option maxRecDepth 65536 in
set_option maxHeartbeats 40000000 in
theorem c_init {l : Launch} {Z : State} {a0 : Array Value} {EL : List (String × Nat)} {b : Bool} {n0 : Nat} (hw : ∀ d ∈ tables_1, d.before a0 Z = true) (x src : Addr) (cs : List Int32) (n : Nat) (more : List (String × String × String × Value)) (cpt : Int32) (hCS : Sta Z Z.heap "java/lang/String" "COMPACT_STRINGS" "Z" (.int cpt)) (hcpt : ¬ cpt = 0) (hn : cs.length = n) (hb : n ≤ 4000) (hpos : 0 < n) (hlat : ∀ c ∈ cs, ¬ (255 : Int32) < c) :
    Met l Z a0 EL b n0 (⟨"java/lang/String", "<init>", "([C)V"⟩ : MethodName) jdk_42_method_3_code 2 none [] (rm4 3 1 n 52) [.ref x, .ref src] [(x, .inl ("java/lang/String", ("java/lang/String", "value", "[B", .null) :: ("java/lang/String", "coder", "B", .int 0) :: more))] [(src, .inr (.char, cs.map Value.int))] (fun v D' S' => ∃ t, v = none ∧ D' = [(x, .inl ("java/lang/String", ("java/lang/String", "value", "[B", .ref t) :: ("java/lang/String", "coder", "B", .int 0) :: more)), (t, .inr (.byte, cs.map byV))] ∧ S' = []) := by
  refine Met.of_go (own := "java/lang/String") (nm := "<init>") (Ls := #[.val (.ref x), .val (.ref src)]) (plainFor_of_name png_1) (fun m => by first | (simp [entryFrame, mkF, argsToLocals, Value.category]; done) | rfl) ?_
  refine Go.aloadN d5_0 rfl (G := ?_)
  refine Go.aloadN d5_1 rfl (G := ?_)
  refine Go.iconst d5_2 (v := 0) rfl (G := ?_)
  refine Go.aloadN d5_3 rfl (G := ?_)
  refine Go.arraylength d5_4 (inS (i := 0) rfl) (n := (Int32.ofNat n)) (by rw [List.length_map, hn]) (G := ?_)
  refine Go.aconstNull d5_5 (G := ?_)
  refine Go.invokeinit false d5_6 rfl (hw _ (List.mem_of_getElem? (i := 7) rfl)) (hw _ (List.mem_of_getElem? (i := 8) rfl)) (hw _ (List.mem_of_getElem? (i := 2) rfl)) (hw _ (List.mem_of_getElem? (i := 10) rfl)) (c_initV hw x src cs n more cpt hCS hcpt hn hb hpos hlat) pdg_3 rfl (argsL := [.ref src, .int 0, .int (Int32.ofNat n), .null]) (rest := []) rfl rfl (Dr := []) rfl (eS (Or.inl (List.mem_of_getElem? (i := 0) rfl)) eN) (hsl := by show 0 + n ≤ n; omega) (G := ?_)
  rintro _ _ _ ⟨t, rfl, rfl, rfl⟩
  refine Go.norm (D2 := [(x, .inl ("java/lang/String", ("java/lang/String", "value", "[B", .ref t) :: ("java/lang/String", "coder", "B", .int 0) :: more)), (t, .inr (.byte, cs.map byV))]) (S2 := [(src, .inr (.char, cs.map Value.int))]) (c2 := 1) (s2 := 0 + n) (st2 := []) ?_
  refine Go.sub [0, 1] (by decide) rfl (D' := [(x, .inl ("java/lang/String", ("java/lang/String", "value", "[B", .ref t) :: ("java/lang/String", "coder", "B", .int 0) :: more)), (t, .inr (.byte, cs.map byV))]) rfl (S' := []) eN (G := ?_)
  exact Go.retV d5_9 ⟨t, rfl, rfl, rfl⟩ (hl := by show 0 + n ≤ n; omega)

theorem bT {r : Int32} {P : Prop} (h : (r = 1 ∧ P) ∨ (r = 0 ∧ ¬ P)) (q : ¬ r = 0) : P := h.elim (fun x => x.2) (fun x => absurd x.1 q)
theorem bF {r : Int32} {P : Prop} (h : (r = 1 ∧ P) ∨ (r = 0 ∧ ¬ P)) (q : r = 0) : ¬ P := h.elim (fun x => absurd (x.1.symm.trans q) (by decide)) (fun x => x.2)
theorem shr0 (x : Int32) : x >>> ((0 : Int32) &&& 31) = x := by
  apply Int32.toBitVec_inj.mp; simp
theorem nI_pred {n : Nat} (h : 0 < n) : Int32.ofNat n - 1 = Int32.ofNat (n - 1) := by
  obtain ⟨k, rfl⟩ : ∃ k, n = k + 1 := ⟨n - 1, by omega⟩
  rw [← nI_succ, Nat.add_sub_cancel, Int32.add_sub_cancel]
theorem byv_at {cs : List Int32} {i : Nat} {x : Int32} (hi : i < 2147483648) (hx : cs[i]? = some x) : (cs.map byV)[(Int32.ofNat i).toNatClampNeg]? = some (.int x.toInt8.toInt32) := by
  rw [nI_nat hi, List.getElem?_map, hx]; rfl
theorem lat_y {c : Int32} (h0 : 0 ≤ c.toInt) (h1 : c.toInt ≤ 255) : (c.toInt8.toInt32 &&& 255).toUInt32.toUInt16.toUInt32.toInt32 = c := by
  have a2 := c_i2b c
  rw [i2c_mask]
  have a3 := c_mask c.toInt8.toInt32 255 8 (by omega) (by decide)
  apply Int32.toInt_inj.mp
  simp only [Nat.reducePow, Int.reducePow] at *
  omega
theorem m16_lat {x : Int32} (h : ¬ (255 : Int32) < x) : x.toInt ≤ 255 := by
  rw [Int32.lt_iff_toInt_lt] at h; have : (255 : Int32).toInt = 255 := rfl; omega
theorem latN_full : ∀ {cs : List Int32}, latN cs = cs.length → ∀ c ∈ cs, ¬ (255 : Int32) < c
  | [], _, _, h => by cases h
  | c :: r, e, x, hx => by
    by_cases q : (255 : Int32) < c
    · rw [latN, if_pos q] at e; simp at e
    · rw [latN, if_neg q] at e
      rcases List.mem_cons.mp hx with rfl | hx
      · exact q
      · exact latN_full (cs := r) (by simpa using e) x hx


theorem byV_inj {x y : Int32} (hx : 0 ≤ x.toInt ∧ x.toInt ≤ 255) (hy : 0 ≤ y.toInt ∧ y.toInt ≤ 255) (h : x.toInt8.toInt32 = y.toInt8.toInt32) : x = y := by
  have a := c_i2b x; have c := c_i2b y
  have h := congrArg Int32.toInt h
  apply Int32.toInt_inj.mp; omega
theorem eq_of_at {cs ds : List Int32} (hl : cs.length = ds.length) (h : ∀ (j : Nat) (x y : Int32), cs[j]? = some x → ds[j]? = some y → x = y) : cs = ds := by
  apply List.ext_getElem?
  intro j
  by_cases q : j < cs.length
  · rw [List.getElem?_eq_getElem q, List.getElem?_eq_getElem (by omega), h j _ _ (List.getElem?_eq_getElem q) (List.getElem?_eq_getElem (by omega))]
  · rw [List.getElem?_eq_none (by omega), List.getElem?_eq_none (by omega)]

theorem png_2 : plainName "java/lang/StringLatin1" = true := by first | (simp [plainName, overriddenIn]; done) | decide +kernel
theorem d6_0 : Dx jdk_43_method_13_code 0 (.aload_n 0) 1 1 := ⟨by decide +kernel, rfl⟩
theorem d6_1 : Dx jdk_43_method_13_code 1 (.arraylength) 1 2 := ⟨by decide +kernel, rfl⟩
theorem d6_2 : Dx jdk_43_method_13_code 2 (.aload_n 1) 1 3 := ⟨by decide +kernel, rfl⟩
theorem d6_3 : Dx jdk_43_method_13_code 3 (.arraylength) 1 4 := ⟨by decide +kernel, rfl⟩
theorem d6_4 : Dx jdk_43_method_13_code 4 (.if_icmp .ne 30) 3 7 := ⟨by decide +kernel, rfl⟩
theorem d6_7 : Dx jdk_43_method_13_code 7 (.iconst 0) 1 8 := ⟨by decide +kernel, rfl⟩
theorem d6_8 : Dx jdk_43_method_13_code 8 (.istore_n 2) 1 9 := ⟨by decide +kernel, rfl⟩
theorem d6_9 : Dx jdk_43_method_13_code 9 (.iload_n 2) 1 10 := ⟨by decide +kernel, rfl⟩
theorem d6_10 : Dx jdk_43_method_13_code 10 (.aload_n 0) 1 11 := ⟨by decide +kernel, rfl⟩
theorem d6_11 : Dx jdk_43_method_13_code 11 (.arraylength) 1 12 := ⟨by decide +kernel, rfl⟩
theorem d6_12 : Dx jdk_43_method_13_code 12 (.if_icmp .ge 20) 3 15 := ⟨by decide +kernel, rfl⟩
theorem d6_15 : Dx jdk_43_method_13_code 15 (.aload_n 0) 1 16 := ⟨by decide +kernel, rfl⟩
theorem d6_16 : Dx jdk_43_method_13_code 16 (.iload_n 2) 1 17 := ⟨by decide +kernel, rfl⟩
theorem d6_17 : Dx jdk_43_method_13_code 17 (.baload) 1 18 := ⟨by decide +kernel, rfl⟩
theorem d6_18 : Dx jdk_43_method_13_code 18 (.aload_n 1) 1 19 := ⟨by decide +kernel, rfl⟩
theorem d6_19 : Dx jdk_43_method_13_code 19 (.iload_n 2) 1 20 := ⟨by decide +kernel, rfl⟩
theorem d6_20 : Dx jdk_43_method_13_code 20 (.baload) 1 21 := ⟨by decide +kernel, rfl⟩
theorem d6_21 : Dx jdk_43_method_13_code 21 (.if_icmp .eq 5) 3 24 := ⟨by decide +kernel, rfl⟩
theorem d6_24 : Dx jdk_43_method_13_code 24 (.iconst 0) 1 25 := ⟨by decide +kernel, rfl⟩
theorem d6_25 : Dx jdk_43_method_13_code 25 (.ireturn) 1 26 := ⟨by decide +kernel, rfl⟩
theorem d6_26 : Dx jdk_43_method_13_code 26 (.iinc 2 1) 3 29 := ⟨by decide +kernel, rfl⟩
theorem d6_29 : Dx jdk_43_method_13_code 29 (.goto (-20)) 3 32 := ⟨by decide +kernel, rfl⟩
theorem d6_32 : Dx jdk_43_method_13_code 32 (.iconst 1) 1 33 := ⟨by decide +kernel, rfl⟩
theorem d6_33 : Dx jdk_43_method_13_code 33 (.ireturn) 1 34 := ⟨by decide +kernel, rfl⟩
theorem d6_34 : Dx jdk_43_method_13_code 34 (.iconst 0) 1 35 := ⟨by decide +kernel, rfl⟩
theorem d6_35 : Dx jdk_43_method_13_code 35 (.ireturn) 1 36 := ⟨by decide +kernel, rfl⟩
set_option maxRecDepth 65536 in
set_option maxHeartbeats 40000000 in
theorem c_eqB {l : Launch} {Z : State} {a0 : Array Value} {EL : List (String × Nat)} {b : Bool} {n0 : Nat} (hw : ∀ d ∈ tables_1, d.before a0 Z = true) (c d : Addr) (cs ds : List Int32) (n m : Nat) (hn : cs.length = n) (hm : ds.length = m) (hb : n ≤ 4000) (hb2 : m ≤ 4000) (hc : ∀ c ∈ cs, 0 ≤ c.toInt ∧ c.toInt ≤ 255) (hd : ∀ c ∈ ds, 0 ≤ c.toInt ∧ c.toInt ≤ 255) :
    Met l Z a0 EL b n0 (⟨"java/lang/StringLatin1", "equals", "([B[B)Z"⟩ : MethodName) jdk_43_method_13_code 3 (some .boolean) [] (rm4 0 0 0 0) [.ref c, .ref d] [] [(c, .inr (.byte, cs.map byV)), (d, .inr (.byte, ds.map byV))] (fun v D' S' => ∃ r, ((r = 1 ∧ cs = ds) ∨ (r = 0 ∧ ¬ cs = ds)) ∧ v = some (.int r) ∧ D' = [] ∧ S' = []) := by
  refine Met.of_go (own := "java/lang/StringLatin1") (nm := "equals") (Ls := #[.val (.ref c), .val (.ref d), .unset]) (plainFor_of_name png_2) (fun m => by first | (simp [entryFrame, mkF, argsToLocals, Value.category]; done) | rfl) ?_
  refine Go.aloadN d6_0 rfl (G := ?_)
  refine Go.arraylength d6_1 (inS (i := 0) rfl) (n := (Int32.ofNat n)) (by rw [List.length_map, hn]) (G := ?_)
  refine Go.aloadN d6_2 rfl (G := ?_)
  refine Go.arraylength d6_3 (inS (i := 1) rfl) (n := (Int32.ofNat m)) (by rw [List.length_map, hm]) (G := ?_)
  refine Go.icmp d6_4 (pc2 := 34) (Gy := fun h => ?_) (Gn := fun h => ?_)
  · have h : ¬ (Int32.ofNat n) = (Int32.ofNat m) := h
    refine Go.iconst d6_34 (v := 0) rfl (G := ?_)
    refine Go.sub [] (by decide) rfl (D' := []) rfl (S' := []) eN (G := ?_)
    exact Go.retB d6_35 (by simp) (z' := 0) rfl ⟨0, Or.inr ⟨rfl, fun q => h (by rw [← hn, ← hm, q])⟩, rfl, rfl, rfl⟩
  · have h : (Int32.ofNat n) = (Int32.ofNat m) := Classical.not_not.mp h
    have hnm : n = m := (nI_eq (by omega) (by omega)).mp h
    refine Go.iconst d6_7 (v := 0) rfl (G := ?_)
    refine Go.istoreN d6_8 (Ls' := #[.val (.ref c), .val (.ref d), .val (.int 0)]) rfl (G := ?_)
    have main : ∀ k i, i + k = n → (∀ j x y, j < i → cs[j]? = some x → ds[j]? = some y → x = y) →
        Go l Z a0 EL b n0 "java/lang/StringLatin1" jdk_43_method_13_code 3 (some .boolean) "equals" (rm4 0 0 0 0) [] (fun v D' S' => ∃ r, ((r = 1 ∧ cs = ds) ∨ (r = 0 ∧ ¬ cs = ds)) ∧ v = some (.int r) ∧ D' = [] ∧ S' = []) [] [(c, .inr (.byte, cs.map byV)), (d, .inr (.byte, ds.map byV))] 0 0 9 #[.val (.ref c), .val (.ref d), .val (.int (Int32.ofNat i))] [] := by
      intro k
      induction k with
      | zero =>
        intro i hi hall
        have hin : i = n := by omega
        refine Go.iloadN d6_9 rfl (G := ?_)
        refine Go.aloadN d6_10 rfl (G := ?_)
        refine Go.arraylength d6_11 (inS (i := 0) rfl) (n := (Int32.ofNat n)) (by rw [List.length_map, hn]) (G := ?_)
        refine Go.icmp d6_12 (pc2 := 32) (Gy := fun _ => ?_) (Gn := fun h => absurd (show ¬ (Int32.ofNat i < Int32.ofNat n) by rw [hin]; exact Int32.lt_irrefl) h)
        refine Go.iconst d6_32 (v := 1) rfl (G := ?_)
        refine Go.sub [] (by decide) rfl (D' := []) rfl (S' := []) eN (G := ?_)
        exact Go.retB d6_33 (by simp) (z' := 1) rfl ⟨1, Or.inl ⟨rfl, eq_of_at (by omega) (fun j x y hx hy => hall j x y (by have := (List.getElem?_eq_some_iff.mp hx).1; omega) hx hy)⟩, rfl, rfl, rfl⟩
      | succ k ih =>
        intro i hi hall
        have hin : i < n := by omega
        have hi31 : i < 2147483648 := by omega
        obtain ⟨x, hx⟩ : ∃ x, cs[i]? = some x := ⟨_, List.getElem?_eq_getElem (by omega)⟩
        obtain ⟨y, hy⟩ : ∃ y, ds[i]? = some y := ⟨_, List.getElem?_eq_getElem (by omega)⟩
        refine Go.iloadN d6_9 rfl (G := ?_)
        refine Go.aloadN d6_10 rfl (G := ?_)
        refine Go.arraylength d6_11 (inS (i := 0) rfl) (n := (Int32.ofNat n)) (by rw [List.length_map, hn]) (G := ?_)
        refine Go.icmp d6_12 (pc2 := 32) (Gy := fun h => absurd ((nI_lt hi31 (by omega)).mpr hin) h) (Gn := fun _ => ?_)
        refine Go.aloadN d6_15 rfl (G := ?_)
        refine Go.iloadN d6_16 rfl (G := ?_)
        refine Go.baload d6_17 (inS (i := 0) rfl) (v := .int x.toInt8.toInt32) (byv_at hi31 hx) (nI_nn hi31) (G := ?_)
        refine Go.aloadN d6_18 rfl (G := ?_)
        refine Go.iloadN d6_19 rfl (G := ?_)
        refine Go.baload d6_20 (inS (i := 1) rfl) (v := .int y.toInt8.toInt32) (byv_at hi31 hy) (nI_nn hi31) (G := ?_)
        refine Go.icmp d6_21 (pc2 := 26) (Gy := fun hq => ?_) (Gn := fun hq => ?_)
        · have hq : x.toInt8.toInt32 = y.toInt8.toInt32 := hq
          have hxy : x = y := byV_inj (hc x (List.mem_of_getElem? hx)) (hd y (List.mem_of_getElem? hy)) hq
          refine Go.iinc d6_26 rfl (v := 1) rfl (z := (Int32.ofNat (i + 1))) (nI_succ i) (Ls' := #[.val (.ref c), .val (.ref d), .val (.int (Int32.ofNat (i + 1)))]) rfl (G := ?_)
          refine Go.goto d6_29 (pc2 := 9) (G := ?_)
          exact ih (i + 1) (by omega) (fun j u v hj hu hv => by
            rcases Nat.lt_or_ge j i with q | q
            · exact hall j u v q hu hv
            · obtain rfl : j = i := by omega
              cases hx.symm.trans hu; cases hy.symm.trans hv; exact hxy)
        · have hq : ¬ x.toInt8.toInt32 = y.toInt8.toInt32 := hq
          refine Go.iconst d6_24 (v := 0) rfl (G := ?_)
          refine Go.sub [] (by decide) rfl (D' := []) rfl (S' := []) eN (G := ?_)
          exact Go.retB d6_25 (by simp) (z' := 0) rfl ⟨0, Or.inr ⟨rfl, fun q => hq (by subst q; cases hx.symm.trans hy; rfl)⟩, rfl, rfl, rfl⟩
    exact main n 0 (by omega) (fun j x y hj => absurd hj (by omega))
theorem d7_0 : Dx jdk_42_method_66_code 0 (.aload_n 0) 1 1 := ⟨by decide +kernel, rfl⟩
theorem d7_1 : Dx jdk_42_method_66_code 1 (.aload_n 1) 1 2 := ⟨by decide +kernel, rfl⟩
theorem d7_2 : Dx jdk_42_method_66_code 2 (.if_acmp .ne 5) 3 5 := ⟨by decide +kernel, rfl⟩
theorem d7_5 : Dx jdk_42_method_66_code 5 (.iconst 1) 1 6 := ⟨by decide +kernel, rfl⟩
theorem d7_6 : Dx jdk_42_method_66_code 6 (.ireturn) 1 7 := ⟨by decide +kernel, rfl⟩
theorem d7_7 : Dx jdk_42_method_66_code 7 (.aload_n 1) 1 8 := ⟨by decide +kernel, rfl⟩
theorem d7_8 : Dx jdk_42_method_66_code 8 (.instanceof 10) 3 11 := ⟨by decide +kernel, rfl⟩
theorem d7_11 : Dx jdk_42_method_66_code 11 (.ifCond .eq 43) 3 14 := ⟨by decide +kernel, rfl⟩
theorem d7_14 : Dx jdk_42_method_66_code 14 (.aload_n 1) 1 15 := ⟨by decide +kernel, rfl⟩
theorem d7_15 : Dx jdk_42_method_66_code 15 (.checkcast 10) 3 18 := ⟨by decide +kernel, rfl⟩
theorem d7_18 : Dx jdk_42_method_66_code 18 (.astore_n 2) 1 19 := ⟨by decide +kernel, rfl⟩
theorem d7_19 : Dx jdk_42_method_66_code 19 (.getstatic 38) 3 22 := ⟨by decide +kernel, rfl⟩
theorem d7_22 : Dx jdk_42_method_66_code 22 (.ifCond .eq 14) 3 25 := ⟨by decide +kernel, rfl⟩
theorem d7_25 : Dx jdk_42_method_66_code 25 (.aload_n 0) 1 26 := ⟨by decide +kernel, rfl⟩
theorem d7_26 : Dx jdk_42_method_66_code 26 (.getfield 15) 3 29 := ⟨by decide +kernel, rfl⟩
theorem d7_29 : Dx jdk_42_method_66_code 29 (.aload_n 2) 1 30 := ⟨by decide +kernel, rfl⟩
theorem d7_30 : Dx jdk_42_method_66_code 30 (.getfield 15) 3 33 := ⟨by decide +kernel, rfl⟩
theorem d7_33 : Dx jdk_42_method_66_code 33 (.if_icmp .ne 21) 3 36 := ⟨by decide +kernel, rfl⟩
theorem d7_36 : Dx jdk_42_method_66_code 36 (.aload_n 0) 1 37 := ⟨by decide +kernel, rfl⟩
theorem d7_37 : Dx jdk_42_method_66_code 37 (.getfield 9) 3 40 := ⟨by decide +kernel, rfl⟩
theorem d7_40 : Dx jdk_42_method_66_code 40 (.aload_n 2) 1 41 := ⟨by decide +kernel, rfl⟩
theorem d7_41 : Dx jdk_42_method_66_code 41 (.getfield 9) 3 44 := ⟨by decide +kernel, rfl⟩
theorem d7_44 : Dx jdk_42_method_66_code 44 (.invokestatic 541) 3 47 := ⟨by decide +kernel, rfl⟩
theorem d7_47 : Dx jdk_42_method_66_code 47 (.ifCond .eq 7) 3 50 := ⟨by decide +kernel, rfl⟩
theorem d7_50 : Dx jdk_42_method_66_code 50 (.iconst 1) 1 51 := ⟨by decide +kernel, rfl⟩
theorem d7_51 : Dx jdk_42_method_66_code 51 (.goto 4) 3 54 := ⟨by decide +kernel, rfl⟩
theorem d7_54 : Dx jdk_42_method_66_code 54 (.iconst 0) 1 55 := ⟨by decide +kernel, rfl⟩
theorem d7_55 : Dx jdk_42_method_66_code 55 (.ireturn) 1 56 := ⟨by decide +kernel, rfl⟩
theorem pdg_4 : parseMethodDescriptor "([B[B)Z" = some ⟨[.array .byte, .array .byte], some .boolean⟩ := by decide +kernel
set_option maxRecDepth 65536 in
set_option maxHeartbeats 40000000 in
theorem c_eqL {l : Launch} {Z : State} {a0 : Array Value} {EL : List (String × Nat)} {b : Bool} {n0 : Nat} (hw : ∀ d ∈ tables_1, d.before a0 Z = true) (a c b' d : Addr) (cs ds : List Int32) (n m : Nat) (more1 more2 : List (String × String × String × Value)) (cpt : Int32) (hCS : Sta Z Z.heap "java/lang/String" "COMPACT_STRINGS" "Z" (.int cpt)) (hcpt : ¬ cpt = 0) (hne : a ≠ b') (hn : cs.length = n) (hm : ds.length = m) (hb : n ≤ 4000) (hb2 : m ≤ 4000) (hc : ∀ c ∈ cs, 0 ≤ c.toInt ∧ c.toInt ≤ 255) (hd : ∀ c ∈ ds, 0 ≤ c.toInt ∧ c.toInt ≤ 255) :
    Met l Z a0 EL b n0 (⟨"java/lang/String", "equals", "(Ljava/lang/Object;)Z"⟩ : MethodName) jdk_42_method_66_code 3 (some .boolean) [] (rm4 1 0 0 14) [.ref a, .ref b'] [] [(a, .inl ("java/lang/String", ("java/lang/String", "value", "[B", .ref c) :: ("java/lang/String", "coder", "B", .int 0) :: more1)), (c, .inr (.byte, cs.map byV)), (b', .inl ("java/lang/String", ("java/lang/String", "value", "[B", .ref d) :: ("java/lang/String", "coder", "B", .int 0) :: more2)), (d, .inr (.byte, ds.map byV))] (fun v D' S' => ∃ r, ((r = 1 ∧ cs = ds) ∨ (r = 0 ∧ ¬ cs = ds)) ∧ v = some (.int r) ∧ D' = [] ∧ S' = []) := by
  refine Met.of_go (own := "java/lang/String") (nm := "equals") (Ls := #[.val (.ref a), .val (.ref b'), .unset]) (plainFor_of_name png_1) (fun m => by first | (simp [entryFrame, mkF, argsToLocals, Value.category]; done) | rfl) ?_
  refine Go.aloadN d7_0 rfl (G := ?_)
  refine Go.aloadN d7_1 rfl (G := ?_)
  refine Go.acmpne d7_2 (pc2 := 7) (Gy := fun _ => ?_) (Gn := fun h => absurd (Value.ref.inj h) hne)
  refine Go.aloadN d7_7 rfl (G := ?_)
  refine Go.instanceofY d7_8 (hw _ (List.mem_of_getElem? (i := 243) rfl)) (inS (i := 2) rfl) (Or.inl rfl) (G := ?_)
  refine Go.ifc d7_11 (pc2 := 54) (Gy := fun h => absurd h (show ¬ ((1 : Int32) = 0) by decide)) (Gn := fun _ => ?_)
  refine Go.aloadN d7_14 rfl (G := ?_)
  refine Go.checkcast d7_15 (hw _ (List.mem_of_getElem? (i := 243) rfl)) (inS (i := 2) rfl) (Or.inl rfl) (G := ?_)
  refine Go.astoreN d7_18 (Ls' := #[.val (.ref a), .val (.ref b'), .val (.ref b')]) rfl (G := ?_)
  refine Go.getstatic d7_19 (host := "") (Or.inl (hw _ (List.mem_of_getElem? (i := 14) rfl))) Via.refl hCS (G := ?_)
  refine Go.ifc d7_22 (pc2 := 36) (Gy := fun h => absurd h hcpt) (Gn := fun _ => ?_)
  refine Go.aloadN d7_25 rfl (G := ?_)
  refine Go.getfield d7_26 (host := "") (Or.inl (hw _ (List.mem_of_getElem? (i := 26) rfl))) Via.refl (inS (i := 0) rfl) 1 rfl (G := ?_)
  refine Go.aloadN d7_29 rfl (G := ?_)
  refine Go.getfield d7_30 (host := "") (Or.inl (hw _ (List.mem_of_getElem? (i := 26) rfl))) Via.refl (inS (i := 2) rfl) 1 rfl (G := ?_)
  refine Go.icmp d7_33 (pc2 := 54) (Gy := fun h => absurd h (show ¬ (¬ (0 : Int32) = 0) by decide)) (Gn := fun _ => ?_)
  refine Go.aloadN d7_36 rfl (G := ?_)
  refine Go.getfield d7_37 (host := "") (Or.inl (hw _ (List.mem_of_getElem? (i := 28) rfl))) Via.refl (inS (i := 0) rfl) 0 rfl (G := ?_)
  refine Go.aloadN d7_40 rfl (G := ?_)
  refine Go.getfield d7_41 (host := "") (Or.inl (hw _ (List.mem_of_getElem? (i := 28) rfl))) Via.refl (inS (i := 2) rfl) 0 rfl (G := ?_)
  refine Go.invokestatic false d7_44 (hw _ (List.mem_of_getElem? (i := 244) rfl)) (hw _ (List.mem_of_getElem? (i := 245) rfl)) (hw _ (List.mem_of_getElem? (i := 246) rfl)) (hw _ (List.mem_of_getElem? (i := 247) rfl)) (c_eqB hw c d cs ds n m hn hm hb hb2 hc hd) pdg_4 rfl (argsL := [.ref c, .ref d]) (rest := []) rfl rfl (Dr := []) rfl (eS (Or.inl (List.mem_of_getElem? (i := 1) rfl)) (eS (Or.inl (List.mem_of_getElem? (i := 3) rfl)) eN)) (G := ?_)
  rintro _ _ _ ⟨r, hr, rfl, rfl, rfl⟩
  refine Go.norm (D2 := []) (S2 := [(a, .inl ("java/lang/String", ("java/lang/String", "value", "[B", .ref c) :: ("java/lang/String", "coder", "B", .int 0) :: more1)), (c, .inr (.byte, cs.map byV)), (b', .inl ("java/lang/String", ("java/lang/String", "value", "[B", .ref d) :: ("java/lang/String", "coder", "B", .int 0) :: more2)), (d, .inr (.byte, ds.map byV))]) (c2 := 0) (s2 := 0) (st2 := [.int r]) ?_
  refine Go.ifc d7_47 (pc2 := 54) (Gy := fun hq => ?_) (Gn := fun hq => ?_)
  · have hq : r = 0 := hq
    refine Go.iconst d7_54 (v := 0) rfl (G := ?_)
    refine Go.sub [] (by decide) rfl (D' := []) rfl (S' := []) eN (G := ?_)
    exact Go.retB d7_55 (by simp) (z' := 0) rfl ⟨0, Or.inr ⟨rfl, bF hr hq⟩, rfl, rfl, rfl⟩
  · have hq : ¬ r = 0 := hq
    refine Go.iconst d7_50 (v := 1) rfl (G := ?_)
    refine Go.goto d7_51 (pc2 := 55) (G := ?_)
    refine Go.sub [] (by decide) rfl (D' := []) rfl (S' := []) eN (G := ?_)
    exact Go.retB d7_55 (by simp) (z' := 1) rfl ⟨1, Or.inl ⟨rfl, bT hr hq⟩, rfl, rfl, rfl⟩
set_option maxRecDepth 65536 in
set_option maxHeartbeats 40000000 in
theorem c_eqSame {l : Launch} {Z : State} {a0 : Array Value} {EL : List (String × Nat)} {b : Bool} {n0 : Nat} (hw : ∀ d ∈ tables_1, d.before a0 Z = true) (a : Addr) :
    Met l Z a0 EL b n0 (⟨"java/lang/String", "equals", "(Ljava/lang/Object;)Z"⟩ : MethodName) jdk_42_method_66_code 3 (some .boolean) [] (rm4 0 0 0 0) [.ref a, .ref a] [] [] (fun v D' S' => v = some (.int 1) ∧ D' = [] ∧ S' = []) := by
  refine Met.of_go (own := "java/lang/String") (nm := "equals") (Ls := #[.val (.ref a), .val (.ref a), .unset]) (plainFor_of_name png_1) (fun m => by first | (simp [entryFrame, mkF, argsToLocals, Value.category]; done) | rfl) ?_
  refine Go.aloadN d7_0 rfl (G := ?_)
  refine Go.aloadN d7_1 rfl (G := ?_)
  refine Go.acmpne d7_2 (pc2 := 7) (Gy := fun h => absurd rfl h) (Gn := fun _ => ?_)
  refine Go.iconst d7_5 (v := 1) rfl (G := ?_)
  exact Go.retB d7_6 (by simp) (z' := 1) rfl ⟨rfl, rfl, rfl⟩
theorem png_3 : plainName "java/lang/AbstractStringBuilder" = true := by first | (simp [plainName, overriddenIn]; done) | decide +kernel
theorem d8_0 : Dx jdk_68_method_2_code 0 (.aload_n 0) 1 1 := ⟨by decide +kernel, rfl⟩
theorem d8_1 : Dx jdk_68_method_2_code 1 (.invokespecial 3) 3 4 := ⟨by decide +kernel, rfl⟩
theorem d8_4 : Dx jdk_68_method_2_code 4 (.getstatic 18) 3 7 := ⟨by decide +kernel, rfl⟩
theorem d8_7 : Dx jdk_68_method_2_code 7 (.ifCond .eq 18) 3 10 := ⟨by decide +kernel, rfl⟩
theorem d8_10 : Dx jdk_68_method_2_code 10 (.aload_n 0) 1 11 := ⟨by decide +kernel, rfl⟩
theorem d8_11 : Dx jdk_68_method_2_code 11 (.iload_n 1) 1 12 := ⟨by decide +kernel, rfl⟩
theorem d8_12 : Dx jdk_68_method_2_code 12 (.newarray .byte) 2 14 := ⟨by decide +kernel, rfl⟩
theorem d8_14 : Dx jdk_68_method_2_code 14 (.putfield 15) 3 17 := ⟨by decide +kernel, rfl⟩
theorem d8_17 : Dx jdk_68_method_2_code 17 (.aload_n 0) 1 18 := ⟨by decide +kernel, rfl⟩
theorem d8_18 : Dx jdk_68_method_2_code 18 (.iconst 0) 1 19 := ⟨by decide +kernel, rfl⟩
theorem d8_19 : Dx jdk_68_method_2_code 19 (.putfield 22) 3 22 := ⟨by decide +kernel, rfl⟩
theorem d8_22 : Dx jdk_68_method_2_code 22 (.goto 16) 3 25 := ⟨by decide +kernel, rfl⟩
theorem d8_25 : Dx jdk_68_method_2_code 25 (.aload_n 0) 1 26 := ⟨by decide +kernel, rfl⟩
theorem d8_26 : Dx jdk_68_method_2_code 26 (.iload_n 1) 1 27 := ⟨by decide +kernel, rfl⟩
theorem d8_27 : Dx jdk_68_method_2_code 27 (.invokestatic 26) 3 30 := ⟨by decide +kernel, rfl⟩
theorem d8_30 : Dx jdk_68_method_2_code 30 (.putfield 15) 3 33 := ⟨by decide +kernel, rfl⟩
theorem d8_33 : Dx jdk_68_method_2_code 33 (.aload_n 0) 1 34 := ⟨by decide +kernel, rfl⟩
theorem d8_34 : Dx jdk_68_method_2_code 34 (.iconst 1) 1 35 := ⟨by decide +kernel, rfl⟩
theorem d8_35 : Dx jdk_68_method_2_code 35 (.putfield 22) 3 38 := ⟨by decide +kernel, rfl⟩
theorem d8_38 : Dx jdk_68_method_2_code 38 (.return_) 1 39 := ⟨by decide +kernel, rfl⟩
set_option maxRecDepth 65536 in
set_option maxHeartbeats 40000000 in
theorem c_asbI {l : Launch} {Z : State} {a0 : Array Value} {EL : List (String × Nat)} {b : Bool} {n0 : Nat} (hw : ∀ d ∈ tables_1, d.before a0 Z = true) (a : Addr) (cpt : Int32) (hCS : Sta Z Z.heap "java/lang/String" "COMPACT_STRINGS" "Z" (.int cpt)) (hcpt : ¬ cpt = 0) :
    Met l Z a0 EL b n0 (⟨"java/lang/AbstractStringBuilder", "<init>", "(I)V"⟩ : MethodName) jdk_68_method_2_code 2 none [] (rm4 1 1 16 13) [.ref a, .int 16] [(a, .inl ("java/lang/StringBuilder", [("java/lang/AbstractStringBuilder", "value", "[B", .null), ("java/lang/AbstractStringBuilder", "coder", "B", .int 0), ("java/lang/AbstractStringBuilder", "count", "I", .int 0)]))] [] (fun v D' S' => ∃ t, v = none ∧ D' = [(a, .inl ("java/lang/StringBuilder", [("java/lang/AbstractStringBuilder", "value", "[B", .ref t), ("java/lang/AbstractStringBuilder", "coder", "B", .int 0), ("java/lang/AbstractStringBuilder", "count", "I", .int 0)])), (t, .inr (.byte, [.int 0, .int 0, .int 0, .int 0, .int 0, .int 0, .int 0, .int 0, .int 0, .int 0, .int 0, .int 0, .int 0, .int 0, .int 0, .int 0]))] ∧ S' = []) := by
  refine Met.of_go (own := "java/lang/AbstractStringBuilder") (nm := "<init>") (Ls := #[.val (.ref a), .val (.int 16)]) (plainFor_of_name png_3) (fun m => by first | (simp [entryFrame, mkF, argsToLocals, Value.category]; done) | rfl) ?_
  refine Go.aloadN d8_0 rfl (G := ?_)
  refine Go.objInit d8_1 (hw _ (List.mem_of_getElem? (i := 51) rfl)) (hw _ (List.mem_of_getElem? (i := 12) rfl)) (hw _ (List.mem_of_getElem? (i := 13) rfl)) rfl (Nat.le_of_ble_eq_true rfl) (Nat.le_of_ble_eq_true rfl) (G := ?_)
  refine Go.getstatic d8_4 (host := "") (Or.inl (hw _ (List.mem_of_getElem? (i := 52) rfl))) Via.refl hCS (G := ?_)
  refine Go.ifc d8_7 (pc2 := 25) (Gy := fun h => absurd h (show ¬ (cpt = 0) from hcpt)) (Gn := fun _ => ?_)
  refine Go.aloadN d8_10 rfl (G := ?_)
  refine Go.iloadN d8_11 rfl (G := ?_)
  refine Go.newarray d8_12 (hw _ (List.mem_of_getElem? (i := 19) rfl)) (k := 16) rfl (by decide) (by decide) (vs := [.int 0, .int 0, .int 0, .int 0, .int 0, .int 0, .int 0, .int 0, .int 0, .int 0, .int 0, .int 0, .int 0, .int 0, .int 0, .int 0]) rfl (G := fun o1 => ?_)
  refine Go.putfield d8_14 (hw _ (List.mem_of_getElem? (i := 53) rfl)) Via.refl 1 rfl 0 rfl (Or.inl (hw _ (List.mem_of_getElem? (i := 54) rfl))) (hw _ (List.mem_of_getElem? (i := 40) rfl)) (ty := .array .byte) (by decide +kernel) (v' := .ref o1) rfl rfl (D' := [(o1, .inr (.byte, [.int 0, .int 0, .int 0, .int 0, .int 0, .int 0, .int 0, .int 0, .int 0, .int 0, .int 0, .int 0, .int 0, .int 0, .int 0, .int 0])), (a, .inl ("java/lang/StringBuilder", [("java/lang/AbstractStringBuilder", "value", "[B", .ref o1), ("java/lang/AbstractStringBuilder", "coder", "B", .int 0), ("java/lang/AbstractStringBuilder", "count", "I", .int 0)]))]) rfl (G := ?_)
  refine Go.aloadN d8_17 rfl (G := ?_)
  refine Go.iconst d8_18 (v := 0) rfl (G := ?_)
  refine Go.putfield d8_19 (hw _ (List.mem_of_getElem? (i := 55) rfl)) Via.refl 1 rfl 1 rfl (Or.inl (hw _ (List.mem_of_getElem? (i := 56) rfl))) (hw _ (List.mem_of_getElem? (i := 40) rfl)) (ty := .byte) (by decide +kernel) (v' := .int 0) rfl rfl (D' := [(o1, .inr (.byte, [.int 0, .int 0, .int 0, .int 0, .int 0, .int 0, .int 0, .int 0, .int 0, .int 0, .int 0, .int 0, .int 0, .int 0, .int 0, .int 0])), (a, .inl ("java/lang/StringBuilder", [("java/lang/AbstractStringBuilder", "value", "[B", .ref o1), ("java/lang/AbstractStringBuilder", "coder", "B", .int 0), ("java/lang/AbstractStringBuilder", "count", "I", .int 0)]))]) rfl (G := ?_)
  refine Go.goto d8_22 (pc2 := 38) (G := ?_)
  refine Go.sub [1, 0] (by decide) rfl (D' := [(a, .inl ("java/lang/StringBuilder", [("java/lang/AbstractStringBuilder", "value", "[B", .ref o1), ("java/lang/AbstractStringBuilder", "coder", "B", .int 0), ("java/lang/AbstractStringBuilder", "count", "I", .int 0)])), (o1, .inr (.byte, [.int 0, .int 0, .int 0, .int 0, .int 0, .int 0, .int 0, .int 0, .int 0, .int 0, .int 0, .int 0, .int 0, .int 0, .int 0, .int 0]))]) rfl (S' := []) eN (G := ?_)
  exact Go.retV d8_38 ⟨o1, rfl, rfl, rfl⟩
theorem png_4 : plainName "java/lang/StringBuilder" = true := by first | (simp [plainName, overriddenIn]; done) | decide +kernel
theorem d9_0 : Dx jdk_67_method_1_code 0 (.aload_n 0) 1 1 := ⟨by decide +kernel, rfl⟩
theorem d9_1 : Dx jdk_67_method_1_code 1 (.bipush 16) 2 3 := ⟨by decide +kernel, rfl⟩
theorem d9_3 : Dx jdk_67_method_1_code 3 (.invokespecial 1) 3 6 := ⟨by decide +kernel, rfl⟩
theorem d9_6 : Dx jdk_67_method_1_code 6 (.return_) 1 7 := ⟨by decide +kernel, rfl⟩
theorem pdg_5 : parseMethodDescriptor "(I)V" = some ⟨[.int], none⟩ := by decide +kernel
set_option maxRecDepth 65536 in
set_option maxHeartbeats 40000000 in
theorem c_sbI {l : Launch} {Z : State} {a0 : Array Value} {EL : List (String × Nat)} {b : Bool} {n0 : Nat} (hw : ∀ d ∈ tables_1, d.before a0 Z = true) (a : Addr) (cpt : Int32) (hCS : Sta Z Z.heap "java/lang/String" "COMPACT_STRINGS" "Z" (.int cpt)) (hcpt : ¬ cpt = 0) :
    Met l Z a0 EL b n0 (⟨"java/lang/StringBuilder", "<init>", "()V"⟩ : MethodName) jdk_67_method_1_code 1 none [] (rm4 2 1 16 26) [.ref a] [(a, .inl ("java/lang/StringBuilder", [("java/lang/AbstractStringBuilder", "value", "[B", .null), ("java/lang/AbstractStringBuilder", "coder", "B", .int 0), ("java/lang/AbstractStringBuilder", "count", "I", .int 0)]))] [] (fun v D' S' => ∃ t, v = none ∧ D' = [(a, .inl ("java/lang/StringBuilder", [("java/lang/AbstractStringBuilder", "value", "[B", .ref t), ("java/lang/AbstractStringBuilder", "coder", "B", .int 0), ("java/lang/AbstractStringBuilder", "count", "I", .int 0)])), (t, .inr (.byte, [.int 0, .int 0, .int 0, .int 0, .int 0, .int 0, .int 0, .int 0, .int 0, .int 0, .int 0, .int 0, .int 0, .int 0, .int 0, .int 0]))] ∧ S' = []) := by
  refine Met.of_go (own := "java/lang/StringBuilder") (nm := "<init>") (Ls := #[.val (.ref a)]) (plainFor_of_name png_4) (fun m => by first | (simp [entryFrame, mkF, argsToLocals, Value.category]; done) | rfl) ?_
  refine Go.aloadN d9_0 rfl (G := ?_)
  refine Go.bipush d9_1 (v := 16) rfl (G := ?_)
  refine Go.invokeinit false d9_3 rfl (hw _ (List.mem_of_getElem? (i := 45) rfl)) (hw _ (List.mem_of_getElem? (i := 46) rfl)) (hw _ (List.mem_of_getElem? (i := 49) rfl)) (hw _ (List.mem_of_getElem? (i := 50) rfl)) (c_asbI hw a cpt hCS hcpt) pdg_5 rfl (argsL := [.int 16]) (rest := []) rfl rfl (Dr := []) rfl eN (G := ?_)
  rintro _ _ _ ⟨t, rfl, rfl, rfl⟩
  refine Go.norm (D2 := [(a, .inl ("java/lang/StringBuilder", [("java/lang/AbstractStringBuilder", "value", "[B", .ref t), ("java/lang/AbstractStringBuilder", "coder", "B", .int 0), ("java/lang/AbstractStringBuilder", "count", "I", .int 0)])), (t, .inr (.byte, [.int 0, .int 0, .int 0, .int 0, .int 0, .int 0, .int 0, .int 0, .int 0, .int 0, .int 0, .int 0, .int 0, .int 0, .int 0, .int 0]))]) (S2 := []) (c2 := 1) (s2 := 16) (st2 := []) ?_
  exact Go.retV d9_6 ⟨t, rfl, rfl, rfl⟩
theorem d10_0 : Dx jdk_42_method_152_code 0 (.getstatic 38) 3 3 := ⟨by decide +kernel, rfl⟩
theorem d10_3 : Dx jdk_42_method_152_code 3 (.ifCond .eq 10) 3 6 := ⟨by decide +kernel, rfl⟩
theorem d10_6 : Dx jdk_42_method_152_code 6 (.aload_n 0) 1 7 := ⟨by decide +kernel, rfl⟩
theorem d10_7 : Dx jdk_42_method_152_code 7 (.getfield 15) 3 10 := ⟨by decide +kernel, rfl⟩
theorem d10_10 : Dx jdk_42_method_152_code 10 (.goto 4) 3 13 := ⟨by decide +kernel, rfl⟩
theorem d10_13 : Dx jdk_42_method_152_code 13 (.iconst 1) 1 14 := ⟨by decide +kernel, rfl⟩
theorem d10_14 : Dx jdk_42_method_152_code 14 (.ireturn) 1 15 := ⟨by decide +kernel, rfl⟩
set_option maxRecDepth 65536 in
set_option maxHeartbeats 40000000 in
theorem c_cod {l : Launch} {Z : State} {a0 : Array Value} {EL : List (String × Nat)} {b : Bool} {n0 : Nat} (hw : ∀ d ∈ tables_1, d.before a0 Z = true) (s t : Addr) (cpt : Int32) (hCS : Sta Z Z.heap "java/lang/String" "COMPACT_STRINGS" "Z" (.int cpt)) (hcpt : ¬ cpt = 0) :
    Met l Z a0 EL b n0 (⟨"java/lang/String", "coder", "()B"⟩ : MethodName) jdk_42_method_152_code 1 (some .byte) [] (rm4 0 0 0 0) [.ref s] [] [(s, .inl ("java/lang/String", [("java/lang/String", "value", "[B", .ref t), ("java/lang/String", "coder", "B", .int 0)]))] (fun v D' S' => v = some (.int 0) ∧ D' = [] ∧ S' = []) := by
  refine Met.of_go (own := "java/lang/String") (nm := "coder") (Ls := #[.val (.ref s)]) (plainFor_of_name png_1) (fun m => by first | (simp [entryFrame, mkF, argsToLocals, Value.category]; done) | rfl) ?_
  refine Go.getstatic d10_0 (host := "") (Or.inl (hw _ (List.mem_of_getElem? (i := 14) rfl))) Via.refl hCS (G := ?_)
  refine Go.ifc d10_3 (pc2 := 13) (Gy := fun h => absurd h (show ¬ (cpt = 0) from hcpt)) (Gn := fun _ => ?_)
  refine Go.aloadN d10_6 rfl (G := ?_)
  refine Go.getfield d10_7 (host := "") (Or.inl (hw _ (List.mem_of_getElem? (i := 26) rfl))) Via.refl (inS (i := 0) rfl) 1 rfl (G := ?_)
  refine Go.goto d10_10 (pc2 := 14) (G := ?_)
  refine Go.sub [] (by decide) rfl (D' := []) rfl (S' := []) eN (G := ?_)
  exact Go.retB d10_14 (by simp) (z' := 0) rfl ⟨rfl, rfl, rfl⟩
theorem d11_0 : Dx jdk_42_method_54_code 0 (.aload_n 0) 1 1 := ⟨by decide +kernel, rfl⟩
theorem d11_1 : Dx jdk_42_method_54_code 1 (.getfield 9) 3 4 := ⟨by decide +kernel, rfl⟩
theorem d11_4 : Dx jdk_42_method_54_code 4 (.arraylength) 1 5 := ⟨by decide +kernel, rfl⟩
theorem d11_5 : Dx jdk_42_method_54_code 5 (.aload_n 0) 1 6 := ⟨by decide +kernel, rfl⟩
theorem d11_6 : Dx jdk_42_method_54_code 6 (.invokevirtual 335) 3 9 := ⟨by decide +kernel, rfl⟩
theorem d11_9 : Dx jdk_42_method_54_code 9 (.ishr) 1 10 := ⟨by decide +kernel, rfl⟩
theorem d11_10 : Dx jdk_42_method_54_code 10 (.ireturn) 1 11 := ⟨by decide +kernel, rfl⟩
theorem pdg_6 : parseMethodDescriptor "()B" = some ⟨[], some .byte⟩ := by decide +kernel
set_option maxRecDepth 65536 in
set_option maxHeartbeats 40000000 in
theorem c_len14 {l : Launch} {Z : State} {a0 : Array Value} {EL : List (String × Nat)} {b : Bool} {n0 : Nat} (hw : ∀ d ∈ tables_1, d.before a0 Z = true) (s t : Addr) (z0 z1 z2 z3 z4 z5 z6 z7 z8 z9 z10 z11 z12 z13 : Int32) (cpt : Int32) (hCS : Sta Z Z.heap "java/lang/String" "COMPACT_STRINGS" "Z" (.int cpt)) (hcpt : ¬ cpt = 0) :
    Met l Z a0 EL b n0 (⟨"java/lang/String", "length", "()I"⟩ : MethodName) jdk_42_method_54_code 1 (some .int) [] (rm4 1 0 0 13) [.ref s] [] [(s, .inl ("java/lang/String", [("java/lang/String", "value", "[B", .ref t), ("java/lang/String", "coder", "B", .int 0)])), (t, .inr (.byte, [.int z0, .int z1, .int z2, .int z3, .int z4, .int z5, .int z6, .int z7, .int z8, .int z9, .int z10, .int z11, .int z12, .int z13]))] (fun v D' S' => v = some (.int 14) ∧ D' = [] ∧ S' = []) := by
  refine Met.of_go (own := "java/lang/String") (nm := "length") (Ls := #[.val (.ref s)]) (plainFor_of_name png_1) (fun m => by first | (simp [entryFrame, mkF, argsToLocals, Value.category]; done) | rfl) ?_
  refine Go.aloadN d11_0 rfl (G := ?_)
  refine Go.getfield d11_1 (host := "") (Or.inl (hw _ (List.mem_of_getElem? (i := 28) rfl))) Via.refl (inS (i := 0) rfl) 0 rfl (G := ?_)
  refine Go.arraylength d11_4 (inS (i := 1) rfl) (n := 14) rfl (G := ?_)
  refine Go.aloadN d11_5 rfl (G := ?_)
  refine Go.invokevirtual false d11_6 (hw _ (List.mem_of_getElem? (i := 75) rfl)) (hw _ (List.mem_of_getElem? (i := 76) rfl)) (hw _ (List.mem_of_getElem? (i := 78) rfl)) (hw _ (List.mem_of_getElem? (i := 77) rfl)) (hw _ (List.mem_of_getElem? (i := 2) rfl)) (hw _ (List.mem_of_getElem? (i := 79) rfl)) (nfSel (hw _ (List.mem_of_getElem? (i := 78) rfl))) (inS (i := 0) rfl) (c_cod hw s t cpt hCS hcpt) pdg_6 rfl (argsL := []) (rest := [.int 14]) rfl rfl (Dr := []) rfl (eS (Or.inl (List.mem_of_getElem? (i := 0) rfl)) eN) (G := ?_)
  rintro _ _ _ ⟨rfl, rfl, rfl⟩
  refine Go.norm (D2 := []) (S2 := [(s, .inl ("java/lang/String", [("java/lang/String", "value", "[B", .ref t), ("java/lang/String", "coder", "B", .int 0)])), (t, .inr (.byte, [.int z0, .int z1, .int z2, .int z3, .int z4, .int z5, .int z6, .int z7, .int z8, .int z9, .int z10, .int z11, .int z12, .int z13]))]) (c2 := 0) (s2 := 0) (st2 := [.int 0, .int 14]) ?_
  refine Go.ishr d11_9 (z := 14) rfl (G := ?_)
  refine Go.sub [] (by decide) rfl (D' := []) rfl (S' := []) eN (G := ?_)
  exact Go.retI d11_10 ⟨rfl, rfl, rfl⟩
theorem d12_0 : Dx jdk_68_method_9_code 0 (.aload_n 0) 1 1 := ⟨by decide +kernel, rfl⟩
theorem d12_1 : Dx jdk_68_method_9_code 1 (.getfield 15) 3 4 := ⟨by decide +kernel, rfl⟩
theorem d12_4 : Dx jdk_68_method_9_code 4 (.arraylength) 1 5 := ⟨by decide +kernel, rfl⟩
theorem d12_5 : Dx jdk_68_method_9_code 5 (.aload_n 0) 1 6 := ⟨by decide +kernel, rfl⟩
theorem d12_6 : Dx jdk_68_method_9_code 6 (.getfield 22) 3 9 := ⟨by decide +kernel, rfl⟩
theorem d12_9 : Dx jdk_68_method_9_code 9 (.ishr) 1 10 := ⟨by decide +kernel, rfl⟩
theorem d12_10 : Dx jdk_68_method_9_code 10 (.istore_n 2) 1 11 := ⟨by decide +kernel, rfl⟩
theorem d12_11 : Dx jdk_68_method_9_code 11 (.iload_n 1) 1 12 := ⟨by decide +kernel, rfl⟩
theorem d12_12 : Dx jdk_68_method_9_code 12 (.iload_n 2) 1 13 := ⟨by decide +kernel, rfl⟩
theorem d12_13 : Dx jdk_68_method_9_code 13 (.isub) 1 14 := ⟨by decide +kernel, rfl⟩
theorem d12_14 : Dx jdk_68_method_9_code 14 (.ifCond .le 24) 3 17 := ⟨by decide +kernel, rfl⟩
theorem d12_17 : Dx jdk_68_method_9_code 17 (.aload_n 0) 1 18 := ⟨by decide +kernel, rfl⟩
theorem d12_18 : Dx jdk_68_method_9_code 18 (.aload_n 0) 1 19 := ⟨by decide +kernel, rfl⟩
theorem d12_19 : Dx jdk_68_method_9_code 19 (.getfield 15) 3 22 := ⟨by decide +kernel, rfl⟩
theorem d12_22 : Dx jdk_68_method_9_code 22 (.aload_n 0) 1 23 := ⟨by decide +kernel, rfl⟩
theorem d12_23 : Dx jdk_68_method_9_code 23 (.iload_n 1) 1 24 := ⟨by decide +kernel, rfl⟩
theorem d12_24 : Dx jdk_68_method_9_code 24 (.invokevirtual 104) 3 27 := ⟨by decide +kernel, rfl⟩
theorem d12_27 : Dx jdk_68_method_9_code 27 (.aload_n 0) 1 28 := ⟨by decide +kernel, rfl⟩
theorem d12_28 : Dx jdk_68_method_9_code 28 (.getfield 22) 3 31 := ⟨by decide +kernel, rfl⟩
theorem d12_31 : Dx jdk_68_method_9_code 31 (.ishl) 1 32 := ⟨by decide +kernel, rfl⟩
theorem d12_32 : Dx jdk_68_method_9_code 32 (.invokestatic 108) 3 35 := ⟨by decide +kernel, rfl⟩
theorem d12_35 : Dx jdk_68_method_9_code 35 (.putfield 15) 3 38 := ⟨by decide +kernel, rfl⟩
theorem d12_38 : Dx jdk_68_method_9_code 38 (.return_) 1 39 := ⟨by decide +kernel, rfl⟩
set_option maxRecDepth 65536 in
set_option maxHeartbeats 40000000 in
theorem c_ec16_0_14 {l : Launch} {Z : State} {a0 : Array Value} {EL : List (String × Nat)} {b : Bool} {n0 : Nat} (hw : ∀ d ∈ tables_1, d.before a0 Z = true) (a t : Addr) :
    Met l Z a0 EL b n0 (⟨"java/lang/AbstractStringBuilder", "ensureCapacityInternal", "(I)V"⟩ : MethodName) jdk_68_method_9_code 3 none [] (rm4 0 0 0 0) [.ref a, .int 14] [(a, .inl ("java/lang/StringBuilder", [("java/lang/AbstractStringBuilder", "value", "[B", .ref t), ("java/lang/AbstractStringBuilder", "coder", "B", .int 0), ("java/lang/AbstractStringBuilder", "count", "I", .int 0)])), (t, .inr (.byte, [.int 0, .int 0, .int 0, .int 0, .int 0, .int 0, .int 0, .int 0, .int 0, .int 0, .int 0, .int 0, .int 0, .int 0, .int 0, .int 0]))] [] (fun v D' S' => ∃ u, v = none ∧ D' = [(a, .inl ("java/lang/StringBuilder", [("java/lang/AbstractStringBuilder", "value", "[B", .ref u), ("java/lang/AbstractStringBuilder", "coder", "B", .int 0), ("java/lang/AbstractStringBuilder", "count", "I", .int 0)])), (u, .inr (.byte, [.int 0, .int 0, .int 0, .int 0, .int 0, .int 0, .int 0, .int 0, .int 0, .int 0, .int 0, .int 0, .int 0, .int 0, .int 0, .int 0]))] ∧ S' = []) := by
  refine Met.of_go (own := "java/lang/AbstractStringBuilder") (nm := "ensureCapacityInternal") (Ls := #[.val (.ref a), .val (.int 14), .unset]) (plainFor_of_name png_3) (fun m => by first | (simp [entryFrame, mkF, argsToLocals, Value.category]; done) | rfl) ?_
  refine Go.aloadN d12_0 rfl (G := ?_)
  refine Go.getfield d12_1 (host := "") (Or.inl (hw _ (List.mem_of_getElem? (i := 53) rfl))) Via.refl (inD (i := 0) rfl) 0 rfl (G := ?_)
  refine Go.arraylength d12_4 (inD (i := 1) rfl) (n := 16) rfl (G := ?_)
  refine Go.aloadN d12_5 rfl (G := ?_)
  refine Go.getfield d12_6 (host := "") (Or.inl (hw _ (List.mem_of_getElem? (i := 55) rfl))) Via.refl (inD (i := 0) rfl) 1 rfl (G := ?_)
  refine Go.ishr d12_9 (z := 16) rfl (G := ?_)
  refine Go.istoreN d12_10 (Ls' := #[.val (.ref a), .val (.int 14), .val (.int 16)]) rfl (G := ?_)
  refine Go.iloadN d12_11 rfl (G := ?_)
  refine Go.iloadN d12_12 rfl (G := ?_)
  refine Go.isub d12_13 (z := (-2)) rfl (G := ?_)
  refine Go.ifc d12_14 (pc2 := 38) (Gy := fun _ => ?_) (Gn := fun h => absurd (show ¬ (0 : Int32) < (-2) by decide) h)
  exact Go.retV d12_38 ⟨t, rfl, rfl, rfl⟩
theorem d13_0 : Dx jdk_42_method_147_code 0 (.aload_n 0) 1 1 := ⟨by decide +kernel, rfl⟩
theorem d13_1 : Dx jdk_42_method_147_code 1 (.invokevirtual 335) 3 4 := ⟨by decide +kernel, rfl⟩
theorem d13_4 : Dx jdk_42_method_147_code 4 (.iload_n 3) 1 5 := ⟨by decide +kernel, rfl⟩
theorem d13_5 : Dx jdk_42_method_147_code 5 (.if_icmp .ne 23) 3 8 := ⟨by decide +kernel, rfl⟩
theorem d13_8 : Dx jdk_42_method_147_code 8 (.aload_n 0) 1 9 := ⟨by decide +kernel, rfl⟩
theorem d13_9 : Dx jdk_42_method_147_code 9 (.getfield 9) 3 12 := ⟨by decide +kernel, rfl⟩
theorem d13_12 : Dx jdk_42_method_147_code 12 (.iconst 0) 1 13 := ⟨by decide +kernel, rfl⟩
theorem d13_13 : Dx jdk_42_method_147_code 13 (.aload_n 1) 1 14 := ⟨by decide +kernel, rfl⟩
theorem d13_14 : Dx jdk_42_method_147_code 14 (.iload_n 2) 1 15 := ⟨by decide +kernel, rfl⟩
theorem d13_15 : Dx jdk_42_method_147_code 15 (.iload_n 3) 1 16 := ⟨by decide +kernel, rfl⟩
theorem d13_16 : Dx jdk_42_method_147_code 16 (.ishl) 1 17 := ⟨by decide +kernel, rfl⟩
theorem d13_17 : Dx jdk_42_method_147_code 17 (.aload_n 0) 1 18 := ⟨by decide +kernel, rfl⟩
theorem d13_18 : Dx jdk_42_method_147_code 18 (.getfield 9) 3 21 := ⟨by decide +kernel, rfl⟩
theorem d13_21 : Dx jdk_42_method_147_code 21 (.arraylength) 1 22 := ⟨by decide +kernel, rfl⟩
theorem d13_22 : Dx jdk_42_method_147_code 22 (.invokestatic 212) 3 25 := ⟨by decide +kernel, rfl⟩
theorem d13_25 : Dx jdk_42_method_147_code 25 (.goto 18) 3 28 := ⟨by decide +kernel, rfl⟩
theorem d13_28 : Dx jdk_42_method_147_code 28 (.aload_n 0) 1 29 := ⟨by decide +kernel, rfl⟩
theorem d13_29 : Dx jdk_42_method_147_code 29 (.getfield 9) 3 32 := ⟨by decide +kernel, rfl⟩
theorem d13_32 : Dx jdk_42_method_147_code 32 (.iconst 0) 1 33 := ⟨by decide +kernel, rfl⟩
theorem d13_33 : Dx jdk_42_method_147_code 33 (.aload_n 1) 1 34 := ⟨by decide +kernel, rfl⟩
theorem d13_34 : Dx jdk_42_method_147_code 34 (.iload_n 2) 1 35 := ⟨by decide +kernel, rfl⟩
theorem d13_35 : Dx jdk_42_method_147_code 35 (.aload_n 0) 1 36 := ⟨by decide +kernel, rfl⟩
theorem d13_36 : Dx jdk_42_method_147_code 36 (.getfield 9) 3 39 := ⟨by decide +kernel, rfl⟩
theorem d13_39 : Dx jdk_42_method_147_code 39 (.arraylength) 1 40 := ⟨by decide +kernel, rfl⟩
theorem d13_40 : Dx jdk_42_method_147_code 40 (.invokestatic 106) 3 43 := ⟨by decide +kernel, rfl⟩
theorem d13_43 : Dx jdk_42_method_147_code 43 (.return_) 1 44 := ⟨by decide +kernel, rfl⟩
set_option maxRecDepth 65536 in
set_option maxHeartbeats 40000000 in
theorem c_gb16_0_14 {l : Launch} {Z : State} {a0 : Array Value} {EL : List (String × Nat)} {b : Bool} {n0 : Nat} (hw : ∀ d ∈ tables_1, d.before a0 Z = true) (s r t : Addr) (z0 z1 z2 z3 z4 z5 z6 z7 z8 z9 z10 z11 z12 z13 : Int32) (cpt : Int32) (hCS : Sta Z Z.heap "java/lang/String" "COMPACT_STRINGS" "Z" (.int cpt)) (hcpt : ¬ cpt = 0) :
    Met l Z a0 EL b n0 (⟨"java/lang/String", "getBytes", "([BIB)V"⟩ : MethodName) jdk_42_method_147_code 4 none [] (rm4 1 0 0 18) [.ref s, .ref t, .int 0, .int 0] [(t, .inr (.byte, [.int 0, .int 0, .int 0, .int 0, .int 0, .int 0, .int 0, .int 0, .int 0, .int 0, .int 0, .int 0, .int 0, .int 0, .int 0, .int 0]))] [(s, .inl ("java/lang/String", [("java/lang/String", "value", "[B", .ref r), ("java/lang/String", "coder", "B", .int 0)])), (r, .inr (.byte, [.int z0, .int z1, .int z2, .int z3, .int z4, .int z5, .int z6, .int z7, .int z8, .int z9, .int z10, .int z11, .int z12, .int z13]))] (fun v D' S' => v = none ∧ D' = [(t, .inr (.byte, [.int z0, .int z1, .int z2, .int z3, .int z4, .int z5, .int z6, .int z7, .int z8, .int z9, .int z10, .int z11, .int z12, .int z13, .int 0, .int 0]))] ∧ S' = []) := by
  refine Met.of_go (own := "java/lang/String") (nm := "getBytes") (Ls := #[.val (.ref s), .val (.ref t), .val (.int 0), .val (.int 0)]) (plainFor_of_name png_1) (fun m => by first | (simp [entryFrame, mkF, argsToLocals, Value.category]; done) | rfl) ?_
  refine Go.aloadN d13_0 rfl (G := ?_)
  refine Go.invokevirtual false d13_1 (hw _ (List.mem_of_getElem? (i := 75) rfl)) (hw _ (List.mem_of_getElem? (i := 76) rfl)) (hw _ (List.mem_of_getElem? (i := 78) rfl)) (hw _ (List.mem_of_getElem? (i := 77) rfl)) (hw _ (List.mem_of_getElem? (i := 2) rfl)) (hw _ (List.mem_of_getElem? (i := 79) rfl)) (nfSel (hw _ (List.mem_of_getElem? (i := 78) rfl))) (inS (i := 0) rfl) (c_cod hw s r cpt hCS hcpt) pdg_6 rfl (argsL := []) (rest := []) rfl rfl (Dr := [(t, .inr (.byte, [.int 0, .int 0, .int 0, .int 0, .int 0, .int 0, .int 0, .int 0, .int 0, .int 0, .int 0, .int 0, .int 0, .int 0, .int 0, .int 0]))]) rfl (eS (Or.inl (List.mem_of_getElem? (i := 0) rfl)) eN) (G := ?_)
  rintro _ _ _ ⟨rfl, rfl, rfl⟩
  refine Go.norm (D2 := [(t, .inr (.byte, [.int 0, .int 0, .int 0, .int 0, .int 0, .int 0, .int 0, .int 0, .int 0, .int 0, .int 0, .int 0, .int 0, .int 0, .int 0, .int 0]))]) (S2 := [(s, .inl ("java/lang/String", [("java/lang/String", "value", "[B", .ref r), ("java/lang/String", "coder", "B", .int 0)])), (r, .inr (.byte, [.int z0, .int z1, .int z2, .int z3, .int z4, .int z5, .int z6, .int z7, .int z8, .int z9, .int z10, .int z11, .int z12, .int z13]))]) (c2 := 0) (s2 := 0) (st2 := [.int 0]) ?_
  refine Go.iloadN d13_4 rfl (G := ?_)
  refine Go.icmp d13_5 (pc2 := 28) (Gy := fun h => absurd h (show ¬ (¬ (0 : Int32) = 0) by decide)) (Gn := fun _ => ?_)
  refine Go.aloadN d13_8 rfl (G := ?_)
  refine Go.getfield d13_9 (host := "") (Or.inl (hw _ (List.mem_of_getElem? (i := 28) rfl))) Via.refl (inS (i := 0) rfl) 0 rfl (G := ?_)
  refine Go.iconst d13_12 (v := 0) rfl (G := ?_)
  refine Go.aloadN d13_13 rfl (G := ?_)
  refine Go.iloadN d13_14 rfl (G := ?_)
  refine Go.iloadN d13_15 rfl (G := ?_)
  refine Go.ishl d13_16 (z := 0) rfl (G := ?_)
  refine Go.aloadN d13_17 rfl (G := ?_)
  refine Go.getfield d13_18 (host := "") (Or.inl (hw _ (List.mem_of_getElem? (i := 28) rfl))) Via.refl (inS (i := 0) rfl) 0 rfl (G := ?_)
  refine Go.arraylength d13_21 (inS (i := 1) rfl) (n := 14) rfl (G := ?_)
  refine Go.arraycopy d13_22 (hw _ (List.mem_of_getElem? (i := 103) rfl)) (hw _ (List.mem_of_getElem? (i := 106) rfl)) (hw _ (List.mem_of_getElem? (i := 104) rfl)) (hw _ (List.mem_of_getElem? (i := 105) rfl)) (inS (i := 1) rfl) 0 rfl rfl (by decide) (by decide) (by decide) (Nat.le_of_ble_eq_true rfl) (Nat.le_of_ble_eq_true rfl) (D' := [(t, .inr (.byte, [.int z0, .int z1, .int z2, .int z3, .int z4, .int z5, .int z6, .int z7, .int z8, .int z9, .int z10, .int z11, .int z12, .int z13, .int 0, .int 0]))]) rfl (G := ?_)
  refine Go.goto d13_25 (pc2 := 43) (G := ?_)
  refine Go.sub [0] (by decide) rfl (D' := [(t, .inr (.byte, [.int z0, .int z1, .int z2, .int z3, .int z4, .int z5, .int z6, .int z7, .int z8, .int z9, .int z10, .int z11, .int z12, .int z13, .int 0, .int 0]))]) rfl (S' := []) eN (G := ?_)
  exact Go.retV d13_43 ⟨rfl, rfl, rfl⟩
theorem d14_0 : Dx jdk_68_method_71_code 0 (.getstatic 18) 3 3 := ⟨by decide +kernel, rfl⟩
theorem d14_3 : Dx jdk_68_method_71_code 3 (.ifCond .eq 18) 3 6 := ⟨by decide +kernel, rfl⟩
theorem d14_6 : Dx jdk_68_method_71_code 6 (.aload_n 0) 1 7 := ⟨by decide +kernel, rfl⟩
theorem d14_7 : Dx jdk_68_method_71_code 7 (.getfield 22) 3 10 := ⟨by decide +kernel, rfl⟩
theorem d14_10 : Dx jdk_68_method_71_code 10 (.aload_n 1) 1 11 := ⟨by decide +kernel, rfl⟩
theorem d14_11 : Dx jdk_68_method_71_code 11 (.invokevirtual 40) 3 14 := ⟨by decide +kernel, rfl⟩
theorem d14_14 : Dx jdk_68_method_71_code 14 (.if_icmp .eq 7) 3 17 := ⟨by decide +kernel, rfl⟩
theorem d14_17 : Dx jdk_68_method_71_code 17 (.aload_n 0) 1 18 := ⟨by decide +kernel, rfl⟩
theorem d14_18 : Dx jdk_68_method_71_code 18 (.invokevirtual 195) 3 21 := ⟨by decide +kernel, rfl⟩
theorem d14_21 : Dx jdk_68_method_71_code 21 (.return_) 1 22 := ⟨by decide +kernel, rfl⟩
set_option maxRecDepth 65536 in
set_option maxHeartbeats 40000000 in
theorem c_inf {l : Launch} {Z : State} {a0 : Array Value} {EL : List (String × Nat)} {b : Bool} {n0 : Nat} (hw : ∀ d ∈ tables_1, d.before a0 Z = true) (a t s r : Addr) (n : Int32) (cpt : Int32) (hCS : Sta Z Z.heap "java/lang/String" "COMPACT_STRINGS" "Z" (.int cpt)) (hcpt : ¬ cpt = 0) :
    Met l Z a0 EL b n0 (⟨"java/lang/AbstractStringBuilder", "inflateIfNeededFor", "(Ljava/lang/String;)V"⟩ : MethodName) jdk_68_method_71_code 2 none [] (rm4 1 0 0 13) [.ref a, .ref s] [] [(a, .inl ("java/lang/StringBuilder", [("java/lang/AbstractStringBuilder", "value", "[B", .ref t), ("java/lang/AbstractStringBuilder", "coder", "B", .int 0), ("java/lang/AbstractStringBuilder", "count", "I", .int n)])), (s, .inl ("java/lang/String", [("java/lang/String", "value", "[B", .ref r), ("java/lang/String", "coder", "B", .int 0)]))] (fun v D' S' => v = none ∧ D' = [] ∧ S' = []) := by
  refine Met.of_go (own := "java/lang/AbstractStringBuilder") (nm := "inflateIfNeededFor") (Ls := #[.val (.ref a), .val (.ref s)]) (plainFor_of_name png_3) (fun m => by first | (simp [entryFrame, mkF, argsToLocals, Value.category]; done) | rfl) ?_
  refine Go.getstatic d14_0 (host := "") (Or.inl (hw _ (List.mem_of_getElem? (i := 52) rfl))) Via.refl hCS (G := ?_)
  refine Go.ifc d14_3 (pc2 := 21) (Gy := fun h => absurd h (show ¬ (cpt = 0) from hcpt)) (Gn := fun _ => ?_)
  refine Go.aloadN d14_6 rfl (G := ?_)
  refine Go.getfield d14_7 (host := "") (Or.inl (hw _ (List.mem_of_getElem? (i := 55) rfl))) Via.refl (inS (i := 0) rfl) 1 rfl (G := ?_)
  refine Go.aloadN d14_10 rfl (G := ?_)
  refine Go.invokevirtual false d14_11 (hw _ (List.mem_of_getElem? (i := 97) rfl)) (hw _ (List.mem_of_getElem? (i := 76) rfl)) (hw _ (List.mem_of_getElem? (i := 78) rfl)) (hw _ (List.mem_of_getElem? (i := 77) rfl)) (hw _ (List.mem_of_getElem? (i := 2) rfl)) (hw _ (List.mem_of_getElem? (i := 79) rfl)) (nfSel (hw _ (List.mem_of_getElem? (i := 78) rfl))) (inS (i := 1) rfl) (c_cod hw s r cpt hCS hcpt) pdg_6 rfl (argsL := []) (rest := [.int 0]) rfl rfl (Dr := []) rfl (eS (Or.inl (List.mem_of_getElem? (i := 1) rfl)) eN) (G := ?_)
  rintro _ _ _ ⟨rfl, rfl, rfl⟩
  refine Go.norm (D2 := []) (S2 := [(a, .inl ("java/lang/StringBuilder", [("java/lang/AbstractStringBuilder", "value", "[B", .ref t), ("java/lang/AbstractStringBuilder", "coder", "B", .int 0), ("java/lang/AbstractStringBuilder", "count", "I", .int n)])), (s, .inl ("java/lang/String", [("java/lang/String", "value", "[B", .ref r), ("java/lang/String", "coder", "B", .int 0)]))]) (c2 := 0) (s2 := 0) (st2 := [.int 0, .int 0]) ?_
  refine Go.icmp d14_14 (pc2 := 21) (Gy := fun _ => ?_) (Gn := fun h => absurd (show (0 : Int32) = 0 by decide) h)
  refine Go.sub [] (by decide) rfl (D' := []) rfl (S' := []) eN (G := ?_)
  exact Go.retV d14_21 ⟨rfl, rfl, rfl⟩
theorem d15_0 : Dx jdk_68_method_73_code 0 (.aload_n 0) 1 1 := ⟨by decide +kernel, rfl⟩
theorem d15_1 : Dx jdk_68_method_73_code 1 (.aload_n 2) 1 2 := ⟨by decide +kernel, rfl⟩
theorem d15_2 : Dx jdk_68_method_73_code 2 (.invokevirtual 397) 3 5 := ⟨by decide +kernel, rfl⟩
theorem d15_5 : Dx jdk_68_method_73_code 5 (.aload_n 2) 1 6 := ⟨by decide +kernel, rfl⟩
theorem d15_6 : Dx jdk_68_method_73_code 6 (.aload_n 0) 1 7 := ⟨by decide +kernel, rfl⟩
theorem d15_7 : Dx jdk_68_method_73_code 7 (.getfield 15) 3 10 := ⟨by decide +kernel, rfl⟩
theorem d15_10 : Dx jdk_68_method_73_code 10 (.iload_n 1) 1 11 := ⟨by decide +kernel, rfl⟩
theorem d15_11 : Dx jdk_68_method_73_code 11 (.aload_n 0) 1 12 := ⟨by decide +kernel, rfl⟩
theorem d15_12 : Dx jdk_68_method_73_code 12 (.getfield 22) 3 15 := ⟨by decide +kernel, rfl⟩
theorem d15_15 : Dx jdk_68_method_73_code 15 (.invokevirtual 399) 3 18 := ⟨by decide +kernel, rfl⟩
theorem d15_18 : Dx jdk_68_method_73_code 18 (.return_) 1 19 := ⟨by decide +kernel, rfl⟩
theorem pdg_7 : parseMethodDescriptor "(Ljava/lang/String;)V" = some ⟨[.object "java/lang/String"], none⟩ := by decide +kernel
theorem pdg_8 : parseMethodDescriptor "([BIB)V" = some ⟨[.array .byte, .int, .byte], none⟩ := by decide +kernel
set_option maxRecDepth 65536 in
set_option maxHeartbeats 40000000 in
theorem c_ps16_0_14 {l : Launch} {Z : State} {a0 : Array Value} {EL : List (String × Nat)} {b : Bool} {n0 : Nat} (hw : ∀ d ∈ tables_1, d.before a0 Z = true) (a t s r : Addr) (z0 z1 z2 z3 z4 z5 z6 z7 z8 z9 z10 z11 z12 z13 : Int32) (cpt : Int32) (hCS : Sta Z Z.heap "java/lang/String" "COMPACT_STRINGS" "Z" (.int cpt)) (hcpt : ¬ cpt = 0) :
    Met l Z a0 EL b n0 (⟨"java/lang/AbstractStringBuilder", "putStringAt", "(ILjava/lang/String;)V"⟩ : MethodName) jdk_68_method_73_code 3 none [] (rm4 2 0 0 33) [.ref a, .int 0, .ref s] [(a, .inl ("java/lang/StringBuilder", [("java/lang/AbstractStringBuilder", "value", "[B", .ref t), ("java/lang/AbstractStringBuilder", "coder", "B", .int 0), ("java/lang/AbstractStringBuilder", "count", "I", .int 0)])), (t, .inr (.byte, [.int 0, .int 0, .int 0, .int 0, .int 0, .int 0, .int 0, .int 0, .int 0, .int 0, .int 0, .int 0, .int 0, .int 0, .int 0, .int 0]))] [(s, .inl ("java/lang/String", [("java/lang/String", "value", "[B", .ref r), ("java/lang/String", "coder", "B", .int 0)])), (r, .inr (.byte, [.int z0, .int z1, .int z2, .int z3, .int z4, .int z5, .int z6, .int z7, .int z8, .int z9, .int z10, .int z11, .int z12, .int z13]))] (fun v D' S' => v = none ∧ D' = [(a, .inl ("java/lang/StringBuilder", [("java/lang/AbstractStringBuilder", "value", "[B", .ref t), ("java/lang/AbstractStringBuilder", "coder", "B", .int 0), ("java/lang/AbstractStringBuilder", "count", "I", .int 0)])), (t, .inr (.byte, [.int z0, .int z1, .int z2, .int z3, .int z4, .int z5, .int z6, .int z7, .int z8, .int z9, .int z10, .int z11, .int z12, .int z13, .int 0, .int 0]))] ∧ S' = []) := by
  refine Met.of_go (own := "java/lang/AbstractStringBuilder") (nm := "putStringAt") (Ls := #[.val (.ref a), .val (.int 0), .val (.ref s)]) (plainFor_of_name png_3) (fun m => by first | (simp [entryFrame, mkF, argsToLocals, Value.category]; done) | rfl) ?_
  refine Go.aloadN d15_0 rfl (G := ?_)
  refine Go.aloadN d15_1 rfl (G := ?_)
  refine Go.invokeprivateG true d15_2 (hw _ (List.mem_of_getElem? (i := 92) rfl)) (hw _ (List.mem_of_getElem? (i := 93) rfl)) (hw _ (List.mem_of_getElem? (i := 95) rfl)) (hw _ (List.mem_of_getElem? (i := 94) rfl)) (hw _ (List.mem_of_getElem? (i := 49) rfl)) (hw _ (List.mem_of_getElem? (i := 96) rfl)) (inD (i := 0) rfl) (c_inf hw a t s r 0 cpt hCS hcpt) pdg_7 rfl (argsL := [.ref s]) (rest := []) rfl rfl (Dr := [(a, .inl ("java/lang/StringBuilder", [("java/lang/AbstractStringBuilder", "value", "[B", .ref t), ("java/lang/AbstractStringBuilder", "coder", "B", .int 0), ("java/lang/AbstractStringBuilder", "count", "I", .int 0)])), (t, .inr (.byte, [.int 0, .int 0, .int 0, .int 0, .int 0, .int 0, .int 0, .int 0, .int 0, .int 0, .int 0, .int 0, .int 0, .int 0, .int 0, .int 0]))]) rfl (eS (Or.inr ⟨rfl, List.mem_of_getElem? (i := 0) rfl⟩) (eS (Or.inl (List.mem_of_getElem? (i := 0) rfl)) eN)) (G := ?_)
  rintro _ _ _ ⟨rfl, rfl, rfl⟩
  refine Go.norm (D2 := [(a, .inl ("java/lang/StringBuilder", [("java/lang/AbstractStringBuilder", "value", "[B", .ref t), ("java/lang/AbstractStringBuilder", "coder", "B", .int 0), ("java/lang/AbstractStringBuilder", "count", "I", .int 0)])), (t, .inr (.byte, [.int 0, .int 0, .int 0, .int 0, .int 0, .int 0, .int 0, .int 0, .int 0, .int 0, .int 0, .int 0, .int 0, .int 0, .int 0, .int 0]))]) (S2 := [(s, .inl ("java/lang/String", [("java/lang/String", "value", "[B", .ref r), ("java/lang/String", "coder", "B", .int 0)])), (r, .inr (.byte, [.int z0, .int z1, .int z2, .int z3, .int z4, .int z5, .int z6, .int z7, .int z8, .int z9, .int z10, .int z11, .int z12, .int z13]))]) (c2 := 0) (s2 := 0) (st2 := []) ?_
  refine Go.aloadN d15_5 rfl (G := ?_)
  refine Go.aloadN d15_6 rfl (G := ?_)
  refine Go.getfield d15_7 (host := "") (Or.inl (hw _ (List.mem_of_getElem? (i := 53) rfl))) Via.refl (inD (i := 0) rfl) 0 rfl (G := ?_)
  refine Go.iloadN d15_10 rfl (G := ?_)
  refine Go.aloadN d15_11 rfl (G := ?_)
  refine Go.getfield d15_12 (host := "") (Or.inl (hw _ (List.mem_of_getElem? (i := 55) rfl))) Via.refl (inD (i := 0) rfl) 1 rfl (G := ?_)
  refine Go.perm [1, 0] (by decide) rfl (D' := [(t, .inr (.byte, [.int 0, .int 0, .int 0, .int 0, .int 0, .int 0, .int 0, .int 0, .int 0, .int 0, .int 0, .int 0, .int 0, .int 0, .int 0, .int 0])), (a, .inl ("java/lang/StringBuilder", [("java/lang/AbstractStringBuilder", "value", "[B", .ref t), ("java/lang/AbstractStringBuilder", "coder", "B", .int 0), ("java/lang/AbstractStringBuilder", "count", "I", .int 0)]))]) rfl (G := ?_)
  refine Go.invokevirtual false d15_15 (hw _ (List.mem_of_getElem? (i := 98) rfl)) (hw _ (List.mem_of_getElem? (i := 99) rfl)) (hw _ (List.mem_of_getElem? (i := 101) rfl)) (hw _ (List.mem_of_getElem? (i := 100) rfl)) (hw _ (List.mem_of_getElem? (i := 2) rfl)) (hw _ (List.mem_of_getElem? (i := 102) rfl)) (nfSel (hw _ (List.mem_of_getElem? (i := 101) rfl))) (inS (i := 0) rfl) (c_gb16_0_14 hw s r t z0 z1 z2 z3 z4 z5 z6 z7 z8 z9 z10 z11 z12 z13 cpt hCS hcpt) pdg_8 rfl (argsL := [.ref t, .int 0, .int 0]) (rest := []) rfl rfl (Dr := [(a, .inl ("java/lang/StringBuilder", [("java/lang/AbstractStringBuilder", "value", "[B", .ref t), ("java/lang/AbstractStringBuilder", "coder", "B", .int 0), ("java/lang/AbstractStringBuilder", "count", "I", .int 0)]))]) rfl (eS (Or.inl (List.mem_of_getElem? (i := 0) rfl)) (eS (Or.inl (List.mem_of_getElem? (i := 1) rfl)) eN)) (G := ?_)
  rintro _ _ _ ⟨rfl, rfl, rfl⟩
  refine Go.norm (D2 := [(t, .inr (.byte, [.int z0, .int z1, .int z2, .int z3, .int z4, .int z5, .int z6, .int z7, .int z8, .int z9, .int z10, .int z11, .int z12, .int z13, .int 0, .int 0])), (a, .inl ("java/lang/StringBuilder", [("java/lang/AbstractStringBuilder", "value", "[B", .ref t), ("java/lang/AbstractStringBuilder", "coder", "B", .int 0), ("java/lang/AbstractStringBuilder", "count", "I", .int 0)]))]) (S2 := [(s, .inl ("java/lang/String", [("java/lang/String", "value", "[B", .ref r), ("java/lang/String", "coder", "B", .int 0)])), (r, .inr (.byte, [.int z0, .int z1, .int z2, .int z3, .int z4, .int z5, .int z6, .int z7, .int z8, .int z9, .int z10, .int z11, .int z12, .int z13]))]) (c2 := 0) (s2 := 0) (st2 := []) ?_
  refine Go.sub [1, 0] (by decide) rfl (D' := [(a, .inl ("java/lang/StringBuilder", [("java/lang/AbstractStringBuilder", "value", "[B", .ref t), ("java/lang/AbstractStringBuilder", "coder", "B", .int 0), ("java/lang/AbstractStringBuilder", "count", "I", .int 0)])), (t, .inr (.byte, [.int z0, .int z1, .int z2, .int z3, .int z4, .int z5, .int z6, .int z7, .int z8, .int z9, .int z10, .int z11, .int z12, .int z13, .int 0, .int 0]))]) rfl (S' := []) eN (G := ?_)
  exact Go.retV d15_18 ⟨rfl, rfl, rfl⟩
theorem d16_0 : Dx jdk_68_method_22_code 0 (.aload_n 1) 1 1 := ⟨by decide +kernel, rfl⟩
theorem d16_1 : Dx jdk_68_method_22_code 1 (.ifnonnull 8) 3 4 := ⟨by decide +kernel, rfl⟩
theorem d16_4 : Dx jdk_68_method_22_code 4 (.aload_n 0) 1 5 := ⟨by decide +kernel, rfl⟩
theorem d16_5 : Dx jdk_68_method_22_code 5 (.invokevirtual 204) 3 8 := ⟨by decide +kernel, rfl⟩
theorem d16_8 : Dx jdk_68_method_22_code 8 (.areturn) 1 9 := ⟨by decide +kernel, rfl⟩
theorem d16_9 : Dx jdk_68_method_22_code 9 (.aload_n 1) 1 10 := ⟨by decide +kernel, rfl⟩
theorem d16_10 : Dx jdk_68_method_22_code 10 (.invokevirtual 32) 3 13 := ⟨by decide +kernel, rfl⟩
theorem d16_13 : Dx jdk_68_method_22_code 13 (.istore_n 2) 1 14 := ⟨by decide +kernel, rfl⟩
theorem d16_14 : Dx jdk_68_method_22_code 14 (.aload_n 0) 1 15 := ⟨by decide +kernel, rfl⟩
theorem d16_15 : Dx jdk_68_method_22_code 15 (.aload_n 0) 1 16 := ⟨by decide +kernel, rfl⟩
theorem d16_16 : Dx jdk_68_method_22_code 16 (.getfield 79) 3 19 := ⟨by decide +kernel, rfl⟩
theorem d16_19 : Dx jdk_68_method_22_code 19 (.iload_n 2) 1 20 := ⟨by decide +kernel, rfl⟩
theorem d16_20 : Dx jdk_68_method_22_code 20 (.iadd) 1 21 := ⟨by decide +kernel, rfl⟩
theorem d16_21 : Dx jdk_68_method_22_code 21 (.invokevirtual 100) 3 24 := ⟨by decide +kernel, rfl⟩
theorem d16_24 : Dx jdk_68_method_22_code 24 (.aload_n 0) 1 25 := ⟨by decide +kernel, rfl⟩
theorem d16_25 : Dx jdk_68_method_22_code 25 (.aload_n 0) 1 26 := ⟨by decide +kernel, rfl⟩
theorem d16_26 : Dx jdk_68_method_22_code 26 (.getfield 79) 3 29 := ⟨by decide +kernel, rfl⟩
theorem d16_29 : Dx jdk_68_method_22_code 29 (.aload_n 1) 1 30 := ⟨by decide +kernel, rfl⟩
theorem d16_30 : Dx jdk_68_method_22_code 30 (.invokevirtual 208) 3 33 := ⟨by decide +kernel, rfl⟩
theorem d16_33 : Dx jdk_68_method_22_code 33 (.aload_n 0) 1 34 := ⟨by decide +kernel, rfl⟩
theorem d16_34 : Dx jdk_68_method_22_code 34 (.dup) 1 35 := ⟨by decide +kernel, rfl⟩
theorem d16_35 : Dx jdk_68_method_22_code 35 (.getfield 79) 3 38 := ⟨by decide +kernel, rfl⟩
theorem d16_38 : Dx jdk_68_method_22_code 38 (.iload_n 2) 1 39 := ⟨by decide +kernel, rfl⟩
theorem d16_39 : Dx jdk_68_method_22_code 39 (.iadd) 1 40 := ⟨by decide +kernel, rfl⟩
theorem d16_40 : Dx jdk_68_method_22_code 40 (.putfield 79) 3 43 := ⟨by decide +kernel, rfl⟩
theorem d16_43 : Dx jdk_68_method_22_code 43 (.aload_n 0) 1 44 := ⟨by decide +kernel, rfl⟩
theorem d16_44 : Dx jdk_68_method_22_code 44 (.areturn) 1 45 := ⟨by decide +kernel, rfl⟩
theorem pdg_9 : parseMethodDescriptor "()I" = some ⟨[], some .int⟩ := by decide +kernel
theorem pdg_10 : parseMethodDescriptor "(ILjava/lang/String;)V" = some ⟨[.int, .object "java/lang/String"], none⟩ := by decide +kernel
set_option maxRecDepth 65536 in
set_option maxHeartbeats 40000000 in
theorem c_aa16_0_14 {l : Launch} {Z : State} {a0 : Array Value} {EL : List (String × Nat)} {b : Bool} {n0 : Nat} (hw : ∀ d ∈ tables_1, d.before a0 Z = true) (a t s r : Addr) (z0 z1 z2 z3 z4 z5 z6 z7 z8 z9 z10 z11 z12 z13 : Int32) (cpt : Int32) (hCS : Sta Z Z.heap "java/lang/String" "COMPACT_STRINGS" "Z" (.int cpt)) (hcpt : ¬ cpt = 0) :
    Met l Z a0 EL b n0 (⟨"java/lang/AbstractStringBuilder", "append", "(Ljava/lang/String;)Ljava/lang/AbstractStringBuilder;"⟩ : MethodName) jdk_68_method_22_code 3 (some (.object "java/lang/AbstractStringBuilder")) [] (rm4 3 0 0 47) [.ref a, .ref s] [(a, .inl ("java/lang/StringBuilder", [("java/lang/AbstractStringBuilder", "value", "[B", .ref t), ("java/lang/AbstractStringBuilder", "coder", "B", .int 0), ("java/lang/AbstractStringBuilder", "count", "I", .int 0)])), (t, .inr (.byte, [.int 0, .int 0, .int 0, .int 0, .int 0, .int 0, .int 0, .int 0, .int 0, .int 0, .int 0, .int 0, .int 0, .int 0, .int 0, .int 0]))] [(s, .inl ("java/lang/String", [("java/lang/String", "value", "[B", .ref r), ("java/lang/String", "coder", "B", .int 0)])), (r, .inr (.byte, [.int z0, .int z1, .int z2, .int z3, .int z4, .int z5, .int z6, .int z7, .int z8, .int z9, .int z10, .int z11, .int z12, .int z13]))] (fun v D' S' => ∃ u, v = some (.ref a) ∧ D' = [(a, .inl ("java/lang/StringBuilder", [("java/lang/AbstractStringBuilder", "value", "[B", .ref u), ("java/lang/AbstractStringBuilder", "coder", "B", .int 0), ("java/lang/AbstractStringBuilder", "count", "I", .int 14)])), (u, .inr (.byte, [.int z0, .int z1, .int z2, .int z3, .int z4, .int z5, .int z6, .int z7, .int z8, .int z9, .int z10, .int z11, .int z12, .int z13, .int 0, .int 0]))] ∧ S' = []) := by
  refine Met.of_go (own := "java/lang/AbstractStringBuilder") (nm := "append") (Ls := #[.val (.ref a), .val (.ref s), .unset]) (plainFor_of_name png_3) (fun m => by first | (simp [entryFrame, mkF, argsToLocals, Value.category]; done) | rfl) ?_
  refine Go.aloadN d16_0 rfl (G := ?_)
  refine Go.ifnonnullY d16_1 (pc2 := 9) (G := ?_)
  refine Go.aloadN d16_9 rfl (G := ?_)
  refine Go.invokevirtual false d16_10 (hw _ (List.mem_of_getElem? (i := 70) rfl)) (hw _ (List.mem_of_getElem? (i := 71) rfl)) (hw _ (List.mem_of_getElem? (i := 73) rfl)) (hw _ (List.mem_of_getElem? (i := 72) rfl)) (hw _ (List.mem_of_getElem? (i := 2) rfl)) (hw _ (List.mem_of_getElem? (i := 74) rfl)) (nfSel (hw _ (List.mem_of_getElem? (i := 73) rfl))) (inS (i := 0) rfl) (c_len14 hw s r z0 z1 z2 z3 z4 z5 z6 z7 z8 z9 z10 z11 z12 z13 cpt hCS hcpt) pdg_9 rfl (argsL := []) (rest := []) rfl rfl (Dr := [(a, .inl ("java/lang/StringBuilder", [("java/lang/AbstractStringBuilder", "value", "[B", .ref t), ("java/lang/AbstractStringBuilder", "coder", "B", .int 0), ("java/lang/AbstractStringBuilder", "count", "I", .int 0)])), (t, .inr (.byte, [.int 0, .int 0, .int 0, .int 0, .int 0, .int 0, .int 0, .int 0, .int 0, .int 0, .int 0, .int 0, .int 0, .int 0, .int 0, .int 0]))]) rfl (eS (Or.inl (List.mem_of_getElem? (i := 0) rfl)) (eS (Or.inl (List.mem_of_getElem? (i := 1) rfl)) eN)) (G := ?_)
  rintro _ _ _ ⟨rfl, rfl, rfl⟩
  refine Go.norm (D2 := [(a, .inl ("java/lang/StringBuilder", [("java/lang/AbstractStringBuilder", "value", "[B", .ref t), ("java/lang/AbstractStringBuilder", "coder", "B", .int 0), ("java/lang/AbstractStringBuilder", "count", "I", .int 0)])), (t, .inr (.byte, [.int 0, .int 0, .int 0, .int 0, .int 0, .int 0, .int 0, .int 0, .int 0, .int 0, .int 0, .int 0, .int 0, .int 0, .int 0, .int 0]))]) (S2 := [(s, .inl ("java/lang/String", [("java/lang/String", "value", "[B", .ref r), ("java/lang/String", "coder", "B", .int 0)])), (r, .inr (.byte, [.int z0, .int z1, .int z2, .int z3, .int z4, .int z5, .int z6, .int z7, .int z8, .int z9, .int z10, .int z11, .int z12, .int z13]))]) (c2 := 0) (s2 := 0) (st2 := [.int 14]) ?_
  refine Go.istoreN d16_13 (Ls' := #[.val (.ref a), .val (.ref s), .val (.int 14)]) rfl (G := ?_)
  refine Go.aloadN d16_14 rfl (G := ?_)
  refine Go.aloadN d16_15 rfl (G := ?_)
  refine Go.getfield d16_16 (host := "") (Or.inl (hw _ (List.mem_of_getElem? (i := 80) rfl))) Via.refl (inD (i := 0) rfl) 2 rfl (G := ?_)
  refine Go.iloadN d16_19 rfl (G := ?_)
  refine Go.iadd d16_20 (z := 14) rfl (G := ?_)
  refine Go.invokeprivateG false d16_21 (hw _ (List.mem_of_getElem? (i := 82) rfl)) (hw _ (List.mem_of_getElem? (i := 83) rfl)) (hw _ (List.mem_of_getElem? (i := 85) rfl)) (hw _ (List.mem_of_getElem? (i := 84) rfl)) (hw _ (List.mem_of_getElem? (i := 49) rfl)) (hw _ (List.mem_of_getElem? (i := 86) rfl)) (inD (i := 0) rfl) (c_ec16_0_14 hw a t) pdg_5 rfl (argsL := [.int 14]) (rest := []) rfl rfl (Dr := []) rfl eN (G := ?_)
  rintro _ _ _ ⟨u, rfl, rfl, rfl⟩
  refine Go.norm (D2 := [(a, .inl ("java/lang/StringBuilder", [("java/lang/AbstractStringBuilder", "value", "[B", .ref u), ("java/lang/AbstractStringBuilder", "coder", "B", .int 0), ("java/lang/AbstractStringBuilder", "count", "I", .int 0)])), (u, .inr (.byte, [.int 0, .int 0, .int 0, .int 0, .int 0, .int 0, .int 0, .int 0, .int 0, .int 0, .int 0, .int 0, .int 0, .int 0, .int 0, .int 0]))]) (S2 := [(s, .inl ("java/lang/String", [("java/lang/String", "value", "[B", .ref r), ("java/lang/String", "coder", "B", .int 0)])), (r, .inr (.byte, [.int z0, .int z1, .int z2, .int z3, .int z4, .int z5, .int z6, .int z7, .int z8, .int z9, .int z10, .int z11, .int z12, .int z13]))]) (c2 := 0) (s2 := 0) (st2 := []) ?_
  refine Go.aloadN d16_24 rfl (G := ?_)
  refine Go.aloadN d16_25 rfl (G := ?_)
  refine Go.getfield d16_26 (host := "") (Or.inl (hw _ (List.mem_of_getElem? (i := 80) rfl))) Via.refl (inD (i := 0) rfl) 2 rfl (G := ?_)
  refine Go.aloadN d16_29 rfl (G := ?_)
  refine Go.invokeprivateG false d16_30 (hw _ (List.mem_of_getElem? (i := 87) rfl)) (hw _ (List.mem_of_getElem? (i := 88) rfl)) (hw _ (List.mem_of_getElem? (i := 90) rfl)) (hw _ (List.mem_of_getElem? (i := 89) rfl)) (hw _ (List.mem_of_getElem? (i := 49) rfl)) (hw _ (List.mem_of_getElem? (i := 91) rfl)) (inD (i := 0) rfl) (c_ps16_0_14 hw a u s r z0 z1 z2 z3 z4 z5 z6 z7 z8 z9 z10 z11 z12 z13 cpt hCS hcpt) pdg_10 rfl (argsL := [.int 0, .ref s]) (rest := []) rfl rfl (Dr := []) rfl (eS (Or.inl (List.mem_of_getElem? (i := 0) rfl)) (eS (Or.inl (List.mem_of_getElem? (i := 1) rfl)) eN)) (G := ?_)
  rintro _ _ _ ⟨rfl, rfl, rfl⟩
  refine Go.norm (D2 := [(a, .inl ("java/lang/StringBuilder", [("java/lang/AbstractStringBuilder", "value", "[B", .ref u), ("java/lang/AbstractStringBuilder", "coder", "B", .int 0), ("java/lang/AbstractStringBuilder", "count", "I", .int 0)])), (u, .inr (.byte, [.int z0, .int z1, .int z2, .int z3, .int z4, .int z5, .int z6, .int z7, .int z8, .int z9, .int z10, .int z11, .int z12, .int z13, .int 0, .int 0]))]) (S2 := [(s, .inl ("java/lang/String", [("java/lang/String", "value", "[B", .ref r), ("java/lang/String", "coder", "B", .int 0)])), (r, .inr (.byte, [.int z0, .int z1, .int z2, .int z3, .int z4, .int z5, .int z6, .int z7, .int z8, .int z9, .int z10, .int z11, .int z12, .int z13]))]) (c2 := 0) (s2 := 0) (st2 := []) ?_
  refine Go.aloadN d16_33 rfl (G := ?_)
  refine Go.dup d16_34 (G := ?_)
  refine Go.getfield d16_35 (host := "") (Or.inl (hw _ (List.mem_of_getElem? (i := 80) rfl))) Via.refl (inD (i := 0) rfl) 2 rfl (G := ?_)
  refine Go.iloadN d16_38 rfl (G := ?_)
  refine Go.iadd d16_39 (z := 14) rfl (G := ?_)
  refine Go.putfield d16_40 (hw _ (List.mem_of_getElem? (i := 80) rfl)) Via.refl 0 rfl 2 rfl (Or.inl (hw _ (List.mem_of_getElem? (i := 81) rfl))) (hw _ (List.mem_of_getElem? (i := 40) rfl)) (ty := .int) (by decide +kernel) (v' := .int 14) rfl rfl (D' := [(a, .inl ("java/lang/StringBuilder", [("java/lang/AbstractStringBuilder", "value", "[B", .ref u), ("java/lang/AbstractStringBuilder", "coder", "B", .int 0), ("java/lang/AbstractStringBuilder", "count", "I", .int 14)])), (u, .inr (.byte, [.int z0, .int z1, .int z2, .int z3, .int z4, .int z5, .int z6, .int z7, .int z8, .int z9, .int z10, .int z11, .int z12, .int z13, .int 0, .int 0]))]) rfl (G := ?_)
  refine Go.aloadN d16_43 rfl (G := ?_)
  refine Go.sub [0, 1] (by decide) rfl (D' := [(a, .inl ("java/lang/StringBuilder", [("java/lang/AbstractStringBuilder", "value", "[B", .ref u), ("java/lang/AbstractStringBuilder", "coder", "B", .int 0), ("java/lang/AbstractStringBuilder", "count", "I", .int 14)])), (u, .inr (.byte, [.int z0, .int z1, .int z2, .int z3, .int z4, .int z5, .int z6, .int z7, .int z8, .int z9, .int z10, .int z11, .int z12, .int z13, .int 0, .int 0]))]) rfl (S' := []) eN (G := ?_)
  exact Go.retA d16_44 ⟨u, rfl, rfl, rfl⟩
theorem d17_0 : Dx jdk_67_method_7_code 0 (.aload_n 0) 1 1 := ⟨by decide +kernel, rfl⟩
theorem d17_1 : Dx jdk_67_method_7_code 1 (.aload_n 1) 1 2 := ⟨by decide +kernel, rfl⟩
theorem d17_2 : Dx jdk_67_method_7_code 2 (.invokespecial 29) 3 5 := ⟨by decide +kernel, rfl⟩
theorem d17_5 : Dx jdk_67_method_7_code 5 (.pop) 1 6 := ⟨by decide +kernel, rfl⟩
theorem d17_6 : Dx jdk_67_method_7_code 6 (.aload_n 0) 1 7 := ⟨by decide +kernel, rfl⟩
theorem d17_7 : Dx jdk_67_method_7_code 7 (.areturn) 1 8 := ⟨by decide +kernel, rfl⟩
theorem pdg_11 : parseMethodDescriptor "(Ljava/lang/String;)Ljava/lang/AbstractStringBuilder;" = some ⟨[.object "java/lang/String"], some (.object "java/lang/AbstractStringBuilder")⟩ := by decide +kernel
set_option maxRecDepth 65536 in
set_option maxHeartbeats 40000000 in
theorem c_app16_0_14 {l : Launch} {Z : State} {a0 : Array Value} {EL : List (String × Nat)} {b : Bool} {n0 : Nat} (hw : ∀ d ∈ tables_1, d.before a0 Z = true) (a t s r : Addr) (z0 z1 z2 z3 z4 z5 z6 z7 z8 z9 z10 z11 z12 z13 : Int32) (cpt : Int32) (hCS : Sta Z Z.heap "java/lang/String" "COMPACT_STRINGS" "Z" (.int cpt)) (hcpt : ¬ cpt = 0) :
    Met l Z a0 EL b n0 (⟨"java/lang/StringBuilder", "append", "(Ljava/lang/String;)Ljava/lang/StringBuilder;"⟩ : MethodName) jdk_67_method_7_code 2 (some (.object "java/lang/StringBuilder")) [] (rm4 4 0 0 61) [.ref a, .ref s] [(a, .inl ("java/lang/StringBuilder", [("java/lang/AbstractStringBuilder", "value", "[B", .ref t), ("java/lang/AbstractStringBuilder", "coder", "B", .int 0), ("java/lang/AbstractStringBuilder", "count", "I", .int 0)])), (t, .inr (.byte, [.int 0, .int 0, .int 0, .int 0, .int 0, .int 0, .int 0, .int 0, .int 0, .int 0, .int 0, .int 0, .int 0, .int 0, .int 0, .int 0]))] [(s, .inl ("java/lang/String", [("java/lang/String", "value", "[B", .ref r), ("java/lang/String", "coder", "B", .int 0)])), (r, .inr (.byte, [.int z0, .int z1, .int z2, .int z3, .int z4, .int z5, .int z6, .int z7, .int z8, .int z9, .int z10, .int z11, .int z12, .int z13]))] (fun v D' S' => ∃ u, v = some (.ref a) ∧ D' = [(a, .inl ("java/lang/StringBuilder", [("java/lang/AbstractStringBuilder", "value", "[B", .ref u), ("java/lang/AbstractStringBuilder", "coder", "B", .int 0), ("java/lang/AbstractStringBuilder", "count", "I", .int 14)])), (u, .inr (.byte, [.int z0, .int z1, .int z2, .int z3, .int z4, .int z5, .int z6, .int z7, .int z8, .int z9, .int z10, .int z11, .int z12, .int z13, .int 0, .int 0]))] ∧ S' = []) := by
  refine Met.of_go (own := "java/lang/StringBuilder") (nm := "append") (Ls := #[.val (.ref a), .val (.ref s)]) (plainFor_of_name png_4) (fun m => by first | (simp [entryFrame, mkF, argsToLocals, Value.category]; done) | rfl) ?_
  refine Go.aloadN d17_0 rfl (G := ?_)
  refine Go.aloadN d17_1 rfl (G := ?_)
  refine Go.invokesuper false d17_2 (by decide) (hw _ (List.mem_of_getElem? (i := 65) rfl)) (hw _ (List.mem_of_getElem? (i := 66) rfl)) (sameOwn (hw _ (List.mem_of_getElem? (i := 66) rfl)) (hw _ (List.mem_of_getElem? (i := 85) rfl)) rfl (by decide)) (hw _ (List.mem_of_getElem? (i := 67) rfl)) (hw _ (List.mem_of_getElem? (i := 49) rfl)) (hw _ (List.mem_of_getElem? (i := 69) rfl)) (inD (i := 0) rfl) (c_aa16_0_14 hw a t s r z0 z1 z2 z3 z4 z5 z6 z7 z8 z9 z10 z11 z12 z13 cpt hCS hcpt) pdg_11 rfl (argsL := [.ref s]) (rest := []) rfl rfl (Dr := []) rfl (eS (Or.inl (List.mem_of_getElem? (i := 0) rfl)) (eS (Or.inl (List.mem_of_getElem? (i := 1) rfl)) eN)) (G := ?_)
  rintro _ _ _ ⟨u, rfl, rfl, rfl⟩
  refine Go.norm (D2 := [(a, .inl ("java/lang/StringBuilder", [("java/lang/AbstractStringBuilder", "value", "[B", .ref u), ("java/lang/AbstractStringBuilder", "coder", "B", .int 0), ("java/lang/AbstractStringBuilder", "count", "I", .int 14)])), (u, .inr (.byte, [.int z0, .int z1, .int z2, .int z3, .int z4, .int z5, .int z6, .int z7, .int z8, .int z9, .int z10, .int z11, .int z12, .int z13, .int 0, .int 0]))]) (S2 := [(s, .inl ("java/lang/String", [("java/lang/String", "value", "[B", .ref r), ("java/lang/String", "coder", "B", .int 0)])), (r, .inr (.byte, [.int z0, .int z1, .int z2, .int z3, .int z4, .int z5, .int z6, .int z7, .int z8, .int z9, .int z10, .int z11, .int z12, .int z13]))]) (c2 := 0) (s2 := 0) (st2 := [.ref a]) ?_
  refine Go.pop d17_5 (G := ?_)
  refine Go.aloadN d17_6 rfl (G := ?_)
  refine Go.sub [0, 1] (by decide) rfl (D' := [(a, .inl ("java/lang/StringBuilder", [("java/lang/AbstractStringBuilder", "value", "[B", .ref u), ("java/lang/AbstractStringBuilder", "coder", "B", .int 0), ("java/lang/AbstractStringBuilder", "count", "I", .int 14)])), (u, .inr (.byte, [.int z0, .int z1, .int z2, .int z3, .int z4, .int z5, .int z6, .int z7, .int z8, .int z9, .int z10, .int z11, .int z12, .int z13, .int 0, .int 0]))]) rfl (S' := []) eN (G := ?_)
  exact Go.retA d17_7 ⟨u, rfl, rfl, rfl⟩
set_option maxRecDepth 65536 in
set_option maxHeartbeats 40000000 in
theorem c_len2 {l : Launch} {Z : State} {a0 : Array Value} {EL : List (String × Nat)} {b : Bool} {n0 : Nat} (hw : ∀ d ∈ tables_1, d.before a0 Z = true) (s t : Addr) (z0 z1 : Int32) (cpt : Int32) (hCS : Sta Z Z.heap "java/lang/String" "COMPACT_STRINGS" "Z" (.int cpt)) (hcpt : ¬ cpt = 0) :
    Met l Z a0 EL b n0 (⟨"java/lang/String", "length", "()I"⟩ : MethodName) jdk_42_method_54_code 1 (some .int) [] (rm4 1 0 0 13) [.ref s] [] [(s, .inl ("java/lang/String", [("java/lang/String", "value", "[B", .ref t), ("java/lang/String", "coder", "B", .int 0)])), (t, .inr (.byte, [.int z0, .int z1]))] (fun v D' S' => v = some (.int 2) ∧ D' = [] ∧ S' = []) := by
  refine Met.of_go (own := "java/lang/String") (nm := "length") (Ls := #[.val (.ref s)]) (plainFor_of_name png_1) (fun m => by first | (simp [entryFrame, mkF, argsToLocals, Value.category]; done) | rfl) ?_
  refine Go.aloadN d11_0 rfl (G := ?_)
  refine Go.getfield d11_1 (host := "") (Or.inl (hw _ (List.mem_of_getElem? (i := 28) rfl))) Via.refl (inS (i := 0) rfl) 0 rfl (G := ?_)
  refine Go.arraylength d11_4 (inS (i := 1) rfl) (n := 2) rfl (G := ?_)
  refine Go.aloadN d11_5 rfl (G := ?_)
  refine Go.invokevirtual false d11_6 (hw _ (List.mem_of_getElem? (i := 75) rfl)) (hw _ (List.mem_of_getElem? (i := 76) rfl)) (hw _ (List.mem_of_getElem? (i := 78) rfl)) (hw _ (List.mem_of_getElem? (i := 77) rfl)) (hw _ (List.mem_of_getElem? (i := 2) rfl)) (hw _ (List.mem_of_getElem? (i := 79) rfl)) (nfSel (hw _ (List.mem_of_getElem? (i := 78) rfl))) (inS (i := 0) rfl) (c_cod hw s t cpt hCS hcpt) pdg_6 rfl (argsL := []) (rest := [.int 2]) rfl rfl (Dr := []) rfl (eS (Or.inl (List.mem_of_getElem? (i := 0) rfl)) eN) (G := ?_)
  rintro _ _ _ ⟨rfl, rfl, rfl⟩
  refine Go.norm (D2 := []) (S2 := [(s, .inl ("java/lang/String", [("java/lang/String", "value", "[B", .ref t), ("java/lang/String", "coder", "B", .int 0)])), (t, .inr (.byte, [.int z0, .int z1]))]) (c2 := 0) (s2 := 0) (st2 := [.int 0, .int 2]) ?_
  refine Go.ishr d11_9 (z := 2) rfl (G := ?_)
  refine Go.sub [] (by decide) rfl (D' := []) rfl (S' := []) eN (G := ?_)
  exact Go.retI d11_10 ⟨rfl, rfl, rfl⟩
set_option maxRecDepth 65536 in
set_option maxHeartbeats 40000000 in
theorem c_ec16_14_2 {l : Launch} {Z : State} {a0 : Array Value} {EL : List (String × Nat)} {b : Bool} {n0 : Nat} (hw : ∀ d ∈ tables_1, d.before a0 Z = true) (a t : Addr) (y0 y1 y2 y3 y4 y5 y6 y7 y8 y9 y10 y11 y12 y13 : Int32) :
    Met l Z a0 EL b n0 (⟨"java/lang/AbstractStringBuilder", "ensureCapacityInternal", "(I)V"⟩ : MethodName) jdk_68_method_9_code 3 none [] (rm4 0 0 0 0) [.ref a, .int 16] [(a, .inl ("java/lang/StringBuilder", [("java/lang/AbstractStringBuilder", "value", "[B", .ref t), ("java/lang/AbstractStringBuilder", "coder", "B", .int 0), ("java/lang/AbstractStringBuilder", "count", "I", .int 14)])), (t, .inr (.byte, [.int y0, .int y1, .int y2, .int y3, .int y4, .int y5, .int y6, .int y7, .int y8, .int y9, .int y10, .int y11, .int y12, .int y13, .int 0, .int 0]))] [] (fun v D' S' => ∃ u, v = none ∧ D' = [(a, .inl ("java/lang/StringBuilder", [("java/lang/AbstractStringBuilder", "value", "[B", .ref u), ("java/lang/AbstractStringBuilder", "coder", "B", .int 0), ("java/lang/AbstractStringBuilder", "count", "I", .int 14)])), (u, .inr (.byte, [.int y0, .int y1, .int y2, .int y3, .int y4, .int y5, .int y6, .int y7, .int y8, .int y9, .int y10, .int y11, .int y12, .int y13, .int 0, .int 0]))] ∧ S' = []) := by
  refine Met.of_go (own := "java/lang/AbstractStringBuilder") (nm := "ensureCapacityInternal") (Ls := #[.val (.ref a), .val (.int 16), .unset]) (plainFor_of_name png_3) (fun m => by first | (simp [entryFrame, mkF, argsToLocals, Value.category]; done) | rfl) ?_
  refine Go.aloadN d12_0 rfl (G := ?_)
  refine Go.getfield d12_1 (host := "") (Or.inl (hw _ (List.mem_of_getElem? (i := 53) rfl))) Via.refl (inD (i := 0) rfl) 0 rfl (G := ?_)
  refine Go.arraylength d12_4 (inD (i := 1) rfl) (n := 16) rfl (G := ?_)
  refine Go.aloadN d12_5 rfl (G := ?_)
  refine Go.getfield d12_6 (host := "") (Or.inl (hw _ (List.mem_of_getElem? (i := 55) rfl))) Via.refl (inD (i := 0) rfl) 1 rfl (G := ?_)
  refine Go.ishr d12_9 (z := 16) rfl (G := ?_)
  refine Go.istoreN d12_10 (Ls' := #[.val (.ref a), .val (.int 16), .val (.int 16)]) rfl (G := ?_)
  refine Go.iloadN d12_11 rfl (G := ?_)
  refine Go.iloadN d12_12 rfl (G := ?_)
  refine Go.isub d12_13 (z := 0) rfl (G := ?_)
  refine Go.ifc d12_14 (pc2 := 38) (Gy := fun _ => ?_) (Gn := fun h => absurd (show ¬ (0 : Int32) < 0 by decide) h)
  exact Go.retV d12_38 ⟨t, rfl, rfl, rfl⟩
set_option maxRecDepth 65536 in
set_option maxHeartbeats 40000000 in
theorem c_gb16_14_2 {l : Launch} {Z : State} {a0 : Array Value} {EL : List (String × Nat)} {b : Bool} {n0 : Nat} (hw : ∀ d ∈ tables_1, d.before a0 Z = true) (s r t : Addr) (y0 y1 y2 y3 y4 y5 y6 y7 y8 y9 y10 y11 y12 y13 : Int32) (z0 z1 : Int32) (cpt : Int32) (hCS : Sta Z Z.heap "java/lang/String" "COMPACT_STRINGS" "Z" (.int cpt)) (hcpt : ¬ cpt = 0) :
    Met l Z a0 EL b n0 (⟨"java/lang/String", "getBytes", "([BIB)V"⟩ : MethodName) jdk_42_method_147_code 4 none [] (rm4 1 0 0 18) [.ref s, .ref t, .int 14, .int 0] [(t, .inr (.byte, [.int y0, .int y1, .int y2, .int y3, .int y4, .int y5, .int y6, .int y7, .int y8, .int y9, .int y10, .int y11, .int y12, .int y13, .int 0, .int 0]))] [(s, .inl ("java/lang/String", [("java/lang/String", "value", "[B", .ref r), ("java/lang/String", "coder", "B", .int 0)])), (r, .inr (.byte, [.int z0, .int z1]))] (fun v D' S' => v = none ∧ D' = [(t, .inr (.byte, [.int y0, .int y1, .int y2, .int y3, .int y4, .int y5, .int y6, .int y7, .int y8, .int y9, .int y10, .int y11, .int y12, .int y13, .int z0, .int z1]))] ∧ S' = []) := by
  refine Met.of_go (own := "java/lang/String") (nm := "getBytes") (Ls := #[.val (.ref s), .val (.ref t), .val (.int 14), .val (.int 0)]) (plainFor_of_name png_1) (fun m => by first | (simp [entryFrame, mkF, argsToLocals, Value.category]; done) | rfl) ?_
  refine Go.aloadN d13_0 rfl (G := ?_)
  refine Go.invokevirtual false d13_1 (hw _ (List.mem_of_getElem? (i := 75) rfl)) (hw _ (List.mem_of_getElem? (i := 76) rfl)) (hw _ (List.mem_of_getElem? (i := 78) rfl)) (hw _ (List.mem_of_getElem? (i := 77) rfl)) (hw _ (List.mem_of_getElem? (i := 2) rfl)) (hw _ (List.mem_of_getElem? (i := 79) rfl)) (nfSel (hw _ (List.mem_of_getElem? (i := 78) rfl))) (inS (i := 0) rfl) (c_cod hw s r cpt hCS hcpt) pdg_6 rfl (argsL := []) (rest := []) rfl rfl (Dr := [(t, .inr (.byte, [.int y0, .int y1, .int y2, .int y3, .int y4, .int y5, .int y6, .int y7, .int y8, .int y9, .int y10, .int y11, .int y12, .int y13, .int 0, .int 0]))]) rfl (eS (Or.inl (List.mem_of_getElem? (i := 0) rfl)) eN) (G := ?_)
  rintro _ _ _ ⟨rfl, rfl, rfl⟩
  refine Go.norm (D2 := [(t, .inr (.byte, [.int y0, .int y1, .int y2, .int y3, .int y4, .int y5, .int y6, .int y7, .int y8, .int y9, .int y10, .int y11, .int y12, .int y13, .int 0, .int 0]))]) (S2 := [(s, .inl ("java/lang/String", [("java/lang/String", "value", "[B", .ref r), ("java/lang/String", "coder", "B", .int 0)])), (r, .inr (.byte, [.int z0, .int z1]))]) (c2 := 0) (s2 := 0) (st2 := [.int 0]) ?_
  refine Go.iloadN d13_4 rfl (G := ?_)
  refine Go.icmp d13_5 (pc2 := 28) (Gy := fun h => absurd h (show ¬ (¬ (0 : Int32) = 0) by decide)) (Gn := fun _ => ?_)
  refine Go.aloadN d13_8 rfl (G := ?_)
  refine Go.getfield d13_9 (host := "") (Or.inl (hw _ (List.mem_of_getElem? (i := 28) rfl))) Via.refl (inS (i := 0) rfl) 0 rfl (G := ?_)
  refine Go.iconst d13_12 (v := 0) rfl (G := ?_)
  refine Go.aloadN d13_13 rfl (G := ?_)
  refine Go.iloadN d13_14 rfl (G := ?_)
  refine Go.iloadN d13_15 rfl (G := ?_)
  refine Go.ishl d13_16 (z := 14) rfl (G := ?_)
  refine Go.aloadN d13_17 rfl (G := ?_)
  refine Go.getfield d13_18 (host := "") (Or.inl (hw _ (List.mem_of_getElem? (i := 28) rfl))) Via.refl (inS (i := 0) rfl) 0 rfl (G := ?_)
  refine Go.arraylength d13_21 (inS (i := 1) rfl) (n := 2) rfl (G := ?_)
  refine Go.arraycopy d13_22 (hw _ (List.mem_of_getElem? (i := 103) rfl)) (hw _ (List.mem_of_getElem? (i := 106) rfl)) (hw _ (List.mem_of_getElem? (i := 104) rfl)) (hw _ (List.mem_of_getElem? (i := 105) rfl)) (inS (i := 1) rfl) 0 rfl rfl (by decide) (by decide) (by decide) (Nat.le_of_ble_eq_true rfl) (Nat.le_of_ble_eq_true rfl) (D' := [(t, .inr (.byte, [.int y0, .int y1, .int y2, .int y3, .int y4, .int y5, .int y6, .int y7, .int y8, .int y9, .int y10, .int y11, .int y12, .int y13, .int z0, .int z1]))]) rfl (G := ?_)
  refine Go.goto d13_25 (pc2 := 43) (G := ?_)
  refine Go.sub [0] (by decide) rfl (D' := [(t, .inr (.byte, [.int y0, .int y1, .int y2, .int y3, .int y4, .int y5, .int y6, .int y7, .int y8, .int y9, .int y10, .int y11, .int y12, .int y13, .int z0, .int z1]))]) rfl (S' := []) eN (G := ?_)
  exact Go.retV d13_43 ⟨rfl, rfl, rfl⟩
set_option maxRecDepth 65536 in
set_option maxHeartbeats 40000000 in
theorem c_ps16_14_2 {l : Launch} {Z : State} {a0 : Array Value} {EL : List (String × Nat)} {b : Bool} {n0 : Nat} (hw : ∀ d ∈ tables_1, d.before a0 Z = true) (a t s r : Addr) (y0 y1 y2 y3 y4 y5 y6 y7 y8 y9 y10 y11 y12 y13 : Int32) (z0 z1 : Int32) (cpt : Int32) (hCS : Sta Z Z.heap "java/lang/String" "COMPACT_STRINGS" "Z" (.int cpt)) (hcpt : ¬ cpt = 0) :
    Met l Z a0 EL b n0 (⟨"java/lang/AbstractStringBuilder", "putStringAt", "(ILjava/lang/String;)V"⟩ : MethodName) jdk_68_method_73_code 3 none [] (rm4 2 0 0 33) [.ref a, .int 14, .ref s] [(a, .inl ("java/lang/StringBuilder", [("java/lang/AbstractStringBuilder", "value", "[B", .ref t), ("java/lang/AbstractStringBuilder", "coder", "B", .int 0), ("java/lang/AbstractStringBuilder", "count", "I", .int 14)])), (t, .inr (.byte, [.int y0, .int y1, .int y2, .int y3, .int y4, .int y5, .int y6, .int y7, .int y8, .int y9, .int y10, .int y11, .int y12, .int y13, .int 0, .int 0]))] [(s, .inl ("java/lang/String", [("java/lang/String", "value", "[B", .ref r), ("java/lang/String", "coder", "B", .int 0)])), (r, .inr (.byte, [.int z0, .int z1]))] (fun v D' S' => v = none ∧ D' = [(a, .inl ("java/lang/StringBuilder", [("java/lang/AbstractStringBuilder", "value", "[B", .ref t), ("java/lang/AbstractStringBuilder", "coder", "B", .int 0), ("java/lang/AbstractStringBuilder", "count", "I", .int 14)])), (t, .inr (.byte, [.int y0, .int y1, .int y2, .int y3, .int y4, .int y5, .int y6, .int y7, .int y8, .int y9, .int y10, .int y11, .int y12, .int y13, .int z0, .int z1]))] ∧ S' = []) := by
  refine Met.of_go (own := "java/lang/AbstractStringBuilder") (nm := "putStringAt") (Ls := #[.val (.ref a), .val (.int 14), .val (.ref s)]) (plainFor_of_name png_3) (fun m => by first | (simp [entryFrame, mkF, argsToLocals, Value.category]; done) | rfl) ?_
  refine Go.aloadN d15_0 rfl (G := ?_)
  refine Go.aloadN d15_1 rfl (G := ?_)
  refine Go.invokeprivateG true d15_2 (hw _ (List.mem_of_getElem? (i := 92) rfl)) (hw _ (List.mem_of_getElem? (i := 93) rfl)) (hw _ (List.mem_of_getElem? (i := 95) rfl)) (hw _ (List.mem_of_getElem? (i := 94) rfl)) (hw _ (List.mem_of_getElem? (i := 49) rfl)) (hw _ (List.mem_of_getElem? (i := 96) rfl)) (inD (i := 0) rfl) (c_inf hw a t s r 14 cpt hCS hcpt) pdg_7 rfl (argsL := [.ref s]) (rest := []) rfl rfl (Dr := [(a, .inl ("java/lang/StringBuilder", [("java/lang/AbstractStringBuilder", "value", "[B", .ref t), ("java/lang/AbstractStringBuilder", "coder", "B", .int 0), ("java/lang/AbstractStringBuilder", "count", "I", .int 14)])), (t, .inr (.byte, [.int y0, .int y1, .int y2, .int y3, .int y4, .int y5, .int y6, .int y7, .int y8, .int y9, .int y10, .int y11, .int y12, .int y13, .int 0, .int 0]))]) rfl (eS (Or.inr ⟨rfl, List.mem_of_getElem? (i := 0) rfl⟩) (eS (Or.inl (List.mem_of_getElem? (i := 0) rfl)) eN)) (G := ?_)
  rintro _ _ _ ⟨rfl, rfl, rfl⟩
  refine Go.norm (D2 := [(a, .inl ("java/lang/StringBuilder", [("java/lang/AbstractStringBuilder", "value", "[B", .ref t), ("java/lang/AbstractStringBuilder", "coder", "B", .int 0), ("java/lang/AbstractStringBuilder", "count", "I", .int 14)])), (t, .inr (.byte, [.int y0, .int y1, .int y2, .int y3, .int y4, .int y5, .int y6, .int y7, .int y8, .int y9, .int y10, .int y11, .int y12, .int y13, .int 0, .int 0]))]) (S2 := [(s, .inl ("java/lang/String", [("java/lang/String", "value", "[B", .ref r), ("java/lang/String", "coder", "B", .int 0)])), (r, .inr (.byte, [.int z0, .int z1]))]) (c2 := 0) (s2 := 0) (st2 := []) ?_
  refine Go.aloadN d15_5 rfl (G := ?_)
  refine Go.aloadN d15_6 rfl (G := ?_)
  refine Go.getfield d15_7 (host := "") (Or.inl (hw _ (List.mem_of_getElem? (i := 53) rfl))) Via.refl (inD (i := 0) rfl) 0 rfl (G := ?_)
  refine Go.iloadN d15_10 rfl (G := ?_)
  refine Go.aloadN d15_11 rfl (G := ?_)
  refine Go.getfield d15_12 (host := "") (Or.inl (hw _ (List.mem_of_getElem? (i := 55) rfl))) Via.refl (inD (i := 0) rfl) 1 rfl (G := ?_)
  refine Go.perm [1, 0] (by decide) rfl (D' := [(t, .inr (.byte, [.int y0, .int y1, .int y2, .int y3, .int y4, .int y5, .int y6, .int y7, .int y8, .int y9, .int y10, .int y11, .int y12, .int y13, .int 0, .int 0])), (a, .inl ("java/lang/StringBuilder", [("java/lang/AbstractStringBuilder", "value", "[B", .ref t), ("java/lang/AbstractStringBuilder", "coder", "B", .int 0), ("java/lang/AbstractStringBuilder", "count", "I", .int 14)]))]) rfl (G := ?_)
  refine Go.invokevirtual false d15_15 (hw _ (List.mem_of_getElem? (i := 98) rfl)) (hw _ (List.mem_of_getElem? (i := 99) rfl)) (hw _ (List.mem_of_getElem? (i := 101) rfl)) (hw _ (List.mem_of_getElem? (i := 100) rfl)) (hw _ (List.mem_of_getElem? (i := 2) rfl)) (hw _ (List.mem_of_getElem? (i := 102) rfl)) (nfSel (hw _ (List.mem_of_getElem? (i := 101) rfl))) (inS (i := 0) rfl) (c_gb16_14_2 hw s r t y0 y1 y2 y3 y4 y5 y6 y7 y8 y9 y10 y11 y12 y13 z0 z1 cpt hCS hcpt) pdg_8 rfl (argsL := [.ref t, .int 14, .int 0]) (rest := []) rfl rfl (Dr := [(a, .inl ("java/lang/StringBuilder", [("java/lang/AbstractStringBuilder", "value", "[B", .ref t), ("java/lang/AbstractStringBuilder", "coder", "B", .int 0), ("java/lang/AbstractStringBuilder", "count", "I", .int 14)]))]) rfl (eS (Or.inl (List.mem_of_getElem? (i := 0) rfl)) (eS (Or.inl (List.mem_of_getElem? (i := 1) rfl)) eN)) (G := ?_)
  rintro _ _ _ ⟨rfl, rfl, rfl⟩
  refine Go.norm (D2 := [(t, .inr (.byte, [.int y0, .int y1, .int y2, .int y3, .int y4, .int y5, .int y6, .int y7, .int y8, .int y9, .int y10, .int y11, .int y12, .int y13, .int z0, .int z1])), (a, .inl ("java/lang/StringBuilder", [("java/lang/AbstractStringBuilder", "value", "[B", .ref t), ("java/lang/AbstractStringBuilder", "coder", "B", .int 0), ("java/lang/AbstractStringBuilder", "count", "I", .int 14)]))]) (S2 := [(s, .inl ("java/lang/String", [("java/lang/String", "value", "[B", .ref r), ("java/lang/String", "coder", "B", .int 0)])), (r, .inr (.byte, [.int z0, .int z1]))]) (c2 := 0) (s2 := 0) (st2 := []) ?_
  refine Go.sub [1, 0] (by decide) rfl (D' := [(a, .inl ("java/lang/StringBuilder", [("java/lang/AbstractStringBuilder", "value", "[B", .ref t), ("java/lang/AbstractStringBuilder", "coder", "B", .int 0), ("java/lang/AbstractStringBuilder", "count", "I", .int 14)])), (t, .inr (.byte, [.int y0, .int y1, .int y2, .int y3, .int y4, .int y5, .int y6, .int y7, .int y8, .int y9, .int y10, .int y11, .int y12, .int y13, .int z0, .int z1]))]) rfl (S' := []) eN (G := ?_)
  exact Go.retV d15_18 ⟨rfl, rfl, rfl⟩
set_option maxRecDepth 65536 in
set_option maxHeartbeats 40000000 in
theorem c_aa16_14_2 {l : Launch} {Z : State} {a0 : Array Value} {EL : List (String × Nat)} {b : Bool} {n0 : Nat} (hw : ∀ d ∈ tables_1, d.before a0 Z = true) (a t s r : Addr) (y0 y1 y2 y3 y4 y5 y6 y7 y8 y9 y10 y11 y12 y13 : Int32) (z0 z1 : Int32) (cpt : Int32) (hCS : Sta Z Z.heap "java/lang/String" "COMPACT_STRINGS" "Z" (.int cpt)) (hcpt : ¬ cpt = 0) :
    Met l Z a0 EL b n0 (⟨"java/lang/AbstractStringBuilder", "append", "(Ljava/lang/String;)Ljava/lang/AbstractStringBuilder;"⟩ : MethodName) jdk_68_method_22_code 3 (some (.object "java/lang/AbstractStringBuilder")) [] (rm4 3 0 0 47) [.ref a, .ref s] [(a, .inl ("java/lang/StringBuilder", [("java/lang/AbstractStringBuilder", "value", "[B", .ref t), ("java/lang/AbstractStringBuilder", "coder", "B", .int 0), ("java/lang/AbstractStringBuilder", "count", "I", .int 14)])), (t, .inr (.byte, [.int y0, .int y1, .int y2, .int y3, .int y4, .int y5, .int y6, .int y7, .int y8, .int y9, .int y10, .int y11, .int y12, .int y13, .int 0, .int 0]))] [(s, .inl ("java/lang/String", [("java/lang/String", "value", "[B", .ref r), ("java/lang/String", "coder", "B", .int 0)])), (r, .inr (.byte, [.int z0, .int z1]))] (fun v D' S' => ∃ u, v = some (.ref a) ∧ D' = [(a, .inl ("java/lang/StringBuilder", [("java/lang/AbstractStringBuilder", "value", "[B", .ref u), ("java/lang/AbstractStringBuilder", "coder", "B", .int 0), ("java/lang/AbstractStringBuilder", "count", "I", .int 16)])), (u, .inr (.byte, [.int y0, .int y1, .int y2, .int y3, .int y4, .int y5, .int y6, .int y7, .int y8, .int y9, .int y10, .int y11, .int y12, .int y13, .int z0, .int z1]))] ∧ S' = []) := by
  refine Met.of_go (own := "java/lang/AbstractStringBuilder") (nm := "append") (Ls := #[.val (.ref a), .val (.ref s), .unset]) (plainFor_of_name png_3) (fun m => by first | (simp [entryFrame, mkF, argsToLocals, Value.category]; done) | rfl) ?_
  refine Go.aloadN d16_0 rfl (G := ?_)
  refine Go.ifnonnullY d16_1 (pc2 := 9) (G := ?_)
  refine Go.aloadN d16_9 rfl (G := ?_)
  refine Go.invokevirtual false d16_10 (hw _ (List.mem_of_getElem? (i := 70) rfl)) (hw _ (List.mem_of_getElem? (i := 71) rfl)) (hw _ (List.mem_of_getElem? (i := 73) rfl)) (hw _ (List.mem_of_getElem? (i := 72) rfl)) (hw _ (List.mem_of_getElem? (i := 2) rfl)) (hw _ (List.mem_of_getElem? (i := 74) rfl)) (nfSel (hw _ (List.mem_of_getElem? (i := 73) rfl))) (inS (i := 0) rfl) (c_len2 hw s r z0 z1 cpt hCS hcpt) pdg_9 rfl (argsL := []) (rest := []) rfl rfl (Dr := [(a, .inl ("java/lang/StringBuilder", [("java/lang/AbstractStringBuilder", "value", "[B", .ref t), ("java/lang/AbstractStringBuilder", "coder", "B", .int 0), ("java/lang/AbstractStringBuilder", "count", "I", .int 14)])), (t, .inr (.byte, [.int y0, .int y1, .int y2, .int y3, .int y4, .int y5, .int y6, .int y7, .int y8, .int y9, .int y10, .int y11, .int y12, .int y13, .int 0, .int 0]))]) rfl (eS (Or.inl (List.mem_of_getElem? (i := 0) rfl)) (eS (Or.inl (List.mem_of_getElem? (i := 1) rfl)) eN)) (G := ?_)
  rintro _ _ _ ⟨rfl, rfl, rfl⟩
  refine Go.norm (D2 := [(a, .inl ("java/lang/StringBuilder", [("java/lang/AbstractStringBuilder", "value", "[B", .ref t), ("java/lang/AbstractStringBuilder", "coder", "B", .int 0), ("java/lang/AbstractStringBuilder", "count", "I", .int 14)])), (t, .inr (.byte, [.int y0, .int y1, .int y2, .int y3, .int y4, .int y5, .int y6, .int y7, .int y8, .int y9, .int y10, .int y11, .int y12, .int y13, .int 0, .int 0]))]) (S2 := [(s, .inl ("java/lang/String", [("java/lang/String", "value", "[B", .ref r), ("java/lang/String", "coder", "B", .int 0)])), (r, .inr (.byte, [.int z0, .int z1]))]) (c2 := 0) (s2 := 0) (st2 := [.int 2]) ?_
  refine Go.istoreN d16_13 (Ls' := #[.val (.ref a), .val (.ref s), .val (.int 2)]) rfl (G := ?_)
  refine Go.aloadN d16_14 rfl (G := ?_)
  refine Go.aloadN d16_15 rfl (G := ?_)
  refine Go.getfield d16_16 (host := "") (Or.inl (hw _ (List.mem_of_getElem? (i := 80) rfl))) Via.refl (inD (i := 0) rfl) 2 rfl (G := ?_)
  refine Go.iloadN d16_19 rfl (G := ?_)
  refine Go.iadd d16_20 (z := 16) rfl (G := ?_)
  refine Go.invokeprivateG false d16_21 (hw _ (List.mem_of_getElem? (i := 82) rfl)) (hw _ (List.mem_of_getElem? (i := 83) rfl)) (hw _ (List.mem_of_getElem? (i := 85) rfl)) (hw _ (List.mem_of_getElem? (i := 84) rfl)) (hw _ (List.mem_of_getElem? (i := 49) rfl)) (hw _ (List.mem_of_getElem? (i := 86) rfl)) (inD (i := 0) rfl) (c_ec16_14_2 hw a t y0 y1 y2 y3 y4 y5 y6 y7 y8 y9 y10 y11 y12 y13) pdg_5 rfl (argsL := [.int 16]) (rest := []) rfl rfl (Dr := []) rfl eN (G := ?_)
  rintro _ _ _ ⟨u, rfl, rfl, rfl⟩
  refine Go.norm (D2 := [(a, .inl ("java/lang/StringBuilder", [("java/lang/AbstractStringBuilder", "value", "[B", .ref u), ("java/lang/AbstractStringBuilder", "coder", "B", .int 0), ("java/lang/AbstractStringBuilder", "count", "I", .int 14)])), (u, .inr (.byte, [.int y0, .int y1, .int y2, .int y3, .int y4, .int y5, .int y6, .int y7, .int y8, .int y9, .int y10, .int y11, .int y12, .int y13, .int 0, .int 0]))]) (S2 := [(s, .inl ("java/lang/String", [("java/lang/String", "value", "[B", .ref r), ("java/lang/String", "coder", "B", .int 0)])), (r, .inr (.byte, [.int z0, .int z1]))]) (c2 := 0) (s2 := 0) (st2 := []) ?_
  refine Go.aloadN d16_24 rfl (G := ?_)
  refine Go.aloadN d16_25 rfl (G := ?_)
  refine Go.getfield d16_26 (host := "") (Or.inl (hw _ (List.mem_of_getElem? (i := 80) rfl))) Via.refl (inD (i := 0) rfl) 2 rfl (G := ?_)
  refine Go.aloadN d16_29 rfl (G := ?_)
  refine Go.invokeprivateG false d16_30 (hw _ (List.mem_of_getElem? (i := 87) rfl)) (hw _ (List.mem_of_getElem? (i := 88) rfl)) (hw _ (List.mem_of_getElem? (i := 90) rfl)) (hw _ (List.mem_of_getElem? (i := 89) rfl)) (hw _ (List.mem_of_getElem? (i := 49) rfl)) (hw _ (List.mem_of_getElem? (i := 91) rfl)) (inD (i := 0) rfl) (c_ps16_14_2 hw a u s r y0 y1 y2 y3 y4 y5 y6 y7 y8 y9 y10 y11 y12 y13 z0 z1 cpt hCS hcpt) pdg_10 rfl (argsL := [.int 14, .ref s]) (rest := []) rfl rfl (Dr := []) rfl (eS (Or.inl (List.mem_of_getElem? (i := 0) rfl)) (eS (Or.inl (List.mem_of_getElem? (i := 1) rfl)) eN)) (G := ?_)
  rintro _ _ _ ⟨rfl, rfl, rfl⟩
  refine Go.norm (D2 := [(a, .inl ("java/lang/StringBuilder", [("java/lang/AbstractStringBuilder", "value", "[B", .ref u), ("java/lang/AbstractStringBuilder", "coder", "B", .int 0), ("java/lang/AbstractStringBuilder", "count", "I", .int 14)])), (u, .inr (.byte, [.int y0, .int y1, .int y2, .int y3, .int y4, .int y5, .int y6, .int y7, .int y8, .int y9, .int y10, .int y11, .int y12, .int y13, .int z0, .int z1]))]) (S2 := [(s, .inl ("java/lang/String", [("java/lang/String", "value", "[B", .ref r), ("java/lang/String", "coder", "B", .int 0)])), (r, .inr (.byte, [.int z0, .int z1]))]) (c2 := 0) (s2 := 0) (st2 := []) ?_
  refine Go.aloadN d16_33 rfl (G := ?_)
  refine Go.dup d16_34 (G := ?_)
  refine Go.getfield d16_35 (host := "") (Or.inl (hw _ (List.mem_of_getElem? (i := 80) rfl))) Via.refl (inD (i := 0) rfl) 2 rfl (G := ?_)
  refine Go.iloadN d16_38 rfl (G := ?_)
  refine Go.iadd d16_39 (z := 16) rfl (G := ?_)
  refine Go.putfield d16_40 (hw _ (List.mem_of_getElem? (i := 80) rfl)) Via.refl 0 rfl 2 rfl (Or.inl (hw _ (List.mem_of_getElem? (i := 81) rfl))) (hw _ (List.mem_of_getElem? (i := 40) rfl)) (ty := .int) (by decide +kernel) (v' := .int 16) rfl rfl (D' := [(a, .inl ("java/lang/StringBuilder", [("java/lang/AbstractStringBuilder", "value", "[B", .ref u), ("java/lang/AbstractStringBuilder", "coder", "B", .int 0), ("java/lang/AbstractStringBuilder", "count", "I", .int 16)])), (u, .inr (.byte, [.int y0, .int y1, .int y2, .int y3, .int y4, .int y5, .int y6, .int y7, .int y8, .int y9, .int y10, .int y11, .int y12, .int y13, .int z0, .int z1]))]) rfl (G := ?_)
  refine Go.aloadN d16_43 rfl (G := ?_)
  refine Go.sub [0, 1] (by decide) rfl (D' := [(a, .inl ("java/lang/StringBuilder", [("java/lang/AbstractStringBuilder", "value", "[B", .ref u), ("java/lang/AbstractStringBuilder", "coder", "B", .int 0), ("java/lang/AbstractStringBuilder", "count", "I", .int 16)])), (u, .inr (.byte, [.int y0, .int y1, .int y2, .int y3, .int y4, .int y5, .int y6, .int y7, .int y8, .int y9, .int y10, .int y11, .int y12, .int y13, .int z0, .int z1]))]) rfl (S' := []) eN (G := ?_)
  exact Go.retA d16_44 ⟨u, rfl, rfl, rfl⟩
set_option maxRecDepth 65536 in
set_option maxHeartbeats 40000000 in
theorem c_app16_14_2 {l : Launch} {Z : State} {a0 : Array Value} {EL : List (String × Nat)} {b : Bool} {n0 : Nat} (hw : ∀ d ∈ tables_1, d.before a0 Z = true) (a t s r : Addr) (y0 y1 y2 y3 y4 y5 y6 y7 y8 y9 y10 y11 y12 y13 : Int32) (z0 z1 : Int32) (cpt : Int32) (hCS : Sta Z Z.heap "java/lang/String" "COMPACT_STRINGS" "Z" (.int cpt)) (hcpt : ¬ cpt = 0) :
    Met l Z a0 EL b n0 (⟨"java/lang/StringBuilder", "append", "(Ljava/lang/String;)Ljava/lang/StringBuilder;"⟩ : MethodName) jdk_67_method_7_code 2 (some (.object "java/lang/StringBuilder")) [] (rm4 4 0 0 61) [.ref a, .ref s] [(a, .inl ("java/lang/StringBuilder", [("java/lang/AbstractStringBuilder", "value", "[B", .ref t), ("java/lang/AbstractStringBuilder", "coder", "B", .int 0), ("java/lang/AbstractStringBuilder", "count", "I", .int 14)])), (t, .inr (.byte, [.int y0, .int y1, .int y2, .int y3, .int y4, .int y5, .int y6, .int y7, .int y8, .int y9, .int y10, .int y11, .int y12, .int y13, .int 0, .int 0]))] [(s, .inl ("java/lang/String", [("java/lang/String", "value", "[B", .ref r), ("java/lang/String", "coder", "B", .int 0)])), (r, .inr (.byte, [.int z0, .int z1]))] (fun v D' S' => ∃ u, v = some (.ref a) ∧ D' = [(a, .inl ("java/lang/StringBuilder", [("java/lang/AbstractStringBuilder", "value", "[B", .ref u), ("java/lang/AbstractStringBuilder", "coder", "B", .int 0), ("java/lang/AbstractStringBuilder", "count", "I", .int 16)])), (u, .inr (.byte, [.int y0, .int y1, .int y2, .int y3, .int y4, .int y5, .int y6, .int y7, .int y8, .int y9, .int y10, .int y11, .int y12, .int y13, .int z0, .int z1]))] ∧ S' = []) := by
  refine Met.of_go (own := "java/lang/StringBuilder") (nm := "append") (Ls := #[.val (.ref a), .val (.ref s)]) (plainFor_of_name png_4) (fun m => by first | (simp [entryFrame, mkF, argsToLocals, Value.category]; done) | rfl) ?_
  refine Go.aloadN d17_0 rfl (G := ?_)
  refine Go.aloadN d17_1 rfl (G := ?_)
  refine Go.invokesuper false d17_2 (by decide) (hw _ (List.mem_of_getElem? (i := 65) rfl)) (hw _ (List.mem_of_getElem? (i := 66) rfl)) (sameOwn (hw _ (List.mem_of_getElem? (i := 66) rfl)) (hw _ (List.mem_of_getElem? (i := 85) rfl)) rfl (by decide)) (hw _ (List.mem_of_getElem? (i := 67) rfl)) (hw _ (List.mem_of_getElem? (i := 49) rfl)) (hw _ (List.mem_of_getElem? (i := 69) rfl)) (inD (i := 0) rfl) (c_aa16_14_2 hw a t s r y0 y1 y2 y3 y4 y5 y6 y7 y8 y9 y10 y11 y12 y13 z0 z1 cpt hCS hcpt) pdg_11 rfl (argsL := [.ref s]) (rest := []) rfl rfl (Dr := []) rfl (eS (Or.inl (List.mem_of_getElem? (i := 0) rfl)) (eS (Or.inl (List.mem_of_getElem? (i := 1) rfl)) eN)) (G := ?_)
  rintro _ _ _ ⟨u, rfl, rfl, rfl⟩
  refine Go.norm (D2 := [(a, .inl ("java/lang/StringBuilder", [("java/lang/AbstractStringBuilder", "value", "[B", .ref u), ("java/lang/AbstractStringBuilder", "coder", "B", .int 0), ("java/lang/AbstractStringBuilder", "count", "I", .int 16)])), (u, .inr (.byte, [.int y0, .int y1, .int y2, .int y3, .int y4, .int y5, .int y6, .int y7, .int y8, .int y9, .int y10, .int y11, .int y12, .int y13, .int z0, .int z1]))]) (S2 := [(s, .inl ("java/lang/String", [("java/lang/String", "value", "[B", .ref r), ("java/lang/String", "coder", "B", .int 0)])), (r, .inr (.byte, [.int z0, .int z1]))]) (c2 := 0) (s2 := 0) (st2 := [.ref a]) ?_
  refine Go.pop d17_5 (G := ?_)
  refine Go.aloadN d17_6 rfl (G := ?_)
  refine Go.sub [0, 1] (by decide) rfl (D' := [(a, .inl ("java/lang/StringBuilder", [("java/lang/AbstractStringBuilder", "value", "[B", .ref u), ("java/lang/AbstractStringBuilder", "coder", "B", .int 0), ("java/lang/AbstractStringBuilder", "count", "I", .int 16)])), (u, .inr (.byte, [.int y0, .int y1, .int y2, .int y3, .int y4, .int y5, .int y6, .int y7, .int y8, .int y9, .int y10, .int y11, .int y12, .int y13, .int z0, .int z1]))]) rfl (S' := []) eN (G := ?_)
  exact Go.retA d17_7 ⟨u, rfl, rfl, rfl⟩
theorem d18_0 : Dx jdk_29_method_65_code 0 (.iload_n 0) 1 1 := ⟨by decide +kernel, rfl⟩
theorem d18_1 : Dx jdk_29_method_65_code 1 (.iload_n 1) 1 2 := ⟨by decide +kernel, rfl⟩
theorem d18_2 : Dx jdk_29_method_65_code 2 (.if_icmp .lt 7) 3 5 := ⟨by decide +kernel, rfl⟩
theorem d18_5 : Dx jdk_29_method_65_code 5 (.iload_n 0) 1 6 := ⟨by decide +kernel, rfl⟩
theorem d18_6 : Dx jdk_29_method_65_code 6 (.goto 4) 3 9 := ⟨by decide +kernel, rfl⟩
theorem d18_9 : Dx jdk_29_method_65_code 9 (.iload_n 1) 1 10 := ⟨by decide +kernel, rfl⟩
theorem d18_10 : Dx jdk_29_method_65_code 10 (.ireturn) 1 11 := ⟨by decide +kernel, rfl⟩
set_option maxRecDepth 65536 in
set_option maxHeartbeats 40000000 in
theorem c_max_2_18 {l : Launch} {Z : State} {a0 : Array Value} {EL : List (String × Nat)} {b : Bool} {n0 : Nat} (hw : ∀ d ∈ tables_1, d.before a0 Z = true)  :
    Met l Z a0 EL b n0 (⟨"java/lang/Math", "max", "(II)I"⟩ : MethodName) jdk_29_method_65_code 2 (some .int) [] (rm4 0 0 0 0) [.int 2, .int 18] [] [] (fun v D' S' => v = some (.int 18) ∧ D' = [] ∧ S' = []) := by
  refine Met.of_go (own := "java/lang/Math") (nm := "max") (Ls := #[.val (.int 2), .val (.int 18)]) (by decide +kernel) (fun m => by first | (simp [entryFrame, mkF, argsToLocals, Value.category]; done) | rfl) ?_
  refine Go.iloadN d18_0 rfl (G := ?_)
  refine Go.iloadN d18_1 rfl (G := ?_)
  refine Go.icmp d18_2 (pc2 := 9) (Gy := fun _ => ?_) (Gn := fun h => absurd (show (2 : Int32) < 18 by decide) h)
  refine Go.iloadN d18_9 rfl (G := ?_)
  exact Go.retI d18_10 ⟨rfl, rfl, rfl⟩
theorem d19_0 : Dx jdk_29_method_69_code 0 (.iload_n 0) 1 1 := ⟨by decide +kernel, rfl⟩
theorem d19_1 : Dx jdk_29_method_69_code 1 (.iload_n 1) 1 2 := ⟨by decide +kernel, rfl⟩
theorem d19_2 : Dx jdk_29_method_69_code 2 (.if_icmp .gt 7) 3 5 := ⟨by decide +kernel, rfl⟩
theorem d19_5 : Dx jdk_29_method_69_code 5 (.iload_n 0) 1 6 := ⟨by decide +kernel, rfl⟩
theorem d19_6 : Dx jdk_29_method_69_code 6 (.goto 4) 3 9 := ⟨by decide +kernel, rfl⟩
theorem d19_9 : Dx jdk_29_method_69_code 9 (.iload_n 1) 1 10 := ⟨by decide +kernel, rfl⟩
theorem d19_10 : Dx jdk_29_method_69_code 10 (.ireturn) 1 11 := ⟨by decide +kernel, rfl⟩
set_option maxRecDepth 65536 in
set_option maxHeartbeats 40000000 in
theorem c_min_16_34 {l : Launch} {Z : State} {a0 : Array Value} {EL : List (String × Nat)} {b : Bool} {n0 : Nat} (hw : ∀ d ∈ tables_1, d.before a0 Z = true)  :
    Met l Z a0 EL b n0 (⟨"java/lang/Math", "min", "(II)I"⟩ : MethodName) jdk_29_method_69_code 2 (some .int) [] (rm4 0 0 0 0) [.int 16, .int 34] [] [] (fun v D' S' => v = some (.int 16) ∧ D' = [] ∧ S' = []) := by
  refine Met.of_go (own := "java/lang/Math") (nm := "min") (Ls := #[.val (.int 16), .val (.int 34)]) (by decide +kernel) (fun m => by first | (simp [entryFrame, mkF, argsToLocals, Value.category]; done) | rfl) ?_
  refine Go.iloadN d19_0 rfl (G := ?_)
  refine Go.iloadN d19_1 rfl (G := ?_)
  refine Go.icmp d19_2 (pc2 := 9) (Gy := fun h => absurd h (show ¬ ((34 : Int32) < 16) by decide)) (Gn := fun _ => ?_)
  refine Go.iloadN d19_5 rfl (G := ?_)
  refine Go.goto d19_6 (pc2 := 10) (G := ?_)
  exact Go.retI d19_10 ⟨rfl, rfl, rfl⟩
theorem png_5 : plainName "jdk/internal/util/ArraysSupport" = true := by first | (simp [plainName, overriddenIn]; done) | decide +kernel
theorem d20_0 : Dx jdk_48_method_27_code 0 (.iload_n 0) 1 1 := ⟨by decide +kernel, rfl⟩
theorem d20_1 : Dx jdk_48_method_27_code 1 (.iload_n 1) 1 2 := ⟨by decide +kernel, rfl⟩
theorem d20_2 : Dx jdk_48_method_27_code 2 (.iload_n 2) 1 3 := ⟨by decide +kernel, rfl⟩
theorem d20_3 : Dx jdk_48_method_27_code 3 (.invokestatic 194) 3 6 := ⟨by decide +kernel, rfl⟩
theorem d20_6 : Dx jdk_48_method_27_code 6 (.iadd) 1 7 := ⟨by decide +kernel, rfl⟩
theorem d20_7 : Dx jdk_48_method_27_code 7 (.istore_n 3) 1 8 := ⟨by decide +kernel, rfl⟩
theorem d20_8 : Dx jdk_48_method_27_code 8 (.iconst 0) 1 9 := ⟨by decide +kernel, rfl⟩
theorem d20_9 : Dx jdk_48_method_27_code 9 (.iload_n 3) 1 10 := ⟨by decide +kernel, rfl⟩
theorem d20_10 : Dx jdk_48_method_27_code 10 (.if_icmp .ge 11) 3 13 := ⟨by decide +kernel, rfl⟩
theorem d20_13 : Dx jdk_48_method_27_code 13 (.iload_n 3) 1 14 := ⟨by decide +kernel, rfl⟩
theorem d20_14 : Dx jdk_48_method_27_code 14 (.ldc 200) 2 16 := ⟨by decide +kernel, rfl⟩
theorem d20_16 : Dx jdk_48_method_27_code 16 (.if_icmp .gt 5) 3 19 := ⟨by decide +kernel, rfl⟩
theorem d20_19 : Dx jdk_48_method_27_code 19 (.iload_n 3) 1 20 := ⟨by decide +kernel, rfl⟩
theorem d20_20 : Dx jdk_48_method_27_code 20 (.ireturn) 1 21 := ⟨by decide +kernel, rfl⟩
theorem d20_21 : Dx jdk_48_method_27_code 21 (.iload_n 0) 1 22 := ⟨by decide +kernel, rfl⟩
theorem d20_22 : Dx jdk_48_method_27_code 22 (.iload_n 1) 1 23 := ⟨by decide +kernel, rfl⟩
theorem d20_23 : Dx jdk_48_method_27_code 23 (.invokestatic 201) 3 26 := ⟨by decide +kernel, rfl⟩
theorem d20_26 : Dx jdk_48_method_27_code 26 (.ireturn) 1 27 := ⟨by decide +kernel, rfl⟩
theorem pdg_12 : parseMethodDescriptor "(II)I" = some ⟨[.int, .int], some .int⟩ := by decide +kernel
set_option maxRecDepth 65536 in
set_option maxHeartbeats 40000000 in
theorem c_nl16_16_2 {l : Launch} {Z : State} {a0 : Array Value} {EL : List (String × Nat)} {b : Bool} {n0 : Nat} (hw : ∀ d ∈ tables_1, d.before a0 Z = true)  :
    Met l Z a0 EL b n0 (⟨"jdk/internal/util/ArraysSupport", "newLength", "(III)I"⟩ : MethodName) jdk_48_method_27_code 4 (some .int) [] (rm4 1 0 0 14) [.int 16, .int 2, .int 18] [] [] (fun v D' S' => v = some (.int 34) ∧ D' = [] ∧ S' = []) := by
  refine Met.of_go (own := "jdk/internal/util/ArraysSupport") (nm := "newLength") (Ls := #[.val (.int 16), .val (.int 2), .val (.int 18), .unset]) (plainFor_of_name png_5) (fun m => by first | (simp [entryFrame, mkF, argsToLocals, Value.category]; done) | rfl) ?_
  refine Go.iloadN d20_0 rfl (G := ?_)
  refine Go.iloadN d20_1 rfl (G := ?_)
  refine Go.iloadN d20_2 rfl (G := ?_)
  refine Go.invokestatic false d20_3 (hw _ (List.mem_of_getElem? (i := 117) rfl)) (hw _ (List.mem_of_getElem? (i := 118) rfl)) (hw _ (List.mem_of_getElem? (i := 119) rfl)) (hw _ (List.mem_of_getElem? (i := 120) rfl)) (c_max_2_18 hw) pdg_12 rfl (argsL := [.int 2, .int 18]) (rest := [.int 16]) rfl rfl (Dr := []) rfl eN (G := ?_)
  rintro _ _ _ ⟨rfl, rfl, rfl⟩
  refine Go.norm (D2 := []) (S2 := []) (c2 := 0) (s2 := 0) (st2 := [.int 18, .int 16]) ?_
  refine Go.iadd d20_6 (z := 34) rfl (G := ?_)
  refine Go.istoreN d20_7 (Ls' := #[.val (.int 16), .val (.int 2), .val (.int 18), .val (.int 34)]) rfl (G := ?_)
  refine Go.iconst d20_8 (v := 0) rfl (G := ?_)
  refine Go.iloadN d20_9 rfl (G := ?_)
  refine Go.icmp d20_10 (pc2 := 21) (Gy := fun h => absurd h (show ¬ (¬ (0 : Int32) < 34) by decide)) (Gn := fun _ => ?_)
  refine Go.iloadN d20_13 rfl (G := ?_)
  refine Go.ldcInt d20_14 (hw _ (List.mem_of_getElem? (i := 121) rfl)) (G := ?_)
  refine Go.icmp d20_16 (pc2 := 21) (Gy := fun h => absurd h (show ¬ ((2147483639 : Int32) < 34) by decide)) (Gn := fun _ => ?_)
  refine Go.iloadN d20_19 rfl (G := ?_)
  exact Go.retI d20_20 ⟨rfl, rfl, rfl⟩
theorem d21_0 : Dx jdk_68_method_10_code 0 (.aload_n 0) 1 1 := ⟨by decide +kernel, rfl⟩
theorem d21_1 : Dx jdk_68_method_10_code 1 (.getfield 15) 3 4 := ⟨by decide +kernel, rfl⟩
theorem d21_4 : Dx jdk_68_method_10_code 4 (.arraylength) 1 5 := ⟨by decide +kernel, rfl⟩
theorem d21_5 : Dx jdk_68_method_10_code 5 (.istore_n 2) 1 6 := ⟨by decide +kernel, rfl⟩
theorem d21_6 : Dx jdk_68_method_10_code 6 (.iload_n 1) 1 7 := ⟨by decide +kernel, rfl⟩
theorem d21_7 : Dx jdk_68_method_10_code 7 (.aload_n 0) 1 8 := ⟨by decide +kernel, rfl⟩
theorem d21_8 : Dx jdk_68_method_10_code 8 (.getfield 22) 3 11 := ⟨by decide +kernel, rfl⟩
theorem d21_11 : Dx jdk_68_method_10_code 11 (.ishl) 1 12 := ⟨by decide +kernel, rfl⟩
theorem d21_12 : Dx jdk_68_method_10_code 12 (.istore_n 3) 1 13 := ⟨by decide +kernel, rfl⟩
theorem d21_13 : Dx jdk_68_method_10_code 13 (.iload_n 3) 1 14 := ⟨by decide +kernel, rfl⟩
theorem d21_14 : Dx jdk_68_method_10_code 14 (.iload_n 2) 1 15 := ⟨by decide +kernel, rfl⟩
theorem d21_15 : Dx jdk_68_method_10_code 15 (.isub) 1 16 := ⟨by decide +kernel, rfl⟩
theorem d21_16 : Dx jdk_68_method_10_code 16 (.istore 4) 2 18 := ⟨by decide +kernel, rfl⟩
theorem d21_18 : Dx jdk_68_method_10_code 18 (.iload_n 2) 1 19 := ⟨by decide +kernel, rfl⟩
theorem d21_19 : Dx jdk_68_method_10_code 19 (.iload 4) 2 21 := ⟨by decide +kernel, rfl⟩
theorem d21_21 : Dx jdk_68_method_10_code 21 (.iload_n 2) 1 22 := ⟨by decide +kernel, rfl⟩
theorem d21_22 : Dx jdk_68_method_10_code 22 (.iconst 2) 1 23 := ⟨by decide +kernel, rfl⟩
theorem d21_23 : Dx jdk_68_method_10_code 23 (.aload_n 0) 1 24 := ⟨by decide +kernel, rfl⟩
theorem d21_24 : Dx jdk_68_method_10_code 24 (.getfield 22) 3 27 := ⟨by decide +kernel, rfl⟩
theorem d21_27 : Dx jdk_68_method_10_code 27 (.ishl) 1 28 := ⟨by decide +kernel, rfl⟩
theorem d21_28 : Dx jdk_68_method_10_code 28 (.iadd) 1 29 := ⟨by decide +kernel, rfl⟩
theorem d21_29 : Dx jdk_68_method_10_code 29 (.invokestatic 114) 3 32 := ⟨by decide +kernel, rfl⟩
theorem d21_32 : Dx jdk_68_method_10_code 32 (.istore 5) 2 34 := ⟨by decide +kernel, rfl⟩
theorem d21_34 : Dx jdk_68_method_10_code 34 (.iload 5) 2 36 := ⟨by decide +kernel, rfl⟩
theorem d21_36 : Dx jdk_68_method_10_code 36 (.ldc 39) 2 38 := ⟨by decide +kernel, rfl⟩
theorem d21_38 : Dx jdk_68_method_10_code 38 (.if_icmp .ne 13) 3 41 := ⟨by decide +kernel, rfl⟩
theorem d21_41 : Dx jdk_68_method_10_code 41 (.new 120) 3 44 := ⟨by decide +kernel, rfl⟩
theorem d21_44 : Dx jdk_68_method_10_code 44 (.dup) 1 45 := ⟨by decide +kernel, rfl⟩
theorem d21_45 : Dx jdk_68_method_10_code 45 (.ldc 122) 2 47 := ⟨by decide +kernel, rfl⟩
theorem d21_47 : Dx jdk_68_method_10_code 47 (.invokespecial 124) 3 50 := ⟨by decide +kernel, rfl⟩
theorem d21_50 : Dx jdk_68_method_10_code 50 (.athrow) 1 51 := ⟨by decide +kernel, rfl⟩
theorem d21_51 : Dx jdk_68_method_10_code 51 (.iload 5) 2 53 := ⟨by decide +kernel, rfl⟩
theorem d21_53 : Dx jdk_68_method_10_code 53 (.aload_n 0) 1 54 := ⟨by decide +kernel, rfl⟩
theorem d21_54 : Dx jdk_68_method_10_code 54 (.getfield 22) 3 57 := ⟨by decide +kernel, rfl⟩
theorem d21_57 : Dx jdk_68_method_10_code 57 (.ishr) 1 58 := ⟨by decide +kernel, rfl⟩
theorem d21_58 : Dx jdk_68_method_10_code 58 (.ireturn) 1 59 := ⟨by decide +kernel, rfl⟩
theorem pdg_13 : parseMethodDescriptor "(III)I" = some ⟨[.int, .int, .int], some .int⟩ := by decide +kernel
set_option maxRecDepth 65536 in
set_option maxHeartbeats 40000000 in
theorem c_nc16_16_2 {l : Launch} {Z : State} {a0 : Array Value} {EL : List (String × Nat)} {b : Bool} {n0 : Nat} (hw : ∀ d ∈ tables_1, d.before a0 Z = true) (a t : Addr) (y0 y1 y2 y3 y4 y5 y6 y7 y8 y9 y10 y11 y12 y13 y14 y15 : Int32) :
    Met l Z a0 EL b n0 (⟨"java/lang/AbstractStringBuilder", "newCapacity", "(I)I"⟩ : MethodName) jdk_68_method_10_code 6 (some .int) [] (rm4 2 0 0 29) [.ref a, .int 18] [] [(a, .inl ("java/lang/StringBuilder", [("java/lang/AbstractStringBuilder", "value", "[B", .ref t), ("java/lang/AbstractStringBuilder", "coder", "B", .int 0), ("java/lang/AbstractStringBuilder", "count", "I", .int 16)])), (t, .inr (.byte, [.int y0, .int y1, .int y2, .int y3, .int y4, .int y5, .int y6, .int y7, .int y8, .int y9, .int y10, .int y11, .int y12, .int y13, .int y14, .int y15]))] (fun v D' S' => v = some (.int 34) ∧ D' = [] ∧ S' = []) := by
  refine Met.of_go (own := "java/lang/AbstractStringBuilder") (nm := "newCapacity") (Ls := #[.val (.ref a), .val (.int 18), .unset, .unset, .unset, .unset]) (plainFor_of_name png_3) (fun m => by first | (simp [entryFrame, mkF, argsToLocals, Value.category]; done) | rfl) ?_
  refine Go.aloadN d21_0 rfl (G := ?_)
  refine Go.getfield d21_1 (host := "") (Or.inl (hw _ (List.mem_of_getElem? (i := 53) rfl))) Via.refl (inS (i := 0) rfl) 0 rfl (G := ?_)
  refine Go.arraylength d21_4 (inS (i := 1) rfl) (n := 16) rfl (G := ?_)
  refine Go.istoreN d21_5 (Ls' := #[.val (.ref a), .val (.int 18), .val (.int 16), .unset, .unset, .unset]) rfl (G := ?_)
  refine Go.iloadN d21_6 rfl (G := ?_)
  refine Go.aloadN d21_7 rfl (G := ?_)
  refine Go.getfield d21_8 (host := "") (Or.inl (hw _ (List.mem_of_getElem? (i := 55) rfl))) Via.refl (inS (i := 0) rfl) 1 rfl (G := ?_)
  refine Go.ishl d21_11 (z := 18) rfl (G := ?_)
  refine Go.istoreN d21_12 (Ls' := #[.val (.ref a), .val (.int 18), .val (.int 16), .val (.int 18), .unset, .unset]) rfl (G := ?_)
  refine Go.iloadN d21_13 rfl (G := ?_)
  refine Go.iloadN d21_14 rfl (G := ?_)
  refine Go.isub d21_15 (z := 2) rfl (G := ?_)
  refine Go.istore d21_16 (Ls' := #[.val (.ref a), .val (.int 18), .val (.int 16), .val (.int 18), .val (.int 2), .unset]) rfl (G := ?_)
  refine Go.iloadN d21_18 rfl (G := ?_)
  refine Go.iload d21_19 rfl (G := ?_)
  refine Go.iloadN d21_21 rfl (G := ?_)
  refine Go.iconst d21_22 (v := 2) rfl (G := ?_)
  refine Go.aloadN d21_23 rfl (G := ?_)
  refine Go.getfield d21_24 (host := "") (Or.inl (hw _ (List.mem_of_getElem? (i := 55) rfl))) Via.refl (inS (i := 0) rfl) 1 rfl (G := ?_)
  refine Go.ishl d21_27 (z := 2) rfl (G := ?_)
  refine Go.iadd d21_28 (z := 18) rfl (G := ?_)
  refine Go.invokestatic false d21_29 (hw _ (List.mem_of_getElem? (i := 113) rfl)) (hw _ (List.mem_of_getElem? (i := 114) rfl)) (hw _ (List.mem_of_getElem? (i := 115) rfl)) (hw _ (List.mem_of_getElem? (i := 116) rfl)) (c_nl16_16_2 hw) pdg_13 rfl (argsL := [.int 16, .int 2, .int 18]) (rest := []) rfl rfl (Dr := []) rfl eN (G := ?_)
  rintro _ _ _ ⟨rfl, rfl, rfl⟩
  refine Go.norm (D2 := []) (S2 := [(a, .inl ("java/lang/StringBuilder", [("java/lang/AbstractStringBuilder", "value", "[B", .ref t), ("java/lang/AbstractStringBuilder", "coder", "B", .int 0), ("java/lang/AbstractStringBuilder", "count", "I", .int 16)])), (t, .inr (.byte, [.int y0, .int y1, .int y2, .int y3, .int y4, .int y5, .int y6, .int y7, .int y8, .int y9, .int y10, .int y11, .int y12, .int y13, .int y14, .int y15]))]) (c2 := 0) (s2 := 0) (st2 := [.int 34]) ?_
  refine Go.istore d21_32 (Ls' := #[.val (.ref a), .val (.int 18), .val (.int 16), .val (.int 18), .val (.int 2), .val (.int 34)]) rfl (G := ?_)
  refine Go.iload d21_34 rfl (G := ?_)
  refine Go.ldcInt d21_36 (hw _ (List.mem_of_getElem? (i := 122) rfl)) (G := ?_)
  refine Go.icmp d21_38 (pc2 := 51) (Gy := fun _ => ?_) (Gn := fun h => absurd (show ¬ (34 : Int32) = 2147483647 by decide) h)
  refine Go.iload d21_51 rfl (G := ?_)
  refine Go.aloadN d21_53 rfl (G := ?_)
  refine Go.getfield d21_54 (host := "") (Or.inl (hw _ (List.mem_of_getElem? (i := 55) rfl))) Via.refl (inS (i := 0) rfl) 1 rfl (G := ?_)
  refine Go.ishr d21_57 (z := 34) rfl (G := ?_)
  refine Go.sub [] (by decide) rfl (D' := []) rfl (S' := []) eN (G := ?_)
  exact Go.retI d21_58 ⟨rfl, rfl, rfl⟩
theorem png_6 : plainName "java/util/Arrays" = true := by first | (simp [plainName, overriddenIn]; done) | decide +kernel
theorem d22_0 : Dx jdk_65_method_121_code 0 (.iload_n 1) 1 1 := ⟨by decide +kernel, rfl⟩
theorem d22_1 : Dx jdk_65_method_121_code 1 (.aload_n 0) 1 2 := ⟨by decide +kernel, rfl⟩
theorem d22_2 : Dx jdk_65_method_121_code 2 (.arraylength) 1 3 := ⟨by decide +kernel, rfl⟩
theorem d22_3 : Dx jdk_65_method_121_code 3 (.if_icmp .ne 11) 3 6 := ⟨by decide +kernel, rfl⟩
theorem d22_6 : Dx jdk_65_method_121_code 6 (.aload_n 0) 1 7 := ⟨by decide +kernel, rfl⟩
theorem d22_7 : Dx jdk_65_method_121_code 7 (.invokevirtual 310) 3 10 := ⟨by decide +kernel, rfl⟩
theorem d22_10 : Dx jdk_65_method_121_code 10 (.checkcast 311) 3 13 := ⟨by decide +kernel, rfl⟩
theorem d22_13 : Dx jdk_65_method_121_code 13 (.areturn) 1 14 := ⟨by decide +kernel, rfl⟩
theorem d22_14 : Dx jdk_65_method_121_code 14 (.iload_n 1) 1 15 := ⟨by decide +kernel, rfl⟩
theorem d22_15 : Dx jdk_65_method_121_code 15 (.newarray .byte) 2 17 := ⟨by decide +kernel, rfl⟩
theorem d22_17 : Dx jdk_65_method_121_code 17 (.astore_n 2) 1 18 := ⟨by decide +kernel, rfl⟩
theorem d22_18 : Dx jdk_65_method_121_code 18 (.aload_n 0) 1 19 := ⟨by decide +kernel, rfl⟩
theorem d22_19 : Dx jdk_65_method_121_code 19 (.iconst 0) 1 20 := ⟨by decide +kernel, rfl⟩
theorem d22_20 : Dx jdk_65_method_121_code 20 (.aload_n 2) 1 21 := ⟨by decide +kernel, rfl⟩
theorem d22_21 : Dx jdk_65_method_121_code 21 (.iconst 0) 1 22 := ⟨by decide +kernel, rfl⟩
theorem d22_22 : Dx jdk_65_method_121_code 22 (.aload_n 0) 1 23 := ⟨by decide +kernel, rfl⟩
theorem d22_23 : Dx jdk_65_method_121_code 23 (.arraylength) 1 24 := ⟨by decide +kernel, rfl⟩
theorem d22_24 : Dx jdk_65_method_121_code 24 (.iload_n 1) 1 25 := ⟨by decide +kernel, rfl⟩
theorem d22_25 : Dx jdk_65_method_121_code 25 (.invokestatic 304) 3 28 := ⟨by decide +kernel, rfl⟩
theorem d22_28 : Dx jdk_65_method_121_code 28 (.invokestatic 150) 3 31 := ⟨by decide +kernel, rfl⟩
theorem d22_31 : Dx jdk_65_method_121_code 31 (.aload_n 2) 1 32 := ⟨by decide +kernel, rfl⟩
theorem d22_32 : Dx jdk_65_method_121_code 32 (.areturn) 1 33 := ⟨by decide +kernel, rfl⟩
set_option maxRecDepth 65536 in
set_option maxHeartbeats 40000000 in
theorem c_co16_16_2 {l : Launch} {Z : State} {a0 : Array Value} {EL : List (String × Nat)} {b : Bool} {n0 : Nat} (hw : ∀ d ∈ tables_1, d.before a0 Z = true) (t : Addr) (y0 y1 y2 y3 y4 y5 y6 y7 y8 y9 y10 y11 y12 y13 y14 y15 : Int32) :
    Met l Z a0 EL b n0 (⟨"java/util/Arrays", "copyOf", "([BI)[B"⟩ : MethodName) jdk_65_method_121_code 3 (some (.array .byte)) [] (rm4 1 1 34 18) [.ref t, .int 34] [] [(t, .inr (.byte, [.int y0, .int y1, .int y2, .int y3, .int y4, .int y5, .int y6, .int y7, .int y8, .int y9, .int y10, .int y11, .int y12, .int y13, .int y14, .int y15]))] (fun v D' S' => ∃ u, v = some (.ref u) ∧ D' = [(u, .inr (.byte, [.int y0, .int y1, .int y2, .int y3, .int y4, .int y5, .int y6, .int y7, .int y8, .int y9, .int y10, .int y11, .int y12, .int y13, .int y14, .int y15, .int 0, .int 0, .int 0, .int 0, .int 0, .int 0, .int 0, .int 0, .int 0, .int 0, .int 0, .int 0, .int 0, .int 0, .int 0, .int 0, .int 0, .int 0]))] ∧ S' = []) := by
  refine Met.of_go (own := "java/util/Arrays") (nm := "copyOf") (Ls := #[.val (.ref t), .val (.int 34), .unset]) (plainFor_of_name png_6) (fun m => by first | (simp [entryFrame, mkF, argsToLocals, Value.category]; done) | rfl) ?_
  refine Go.iloadN d22_0 rfl (G := ?_)
  refine Go.aloadN d22_1 rfl (G := ?_)
  refine Go.arraylength d22_2 (inS (i := 0) rfl) (n := 16) rfl (G := ?_)
  refine Go.icmp d22_3 (pc2 := 14) (Gy := fun _ => ?_) (Gn := fun h => absurd (show ¬ (34 : Int32) = 16 by decide) h)
  refine Go.iloadN d22_14 rfl (G := ?_)
  refine Go.newarray d22_15 (hw _ (List.mem_of_getElem? (i := 19) rfl)) (k := 34) rfl (by decide) (by decide) (vs := [.int 0, .int 0, .int 0, .int 0, .int 0, .int 0, .int 0, .int 0, .int 0, .int 0, .int 0, .int 0, .int 0, .int 0, .int 0, .int 0, .int 0, .int 0, .int 0, .int 0, .int 0, .int 0, .int 0, .int 0, .int 0, .int 0, .int 0, .int 0, .int 0, .int 0, .int 0, .int 0, .int 0, .int 0]) rfl (G := fun o1 => ?_)
  refine Go.astoreN d22_17 (Ls' := #[.val (.ref t), .val (.int 34), .val (.ref o1)]) rfl (G := ?_)
  refine Go.aloadN d22_18 rfl (G := ?_)
  refine Go.iconst d22_19 (v := 0) rfl (G := ?_)
  refine Go.aloadN d22_20 rfl (G := ?_)
  refine Go.iconst d22_21 (v := 0) rfl (G := ?_)
  refine Go.aloadN d22_22 rfl (G := ?_)
  refine Go.arraylength d22_23 (inS (i := 0) rfl) (n := 16) rfl (G := ?_)
  refine Go.iloadN d22_24 rfl (G := ?_)
  refine Go.invokestatic false d22_25 (hw _ (List.mem_of_getElem? (i := 127) rfl)) (hw _ (List.mem_of_getElem? (i := 128) rfl)) (hw _ (List.mem_of_getElem? (i := 119) rfl)) (hw _ (List.mem_of_getElem? (i := 129) rfl)) (c_min_16_34 hw) pdg_12 rfl (argsL := [.int 16, .int 34]) (rest := [.int 0, .ref o1, .int 0, .ref t]) rfl rfl (Dr := [(o1, .inr (.byte, [.int 0, .int 0, .int 0, .int 0, .int 0, .int 0, .int 0, .int 0, .int 0, .int 0, .int 0, .int 0, .int 0, .int 0, .int 0, .int 0, .int 0, .int 0, .int 0, .int 0, .int 0, .int 0, .int 0, .int 0, .int 0, .int 0, .int 0, .int 0, .int 0, .int 0, .int 0, .int 0, .int 0, .int 0]))]) rfl eN (G := ?_)
  rintro _ _ _ ⟨rfl, rfl, rfl⟩
  refine Go.norm (D2 := [(o1, .inr (.byte, [.int 0, .int 0, .int 0, .int 0, .int 0, .int 0, .int 0, .int 0, .int 0, .int 0, .int 0, .int 0, .int 0, .int 0, .int 0, .int 0, .int 0, .int 0, .int 0, .int 0, .int 0, .int 0, .int 0, .int 0, .int 0, .int 0, .int 0, .int 0, .int 0, .int 0, .int 0, .int 0, .int 0, .int 0]))]) (S2 := [(t, .inr (.byte, [.int y0, .int y1, .int y2, .int y3, .int y4, .int y5, .int y6, .int y7, .int y8, .int y9, .int y10, .int y11, .int y12, .int y13, .int y14, .int y15]))]) (c2 := 1) (s2 := 34) (st2 := [.int 16, .int 0, .ref o1, .int 0, .ref t]) ?_
  refine Go.arraycopy d22_28 (hw _ (List.mem_of_getElem? (i := 130) rfl)) (hw _ (List.mem_of_getElem? (i := 106) rfl)) (hw _ (List.mem_of_getElem? (i := 104) rfl)) (hw _ (List.mem_of_getElem? (i := 105) rfl)) (inS (i := 0) rfl) 0 rfl rfl (by decide) (by decide) (by decide) (Nat.le_of_ble_eq_true rfl) (Nat.le_of_ble_eq_true rfl) (D' := [(o1, .inr (.byte, [.int y0, .int y1, .int y2, .int y3, .int y4, .int y5, .int y6, .int y7, .int y8, .int y9, .int y10, .int y11, .int y12, .int y13, .int y14, .int y15, .int 0, .int 0, .int 0, .int 0, .int 0, .int 0, .int 0, .int 0, .int 0, .int 0, .int 0, .int 0, .int 0, .int 0, .int 0, .int 0, .int 0, .int 0]))]) rfl (G := ?_)
  refine Go.aloadN d22_31 rfl (G := ?_)
  refine Go.sub [0] (by decide) rfl (D' := [(o1, .inr (.byte, [.int y0, .int y1, .int y2, .int y3, .int y4, .int y5, .int y6, .int y7, .int y8, .int y9, .int y10, .int y11, .int y12, .int y13, .int y14, .int y15, .int 0, .int 0, .int 0, .int 0, .int 0, .int 0, .int 0, .int 0, .int 0, .int 0, .int 0, .int 0, .int 0, .int 0, .int 0, .int 0, .int 0, .int 0]))]) rfl (S' := []) eN (G := ?_)
  exact Go.retA d22_32 ⟨o1, rfl, rfl, rfl⟩
theorem pdg_14 : parseMethodDescriptor "(I)I" = some ⟨[.int], some .int⟩ := by decide +kernel
theorem pdg_15 : parseMethodDescriptor "([BI)[B" = some ⟨[.array .byte, .int], some (.array .byte)⟩ := by decide +kernel
set_option maxRecDepth 65536 in
set_option maxHeartbeats 40000000 in
theorem c_ec16_16_2 {l : Launch} {Z : State} {a0 : Array Value} {EL : List (String × Nat)} {b : Bool} {n0 : Nat} (hw : ∀ d ∈ tables_1, d.before a0 Z = true) (a t : Addr) (y0 y1 y2 y3 y4 y5 y6 y7 y8 y9 y10 y11 y12 y13 y14 y15 : Int32) :
    Met l Z a0 EL b n0 (⟨"java/lang/AbstractStringBuilder", "ensureCapacityInternal", "(I)V"⟩ : MethodName) jdk_68_method_9_code 3 none [] (rm4 3 1 34 48) [.ref a, .int 18] [(a, .inl ("java/lang/StringBuilder", [("java/lang/AbstractStringBuilder", "value", "[B", .ref t), ("java/lang/AbstractStringBuilder", "coder", "B", .int 0), ("java/lang/AbstractStringBuilder", "count", "I", .int 16)])), (t, .inr (.byte, [.int y0, .int y1, .int y2, .int y3, .int y4, .int y5, .int y6, .int y7, .int y8, .int y9, .int y10, .int y11, .int y12, .int y13, .int y14, .int y15]))] [] (fun v D' S' => ∃ u, v = none ∧ D' = [(a, .inl ("java/lang/StringBuilder", [("java/lang/AbstractStringBuilder", "value", "[B", .ref u), ("java/lang/AbstractStringBuilder", "coder", "B", .int 0), ("java/lang/AbstractStringBuilder", "count", "I", .int 16)])), (u, .inr (.byte, [.int y0, .int y1, .int y2, .int y3, .int y4, .int y5, .int y6, .int y7, .int y8, .int y9, .int y10, .int y11, .int y12, .int y13, .int y14, .int y15, .int 0, .int 0, .int 0, .int 0, .int 0, .int 0, .int 0, .int 0, .int 0, .int 0, .int 0, .int 0, .int 0, .int 0, .int 0, .int 0, .int 0, .int 0]))] ∧ S' = []) := by
  refine Met.of_go (own := "java/lang/AbstractStringBuilder") (nm := "ensureCapacityInternal") (Ls := #[.val (.ref a), .val (.int 18), .unset]) (plainFor_of_name png_3) (fun m => by first | (simp [entryFrame, mkF, argsToLocals, Value.category]; done) | rfl) ?_
  refine Go.aloadN d12_0 rfl (G := ?_)
  refine Go.getfield d12_1 (host := "") (Or.inl (hw _ (List.mem_of_getElem? (i := 53) rfl))) Via.refl (inD (i := 0) rfl) 0 rfl (G := ?_)
  refine Go.arraylength d12_4 (inD (i := 1) rfl) (n := 16) rfl (G := ?_)
  refine Go.aloadN d12_5 rfl (G := ?_)
  refine Go.getfield d12_6 (host := "") (Or.inl (hw _ (List.mem_of_getElem? (i := 55) rfl))) Via.refl (inD (i := 0) rfl) 1 rfl (G := ?_)
  refine Go.ishr d12_9 (z := 16) rfl (G := ?_)
  refine Go.istoreN d12_10 (Ls' := #[.val (.ref a), .val (.int 18), .val (.int 16)]) rfl (G := ?_)
  refine Go.iloadN d12_11 rfl (G := ?_)
  refine Go.iloadN d12_12 rfl (G := ?_)
  refine Go.isub d12_13 (z := 2) rfl (G := ?_)
  refine Go.ifc d12_14 (pc2 := 38) (Gy := fun h => absurd h (show ¬ (¬ (0 : Int32) < 2) by decide)) (Gn := fun _ => ?_)
  refine Go.aloadN d12_17 rfl (G := ?_)
  refine Go.aloadN d12_18 rfl (G := ?_)
  refine Go.getfield d12_19 (host := "") (Or.inl (hw _ (List.mem_of_getElem? (i := 53) rfl))) Via.refl (inD (i := 0) rfl) 0 rfl (G := ?_)
  refine Go.aloadN d12_22 rfl (G := ?_)
  refine Go.iloadN d12_23 rfl (G := ?_)
  refine Go.invokeprivateG true d12_24 (hw _ (List.mem_of_getElem? (i := 108) rfl)) (hw _ (List.mem_of_getElem? (i := 109) rfl)) (hw _ (List.mem_of_getElem? (i := 111) rfl)) (hw _ (List.mem_of_getElem? (i := 110) rfl)) (hw _ (List.mem_of_getElem? (i := 49) rfl)) (hw _ (List.mem_of_getElem? (i := 112) rfl)) (inD (i := 0) rfl) (c_nc16_16_2 hw a t y0 y1 y2 y3 y4 y5 y6 y7 y8 y9 y10 y11 y12 y13 y14 y15) pdg_14 rfl (argsL := [.int 18]) (rest := [.ref t, .ref a]) rfl rfl (Dr := [(a, .inl ("java/lang/StringBuilder", [("java/lang/AbstractStringBuilder", "value", "[B", .ref t), ("java/lang/AbstractStringBuilder", "coder", "B", .int 0), ("java/lang/AbstractStringBuilder", "count", "I", .int 16)])), (t, .inr (.byte, [.int y0, .int y1, .int y2, .int y3, .int y4, .int y5, .int y6, .int y7, .int y8, .int y9, .int y10, .int y11, .int y12, .int y13, .int y14, .int y15]))]) rfl (eS (Or.inr ⟨rfl, List.mem_of_getElem? (i := 0) rfl⟩) (eS (Or.inr ⟨rfl, List.mem_of_getElem? (i := 1) rfl⟩) eN)) (G := ?_)
  rintro _ _ _ ⟨rfl, rfl, rfl⟩
  refine Go.norm (D2 := [(a, .inl ("java/lang/StringBuilder", [("java/lang/AbstractStringBuilder", "value", "[B", .ref t), ("java/lang/AbstractStringBuilder", "coder", "B", .int 0), ("java/lang/AbstractStringBuilder", "count", "I", .int 16)])), (t, .inr (.byte, [.int y0, .int y1, .int y2, .int y3, .int y4, .int y5, .int y6, .int y7, .int y8, .int y9, .int y10, .int y11, .int y12, .int y13, .int y14, .int y15]))]) (S2 := []) (c2 := 0) (s2 := 0) (st2 := [.int 34, .ref t, .ref a]) ?_
  refine Go.aloadN d12_27 rfl (G := ?_)
  refine Go.getfield d12_28 (host := "") (Or.inl (hw _ (List.mem_of_getElem? (i := 55) rfl))) Via.refl (inD (i := 0) rfl) 1 rfl (G := ?_)
  refine Go.ishl d12_31 (z := 34) rfl (G := ?_)
  refine Go.invokestatic true d12_32 (hw _ (List.mem_of_getElem? (i := 123) rfl)) (hw _ (List.mem_of_getElem? (i := 124) rfl)) (hw _ (List.mem_of_getElem? (i := 125) rfl)) (hw _ (List.mem_of_getElem? (i := 126) rfl)) (c_co16_16_2 hw t y0 y1 y2 y3 y4 y5 y6 y7 y8 y9 y10 y11 y12 y13 y14 y15) pdg_15 rfl (argsL := [.ref t, .int 34]) (rest := [.ref a]) rfl rfl (Dr := [(a, .inl ("java/lang/StringBuilder", [("java/lang/AbstractStringBuilder", "value", "[B", .ref t), ("java/lang/AbstractStringBuilder", "coder", "B", .int 0), ("java/lang/AbstractStringBuilder", "count", "I", .int 16)])), (t, .inr (.byte, [.int y0, .int y1, .int y2, .int y3, .int y4, .int y5, .int y6, .int y7, .int y8, .int y9, .int y10, .int y11, .int y12, .int y13, .int y14, .int y15]))]) rfl (eS (Or.inr ⟨rfl, List.mem_of_getElem? (i := 1) rfl⟩) eN) (G := ?_)
  rintro _ _ _ ⟨u, rfl, rfl, rfl⟩
  refine Go.norm (D2 := [(u, .inr (.byte, [.int y0, .int y1, .int y2, .int y3, .int y4, .int y5, .int y6, .int y7, .int y8, .int y9, .int y10, .int y11, .int y12, .int y13, .int y14, .int y15, .int 0, .int 0, .int 0, .int 0, .int 0, .int 0, .int 0, .int 0, .int 0, .int 0, .int 0, .int 0, .int 0, .int 0, .int 0, .int 0, .int 0, .int 0])), (a, .inl ("java/lang/StringBuilder", [("java/lang/AbstractStringBuilder", "value", "[B", .ref t), ("java/lang/AbstractStringBuilder", "coder", "B", .int 0), ("java/lang/AbstractStringBuilder", "count", "I", .int 16)])), (t, .inr (.byte, [.int y0, .int y1, .int y2, .int y3, .int y4, .int y5, .int y6, .int y7, .int y8, .int y9, .int y10, .int y11, .int y12, .int y13, .int y14, .int y15]))]) (S2 := []) (c2 := 1) (s2 := 34) (st2 := [.ref u, .ref a]) ?_
  refine Go.putfield d12_35 (hw _ (List.mem_of_getElem? (i := 53) rfl)) Via.refl 1 rfl 0 rfl (Or.inl (hw _ (List.mem_of_getElem? (i := 54) rfl))) (hw _ (List.mem_of_getElem? (i := 40) rfl)) (ty := .array .byte) (by decide +kernel) (v' := .ref u) rfl rfl (D' := [(u, .inr (.byte, [.int y0, .int y1, .int y2, .int y3, .int y4, .int y5, .int y6, .int y7, .int y8, .int y9, .int y10, .int y11, .int y12, .int y13, .int y14, .int y15, .int 0, .int 0, .int 0, .int 0, .int 0, .int 0, .int 0, .int 0, .int 0, .int 0, .int 0, .int 0, .int 0, .int 0, .int 0, .int 0, .int 0, .int 0])), (a, .inl ("java/lang/StringBuilder", [("java/lang/AbstractStringBuilder", "value", "[B", .ref u), ("java/lang/AbstractStringBuilder", "coder", "B", .int 0), ("java/lang/AbstractStringBuilder", "count", "I", .int 16)])), (t, .inr (.byte, [.int y0, .int y1, .int y2, .int y3, .int y4, .int y5, .int y6, .int y7, .int y8, .int y9, .int y10, .int y11, .int y12, .int y13, .int y14, .int y15]))]) rfl (G := ?_)
  refine Go.sub [1, 0] (by decide) rfl (D' := [(a, .inl ("java/lang/StringBuilder", [("java/lang/AbstractStringBuilder", "value", "[B", .ref u), ("java/lang/AbstractStringBuilder", "coder", "B", .int 0), ("java/lang/AbstractStringBuilder", "count", "I", .int 16)])), (u, .inr (.byte, [.int y0, .int y1, .int y2, .int y3, .int y4, .int y5, .int y6, .int y7, .int y8, .int y9, .int y10, .int y11, .int y12, .int y13, .int y14, .int y15, .int 0, .int 0, .int 0, .int 0, .int 0, .int 0, .int 0, .int 0, .int 0, .int 0, .int 0, .int 0, .int 0, .int 0, .int 0, .int 0, .int 0, .int 0]))]) rfl (S' := []) eN (G := ?_)
  exact Go.retV d12_38 ⟨u, rfl, rfl, rfl⟩
set_option maxRecDepth 65536 in
set_option maxHeartbeats 40000000 in
theorem c_gb16_16_2 {l : Launch} {Z : State} {a0 : Array Value} {EL : List (String × Nat)} {b : Bool} {n0 : Nat} (hw : ∀ d ∈ tables_1, d.before a0 Z = true) (s r t : Addr) (y0 y1 y2 y3 y4 y5 y6 y7 y8 y9 y10 y11 y12 y13 y14 y15 : Int32) (z0 z1 : Int32) (cpt : Int32) (hCS : Sta Z Z.heap "java/lang/String" "COMPACT_STRINGS" "Z" (.int cpt)) (hcpt : ¬ cpt = 0) :
    Met l Z a0 EL b n0 (⟨"java/lang/String", "getBytes", "([BIB)V"⟩ : MethodName) jdk_42_method_147_code 4 none [] (rm4 1 0 0 18) [.ref s, .ref t, .int 16, .int 0] [(t, .inr (.byte, [.int y0, .int y1, .int y2, .int y3, .int y4, .int y5, .int y6, .int y7, .int y8, .int y9, .int y10, .int y11, .int y12, .int y13, .int y14, .int y15, .int 0, .int 0, .int 0, .int 0, .int 0, .int 0, .int 0, .int 0, .int 0, .int 0, .int 0, .int 0, .int 0, .int 0, .int 0, .int 0, .int 0, .int 0]))] [(s, .inl ("java/lang/String", [("java/lang/String", "value", "[B", .ref r), ("java/lang/String", "coder", "B", .int 0)])), (r, .inr (.byte, [.int z0, .int z1]))] (fun v D' S' => v = none ∧ D' = [(t, .inr (.byte, [.int y0, .int y1, .int y2, .int y3, .int y4, .int y5, .int y6, .int y7, .int y8, .int y9, .int y10, .int y11, .int y12, .int y13, .int y14, .int y15, .int z0, .int z1, .int 0, .int 0, .int 0, .int 0, .int 0, .int 0, .int 0, .int 0, .int 0, .int 0, .int 0, .int 0, .int 0, .int 0, .int 0, .int 0]))] ∧ S' = []) := by
  refine Met.of_go (own := "java/lang/String") (nm := "getBytes") (Ls := #[.val (.ref s), .val (.ref t), .val (.int 16), .val (.int 0)]) (plainFor_of_name png_1) (fun m => by first | (simp [entryFrame, mkF, argsToLocals, Value.category]; done) | rfl) ?_
  refine Go.aloadN d13_0 rfl (G := ?_)
  refine Go.invokevirtual false d13_1 (hw _ (List.mem_of_getElem? (i := 75) rfl)) (hw _ (List.mem_of_getElem? (i := 76) rfl)) (hw _ (List.mem_of_getElem? (i := 78) rfl)) (hw _ (List.mem_of_getElem? (i := 77) rfl)) (hw _ (List.mem_of_getElem? (i := 2) rfl)) (hw _ (List.mem_of_getElem? (i := 79) rfl)) (nfSel (hw _ (List.mem_of_getElem? (i := 78) rfl))) (inS (i := 0) rfl) (c_cod hw s r cpt hCS hcpt) pdg_6 rfl (argsL := []) (rest := []) rfl rfl (Dr := [(t, .inr (.byte, [.int y0, .int y1, .int y2, .int y3, .int y4, .int y5, .int y6, .int y7, .int y8, .int y9, .int y10, .int y11, .int y12, .int y13, .int y14, .int y15, .int 0, .int 0, .int 0, .int 0, .int 0, .int 0, .int 0, .int 0, .int 0, .int 0, .int 0, .int 0, .int 0, .int 0, .int 0, .int 0, .int 0, .int 0]))]) rfl (eS (Or.inl (List.mem_of_getElem? (i := 0) rfl)) eN) (G := ?_)
  rintro _ _ _ ⟨rfl, rfl, rfl⟩
  refine Go.norm (D2 := [(t, .inr (.byte, [.int y0, .int y1, .int y2, .int y3, .int y4, .int y5, .int y6, .int y7, .int y8, .int y9, .int y10, .int y11, .int y12, .int y13, .int y14, .int y15, .int 0, .int 0, .int 0, .int 0, .int 0, .int 0, .int 0, .int 0, .int 0, .int 0, .int 0, .int 0, .int 0, .int 0, .int 0, .int 0, .int 0, .int 0]))]) (S2 := [(s, .inl ("java/lang/String", [("java/lang/String", "value", "[B", .ref r), ("java/lang/String", "coder", "B", .int 0)])), (r, .inr (.byte, [.int z0, .int z1]))]) (c2 := 0) (s2 := 0) (st2 := [.int 0]) ?_
  refine Go.iloadN d13_4 rfl (G := ?_)
  refine Go.icmp d13_5 (pc2 := 28) (Gy := fun h => absurd h (show ¬ (¬ (0 : Int32) = 0) by decide)) (Gn := fun _ => ?_)
  refine Go.aloadN d13_8 rfl (G := ?_)
  refine Go.getfield d13_9 (host := "") (Or.inl (hw _ (List.mem_of_getElem? (i := 28) rfl))) Via.refl (inS (i := 0) rfl) 0 rfl (G := ?_)
  refine Go.iconst d13_12 (v := 0) rfl (G := ?_)
  refine Go.aloadN d13_13 rfl (G := ?_)
  refine Go.iloadN d13_14 rfl (G := ?_)
  refine Go.iloadN d13_15 rfl (G := ?_)
  refine Go.ishl d13_16 (z := 16) rfl (G := ?_)
  refine Go.aloadN d13_17 rfl (G := ?_)
  refine Go.getfield d13_18 (host := "") (Or.inl (hw _ (List.mem_of_getElem? (i := 28) rfl))) Via.refl (inS (i := 0) rfl) 0 rfl (G := ?_)
  refine Go.arraylength d13_21 (inS (i := 1) rfl) (n := 2) rfl (G := ?_)
  refine Go.arraycopy d13_22 (hw _ (List.mem_of_getElem? (i := 103) rfl)) (hw _ (List.mem_of_getElem? (i := 106) rfl)) (hw _ (List.mem_of_getElem? (i := 104) rfl)) (hw _ (List.mem_of_getElem? (i := 105) rfl)) (inS (i := 1) rfl) 0 rfl rfl (by decide) (by decide) (by decide) (Nat.le_of_ble_eq_true rfl) (Nat.le_of_ble_eq_true rfl) (D' := [(t, .inr (.byte, [.int y0, .int y1, .int y2, .int y3, .int y4, .int y5, .int y6, .int y7, .int y8, .int y9, .int y10, .int y11, .int y12, .int y13, .int y14, .int y15, .int z0, .int z1, .int 0, .int 0, .int 0, .int 0, .int 0, .int 0, .int 0, .int 0, .int 0, .int 0, .int 0, .int 0, .int 0, .int 0, .int 0, .int 0]))]) rfl (G := ?_)
  refine Go.goto d13_25 (pc2 := 43) (G := ?_)
  refine Go.sub [0] (by decide) rfl (D' := [(t, .inr (.byte, [.int y0, .int y1, .int y2, .int y3, .int y4, .int y5, .int y6, .int y7, .int y8, .int y9, .int y10, .int y11, .int y12, .int y13, .int y14, .int y15, .int z0, .int z1, .int 0, .int 0, .int 0, .int 0, .int 0, .int 0, .int 0, .int 0, .int 0, .int 0, .int 0, .int 0, .int 0, .int 0, .int 0, .int 0]))]) rfl (S' := []) eN (G := ?_)
  exact Go.retV d13_43 ⟨rfl, rfl, rfl⟩
set_option maxRecDepth 65536 in
set_option maxHeartbeats 40000000 in
theorem c_ps16_16_2 {l : Launch} {Z : State} {a0 : Array Value} {EL : List (String × Nat)} {b : Bool} {n0 : Nat} (hw : ∀ d ∈ tables_1, d.before a0 Z = true) (a t s r : Addr) (y0 y1 y2 y3 y4 y5 y6 y7 y8 y9 y10 y11 y12 y13 y14 y15 : Int32) (z0 z1 : Int32) (cpt : Int32) (hCS : Sta Z Z.heap "java/lang/String" "COMPACT_STRINGS" "Z" (.int cpt)) (hcpt : ¬ cpt = 0) :
    Met l Z a0 EL b n0 (⟨"java/lang/AbstractStringBuilder", "putStringAt", "(ILjava/lang/String;)V"⟩ : MethodName) jdk_68_method_73_code 3 none [] (rm4 2 0 0 33) [.ref a, .int 16, .ref s] [(a, .inl ("java/lang/StringBuilder", [("java/lang/AbstractStringBuilder", "value", "[B", .ref t), ("java/lang/AbstractStringBuilder", "coder", "B", .int 0), ("java/lang/AbstractStringBuilder", "count", "I", .int 16)])), (t, .inr (.byte, [.int y0, .int y1, .int y2, .int y3, .int y4, .int y5, .int y6, .int y7, .int y8, .int y9, .int y10, .int y11, .int y12, .int y13, .int y14, .int y15, .int 0, .int 0, .int 0, .int 0, .int 0, .int 0, .int 0, .int 0, .int 0, .int 0, .int 0, .int 0, .int 0, .int 0, .int 0, .int 0, .int 0, .int 0]))] [(s, .inl ("java/lang/String", [("java/lang/String", "value", "[B", .ref r), ("java/lang/String", "coder", "B", .int 0)])), (r, .inr (.byte, [.int z0, .int z1]))] (fun v D' S' => v = none ∧ D' = [(a, .inl ("java/lang/StringBuilder", [("java/lang/AbstractStringBuilder", "value", "[B", .ref t), ("java/lang/AbstractStringBuilder", "coder", "B", .int 0), ("java/lang/AbstractStringBuilder", "count", "I", .int 16)])), (t, .inr (.byte, [.int y0, .int y1, .int y2, .int y3, .int y4, .int y5, .int y6, .int y7, .int y8, .int y9, .int y10, .int y11, .int y12, .int y13, .int y14, .int y15, .int z0, .int z1, .int 0, .int 0, .int 0, .int 0, .int 0, .int 0, .int 0, .int 0, .int 0, .int 0, .int 0, .int 0, .int 0, .int 0, .int 0, .int 0]))] ∧ S' = []) := by
  refine Met.of_go (own := "java/lang/AbstractStringBuilder") (nm := "putStringAt") (Ls := #[.val (.ref a), .val (.int 16), .val (.ref s)]) (plainFor_of_name png_3) (fun m => by first | (simp [entryFrame, mkF, argsToLocals, Value.category]; done) | rfl) ?_
  refine Go.aloadN d15_0 rfl (G := ?_)
  refine Go.aloadN d15_1 rfl (G := ?_)
  refine Go.invokeprivateG true d15_2 (hw _ (List.mem_of_getElem? (i := 92) rfl)) (hw _ (List.mem_of_getElem? (i := 93) rfl)) (hw _ (List.mem_of_getElem? (i := 95) rfl)) (hw _ (List.mem_of_getElem? (i := 94) rfl)) (hw _ (List.mem_of_getElem? (i := 49) rfl)) (hw _ (List.mem_of_getElem? (i := 96) rfl)) (inD (i := 0) rfl) (c_inf hw a t s r 16 cpt hCS hcpt) pdg_7 rfl (argsL := [.ref s]) (rest := []) rfl rfl (Dr := [(a, .inl ("java/lang/StringBuilder", [("java/lang/AbstractStringBuilder", "value", "[B", .ref t), ("java/lang/AbstractStringBuilder", "coder", "B", .int 0), ("java/lang/AbstractStringBuilder", "count", "I", .int 16)])), (t, .inr (.byte, [.int y0, .int y1, .int y2, .int y3, .int y4, .int y5, .int y6, .int y7, .int y8, .int y9, .int y10, .int y11, .int y12, .int y13, .int y14, .int y15, .int 0, .int 0, .int 0, .int 0, .int 0, .int 0, .int 0, .int 0, .int 0, .int 0, .int 0, .int 0, .int 0, .int 0, .int 0, .int 0, .int 0, .int 0]))]) rfl (eS (Or.inr ⟨rfl, List.mem_of_getElem? (i := 0) rfl⟩) (eS (Or.inl (List.mem_of_getElem? (i := 0) rfl)) eN)) (G := ?_)
  rintro _ _ _ ⟨rfl, rfl, rfl⟩
  refine Go.norm (D2 := [(a, .inl ("java/lang/StringBuilder", [("java/lang/AbstractStringBuilder", "value", "[B", .ref t), ("java/lang/AbstractStringBuilder", "coder", "B", .int 0), ("java/lang/AbstractStringBuilder", "count", "I", .int 16)])), (t, .inr (.byte, [.int y0, .int y1, .int y2, .int y3, .int y4, .int y5, .int y6, .int y7, .int y8, .int y9, .int y10, .int y11, .int y12, .int y13, .int y14, .int y15, .int 0, .int 0, .int 0, .int 0, .int 0, .int 0, .int 0, .int 0, .int 0, .int 0, .int 0, .int 0, .int 0, .int 0, .int 0, .int 0, .int 0, .int 0]))]) (S2 := [(s, .inl ("java/lang/String", [("java/lang/String", "value", "[B", .ref r), ("java/lang/String", "coder", "B", .int 0)])), (r, .inr (.byte, [.int z0, .int z1]))]) (c2 := 0) (s2 := 0) (st2 := []) ?_
  refine Go.aloadN d15_5 rfl (G := ?_)
  refine Go.aloadN d15_6 rfl (G := ?_)
  refine Go.getfield d15_7 (host := "") (Or.inl (hw _ (List.mem_of_getElem? (i := 53) rfl))) Via.refl (inD (i := 0) rfl) 0 rfl (G := ?_)
  refine Go.iloadN d15_10 rfl (G := ?_)
  refine Go.aloadN d15_11 rfl (G := ?_)
  refine Go.getfield d15_12 (host := "") (Or.inl (hw _ (List.mem_of_getElem? (i := 55) rfl))) Via.refl (inD (i := 0) rfl) 1 rfl (G := ?_)
  refine Go.perm [1, 0] (by decide) rfl (D' := [(t, .inr (.byte, [.int y0, .int y1, .int y2, .int y3, .int y4, .int y5, .int y6, .int y7, .int y8, .int y9, .int y10, .int y11, .int y12, .int y13, .int y14, .int y15, .int 0, .int 0, .int 0, .int 0, .int 0, .int 0, .int 0, .int 0, .int 0, .int 0, .int 0, .int 0, .int 0, .int 0, .int 0, .int 0, .int 0, .int 0])), (a, .inl ("java/lang/StringBuilder", [("java/lang/AbstractStringBuilder", "value", "[B", .ref t), ("java/lang/AbstractStringBuilder", "coder", "B", .int 0), ("java/lang/AbstractStringBuilder", "count", "I", .int 16)]))]) rfl (G := ?_)
  refine Go.invokevirtual false d15_15 (hw _ (List.mem_of_getElem? (i := 98) rfl)) (hw _ (List.mem_of_getElem? (i := 99) rfl)) (hw _ (List.mem_of_getElem? (i := 101) rfl)) (hw _ (List.mem_of_getElem? (i := 100) rfl)) (hw _ (List.mem_of_getElem? (i := 2) rfl)) (hw _ (List.mem_of_getElem? (i := 102) rfl)) (nfSel (hw _ (List.mem_of_getElem? (i := 101) rfl))) (inS (i := 0) rfl) (c_gb16_16_2 hw s r t y0 y1 y2 y3 y4 y5 y6 y7 y8 y9 y10 y11 y12 y13 y14 y15 z0 z1 cpt hCS hcpt) pdg_8 rfl (argsL := [.ref t, .int 16, .int 0]) (rest := []) rfl rfl (Dr := [(a, .inl ("java/lang/StringBuilder", [("java/lang/AbstractStringBuilder", "value", "[B", .ref t), ("java/lang/AbstractStringBuilder", "coder", "B", .int 0), ("java/lang/AbstractStringBuilder", "count", "I", .int 16)]))]) rfl (eS (Or.inl (List.mem_of_getElem? (i := 0) rfl)) (eS (Or.inl (List.mem_of_getElem? (i := 1) rfl)) eN)) (G := ?_)
  rintro _ _ _ ⟨rfl, rfl, rfl⟩
  refine Go.norm (D2 := [(t, .inr (.byte, [.int y0, .int y1, .int y2, .int y3, .int y4, .int y5, .int y6, .int y7, .int y8, .int y9, .int y10, .int y11, .int y12, .int y13, .int y14, .int y15, .int z0, .int z1, .int 0, .int 0, .int 0, .int 0, .int 0, .int 0, .int 0, .int 0, .int 0, .int 0, .int 0, .int 0, .int 0, .int 0, .int 0, .int 0])), (a, .inl ("java/lang/StringBuilder", [("java/lang/AbstractStringBuilder", "value", "[B", .ref t), ("java/lang/AbstractStringBuilder", "coder", "B", .int 0), ("java/lang/AbstractStringBuilder", "count", "I", .int 16)]))]) (S2 := [(s, .inl ("java/lang/String", [("java/lang/String", "value", "[B", .ref r), ("java/lang/String", "coder", "B", .int 0)])), (r, .inr (.byte, [.int z0, .int z1]))]) (c2 := 0) (s2 := 0) (st2 := []) ?_
  refine Go.sub [1, 0] (by decide) rfl (D' := [(a, .inl ("java/lang/StringBuilder", [("java/lang/AbstractStringBuilder", "value", "[B", .ref t), ("java/lang/AbstractStringBuilder", "coder", "B", .int 0), ("java/lang/AbstractStringBuilder", "count", "I", .int 16)])), (t, .inr (.byte, [.int y0, .int y1, .int y2, .int y3, .int y4, .int y5, .int y6, .int y7, .int y8, .int y9, .int y10, .int y11, .int y12, .int y13, .int y14, .int y15, .int z0, .int z1, .int 0, .int 0, .int 0, .int 0, .int 0, .int 0, .int 0, .int 0, .int 0, .int 0, .int 0, .int 0, .int 0, .int 0, .int 0, .int 0]))]) rfl (S' := []) eN (G := ?_)
  exact Go.retV d15_18 ⟨rfl, rfl, rfl⟩
set_option maxRecDepth 65536 in
set_option maxHeartbeats 40000000 in
theorem c_aa16_16_2 {l : Launch} {Z : State} {a0 : Array Value} {EL : List (String × Nat)} {b : Bool} {n0 : Nat} (hw : ∀ d ∈ tables_1, d.before a0 Z = true) (a t s r : Addr) (y0 y1 y2 y3 y4 y5 y6 y7 y8 y9 y10 y11 y12 y13 y14 y15 : Int32) (z0 z1 : Int32) (cpt : Int32) (hCS : Sta Z Z.heap "java/lang/String" "COMPACT_STRINGS" "Z" (.int cpt)) (hcpt : ¬ cpt = 0) :
    Met l Z a0 EL b n0 (⟨"java/lang/AbstractStringBuilder", "append", "(Ljava/lang/String;)Ljava/lang/AbstractStringBuilder;"⟩ : MethodName) jdk_68_method_22_code 3 (some (.object "java/lang/AbstractStringBuilder")) [] (rm4 4 1 34 62) [.ref a, .ref s] [(a, .inl ("java/lang/StringBuilder", [("java/lang/AbstractStringBuilder", "value", "[B", .ref t), ("java/lang/AbstractStringBuilder", "coder", "B", .int 0), ("java/lang/AbstractStringBuilder", "count", "I", .int 16)])), (t, .inr (.byte, [.int y0, .int y1, .int y2, .int y3, .int y4, .int y5, .int y6, .int y7, .int y8, .int y9, .int y10, .int y11, .int y12, .int y13, .int y14, .int y15]))] [(s, .inl ("java/lang/String", [("java/lang/String", "value", "[B", .ref r), ("java/lang/String", "coder", "B", .int 0)])), (r, .inr (.byte, [.int z0, .int z1]))] (fun v D' S' => ∃ u, v = some (.ref a) ∧ D' = [(a, .inl ("java/lang/StringBuilder", [("java/lang/AbstractStringBuilder", "value", "[B", .ref u), ("java/lang/AbstractStringBuilder", "coder", "B", .int 0), ("java/lang/AbstractStringBuilder", "count", "I", .int 18)])), (u, .inr (.byte, [.int y0, .int y1, .int y2, .int y3, .int y4, .int y5, .int y6, .int y7, .int y8, .int y9, .int y10, .int y11, .int y12, .int y13, .int y14, .int y15, .int z0, .int z1, .int 0, .int 0, .int 0, .int 0, .int 0, .int 0, .int 0, .int 0, .int 0, .int 0, .int 0, .int 0, .int 0, .int 0, .int 0, .int 0]))] ∧ S' = []) := by
  refine Met.of_go (own := "java/lang/AbstractStringBuilder") (nm := "append") (Ls := #[.val (.ref a), .val (.ref s), .unset]) (plainFor_of_name png_3) (fun m => by first | (simp [entryFrame, mkF, argsToLocals, Value.category]; done) | rfl) ?_
  refine Go.aloadN d16_0 rfl (G := ?_)
  refine Go.ifnonnullY d16_1 (pc2 := 9) (G := ?_)
  refine Go.aloadN d16_9 rfl (G := ?_)
  refine Go.invokevirtual false d16_10 (hw _ (List.mem_of_getElem? (i := 70) rfl)) (hw _ (List.mem_of_getElem? (i := 71) rfl)) (hw _ (List.mem_of_getElem? (i := 73) rfl)) (hw _ (List.mem_of_getElem? (i := 72) rfl)) (hw _ (List.mem_of_getElem? (i := 2) rfl)) (hw _ (List.mem_of_getElem? (i := 74) rfl)) (nfSel (hw _ (List.mem_of_getElem? (i := 73) rfl))) (inS (i := 0) rfl) (c_len2 hw s r z0 z1 cpt hCS hcpt) pdg_9 rfl (argsL := []) (rest := []) rfl rfl (Dr := [(a, .inl ("java/lang/StringBuilder", [("java/lang/AbstractStringBuilder", "value", "[B", .ref t), ("java/lang/AbstractStringBuilder", "coder", "B", .int 0), ("java/lang/AbstractStringBuilder", "count", "I", .int 16)])), (t, .inr (.byte, [.int y0, .int y1, .int y2, .int y3, .int y4, .int y5, .int y6, .int y7, .int y8, .int y9, .int y10, .int y11, .int y12, .int y13, .int y14, .int y15]))]) rfl (eS (Or.inl (List.mem_of_getElem? (i := 0) rfl)) (eS (Or.inl (List.mem_of_getElem? (i := 1) rfl)) eN)) (G := ?_)
  rintro _ _ _ ⟨rfl, rfl, rfl⟩
  refine Go.norm (D2 := [(a, .inl ("java/lang/StringBuilder", [("java/lang/AbstractStringBuilder", "value", "[B", .ref t), ("java/lang/AbstractStringBuilder", "coder", "B", .int 0), ("java/lang/AbstractStringBuilder", "count", "I", .int 16)])), (t, .inr (.byte, [.int y0, .int y1, .int y2, .int y3, .int y4, .int y5, .int y6, .int y7, .int y8, .int y9, .int y10, .int y11, .int y12, .int y13, .int y14, .int y15]))]) (S2 := [(s, .inl ("java/lang/String", [("java/lang/String", "value", "[B", .ref r), ("java/lang/String", "coder", "B", .int 0)])), (r, .inr (.byte, [.int z0, .int z1]))]) (c2 := 0) (s2 := 0) (st2 := [.int 2]) ?_
  refine Go.istoreN d16_13 (Ls' := #[.val (.ref a), .val (.ref s), .val (.int 2)]) rfl (G := ?_)
  refine Go.aloadN d16_14 rfl (G := ?_)
  refine Go.aloadN d16_15 rfl (G := ?_)
  refine Go.getfield d16_16 (host := "") (Or.inl (hw _ (List.mem_of_getElem? (i := 80) rfl))) Via.refl (inD (i := 0) rfl) 2 rfl (G := ?_)
  refine Go.iloadN d16_19 rfl (G := ?_)
  refine Go.iadd d16_20 (z := 18) rfl (G := ?_)
  refine Go.invokeprivateG false d16_21 (hw _ (List.mem_of_getElem? (i := 82) rfl)) (hw _ (List.mem_of_getElem? (i := 83) rfl)) (hw _ (List.mem_of_getElem? (i := 85) rfl)) (hw _ (List.mem_of_getElem? (i := 84) rfl)) (hw _ (List.mem_of_getElem? (i := 49) rfl)) (hw _ (List.mem_of_getElem? (i := 86) rfl)) (inD (i := 0) rfl) (c_ec16_16_2 hw a t y0 y1 y2 y3 y4 y5 y6 y7 y8 y9 y10 y11 y12 y13 y14 y15) pdg_5 rfl (argsL := [.int 18]) (rest := []) rfl rfl (Dr := []) rfl eN (G := ?_)
  rintro _ _ _ ⟨u, rfl, rfl, rfl⟩
  refine Go.norm (D2 := [(a, .inl ("java/lang/StringBuilder", [("java/lang/AbstractStringBuilder", "value", "[B", .ref u), ("java/lang/AbstractStringBuilder", "coder", "B", .int 0), ("java/lang/AbstractStringBuilder", "count", "I", .int 16)])), (u, .inr (.byte, [.int y0, .int y1, .int y2, .int y3, .int y4, .int y5, .int y6, .int y7, .int y8, .int y9, .int y10, .int y11, .int y12, .int y13, .int y14, .int y15, .int 0, .int 0, .int 0, .int 0, .int 0, .int 0, .int 0, .int 0, .int 0, .int 0, .int 0, .int 0, .int 0, .int 0, .int 0, .int 0, .int 0, .int 0]))]) (S2 := [(s, .inl ("java/lang/String", [("java/lang/String", "value", "[B", .ref r), ("java/lang/String", "coder", "B", .int 0)])), (r, .inr (.byte, [.int z0, .int z1]))]) (c2 := 1) (s2 := 34) (st2 := []) ?_
  refine Go.aloadN d16_24 rfl (G := ?_)
  refine Go.aloadN d16_25 rfl (G := ?_)
  refine Go.getfield d16_26 (host := "") (Or.inl (hw _ (List.mem_of_getElem? (i := 80) rfl))) Via.refl (inD (i := 0) rfl) 2 rfl (G := ?_)
  refine Go.aloadN d16_29 rfl (G := ?_)
  refine Go.invokeprivateG false d16_30 (hw _ (List.mem_of_getElem? (i := 87) rfl)) (hw _ (List.mem_of_getElem? (i := 88) rfl)) (hw _ (List.mem_of_getElem? (i := 90) rfl)) (hw _ (List.mem_of_getElem? (i := 89) rfl)) (hw _ (List.mem_of_getElem? (i := 49) rfl)) (hw _ (List.mem_of_getElem? (i := 91) rfl)) (inD (i := 0) rfl) (c_ps16_16_2 hw a u s r y0 y1 y2 y3 y4 y5 y6 y7 y8 y9 y10 y11 y12 y13 y14 y15 z0 z1 cpt hCS hcpt) pdg_10 rfl (argsL := [.int 16, .ref s]) (rest := []) rfl rfl (Dr := []) rfl (eS (Or.inl (List.mem_of_getElem? (i := 0) rfl)) (eS (Or.inl (List.mem_of_getElem? (i := 1) rfl)) eN)) (G := ?_)
  rintro _ _ _ ⟨rfl, rfl, rfl⟩
  refine Go.norm (D2 := [(a, .inl ("java/lang/StringBuilder", [("java/lang/AbstractStringBuilder", "value", "[B", .ref u), ("java/lang/AbstractStringBuilder", "coder", "B", .int 0), ("java/lang/AbstractStringBuilder", "count", "I", .int 16)])), (u, .inr (.byte, [.int y0, .int y1, .int y2, .int y3, .int y4, .int y5, .int y6, .int y7, .int y8, .int y9, .int y10, .int y11, .int y12, .int y13, .int y14, .int y15, .int z0, .int z1, .int 0, .int 0, .int 0, .int 0, .int 0, .int 0, .int 0, .int 0, .int 0, .int 0, .int 0, .int 0, .int 0, .int 0, .int 0, .int 0]))]) (S2 := [(s, .inl ("java/lang/String", [("java/lang/String", "value", "[B", .ref r), ("java/lang/String", "coder", "B", .int 0)])), (r, .inr (.byte, [.int z0, .int z1]))]) (c2 := 1) (s2 := 34) (st2 := []) ?_
  refine Go.aloadN d16_33 rfl (G := ?_)
  refine Go.dup d16_34 (G := ?_)
  refine Go.getfield d16_35 (host := "") (Or.inl (hw _ (List.mem_of_getElem? (i := 80) rfl))) Via.refl (inD (i := 0) rfl) 2 rfl (G := ?_)
  refine Go.iloadN d16_38 rfl (G := ?_)
  refine Go.iadd d16_39 (z := 18) rfl (G := ?_)
  refine Go.putfield d16_40 (hw _ (List.mem_of_getElem? (i := 80) rfl)) Via.refl 0 rfl 2 rfl (Or.inl (hw _ (List.mem_of_getElem? (i := 81) rfl))) (hw _ (List.mem_of_getElem? (i := 40) rfl)) (ty := .int) (by decide +kernel) (v' := .int 18) rfl rfl (D' := [(a, .inl ("java/lang/StringBuilder", [("java/lang/AbstractStringBuilder", "value", "[B", .ref u), ("java/lang/AbstractStringBuilder", "coder", "B", .int 0), ("java/lang/AbstractStringBuilder", "count", "I", .int 18)])), (u, .inr (.byte, [.int y0, .int y1, .int y2, .int y3, .int y4, .int y5, .int y6, .int y7, .int y8, .int y9, .int y10, .int y11, .int y12, .int y13, .int y14, .int y15, .int z0, .int z1, .int 0, .int 0, .int 0, .int 0, .int 0, .int 0, .int 0, .int 0, .int 0, .int 0, .int 0, .int 0, .int 0, .int 0, .int 0, .int 0]))]) rfl (G := ?_)
  refine Go.aloadN d16_43 rfl (G := ?_)
  refine Go.sub [0, 1] (by decide) rfl (D' := [(a, .inl ("java/lang/StringBuilder", [("java/lang/AbstractStringBuilder", "value", "[B", .ref u), ("java/lang/AbstractStringBuilder", "coder", "B", .int 0), ("java/lang/AbstractStringBuilder", "count", "I", .int 18)])), (u, .inr (.byte, [.int y0, .int y1, .int y2, .int y3, .int y4, .int y5, .int y6, .int y7, .int y8, .int y9, .int y10, .int y11, .int y12, .int y13, .int y14, .int y15, .int z0, .int z1, .int 0, .int 0, .int 0, .int 0, .int 0, .int 0, .int 0, .int 0, .int 0, .int 0, .int 0, .int 0, .int 0, .int 0, .int 0, .int 0]))]) rfl (S' := []) eN (G := ?_)
  exact Go.retA d16_44 ⟨u, rfl, rfl, rfl⟩
set_option maxRecDepth 65536 in
set_option maxHeartbeats 40000000 in
theorem c_app16_16_2 {l : Launch} {Z : State} {a0 : Array Value} {EL : List (String × Nat)} {b : Bool} {n0 : Nat} (hw : ∀ d ∈ tables_1, d.before a0 Z = true) (a t s r : Addr) (y0 y1 y2 y3 y4 y5 y6 y7 y8 y9 y10 y11 y12 y13 y14 y15 : Int32) (z0 z1 : Int32) (cpt : Int32) (hCS : Sta Z Z.heap "java/lang/String" "COMPACT_STRINGS" "Z" (.int cpt)) (hcpt : ¬ cpt = 0) :
    Met l Z a0 EL b n0 (⟨"java/lang/StringBuilder", "append", "(Ljava/lang/String;)Ljava/lang/StringBuilder;"⟩ : MethodName) jdk_67_method_7_code 2 (some (.object "java/lang/StringBuilder")) [] (rm4 5 1 34 76) [.ref a, .ref s] [(a, .inl ("java/lang/StringBuilder", [("java/lang/AbstractStringBuilder", "value", "[B", .ref t), ("java/lang/AbstractStringBuilder", "coder", "B", .int 0), ("java/lang/AbstractStringBuilder", "count", "I", .int 16)])), (t, .inr (.byte, [.int y0, .int y1, .int y2, .int y3, .int y4, .int y5, .int y6, .int y7, .int y8, .int y9, .int y10, .int y11, .int y12, .int y13, .int y14, .int y15]))] [(s, .inl ("java/lang/String", [("java/lang/String", "value", "[B", .ref r), ("java/lang/String", "coder", "B", .int 0)])), (r, .inr (.byte, [.int z0, .int z1]))] (fun v D' S' => ∃ u, v = some (.ref a) ∧ D' = [(a, .inl ("java/lang/StringBuilder", [("java/lang/AbstractStringBuilder", "value", "[B", .ref u), ("java/lang/AbstractStringBuilder", "coder", "B", .int 0), ("java/lang/AbstractStringBuilder", "count", "I", .int 18)])), (u, .inr (.byte, [.int y0, .int y1, .int y2, .int y3, .int y4, .int y5, .int y6, .int y7, .int y8, .int y9, .int y10, .int y11, .int y12, .int y13, .int y14, .int y15, .int z0, .int z1, .int 0, .int 0, .int 0, .int 0, .int 0, .int 0, .int 0, .int 0, .int 0, .int 0, .int 0, .int 0, .int 0, .int 0, .int 0, .int 0]))] ∧ S' = []) := by
  refine Met.of_go (own := "java/lang/StringBuilder") (nm := "append") (Ls := #[.val (.ref a), .val (.ref s)]) (plainFor_of_name png_4) (fun m => by first | (simp [entryFrame, mkF, argsToLocals, Value.category]; done) | rfl) ?_
  refine Go.aloadN d17_0 rfl (G := ?_)
  refine Go.aloadN d17_1 rfl (G := ?_)
  refine Go.invokesuper false d17_2 (by decide) (hw _ (List.mem_of_getElem? (i := 65) rfl)) (hw _ (List.mem_of_getElem? (i := 66) rfl)) (sameOwn (hw _ (List.mem_of_getElem? (i := 66) rfl)) (hw _ (List.mem_of_getElem? (i := 85) rfl)) rfl (by decide)) (hw _ (List.mem_of_getElem? (i := 67) rfl)) (hw _ (List.mem_of_getElem? (i := 49) rfl)) (hw _ (List.mem_of_getElem? (i := 69) rfl)) (inD (i := 0) rfl) (c_aa16_16_2 hw a t s r y0 y1 y2 y3 y4 y5 y6 y7 y8 y9 y10 y11 y12 y13 y14 y15 z0 z1 cpt hCS hcpt) pdg_11 rfl (argsL := [.ref s]) (rest := []) rfl rfl (Dr := []) rfl (eS (Or.inl (List.mem_of_getElem? (i := 0) rfl)) (eS (Or.inl (List.mem_of_getElem? (i := 1) rfl)) eN)) (G := ?_)
  rintro _ _ _ ⟨u, rfl, rfl, rfl⟩
  refine Go.norm (D2 := [(a, .inl ("java/lang/StringBuilder", [("java/lang/AbstractStringBuilder", "value", "[B", .ref u), ("java/lang/AbstractStringBuilder", "coder", "B", .int 0), ("java/lang/AbstractStringBuilder", "count", "I", .int 18)])), (u, .inr (.byte, [.int y0, .int y1, .int y2, .int y3, .int y4, .int y5, .int y6, .int y7, .int y8, .int y9, .int y10, .int y11, .int y12, .int y13, .int y14, .int y15, .int z0, .int z1, .int 0, .int 0, .int 0, .int 0, .int 0, .int 0, .int 0, .int 0, .int 0, .int 0, .int 0, .int 0, .int 0, .int 0, .int 0, .int 0]))]) (S2 := [(s, .inl ("java/lang/String", [("java/lang/String", "value", "[B", .ref r), ("java/lang/String", "coder", "B", .int 0)])), (r, .inr (.byte, [.int z0, .int z1]))]) (c2 := 1) (s2 := 34) (st2 := [.ref a]) ?_
  refine Go.pop d17_5 (G := ?_)
  refine Go.aloadN d17_6 rfl (G := ?_)
  refine Go.sub [0, 1] (by decide) rfl (D' := [(a, .inl ("java/lang/StringBuilder", [("java/lang/AbstractStringBuilder", "value", "[B", .ref u), ("java/lang/AbstractStringBuilder", "coder", "B", .int 0), ("java/lang/AbstractStringBuilder", "count", "I", .int 18)])), (u, .inr (.byte, [.int y0, .int y1, .int y2, .int y3, .int y4, .int y5, .int y6, .int y7, .int y8, .int y9, .int y10, .int y11, .int y12, .int y13, .int y14, .int y15, .int z0, .int z1, .int 0, .int 0, .int 0, .int 0, .int 0, .int 0, .int 0, .int 0, .int 0, .int 0, .int 0, .int 0, .int 0, .int 0, .int 0, .int 0]))]) rfl (S' := []) eN (G := ?_)
  exact Go.retA d17_7 ⟨u, rfl, rfl, rfl⟩
set_option maxRecDepth 65536 in
set_option maxHeartbeats 40000000 in
theorem c_ec34_18_2 {l : Launch} {Z : State} {a0 : Array Value} {EL : List (String × Nat)} {b : Bool} {n0 : Nat} (hw : ∀ d ∈ tables_1, d.before a0 Z = true) (a t : Addr) (y0 y1 y2 y3 y4 y5 y6 y7 y8 y9 y10 y11 y12 y13 y14 y15 y16 y17 : Int32) :
    Met l Z a0 EL b n0 (⟨"java/lang/AbstractStringBuilder", "ensureCapacityInternal", "(I)V"⟩ : MethodName) jdk_68_method_9_code 3 none [] (rm4 0 0 0 0) [.ref a, .int 20] [(a, .inl ("java/lang/StringBuilder", [("java/lang/AbstractStringBuilder", "value", "[B", .ref t), ("java/lang/AbstractStringBuilder", "coder", "B", .int 0), ("java/lang/AbstractStringBuilder", "count", "I", .int 18)])), (t, .inr (.byte, [.int y0, .int y1, .int y2, .int y3, .int y4, .int y5, .int y6, .int y7, .int y8, .int y9, .int y10, .int y11, .int y12, .int y13, .int y14, .int y15, .int y16, .int y17, .int 0, .int 0, .int 0, .int 0, .int 0, .int 0, .int 0, .int 0, .int 0, .int 0, .int 0, .int 0, .int 0, .int 0, .int 0, .int 0]))] [] (fun v D' S' => ∃ u, v = none ∧ D' = [(a, .inl ("java/lang/StringBuilder", [("java/lang/AbstractStringBuilder", "value", "[B", .ref u), ("java/lang/AbstractStringBuilder", "coder", "B", .int 0), ("java/lang/AbstractStringBuilder", "count", "I", .int 18)])), (u, .inr (.byte, [.int y0, .int y1, .int y2, .int y3, .int y4, .int y5, .int y6, .int y7, .int y8, .int y9, .int y10, .int y11, .int y12, .int y13, .int y14, .int y15, .int y16, .int y17, .int 0, .int 0, .int 0, .int 0, .int 0, .int 0, .int 0, .int 0, .int 0, .int 0, .int 0, .int 0, .int 0, .int 0, .int 0, .int 0]))] ∧ S' = []) := by
  refine Met.of_go (own := "java/lang/AbstractStringBuilder") (nm := "ensureCapacityInternal") (Ls := #[.val (.ref a), .val (.int 20), .unset]) (plainFor_of_name png_3) (fun m => by first | (simp [entryFrame, mkF, argsToLocals, Value.category]; done) | rfl) ?_
  refine Go.aloadN d12_0 rfl (G := ?_)
  refine Go.getfield d12_1 (host := "") (Or.inl (hw _ (List.mem_of_getElem? (i := 53) rfl))) Via.refl (inD (i := 0) rfl) 0 rfl (G := ?_)
  refine Go.arraylength d12_4 (inD (i := 1) rfl) (n := 34) rfl (G := ?_)
  refine Go.aloadN d12_5 rfl (G := ?_)
  refine Go.getfield d12_6 (host := "") (Or.inl (hw _ (List.mem_of_getElem? (i := 55) rfl))) Via.refl (inD (i := 0) rfl) 1 rfl (G := ?_)
  refine Go.ishr d12_9 (z := 34) rfl (G := ?_)
  refine Go.istoreN d12_10 (Ls' := #[.val (.ref a), .val (.int 20), .val (.int 34)]) rfl (G := ?_)
  refine Go.iloadN d12_11 rfl (G := ?_)
  refine Go.iloadN d12_12 rfl (G := ?_)
  refine Go.isub d12_13 (z := (-14)) rfl (G := ?_)
  refine Go.ifc d12_14 (pc2 := 38) (Gy := fun _ => ?_) (Gn := fun h => absurd (show ¬ (0 : Int32) < (-14) by decide) h)
  exact Go.retV d12_38 ⟨t, rfl, rfl, rfl⟩
set_option maxRecDepth 65536 in
set_option maxHeartbeats 40000000 in
theorem c_gb34_18_2 {l : Launch} {Z : State} {a0 : Array Value} {EL : List (String × Nat)} {b : Bool} {n0 : Nat} (hw : ∀ d ∈ tables_1, d.before a0 Z = true) (s r t : Addr) (y0 y1 y2 y3 y4 y5 y6 y7 y8 y9 y10 y11 y12 y13 y14 y15 y16 y17 : Int32) (z0 z1 : Int32) (cpt : Int32) (hCS : Sta Z Z.heap "java/lang/String" "COMPACT_STRINGS" "Z" (.int cpt)) (hcpt : ¬ cpt = 0) :
    Met l Z a0 EL b n0 (⟨"java/lang/String", "getBytes", "([BIB)V"⟩ : MethodName) jdk_42_method_147_code 4 none [] (rm4 1 0 0 18) [.ref s, .ref t, .int 18, .int 0] [(t, .inr (.byte, [.int y0, .int y1, .int y2, .int y3, .int y4, .int y5, .int y6, .int y7, .int y8, .int y9, .int y10, .int y11, .int y12, .int y13, .int y14, .int y15, .int y16, .int y17, .int 0, .int 0, .int 0, .int 0, .int 0, .int 0, .int 0, .int 0, .int 0, .int 0, .int 0, .int 0, .int 0, .int 0, .int 0, .int 0]))] [(s, .inl ("java/lang/String", [("java/lang/String", "value", "[B", .ref r), ("java/lang/String", "coder", "B", .int 0)])), (r, .inr (.byte, [.int z0, .int z1]))] (fun v D' S' => v = none ∧ D' = [(t, .inr (.byte, [.int y0, .int y1, .int y2, .int y3, .int y4, .int y5, .int y6, .int y7, .int y8, .int y9, .int y10, .int y11, .int y12, .int y13, .int y14, .int y15, .int y16, .int y17, .int z0, .int z1, .int 0, .int 0, .int 0, .int 0, .int 0, .int 0, .int 0, .int 0, .int 0, .int 0, .int 0, .int 0, .int 0, .int 0]))] ∧ S' = []) := by
  refine Met.of_go (own := "java/lang/String") (nm := "getBytes") (Ls := #[.val (.ref s), .val (.ref t), .val (.int 18), .val (.int 0)]) (plainFor_of_name png_1) (fun m => by first | (simp [entryFrame, mkF, argsToLocals, Value.category]; done) | rfl) ?_
  refine Go.aloadN d13_0 rfl (G := ?_)
  refine Go.invokevirtual false d13_1 (hw _ (List.mem_of_getElem? (i := 75) rfl)) (hw _ (List.mem_of_getElem? (i := 76) rfl)) (hw _ (List.mem_of_getElem? (i := 78) rfl)) (hw _ (List.mem_of_getElem? (i := 77) rfl)) (hw _ (List.mem_of_getElem? (i := 2) rfl)) (hw _ (List.mem_of_getElem? (i := 79) rfl)) (nfSel (hw _ (List.mem_of_getElem? (i := 78) rfl))) (inS (i := 0) rfl) (c_cod hw s r cpt hCS hcpt) pdg_6 rfl (argsL := []) (rest := []) rfl rfl (Dr := [(t, .inr (.byte, [.int y0, .int y1, .int y2, .int y3, .int y4, .int y5, .int y6, .int y7, .int y8, .int y9, .int y10, .int y11, .int y12, .int y13, .int y14, .int y15, .int y16, .int y17, .int 0, .int 0, .int 0, .int 0, .int 0, .int 0, .int 0, .int 0, .int 0, .int 0, .int 0, .int 0, .int 0, .int 0, .int 0, .int 0]))]) rfl (eS (Or.inl (List.mem_of_getElem? (i := 0) rfl)) eN) (G := ?_)
  rintro _ _ _ ⟨rfl, rfl, rfl⟩
  refine Go.norm (D2 := [(t, .inr (.byte, [.int y0, .int y1, .int y2, .int y3, .int y4, .int y5, .int y6, .int y7, .int y8, .int y9, .int y10, .int y11, .int y12, .int y13, .int y14, .int y15, .int y16, .int y17, .int 0, .int 0, .int 0, .int 0, .int 0, .int 0, .int 0, .int 0, .int 0, .int 0, .int 0, .int 0, .int 0, .int 0, .int 0, .int 0]))]) (S2 := [(s, .inl ("java/lang/String", [("java/lang/String", "value", "[B", .ref r), ("java/lang/String", "coder", "B", .int 0)])), (r, .inr (.byte, [.int z0, .int z1]))]) (c2 := 0) (s2 := 0) (st2 := [.int 0]) ?_
  refine Go.iloadN d13_4 rfl (G := ?_)
  refine Go.icmp d13_5 (pc2 := 28) (Gy := fun h => absurd h (show ¬ (¬ (0 : Int32) = 0) by decide)) (Gn := fun _ => ?_)
  refine Go.aloadN d13_8 rfl (G := ?_)
  refine Go.getfield d13_9 (host := "") (Or.inl (hw _ (List.mem_of_getElem? (i := 28) rfl))) Via.refl (inS (i := 0) rfl) 0 rfl (G := ?_)
  refine Go.iconst d13_12 (v := 0) rfl (G := ?_)
  refine Go.aloadN d13_13 rfl (G := ?_)
  refine Go.iloadN d13_14 rfl (G := ?_)
  refine Go.iloadN d13_15 rfl (G := ?_)
  refine Go.ishl d13_16 (z := 18) rfl (G := ?_)
  refine Go.aloadN d13_17 rfl (G := ?_)
  refine Go.getfield d13_18 (host := "") (Or.inl (hw _ (List.mem_of_getElem? (i := 28) rfl))) Via.refl (inS (i := 0) rfl) 0 rfl (G := ?_)
  refine Go.arraylength d13_21 (inS (i := 1) rfl) (n := 2) rfl (G := ?_)
  refine Go.arraycopy d13_22 (hw _ (List.mem_of_getElem? (i := 103) rfl)) (hw _ (List.mem_of_getElem? (i := 106) rfl)) (hw _ (List.mem_of_getElem? (i := 104) rfl)) (hw _ (List.mem_of_getElem? (i := 105) rfl)) (inS (i := 1) rfl) 0 rfl rfl (by decide) (by decide) (by decide) (Nat.le_of_ble_eq_true rfl) (Nat.le_of_ble_eq_true rfl) (D' := [(t, .inr (.byte, [.int y0, .int y1, .int y2, .int y3, .int y4, .int y5, .int y6, .int y7, .int y8, .int y9, .int y10, .int y11, .int y12, .int y13, .int y14, .int y15, .int y16, .int y17, .int z0, .int z1, .int 0, .int 0, .int 0, .int 0, .int 0, .int 0, .int 0, .int 0, .int 0, .int 0, .int 0, .int 0, .int 0, .int 0]))]) rfl (G := ?_)
  refine Go.goto d13_25 (pc2 := 43) (G := ?_)
  refine Go.sub [0] (by decide) rfl (D' := [(t, .inr (.byte, [.int y0, .int y1, .int y2, .int y3, .int y4, .int y5, .int y6, .int y7, .int y8, .int y9, .int y10, .int y11, .int y12, .int y13, .int y14, .int y15, .int y16, .int y17, .int z0, .int z1, .int 0, .int 0, .int 0, .int 0, .int 0, .int 0, .int 0, .int 0, .int 0, .int 0, .int 0, .int 0, .int 0, .int 0]))]) rfl (S' := []) eN (G := ?_)
  exact Go.retV d13_43 ⟨rfl, rfl, rfl⟩
set_option maxRecDepth 65536 in
set_option maxHeartbeats 40000000 in
theorem c_ps34_18_2 {l : Launch} {Z : State} {a0 : Array Value} {EL : List (String × Nat)} {b : Bool} {n0 : Nat} (hw : ∀ d ∈ tables_1, d.before a0 Z = true) (a t s r : Addr) (y0 y1 y2 y3 y4 y5 y6 y7 y8 y9 y10 y11 y12 y13 y14 y15 y16 y17 : Int32) (z0 z1 : Int32) (cpt : Int32) (hCS : Sta Z Z.heap "java/lang/String" "COMPACT_STRINGS" "Z" (.int cpt)) (hcpt : ¬ cpt = 0) :
    Met l Z a0 EL b n0 (⟨"java/lang/AbstractStringBuilder", "putStringAt", "(ILjava/lang/String;)V"⟩ : MethodName) jdk_68_method_73_code 3 none [] (rm4 2 0 0 33) [.ref a, .int 18, .ref s] [(a, .inl ("java/lang/StringBuilder", [("java/lang/AbstractStringBuilder", "value", "[B", .ref t), ("java/lang/AbstractStringBuilder", "coder", "B", .int 0), ("java/lang/AbstractStringBuilder", "count", "I", .int 18)])), (t, .inr (.byte, [.int y0, .int y1, .int y2, .int y3, .int y4, .int y5, .int y6, .int y7, .int y8, .int y9, .int y10, .int y11, .int y12, .int y13, .int y14, .int y15, .int y16, .int y17, .int 0, .int 0, .int 0, .int 0, .int 0, .int 0, .int 0, .int 0, .int 0, .int 0, .int 0, .int 0, .int 0, .int 0, .int 0, .int 0]))] [(s, .inl ("java/lang/String", [("java/lang/String", "value", "[B", .ref r), ("java/lang/String", "coder", "B", .int 0)])), (r, .inr (.byte, [.int z0, .int z1]))] (fun v D' S' => v = none ∧ D' = [(a, .inl ("java/lang/StringBuilder", [("java/lang/AbstractStringBuilder", "value", "[B", .ref t), ("java/lang/AbstractStringBuilder", "coder", "B", .int 0), ("java/lang/AbstractStringBuilder", "count", "I", .int 18)])), (t, .inr (.byte, [.int y0, .int y1, .int y2, .int y3, .int y4, .int y5, .int y6, .int y7, .int y8, .int y9, .int y10, .int y11, .int y12, .int y13, .int y14, .int y15, .int y16, .int y17, .int z0, .int z1, .int 0, .int 0, .int 0, .int 0, .int 0, .int 0, .int 0, .int 0, .int 0, .int 0, .int 0, .int 0, .int 0, .int 0]))] ∧ S' = []) := by
  refine Met.of_go (own := "java/lang/AbstractStringBuilder") (nm := "putStringAt") (Ls := #[.val (.ref a), .val (.int 18), .val (.ref s)]) (plainFor_of_name png_3) (fun m => by first | (simp [entryFrame, mkF, argsToLocals, Value.category]; done) | rfl) ?_
  refine Go.aloadN d15_0 rfl (G := ?_)
  refine Go.aloadN d15_1 rfl (G := ?_)
  refine Go.invokeprivateG true d15_2 (hw _ (List.mem_of_getElem? (i := 92) rfl)) (hw _ (List.mem_of_getElem? (i := 93) rfl)) (hw _ (List.mem_of_getElem? (i := 95) rfl)) (hw _ (List.mem_of_getElem? (i := 94) rfl)) (hw _ (List.mem_of_getElem? (i := 49) rfl)) (hw _ (List.mem_of_getElem? (i := 96) rfl)) (inD (i := 0) rfl) (c_inf hw a t s r 18 cpt hCS hcpt) pdg_7 rfl (argsL := [.ref s]) (rest := []) rfl rfl (Dr := [(a, .inl ("java/lang/StringBuilder", [("java/lang/AbstractStringBuilder", "value", "[B", .ref t), ("java/lang/AbstractStringBuilder", "coder", "B", .int 0), ("java/lang/AbstractStringBuilder", "count", "I", .int 18)])), (t, .inr (.byte, [.int y0, .int y1, .int y2, .int y3, .int y4, .int y5, .int y6, .int y7, .int y8, .int y9, .int y10, .int y11, .int y12, .int y13, .int y14, .int y15, .int y16, .int y17, .int 0, .int 0, .int 0, .int 0, .int 0, .int 0, .int 0, .int 0, .int 0, .int 0, .int 0, .int 0, .int 0, .int 0, .int 0, .int 0]))]) rfl (eS (Or.inr ⟨rfl, List.mem_of_getElem? (i := 0) rfl⟩) (eS (Or.inl (List.mem_of_getElem? (i := 0) rfl)) eN)) (G := ?_)
  rintro _ _ _ ⟨rfl, rfl, rfl⟩
  refine Go.norm (D2 := [(a, .inl ("java/lang/StringBuilder", [("java/lang/AbstractStringBuilder", "value", "[B", .ref t), ("java/lang/AbstractStringBuilder", "coder", "B", .int 0), ("java/lang/AbstractStringBuilder", "count", "I", .int 18)])), (t, .inr (.byte, [.int y0, .int y1, .int y2, .int y3, .int y4, .int y5, .int y6, .int y7, .int y8, .int y9, .int y10, .int y11, .int y12, .int y13, .int y14, .int y15, .int y16, .int y17, .int 0, .int 0, .int 0, .int 0, .int 0, .int 0, .int 0, .int 0, .int 0, .int 0, .int 0, .int 0, .int 0, .int 0, .int 0, .int 0]))]) (S2 := [(s, .inl ("java/lang/String", [("java/lang/String", "value", "[B", .ref r), ("java/lang/String", "coder", "B", .int 0)])), (r, .inr (.byte, [.int z0, .int z1]))]) (c2 := 0) (s2 := 0) (st2 := []) ?_
  refine Go.aloadN d15_5 rfl (G := ?_)
  refine Go.aloadN d15_6 rfl (G := ?_)
  refine Go.getfield d15_7 (host := "") (Or.inl (hw _ (List.mem_of_getElem? (i := 53) rfl))) Via.refl (inD (i := 0) rfl) 0 rfl (G := ?_)
  refine Go.iloadN d15_10 rfl (G := ?_)
  refine Go.aloadN d15_11 rfl (G := ?_)
  refine Go.getfield d15_12 (host := "") (Or.inl (hw _ (List.mem_of_getElem? (i := 55) rfl))) Via.refl (inD (i := 0) rfl) 1 rfl (G := ?_)
  refine Go.perm [1, 0] (by decide) rfl (D' := [(t, .inr (.byte, [.int y0, .int y1, .int y2, .int y3, .int y4, .int y5, .int y6, .int y7, .int y8, .int y9, .int y10, .int y11, .int y12, .int y13, .int y14, .int y15, .int y16, .int y17, .int 0, .int 0, .int 0, .int 0, .int 0, .int 0, .int 0, .int 0, .int 0, .int 0, .int 0, .int 0, .int 0, .int 0, .int 0, .int 0])), (a, .inl ("java/lang/StringBuilder", [("java/lang/AbstractStringBuilder", "value", "[B", .ref t), ("java/lang/AbstractStringBuilder", "coder", "B", .int 0), ("java/lang/AbstractStringBuilder", "count", "I", .int 18)]))]) rfl (G := ?_)
  refine Go.invokevirtual false d15_15 (hw _ (List.mem_of_getElem? (i := 98) rfl)) (hw _ (List.mem_of_getElem? (i := 99) rfl)) (hw _ (List.mem_of_getElem? (i := 101) rfl)) (hw _ (List.mem_of_getElem? (i := 100) rfl)) (hw _ (List.mem_of_getElem? (i := 2) rfl)) (hw _ (List.mem_of_getElem? (i := 102) rfl)) (nfSel (hw _ (List.mem_of_getElem? (i := 101) rfl))) (inS (i := 0) rfl) (c_gb34_18_2 hw s r t y0 y1 y2 y3 y4 y5 y6 y7 y8 y9 y10 y11 y12 y13 y14 y15 y16 y17 z0 z1 cpt hCS hcpt) pdg_8 rfl (argsL := [.ref t, .int 18, .int 0]) (rest := []) rfl rfl (Dr := [(a, .inl ("java/lang/StringBuilder", [("java/lang/AbstractStringBuilder", "value", "[B", .ref t), ("java/lang/AbstractStringBuilder", "coder", "B", .int 0), ("java/lang/AbstractStringBuilder", "count", "I", .int 18)]))]) rfl (eS (Or.inl (List.mem_of_getElem? (i := 0) rfl)) (eS (Or.inl (List.mem_of_getElem? (i := 1) rfl)) eN)) (G := ?_)
  rintro _ _ _ ⟨rfl, rfl, rfl⟩
  refine Go.norm (D2 := [(t, .inr (.byte, [.int y0, .int y1, .int y2, .int y3, .int y4, .int y5, .int y6, .int y7, .int y8, .int y9, .int y10, .int y11, .int y12, .int y13, .int y14, .int y15, .int y16, .int y17, .int z0, .int z1, .int 0, .int 0, .int 0, .int 0, .int 0, .int 0, .int 0, .int 0, .int 0, .int 0, .int 0, .int 0, .int 0, .int 0])), (a, .inl ("java/lang/StringBuilder", [("java/lang/AbstractStringBuilder", "value", "[B", .ref t), ("java/lang/AbstractStringBuilder", "coder", "B", .int 0), ("java/lang/AbstractStringBuilder", "count", "I", .int 18)]))]) (S2 := [(s, .inl ("java/lang/String", [("java/lang/String", "value", "[B", .ref r), ("java/lang/String", "coder", "B", .int 0)])), (r, .inr (.byte, [.int z0, .int z1]))]) (c2 := 0) (s2 := 0) (st2 := []) ?_
  refine Go.sub [1, 0] (by decide) rfl (D' := [(a, .inl ("java/lang/StringBuilder", [("java/lang/AbstractStringBuilder", "value", "[B", .ref t), ("java/lang/AbstractStringBuilder", "coder", "B", .int 0), ("java/lang/AbstractStringBuilder", "count", "I", .int 18)])), (t, .inr (.byte, [.int y0, .int y1, .int y2, .int y3, .int y4, .int y5, .int y6, .int y7, .int y8, .int y9, .int y10, .int y11, .int y12, .int y13, .int y14, .int y15, .int y16, .int y17, .int z0, .int z1, .int 0, .int 0, .int 0, .int 0, .int 0, .int 0, .int 0, .int 0, .int 0, .int 0, .int 0, .int 0, .int 0, .int 0]))]) rfl (S' := []) eN (G := ?_)
  exact Go.retV d15_18 ⟨rfl, rfl, rfl⟩
set_option maxRecDepth 65536 in
set_option maxHeartbeats 40000000 in
theorem c_aa34_18_2 {l : Launch} {Z : State} {a0 : Array Value} {EL : List (String × Nat)} {b : Bool} {n0 : Nat} (hw : ∀ d ∈ tables_1, d.before a0 Z = true) (a t s r : Addr) (y0 y1 y2 y3 y4 y5 y6 y7 y8 y9 y10 y11 y12 y13 y14 y15 y16 y17 : Int32) (z0 z1 : Int32) (cpt : Int32) (hCS : Sta Z Z.heap "java/lang/String" "COMPACT_STRINGS" "Z" (.int cpt)) (hcpt : ¬ cpt = 0) :
    Met l Z a0 EL b n0 (⟨"java/lang/AbstractStringBuilder", "append", "(Ljava/lang/String;)Ljava/lang/AbstractStringBuilder;"⟩ : MethodName) jdk_68_method_22_code 3 (some (.object "java/lang/AbstractStringBuilder")) [] (rm4 3 0 0 47) [.ref a, .ref s] [(a, .inl ("java/lang/StringBuilder", [("java/lang/AbstractStringBuilder", "value", "[B", .ref t), ("java/lang/AbstractStringBuilder", "coder", "B", .int 0), ("java/lang/AbstractStringBuilder", "count", "I", .int 18)])), (t, .inr (.byte, [.int y0, .int y1, .int y2, .int y3, .int y4, .int y5, .int y6, .int y7, .int y8, .int y9, .int y10, .int y11, .int y12, .int y13, .int y14, .int y15, .int y16, .int y17, .int 0, .int 0, .int 0, .int 0, .int 0, .int 0, .int 0, .int 0, .int 0, .int 0, .int 0, .int 0, .int 0, .int 0, .int 0, .int 0]))] [(s, .inl ("java/lang/String", [("java/lang/String", "value", "[B", .ref r), ("java/lang/String", "coder", "B", .int 0)])), (r, .inr (.byte, [.int z0, .int z1]))] (fun v D' S' => ∃ u, v = some (.ref a) ∧ D' = [(a, .inl ("java/lang/StringBuilder", [("java/lang/AbstractStringBuilder", "value", "[B", .ref u), ("java/lang/AbstractStringBuilder", "coder", "B", .int 0), ("java/lang/AbstractStringBuilder", "count", "I", .int 20)])), (u, .inr (.byte, [.int y0, .int y1, .int y2, .int y3, .int y4, .int y5, .int y6, .int y7, .int y8, .int y9, .int y10, .int y11, .int y12, .int y13, .int y14, .int y15, .int y16, .int y17, .int z0, .int z1, .int 0, .int 0, .int 0, .int 0, .int 0, .int 0, .int 0, .int 0, .int 0, .int 0, .int 0, .int 0, .int 0, .int 0]))] ∧ S' = []) := by
  refine Met.of_go (own := "java/lang/AbstractStringBuilder") (nm := "append") (Ls := #[.val (.ref a), .val (.ref s), .unset]) (plainFor_of_name png_3) (fun m => by first | (simp [entryFrame, mkF, argsToLocals, Value.category]; done) | rfl) ?_
  refine Go.aloadN d16_0 rfl (G := ?_)
  refine Go.ifnonnullY d16_1 (pc2 := 9) (G := ?_)
  refine Go.aloadN d16_9 rfl (G := ?_)
  refine Go.invokevirtual false d16_10 (hw _ (List.mem_of_getElem? (i := 70) rfl)) (hw _ (List.mem_of_getElem? (i := 71) rfl)) (hw _ (List.mem_of_getElem? (i := 73) rfl)) (hw _ (List.mem_of_getElem? (i := 72) rfl)) (hw _ (List.mem_of_getElem? (i := 2) rfl)) (hw _ (List.mem_of_getElem? (i := 74) rfl)) (nfSel (hw _ (List.mem_of_getElem? (i := 73) rfl))) (inS (i := 0) rfl) (c_len2 hw s r z0 z1 cpt hCS hcpt) pdg_9 rfl (argsL := []) (rest := []) rfl rfl (Dr := [(a, .inl ("java/lang/StringBuilder", [("java/lang/AbstractStringBuilder", "value", "[B", .ref t), ("java/lang/AbstractStringBuilder", "coder", "B", .int 0), ("java/lang/AbstractStringBuilder", "count", "I", .int 18)])), (t, .inr (.byte, [.int y0, .int y1, .int y2, .int y3, .int y4, .int y5, .int y6, .int y7, .int y8, .int y9, .int y10, .int y11, .int y12, .int y13, .int y14, .int y15, .int y16, .int y17, .int 0, .int 0, .int 0, .int 0, .int 0, .int 0, .int 0, .int 0, .int 0, .int 0, .int 0, .int 0, .int 0, .int 0, .int 0, .int 0]))]) rfl (eS (Or.inl (List.mem_of_getElem? (i := 0) rfl)) (eS (Or.inl (List.mem_of_getElem? (i := 1) rfl)) eN)) (G := ?_)
  rintro _ _ _ ⟨rfl, rfl, rfl⟩
  refine Go.norm (D2 := [(a, .inl ("java/lang/StringBuilder", [("java/lang/AbstractStringBuilder", "value", "[B", .ref t), ("java/lang/AbstractStringBuilder", "coder", "B", .int 0), ("java/lang/AbstractStringBuilder", "count", "I", .int 18)])), (t, .inr (.byte, [.int y0, .int y1, .int y2, .int y3, .int y4, .int y5, .int y6, .int y7, .int y8, .int y9, .int y10, .int y11, .int y12, .int y13, .int y14, .int y15, .int y16, .int y17, .int 0, .int 0, .int 0, .int 0, .int 0, .int 0, .int 0, .int 0, .int 0, .int 0, .int 0, .int 0, .int 0, .int 0, .int 0, .int 0]))]) (S2 := [(s, .inl ("java/lang/String", [("java/lang/String", "value", "[B", .ref r), ("java/lang/String", "coder", "B", .int 0)])), (r, .inr (.byte, [.int z0, .int z1]))]) (c2 := 0) (s2 := 0) (st2 := [.int 2]) ?_
  refine Go.istoreN d16_13 (Ls' := #[.val (.ref a), .val (.ref s), .val (.int 2)]) rfl (G := ?_)
  refine Go.aloadN d16_14 rfl (G := ?_)
  refine Go.aloadN d16_15 rfl (G := ?_)
  refine Go.getfield d16_16 (host := "") (Or.inl (hw _ (List.mem_of_getElem? (i := 80) rfl))) Via.refl (inD (i := 0) rfl) 2 rfl (G := ?_)
  refine Go.iloadN d16_19 rfl (G := ?_)
  refine Go.iadd d16_20 (z := 20) rfl (G := ?_)
  refine Go.invokeprivateG false d16_21 (hw _ (List.mem_of_getElem? (i := 82) rfl)) (hw _ (List.mem_of_getElem? (i := 83) rfl)) (hw _ (List.mem_of_getElem? (i := 85) rfl)) (hw _ (List.mem_of_getElem? (i := 84) rfl)) (hw _ (List.mem_of_getElem? (i := 49) rfl)) (hw _ (List.mem_of_getElem? (i := 86) rfl)) (inD (i := 0) rfl) (c_ec34_18_2 hw a t y0 y1 y2 y3 y4 y5 y6 y7 y8 y9 y10 y11 y12 y13 y14 y15 y16 y17) pdg_5 rfl (argsL := [.int 20]) (rest := []) rfl rfl (Dr := []) rfl eN (G := ?_)
  rintro _ _ _ ⟨u, rfl, rfl, rfl⟩
  refine Go.norm (D2 := [(a, .inl ("java/lang/StringBuilder", [("java/lang/AbstractStringBuilder", "value", "[B", .ref u), ("java/lang/AbstractStringBuilder", "coder", "B", .int 0), ("java/lang/AbstractStringBuilder", "count", "I", .int 18)])), (u, .inr (.byte, [.int y0, .int y1, .int y2, .int y3, .int y4, .int y5, .int y6, .int y7, .int y8, .int y9, .int y10, .int y11, .int y12, .int y13, .int y14, .int y15, .int y16, .int y17, .int 0, .int 0, .int 0, .int 0, .int 0, .int 0, .int 0, .int 0, .int 0, .int 0, .int 0, .int 0, .int 0, .int 0, .int 0, .int 0]))]) (S2 := [(s, .inl ("java/lang/String", [("java/lang/String", "value", "[B", .ref r), ("java/lang/String", "coder", "B", .int 0)])), (r, .inr (.byte, [.int z0, .int z1]))]) (c2 := 0) (s2 := 0) (st2 := []) ?_
  refine Go.aloadN d16_24 rfl (G := ?_)
  refine Go.aloadN d16_25 rfl (G := ?_)
  refine Go.getfield d16_26 (host := "") (Or.inl (hw _ (List.mem_of_getElem? (i := 80) rfl))) Via.refl (inD (i := 0) rfl) 2 rfl (G := ?_)
  refine Go.aloadN d16_29 rfl (G := ?_)
  refine Go.invokeprivateG false d16_30 (hw _ (List.mem_of_getElem? (i := 87) rfl)) (hw _ (List.mem_of_getElem? (i := 88) rfl)) (hw _ (List.mem_of_getElem? (i := 90) rfl)) (hw _ (List.mem_of_getElem? (i := 89) rfl)) (hw _ (List.mem_of_getElem? (i := 49) rfl)) (hw _ (List.mem_of_getElem? (i := 91) rfl)) (inD (i := 0) rfl) (c_ps34_18_2 hw a u s r y0 y1 y2 y3 y4 y5 y6 y7 y8 y9 y10 y11 y12 y13 y14 y15 y16 y17 z0 z1 cpt hCS hcpt) pdg_10 rfl (argsL := [.int 18, .ref s]) (rest := []) rfl rfl (Dr := []) rfl (eS (Or.inl (List.mem_of_getElem? (i := 0) rfl)) (eS (Or.inl (List.mem_of_getElem? (i := 1) rfl)) eN)) (G := ?_)
  rintro _ _ _ ⟨rfl, rfl, rfl⟩
  refine Go.norm (D2 := [(a, .inl ("java/lang/StringBuilder", [("java/lang/AbstractStringBuilder", "value", "[B", .ref u), ("java/lang/AbstractStringBuilder", "coder", "B", .int 0), ("java/lang/AbstractStringBuilder", "count", "I", .int 18)])), (u, .inr (.byte, [.int y0, .int y1, .int y2, .int y3, .int y4, .int y5, .int y6, .int y7, .int y8, .int y9, .int y10, .int y11, .int y12, .int y13, .int y14, .int y15, .int y16, .int y17, .int z0, .int z1, .int 0, .int 0, .int 0, .int 0, .int 0, .int 0, .int 0, .int 0, .int 0, .int 0, .int 0, .int 0, .int 0, .int 0]))]) (S2 := [(s, .inl ("java/lang/String", [("java/lang/String", "value", "[B", .ref r), ("java/lang/String", "coder", "B", .int 0)])), (r, .inr (.byte, [.int z0, .int z1]))]) (c2 := 0) (s2 := 0) (st2 := []) ?_
  refine Go.aloadN d16_33 rfl (G := ?_)
  refine Go.dup d16_34 (G := ?_)
  refine Go.getfield d16_35 (host := "") (Or.inl (hw _ (List.mem_of_getElem? (i := 80) rfl))) Via.refl (inD (i := 0) rfl) 2 rfl (G := ?_)
  refine Go.iloadN d16_38 rfl (G := ?_)
  refine Go.iadd d16_39 (z := 20) rfl (G := ?_)
  refine Go.putfield d16_40 (hw _ (List.mem_of_getElem? (i := 80) rfl)) Via.refl 0 rfl 2 rfl (Or.inl (hw _ (List.mem_of_getElem? (i := 81) rfl))) (hw _ (List.mem_of_getElem? (i := 40) rfl)) (ty := .int) (by decide +kernel) (v' := .int 20) rfl rfl (D' := [(a, .inl ("java/lang/StringBuilder", [("java/lang/AbstractStringBuilder", "value", "[B", .ref u), ("java/lang/AbstractStringBuilder", "coder", "B", .int 0), ("java/lang/AbstractStringBuilder", "count", "I", .int 20)])), (u, .inr (.byte, [.int y0, .int y1, .int y2, .int y3, .int y4, .int y5, .int y6, .int y7, .int y8, .int y9, .int y10, .int y11, .int y12, .int y13, .int y14, .int y15, .int y16, .int y17, .int z0, .int z1, .int 0, .int 0, .int 0, .int 0, .int 0, .int 0, .int 0, .int 0, .int 0, .int 0, .int 0, .int 0, .int 0, .int 0]))]) rfl (G := ?_)
  refine Go.aloadN d16_43 rfl (G := ?_)
  refine Go.sub [0, 1] (by decide) rfl (D' := [(a, .inl ("java/lang/StringBuilder", [("java/lang/AbstractStringBuilder", "value", "[B", .ref u), ("java/lang/AbstractStringBuilder", "coder", "B", .int 0), ("java/lang/AbstractStringBuilder", "count", "I", .int 20)])), (u, .inr (.byte, [.int y0, .int y1, .int y2, .int y3, .int y4, .int y5, .int y6, .int y7, .int y8, .int y9, .int y10, .int y11, .int y12, .int y13, .int y14, .int y15, .int y16, .int y17, .int z0, .int z1, .int 0, .int 0, .int 0, .int 0, .int 0, .int 0, .int 0, .int 0, .int 0, .int 0, .int 0, .int 0, .int 0, .int 0]))]) rfl (S' := []) eN (G := ?_)
  exact Go.retA d16_44 ⟨u, rfl, rfl, rfl⟩
set_option maxRecDepth 65536 in
set_option maxHeartbeats 40000000 in
theorem c_app34_18_2 {l : Launch} {Z : State} {a0 : Array Value} {EL : List (String × Nat)} {b : Bool} {n0 : Nat} (hw : ∀ d ∈ tables_1, d.before a0 Z = true) (a t s r : Addr) (y0 y1 y2 y3 y4 y5 y6 y7 y8 y9 y10 y11 y12 y13 y14 y15 y16 y17 : Int32) (z0 z1 : Int32) (cpt : Int32) (hCS : Sta Z Z.heap "java/lang/String" "COMPACT_STRINGS" "Z" (.int cpt)) (hcpt : ¬ cpt = 0) :
    Met l Z a0 EL b n0 (⟨"java/lang/StringBuilder", "append", "(Ljava/lang/String;)Ljava/lang/StringBuilder;"⟩ : MethodName) jdk_67_method_7_code 2 (some (.object "java/lang/StringBuilder")) [] (rm4 4 0 0 61) [.ref a, .ref s] [(a, .inl ("java/lang/StringBuilder", [("java/lang/AbstractStringBuilder", "value", "[B", .ref t), ("java/lang/AbstractStringBuilder", "coder", "B", .int 0), ("java/lang/AbstractStringBuilder", "count", "I", .int 18)])), (t, .inr (.byte, [.int y0, .int y1, .int y2, .int y3, .int y4, .int y5, .int y6, .int y7, .int y8, .int y9, .int y10, .int y11, .int y12, .int y13, .int y14, .int y15, .int y16, .int y17, .int 0, .int 0, .int 0, .int 0, .int 0, .int 0, .int 0, .int 0, .int 0, .int 0, .int 0, .int 0, .int 0, .int 0, .int 0, .int 0]))] [(s, .inl ("java/lang/String", [("java/lang/String", "value", "[B", .ref r), ("java/lang/String", "coder", "B", .int 0)])), (r, .inr (.byte, [.int z0, .int z1]))] (fun v D' S' => ∃ u, v = some (.ref a) ∧ D' = [(a, .inl ("java/lang/StringBuilder", [("java/lang/AbstractStringBuilder", "value", "[B", .ref u), ("java/lang/AbstractStringBuilder", "coder", "B", .int 0), ("java/lang/AbstractStringBuilder", "count", "I", .int 20)])), (u, .inr (.byte, [.int y0, .int y1, .int y2, .int y3, .int y4, .int y5, .int y6, .int y7, .int y8, .int y9, .int y10, .int y11, .int y12, .int y13, .int y14, .int y15, .int y16, .int y17, .int z0, .int z1, .int 0, .int 0, .int 0, .int 0, .int 0, .int 0, .int 0, .int 0, .int 0, .int 0, .int 0, .int 0, .int 0, .int 0]))] ∧ S' = []) := by
  refine Met.of_go (own := "java/lang/StringBuilder") (nm := "append") (Ls := #[.val (.ref a), .val (.ref s)]) (plainFor_of_name png_4) (fun m => by first | (simp [entryFrame, mkF, argsToLocals, Value.category]; done) | rfl) ?_
  refine Go.aloadN d17_0 rfl (G := ?_)
  refine Go.aloadN d17_1 rfl (G := ?_)
  refine Go.invokesuper false d17_2 (by decide) (hw _ (List.mem_of_getElem? (i := 65) rfl)) (hw _ (List.mem_of_getElem? (i := 66) rfl)) (sameOwn (hw _ (List.mem_of_getElem? (i := 66) rfl)) (hw _ (List.mem_of_getElem? (i := 85) rfl)) rfl (by decide)) (hw _ (List.mem_of_getElem? (i := 67) rfl)) (hw _ (List.mem_of_getElem? (i := 49) rfl)) (hw _ (List.mem_of_getElem? (i := 69) rfl)) (inD (i := 0) rfl) (c_aa34_18_2 hw a t s r y0 y1 y2 y3 y4 y5 y6 y7 y8 y9 y10 y11 y12 y13 y14 y15 y16 y17 z0 z1 cpt hCS hcpt) pdg_11 rfl (argsL := [.ref s]) (rest := []) rfl rfl (Dr := []) rfl (eS (Or.inl (List.mem_of_getElem? (i := 0) rfl)) (eS (Or.inl (List.mem_of_getElem? (i := 1) rfl)) eN)) (G := ?_)
  rintro _ _ _ ⟨u, rfl, rfl, rfl⟩
  refine Go.norm (D2 := [(a, .inl ("java/lang/StringBuilder", [("java/lang/AbstractStringBuilder", "value", "[B", .ref u), ("java/lang/AbstractStringBuilder", "coder", "B", .int 0), ("java/lang/AbstractStringBuilder", "count", "I", .int 20)])), (u, .inr (.byte, [.int y0, .int y1, .int y2, .int y3, .int y4, .int y5, .int y6, .int y7, .int y8, .int y9, .int y10, .int y11, .int y12, .int y13, .int y14, .int y15, .int y16, .int y17, .int z0, .int z1, .int 0, .int 0, .int 0, .int 0, .int 0, .int 0, .int 0, .int 0, .int 0, .int 0, .int 0, .int 0, .int 0, .int 0]))]) (S2 := [(s, .inl ("java/lang/String", [("java/lang/String", "value", "[B", .ref r), ("java/lang/String", "coder", "B", .int 0)])), (r, .inr (.byte, [.int z0, .int z1]))]) (c2 := 0) (s2 := 0) (st2 := [.ref a]) ?_
  refine Go.pop d17_5 (G := ?_)
  refine Go.aloadN d17_6 rfl (G := ?_)
  refine Go.sub [0, 1] (by decide) rfl (D' := [(a, .inl ("java/lang/StringBuilder", [("java/lang/AbstractStringBuilder", "value", "[B", .ref u), ("java/lang/AbstractStringBuilder", "coder", "B", .int 0), ("java/lang/AbstractStringBuilder", "count", "I", .int 20)])), (u, .inr (.byte, [.int y0, .int y1, .int y2, .int y3, .int y4, .int y5, .int y6, .int y7, .int y8, .int y9, .int y10, .int y11, .int y12, .int y13, .int y14, .int y15, .int y16, .int y17, .int z0, .int z1, .int 0, .int 0, .int 0, .int 0, .int 0, .int 0, .int 0, .int 0, .int 0, .int 0, .int 0, .int 0, .int 0, .int 0]))]) rfl (S' := []) eN (G := ?_)
  exact Go.retA d17_7 ⟨u, rfl, rfl, rfl⟩
set_option maxRecDepth 65536 in
set_option maxHeartbeats 40000000 in
theorem c_min_34_20 {l : Launch} {Z : State} {a0 : Array Value} {EL : List (String × Nat)} {b : Bool} {n0 : Nat} (hw : ∀ d ∈ tables_1, d.before a0 Z = true)  :
    Met l Z a0 EL b n0 (⟨"java/lang/Math", "min", "(II)I"⟩ : MethodName) jdk_29_method_69_code 2 (some .int) [] (rm4 0 0 0 0) [.int 34, .int 20] [] [] (fun v D' S' => v = some (.int 20) ∧ D' = [] ∧ S' = []) := by
  refine Met.of_go (own := "java/lang/Math") (nm := "min") (Ls := #[.val (.int 34), .val (.int 20)]) (by decide +kernel) (fun m => by first | (simp [entryFrame, mkF, argsToLocals, Value.category]; done) | rfl) ?_
  refine Go.iloadN d19_0 rfl (G := ?_)
  refine Go.iloadN d19_1 rfl (G := ?_)
  refine Go.icmp d19_2 (pc2 := 9) (Gy := fun _ => ?_) (Gn := fun h => absurd (show (20 : Int32) < 34 by decide) h)
  refine Go.iloadN d19_9 rfl (G := ?_)
  exact Go.retI d19_10 ⟨rfl, rfl, rfl⟩
theorem d23_0 : Dx jdk_65_method_131_code 0 (.iload_n 1) 1 1 := ⟨by decide +kernel, rfl⟩
theorem d23_1 : Dx jdk_65_method_131_code 1 (.iload_n 0) 1 2 := ⟨by decide +kernel, rfl⟩
theorem d23_2 : Dx jdk_65_method_131_code 2 (.if_icmp .ge 35) 3 5 := ⟨by decide +kernel, rfl⟩
theorem d23_5 : Dx jdk_65_method_131_code 5 (.new 43) 3 8 := ⟨by decide +kernel, rfl⟩
theorem d23_8 : Dx jdk_65_method_131_code 8 (.dup) 1 9 := ⟨by decide +kernel, rfl⟩
theorem d23_9 : Dx jdk_65_method_131_code 9 (.new 45) 3 12 := ⟨by decide +kernel, rfl⟩
theorem d23_12 : Dx jdk_65_method_131_code 12 (.dup) 1 13 := ⟨by decide +kernel, rfl⟩
theorem d23_13 : Dx jdk_65_method_131_code 13 (.invokespecial 47) 3 16 := ⟨by decide +kernel, rfl⟩
theorem d23_16 : Dx jdk_65_method_131_code 16 (.iload_n 0) 1 17 := ⟨by decide +kernel, rfl⟩
theorem d23_17 : Dx jdk_65_method_131_code 17 (.invokevirtual 54) 3 20 := ⟨by decide +kernel, rfl⟩
theorem d23_20 : Dx jdk_65_method_131_code 20 (.ldc_w 337) 3 23 := ⟨by decide +kernel, rfl⟩
theorem d23_23 : Dx jdk_65_method_131_code 23 (.invokevirtual 50) 3 26 := ⟨by decide +kernel, rfl⟩
theorem d23_26 : Dx jdk_65_method_131_code 26 (.iload_n 1) 1 27 := ⟨by decide +kernel, rfl⟩
theorem d23_27 : Dx jdk_65_method_131_code 27 (.invokevirtual 54) 3 30 := ⟨by decide +kernel, rfl⟩
theorem d23_30 : Dx jdk_65_method_131_code 30 (.invokevirtual 61) 3 33 := ⟨by decide +kernel, rfl⟩
theorem d23_33 : Dx jdk_65_method_131_code 33 (.invokespecial 65) 3 36 := ⟨by decide +kernel, rfl⟩
theorem d23_36 : Dx jdk_65_method_131_code 36 (.athrow) 1 37 := ⟨by decide +kernel, rfl⟩
theorem d23_37 : Dx jdk_65_method_131_code 37 (.return_) 1 38 := ⟨by decide +kernel, rfl⟩
set_option maxRecDepth 65536 in
set_option maxHeartbeats 40000000 in
theorem c_chk20 {l : Launch} {Z : State} {a0 : Array Value} {EL : List (String × Nat)} {b : Bool} {n0 : Nat} (hw : ∀ d ∈ tables_1, d.before a0 Z = true)  :
    Met l Z a0 EL b n0 (⟨"java/util/Arrays", "checkLength", "(II)V"⟩ : MethodName) jdk_65_method_131_code 2 none [] (rm4 0 0 0 0) [.int 0, .int 20] [] [] (fun v D' S' => v = none ∧ D' = [] ∧ S' = []) := by
  refine Met.of_go (own := "java/util/Arrays") (nm := "checkLength") (Ls := #[.val (.int 0), .val (.int 20)]) (plainFor_of_name png_6) (fun m => by first | (simp [entryFrame, mkF, argsToLocals, Value.category]; done) | rfl) ?_
  refine Go.iloadN d23_0 rfl (G := ?_)
  refine Go.iloadN d23_1 rfl (G := ?_)
  refine Go.icmp d23_2 (pc2 := 37) (Gy := fun _ => ?_) (Gn := fun h => absurd (show ¬ (20 : Int32) < 0 by decide) h)
  exact Go.retV d23_37 ⟨rfl, rfl, rfl⟩
theorem d24_0 : Dx jdk_65_method_133_code 0 (.iload_n 1) 1 1 := ⟨by decide +kernel, rfl⟩
theorem d24_1 : Dx jdk_65_method_133_code 1 (.iload_n 2) 1 2 := ⟨by decide +kernel, rfl⟩
theorem d24_2 : Dx jdk_65_method_133_code 2 (.invokestatic 343) 3 5 := ⟨by decide +kernel, rfl⟩
theorem d24_5 : Dx jdk_65_method_133_code 5 (.iload_n 2) 1 6 := ⟨by decide +kernel, rfl⟩
theorem d24_6 : Dx jdk_65_method_133_code 6 (.iload_n 1) 1 7 := ⟨by decide +kernel, rfl⟩
theorem d24_7 : Dx jdk_65_method_133_code 7 (.isub) 1 8 := ⟨by decide +kernel, rfl⟩
theorem d24_8 : Dx jdk_65_method_133_code 8 (.istore_n 3) 1 9 := ⟨by decide +kernel, rfl⟩
theorem d24_9 : Dx jdk_65_method_133_code 9 (.iload_n 3) 1 10 := ⟨by decide +kernel, rfl⟩
theorem d24_10 : Dx jdk_65_method_133_code 10 (.newarray .byte) 2 12 := ⟨by decide +kernel, rfl⟩
theorem d24_12 : Dx jdk_65_method_133_code 12 (.astore 4) 2 14 := ⟨by decide +kernel, rfl⟩
theorem d24_14 : Dx jdk_65_method_133_code 14 (.aload_n 0) 1 15 := ⟨by decide +kernel, rfl⟩
theorem d24_15 : Dx jdk_65_method_133_code 15 (.iload_n 1) 1 16 := ⟨by decide +kernel, rfl⟩
theorem d24_16 : Dx jdk_65_method_133_code 16 (.aload 4) 2 18 := ⟨by decide +kernel, rfl⟩
theorem d24_18 : Dx jdk_65_method_133_code 18 (.iconst 0) 1 19 := ⟨by decide +kernel, rfl⟩
theorem d24_19 : Dx jdk_65_method_133_code 19 (.aload_n 0) 1 20 := ⟨by decide +kernel, rfl⟩
theorem d24_20 : Dx jdk_65_method_133_code 20 (.arraylength) 1 21 := ⟨by decide +kernel, rfl⟩
theorem d24_21 : Dx jdk_65_method_133_code 21 (.iload_n 1) 1 22 := ⟨by decide +kernel, rfl⟩
theorem d24_22 : Dx jdk_65_method_133_code 22 (.isub) 1 23 := ⟨by decide +kernel, rfl⟩
theorem d24_23 : Dx jdk_65_method_133_code 23 (.iload_n 3) 1 24 := ⟨by decide +kernel, rfl⟩
theorem d24_24 : Dx jdk_65_method_133_code 24 (.invokestatic 304) 3 27 := ⟨by decide +kernel, rfl⟩
theorem d24_27 : Dx jdk_65_method_133_code 27 (.invokestatic 150) 3 30 := ⟨by decide +kernel, rfl⟩
theorem d24_30 : Dx jdk_65_method_133_code 30 (.aload 4) 2 32 := ⟨by decide +kernel, rfl⟩
theorem d24_32 : Dx jdk_65_method_133_code 32 (.areturn) 1 33 := ⟨by decide +kernel, rfl⟩
theorem pdg_16 : parseMethodDescriptor "(II)V" = some ⟨[.int, .int], none⟩ := by decide +kernel
set_option maxRecDepth 65536 in
set_option maxHeartbeats 40000000 in
theorem c_crb34_20 {l : Launch} {Z : State} {a0 : Array Value} {EL : List (String × Nat)} {b : Bool} {n0 : Nat} (hw : ∀ d ∈ tables_1, d.before a0 Z = true) (t : Addr) (y0 y1 y2 y3 y4 y5 y6 y7 y8 y9 y10 y11 y12 y13 y14 y15 y16 y17 y18 y19 : Int32) :
    Met l Z a0 EL b n0 (⟨"java/util/Arrays", "copyOfRangeByte", "([BII)[B"⟩ : MethodName) jdk_65_method_133_code 5 (some (.array .byte)) [] (rm4 1 1 20 18) [.ref t, .int 0, .int 20] [] [(t, .inr (.byte, [.int y0, .int y1, .int y2, .int y3, .int y4, .int y5, .int y6, .int y7, .int y8, .int y9, .int y10, .int y11, .int y12, .int y13, .int y14, .int y15, .int y16, .int y17, .int y18, .int y19, .int 0, .int 0, .int 0, .int 0, .int 0, .int 0, .int 0, .int 0, .int 0, .int 0, .int 0, .int 0, .int 0, .int 0]))] (fun v D' S' => ∃ u, v = some (.ref u) ∧ D' = [(u, .inr (.byte, [.int y0, .int y1, .int y2, .int y3, .int y4, .int y5, .int y6, .int y7, .int y8, .int y9, .int y10, .int y11, .int y12, .int y13, .int y14, .int y15, .int y16, .int y17, .int y18, .int y19]))] ∧ S' = []) := by
  refine Met.of_go (own := "java/util/Arrays") (nm := "copyOfRangeByte") (Ls := #[.val (.ref t), .val (.int 0), .val (.int 20), .unset, .unset]) (plainFor_of_name png_6) (fun m => by first | (simp [entryFrame, mkF, argsToLocals, Value.category]; done) | rfl) ?_
  refine Go.iloadN d24_0 rfl (G := ?_)
  refine Go.iloadN d24_1 rfl (G := ?_)
  refine Go.invokestatic false d24_2 (hw _ (List.mem_of_getElem? (i := 167) rfl)) (hw _ (List.mem_of_getElem? (i := 168) rfl)) (hw _ (List.mem_of_getElem? (i := 125) rfl)) (hw _ (List.mem_of_getElem? (i := 169) rfl)) (c_chk20 hw) pdg_16 rfl (argsL := [.int 0, .int 20]) (rest := []) rfl rfl (Dr := []) rfl eN (G := ?_)
  rintro _ _ _ ⟨rfl, rfl, rfl⟩
  refine Go.norm (D2 := []) (S2 := [(t, .inr (.byte, [.int y0, .int y1, .int y2, .int y3, .int y4, .int y5, .int y6, .int y7, .int y8, .int y9, .int y10, .int y11, .int y12, .int y13, .int y14, .int y15, .int y16, .int y17, .int y18, .int y19, .int 0, .int 0, .int 0, .int 0, .int 0, .int 0, .int 0, .int 0, .int 0, .int 0, .int 0, .int 0, .int 0, .int 0]))]) (c2 := 0) (s2 := 0) (st2 := []) ?_
  refine Go.iloadN d24_5 rfl (G := ?_)
  refine Go.iloadN d24_6 rfl (G := ?_)
  refine Go.isub d24_7 (z := 20) rfl (G := ?_)
  refine Go.istoreN d24_8 (Ls' := #[.val (.ref t), .val (.int 0), .val (.int 20), .val (.int 20), .unset]) rfl (G := ?_)
  refine Go.iloadN d24_9 rfl (G := ?_)
  refine Go.newarray d24_10 (hw _ (List.mem_of_getElem? (i := 19) rfl)) (k := 20) rfl (by decide) (by decide) (vs := [.int 0, .int 0, .int 0, .int 0, .int 0, .int 0, .int 0, .int 0, .int 0, .int 0, .int 0, .int 0, .int 0, .int 0, .int 0, .int 0, .int 0, .int 0, .int 0, .int 0]) rfl (G := fun o1 => ?_)
  refine Go.astore d24_12 (Ls' := #[.val (.ref t), .val (.int 0), .val (.int 20), .val (.int 20), .val (.ref o1)]) rfl (G := ?_)
  refine Go.aloadN d24_14 rfl (G := ?_)
  refine Go.iloadN d24_15 rfl (G := ?_)
  refine Go.aload d24_16 rfl (G := ?_)
  refine Go.iconst d24_18 (v := 0) rfl (G := ?_)
  refine Go.aloadN d24_19 rfl (G := ?_)
  refine Go.arraylength d24_20 (inS (i := 0) rfl) (n := 34) rfl (G := ?_)
  refine Go.iloadN d24_21 rfl (G := ?_)
  refine Go.isub d24_22 (z := 34) rfl (G := ?_)
  refine Go.iloadN d24_23 rfl (G := ?_)
  refine Go.invokestatic false d24_24 (hw _ (List.mem_of_getElem? (i := 127) rfl)) (hw _ (List.mem_of_getElem? (i := 128) rfl)) (hw _ (List.mem_of_getElem? (i := 119) rfl)) (hw _ (List.mem_of_getElem? (i := 129) rfl)) (c_min_34_20 hw) pdg_12 rfl (argsL := [.int 34, .int 20]) (rest := [.int 0, .ref o1, .int 0, .ref t]) rfl rfl (Dr := [(o1, .inr (.byte, [.int 0, .int 0, .int 0, .int 0, .int 0, .int 0, .int 0, .int 0, .int 0, .int 0, .int 0, .int 0, .int 0, .int 0, .int 0, .int 0, .int 0, .int 0, .int 0, .int 0]))]) rfl eN (G := ?_)
  rintro _ _ _ ⟨rfl, rfl, rfl⟩
  refine Go.norm (D2 := [(o1, .inr (.byte, [.int 0, .int 0, .int 0, .int 0, .int 0, .int 0, .int 0, .int 0, .int 0, .int 0, .int 0, .int 0, .int 0, .int 0, .int 0, .int 0, .int 0, .int 0, .int 0, .int 0]))]) (S2 := [(t, .inr (.byte, [.int y0, .int y1, .int y2, .int y3, .int y4, .int y5, .int y6, .int y7, .int y8, .int y9, .int y10, .int y11, .int y12, .int y13, .int y14, .int y15, .int y16, .int y17, .int y18, .int y19, .int 0, .int 0, .int 0, .int 0, .int 0, .int 0, .int 0, .int 0, .int 0, .int 0, .int 0, .int 0, .int 0, .int 0]))]) (c2 := 1) (s2 := 20) (st2 := [.int 20, .int 0, .ref o1, .int 0, .ref t]) ?_
  refine Go.arraycopy d24_27 (hw _ (List.mem_of_getElem? (i := 130) rfl)) (hw _ (List.mem_of_getElem? (i := 106) rfl)) (hw _ (List.mem_of_getElem? (i := 104) rfl)) (hw _ (List.mem_of_getElem? (i := 105) rfl)) (inS (i := 0) rfl) 0 rfl rfl (by decide) (by decide) (by decide) (Nat.le_of_ble_eq_true rfl) (Nat.le_of_ble_eq_true rfl) (D' := [(o1, .inr (.byte, [.int y0, .int y1, .int y2, .int y3, .int y4, .int y5, .int y6, .int y7, .int y8, .int y9, .int y10, .int y11, .int y12, .int y13, .int y14, .int y15, .int y16, .int y17, .int y18, .int y19]))]) rfl (G := ?_)
  refine Go.aload d24_30 rfl (G := ?_)
  refine Go.sub [0] (by decide) rfl (D' := [(o1, .inr (.byte, [.int y0, .int y1, .int y2, .int y3, .int y4, .int y5, .int y6, .int y7, .int y8, .int y9, .int y10, .int y11, .int y12, .int y13, .int y14, .int y15, .int y16, .int y17, .int y18, .int y19]))]) rfl (S' := []) eN (G := ?_)
  exact Go.retA d24_32 ⟨o1, rfl, rfl, rfl⟩
theorem d25_0 : Dx jdk_65_method_132_code 0 (.iload_n 1) 1 1 := ⟨by decide +kernel, rfl⟩
theorem d25_1 : Dx jdk_65_method_132_code 1 (.ifCond .ne 9) 3 4 := ⟨by decide +kernel, rfl⟩
theorem d25_4 : Dx jdk_65_method_132_code 4 (.iload_n 2) 1 5 := ⟨by decide +kernel, rfl⟩
theorem d25_5 : Dx jdk_65_method_132_code 5 (.aload_n 0) 1 6 := ⟨by decide +kernel, rfl⟩
theorem d25_6 : Dx jdk_65_method_132_code 6 (.arraylength) 1 7 := ⟨by decide +kernel, rfl⟩
theorem d25_7 : Dx jdk_65_method_132_code 7 (.if_icmp .eq 10) 3 10 := ⟨by decide +kernel, rfl⟩
theorem d25_10 : Dx jdk_65_method_132_code 10 (.aload_n 0) 1 11 := ⟨by decide +kernel, rfl⟩
theorem d25_11 : Dx jdk_65_method_132_code 11 (.iload_n 1) 1 12 := ⟨by decide +kernel, rfl⟩
theorem d25_12 : Dx jdk_65_method_132_code 12 (.iload_n 2) 1 13 := ⟨by decide +kernel, rfl⟩
theorem d25_13 : Dx jdk_65_method_132_code 13 (.invokestatic 339) 3 16 := ⟨by decide +kernel, rfl⟩
theorem d25_16 : Dx jdk_65_method_132_code 16 (.areturn) 1 17 := ⟨by decide +kernel, rfl⟩
theorem d25_17 : Dx jdk_65_method_132_code 17 (.aload_n 0) 1 18 := ⟨by decide +kernel, rfl⟩
theorem d25_18 : Dx jdk_65_method_132_code 18 (.invokevirtual 310) 3 21 := ⟨by decide +kernel, rfl⟩
theorem d25_21 : Dx jdk_65_method_132_code 21 (.checkcast 311) 3 24 := ⟨by decide +kernel, rfl⟩
theorem d25_24 : Dx jdk_65_method_132_code 24 (.areturn) 1 25 := ⟨by decide +kernel, rfl⟩
theorem pdg_17 : parseMethodDescriptor "([BII)[B" = some ⟨[.array .byte, .int, .int], some (.array .byte)⟩ := by decide +kernel
set_option maxRecDepth 65536 in
set_option maxHeartbeats 40000000 in
theorem c_cr34_20 {l : Launch} {Z : State} {a0 : Array Value} {EL : List (String × Nat)} {b : Bool} {n0 : Nat} (hw : ∀ d ∈ tables_1, d.before a0 Z = true) (t : Addr) (y0 y1 y2 y3 y4 y5 y6 y7 y8 y9 y10 y11 y12 y13 y14 y15 y16 y17 y18 y19 : Int32) :
    Met l Z a0 EL b n0 (⟨"java/util/Arrays", "copyOfRange", "([BII)[B"⟩ : MethodName) jdk_65_method_132_code 3 (some (.array .byte)) [] (rm4 2 1 20 34) [.ref t, .int 0, .int 20] [] [(t, .inr (.byte, [.int y0, .int y1, .int y2, .int y3, .int y4, .int y5, .int y6, .int y7, .int y8, .int y9, .int y10, .int y11, .int y12, .int y13, .int y14, .int y15, .int y16, .int y17, .int y18, .int y19, .int 0, .int 0, .int 0, .int 0, .int 0, .int 0, .int 0, .int 0, .int 0, .int 0, .int 0, .int 0, .int 0, .int 0]))] (fun v D' S' => ∃ u, v = some (.ref u) ∧ D' = [(u, .inr (.byte, [.int y0, .int y1, .int y2, .int y3, .int y4, .int y5, .int y6, .int y7, .int y8, .int y9, .int y10, .int y11, .int y12, .int y13, .int y14, .int y15, .int y16, .int y17, .int y18, .int y19]))] ∧ S' = []) := by
  refine Met.of_go (own := "java/util/Arrays") (nm := "copyOfRange") (Ls := #[.val (.ref t), .val (.int 0), .val (.int 20)]) (plainFor_of_name png_6) (fun m => by first | (simp [entryFrame, mkF, argsToLocals, Value.category]; done) | rfl) ?_
  refine Go.iloadN d25_0 rfl (G := ?_)
  refine Go.ifc d25_1 (pc2 := 10) (Gy := fun h => absurd h (show ¬ (¬ (0 : Int32) = 0) by decide)) (Gn := fun _ => ?_)
  refine Go.iloadN d25_4 rfl (G := ?_)
  refine Go.aloadN d25_5 rfl (G := ?_)
  refine Go.arraylength d25_6 (inS (i := 0) rfl) (n := 34) rfl (G := ?_)
  refine Go.icmp d25_7 (pc2 := 17) (Gy := fun h => absurd h (show ¬ ((20 : Int32) = 34) by decide)) (Gn := fun _ => ?_)
  refine Go.aloadN d25_10 rfl (G := ?_)
  refine Go.iloadN d25_11 rfl (G := ?_)
  refine Go.iloadN d25_12 rfl (G := ?_)
  refine Go.invokestatic false d25_13 (hw _ (List.mem_of_getElem? (i := 164) rfl)) (hw _ (List.mem_of_getElem? (i := 165) rfl)) (hw _ (List.mem_of_getElem? (i := 125) rfl)) (hw _ (List.mem_of_getElem? (i := 166) rfl)) (c_crb34_20 hw t y0 y1 y2 y3 y4 y5 y6 y7 y8 y9 y10 y11 y12 y13 y14 y15 y16 y17 y18 y19) pdg_17 rfl (argsL := [.ref t, .int 0, .int 20]) (rest := []) rfl rfl (Dr := []) rfl (eS (Or.inl (List.mem_of_getElem? (i := 0) rfl)) eN) (G := ?_)
  rintro _ _ _ ⟨u, rfl, rfl, rfl⟩
  refine Go.norm (D2 := [(u, .inr (.byte, [.int y0, .int y1, .int y2, .int y3, .int y4, .int y5, .int y6, .int y7, .int y8, .int y9, .int y10, .int y11, .int y12, .int y13, .int y14, .int y15, .int y16, .int y17, .int y18, .int y19]))]) (S2 := [(t, .inr (.byte, [.int y0, .int y1, .int y2, .int y3, .int y4, .int y5, .int y6, .int y7, .int y8, .int y9, .int y10, .int y11, .int y12, .int y13, .int y14, .int y15, .int y16, .int y17, .int y18, .int y19, .int 0, .int 0, .int 0, .int 0, .int 0, .int 0, .int 0, .int 0, .int 0, .int 0, .int 0, .int 0, .int 0, .int 0]))]) (c2 := 1) (s2 := 20) (st2 := [.ref u]) ?_
  refine Go.sub [0] (by decide) rfl (D' := [(u, .inr (.byte, [.int y0, .int y1, .int y2, .int y3, .int y4, .int y5, .int y6, .int y7, .int y8, .int y9, .int y10, .int y11, .int y12, .int y13, .int y14, .int y15, .int y16, .int y17, .int y18, .int y19]))]) rfl (S' := []) eN (G := ?_)
  exact Go.retA d25_16 ⟨u, rfl, rfl, rfl⟩
theorem d26_0 : Dx jdk_68_method_64_code 0 (.aload_n 0) 1 1 := ⟨by decide +kernel, rfl⟩
theorem d26_1 : Dx jdk_68_method_64_code 1 (.getfield 15) 3 4 := ⟨by decide +kernel, rfl⟩
theorem d26_4 : Dx jdk_68_method_64_code 4 (.areturn) 1 5 := ⟨by decide +kernel, rfl⟩
set_option maxRecDepth 65536 in
set_option maxHeartbeats 40000000 in
theorem c_gv34_20 {l : Launch} {Z : State} {a0 : Array Value} {EL : List (String × Nat)} {b : Bool} {n0 : Nat} (hw : ∀ d ∈ tables_1, d.before a0 Z = true) (a t : Addr) :
    Met l Z a0 EL b n0 (⟨"java/lang/AbstractStringBuilder", "getValue", "()[B"⟩ : MethodName) jdk_68_method_64_code 1 (some (.array .byte)) [] (rm4 0 0 0 0) [.ref a] [] [(a, .inl ("java/lang/StringBuilder", [("java/lang/AbstractStringBuilder", "value", "[B", .ref t), ("java/lang/AbstractStringBuilder", "coder", "B", .int 0), ("java/lang/AbstractStringBuilder", "count", "I", .int 20)]))] (fun v D' S' => v = some (.ref t) ∧ D' = [] ∧ S' = []) := by
  refine Met.of_go (own := "java/lang/AbstractStringBuilder") (nm := "getValue") (Ls := #[.val (.ref a)]) (plainFor_of_name png_3) (fun m => by first | (simp [entryFrame, mkF, argsToLocals, Value.category]; done) | rfl) ?_
  refine Go.aloadN d26_0 rfl (G := ?_)
  refine Go.getfield d26_1 (host := "") (Or.inl (hw _ (List.mem_of_getElem? (i := 53) rfl))) Via.refl (inS (i := 0) rfl) 0 rfl (G := ?_)
  refine Go.sub [] (by decide) rfl (D' := []) rfl (S' := []) eN (G := ?_)
  exact Go.retA d26_4 ⟨rfl, rfl, rfl⟩
theorem d27_0 : Dx jdk_68_method_6_code 0 (.aload_n 0) 1 1 := ⟨by decide +kernel, rfl⟩
theorem d27_1 : Dx jdk_68_method_6_code 1 (.getfield 79) 3 4 := ⟨by decide +kernel, rfl⟩
theorem d27_4 : Dx jdk_68_method_6_code 4 (.ireturn) 1 5 := ⟨by decide +kernel, rfl⟩
set_option maxRecDepth 65536 in
set_option maxHeartbeats 40000000 in
theorem c_al34_20 {l : Launch} {Z : State} {a0 : Array Value} {EL : List (String × Nat)} {b : Bool} {n0 : Nat} (hw : ∀ d ∈ tables_1, d.before a0 Z = true) (a t : Addr) :
    Met l Z a0 EL b n0 (⟨"java/lang/AbstractStringBuilder", "length", "()I"⟩ : MethodName) jdk_68_method_6_code 1 (some .int) [] (rm4 0 0 0 0) [.ref a] [] [(a, .inl ("java/lang/StringBuilder", [("java/lang/AbstractStringBuilder", "value", "[B", .ref t), ("java/lang/AbstractStringBuilder", "coder", "B", .int 0), ("java/lang/AbstractStringBuilder", "count", "I", .int 20)]))] (fun v D' S' => v = some (.int 20) ∧ D' = [] ∧ S' = []) := by
  refine Met.of_go (own := "java/lang/AbstractStringBuilder") (nm := "length") (Ls := #[.val (.ref a)]) (plainFor_of_name png_3) (fun m => by first | (simp [entryFrame, mkF, argsToLocals, Value.category]; done) | rfl) ?_
  refine Go.aloadN d27_0 rfl (G := ?_)
  refine Go.getfield d27_1 (host := "") (Or.inl (hw _ (List.mem_of_getElem? (i := 80) rfl))) Via.refl (inS (i := 0) rfl) 2 rfl (G := ?_)
  refine Go.sub [] (by decide) rfl (D' := []) rfl (S' := []) eN (G := ?_)
  exact Go.retI d27_4 ⟨rfl, rfl, rfl⟩
theorem d28_0 : Dx jdk_67_method_93_code 0 (.aload_n 0) 1 1 := ⟨by decide +kernel, rfl⟩
theorem d28_1 : Dx jdk_67_method_93_code 1 (.invokespecial 343) 3 4 := ⟨by decide +kernel, rfl⟩
theorem d28_4 : Dx jdk_67_method_93_code 4 (.ireturn) 1 5 := ⟨by decide +kernel, rfl⟩
set_option maxRecDepth 65536 in
set_option maxHeartbeats 40000000 in
theorem c_sl34_20 {l : Launch} {Z : State} {a0 : Array Value} {EL : List (String × Nat)} {b : Bool} {n0 : Nat} (hw : ∀ d ∈ tables_1, d.before a0 Z = true) (a t : Addr) :
    Met l Z a0 EL b n0 (⟨"java/lang/StringBuilder", "length", "()I"⟩ : MethodName) jdk_67_method_93_code 1 (some .int) [] (rm4 1 0 0 12) [.ref a] [] [(a, .inl ("java/lang/StringBuilder", [("java/lang/AbstractStringBuilder", "value", "[B", .ref t), ("java/lang/AbstractStringBuilder", "coder", "B", .int 0), ("java/lang/AbstractStringBuilder", "count", "I", .int 20)]))] (fun v D' S' => v = some (.int 20) ∧ D' = [] ∧ S' = []) := by
  refine Met.of_go (own := "java/lang/StringBuilder") (nm := "length") (Ls := #[.val (.ref a)]) (plainFor_of_name png_4) (fun m => by first | (simp [entryFrame, mkF, argsToLocals, Value.category]; done) | rfl) ?_
  refine Go.aloadN d28_0 rfl (G := ?_)
  refine Go.invokesuper false d28_1 (by decide) (hw _ (List.mem_of_getElem? (i := 154) rfl)) (hw _ (List.mem_of_getElem? (i := 150) rfl)) (sameOwn (hw _ (List.mem_of_getElem? (i := 150) rfl)) (hw _ (List.mem_of_getElem? (i := 85) rfl)) rfl (by decide)) (hw _ (List.mem_of_getElem? (i := 67) rfl)) (hw _ (List.mem_of_getElem? (i := 49) rfl)) (hw _ (List.mem_of_getElem? (i := 155) rfl)) (inS (i := 0) rfl) (c_al34_20 hw a t) pdg_9 rfl (argsL := []) (rest := []) rfl rfl (Dr := []) rfl (eS (Or.inl (List.mem_of_getElem? (i := 0) rfl)) eN) (G := ?_)
  rintro _ _ _ ⟨rfl, rfl, rfl⟩
  refine Go.norm (D2 := []) (S2 := [(a, .inl ("java/lang/StringBuilder", [("java/lang/AbstractStringBuilder", "value", "[B", .ref t), ("java/lang/AbstractStringBuilder", "coder", "B", .int 0), ("java/lang/AbstractStringBuilder", "count", "I", .int 20)]))]) (c2 := 0) (s2 := 0) (st2 := [.int 20]) ?_
  refine Go.sub [] (by decide) rfl (D' := []) rfl (S' := []) eN (G := ?_)
  exact Go.retI d28_4 ⟨rfl, rfl, rfl⟩
theorem d29_0 : Dx jdk_68_method_68_code 0 (.getstatic 18) 3 3 := ⟨by decide +kernel, rfl⟩
theorem d29_3 : Dx jdk_68_method_68_code 3 (.ifCond .eq 14) 3 6 := ⟨by decide +kernel, rfl⟩
theorem d29_6 : Dx jdk_68_method_68_code 6 (.aload_n 0) 1 7 := ⟨by decide +kernel, rfl⟩
theorem d29_7 : Dx jdk_68_method_68_code 7 (.getfield 22) 3 10 := ⟨by decide +kernel, rfl⟩
theorem d29_10 : Dx jdk_68_method_68_code 10 (.ifCond .ne 7) 3 13 := ⟨by decide +kernel, rfl⟩
theorem d29_13 : Dx jdk_68_method_68_code 13 (.iconst 1) 1 14 := ⟨by decide +kernel, rfl⟩
theorem d29_14 : Dx jdk_68_method_68_code 14 (.goto 4) 3 17 := ⟨by decide +kernel, rfl⟩
theorem d29_17 : Dx jdk_68_method_68_code 17 (.iconst 0) 1 18 := ⟨by decide +kernel, rfl⟩
theorem d29_18 : Dx jdk_68_method_68_code 18 (.ireturn) 1 19 := ⟨by decide +kernel, rfl⟩
set_option maxRecDepth 65536 in
set_option maxHeartbeats 40000000 in
theorem c_il34_20 {l : Launch} {Z : State} {a0 : Array Value} {EL : List (String × Nat)} {b : Bool} {n0 : Nat} (hw : ∀ d ∈ tables_1, d.before a0 Z = true) (a t : Addr) (cpt : Int32) (hCS : Sta Z Z.heap "java/lang/String" "COMPACT_STRINGS" "Z" (.int cpt)) (hcpt : ¬ cpt = 0) :
    Met l Z a0 EL b n0 (⟨"java/lang/AbstractStringBuilder", "isLatin1", "()Z"⟩ : MethodName) jdk_68_method_68_code 1 (some .boolean) [] (rm4 0 0 0 0) [.ref a] [] [(a, .inl ("java/lang/StringBuilder", [("java/lang/AbstractStringBuilder", "value", "[B", .ref t), ("java/lang/AbstractStringBuilder", "coder", "B", .int 0), ("java/lang/AbstractStringBuilder", "count", "I", .int 20)]))] (fun v D' S' => v = some (.int 1) ∧ D' = [] ∧ S' = []) := by
  refine Met.of_go (own := "java/lang/AbstractStringBuilder") (nm := "isLatin1") (Ls := #[.val (.ref a)]) (plainFor_of_name png_3) (fun m => by first | (simp [entryFrame, mkF, argsToLocals, Value.category]; done) | rfl) ?_
  refine Go.getstatic d29_0 (host := "") (Or.inl (hw _ (List.mem_of_getElem? (i := 52) rfl))) Via.refl hCS (G := ?_)
  refine Go.ifc d29_3 (pc2 := 17) (Gy := fun h => absurd h (show ¬ (cpt = 0) from hcpt)) (Gn := fun _ => ?_)
  refine Go.aloadN d29_6 rfl (G := ?_)
  refine Go.getfield d29_7 (host := "") (Or.inl (hw _ (List.mem_of_getElem? (i := 55) rfl))) Via.refl (inS (i := 0) rfl) 1 rfl (G := ?_)
  refine Go.ifc d29_10 (pc2 := 17) (Gy := fun h => absurd h (show ¬ (¬ (0 : Int32) = 0) by decide)) (Gn := fun _ => ?_)
  refine Go.iconst d29_13 (v := 1) rfl (G := ?_)
  refine Go.goto d29_14 (pc2 := 18) (G := ?_)
  refine Go.sub [] (by decide) rfl (D' := []) rfl (S' := []) eN (G := ?_)
  exact Go.retB d29_18 (by simp) (z' := 1) rfl ⟨rfl, rfl, rfl⟩
theorem d30_0 : Dx jdk_42_method_150_code 0 (.aload_n 0) 1 1 := ⟨by decide +kernel, rfl⟩
theorem d30_1 : Dx jdk_42_method_150_code 1 (.invokespecial 1) 3 4 := ⟨by decide +kernel, rfl⟩
theorem d30_4 : Dx jdk_42_method_150_code 4 (.aload_n 1) 1 5 := ⟨by decide +kernel, rfl⟩
theorem d30_5 : Dx jdk_42_method_150_code 5 (.invokevirtual 552) 3 8 := ⟨by decide +kernel, rfl⟩
theorem d30_8 : Dx jdk_42_method_150_code 8 (.astore_n 3) 1 9 := ⟨by decide +kernel, rfl⟩
theorem d30_9 : Dx jdk_42_method_150_code 9 (.aload_n 1) 1 10 := ⟨by decide +kernel, rfl⟩
theorem d30_10 : Dx jdk_42_method_150_code 10 (.invokevirtual 549) 3 13 := ⟨by decide +kernel, rfl⟩
theorem d30_13 : Dx jdk_42_method_150_code 13 (.istore 4) 2 15 := ⟨by decide +kernel, rfl⟩
theorem d30_15 : Dx jdk_42_method_150_code 15 (.aload_n 1) 1 16 := ⟨by decide +kernel, rfl⟩
theorem d30_16 : Dx jdk_42_method_150_code 16 (.invokevirtual 1047) 3 19 := ⟨by decide +kernel, rfl⟩
theorem d30_19 : Dx jdk_42_method_150_code 19 (.ifCond .eq 22) 3 22 := ⟨by decide +kernel, rfl⟩
theorem d30_22 : Dx jdk_42_method_150_code 22 (.aload_n 0) 1 23 := ⟨by decide +kernel, rfl⟩
theorem d30_23 : Dx jdk_42_method_150_code 23 (.iconst 0) 1 24 := ⟨by decide +kernel, rfl⟩
theorem d30_24 : Dx jdk_42_method_150_code 24 (.putfield 15) 3 27 := ⟨by decide +kernel, rfl⟩
theorem d30_27 : Dx jdk_42_method_150_code 27 (.aload_n 0) 1 28 := ⟨by decide +kernel, rfl⟩
theorem d30_28 : Dx jdk_42_method_150_code 28 (.aload_n 3) 1 29 := ⟨by decide +kernel, rfl⟩
theorem d30_29 : Dx jdk_42_method_150_code 29 (.iconst 0) 1 30 := ⟨by decide +kernel, rfl⟩
theorem d30_30 : Dx jdk_42_method_150_code 30 (.iload 4) 2 32 := ⟨by decide +kernel, rfl⟩
theorem d30_32 : Dx jdk_42_method_150_code 32 (.invokestatic 54) 3 35 := ⟨by decide +kernel, rfl⟩
theorem d30_35 : Dx jdk_42_method_150_code 35 (.putfield 9) 3 38 := ⟨by decide +kernel, rfl⟩
theorem d30_38 : Dx jdk_42_method_150_code 38 (.goto 59) 3 41 := ⟨by decide +kernel, rfl⟩
theorem d30_41 : Dx jdk_42_method_150_code 41 (.getstatic 38) 3 44 := ⟨by decide +kernel, rfl⟩
theorem d30_44 : Dx jdk_42_method_150_code 44 (.ifCond .eq 35) 3 47 := ⟨by decide +kernel, rfl⟩
theorem d30_47 : Dx jdk_42_method_150_code 47 (.aload_n 1) 1 48 := ⟨by decide +kernel, rfl⟩
theorem d30_48 : Dx jdk_42_method_150_code 48 (.getfield 1048) 3 51 := ⟨by decide +kernel, rfl⟩
theorem d30_51 : Dx jdk_42_method_150_code 51 (.ifCond .eq 28) 3 54 := ⟨by decide +kernel, rfl⟩
theorem d30_54 : Dx jdk_42_method_150_code 54 (.aload_n 0) 1 55 := ⟨by decide +kernel, rfl⟩
theorem d30_55 : Dx jdk_42_method_150_code 55 (.aload_n 3) 1 56 := ⟨by decide +kernel, rfl⟩
theorem d30_56 : Dx jdk_42_method_150_code 56 (.iconst 0) 1 57 := ⟨by decide +kernel, rfl⟩
theorem d30_57 : Dx jdk_42_method_150_code 57 (.iload 4) 2 59 := ⟨by decide +kernel, rfl⟩
theorem d30_59 : Dx jdk_42_method_150_code 59 (.invokestatic 1051) 3 62 := ⟨by decide +kernel, rfl⟩
theorem d30_62 : Dx jdk_42_method_150_code 62 (.putfield 9) 3 65 := ⟨by decide +kernel, rfl⟩
theorem d30_65 : Dx jdk_42_method_150_code 65 (.aload_n 0) 1 66 := ⟨by decide +kernel, rfl⟩
theorem d30_66 : Dx jdk_42_method_150_code 66 (.aload_n 0) 1 67 := ⟨by decide +kernel, rfl⟩
theorem d30_67 : Dx jdk_42_method_150_code 67 (.getfield 9) 3 70 := ⟨by decide +kernel, rfl⟩
theorem d30_70 : Dx jdk_42_method_150_code 70 (.iload 4) 2 72 := ⟨by decide +kernel, rfl⟩
theorem d30_72 : Dx jdk_42_method_150_code 72 (.invokestatic 47) 3 75 := ⟨by decide +kernel, rfl⟩
theorem d30_75 : Dx jdk_42_method_150_code 75 (.putfield 15) 3 78 := ⟨by decide +kernel, rfl⟩
theorem d30_78 : Dx jdk_42_method_150_code 78 (.return_) 1 79 := ⟨by decide +kernel, rfl⟩
theorem d30_79 : Dx jdk_42_method_150_code 79 (.aload_n 0) 1 80 := ⟨by decide +kernel, rfl⟩
theorem d30_80 : Dx jdk_42_method_150_code 80 (.iconst 1) 1 81 := ⟨by decide +kernel, rfl⟩
theorem d30_81 : Dx jdk_42_method_150_code 81 (.putfield 15) 3 84 := ⟨by decide +kernel, rfl⟩
theorem d30_84 : Dx jdk_42_method_150_code 84 (.aload_n 0) 1 85 := ⟨by decide +kernel, rfl⟩
theorem d30_85 : Dx jdk_42_method_150_code 85 (.aload_n 3) 1 86 := ⟨by decide +kernel, rfl⟩
theorem d30_86 : Dx jdk_42_method_150_code 86 (.iconst 0) 1 87 := ⟨by decide +kernel, rfl⟩
theorem d30_87 : Dx jdk_42_method_150_code 87 (.iload 4) 2 89 := ⟨by decide +kernel, rfl⟩
theorem d30_89 : Dx jdk_42_method_150_code 89 (.iconst 1) 1 90 := ⟨by decide +kernel, rfl⟩
theorem d30_90 : Dx jdk_42_method_150_code 90 (.ishl) 1 91 := ⟨by decide +kernel, rfl⟩
theorem d30_91 : Dx jdk_42_method_150_code 91 (.invokestatic 54) 3 94 := ⟨by decide +kernel, rfl⟩
theorem d30_94 : Dx jdk_42_method_150_code 94 (.putfield 9) 3 97 := ⟨by decide +kernel, rfl⟩
theorem d30_97 : Dx jdk_42_method_150_code 97 (.return_) 1 98 := ⟨by decide +kernel, rfl⟩
theorem pdg_18 : parseMethodDescriptor "()[B" = some ⟨[], some (.array .byte)⟩ := by decide +kernel
theorem pdg_19 : parseMethodDescriptor "()Z" = some ⟨[], some .boolean⟩ := by decide +kernel
set_option maxRecDepth 65536 in
set_option maxHeartbeats 40000000 in
theorem c_iv34_20 {l : Launch} {Z : State} {a0 : Array Value} {EL : List (String × Nat)} {b : Bool} {n0 : Nat} (hw : ∀ d ∈ tables_1, d.before a0 Z = true) (s a t : Addr) (y0 y1 y2 y3 y4 y5 y6 y7 y8 y9 y10 y11 y12 y13 y14 y15 y16 y17 y18 y19 : Int32) (cpt : Int32) (hCS : Sta Z Z.heap "java/lang/String" "COMPACT_STRINGS" "Z" (.int cpt)) (hcpt : ¬ cpt = 0) :
    Met l Z a0 EL b n0 (⟨"java/lang/String", "<init>", "(Ljava/lang/AbstractStringBuilder;Ljava/lang/Void;)V"⟩ : MethodName) jdk_42_method_150_code 5 none [] (rm4 3 1 20 49) [.ref s, .ref a, .null] [(s, .inl ("java/lang/String", [("java/lang/String", "value", "[B", .null), ("java/lang/String", "coder", "B", .int 0)]))] [(a, .inl ("java/lang/StringBuilder", [("java/lang/AbstractStringBuilder", "value", "[B", .ref t), ("java/lang/AbstractStringBuilder", "coder", "B", .int 0), ("java/lang/AbstractStringBuilder", "count", "I", .int 20)])), (t, .inr (.byte, [.int y0, .int y1, .int y2, .int y3, .int y4, .int y5, .int y6, .int y7, .int y8, .int y9, .int y10, .int y11, .int y12, .int y13, .int y14, .int y15, .int y16, .int y17, .int y18, .int y19, .int 0, .int 0, .int 0, .int 0, .int 0, .int 0, .int 0, .int 0, .int 0, .int 0, .int 0, .int 0, .int 0, .int 0]))] (fun v D' S' => ∃ u, v = none ∧ D' = [(s, .inl ("java/lang/String", [("java/lang/String", "value", "[B", .ref u), ("java/lang/String", "coder", "B", .int 0)])), (u, .inr (.byte, [.int y0, .int y1, .int y2, .int y3, .int y4, .int y5, .int y6, .int y7, .int y8, .int y9, .int y10, .int y11, .int y12, .int y13, .int y14, .int y15, .int y16, .int y17, .int y18, .int y19]))] ∧ S' = []) := by
  refine Met.of_go (own := "java/lang/String") (nm := "<init>") (Ls := #[.val (.ref s), .val (.ref a), .val .null, .unset, .unset]) (plainFor_of_name png_1) (fun m => by first | (simp [entryFrame, mkF, argsToLocals, Value.category]; done) | rfl) ?_
  refine Go.aloadN d30_0 rfl (G := ?_)
  refine Go.objInit d30_1 (hw _ (List.mem_of_getElem? (i := 11) rfl)) (hw _ (List.mem_of_getElem? (i := 12) rfl)) (hw _ (List.mem_of_getElem? (i := 13) rfl)) rfl (Nat.le_of_ble_eq_true rfl) (Nat.le_of_ble_eq_true rfl) (G := ?_)
  refine Go.aloadN d30_4 rfl (G := ?_)
  refine Go.invokevirtual false d30_5 (hw _ (List.mem_of_getElem? (i := 143) rfl)) (hw _ (List.mem_of_getElem? (i := 144) rfl)) (hw _ (List.mem_of_getElem? (i := 146) rfl)) (hw _ (List.mem_of_getElem? (i := 145) rfl)) (hw _ (List.mem_of_getElem? (i := 49) rfl)) (hw _ (List.mem_of_getElem? (i := 147) rfl)) (nfSel (hw _ (List.mem_of_getElem? (i := 146) rfl))) (inS (i := 0) rfl) (c_gv34_20 hw a t) pdg_18 rfl (argsL := []) (rest := []) rfl rfl (Dr := [(s, .inl ("java/lang/String", [("java/lang/String", "value", "[B", .null), ("java/lang/String", "coder", "B", .int 0)]))]) rfl (eS (Or.inl (List.mem_of_getElem? (i := 0) rfl)) eN) (G := ?_)
  rintro _ _ _ ⟨rfl, rfl, rfl⟩
  refine Go.norm (D2 := [(s, .inl ("java/lang/String", [("java/lang/String", "value", "[B", .null), ("java/lang/String", "coder", "B", .int 0)]))]) (S2 := [(a, .inl ("java/lang/StringBuilder", [("java/lang/AbstractStringBuilder", "value", "[B", .ref t), ("java/lang/AbstractStringBuilder", "coder", "B", .int 0), ("java/lang/AbstractStringBuilder", "count", "I", .int 20)])), (t, .inr (.byte, [.int y0, .int y1, .int y2, .int y3, .int y4, .int y5, .int y6, .int y7, .int y8, .int y9, .int y10, .int y11, .int y12, .int y13, .int y14, .int y15, .int y16, .int y17, .int y18, .int y19, .int 0, .int 0, .int 0, .int 0, .int 0, .int 0, .int 0, .int 0, .int 0, .int 0, .int 0, .int 0, .int 0, .int 0]))]) (c2 := 0) (s2 := 0) (st2 := [.ref t]) ?_
  refine Go.astoreN d30_8 (Ls' := #[.val (.ref s), .val (.ref a), .val .null, .val (.ref t), .unset]) rfl (G := ?_)
  refine Go.aloadN d30_9 rfl (G := ?_)
  refine Go.invokevirtual false d30_10 (hw _ (List.mem_of_getElem? (i := 148) rfl)) (hw _ (List.mem_of_getElem? (i := 149) rfl)) (hw _ (List.mem_of_getElem? (i := 151) rfl)) (hw _ (List.mem_of_getElem? (i := 152) rfl)) (hw _ (List.mem_of_getElem? (i := 41) rfl)) (hw _ (List.mem_of_getElem? (i := 153) rfl)) (nfCls (hw _ (List.mem_of_getElem? (i := 85) rfl)) rfl) (inS (i := 0) rfl) (c_sl34_20 hw a t) pdg_9 rfl (argsL := []) (rest := []) rfl rfl (Dr := [(s, .inl ("java/lang/String", [("java/lang/String", "value", "[B", .null), ("java/lang/String", "coder", "B", .int 0)]))]) rfl (eS (Or.inl (List.mem_of_getElem? (i := 0) rfl)) eN) (G := ?_)
  rintro _ _ _ ⟨rfl, rfl, rfl⟩
  refine Go.norm (D2 := [(s, .inl ("java/lang/String", [("java/lang/String", "value", "[B", .null), ("java/lang/String", "coder", "B", .int 0)]))]) (S2 := [(a, .inl ("java/lang/StringBuilder", [("java/lang/AbstractStringBuilder", "value", "[B", .ref t), ("java/lang/AbstractStringBuilder", "coder", "B", .int 0), ("java/lang/AbstractStringBuilder", "count", "I", .int 20)])), (t, .inr (.byte, [.int y0, .int y1, .int y2, .int y3, .int y4, .int y5, .int y6, .int y7, .int y8, .int y9, .int y10, .int y11, .int y12, .int y13, .int y14, .int y15, .int y16, .int y17, .int y18, .int y19, .int 0, .int 0, .int 0, .int 0, .int 0, .int 0, .int 0, .int 0, .int 0, .int 0, .int 0, .int 0, .int 0, .int 0]))]) (c2 := 0) (s2 := 0) (st2 := [.int 20]) ?_
  refine Go.istore d30_13 (Ls' := #[.val (.ref s), .val (.ref a), .val .null, .val (.ref t), .val (.int 20)]) rfl (G := ?_)
  refine Go.aloadN d30_15 rfl (G := ?_)
  refine Go.invokevirtual false d30_16 (hw _ (List.mem_of_getElem? (i := 156) rfl)) (hw _ (List.mem_of_getElem? (i := 157) rfl)) (hw _ (List.mem_of_getElem? (i := 159) rfl)) (hw _ (List.mem_of_getElem? (i := 158) rfl)) (hw _ (List.mem_of_getElem? (i := 49) rfl)) (hw _ (List.mem_of_getElem? (i := 160) rfl)) (nfSel (hw _ (List.mem_of_getElem? (i := 159) rfl))) (inS (i := 0) rfl) (c_il34_20 hw a t cpt hCS hcpt) pdg_19 rfl (argsL := []) (rest := []) rfl rfl (Dr := [(s, .inl ("java/lang/String", [("java/lang/String", "value", "[B", .null), ("java/lang/String", "coder", "B", .int 0)]))]) rfl (eS (Or.inl (List.mem_of_getElem? (i := 0) rfl)) eN) (G := ?_)
  rintro _ _ _ ⟨rfl, rfl, rfl⟩
  refine Go.norm (D2 := [(s, .inl ("java/lang/String", [("java/lang/String", "value", "[B", .null), ("java/lang/String", "coder", "B", .int 0)]))]) (S2 := [(a, .inl ("java/lang/StringBuilder", [("java/lang/AbstractStringBuilder", "value", "[B", .ref t), ("java/lang/AbstractStringBuilder", "coder", "B", .int 0), ("java/lang/AbstractStringBuilder", "count", "I", .int 20)])), (t, .inr (.byte, [.int y0, .int y1, .int y2, .int y3, .int y4, .int y5, .int y6, .int y7, .int y8, .int y9, .int y10, .int y11, .int y12, .int y13, .int y14, .int y15, .int y16, .int y17, .int y18, .int y19, .int 0, .int 0, .int 0, .int 0, .int 0, .int 0, .int 0, .int 0, .int 0, .int 0, .int 0, .int 0, .int 0, .int 0]))]) (c2 := 0) (s2 := 0) (st2 := [.int 1]) ?_
  refine Go.ifc d30_19 (pc2 := 41) (Gy := fun h => absurd h (show ¬ ((1 : Int32) = 0) by decide)) (Gn := fun _ => ?_)
  refine Go.aloadN d30_22 rfl (G := ?_)
  refine Go.iconst d30_23 (v := 0) rfl (G := ?_)
  refine Go.putfield d30_24 (hw _ (List.mem_of_getElem? (i := 26) rfl)) Via.refl 0 rfl 1 rfl (Or.inr ⟨(hw _ (List.mem_of_getElem? (i := 27) rfl)), rfl, rfl⟩) (hw _ (List.mem_of_getElem? (i := 1) rfl)) (ty := .byte) (by decide +kernel) (v' := .int 0) rfl rfl (D' := [(s, .inl ("java/lang/String", [("java/lang/String", "value", "[B", .null), ("java/lang/String", "coder", "B", .int 0)]))]) rfl (G := ?_)
  refine Go.aloadN d30_27 rfl (G := ?_)
  refine Go.aloadN d30_28 rfl (G := ?_)
  refine Go.iconst d30_29 (v := 0) rfl (G := ?_)
  refine Go.iload d30_30 rfl (G := ?_)
  refine Go.invokestatic false d30_32 (hw _ (List.mem_of_getElem? (i := 161) rfl)) (hw _ (List.mem_of_getElem? (i := 162) rfl)) (hw _ (List.mem_of_getElem? (i := 125) rfl)) (hw _ (List.mem_of_getElem? (i := 163) rfl)) (c_cr34_20 hw t y0 y1 y2 y3 y4 y5 y6 y7 y8 y9 y10 y11 y12 y13 y14 y15 y16 y17 y18 y19) pdg_17 rfl (argsL := [.ref t, .int 0, .int 20]) (rest := [.ref s]) rfl rfl (Dr := [(s, .inl ("java/lang/String", [("java/lang/String", "value", "[B", .null), ("java/lang/String", "coder", "B", .int 0)]))]) rfl (eS (Or.inl (List.mem_of_getElem? (i := 1) rfl)) eN) (G := ?_)
  rintro _ _ _ ⟨u, rfl, rfl, rfl⟩
  refine Go.norm (D2 := [(u, .inr (.byte, [.int y0, .int y1, .int y2, .int y3, .int y4, .int y5, .int y6, .int y7, .int y8, .int y9, .int y10, .int y11, .int y12, .int y13, .int y14, .int y15, .int y16, .int y17, .int y18, .int y19])), (s, .inl ("java/lang/String", [("java/lang/String", "value", "[B", .null), ("java/lang/String", "coder", "B", .int 0)]))]) (S2 := [(a, .inl ("java/lang/StringBuilder", [("java/lang/AbstractStringBuilder", "value", "[B", .ref t), ("java/lang/AbstractStringBuilder", "coder", "B", .int 0), ("java/lang/AbstractStringBuilder", "count", "I", .int 20)])), (t, .inr (.byte, [.int y0, .int y1, .int y2, .int y3, .int y4, .int y5, .int y6, .int y7, .int y8, .int y9, .int y10, .int y11, .int y12, .int y13, .int y14, .int y15, .int y16, .int y17, .int y18, .int y19, .int 0, .int 0, .int 0, .int 0, .int 0, .int 0, .int 0, .int 0, .int 0, .int 0, .int 0, .int 0, .int 0, .int 0]))]) (c2 := 1) (s2 := 20) (st2 := [.ref u, .ref s]) ?_
  refine Go.putfield d30_35 (hw _ (List.mem_of_getElem? (i := 28) rfl)) Via.refl 1 rfl 0 rfl (Or.inr ⟨(hw _ (List.mem_of_getElem? (i := 29) rfl)), rfl, rfl⟩) (hw _ (List.mem_of_getElem? (i := 1) rfl)) (ty := .array .byte) (by decide +kernel) (v' := .ref u) rfl rfl (D' := [(u, .inr (.byte, [.int y0, .int y1, .int y2, .int y3, .int y4, .int y5, .int y6, .int y7, .int y8, .int y9, .int y10, .int y11, .int y12, .int y13, .int y14, .int y15, .int y16, .int y17, .int y18, .int y19])), (s, .inl ("java/lang/String", [("java/lang/String", "value", "[B", .ref u), ("java/lang/String", "coder", "B", .int 0)]))]) rfl (G := ?_)
  refine Go.goto d30_38 (pc2 := 97) (G := ?_)
  refine Go.sub [1, 0] (by decide) rfl (D' := [(s, .inl ("java/lang/String", [("java/lang/String", "value", "[B", .ref u), ("java/lang/String", "coder", "B", .int 0)])), (u, .inr (.byte, [.int y0, .int y1, .int y2, .int y3, .int y4, .int y5, .int y6, .int y7, .int y8, .int y9, .int y10, .int y11, .int y12, .int y13, .int y14, .int y15, .int y16, .int y17, .int y18, .int y19]))]) rfl (S' := []) eN (G := ?_)
  exact Go.retV d30_97 ⟨u, rfl, rfl, rfl⟩
theorem d31_0 : Dx jdk_42_method_53_code 0 (.aload_n 0) 1 1 := ⟨by decide +kernel, rfl⟩
theorem d31_1 : Dx jdk_42_method_53_code 1 (.aload_n 1) 1 2 := ⟨by decide +kernel, rfl⟩
theorem d31_2 : Dx jdk_42_method_53_code 2 (.aconst_null) 1 3 := ⟨by decide +kernel, rfl⟩
theorem d31_3 : Dx jdk_42_method_53_code 3 (.invokespecial 489) 3 6 := ⟨by decide +kernel, rfl⟩
theorem d31_6 : Dx jdk_42_method_53_code 6 (.return_) 1 7 := ⟨by decide +kernel, rfl⟩
theorem pdg_20 : parseMethodDescriptor "(Ljava/lang/AbstractStringBuilder;Ljava/lang/Void;)V" = some ⟨[.object "java/lang/AbstractStringBuilder", .object "java/lang/Void"], none⟩ := by decide +kernel
set_option maxRecDepth 65536 in
set_option maxHeartbeats 40000000 in
theorem c_ib34_20 {l : Launch} {Z : State} {a0 : Array Value} {EL : List (String × Nat)} {b : Bool} {n0 : Nat} (hw : ∀ d ∈ tables_1, d.before a0 Z = true) (s a t : Addr) (y0 y1 y2 y3 y4 y5 y6 y7 y8 y9 y10 y11 y12 y13 y14 y15 y16 y17 y18 y19 : Int32) (cpt : Int32) (hCS : Sta Z Z.heap "java/lang/String" "COMPACT_STRINGS" "Z" (.int cpt)) (hcpt : ¬ cpt = 0) :
    Met l Z a0 EL b n0 (⟨"java/lang/String", "<init>", "(Ljava/lang/StringBuilder;)V"⟩ : MethodName) jdk_42_method_53_code 2 none [] (rm4 4 1 20 65) [.ref s, .ref a] [(s, .inl ("java/lang/String", [("java/lang/String", "value", "[B", .null), ("java/lang/String", "coder", "B", .int 0)]))] [(a, .inl ("java/lang/StringBuilder", [("java/lang/AbstractStringBuilder", "value", "[B", .ref t), ("java/lang/AbstractStringBuilder", "coder", "B", .int 0), ("java/lang/AbstractStringBuilder", "count", "I", .int 20)])), (t, .inr (.byte, [.int y0, .int y1, .int y2, .int y3, .int y4, .int y5, .int y6, .int y7, .int y8, .int y9, .int y10, .int y11, .int y12, .int y13, .int y14, .int y15, .int y16, .int y17, .int y18, .int y19, .int 0, .int 0, .int 0, .int 0, .int 0, .int 0, .int 0, .int 0, .int 0, .int 0, .int 0, .int 0, .int 0, .int 0]))] (fun v D' S' => ∃ u, v = none ∧ D' = [(s, .inl ("java/lang/String", [("java/lang/String", "value", "[B", .ref u), ("java/lang/String", "coder", "B", .int 0)])), (u, .inr (.byte, [.int y0, .int y1, .int y2, .int y3, .int y4, .int y5, .int y6, .int y7, .int y8, .int y9, .int y10, .int y11, .int y12, .int y13, .int y14, .int y15, .int y16, .int y17, .int y18, .int y19]))] ∧ S' = []) := by
  refine Met.of_go (own := "java/lang/String") (nm := "<init>") (Ls := #[.val (.ref s), .val (.ref a)]) (plainFor_of_name png_1) (fun m => by first | (simp [entryFrame, mkF, argsToLocals, Value.category]; done) | rfl) ?_
  refine Go.aloadN d31_0 rfl (G := ?_)
  refine Go.aloadN d31_1 rfl (G := ?_)
  refine Go.aconstNull d31_2 (G := ?_)
  refine Go.invokeinit false d31_3 rfl (hw _ (List.mem_of_getElem? (i := 140) rfl)) (hw _ (List.mem_of_getElem? (i := 141) rfl)) (hw _ (List.mem_of_getElem? (i := 2) rfl)) (hw _ (List.mem_of_getElem? (i := 142) rfl)) (c_iv34_20 hw s a t y0 y1 y2 y3 y4 y5 y6 y7 y8 y9 y10 y11 y12 y13 y14 y15 y16 y17 y18 y19 cpt hCS hcpt) pdg_20 rfl (argsL := [.ref a, .null]) (rest := []) rfl rfl (Dr := []) rfl (eS (Or.inl (List.mem_of_getElem? (i := 0) rfl)) (eS (Or.inl (List.mem_of_getElem? (i := 1) rfl)) eN)) (G := ?_)
  rintro _ _ _ ⟨u, rfl, rfl, rfl⟩
  refine Go.norm (D2 := [(s, .inl ("java/lang/String", [("java/lang/String", "value", "[B", .ref u), ("java/lang/String", "coder", "B", .int 0)])), (u, .inr (.byte, [.int y0, .int y1, .int y2, .int y3, .int y4, .int y5, .int y6, .int y7, .int y8, .int y9, .int y10, .int y11, .int y12, .int y13, .int y14, .int y15, .int y16, .int y17, .int y18, .int y19]))]) (S2 := [(a, .inl ("java/lang/StringBuilder", [("java/lang/AbstractStringBuilder", "value", "[B", .ref t), ("java/lang/AbstractStringBuilder", "coder", "B", .int 0), ("java/lang/AbstractStringBuilder", "count", "I", .int 20)])), (t, .inr (.byte, [.int y0, .int y1, .int y2, .int y3, .int y4, .int y5, .int y6, .int y7, .int y8, .int y9, .int y10, .int y11, .int y12, .int y13, .int y14, .int y15, .int y16, .int y17, .int y18, .int y19, .int 0, .int 0, .int 0, .int 0, .int 0, .int 0, .int 0, .int 0, .int 0, .int 0, .int 0, .int 0, .int 0, .int 0]))]) (c2 := 1) (s2 := 20) (st2 := []) ?_
  refine Go.sub [0, 1] (by decide) rfl (D' := [(s, .inl ("java/lang/String", [("java/lang/String", "value", "[B", .ref u), ("java/lang/String", "coder", "B", .int 0)])), (u, .inr (.byte, [.int y0, .int y1, .int y2, .int y3, .int y4, .int y5, .int y6, .int y7, .int y8, .int y9, .int y10, .int y11, .int y12, .int y13, .int y14, .int y15, .int y16, .int y17, .int y18, .int y19]))]) rfl (S' := []) eN (G := ?_)
  exact Go.retV d31_6 ⟨u, rfl, rfl, rfl⟩
theorem d32_0 : Dx jdk_67_method_42_code 0 (.new 18) 3 3 := ⟨by decide +kernel, rfl⟩
theorem d32_3 : Dx jdk_67_method_42_code 3 (.dup) 1 4 := ⟨by decide +kernel, rfl⟩
theorem d32_4 : Dx jdk_67_method_42_code 4 (.aload_n 0) 1 5 := ⟨by decide +kernel, rfl⟩
theorem d32_5 : Dx jdk_67_method_42_code 5 (.invokespecial 137) 3 8 := ⟨by decide +kernel, rfl⟩
theorem d32_8 : Dx jdk_67_method_42_code 8 (.areturn) 1 9 := ⟨by decide +kernel, rfl⟩
theorem pdg_21 : parseMethodDescriptor "(Ljava/lang/StringBuilder;)V" = some ⟨[.object "java/lang/StringBuilder"], none⟩ := by decide +kernel
set_option maxRecDepth 65536 in
set_option maxHeartbeats 40000000 in
theorem c_ts34_20 {l : Launch} {Z : State} {a0 : Array Value} {EL : List (String × Nat)} {b : Bool} {n0 : Nat} (hw : ∀ d ∈ tables_1, d.before a0 Z = true) (a t : Addr) (y0 y1 y2 y3 y4 y5 y6 y7 y8 y9 y10 y11 y12 y13 y14 y15 y16 y17 y18 y19 : Int32) (cpt : Int32) (hCS : Sta Z Z.heap "java/lang/String" "COMPACT_STRINGS" "Z" (.int cpt)) (hcpt : ¬ cpt = 0) :
    Met l Z a0 EL b n0 (⟨"java/lang/StringBuilder", "toString", "()Ljava/lang/String;"⟩ : MethodName) jdk_67_method_42_code 1 (some (.object "java/lang/String")) [] (rm4 5 2 24 79) [.ref a] [] [(a, .inl ("java/lang/StringBuilder", [("java/lang/AbstractStringBuilder", "value", "[B", .ref t), ("java/lang/AbstractStringBuilder", "coder", "B", .int 0), ("java/lang/AbstractStringBuilder", "count", "I", .int 20)])), (t, .inr (.byte, [.int y0, .int y1, .int y2, .int y3, .int y4, .int y5, .int y6, .int y7, .int y8, .int y9, .int y10, .int y11, .int y12, .int y13, .int y14, .int y15, .int y16, .int y17, .int y18, .int y19, .int 0, .int 0, .int 0, .int 0, .int 0, .int 0, .int 0, .int 0, .int 0, .int 0, .int 0, .int 0, .int 0, .int 0]))] (fun v D' S' => ∃ s u, v = some (.ref s) ∧ D' = [(s, .inl ("java/lang/String", [("java/lang/String", "value", "[B", .ref u), ("java/lang/String", "coder", "B", .int 0)])), (u, .inr (.byte, [.int y0, .int y1, .int y2, .int y3, .int y4, .int y5, .int y6, .int y7, .int y8, .int y9, .int y10, .int y11, .int y12, .int y13, .int y14, .int y15, .int y16, .int y17, .int y18, .int y19]))] ∧ S' = []) := by
  refine Met.of_go (own := "java/lang/StringBuilder") (nm := "toString") (Ls := #[.val (.ref a)]) (plainFor_of_name png_4) (fun m => by first | (simp [entryFrame, mkF, argsToLocals, Value.category]; done) | rfl) ?_
  refine Go.new d32_0 (hw _ (List.mem_of_getElem? (i := 136) rfl)) (hw _ (List.mem_of_getElem? (i := 1) rfl)) (hw _ (List.mem_of_getElem? (i := 2) rfl)) (NewF.cons (Or.inr (hw _ (List.mem_of_getElem? (i := 29) rfl))) (ty := .array .byte) (by decide +kernel) rfl (by simp) (NewF.cons (Or.inr (hw _ (List.mem_of_getElem? (i := 27) rfl))) (ty := .byte) (by decide +kernel) rfl (by simp) NewF.nil)) (G := fun o1 => ?_)
  refine Go.dup d32_3 (G := ?_)
  refine Go.aloadN d32_4 rfl (G := ?_)
  refine Go.invokeinit false d32_5 rfl (hw _ (List.mem_of_getElem? (i := 137) rfl)) (hw _ (List.mem_of_getElem? (i := 138) rfl)) (hw _ (List.mem_of_getElem? (i := 2) rfl)) (hw _ (List.mem_of_getElem? (i := 139) rfl)) (c_ib34_20 hw o1 a t y0 y1 y2 y3 y4 y5 y6 y7 y8 y9 y10 y11 y12 y13 y14 y15 y16 y17 y18 y19 cpt hCS hcpt) pdg_21 rfl (argsL := [.ref a]) (rest := [.ref o1]) rfl rfl (Dr := []) rfl (eS (Or.inl (List.mem_of_getElem? (i := 0) rfl)) (eS (Or.inl (List.mem_of_getElem? (i := 1) rfl)) eN)) (G := ?_)
  rintro _ _ _ ⟨u, rfl, rfl, rfl⟩
  refine Go.norm (D2 := [(o1, .inl ("java/lang/String", [("java/lang/String", "value", "[B", .ref u), ("java/lang/String", "coder", "B", .int 0)])), (u, .inr (.byte, [.int y0, .int y1, .int y2, .int y3, .int y4, .int y5, .int y6, .int y7, .int y8, .int y9, .int y10, .int y11, .int y12, .int y13, .int y14, .int y15, .int y16, .int y17, .int y18, .int y19]))]) (S2 := [(a, .inl ("java/lang/StringBuilder", [("java/lang/AbstractStringBuilder", "value", "[B", .ref t), ("java/lang/AbstractStringBuilder", "coder", "B", .int 0), ("java/lang/AbstractStringBuilder", "count", "I", .int 20)])), (t, .inr (.byte, [.int y0, .int y1, .int y2, .int y3, .int y4, .int y5, .int y6, .int y7, .int y8, .int y9, .int y10, .int y11, .int y12, .int y13, .int y14, .int y15, .int y16, .int y17, .int y18, .int y19, .int 0, .int 0, .int 0, .int 0, .int 0, .int 0, .int 0, .int 0, .int 0, .int 0, .int 0, .int 0, .int 0, .int 0]))]) (c2 := 2) (s2 := 24) (st2 := [.ref o1]) ?_
  refine Go.sub [0, 1] (by decide) rfl (D' := [(o1, .inl ("java/lang/String", [("java/lang/String", "value", "[B", .ref u), ("java/lang/String", "coder", "B", .int 0)])), (u, .inr (.byte, [.int y0, .int y1, .int y2, .int y3, .int y4, .int y5, .int y6, .int y7, .int y8, .int y9, .int y10, .int y11, .int y12, .int y13, .int y14, .int y15, .int y16, .int y17, .int y18, .int y19]))]) rfl (S' := []) eN (G := ?_)
  exact Go.retA d32_8 ⟨o1, u, rfl, rfl, rfl⟩
theorem png_7 : plainName "startbeam/ComponentException" = true := by first | (simp [plainName, overriddenIn]; done) | decide +kernel
theorem d33_0 : Dx prog_19_method_9_code 0 (.new 36) 3 3 := ⟨by decide +kernel, rfl⟩
theorem d33_3 : Dx prog_19_method_9_code 3 (.dup) 1 4 := ⟨by decide +kernel, rfl⟩
theorem d33_4 : Dx prog_19_method_9_code 4 (.invokespecial 38) 3 7 := ⟨by decide +kernel, rfl⟩
theorem d33_7 : Dx prog_19_method_9_code 7 (.ldc 41) 2 9 := ⟨by decide +kernel, rfl⟩
theorem d33_9 : Dx prog_19_method_9_code 9 (.invokevirtual 43) 3 12 := ⟨by decide +kernel, rfl⟩
theorem d33_12 : Dx prog_19_method_9_code 12 (.aload_n 0) 1 13 := ⟨by decide +kernel, rfl⟩
theorem d33_13 : Dx prog_19_method_9_code 13 (.invokevirtual 43) 3 16 := ⟨by decide +kernel, rfl⟩
theorem d33_16 : Dx prog_19_method_9_code 16 (.ldc 47) 2 18 := ⟨by decide +kernel, rfl⟩
theorem d33_18 : Dx prog_19_method_9_code 18 (.invokevirtual 43) 3 21 := ⟨by decide +kernel, rfl⟩
theorem d33_21 : Dx prog_19_method_9_code 21 (.aload_n 1) 1 22 := ⟨by decide +kernel, rfl⟩
theorem d33_22 : Dx prog_19_method_9_code 22 (.invokevirtual 43) 3 25 := ⟨by decide +kernel, rfl⟩
theorem d33_25 : Dx prog_19_method_9_code 25 (.invokevirtual 49) 3 28 := ⟨by decide +kernel, rfl⟩
theorem d33_28 : Dx prog_19_method_9_code 28 (.areturn) 1 29 := ⟨by decide +kernel, rfl⟩
theorem pdg_22 : parseMethodDescriptor "()V" = some ⟨[], none⟩ := by decide +kernel
theorem pdg_23 : parseMethodDescriptor "(Ljava/lang/String;)Ljava/lang/StringBuilder;" = some ⟨[.object "java/lang/String"], some (.object "java/lang/StringBuilder")⟩ := by decide +kernel
theorem pdg_24 : parseMethodDescriptor "()Ljava/lang/String;" = some ⟨[], some (.object "java/lang/String")⟩ := by decide +kernel
set_option maxRecDepth 65536 in
set_option maxHeartbeats 40000000 in
theorem c_ccm {l : Launch} {Z : State} {a0 : Array Value} {EL : List (String × Nat)} {b : Bool} {n0 : Nat} (hw : ∀ d ∈ tables_1, d.before a0 Z = true) (s1 r1 s2 r2 : Addr) (p0 p1 : Int32) (q0 q1 : Int32) (cpt : Int32) (hCS : Sta Z Z.heap "java/lang/String" "COMPACT_STRINGS" "Z" (.int cpt)) (hcpt : ¬ cpt = 0) (hb1 : b = true) (hE_ComponentException_41 : ("startbeam/ComponentException", 41) ∈ EL) (hE_ComponentException_47 : ("startbeam/ComponentException", 47) ∈ EL) :
    Met l Z a0 EL b n0 (⟨"startbeam/ComponentException", "cannotCreateMessage", "(Ljava/lang/String;Ljava/lang/String;)Ljava/lang/String;"⟩ : MethodName) prog_19_method_9_code 2 (some (.object "java/lang/String")) [] (rm4 6 13 200 91) [.ref s1, .ref s2] [] [(s1, .inl ("java/lang/String", [("java/lang/String", "value", "[B", .ref r1), ("java/lang/String", "coder", "B", .int 0)])), (r1, .inr (.byte, [.int p0, .int p1])), (s2, .inl ("java/lang/String", [("java/lang/String", "value", "[B", .ref r2), ("java/lang/String", "coder", "B", .int 0)])), (r2, .inr (.byte, [.int q0, .int q1]))] (fun v D' S' => ∃ s vb, v = some (.ref s) ∧ D' = [(s, .inl ("java/lang/String", [("java/lang/String", "value", "[B", .ref vb), ("java/lang/String", "coder", "B", .int 0)])), (vb, .inr (.byte, [.int 67, .int 97, .int 110, .int 110, .int 111, .int 116, .int 32, .int 99, .int 114, .int 101, .int 97, .int 116, .int 101, .int 32, .int p0, .int p1, .int 58, .int 32, .int q0, .int q1]))] ∧ S' = []) := by
  refine Met.of_go (own := "startbeam/ComponentException") (nm := "cannotCreateMessage") (Ls := #[.val (.ref s1), .val (.ref s2)]) (plainFor_of_name png_7) (fun m => by first | (simp [entryFrame, mkF, argsToLocals, Value.category]; done) | rfl) ?_
  refine Go.new d33_0 (hw _ (List.mem_of_getElem? (i := 39) rfl)) (hw _ (List.mem_of_getElem? (i := 40) rfl)) (hw _ (List.mem_of_getElem? (i := 41) rfl)) (NewF.cons (Or.inl (hw _ (List.mem_of_getElem? (i := 54) rfl))) (ty := .array .byte) (by decide +kernel) rfl (by simp) (NewF.cons (Or.inl (hw _ (List.mem_of_getElem? (i := 56) rfl))) (ty := .byte) (by decide +kernel) rfl (by simp) (NewF.cons (Or.inl (hw _ (List.mem_of_getElem? (i := 81) rfl))) (ty := .int) (by decide +kernel) rfl (by simp) NewF.nil))) (G := fun o1 => ?_)
  refine Go.dup d33_3 (G := ?_)
  refine Go.invokeinit false d33_4 rfl (hw _ (List.mem_of_getElem? (i := 42) rfl)) (hw _ (List.mem_of_getElem? (i := 43) rfl)) (hw _ (List.mem_of_getElem? (i := 41) rfl)) (hw _ (List.mem_of_getElem? (i := 44) rfl)) (c_sbI hw o1 cpt hCS hcpt) pdg_22 rfl (argsL := []) (rest := [.ref o1]) rfl rfl (Dr := []) rfl eN (G := ?_)
  rintro _ _ _ ⟨t0, rfl, rfl, rfl⟩
  refine Go.norm (D2 := [(o1, .inl ("java/lang/StringBuilder", [("java/lang/AbstractStringBuilder", "value", "[B", .ref t0), ("java/lang/AbstractStringBuilder", "coder", "B", .int 0), ("java/lang/AbstractStringBuilder", "count", "I", .int 0)])), (t0, .inr (.byte, [.int 0, .int 0, .int 0, .int 0, .int 0, .int 0, .int 0, .int 0, .int 0, .int 0, .int 0, .int 0, .int 0, .int 0, .int 0, .int 0]))]) (S2 := [(s1, .inl ("java/lang/String", [("java/lang/String", "value", "[B", .ref r1), ("java/lang/String", "coder", "B", .int 0)])), (r1, .inr (.byte, [.int p0, .int p1])), (s2, .inl ("java/lang/String", [("java/lang/String", "value", "[B", .ref r2), ("java/lang/String", "coder", "B", .int 0)])), (r2, .inr (.byte, [.int q0, .int q1]))]) (c2 := 2) (s2 := 20) (st2 := [.ref o1]) ?_
  refine Go.ldcStr d33_7 (hw _ (List.mem_of_getElem? (i := 57) rfl)) (strW hw) hE_ComponentException_41 hb1 (layS hw) (text := "Cannot create ") (vs := [.int 67, .int 97, .int 110, .int 110, .int 111, .int 116, .int 32, .int 99, .int 114, .int 101, .int 97, .int 116, .int 101, .int 32]) ⟨by decide, rfl⟩ (n := 56) (by decide) (by decide) (G := fun k2 k3 => ?_)
  refine Go.invokevirtual false d33_9 (hw _ (List.mem_of_getElem? (i := 60) rfl)) (hw _ (List.mem_of_getElem? (i := 61) rfl)) (hw _ (List.mem_of_getElem? (i := 63) rfl)) (hw _ (List.mem_of_getElem? (i := 62) rfl)) (hw _ (List.mem_of_getElem? (i := 41) rfl)) (hw _ (List.mem_of_getElem? (i := 64) rfl)) (nfSel (hw _ (List.mem_of_getElem? (i := 63) rfl))) (inD (i := 0) rfl) (c_app16_0_14 hw o1 t0 k2 k3 67 97 110 110 111 116 32 99 114 101 97 116 101 32 cpt hCS hcpt) pdg_23 rfl (argsL := [.ref k2]) (rest := []) rfl rfl (Dr := []) rfl (eS (Or.inl (List.mem_of_getElem? (i := 0) rfl)) (eS (Or.inl (List.mem_of_getElem? (i := 1) rfl)) eN)) (G := ?_)
  rintro _ _ _ ⟨u4, rfl, rfl, rfl⟩
  refine Go.norm (D2 := [(o1, .inl ("java/lang/StringBuilder", [("java/lang/AbstractStringBuilder", "value", "[B", .ref u4), ("java/lang/AbstractStringBuilder", "coder", "B", .int 0), ("java/lang/AbstractStringBuilder", "count", "I", .int 14)])), (u4, .inr (.byte, [.int 67, .int 97, .int 110, .int 110, .int 111, .int 116, .int 32, .int 99, .int 114, .int 101, .int 97, .int 116, .int 101, .int 32, .int 0, .int 0]))]) (S2 := [(k2, .inl ("java/lang/String", [("java/lang/String", "value", "[B", .ref k3), ("java/lang/String", "coder", "B", .int 0)])), (k3, .inr (.byte, [.int 67, .int 97, .int 110, .int 110, .int 111, .int 116, .int 32, .int 99, .int 114, .int 101, .int 97, .int 116, .int 101, .int 32])), (s1, .inl ("java/lang/String", [("java/lang/String", "value", "[B", .ref r1), ("java/lang/String", "coder", "B", .int 0)])), (r1, .inr (.byte, [.int p0, .int p1])), (s2, .inl ("java/lang/String", [("java/lang/String", "value", "[B", .ref r2), ("java/lang/String", "coder", "B", .int 0)])), (r2, .inr (.byte, [.int q0, .int q1]))]) (c2 := 4) (s2 := 80) (st2 := [.ref o1]) ?_
  refine Go.aloadN d33_12 rfl (G := ?_)
  refine Go.invokevirtual false d33_13 (hw _ (List.mem_of_getElem? (i := 60) rfl)) (hw _ (List.mem_of_getElem? (i := 61) rfl)) (hw _ (List.mem_of_getElem? (i := 63) rfl)) (hw _ (List.mem_of_getElem? (i := 62) rfl)) (hw _ (List.mem_of_getElem? (i := 41) rfl)) (hw _ (List.mem_of_getElem? (i := 64) rfl)) (nfSel (hw _ (List.mem_of_getElem? (i := 63) rfl))) (inD (i := 0) rfl) (c_app16_14_2 hw o1 u4 s1 r1 67 97 110 110 111 116 32 99 114 101 97 116 101 32 p0 p1 cpt hCS hcpt) pdg_23 rfl (argsL := [.ref s1]) (rest := []) rfl rfl (Dr := []) rfl (eS (Or.inl (List.mem_of_getElem? (i := 2) rfl)) (eS (Or.inl (List.mem_of_getElem? (i := 3) rfl)) eN)) (G := ?_)
  rintro _ _ _ ⟨u5, rfl, rfl, rfl⟩
  refine Go.norm (D2 := [(o1, .inl ("java/lang/StringBuilder", [("java/lang/AbstractStringBuilder", "value", "[B", .ref u5), ("java/lang/AbstractStringBuilder", "coder", "B", .int 0), ("java/lang/AbstractStringBuilder", "count", "I", .int 16)])), (u5, .inr (.byte, [.int 67, .int 97, .int 110, .int 110, .int 111, .int 116, .int 32, .int 99, .int 114, .int 101, .int 97, .int 116, .int 101, .int 32, .int p0, .int p1]))]) (S2 := [(k2, .inl ("java/lang/String", [("java/lang/String", "value", "[B", .ref k3), ("java/lang/String", "coder", "B", .int 0)])), (k3, .inr (.byte, [.int 67, .int 97, .int 110, .int 110, .int 111, .int 116, .int 32, .int 99, .int 114, .int 101, .int 97, .int 116, .int 101, .int 32])), (s1, .inl ("java/lang/String", [("java/lang/String", "value", "[B", .ref r1), ("java/lang/String", "coder", "B", .int 0)])), (r1, .inr (.byte, [.int p0, .int p1])), (s2, .inl ("java/lang/String", [("java/lang/String", "value", "[B", .ref r2), ("java/lang/String", "coder", "B", .int 0)])), (r2, .inr (.byte, [.int q0, .int q1]))]) (c2 := 4) (s2 := 80) (st2 := [.ref o1]) ?_
  refine Go.ldcStr d33_16 (hw _ (List.mem_of_getElem? (i := 107) rfl)) (strW hw) hE_ComponentException_47 hb1 (layS hw) (text := ": ") (vs := [.int 58, .int 32]) ⟨by decide, rfl⟩ (n := 8) (by decide) (by decide) (G := fun k6 k7 => ?_)
  refine Go.invokevirtual false d33_18 (hw _ (List.mem_of_getElem? (i := 60) rfl)) (hw _ (List.mem_of_getElem? (i := 61) rfl)) (hw _ (List.mem_of_getElem? (i := 63) rfl)) (hw _ (List.mem_of_getElem? (i := 62) rfl)) (hw _ (List.mem_of_getElem? (i := 41) rfl)) (hw _ (List.mem_of_getElem? (i := 64) rfl)) (nfSel (hw _ (List.mem_of_getElem? (i := 63) rfl))) (inD (i := 0) rfl) (c_app16_16_2 hw o1 u5 k6 k7 67 97 110 110 111 116 32 99 114 101 97 116 101 32 p0 p1 58 32 cpt hCS hcpt) pdg_23 rfl (argsL := [.ref k6]) (rest := []) rfl rfl (Dr := []) rfl (eS (Or.inl (List.mem_of_getElem? (i := 0) rfl)) (eS (Or.inl (List.mem_of_getElem? (i := 1) rfl)) eN)) (G := ?_)
  rintro _ _ _ ⟨u8, rfl, rfl, rfl⟩
  refine Go.norm (D2 := [(o1, .inl ("java/lang/StringBuilder", [("java/lang/AbstractStringBuilder", "value", "[B", .ref u8), ("java/lang/AbstractStringBuilder", "coder", "B", .int 0), ("java/lang/AbstractStringBuilder", "count", "I", .int 18)])), (u8, .inr (.byte, [.int 67, .int 97, .int 110, .int 110, .int 111, .int 116, .int 32, .int 99, .int 114, .int 101, .int 97, .int 116, .int 101, .int 32, .int p0, .int p1, .int 58, .int 32, .int 0, .int 0, .int 0, .int 0, .int 0, .int 0, .int 0, .int 0, .int 0, .int 0, .int 0, .int 0, .int 0, .int 0, .int 0, .int 0]))]) (S2 := [(k6, .inl ("java/lang/String", [("java/lang/String", "value", "[B", .ref k7), ("java/lang/String", "coder", "B", .int 0)])), (k7, .inr (.byte, [.int 58, .int 32])), (k2, .inl ("java/lang/String", [("java/lang/String", "value", "[B", .ref k3), ("java/lang/String", "coder", "B", .int 0)])), (k3, .inr (.byte, [.int 67, .int 97, .int 110, .int 110, .int 111, .int 116, .int 32, .int 99, .int 114, .int 101, .int 97, .int 116, .int 101, .int 32])), (s1, .inl ("java/lang/String", [("java/lang/String", "value", "[B", .ref r1), ("java/lang/String", "coder", "B", .int 0)])), (r1, .inr (.byte, [.int p0, .int p1])), (s2, .inl ("java/lang/String", [("java/lang/String", "value", "[B", .ref r2), ("java/lang/String", "coder", "B", .int 0)])), (r2, .inr (.byte, [.int q0, .int q1]))]) (c2 := 7) (s2 := 126) (st2 := [.ref o1]) ?_
  refine Go.aloadN d33_21 rfl (G := ?_)
  refine Go.invokevirtual false d33_22 (hw _ (List.mem_of_getElem? (i := 60) rfl)) (hw _ (List.mem_of_getElem? (i := 61) rfl)) (hw _ (List.mem_of_getElem? (i := 63) rfl)) (hw _ (List.mem_of_getElem? (i := 62) rfl)) (hw _ (List.mem_of_getElem? (i := 41) rfl)) (hw _ (List.mem_of_getElem? (i := 64) rfl)) (nfSel (hw _ (List.mem_of_getElem? (i := 63) rfl))) (inD (i := 0) rfl) (c_app34_18_2 hw o1 u8 s2 r2 67 97 110 110 111 116 32 99 114 101 97 116 101 32 p0 p1 58 32 q0 q1 cpt hCS hcpt) pdg_23 rfl (argsL := [.ref s2]) (rest := []) rfl rfl (Dr := []) rfl (eS (Or.inl (List.mem_of_getElem? (i := 6) rfl)) (eS (Or.inl (List.mem_of_getElem? (i := 7) rfl)) eN)) (G := ?_)
  rintro _ _ _ ⟨u9, rfl, rfl, rfl⟩
  refine Go.norm (D2 := [(o1, .inl ("java/lang/StringBuilder", [("java/lang/AbstractStringBuilder", "value", "[B", .ref u9), ("java/lang/AbstractStringBuilder", "coder", "B", .int 0), ("java/lang/AbstractStringBuilder", "count", "I", .int 20)])), (u9, .inr (.byte, [.int 67, .int 97, .int 110, .int 110, .int 111, .int 116, .int 32, .int 99, .int 114, .int 101, .int 97, .int 116, .int 101, .int 32, .int p0, .int p1, .int 58, .int 32, .int q0, .int q1, .int 0, .int 0, .int 0, .int 0, .int 0, .int 0, .int 0, .int 0, .int 0, .int 0, .int 0, .int 0, .int 0, .int 0]))]) (S2 := [(k6, .inl ("java/lang/String", [("java/lang/String", "value", "[B", .ref k7), ("java/lang/String", "coder", "B", .int 0)])), (k7, .inr (.byte, [.int 58, .int 32])), (k2, .inl ("java/lang/String", [("java/lang/String", "value", "[B", .ref k3), ("java/lang/String", "coder", "B", .int 0)])), (k3, .inr (.byte, [.int 67, .int 97, .int 110, .int 110, .int 111, .int 116, .int 32, .int 99, .int 114, .int 101, .int 97, .int 116, .int 101, .int 32])), (s1, .inl ("java/lang/String", [("java/lang/String", "value", "[B", .ref r1), ("java/lang/String", "coder", "B", .int 0)])), (r1, .inr (.byte, [.int p0, .int p1])), (s2, .inl ("java/lang/String", [("java/lang/String", "value", "[B", .ref r2), ("java/lang/String", "coder", "B", .int 0)])), (r2, .inr (.byte, [.int q0, .int q1]))]) (c2 := 7) (s2 := 126) (st2 := [.ref o1]) ?_
  refine Go.invokevirtual true d33_25 (hw _ (List.mem_of_getElem? (i := 131) rfl)) (hw _ (List.mem_of_getElem? (i := 132) rfl)) (hw _ (List.mem_of_getElem? (i := 134) rfl)) (hw _ (List.mem_of_getElem? (i := 133) rfl)) (hw _ (List.mem_of_getElem? (i := 41) rfl)) (hw _ (List.mem_of_getElem? (i := 135) rfl)) (nfSel (hw _ (List.mem_of_getElem? (i := 134) rfl))) (inD (i := 0) rfl) (c_ts34_20 hw o1 u9 67 97 110 110 111 116 32 99 114 101 97 116 101 32 p0 p1 58 32 q0 q1 cpt hCS hcpt) pdg_24 rfl (argsL := []) (rest := []) rfl rfl (Dr := [(o1, .inl ("java/lang/StringBuilder", [("java/lang/AbstractStringBuilder", "value", "[B", .ref u9), ("java/lang/AbstractStringBuilder", "coder", "B", .int 0), ("java/lang/AbstractStringBuilder", "count", "I", .int 20)])), (u9, .inr (.byte, [.int 67, .int 97, .int 110, .int 110, .int 111, .int 116, .int 32, .int 99, .int 114, .int 101, .int 97, .int 116, .int 101, .int 32, .int p0, .int p1, .int 58, .int 32, .int q0, .int q1, .int 0, .int 0, .int 0, .int 0, .int 0, .int 0, .int 0, .int 0, .int 0, .int 0, .int 0, .int 0, .int 0, .int 0]))]) rfl (eS (Or.inr ⟨rfl, List.mem_of_getElem? (i := 0) rfl⟩) (eS (Or.inr ⟨rfl, List.mem_of_getElem? (i := 1) rfl⟩) eN)) (G := ?_)
  rintro _ _ _ ⟨s, v, rfl, rfl, rfl⟩
  refine Go.norm (D2 := [(s, .inl ("java/lang/String", [("java/lang/String", "value", "[B", .ref v), ("java/lang/String", "coder", "B", .int 0)])), (v, .inr (.byte, [.int 67, .int 97, .int 110, .int 110, .int 111, .int 116, .int 32, .int 99, .int 114, .int 101, .int 97, .int 116, .int 101, .int 32, .int p0, .int p1, .int 58, .int 32, .int q0, .int q1])), (o1, .inl ("java/lang/StringBuilder", [("java/lang/AbstractStringBuilder", "value", "[B", .ref u9), ("java/lang/AbstractStringBuilder", "coder", "B", .int 0), ("java/lang/AbstractStringBuilder", "count", "I", .int 20)])), (u9, .inr (.byte, [.int 67, .int 97, .int 110, .int 110, .int 111, .int 116, .int 32, .int 99, .int 114, .int 101, .int 97, .int 116, .int 101, .int 32, .int p0, .int p1, .int 58, .int 32, .int q0, .int q1, .int 0, .int 0, .int 0, .int 0, .int 0, .int 0, .int 0, .int 0, .int 0, .int 0, .int 0, .int 0, .int 0, .int 0]))]) (S2 := [(k6, .inl ("java/lang/String", [("java/lang/String", "value", "[B", .ref k7), ("java/lang/String", "coder", "B", .int 0)])), (k7, .inr (.byte, [.int 58, .int 32])), (k2, .inl ("java/lang/String", [("java/lang/String", "value", "[B", .ref k3), ("java/lang/String", "coder", "B", .int 0)])), (k3, .inr (.byte, [.int 67, .int 97, .int 110, .int 110, .int 111, .int 116, .int 32, .int 99, .int 114, .int 101, .int 97, .int 116, .int 101, .int 32])), (s1, .inl ("java/lang/String", [("java/lang/String", "value", "[B", .ref r1), ("java/lang/String", "coder", "B", .int 0)])), (r1, .inr (.byte, [.int p0, .int p1])), (s2, .inl ("java/lang/String", [("java/lang/String", "value", "[B", .ref r2), ("java/lang/String", "coder", "B", .int 0)])), (r2, .inr (.byte, [.int q0, .int q1]))]) (c2 := 9) (s2 := 150) (st2 := [.ref s]) ?_
  refine Go.sub [0, 1] (by decide) rfl (D' := [(s, .inl ("java/lang/String", [("java/lang/String", "value", "[B", .ref v), ("java/lang/String", "coder", "B", .int 0)])), (v, .inr (.byte, [.int 67, .int 97, .int 110, .int 110, .int 111, .int 116, .int 32, .int 99, .int 114, .int 101, .int 97, .int 116, .int 101, .int 32, .int p0, .int p1, .int 58, .int 32, .int q0, .int q1]))]) rfl (S' := []) eN (G := ?_)
  exact Go.retA d33_28 ⟨s, v, rfl, rfl, rfl⟩
theorem nd3 {Z : State} {a0 : Array Value} (hw : ∀ d ∈ tables_1, d.before a0 Z = true) : [Jvm.RoadKit.slotOf Z "java/lang/Throwable" "detailMessage" "Ljava/lang/String;", Jvm.RoadKit.slotOf Z "java/lang/Throwable" "cause" "Ljava/lang/Throwable;", Jvm.RoadKit.slotOf Z "startbeam/ComponentException" "remedy" "Ljava/lang/String;"].Nodup := by
  have n1 := slot_ne (Or.inl (hw _ (List.mem_of_getElem? (i := 225) rfl))) (Or.inl (hw _ (List.mem_of_getElem? (i := 195) rfl))) (by decide) (t := (.object "java/lang/String")) (t' := (.object "java/lang/Throwable")) (by decide) (by decide)
  have n2 := slot_ne (Or.inl (hw _ (List.mem_of_getElem? (i := 225) rfl))) (Or.inr (hw _ (List.mem_of_getElem? (i := 231) rfl))) (by decide) (t := (.object "java/lang/String")) (t' := (.object "java/lang/String")) (by decide) (by decide)
  have n3 := slot_ne (Or.inl (hw _ (List.mem_of_getElem? (i := 195) rfl))) (Or.inr (hw _ (List.mem_of_getElem? (i := 231) rfl))) (by decide) (t := (.object "java/lang/Throwable")) (t' := (.object "java/lang/String")) (by decide) (by decide)
  simp [n1, n2, n3]
set_option maxRecDepth 65536 in
theorem thWw {Z : State} {a0 : Array Value} (hw : ∀ d ∈ tables_1, d.before a0 Z = true) : ∀ c ∈ thW excC, c.before a0 Z = true := fun c hc => hw c ((show ∀ c ∈ thW excC, c ∈ tables_1 by decide +kernel) c hc)

theorem png_8 : plainName "java/lang/Throwable" = true := by first | (simp [plainName, overriddenIn]; done) | decide +kernel
theorem d34_0 : Dx jdk_78_method_3_code 0 (.aload_n 0) 1 1 := ⟨by decide +kernel, rfl⟩
theorem d34_1 : Dx jdk_78_method_3_code 1 (.invokespecial 1) 3 4 := ⟨by decide +kernel, rfl⟩
theorem d34_4 : Dx jdk_78_method_3_code 4 (.aload_n 0) 1 5 := ⟨by decide +kernel, rfl⟩
theorem d34_5 : Dx jdk_78_method_3_code 5 (.aload_n 0) 1 6 := ⟨by decide +kernel, rfl⟩
theorem d34_6 : Dx jdk_78_method_3_code 6 (.putfield 7) 3 9 := ⟨by decide +kernel, rfl⟩
theorem d34_9 : Dx jdk_78_method_3_code 9 (.aload_n 0) 1 10 := ⟨by decide +kernel, rfl⟩
theorem d34_10 : Dx jdk_78_method_3_code 10 (.getstatic 13) 3 13 := ⟨by decide +kernel, rfl⟩
theorem d34_13 : Dx jdk_78_method_3_code 13 (.putfield 17) 3 16 := ⟨by decide +kernel, rfl⟩
theorem d34_16 : Dx jdk_78_method_3_code 16 (.aload_n 0) 1 17 := ⟨by decide +kernel, rfl⟩
theorem d34_17 : Dx jdk_78_method_3_code 17 (.getstatic 20) 3 20 := ⟨by decide +kernel, rfl⟩
theorem d34_20 : Dx jdk_78_method_3_code 20 (.putfield 24) 3 23 := ⟨by decide +kernel, rfl⟩
theorem d34_23 : Dx jdk_78_method_3_code 23 (.aload_n 0) 1 24 := ⟨by decide +kernel, rfl⟩
theorem d34_24 : Dx jdk_78_method_3_code 24 (.invokevirtual 27) 3 27 := ⟨by decide +kernel, rfl⟩
theorem d34_27 : Dx jdk_78_method_3_code 27 (.pop) 1 28 := ⟨by decide +kernel, rfl⟩
theorem d34_28 : Dx jdk_78_method_3_code 28 (.aload_n 0) 1 29 := ⟨by decide +kernel, rfl⟩
theorem d34_29 : Dx jdk_78_method_3_code 29 (.aload_n 1) 1 30 := ⟨by decide +kernel, rfl⟩
theorem d34_30 : Dx jdk_78_method_3_code 30 (.putfield 31) 3 33 := ⟨by decide +kernel, rfl⟩
theorem d34_33 : Dx jdk_78_method_3_code 33 (.aload_n 0) 1 34 := ⟨by decide +kernel, rfl⟩
theorem d34_34 : Dx jdk_78_method_3_code 34 (.aload_n 2) 1 35 := ⟨by decide +kernel, rfl⟩
theorem d34_35 : Dx jdk_78_method_3_code 35 (.putfield 7) 3 38 := ⟨by decide +kernel, rfl⟩
theorem d34_38 : Dx jdk_78_method_3_code 38 (.return_) 1 39 := ⟨by decide +kernel, rfl⟩
set_option maxRecDepth 65536 in
set_option maxHeartbeats 40000000 in
theorem c_ti {l : Launch} {Z : State} {a0 : Array Value} {EL : List (String × Nat)} {b : Bool} {n0 : Nat} (hw : ∀ d ∈ tables_1, d.before a0 Z = true) (e m : Addr) (hl : l.stackTraces = true) (su sn : Addr) (hUS : Sta Z Z.heap "java/lang/Throwable" "UNASSIGNED_STACK" "[Ljava/lang/StackTraceElement;" (.ref su)) (hSS : Sta Z Z.heap "java/lang/Throwable" "SUPPRESSED_SENTINEL" "Ljava/util/List;" (.ref sn)) :
    Met l Z a0 EL b n0 (⟨"java/lang/Throwable", "<init>", "(Ljava/lang/String;Ljava/lang/Throwable;)V"⟩ : MethodName) jdk_78_method_3_code 3 none [] (rm4 3 1 2752 42) [.ref e, .ref m, .null] [(e, .inl ("startbeam/ComponentException", [("java/lang/Throwable", "detailMessage", "Ljava/lang/String;", .null), ("java/lang/Throwable", "cause", "Ljava/lang/Throwable;", .null), ("java/lang/Throwable", "stackTrace", "[Ljava/lang/StackTraceElement;", .null), ("java/lang/Throwable", "suppressedExceptions", "Ljava/util/List;", .null), ("java/lang/Throwable", "backtrace", "Ljava/lang/Object;", .null), ("startbeam/ComponentException", "remedy", "Ljava/lang/String;", .null)]))] [] (fun v D' S' => v = none ∧ D' = [(e, .inl ("startbeam/ComponentException", [("java/lang/Throwable", "detailMessage", "Ljava/lang/String;", .ref m), ("java/lang/Throwable", "cause", "Ljava/lang/Throwable;", .null), ("startbeam/ComponentException", "remedy", "Ljava/lang/String;", .null)]))] ∧ S' = []) := by
  refine Met.of_go (own := "java/lang/Throwable") (nm := "<init>") (Ls := #[.val (.ref e), .val (.ref m), .val .null]) (plainFor_of_name png_8) (fun m => by first | (simp [entryFrame, mkF, argsToLocals, Value.category]; done) | rfl) ?_
  refine Go.aloadN d34_0 rfl (G := ?_)
  refine Go.objInit d34_1 (hw _ (List.mem_of_getElem? (i := 193) rfl)) (hw _ (List.mem_of_getElem? (i := 12) rfl)) (hw _ (List.mem_of_getElem? (i := 13) rfl)) rfl (Nat.le_of_ble_eq_true rfl) (Nat.le_of_ble_eq_true rfl) (G := ?_)
  refine Go.aloadN d34_4 rfl (G := ?_)
  refine Go.aloadN d34_5 rfl (G := ?_)
  refine Go.putfield d34_6 (hw _ (List.mem_of_getElem? (i := 194) rfl)) Via.refl 0 rfl 1 rfl (Or.inl (hw _ (List.mem_of_getElem? (i := 195) rfl))) (hw _ (List.mem_of_getElem? (i := 35) rfl)) (ty := .object "java/lang/Throwable") (by decide +kernel) (v' := .ref e) rfl rfl (D' := [(e, .inl ("startbeam/ComponentException", [("java/lang/Throwable", "detailMessage", "Ljava/lang/String;", .null), ("java/lang/Throwable", "cause", "Ljava/lang/Throwable;", .ref e), ("java/lang/Throwable", "stackTrace", "[Ljava/lang/StackTraceElement;", .null), ("java/lang/Throwable", "suppressedExceptions", "Ljava/util/List;", .null), ("java/lang/Throwable", "backtrace", "Ljava/lang/Object;", .null), ("startbeam/ComponentException", "remedy", "Ljava/lang/String;", .null)]))]) rfl (G := ?_)
  refine Go.aloadN d34_9 rfl (G := ?_)
  refine Go.getstatic d34_10 (host := "") (Or.inl (hw _ (List.mem_of_getElem? (i := 196) rfl))) Via.refl hUS (G := ?_)
  refine Go.putfield d34_13 (hw _ (List.mem_of_getElem? (i := 197) rfl)) Via.refl 0 rfl 2 rfl (Or.inl (hw _ (List.mem_of_getElem? (i := 198) rfl))) (hw _ (List.mem_of_getElem? (i := 35) rfl)) (ty := .array (.object "java/lang/StackTraceElement")) (by decide +kernel) (v' := .ref su) rfl rfl (D' := [(e, .inl ("startbeam/ComponentException", [("java/lang/Throwable", "detailMessage", "Ljava/lang/String;", .null), ("java/lang/Throwable", "cause", "Ljava/lang/Throwable;", .ref e), ("java/lang/Throwable", "stackTrace", "[Ljava/lang/StackTraceElement;", .ref su), ("java/lang/Throwable", "suppressedExceptions", "Ljava/util/List;", .null), ("java/lang/Throwable", "backtrace", "Ljava/lang/Object;", .null), ("startbeam/ComponentException", "remedy", "Ljava/lang/String;", .null)]))]) rfl (G := ?_)
  refine Go.aloadN d34_16 rfl (G := ?_)
  refine Go.getstatic d34_17 (host := "") (Or.inl (hw _ (List.mem_of_getElem? (i := 199) rfl))) Via.refl hSS (G := ?_)
  refine Go.putfield d34_20 (hw _ (List.mem_of_getElem? (i := 200) rfl)) Via.refl 0 rfl 3 rfl (Or.inl (hw _ (List.mem_of_getElem? (i := 201) rfl))) (hw _ (List.mem_of_getElem? (i := 35) rfl)) (ty := .object "java/util/List") (by decide +kernel) (v' := .ref sn) rfl rfl (D' := [(e, .inl ("startbeam/ComponentException", [("java/lang/Throwable", "detailMessage", "Ljava/lang/String;", .null), ("java/lang/Throwable", "cause", "Ljava/lang/Throwable;", .ref e), ("java/lang/Throwable", "stackTrace", "[Ljava/lang/StackTraceElement;", .ref su), ("java/lang/Throwable", "suppressedExceptions", "Ljava/util/List;", .ref sn), ("java/lang/Throwable", "backtrace", "Ljava/lang/Object;", .null), ("startbeam/ComponentException", "remedy", "Ljava/lang/String;", .null)]))]) rfl (G := ?_)
  refine Go.aloadN d34_23 rfl (G := ?_)
  refine Go.fill hl rfl rfl d34_24 (thWw hw) (hw _ (List.mem_of_getElem? (i := 35) rfl)) hUS 0 rfl (List.mem_of_getElem? (i := 2) rfl) (List.mem_of_getElem? (i := 4) rfl) (fs' := [("java/lang/Throwable", "detailMessage", "Ljava/lang/String;", .null), ("java/lang/Throwable", "cause", "Ljava/lang/Throwable;", .ref e), ("startbeam/ComponentException", "remedy", "Ljava/lang/String;", .null)]) (eS ⟨List.mem_of_getElem? (i := 0) rfl, (show Jvm.RoadKit.slotOf Z "java/lang/Throwable" "backtrace" "Ljava/lang/Object;" ≠ Jvm.RoadKit.slotOf Z "java/lang/Throwable" "detailMessage" "Ljava/lang/String;" from slot_ne (Or.inl (hw _ (List.mem_of_getElem? (i := 226) rfl))) (Or.inl (hw _ (List.mem_of_getElem? (i := 225) rfl))) (by decide) (t := (.object "java/lang/Object")) (t' := (.object "java/lang/String")) (by decide) (by decide)), (show Jvm.RoadKit.slotOf Z "java/lang/Throwable" "depth" "I" ≠ Jvm.RoadKit.slotOf Z "java/lang/Throwable" "detailMessage" "Ljava/lang/String;" from slot_ne (Or.inl (hw _ (List.mem_of_getElem? (i := 227) rfl))) (Or.inl (hw _ (List.mem_of_getElem? (i := 225) rfl))) (by decide) (t := .int) (t' := (.object "java/lang/String")) (by decide) (by decide)), (show Jvm.RoadKit.slotOf Z "java/lang/Throwable" "stackTrace" "[Ljava/lang/StackTraceElement;" ≠ Jvm.RoadKit.slotOf Z "java/lang/Throwable" "detailMessage" "Ljava/lang/String;" from slot_ne (Or.inl (hw _ (List.mem_of_getElem? (i := 198) rfl))) (Or.inl (hw _ (List.mem_of_getElem? (i := 225) rfl))) (by decide) (t := (.array (.object "java/lang/StackTraceElement"))) (t' := (.object "java/lang/String")) (by decide) (by decide))⟩ (eS ⟨List.mem_of_getElem? (i := 1) rfl, (show Jvm.RoadKit.slotOf Z "java/lang/Throwable" "backtrace" "Ljava/lang/Object;" ≠ Jvm.RoadKit.slotOf Z "java/lang/Throwable" "cause" "Ljava/lang/Throwable;" from slot_ne (Or.inl (hw _ (List.mem_of_getElem? (i := 226) rfl))) (Or.inl (hw _ (List.mem_of_getElem? (i := 195) rfl))) (by decide) (t := (.object "java/lang/Object")) (t' := (.object "java/lang/Throwable")) (by decide) (by decide)), (show Jvm.RoadKit.slotOf Z "java/lang/Throwable" "depth" "I" ≠ Jvm.RoadKit.slotOf Z "java/lang/Throwable" "cause" "Ljava/lang/Throwable;" from slot_ne (Or.inl (hw _ (List.mem_of_getElem? (i := 227) rfl))) (Or.inl (hw _ (List.mem_of_getElem? (i := 195) rfl))) (by decide) (t := .int) (t' := (.object "java/lang/Throwable")) (by decide) (by decide)), (show Jvm.RoadKit.slotOf Z "java/lang/Throwable" "stackTrace" "[Ljava/lang/StackTraceElement;" ≠ Jvm.RoadKit.slotOf Z "java/lang/Throwable" "cause" "Ljava/lang/Throwable;" from slot_ne (Or.inl (hw _ (List.mem_of_getElem? (i := 198) rfl))) (Or.inl (hw _ (List.mem_of_getElem? (i := 195) rfl))) (by decide) (t := (.array (.object "java/lang/StackTraceElement"))) (t' := (.object "java/lang/Throwable")) (by decide) (by decide))⟩ (eS ⟨List.mem_of_getElem? (i := 5) rfl, (show Jvm.RoadKit.slotOf Z "java/lang/Throwable" "backtrace" "Ljava/lang/Object;" ≠ Jvm.RoadKit.slotOf Z "startbeam/ComponentException" "remedy" "Ljava/lang/String;" from slot_ne (Or.inl (hw _ (List.mem_of_getElem? (i := 226) rfl))) (Or.inr (hw _ (List.mem_of_getElem? (i := 231) rfl))) (by decide) (t := (.object "java/lang/Object")) (t' := (.object "java/lang/String")) (by decide) (by decide)), (show Jvm.RoadKit.slotOf Z "java/lang/Throwable" "depth" "I" ≠ Jvm.RoadKit.slotOf Z "startbeam/ComponentException" "remedy" "Ljava/lang/String;" from slot_ne (Or.inl (hw _ (List.mem_of_getElem? (i := 227) rfl))) (Or.inr (hw _ (List.mem_of_getElem? (i := 231) rfl))) (by decide) (t := .int) (t' := (.object "java/lang/String")) (by decide) (by decide)), (show Jvm.RoadKit.slotOf Z "java/lang/Throwable" "stackTrace" "[Ljava/lang/StackTraceElement;" ≠ Jvm.RoadKit.slotOf Z "startbeam/ComponentException" "remedy" "Ljava/lang/String;" from slot_ne (Or.inl (hw _ (List.mem_of_getElem? (i := 198) rfl))) (Or.inr (hw _ (List.mem_of_getElem? (i := 231) rfl))) (by decide) (t := (.array (.object "java/lang/StackTraceElement"))) (t' := (.object "java/lang/String")) (by decide) (by decide))⟩ eN))) (nd3 hw) (D' := [(e, .inl ("startbeam/ComponentException", [("java/lang/Throwable", "detailMessage", "Ljava/lang/String;", .null), ("java/lang/Throwable", "cause", "Ljava/lang/Throwable;", .ref e), ("startbeam/ComponentException", "remedy", "Ljava/lang/String;", .null)]))]) rfl (G := ?_)
  refine Go.pop d34_27 (G := ?_)
  refine Go.aloadN d34_28 rfl (G := ?_)
  refine Go.aloadN d34_29 rfl (G := ?_)
  refine Go.putfield d34_30 (hw _ (List.mem_of_getElem? (i := 229) rfl)) Via.refl 0 rfl 0 rfl (Or.inl (hw _ (List.mem_of_getElem? (i := 225) rfl))) (hw _ (List.mem_of_getElem? (i := 35) rfl)) (ty := .object "java/lang/String") (by decide +kernel) (v' := .ref m) rfl rfl (D' := [(e, .inl ("startbeam/ComponentException", [("java/lang/Throwable", "detailMessage", "Ljava/lang/String;", .ref m), ("java/lang/Throwable", "cause", "Ljava/lang/Throwable;", .ref e), ("startbeam/ComponentException", "remedy", "Ljava/lang/String;", .null)]))]) rfl (G := ?_)
  refine Go.aloadN d34_33 rfl (G := ?_)
  refine Go.aloadN d34_34 rfl (G := ?_)
  refine Go.putfield d34_35 (hw _ (List.mem_of_getElem? (i := 194) rfl)) Via.refl 0 rfl 1 rfl (Or.inl (hw _ (List.mem_of_getElem? (i := 195) rfl))) (hw _ (List.mem_of_getElem? (i := 35) rfl)) (ty := .object "java/lang/Throwable") (by decide +kernel) (v' := .null) rfl rfl (D' := [(e, .inl ("startbeam/ComponentException", [("java/lang/Throwable", "detailMessage", "Ljava/lang/String;", .ref m), ("java/lang/Throwable", "cause", "Ljava/lang/Throwable;", .null), ("startbeam/ComponentException", "remedy", "Ljava/lang/String;", .null)]))]) rfl (G := ?_)
  exact Go.retV d34_38 ⟨rfl, rfl, rfl⟩
theorem png_9 : plainName "java/lang/Exception" = true := by first | (simp [plainName, overriddenIn]; done) | decide +kernel
theorem d35_0 : Dx jdk_59_method_3_code 0 (.aload_n 0) 1 1 := ⟨by decide +kernel, rfl⟩
theorem d35_1 : Dx jdk_59_method_3_code 1 (.aload_n 1) 1 2 := ⟨by decide +kernel, rfl⟩
theorem d35_2 : Dx jdk_59_method_3_code 2 (.aload_n 2) 1 3 := ⟨by decide +kernel, rfl⟩
theorem d35_3 : Dx jdk_59_method_3_code 3 (.invokespecial 10) 3 6 := ⟨by decide +kernel, rfl⟩
theorem d35_6 : Dx jdk_59_method_3_code 6 (.return_) 1 7 := ⟨by decide +kernel, rfl⟩
theorem pdg_25 : parseMethodDescriptor "(Ljava/lang/String;Ljava/lang/Throwable;)V" = some ⟨[.object "java/lang/String", .object "java/lang/Throwable"], none⟩ := by decide +kernel
set_option maxRecDepth 65536 in
set_option maxHeartbeats 40000000 in
theorem c_ei {l : Launch} {Z : State} {a0 : Array Value} {EL : List (String × Nat)} {b : Bool} {n0 : Nat} (hw : ∀ d ∈ tables_1, d.before a0 Z = true) (e m : Addr) (hl : l.stackTraces = true) (su sn : Addr) (hUS : Sta Z Z.heap "java/lang/Throwable" "UNASSIGNED_STACK" "[Ljava/lang/StackTraceElement;" (.ref su)) (hSS : Sta Z Z.heap "java/lang/Throwable" "SUPPRESSED_SENTINEL" "Ljava/util/List;" (.ref sn)) :
    Met l Z a0 EL b n0 (⟨"java/lang/Exception", "<init>", "(Ljava/lang/String;Ljava/lang/Throwable;)V"⟩ : MethodName) jdk_59_method_3_code 3 none [] (rm4 4 1 2752 56) [.ref e, .ref m, .null] [(e, .inl ("startbeam/ComponentException", [("java/lang/Throwable", "detailMessage", "Ljava/lang/String;", .null), ("java/lang/Throwable", "cause", "Ljava/lang/Throwable;", .null), ("java/lang/Throwable", "stackTrace", "[Ljava/lang/StackTraceElement;", .null), ("java/lang/Throwable", "suppressedExceptions", "Ljava/util/List;", .null), ("java/lang/Throwable", "backtrace", "Ljava/lang/Object;", .null), ("startbeam/ComponentException", "remedy", "Ljava/lang/String;", .null)]))] [] (fun v D' S' => v = none ∧ D' = [(e, .inl ("startbeam/ComponentException", [("java/lang/Throwable", "detailMessage", "Ljava/lang/String;", .ref m), ("java/lang/Throwable", "cause", "Ljava/lang/Throwable;", .null), ("startbeam/ComponentException", "remedy", "Ljava/lang/String;", .null)]))] ∧ S' = []) := by
  refine Met.of_go (own := "java/lang/Exception") (nm := "<init>") (Ls := #[.val (.ref e), .val (.ref m), .val .null]) (plainFor_of_name png_9) (fun m => by first | (simp [entryFrame, mkF, argsToLocals, Value.category]; done) | rfl) ?_
  refine Go.aloadN d35_0 rfl (G := ?_)
  refine Go.aloadN d35_1 rfl (G := ?_)
  refine Go.aloadN d35_2 rfl (G := ?_)
  refine Go.invokeinit false d35_3 rfl (hw _ (List.mem_of_getElem? (i := 187) rfl)) (hw _ (List.mem_of_getElem? (i := 188) rfl)) (hw _ (List.mem_of_getElem? (i := 191) rfl)) (hw _ (List.mem_of_getElem? (i := 192) rfl)) (c_ti hw e m hl su sn hUS hSS) pdg_25 rfl (argsL := [.ref m, .null]) (rest := []) rfl rfl (Dr := []) rfl eN (G := ?_)
  rintro _ _ _ ⟨rfl, rfl, rfl⟩
  refine Go.norm (D2 := [(e, .inl ("startbeam/ComponentException", [("java/lang/Throwable", "detailMessage", "Ljava/lang/String;", .ref m), ("java/lang/Throwable", "cause", "Ljava/lang/Throwable;", .null), ("startbeam/ComponentException", "remedy", "Ljava/lang/String;", .null)]))]) (S2 := []) (c2 := 1) (s2 := 2752) (st2 := []) ?_
  exact Go.retV d35_6 ⟨rfl, rfl, rfl⟩
theorem png_10 : plainName "java/lang/RuntimeException" = true := by first | (simp [plainName, overriddenIn]; done) | decide +kernel
theorem d36_0 : Dx jdk_58_method_3_code 0 (.aload_n 0) 1 1 := ⟨by decide +kernel, rfl⟩
theorem d36_1 : Dx jdk_58_method_3_code 1 (.aload_n 1) 1 2 := ⟨by decide +kernel, rfl⟩
theorem d36_2 : Dx jdk_58_method_3_code 2 (.aload_n 2) 1 3 := ⟨by decide +kernel, rfl⟩
theorem d36_3 : Dx jdk_58_method_3_code 3 (.invokespecial 10) 3 6 := ⟨by decide +kernel, rfl⟩
theorem d36_6 : Dx jdk_58_method_3_code 6 (.return_) 1 7 := ⟨by decide +kernel, rfl⟩
set_option maxRecDepth 65536 in
set_option maxHeartbeats 40000000 in
theorem c_ri {l : Launch} {Z : State} {a0 : Array Value} {EL : List (String × Nat)} {b : Bool} {n0 : Nat} (hw : ∀ d ∈ tables_1, d.before a0 Z = true) (e m : Addr) (hl : l.stackTraces = true) (su sn : Addr) (hUS : Sta Z Z.heap "java/lang/Throwable" "UNASSIGNED_STACK" "[Ljava/lang/StackTraceElement;" (.ref su)) (hSS : Sta Z Z.heap "java/lang/Throwable" "SUPPRESSED_SENTINEL" "Ljava/util/List;" (.ref sn)) :
    Met l Z a0 EL b n0 (⟨"java/lang/RuntimeException", "<init>", "(Ljava/lang/String;Ljava/lang/Throwable;)V"⟩ : MethodName) jdk_58_method_3_code 3 none [] (rm4 5 1 2752 70) [.ref e, .ref m, .null] [(e, .inl ("startbeam/ComponentException", [("java/lang/Throwable", "detailMessage", "Ljava/lang/String;", .null), ("java/lang/Throwable", "cause", "Ljava/lang/Throwable;", .null), ("java/lang/Throwable", "stackTrace", "[Ljava/lang/StackTraceElement;", .null), ("java/lang/Throwable", "suppressedExceptions", "Ljava/util/List;", .null), ("java/lang/Throwable", "backtrace", "Ljava/lang/Object;", .null), ("startbeam/ComponentException", "remedy", "Ljava/lang/String;", .null)]))] [] (fun v D' S' => v = none ∧ D' = [(e, .inl ("startbeam/ComponentException", [("java/lang/Throwable", "detailMessage", "Ljava/lang/String;", .ref m), ("java/lang/Throwable", "cause", "Ljava/lang/Throwable;", .null), ("startbeam/ComponentException", "remedy", "Ljava/lang/String;", .null)]))] ∧ S' = []) := by
  refine Met.of_go (own := "java/lang/RuntimeException") (nm := "<init>") (Ls := #[.val (.ref e), .val (.ref m), .val .null]) (plainFor_of_name png_10) (fun m => by first | (simp [entryFrame, mkF, argsToLocals, Value.category]; done) | rfl) ?_
  refine Go.aloadN d36_0 rfl (G := ?_)
  refine Go.aloadN d36_1 rfl (G := ?_)
  refine Go.aloadN d36_2 rfl (G := ?_)
  refine Go.invokeinit false d36_3 rfl (hw _ (List.mem_of_getElem? (i := 181) rfl)) (hw _ (List.mem_of_getElem? (i := 182) rfl)) (hw _ (List.mem_of_getElem? (i := 185) rfl)) (hw _ (List.mem_of_getElem? (i := 186) rfl)) (c_ei hw e m hl su sn hUS hSS) pdg_25 rfl (argsL := [.ref m, .null]) (rest := []) rfl rfl (Dr := []) rfl eN (G := ?_)
  rintro _ _ _ ⟨rfl, rfl, rfl⟩
  refine Go.norm (D2 := [(e, .inl ("startbeam/ComponentException", [("java/lang/Throwable", "detailMessage", "Ljava/lang/String;", .ref m), ("java/lang/Throwable", "cause", "Ljava/lang/Throwable;", .null), ("startbeam/ComponentException", "remedy", "Ljava/lang/String;", .null)]))]) (S2 := []) (c2 := 1) (s2 := 2752) (st2 := []) ?_
  exact Go.retV d36_6 ⟨rfl, rfl, rfl⟩
theorem d37_0 : Dx prog_19_method_4_code 0 (.aload_n 0) 1 1 := ⟨by decide +kernel, rfl⟩
theorem d37_1 : Dx prog_19_method_4_code 1 (.aload_n 1) 1 2 := ⟨by decide +kernel, rfl⟩
theorem d37_2 : Dx prog_19_method_4_code 2 (.aload_n 3) 1 3 := ⟨by decide +kernel, rfl⟩
theorem d37_3 : Dx prog_19_method_4_code 3 (.invokespecial 9) 3 6 := ⟨by decide +kernel, rfl⟩
theorem d37_6 : Dx prog_19_method_4_code 6 (.aload_n 0) 1 7 := ⟨by decide +kernel, rfl⟩
theorem d37_7 : Dx prog_19_method_4_code 7 (.aload_n 2) 1 8 := ⟨by decide +kernel, rfl⟩
theorem d37_8 : Dx prog_19_method_4_code 8 (.putfield 12) 3 11 := ⟨by decide +kernel, rfl⟩
theorem d37_11 : Dx prog_19_method_4_code 11 (.return_) 1 12 := ⟨by decide +kernel, rfl⟩
set_option maxRecDepth 65536 in
set_option maxHeartbeats 40000000 in
theorem c_i3R {l : Launch} {Z : State} {a0 : Array Value} {EL : List (String × Nat)} {b : Bool} {n0 : Nat} (hw : ∀ d ∈ tables_1, d.before a0 Z = true) (e m : Addr) (z : Addr) (hl : l.stackTraces = true) (su sn : Addr) (hUS : Sta Z Z.heap "java/lang/Throwable" "UNASSIGNED_STACK" "[Ljava/lang/StackTraceElement;" (.ref su)) (hSS : Sta Z Z.heap "java/lang/Throwable" "SUPPRESSED_SENTINEL" "Ljava/util/List;" (.ref sn)) :
    Met l Z a0 EL b n0 (⟨"startbeam/ComponentException", "<init>", "(Ljava/lang/String;Ljava/lang/String;Ljava/lang/Throwable;)V"⟩ : MethodName) prog_19_method_4_code 4 none [] (rm4 6 1 2752 84) [.ref e, .ref m, .ref z, .null] [(e, .inl ("startbeam/ComponentException", [("java/lang/Throwable", "detailMessage", "Ljava/lang/String;", .null), ("java/lang/Throwable", "cause", "Ljava/lang/Throwable;", .null), ("java/lang/Throwable", "stackTrace", "[Ljava/lang/StackTraceElement;", .null), ("java/lang/Throwable", "suppressedExceptions", "Ljava/util/List;", .null), ("java/lang/Throwable", "backtrace", "Ljava/lang/Object;", .null), ("startbeam/ComponentException", "remedy", "Ljava/lang/String;", .null)]))] [] (fun v D' S' => v = none ∧ D' = [(e, .inl ("startbeam/ComponentException", [("java/lang/Throwable", "detailMessage", "Ljava/lang/String;", .ref m), ("java/lang/Throwable", "cause", "Ljava/lang/Throwable;", .null), ("startbeam/ComponentException", "remedy", "Ljava/lang/String;", .ref z)]))] ∧ S' = []) := by
  refine Met.of_go (own := "startbeam/ComponentException") (nm := "<init>") (Ls := #[.val (.ref e), .val (.ref m), .val (.ref z), .val .null]) (plainFor_of_name png_7) (fun m => by first | (simp [entryFrame, mkF, argsToLocals, Value.category]; done) | rfl) ?_
  refine Go.aloadN d37_0 rfl (G := ?_)
  refine Go.aloadN d37_1 rfl (G := ?_)
  refine Go.aloadN d37_2 rfl (G := ?_)
  refine Go.invokeinit false d37_3 rfl (hw _ (List.mem_of_getElem? (i := 176) rfl)) (hw _ (List.mem_of_getElem? (i := 177) rfl)) (hw _ (List.mem_of_getElem? (i := 179) rfl)) (hw _ (List.mem_of_getElem? (i := 180) rfl)) (c_ri hw e m hl su sn hUS hSS) pdg_25 rfl (argsL := [.ref m, .null]) (rest := []) rfl rfl (Dr := []) rfl eN (G := ?_)
  rintro _ _ _ ⟨rfl, rfl, rfl⟩
  refine Go.norm (D2 := [(e, .inl ("startbeam/ComponentException", [("java/lang/Throwable", "detailMessage", "Ljava/lang/String;", .ref m), ("java/lang/Throwable", "cause", "Ljava/lang/Throwable;", .null), ("startbeam/ComponentException", "remedy", "Ljava/lang/String;", .null)]))]) (S2 := []) (c2 := 1) (s2 := 2752) (st2 := []) ?_
  refine Go.aloadN d37_6 rfl (G := ?_)
  refine Go.aloadN d37_7 rfl (G := ?_)
  refine Go.putfield d37_8 (hw _ (List.mem_of_getElem? (i := 230) rfl)) Via.refl 0 rfl 2 rfl (Or.inr ⟨(hw _ (List.mem_of_getElem? (i := 231) rfl)), rfl, rfl⟩) (hw _ (List.mem_of_getElem? (i := 35) rfl)) (ty := .object "java/lang/String") (by decide +kernel) (v' := .ref z) rfl rfl (D' := [(e, .inl ("startbeam/ComponentException", [("java/lang/Throwable", "detailMessage", "Ljava/lang/String;", .ref m), ("java/lang/Throwable", "cause", "Ljava/lang/Throwable;", .null), ("startbeam/ComponentException", "remedy", "Ljava/lang/String;", .ref z)]))]) rfl (G := ?_)
  exact Go.retV d37_11 ⟨rfl, rfl, rfl⟩
theorem d38_0 : Dx prog_19_method_3_code 0 (.aload_n 0) 1 1 := ⟨by decide +kernel, rfl⟩
theorem d38_1 : Dx prog_19_method_3_code 1 (.aload_n 1) 1 2 := ⟨by decide +kernel, rfl⟩
theorem d38_2 : Dx prog_19_method_3_code 2 (.aload_n 2) 1 3 := ⟨by decide +kernel, rfl⟩
theorem d38_3 : Dx prog_19_method_3_code 3 (.aconst_null) 1 4 := ⟨by decide +kernel, rfl⟩
theorem d38_4 : Dx prog_19_method_3_code 4 (.invokespecial 16) 3 7 := ⟨by decide +kernel, rfl⟩
theorem d38_7 : Dx prog_19_method_3_code 7 (.return_) 1 8 := ⟨by decide +kernel, rfl⟩
theorem pdg_26 : parseMethodDescriptor "(Ljava/lang/String;Ljava/lang/String;Ljava/lang/Throwable;)V" = some ⟨[.object "java/lang/String", .object "java/lang/String", .object "java/lang/Throwable"], none⟩ := by decide +kernel
set_option maxRecDepth 65536 in
set_option maxHeartbeats 40000000 in
theorem c_i2R {l : Launch} {Z : State} {a0 : Array Value} {EL : List (String × Nat)} {b : Bool} {n0 : Nat} (hw : ∀ d ∈ tables_1, d.before a0 Z = true) (e m : Addr) (z : Addr) (hl : l.stackTraces = true) (su sn : Addr) (hUS : Sta Z Z.heap "java/lang/Throwable" "UNASSIGNED_STACK" "[Ljava/lang/StackTraceElement;" (.ref su)) (hSS : Sta Z Z.heap "java/lang/Throwable" "SUPPRESSED_SENTINEL" "Ljava/util/List;" (.ref sn)) :
    Met l Z a0 EL b n0 (⟨"startbeam/ComponentException", "<init>", "(Ljava/lang/String;Ljava/lang/String;)V"⟩ : MethodName) prog_19_method_3_code 3 none [] (rm4 7 1 2752 99) [.ref e, .ref m, .ref z] [(e, .inl ("startbeam/ComponentException", [("java/lang/Throwable", "detailMessage", "Ljava/lang/String;", .null), ("java/lang/Throwable", "cause", "Ljava/lang/Throwable;", .null), ("java/lang/Throwable", "stackTrace", "[Ljava/lang/StackTraceElement;", .null), ("java/lang/Throwable", "suppressedExceptions", "Ljava/util/List;", .null), ("java/lang/Throwable", "backtrace", "Ljava/lang/Object;", .null), ("startbeam/ComponentException", "remedy", "Ljava/lang/String;", .null)]))] [] (fun v D' S' => v = none ∧ D' = [(e, .inl ("startbeam/ComponentException", [("java/lang/Throwable", "detailMessage", "Ljava/lang/String;", .ref m), ("java/lang/Throwable", "cause", "Ljava/lang/Throwable;", .null), ("startbeam/ComponentException", "remedy", "Ljava/lang/String;", .ref z)]))] ∧ S' = []) := by
  refine Met.of_go (own := "startbeam/ComponentException") (nm := "<init>") (Ls := #[.val (.ref e), .val (.ref m), .val (.ref z)]) (plainFor_of_name png_7) (fun m => by first | (simp [entryFrame, mkF, argsToLocals, Value.category]; done) | rfl) ?_
  refine Go.aloadN d38_0 rfl (G := ?_)
  refine Go.aloadN d38_1 rfl (G := ?_)
  refine Go.aloadN d38_2 rfl (G := ?_)
  refine Go.aconstNull d38_3 (G := ?_)
  refine Go.invokeinit false d38_4 rfl (hw _ (List.mem_of_getElem? (i := 173) rfl)) (hw _ (List.mem_of_getElem? (i := 174) rfl)) (hw _ (List.mem_of_getElem? (i := 32) rfl)) (hw _ (List.mem_of_getElem? (i := 175) rfl)) (c_i3R hw e m z hl su sn hUS hSS) pdg_26 rfl (argsL := [.ref m, .ref z, .null]) (rest := []) rfl rfl (Dr := []) rfl eN (G := ?_)
  rintro _ _ _ ⟨rfl, rfl, rfl⟩
  refine Go.norm (D2 := [(e, .inl ("startbeam/ComponentException", [("java/lang/Throwable", "detailMessage", "Ljava/lang/String;", .ref m), ("java/lang/Throwable", "cause", "Ljava/lang/Throwable;", .null), ("startbeam/ComponentException", "remedy", "Ljava/lang/String;", .ref z)]))]) (S2 := []) (c2 := 1) (s2 := 2752) (st2 := []) ?_
  exact Go.retV d38_7 ⟨rfl, rfl, rfl⟩
theorem d39_0 : Dx prog_19_method_8_code 0 (.new 4) 3 3 := ⟨by decide +kernel, rfl⟩
theorem d39_3 : Dx prog_19_method_8_code 3 (.dup) 1 4 := ⟨by decide +kernel, rfl⟩
theorem d39_4 : Dx prog_19_method_8_code 4 (.aload_n 0) 1 5 := ⟨by decide +kernel, rfl⟩
theorem d39_5 : Dx prog_19_method_8_code 5 (.aload_n 1) 1 6 := ⟨by decide +kernel, rfl⟩
theorem d39_6 : Dx prog_19_method_8_code 6 (.invokestatic 25) 3 9 := ⟨by decide +kernel, rfl⟩
theorem d39_9 : Dx prog_19_method_8_code 9 (.aload_n 2) 1 10 := ⟨by decide +kernel, rfl⟩
theorem d39_10 : Dx prog_19_method_8_code 10 (.invokespecial 33) 3 13 := ⟨by decide +kernel, rfl⟩
theorem d39_13 : Dx prog_19_method_8_code 13 (.areturn) 1 14 := ⟨by decide +kernel, rfl⟩
theorem pdg_27 : parseMethodDescriptor "(Ljava/lang/String;Ljava/lang/String;)Ljava/lang/String;" = some ⟨[.object "java/lang/String", .object "java/lang/String"], some (.object "java/lang/String")⟩ := by decide +kernel
theorem pdg_28 : parseMethodDescriptor "(Ljava/lang/String;Ljava/lang/String;)V" = some ⟨[.object "java/lang/String", .object "java/lang/String"], none⟩ := by decide +kernel
set_option maxRecDepth 65536 in
set_option maxHeartbeats 40000000 in
theorem c_ccR {l : Launch} {Z : State} {a0 : Array Value} {EL : List (String × Nat)} {b : Bool} {n0 : Nat} (hw : ∀ d ∈ tables_1, d.before a0 Z = true) (s1 r1 s2 r2 : Addr) (z : Addr)  (p0 p1 : Int32) (q0 q1 : Int32) (cpt : Int32) (hCS : Sta Z Z.heap "java/lang/String" "COMPACT_STRINGS" "Z" (.int cpt)) (hcpt : ¬ cpt = 0) (hb1 : b = true) (hE_ComponentException_41 : ("startbeam/ComponentException", 41) ∈ EL) (hE_ComponentException_47 : ("startbeam/ComponentException", 47) ∈ EL) (hl : l.stackTraces = true) (su sn : Addr) (hUS : Sta Z Z.heap "java/lang/Throwable" "UNASSIGNED_STACK" "[Ljava/lang/StackTraceElement;" (.ref su)) (hSS : Sta Z Z.heap "java/lang/Throwable" "SUPPRESSED_SENTINEL" "Ljava/util/List;" (.ref sn)) :
    Met l Z a0 EL b n0 (⟨"startbeam/ComponentException", "cannotCreate", "(Ljava/lang/String;Ljava/lang/String;Ljava/lang/String;)Lstartbeam/ComponentException;"⟩ : MethodName) prog_19_method_8_code 3 (some (.object "startbeam/ComponentException")) [] (rm4 8 15 2959 114) [.ref s1, .ref s2, .ref z] [] [(s1, .inl ("java/lang/String", [("java/lang/String", "value", "[B", .ref r1), ("java/lang/String", "coder", "B", .int 0)])), (r1, .inr (.byte, [.int p0, .int p1])), (s2, .inl ("java/lang/String", [("java/lang/String", "value", "[B", .ref r2), ("java/lang/String", "coder", "B", .int 0)])), (r2, .inr (.byte, [.int q0, .int q1]))] (fun v D' S' => ∃ e m vb, v = some (.ref e) ∧ D' = [(e, .inl ("startbeam/ComponentException", [("java/lang/Throwable", "detailMessage", "Ljava/lang/String;", .ref m), ("java/lang/Throwable", "cause", "Ljava/lang/Throwable;", .null), ("startbeam/ComponentException", "remedy", "Ljava/lang/String;", .ref z)])), (m, .inl ("java/lang/String", [("java/lang/String", "value", "[B", .ref vb), ("java/lang/String", "coder", "B", .int 0)])), (vb, .inr (.byte, [.int 67, .int 97, .int 110, .int 110, .int 111, .int 116, .int 32, .int 99, .int 114, .int 101, .int 97, .int 116, .int 101, .int 32, .int p0, .int p1, .int 58, .int 32, .int q0, .int q1]))] ∧ S' = []) := by
  refine Met.of_go (own := "startbeam/ComponentException") (nm := "cannotCreate") (Ls := #[.val (.ref s1), .val (.ref s2), .val (.ref z)]) (plainFor_of_name png_7) (fun m => by first | (simp [entryFrame, mkF, argsToLocals, Value.category]; done) | rfl) ?_
  refine Go.new d39_0 (hw _ (List.mem_of_getElem? (i := 34) rfl)) (hw _ (List.mem_of_getElem? (i := 35) rfl)) (hw _ (List.mem_of_getElem? (i := 32) rfl)) (NewF.cons (Or.inl (hw _ (List.mem_of_getElem? (i := 225) rfl))) (ty := .object "java/lang/String") (by decide +kernel) rfl (by simp) (NewF.cons (Or.inl (hw _ (List.mem_of_getElem? (i := 195) rfl))) (ty := .object "java/lang/Throwable") (by decide +kernel) rfl (by simp) (NewF.cons (Or.inl (hw _ (List.mem_of_getElem? (i := 198) rfl))) (ty := .array (.object "java/lang/StackTraceElement")) (by decide +kernel) rfl (by simp) (NewF.cons (Or.inl (hw _ (List.mem_of_getElem? (i := 201) rfl))) (ty := .object "java/util/List") (by decide +kernel) rfl (by simp) (NewF.cons (Or.inl (hw _ (List.mem_of_getElem? (i := 226) rfl))) (ty := .object "java/lang/Object") (by decide +kernel) rfl (by simp) (NewF.cons (Or.inr (hw _ (List.mem_of_getElem? (i := 231) rfl))) (ty := .object "java/lang/String") (by decide +kernel) rfl (by simp) NewF.nil)))))) (G := fun o1 => ?_)
  refine Go.dup d39_3 (G := ?_)
  refine Go.aloadN d39_4 rfl (G := ?_)
  refine Go.aloadN d39_5 rfl (G := ?_)
  refine Go.invokestatic false d39_6 (hw _ (List.mem_of_getElem? (i := 36) rfl)) (hw _ (List.mem_of_getElem? (i := 37) rfl)) (hw _ (List.mem_of_getElem? (i := 32) rfl)) (hw _ (List.mem_of_getElem? (i := 38) rfl)) (c_ccm hw s1 r1 s2 r2 p0 p1 q0 q1 cpt hCS hcpt hb1 hE_ComponentException_41 hE_ComponentException_47) pdg_27 rfl (argsL := [.ref s1, .ref s2]) (rest := [.ref o1, .ref o1]) rfl rfl (Dr := [(o1, .inl ("startbeam/ComponentException", [("java/lang/Throwable", "detailMessage", "Ljava/lang/String;", .null), ("java/lang/Throwable", "cause", "Ljava/lang/Throwable;", .null), ("java/lang/Throwable", "stackTrace", "[Ljava/lang/StackTraceElement;", .null), ("java/lang/Throwable", "suppressedExceptions", "Ljava/util/List;", .null), ("java/lang/Throwable", "backtrace", "Ljava/lang/Object;", .null), ("startbeam/ComponentException", "remedy", "Ljava/lang/String;", .null)]))]) rfl (eS (Or.inl (List.mem_of_getElem? (i := 0) rfl)) (eS (Or.inl (List.mem_of_getElem? (i := 1) rfl)) (eS (Or.inl (List.mem_of_getElem? (i := 2) rfl)) (eS (Or.inl (List.mem_of_getElem? (i := 3) rfl)) eN)))) (G := ?_)
  rintro _ _ _ ⟨m, v, rfl, rfl, rfl⟩
  refine Go.norm (D2 := [(m, .inl ("java/lang/String", [("java/lang/String", "value", "[B", .ref v), ("java/lang/String", "coder", "B", .int 0)])), (v, .inr (.byte, [.int 67, .int 97, .int 110, .int 110, .int 111, .int 116, .int 32, .int 99, .int 114, .int 101, .int 97, .int 116, .int 101, .int 32, .int p0, .int p1, .int 58, .int 32, .int q0, .int q1])), (o1, .inl ("startbeam/ComponentException", [("java/lang/Throwable", "detailMessage", "Ljava/lang/String;", .null), ("java/lang/Throwable", "cause", "Ljava/lang/Throwable;", .null), ("java/lang/Throwable", "stackTrace", "[Ljava/lang/StackTraceElement;", .null), ("java/lang/Throwable", "suppressedExceptions", "Ljava/util/List;", .null), ("java/lang/Throwable", "backtrace", "Ljava/lang/Object;", .null), ("startbeam/ComponentException", "remedy", "Ljava/lang/String;", .null)]))]) (S2 := [(s1, .inl ("java/lang/String", [("java/lang/String", "value", "[B", .ref r1), ("java/lang/String", "coder", "B", .int 0)])), (r1, .inr (.byte, [.int p0, .int p1])), (s2, .inl ("java/lang/String", [("java/lang/String", "value", "[B", .ref r2), ("java/lang/String", "coder", "B", .int 0)])), (r2, .inr (.byte, [.int q0, .int q1]))]) (c2 := 14) (s2 := 207) (st2 := [.ref m, .ref o1, .ref o1]) ?_
  refine Go.aloadN d39_9 rfl (G := ?_)
  refine Go.perm [2, 0, 1] (by decide) rfl (D' := [(o1, .inl ("startbeam/ComponentException", [("java/lang/Throwable", "detailMessage", "Ljava/lang/String;", .null), ("java/lang/Throwable", "cause", "Ljava/lang/Throwable;", .null), ("java/lang/Throwable", "stackTrace", "[Ljava/lang/StackTraceElement;", .null), ("java/lang/Throwable", "suppressedExceptions", "Ljava/util/List;", .null), ("java/lang/Throwable", "backtrace", "Ljava/lang/Object;", .null), ("startbeam/ComponentException", "remedy", "Ljava/lang/String;", .null)])), (m, .inl ("java/lang/String", [("java/lang/String", "value", "[B", .ref v), ("java/lang/String", "coder", "B", .int 0)])), (v, .inr (.byte, [.int 67, .int 97, .int 110, .int 110, .int 111, .int 116, .int 32, .int 99, .int 114, .int 101, .int 97, .int 116, .int 101, .int 32, .int p0, .int p1, .int 58, .int 32, .int q0, .int q1]))]) rfl (G := ?_)
  refine Go.invokeinit false d39_10 rfl (hw _ (List.mem_of_getElem? (i := 170) rfl)) (hw _ (List.mem_of_getElem? (i := 171) rfl)) (hw _ (List.mem_of_getElem? (i := 32) rfl)) (hw _ (List.mem_of_getElem? (i := 172) rfl)) (c_i2R hw o1 m z hl su sn hUS hSS) pdg_28 rfl (argsL := [.ref m, .ref z]) (rest := [.ref o1]) rfl rfl (Dr := [(m, .inl ("java/lang/String", [("java/lang/String", "value", "[B", .ref v), ("java/lang/String", "coder", "B", .int 0)])), (v, .inr (.byte, [.int 67, .int 97, .int 110, .int 110, .int 111, .int 116, .int 32, .int 99, .int 114, .int 101, .int 97, .int 116, .int 101, .int 32, .int p0, .int p1, .int 58, .int 32, .int q0, .int q1]))]) rfl eN (G := ?_)
  rintro _ _ _ ⟨rfl, rfl, rfl⟩
  refine Go.norm (D2 := [(o1, .inl ("startbeam/ComponentException", [("java/lang/Throwable", "detailMessage", "Ljava/lang/String;", .ref m), ("java/lang/Throwable", "cause", "Ljava/lang/Throwable;", .null), ("startbeam/ComponentException", "remedy", "Ljava/lang/String;", .ref z)])), (m, .inl ("java/lang/String", [("java/lang/String", "value", "[B", .ref v), ("java/lang/String", "coder", "B", .int 0)])), (v, .inr (.byte, [.int 67, .int 97, .int 110, .int 110, .int 111, .int 116, .int 32, .int 99, .int 114, .int 101, .int 97, .int 116, .int 101, .int 32, .int p0, .int p1, .int 58, .int 32, .int q0, .int q1]))]) (S2 := [(s1, .inl ("java/lang/String", [("java/lang/String", "value", "[B", .ref r1), ("java/lang/String", "coder", "B", .int 0)])), (r1, .inr (.byte, [.int p0, .int p1])), (s2, .inl ("java/lang/String", [("java/lang/String", "value", "[B", .ref r2), ("java/lang/String", "coder", "B", .int 0)])), (r2, .inr (.byte, [.int q0, .int q1]))]) (c2 := 15) (s2 := 2959) (st2 := [.ref o1]) ?_
  refine Go.sub [0, 1, 2] (by decide) rfl (D' := [(o1, .inl ("startbeam/ComponentException", [("java/lang/Throwable", "detailMessage", "Ljava/lang/String;", .ref m), ("java/lang/Throwable", "cause", "Ljava/lang/Throwable;", .null), ("startbeam/ComponentException", "remedy", "Ljava/lang/String;", .ref z)])), (m, .inl ("java/lang/String", [("java/lang/String", "value", "[B", .ref v), ("java/lang/String", "coder", "B", .int 0)])), (v, .inr (.byte, [.int 67, .int 97, .int 110, .int 110, .int 111, .int 116, .int 32, .int 99, .int 114, .int 101, .int 97, .int 116, .int 101, .int 32, .int p0, .int p1, .int 58, .int 32, .int q0, .int q1]))]) rfl (S' := []) eN (G := ?_)
  exact Go.retA d39_13 ⟨o1, m, v, rfl, rfl, rfl⟩
theorem d40_0 : Dx jdk_78_method_6_code 0 (.aload_n 0) 1 1 := ⟨by decide +kernel, rfl⟩
theorem d40_1 : Dx jdk_78_method_6_code 1 (.getfield 31) 3 4 := ⟨by decide +kernel, rfl⟩
theorem d40_4 : Dx jdk_78_method_6_code 4 (.areturn) 1 5 := ⟨by decide +kernel, rfl⟩
set_option maxRecDepth 65536 in
set_option maxHeartbeats 40000000 in
theorem c_gmR {l : Launch} {Z : State} {a0 : Array Value} {EL : List (String × Nat)} {b : Bool} {n0 : Nat} (hw : ∀ d ∈ tables_1, d.before a0 Z = true) (e m : Addr) (z : Addr)  :
    Met l Z a0 EL b n0 (⟨"java/lang/Throwable", "getMessage", "()Ljava/lang/String;"⟩ : MethodName) jdk_78_method_6_code 1 (some (.object "java/lang/String")) [] (rm4 0 0 0 0) [.ref e] [] [(e, .inl ("startbeam/ComponentException", [("java/lang/Throwable", "detailMessage", "Ljava/lang/String;", .ref m), ("java/lang/Throwable", "cause", "Ljava/lang/Throwable;", .null), ("startbeam/ComponentException", "remedy", "Ljava/lang/String;", .ref z)]))] (fun v D' S' => v = some (.ref m) ∧ D' = [] ∧ S' = []) := by
  refine Met.of_go (own := "java/lang/Throwable") (nm := "getMessage") (Ls := #[.val (.ref e)]) (plainFor_of_name png_8) (fun m => by first | (simp [entryFrame, mkF, argsToLocals, Value.category]; done) | rfl) ?_
  refine Go.aloadN d40_0 rfl (G := ?_)
  refine Go.getfield d40_1 (host := "") (Or.inl (hw _ (List.mem_of_getElem? (i := 229) rfl))) Via.refl (inS (i := 0) rfl) 0 rfl (G := ?_)
  refine Go.sub [] (by decide) rfl (D' := []) rfl (S' := []) eN (G := ?_)
  exact Go.retA d40_4 ⟨rfl, rfl, rfl⟩
theorem d41_0 : Dx prog_19_method_5_code 0 (.aload_n 0) 1 1 := ⟨by decide +kernel, rfl⟩
theorem d41_1 : Dx prog_19_method_5_code 1 (.getfield 12) 3 4 := ⟨by decide +kernel, rfl⟩
theorem d41_4 : Dx prog_19_method_5_code 4 (.areturn) 1 5 := ⟨by decide +kernel, rfl⟩
set_option maxRecDepth 65536 in
set_option maxHeartbeats 40000000 in
theorem c_rmR {l : Launch} {Z : State} {a0 : Array Value} {EL : List (String × Nat)} {b : Bool} {n0 : Nat} (hw : ∀ d ∈ tables_1, d.before a0 Z = true) (e m : Addr) (z : Addr)  :
    Met l Z a0 EL b n0 (⟨"startbeam/ComponentException", "remedy", "()Ljava/lang/String;"⟩ : MethodName) prog_19_method_5_code 1 (some (.object "java/lang/String")) [] (rm4 0 0 0 0) [.ref e] [] [(e, .inl ("startbeam/ComponentException", [("java/lang/Throwable", "detailMessage", "Ljava/lang/String;", .ref m), ("java/lang/Throwable", "cause", "Ljava/lang/Throwable;", .null), ("startbeam/ComponentException", "remedy", "Ljava/lang/String;", .ref z)]))] (fun v D' S' => v = some (.ref z) ∧ D' = [] ∧ S' = []) := by
  refine Met.of_go (own := "startbeam/ComponentException") (nm := "remedy") (Ls := #[.val (.ref e)]) (plainFor_of_name png_7) (fun m => by first | (simp [entryFrame, mkF, argsToLocals, Value.category]; done) | rfl) ?_
  refine Go.aloadN d41_0 rfl (G := ?_)
  refine Go.getfield d41_1 (host := "") (Or.inl (hw _ (List.mem_of_getElem? (i := 230) rfl))) Via.refl (inS (i := 0) rfl) 2 rfl (G := ?_)
  refine Go.sub [] (by decide) rfl (D' := []) rfl (S' := []) eN (G := ?_)
  exact Go.retA d41_4 ⟨rfl, rfl, rfl⟩
set_option maxRecDepth 65536 in
set_option maxHeartbeats 40000000 in
theorem c_i3N {l : Launch} {Z : State} {a0 : Array Value} {EL : List (String × Nat)} {b : Bool} {n0 : Nat} (hw : ∀ d ∈ tables_1, d.before a0 Z = true) (e m : Addr) (hl : l.stackTraces = true) (su sn : Addr) (hUS : Sta Z Z.heap "java/lang/Throwable" "UNASSIGNED_STACK" "[Ljava/lang/StackTraceElement;" (.ref su)) (hSS : Sta Z Z.heap "java/lang/Throwable" "SUPPRESSED_SENTINEL" "Ljava/util/List;" (.ref sn)) :
    Met l Z a0 EL b n0 (⟨"startbeam/ComponentException", "<init>", "(Ljava/lang/String;Ljava/lang/String;Ljava/lang/Throwable;)V"⟩ : MethodName) prog_19_method_4_code 4 none [] (rm4 6 1 2752 84) [.ref e, .ref m, .null, .null] [(e, .inl ("startbeam/ComponentException", [("java/lang/Throwable", "detailMessage", "Ljava/lang/String;", .null), ("java/lang/Throwable", "cause", "Ljava/lang/Throwable;", .null), ("java/lang/Throwable", "stackTrace", "[Ljava/lang/StackTraceElement;", .null), ("java/lang/Throwable", "suppressedExceptions", "Ljava/util/List;", .null), ("java/lang/Throwable", "backtrace", "Ljava/lang/Object;", .null), ("startbeam/ComponentException", "remedy", "Ljava/lang/String;", .null)]))] [] (fun v D' S' => v = none ∧ D' = [(e, .inl ("startbeam/ComponentException", [("java/lang/Throwable", "detailMessage", "Ljava/lang/String;", .ref m), ("java/lang/Throwable", "cause", "Ljava/lang/Throwable;", .null), ("startbeam/ComponentException", "remedy", "Ljava/lang/String;", .null)]))] ∧ S' = []) := by
  refine Met.of_go (own := "startbeam/ComponentException") (nm := "<init>") (Ls := #[.val (.ref e), .val (.ref m), .val .null, .val .null]) (plainFor_of_name png_7) (fun m => by first | (simp [entryFrame, mkF, argsToLocals, Value.category]; done) | rfl) ?_
  refine Go.aloadN d37_0 rfl (G := ?_)
  refine Go.aloadN d37_1 rfl (G := ?_)
  refine Go.aloadN d37_2 rfl (G := ?_)
  refine Go.invokeinit false d37_3 rfl (hw _ (List.mem_of_getElem? (i := 176) rfl)) (hw _ (List.mem_of_getElem? (i := 177) rfl)) (hw _ (List.mem_of_getElem? (i := 179) rfl)) (hw _ (List.mem_of_getElem? (i := 180) rfl)) (c_ri hw e m hl su sn hUS hSS) pdg_25 rfl (argsL := [.ref m, .null]) (rest := []) rfl rfl (Dr := []) rfl eN (G := ?_)
  rintro _ _ _ ⟨rfl, rfl, rfl⟩
  refine Go.norm (D2 := [(e, .inl ("startbeam/ComponentException", [("java/lang/Throwable", "detailMessage", "Ljava/lang/String;", .ref m), ("java/lang/Throwable", "cause", "Ljava/lang/Throwable;", .null), ("startbeam/ComponentException", "remedy", "Ljava/lang/String;", .null)]))]) (S2 := []) (c2 := 1) (s2 := 2752) (st2 := []) ?_
  refine Go.aloadN d37_6 rfl (G := ?_)
  refine Go.aloadN d37_7 rfl (G := ?_)
  refine Go.putfield d37_8 (hw _ (List.mem_of_getElem? (i := 230) rfl)) Via.refl 0 rfl 2 rfl (Or.inr ⟨(hw _ (List.mem_of_getElem? (i := 231) rfl)), rfl, rfl⟩) (hw _ (List.mem_of_getElem? (i := 35) rfl)) (ty := .object "java/lang/String") (by decide +kernel) (v' := .null) rfl rfl (D' := [(e, .inl ("startbeam/ComponentException", [("java/lang/Throwable", "detailMessage", "Ljava/lang/String;", .ref m), ("java/lang/Throwable", "cause", "Ljava/lang/Throwable;", .null), ("startbeam/ComponentException", "remedy", "Ljava/lang/String;", .null)]))]) rfl (G := ?_)
  exact Go.retV d37_11 ⟨rfl, rfl, rfl⟩
set_option maxRecDepth 65536 in
set_option maxHeartbeats 40000000 in
theorem c_i2N {l : Launch} {Z : State} {a0 : Array Value} {EL : List (String × Nat)} {b : Bool} {n0 : Nat} (hw : ∀ d ∈ tables_1, d.before a0 Z = true) (e m : Addr) (hl : l.stackTraces = true) (su sn : Addr) (hUS : Sta Z Z.heap "java/lang/Throwable" "UNASSIGNED_STACK" "[Ljava/lang/StackTraceElement;" (.ref su)) (hSS : Sta Z Z.heap "java/lang/Throwable" "SUPPRESSED_SENTINEL" "Ljava/util/List;" (.ref sn)) :
    Met l Z a0 EL b n0 (⟨"startbeam/ComponentException", "<init>", "(Ljava/lang/String;Ljava/lang/String;)V"⟩ : MethodName) prog_19_method_3_code 3 none [] (rm4 7 1 2752 99) [.ref e, .ref m, .null] [(e, .inl ("startbeam/ComponentException", [("java/lang/Throwable", "detailMessage", "Ljava/lang/String;", .null), ("java/lang/Throwable", "cause", "Ljava/lang/Throwable;", .null), ("java/lang/Throwable", "stackTrace", "[Ljava/lang/StackTraceElement;", .null), ("java/lang/Throwable", "suppressedExceptions", "Ljava/util/List;", .null), ("java/lang/Throwable", "backtrace", "Ljava/lang/Object;", .null), ("startbeam/ComponentException", "remedy", "Ljava/lang/String;", .null)]))] [] (fun v D' S' => v = none ∧ D' = [(e, .inl ("startbeam/ComponentException", [("java/lang/Throwable", "detailMessage", "Ljava/lang/String;", .ref m), ("java/lang/Throwable", "cause", "Ljava/lang/Throwable;", .null), ("startbeam/ComponentException", "remedy", "Ljava/lang/String;", .null)]))] ∧ S' = []) := by
  refine Met.of_go (own := "startbeam/ComponentException") (nm := "<init>") (Ls := #[.val (.ref e), .val (.ref m), .val .null]) (plainFor_of_name png_7) (fun m => by first | (simp [entryFrame, mkF, argsToLocals, Value.category]; done) | rfl) ?_
  refine Go.aloadN d38_0 rfl (G := ?_)
  refine Go.aloadN d38_1 rfl (G := ?_)
  refine Go.aloadN d38_2 rfl (G := ?_)
  refine Go.aconstNull d38_3 (G := ?_)
  refine Go.invokeinit false d38_4 rfl (hw _ (List.mem_of_getElem? (i := 173) rfl)) (hw _ (List.mem_of_getElem? (i := 174) rfl)) (hw _ (List.mem_of_getElem? (i := 32) rfl)) (hw _ (List.mem_of_getElem? (i := 175) rfl)) (c_i3N hw e m hl su sn hUS hSS) pdg_26 rfl (argsL := [.ref m, .null, .null]) (rest := []) rfl rfl (Dr := []) rfl eN (G := ?_)
  rintro _ _ _ ⟨rfl, rfl, rfl⟩
  refine Go.norm (D2 := [(e, .inl ("startbeam/ComponentException", [("java/lang/Throwable", "detailMessage", "Ljava/lang/String;", .ref m), ("java/lang/Throwable", "cause", "Ljava/lang/Throwable;", .null), ("startbeam/ComponentException", "remedy", "Ljava/lang/String;", .null)]))]) (S2 := []) (c2 := 1) (s2 := 2752) (st2 := []) ?_
  exact Go.retV d38_7 ⟨rfl, rfl, rfl⟩
set_option maxRecDepth 65536 in
set_option maxHeartbeats 40000000 in
theorem c_ccN {l : Launch} {Z : State} {a0 : Array Value} {EL : List (String × Nat)} {b : Bool} {n0 : Nat} (hw : ∀ d ∈ tables_1, d.before a0 Z = true) (s1 r1 s2 r2 : Addr)  (p0 p1 : Int32) (q0 q1 : Int32) (cpt : Int32) (hCS : Sta Z Z.heap "java/lang/String" "COMPACT_STRINGS" "Z" (.int cpt)) (hcpt : ¬ cpt = 0) (hb1 : b = true) (hE_ComponentException_41 : ("startbeam/ComponentException", 41) ∈ EL) (hE_ComponentException_47 : ("startbeam/ComponentException", 47) ∈ EL) (hl : l.stackTraces = true) (su sn : Addr) (hUS : Sta Z Z.heap "java/lang/Throwable" "UNASSIGNED_STACK" "[Ljava/lang/StackTraceElement;" (.ref su)) (hSS : Sta Z Z.heap "java/lang/Throwable" "SUPPRESSED_SENTINEL" "Ljava/util/List;" (.ref sn)) :
    Met l Z a0 EL b n0 (⟨"startbeam/ComponentException", "cannotCreate", "(Ljava/lang/String;Ljava/lang/String;Ljava/lang/String;)Lstartbeam/ComponentException;"⟩ : MethodName) prog_19_method_8_code 3 (some (.object "startbeam/ComponentException")) [] (rm4 8 15 2959 114) [.ref s1, .ref s2, .null] [] [(s1, .inl ("java/lang/String", [("java/lang/String", "value", "[B", .ref r1), ("java/lang/String", "coder", "B", .int 0)])), (r1, .inr (.byte, [.int p0, .int p1])), (s2, .inl ("java/lang/String", [("java/lang/String", "value", "[B", .ref r2), ("java/lang/String", "coder", "B", .int 0)])), (r2, .inr (.byte, [.int q0, .int q1]))] (fun v D' S' => ∃ e m vb, v = some (.ref e) ∧ D' = [(e, .inl ("startbeam/ComponentException", [("java/lang/Throwable", "detailMessage", "Ljava/lang/String;", .ref m), ("java/lang/Throwable", "cause", "Ljava/lang/Throwable;", .null), ("startbeam/ComponentException", "remedy", "Ljava/lang/String;", .null)])), (m, .inl ("java/lang/String", [("java/lang/String", "value", "[B", .ref vb), ("java/lang/String", "coder", "B", .int 0)])), (vb, .inr (.byte, [.int 67, .int 97, .int 110, .int 110, .int 111, .int 116, .int 32, .int 99, .int 114, .int 101, .int 97, .int 116, .int 101, .int 32, .int p0, .int p1, .int 58, .int 32, .int q0, .int q1]))] ∧ S' = []) := by
  refine Met.of_go (own := "startbeam/ComponentException") (nm := "cannotCreate") (Ls := #[.val (.ref s1), .val (.ref s2), .val .null]) (plainFor_of_name png_7) (fun m => by first | (simp [entryFrame, mkF, argsToLocals, Value.category]; done) | rfl) ?_
  refine Go.new d39_0 (hw _ (List.mem_of_getElem? (i := 34) rfl)) (hw _ (List.mem_of_getElem? (i := 35) rfl)) (hw _ (List.mem_of_getElem? (i := 32) rfl)) (NewF.cons (Or.inl (hw _ (List.mem_of_getElem? (i := 225) rfl))) (ty := .object "java/lang/String") (by decide +kernel) rfl (by simp) (NewF.cons (Or.inl (hw _ (List.mem_of_getElem? (i := 195) rfl))) (ty := .object "java/lang/Throwable") (by decide +kernel) rfl (by simp) (NewF.cons (Or.inl (hw _ (List.mem_of_getElem? (i := 198) rfl))) (ty := .array (.object "java/lang/StackTraceElement")) (by decide +kernel) rfl (by simp) (NewF.cons (Or.inl (hw _ (List.mem_of_getElem? (i := 201) rfl))) (ty := .object "java/util/List") (by decide +kernel) rfl (by simp) (NewF.cons (Or.inl (hw _ (List.mem_of_getElem? (i := 226) rfl))) (ty := .object "java/lang/Object") (by decide +kernel) rfl (by simp) (NewF.cons (Or.inr (hw _ (List.mem_of_getElem? (i := 231) rfl))) (ty := .object "java/lang/String") (by decide +kernel) rfl (by simp) NewF.nil)))))) (G := fun o1 => ?_)
  refine Go.dup d39_3 (G := ?_)
  refine Go.aloadN d39_4 rfl (G := ?_)
  refine Go.aloadN d39_5 rfl (G := ?_)
  refine Go.invokestatic false d39_6 (hw _ (List.mem_of_getElem? (i := 36) rfl)) (hw _ (List.mem_of_getElem? (i := 37) rfl)) (hw _ (List.mem_of_getElem? (i := 32) rfl)) (hw _ (List.mem_of_getElem? (i := 38) rfl)) (c_ccm hw s1 r1 s2 r2 p0 p1 q0 q1 cpt hCS hcpt hb1 hE_ComponentException_41 hE_ComponentException_47) pdg_27 rfl (argsL := [.ref s1, .ref s2]) (rest := [.ref o1, .ref o1]) rfl rfl (Dr := [(o1, .inl ("startbeam/ComponentException", [("java/lang/Throwable", "detailMessage", "Ljava/lang/String;", .null), ("java/lang/Throwable", "cause", "Ljava/lang/Throwable;", .null), ("java/lang/Throwable", "stackTrace", "[Ljava/lang/StackTraceElement;", .null), ("java/lang/Throwable", "suppressedExceptions", "Ljava/util/List;", .null), ("java/lang/Throwable", "backtrace", "Ljava/lang/Object;", .null), ("startbeam/ComponentException", "remedy", "Ljava/lang/String;", .null)]))]) rfl (eS (Or.inl (List.mem_of_getElem? (i := 0) rfl)) (eS (Or.inl (List.mem_of_getElem? (i := 1) rfl)) (eS (Or.inl (List.mem_of_getElem? (i := 2) rfl)) (eS (Or.inl (List.mem_of_getElem? (i := 3) rfl)) eN)))) (G := ?_)
  rintro _ _ _ ⟨m, v, rfl, rfl, rfl⟩
  refine Go.norm (D2 := [(m, .inl ("java/lang/String", [("java/lang/String", "value", "[B", .ref v), ("java/lang/String", "coder", "B", .int 0)])), (v, .inr (.byte, [.int 67, .int 97, .int 110, .int 110, .int 111, .int 116, .int 32, .int 99, .int 114, .int 101, .int 97, .int 116, .int 101, .int 32, .int p0, .int p1, .int 58, .int 32, .int q0, .int q1])), (o1, .inl ("startbeam/ComponentException", [("java/lang/Throwable", "detailMessage", "Ljava/lang/String;", .null), ("java/lang/Throwable", "cause", "Ljava/lang/Throwable;", .null), ("java/lang/Throwable", "stackTrace", "[Ljava/lang/StackTraceElement;", .null), ("java/lang/Throwable", "suppressedExceptions", "Ljava/util/List;", .null), ("java/lang/Throwable", "backtrace", "Ljava/lang/Object;", .null), ("startbeam/ComponentException", "remedy", "Ljava/lang/String;", .null)]))]) (S2 := [(s1, .inl ("java/lang/String", [("java/lang/String", "value", "[B", .ref r1), ("java/lang/String", "coder", "B", .int 0)])), (r1, .inr (.byte, [.int p0, .int p1])), (s2, .inl ("java/lang/String", [("java/lang/String", "value", "[B", .ref r2), ("java/lang/String", "coder", "B", .int 0)])), (r2, .inr (.byte, [.int q0, .int q1]))]) (c2 := 14) (s2 := 207) (st2 := [.ref m, .ref o1, .ref o1]) ?_
  refine Go.aloadN d39_9 rfl (G := ?_)
  refine Go.perm [2, 0, 1] (by decide) rfl (D' := [(o1, .inl ("startbeam/ComponentException", [("java/lang/Throwable", "detailMessage", "Ljava/lang/String;", .null), ("java/lang/Throwable", "cause", "Ljava/lang/Throwable;", .null), ("java/lang/Throwable", "stackTrace", "[Ljava/lang/StackTraceElement;", .null), ("java/lang/Throwable", "suppressedExceptions", "Ljava/util/List;", .null), ("java/lang/Throwable", "backtrace", "Ljava/lang/Object;", .null), ("startbeam/ComponentException", "remedy", "Ljava/lang/String;", .null)])), (m, .inl ("java/lang/String", [("java/lang/String", "value", "[B", .ref v), ("java/lang/String", "coder", "B", .int 0)])), (v, .inr (.byte, [.int 67, .int 97, .int 110, .int 110, .int 111, .int 116, .int 32, .int 99, .int 114, .int 101, .int 97, .int 116, .int 101, .int 32, .int p0, .int p1, .int 58, .int 32, .int q0, .int q1]))]) rfl (G := ?_)
  refine Go.invokeinit false d39_10 rfl (hw _ (List.mem_of_getElem? (i := 170) rfl)) (hw _ (List.mem_of_getElem? (i := 171) rfl)) (hw _ (List.mem_of_getElem? (i := 32) rfl)) (hw _ (List.mem_of_getElem? (i := 172) rfl)) (c_i2N hw o1 m hl su sn hUS hSS) pdg_28 rfl (argsL := [.ref m, .null]) (rest := [.ref o1]) rfl rfl (Dr := [(m, .inl ("java/lang/String", [("java/lang/String", "value", "[B", .ref v), ("java/lang/String", "coder", "B", .int 0)])), (v, .inr (.byte, [.int 67, .int 97, .int 110, .int 110, .int 111, .int 116, .int 32, .int 99, .int 114, .int 101, .int 97, .int 116, .int 101, .int 32, .int p0, .int p1, .int 58, .int 32, .int q0, .int q1]))]) rfl eN (G := ?_)
  rintro _ _ _ ⟨rfl, rfl, rfl⟩
  refine Go.norm (D2 := [(o1, .inl ("startbeam/ComponentException", [("java/lang/Throwable", "detailMessage", "Ljava/lang/String;", .ref m), ("java/lang/Throwable", "cause", "Ljava/lang/Throwable;", .null), ("startbeam/ComponentException", "remedy", "Ljava/lang/String;", .null)])), (m, .inl ("java/lang/String", [("java/lang/String", "value", "[B", .ref v), ("java/lang/String", "coder", "B", .int 0)])), (v, .inr (.byte, [.int 67, .int 97, .int 110, .int 110, .int 111, .int 116, .int 32, .int 99, .int 114, .int 101, .int 97, .int 116, .int 101, .int 32, .int p0, .int p1, .int 58, .int 32, .int q0, .int q1]))]) (S2 := [(s1, .inl ("java/lang/String", [("java/lang/String", "value", "[B", .ref r1), ("java/lang/String", "coder", "B", .int 0)])), (r1, .inr (.byte, [.int p0, .int p1])), (s2, .inl ("java/lang/String", [("java/lang/String", "value", "[B", .ref r2), ("java/lang/String", "coder", "B", .int 0)])), (r2, .inr (.byte, [.int q0, .int q1]))]) (c2 := 15) (s2 := 2959) (st2 := [.ref o1]) ?_
  refine Go.sub [0, 1, 2] (by decide) rfl (D' := [(o1, .inl ("startbeam/ComponentException", [("java/lang/Throwable", "detailMessage", "Ljava/lang/String;", .ref m), ("java/lang/Throwable", "cause", "Ljava/lang/Throwable;", .null), ("startbeam/ComponentException", "remedy", "Ljava/lang/String;", .null)])), (m, .inl ("java/lang/String", [("java/lang/String", "value", "[B", .ref v), ("java/lang/String", "coder", "B", .int 0)])), (v, .inr (.byte, [.int 67, .int 97, .int 110, .int 110, .int 111, .int 116, .int 32, .int 99, .int 114, .int 101, .int 97, .int 116, .int 101, .int 32, .int p0, .int p1, .int 58, .int 32, .int q0, .int q1]))]) rfl (S' := []) eN (G := ?_)
  exact Go.retA d39_13 ⟨o1, m, v, rfl, rfl, rfl⟩
set_option maxRecDepth 65536 in
set_option maxHeartbeats 40000000 in
theorem c_gmN {l : Launch} {Z : State} {a0 : Array Value} {EL : List (String × Nat)} {b : Bool} {n0 : Nat} (hw : ∀ d ∈ tables_1, d.before a0 Z = true) (e m : Addr)  :
    Met l Z a0 EL b n0 (⟨"java/lang/Throwable", "getMessage", "()Ljava/lang/String;"⟩ : MethodName) jdk_78_method_6_code 1 (some (.object "java/lang/String")) [] (rm4 0 0 0 0) [.ref e] [] [(e, .inl ("startbeam/ComponentException", [("java/lang/Throwable", "detailMessage", "Ljava/lang/String;", .ref m), ("java/lang/Throwable", "cause", "Ljava/lang/Throwable;", .null), ("startbeam/ComponentException", "remedy", "Ljava/lang/String;", .null)]))] (fun v D' S' => v = some (.ref m) ∧ D' = [] ∧ S' = []) := by
  refine Met.of_go (own := "java/lang/Throwable") (nm := "getMessage") (Ls := #[.val (.ref e)]) (plainFor_of_name png_8) (fun m => by first | (simp [entryFrame, mkF, argsToLocals, Value.category]; done) | rfl) ?_
  refine Go.aloadN d40_0 rfl (G := ?_)
  refine Go.getfield d40_1 (host := "") (Or.inl (hw _ (List.mem_of_getElem? (i := 229) rfl))) Via.refl (inS (i := 0) rfl) 0 rfl (G := ?_)
  refine Go.sub [] (by decide) rfl (D' := []) rfl (S' := []) eN (G := ?_)
  exact Go.retA d40_4 ⟨rfl, rfl, rfl⟩
set_option maxRecDepth 65536 in
set_option maxHeartbeats 40000000 in
theorem c_rmN {l : Launch} {Z : State} {a0 : Array Value} {EL : List (String × Nat)} {b : Bool} {n0 : Nat} (hw : ∀ d ∈ tables_1, d.before a0 Z = true) (e m : Addr)  :
    Met l Z a0 EL b n0 (⟨"startbeam/ComponentException", "remedy", "()Ljava/lang/String;"⟩ : MethodName) prog_19_method_5_code 1 (some (.object "java/lang/String")) [] (rm4 0 0 0 0) [.ref e] [] [(e, .inl ("startbeam/ComponentException", [("java/lang/Throwable", "detailMessage", "Ljava/lang/String;", .ref m), ("java/lang/Throwable", "cause", "Ljava/lang/Throwable;", .null), ("startbeam/ComponentException", "remedy", "Ljava/lang/String;", .null)]))] (fun v D' S' => v = some .null ∧ D' = [] ∧ S' = []) := by
  refine Met.of_go (own := "startbeam/ComponentException") (nm := "remedy") (Ls := #[.val (.ref e)]) (plainFor_of_name png_7) (fun m => by first | (simp [entryFrame, mkF, argsToLocals, Value.category]; done) | rfl) ?_
  refine Go.aloadN d41_0 rfl (G := ?_)
  refine Go.getfield d41_1 (host := "") (Or.inl (hw _ (List.mem_of_getElem? (i := 230) rfl))) Via.refl (inS (i := 0) rfl) 2 rfl (G := ?_)
  refine Go.sub [] (by decide) rfl (D' := []) rfl (S' := []) eN (G := ?_)
  exact Go.retA d41_4 ⟨rfl, rfl, rfl⟩
theorem d42_0 : Dx code 0 (.iload_n 0) 1 1 := ⟨by decide +kernel, rfl⟩
theorem d42_1 : Dx code 1 (.sipush 255) 3 4 := ⟨by decide +kernel, rfl⟩
theorem d42_4 : Dx code 4 (.iand) 1 5 := ⟨by decide +kernel, rfl⟩
theorem d42_5 : Dx code 5 (.i2c) 1 6 := ⟨by decide +kernel, rfl⟩
theorem d42_6 : Dx code 6 (.istore_n 3) 1 7 := ⟨by decide +kernel, rfl⟩
theorem d42_7 : Dx code 7 (.iload_n 0) 1 8 := ⟨by decide +kernel, rfl⟩
theorem d42_8 : Dx code 8 (.bipush 8) 2 10 := ⟨by decide +kernel, rfl⟩
theorem d42_10 : Dx code 10 (.iushr) 1 11 := ⟨by decide +kernel, rfl⟩
theorem d42_11 : Dx code 11 (.sipush 255) 3 14 := ⟨by decide +kernel, rfl⟩
theorem d42_14 : Dx code 14 (.iand) 1 15 := ⟨by decide +kernel, rfl⟩
theorem d42_15 : Dx code 15 (.i2c) 1 16 := ⟨by decide +kernel, rfl⟩
theorem d42_16 : Dx code 16 (.istore 4) 2 18 := ⟨by decide +kernel, rfl⟩
theorem d42_18 : Dx code 18 (.iload_n 1) 1 19 := ⟨by decide +kernel, rfl⟩
theorem d42_19 : Dx code 19 (.sipush 255) 3 22 := ⟨by decide +kernel, rfl⟩
theorem d42_22 : Dx code 22 (.iand) 1 23 := ⟨by decide +kernel, rfl⟩
theorem d42_23 : Dx code 23 (.i2c) 1 24 := ⟨by decide +kernel, rfl⟩
theorem d42_24 : Dx code 24 (.istore 5) 2 26 := ⟨by decide +kernel, rfl⟩
theorem d42_26 : Dx code 26 (.iload_n 1) 1 27 := ⟨by decide +kernel, rfl⟩
theorem d42_27 : Dx code 27 (.bipush 8) 2 29 := ⟨by decide +kernel, rfl⟩
theorem d42_29 : Dx code 29 (.iushr) 1 30 := ⟨by decide +kernel, rfl⟩
theorem d42_30 : Dx code 30 (.sipush 255) 3 33 := ⟨by decide +kernel, rfl⟩
theorem d42_33 : Dx code 33 (.iand) 1 34 := ⟨by decide +kernel, rfl⟩
theorem d42_34 : Dx code 34 (.i2c) 1 35 := ⟨by decide +kernel, rfl⟩
theorem d42_35 : Dx code 35 (.istore 6) 2 37 := ⟨by decide +kernel, rfl⟩
theorem d42_37 : Dx code 37 (.new 7) 3 40 := ⟨by decide +kernel, rfl⟩
theorem d42_40 : Dx code 40 (.dup) 1 41 := ⟨by decide +kernel, rfl⟩
theorem d42_41 : Dx code 41 (.iconst 2) 1 42 := ⟨by decide +kernel, rfl⟩
theorem d42_42 : Dx code 42 (.newarray .char) 2 44 := ⟨by decide +kernel, rfl⟩
theorem d42_44 : Dx code 44 (.dup) 1 45 := ⟨by decide +kernel, rfl⟩
theorem d42_45 : Dx code 45 (.iconst 0) 1 46 := ⟨by decide +kernel, rfl⟩
theorem d42_46 : Dx code 46 (.iload_n 3) 1 47 := ⟨by decide +kernel, rfl⟩
theorem d42_47 : Dx code 47 (.castore) 1 48 := ⟨by decide +kernel, rfl⟩
theorem d42_48 : Dx code 48 (.dup) 1 49 := ⟨by decide +kernel, rfl⟩
theorem d42_49 : Dx code 49 (.iconst 1) 1 50 := ⟨by decide +kernel, rfl⟩
theorem d42_50 : Dx code 50 (.iload 4) 2 52 := ⟨by decide +kernel, rfl⟩
theorem d42_52 : Dx code 52 (.castore) 1 53 := ⟨by decide +kernel, rfl⟩
theorem d42_53 : Dx code 53 (.invokespecial 9) 3 56 := ⟨by decide +kernel, rfl⟩
theorem d42_56 : Dx code 56 (.astore 7) 2 58 := ⟨by decide +kernel, rfl⟩
theorem d42_58 : Dx code 58 (.new 7) 3 61 := ⟨by decide +kernel, rfl⟩
theorem d42_61 : Dx code 61 (.dup) 1 62 := ⟨by decide +kernel, rfl⟩
theorem d42_62 : Dx code 62 (.iconst 2) 1 63 := ⟨by decide +kernel, rfl⟩
theorem d42_63 : Dx code 63 (.newarray .char) 2 65 := ⟨by decide +kernel, rfl⟩
theorem d42_65 : Dx code 65 (.dup) 1 66 := ⟨by decide +kernel, rfl⟩
theorem d42_66 : Dx code 66 (.iconst 0) 1 67 := ⟨by decide +kernel, rfl⟩
theorem d42_67 : Dx code 67 (.iload 5) 2 69 := ⟨by decide +kernel, rfl⟩
theorem d42_69 : Dx code 69 (.castore) 1 70 := ⟨by decide +kernel, rfl⟩
theorem d42_70 : Dx code 70 (.dup) 1 71 := ⟨by decide +kernel, rfl⟩
theorem d42_71 : Dx code 71 (.iconst 1) 1 72 := ⟨by decide +kernel, rfl⟩
theorem d42_72 : Dx code 72 (.iload 6) 2 74 := ⟨by decide +kernel, rfl⟩
theorem d42_74 : Dx code 74 (.castore) 1 75 := ⟨by decide +kernel, rfl⟩
theorem d42_75 : Dx code 75 (.invokespecial 9) 3 78 := ⟨by decide +kernel, rfl⟩
theorem d42_78 : Dx code 78 (.astore 8) 2 80 := ⟨by decide +kernel, rfl⟩
theorem d42_80 : Dx code 80 (.iload_n 2) 1 81 := ⟨by decide +kernel, rfl⟩
theorem d42_81 : Dx code 81 (.iconst 1) 1 82 := ⟨by decide +kernel, rfl⟩
theorem d42_82 : Dx code 82 (.iand) 1 83 := ⟨by decide +kernel, rfl⟩
theorem d42_83 : Dx code 83 (.ifCond .eq 7) 3 86 := ⟨by decide +kernel, rfl⟩
theorem d42_86 : Dx code 86 (.iconst 1) 1 87 := ⟨by decide +kernel, rfl⟩
theorem d42_87 : Dx code 87 (.goto 4) 3 90 := ⟨by decide +kernel, rfl⟩
theorem d42_90 : Dx code 90 (.iconst 0) 1 91 := ⟨by decide +kernel, rfl⟩
theorem d42_91 : Dx code 91 (.istore 9) 2 93 := ⟨by decide +kernel, rfl⟩
theorem d42_93 : Dx code 93 (.aconst_null) 1 94 := ⟨by decide +kernel, rfl⟩
theorem d42_94 : Dx code 94 (.astore 10) 2 96 := ⟨by decide +kernel, rfl⟩
theorem d42_96 : Dx code 96 (.iload 9) 2 98 := ⟨by decide +kernel, rfl⟩
theorem d42_98 : Dx code 98 (.ifCond .eq 38) 3 101 := ⟨by decide +kernel, rfl⟩
theorem d42_101 : Dx code 101 (.new 7) 3 104 := ⟨by decide +kernel, rfl⟩
theorem d42_104 : Dx code 104 (.dup) 1 105 := ⟨by decide +kernel, rfl⟩
theorem d42_105 : Dx code 105 (.iconst 2) 1 106 := ⟨by decide +kernel, rfl⟩
theorem d42_106 : Dx code 106 (.newarray .char) 2 108 := ⟨by decide +kernel, rfl⟩
theorem d42_108 : Dx code 108 (.dup) 1 109 := ⟨by decide +kernel, rfl⟩
theorem d42_109 : Dx code 109 (.iconst 0) 1 110 := ⟨by decide +kernel, rfl⟩
theorem d42_110 : Dx code 110 (.iload_n 2) 1 111 := ⟨by decide +kernel, rfl⟩
theorem d42_111 : Dx code 111 (.iconst 1) 1 112 := ⟨by decide +kernel, rfl⟩
theorem d42_112 : Dx code 112 (.iushr) 1 113 := ⟨by decide +kernel, rfl⟩
theorem d42_113 : Dx code 113 (.sipush 255) 3 116 := ⟨by decide +kernel, rfl⟩
theorem d42_116 : Dx code 116 (.iand) 1 117 := ⟨by decide +kernel, rfl⟩
theorem d42_117 : Dx code 117 (.i2c) 1 118 := ⟨by decide +kernel, rfl⟩
theorem d42_118 : Dx code 118 (.castore) 1 119 := ⟨by decide +kernel, rfl⟩
theorem d42_119 : Dx code 119 (.dup) 1 120 := ⟨by decide +kernel, rfl⟩
theorem d42_120 : Dx code 120 (.iconst 1) 1 121 := ⟨by decide +kernel, rfl⟩
theorem d42_121 : Dx code 121 (.iload_n 2) 1 122 := ⟨by decide +kernel, rfl⟩
theorem d42_122 : Dx code 122 (.bipush 9) 2 124 := ⟨by decide +kernel, rfl⟩
theorem d42_124 : Dx code 124 (.iushr) 1 125 := ⟨by decide +kernel, rfl⟩
theorem d42_125 : Dx code 125 (.sipush 255) 3 128 := ⟨by decide +kernel, rfl⟩
theorem d42_128 : Dx code 128 (.iand) 1 129 := ⟨by decide +kernel, rfl⟩
theorem d42_129 : Dx code 129 (.i2c) 1 130 := ⟨by decide +kernel, rfl⟩
theorem d42_130 : Dx code 130 (.castore) 1 131 := ⟨by decide +kernel, rfl⟩
theorem d42_131 : Dx code 131 (.invokespecial 9) 3 134 := ⟨by decide +kernel, rfl⟩
theorem d42_134 : Dx code 134 (.astore 10) 2 136 := ⟨by decide +kernel, rfl⟩
theorem d42_136 : Dx code 136 (.new 7) 3 139 := ⟨by decide +kernel, rfl⟩
theorem d42_139 : Dx code 139 (.dup) 1 140 := ⟨by decide +kernel, rfl⟩
theorem d42_140 : Dx code 140 (.bipush 20) 2 142 := ⟨by decide +kernel, rfl⟩
theorem d42_142 : Dx code 142 (.newarray .char) 2 144 := ⟨by decide +kernel, rfl⟩
theorem d42_144 : Dx code 144 (.dup) 1 145 := ⟨by decide +kernel, rfl⟩
theorem d42_145 : Dx code 145 (.iconst 0) 1 146 := ⟨by decide +kernel, rfl⟩
theorem d42_146 : Dx code 146 (.bipush 67) 2 148 := ⟨by decide +kernel, rfl⟩
theorem d42_148 : Dx code 148 (.castore) 1 149 := ⟨by decide +kernel, rfl⟩
theorem d42_149 : Dx code 149 (.dup) 1 150 := ⟨by decide +kernel, rfl⟩
theorem d42_150 : Dx code 150 (.iconst 1) 1 151 := ⟨by decide +kernel, rfl⟩
theorem d42_151 : Dx code 151 (.bipush 97) 2 153 := ⟨by decide +kernel, rfl⟩
theorem d42_153 : Dx code 153 (.castore) 1 154 := ⟨by decide +kernel, rfl⟩
theorem d42_154 : Dx code 154 (.dup) 1 155 := ⟨by decide +kernel, rfl⟩
theorem d42_155 : Dx code 155 (.iconst 2) 1 156 := ⟨by decide +kernel, rfl⟩
theorem d42_156 : Dx code 156 (.bipush 110) 2 158 := ⟨by decide +kernel, rfl⟩
theorem d42_158 : Dx code 158 (.castore) 1 159 := ⟨by decide +kernel, rfl⟩
theorem d42_159 : Dx code 159 (.dup) 1 160 := ⟨by decide +kernel, rfl⟩
theorem d42_160 : Dx code 160 (.iconst 3) 1 161 := ⟨by decide +kernel, rfl⟩
theorem d42_161 : Dx code 161 (.bipush 110) 2 163 := ⟨by decide +kernel, rfl⟩
theorem d42_163 : Dx code 163 (.castore) 1 164 := ⟨by decide +kernel, rfl⟩
theorem d42_164 : Dx code 164 (.dup) 1 165 := ⟨by decide +kernel, rfl⟩
theorem d42_165 : Dx code 165 (.iconst 4) 1 166 := ⟨by decide +kernel, rfl⟩
theorem d42_166 : Dx code 166 (.bipush 111) 2 168 := ⟨by decide +kernel, rfl⟩
theorem d42_168 : Dx code 168 (.castore) 1 169 := ⟨by decide +kernel, rfl⟩
theorem d42_169 : Dx code 169 (.dup) 1 170 := ⟨by decide +kernel, rfl⟩
theorem d42_170 : Dx code 170 (.iconst 5) 1 171 := ⟨by decide +kernel, rfl⟩
theorem d42_171 : Dx code 171 (.bipush 116) 2 173 := ⟨by decide +kernel, rfl⟩
theorem d42_173 : Dx code 173 (.castore) 1 174 := ⟨by decide +kernel, rfl⟩
theorem d42_174 : Dx code 174 (.dup) 1 175 := ⟨by decide +kernel, rfl⟩
theorem d42_175 : Dx code 175 (.bipush 6) 2 177 := ⟨by decide +kernel, rfl⟩
theorem d42_177 : Dx code 177 (.bipush 32) 2 179 := ⟨by decide +kernel, rfl⟩
theorem d42_179 : Dx code 179 (.castore) 1 180 := ⟨by decide +kernel, rfl⟩
theorem d42_180 : Dx code 180 (.dup) 1 181 := ⟨by decide +kernel, rfl⟩
theorem d42_181 : Dx code 181 (.bipush 7) 2 183 := ⟨by decide +kernel, rfl⟩
theorem d42_183 : Dx code 183 (.bipush 99) 2 185 := ⟨by decide +kernel, rfl⟩
theorem d42_185 : Dx code 185 (.castore) 1 186 := ⟨by decide +kernel, rfl⟩
theorem d42_186 : Dx code 186 (.dup) 1 187 := ⟨by decide +kernel, rfl⟩
theorem d42_187 : Dx code 187 (.bipush 8) 2 189 := ⟨by decide +kernel, rfl⟩
theorem d42_189 : Dx code 189 (.bipush 114) 2 191 := ⟨by decide +kernel, rfl⟩
theorem d42_191 : Dx code 191 (.castore) 1 192 := ⟨by decide +kernel, rfl⟩
theorem d42_192 : Dx code 192 (.dup) 1 193 := ⟨by decide +kernel, rfl⟩
theorem d42_193 : Dx code 193 (.bipush 9) 2 195 := ⟨by decide +kernel, rfl⟩
theorem d42_195 : Dx code 195 (.bipush 101) 2 197 := ⟨by decide +kernel, rfl⟩
theorem d42_197 : Dx code 197 (.castore) 1 198 := ⟨by decide +kernel, rfl⟩
theorem d42_198 : Dx code 198 (.dup) 1 199 := ⟨by decide +kernel, rfl⟩
theorem d42_199 : Dx code 199 (.bipush 10) 2 201 := ⟨by decide +kernel, rfl⟩
theorem d42_201 : Dx code 201 (.bipush 97) 2 203 := ⟨by decide +kernel, rfl⟩
theorem d42_203 : Dx code 203 (.castore) 1 204 := ⟨by decide +kernel, rfl⟩
theorem d42_204 : Dx code 204 (.dup) 1 205 := ⟨by decide +kernel, rfl⟩
theorem d42_205 : Dx code 205 (.bipush 11) 2 207 := ⟨by decide +kernel, rfl⟩
theorem d42_207 : Dx code 207 (.bipush 116) 2 209 := ⟨by decide +kernel, rfl⟩
theorem d42_209 : Dx code 209 (.castore) 1 210 := ⟨by decide +kernel, rfl⟩
theorem d42_210 : Dx code 210 (.dup) 1 211 := ⟨by decide +kernel, rfl⟩
theorem d42_211 : Dx code 211 (.bipush 12) 2 213 := ⟨by decide +kernel, rfl⟩
theorem d42_213 : Dx code 213 (.bipush 101) 2 215 := ⟨by decide +kernel, rfl⟩
theorem d42_215 : Dx code 215 (.castore) 1 216 := ⟨by decide +kernel, rfl⟩
theorem d42_216 : Dx code 216 (.dup) 1 217 := ⟨by decide +kernel, rfl⟩
theorem d42_217 : Dx code 217 (.bipush 13) 2 219 := ⟨by decide +kernel, rfl⟩
theorem d42_219 : Dx code 219 (.bipush 32) 2 221 := ⟨by decide +kernel, rfl⟩
theorem d42_221 : Dx code 221 (.castore) 1 222 := ⟨by decide +kernel, rfl⟩
theorem d42_222 : Dx code 222 (.dup) 1 223 := ⟨by decide +kernel, rfl⟩
theorem d42_223 : Dx code 223 (.bipush 14) 2 225 := ⟨by decide +kernel, rfl⟩
theorem d42_225 : Dx code 225 (.iload_n 3) 1 226 := ⟨by decide +kernel, rfl⟩
theorem d42_226 : Dx code 226 (.castore) 1 227 := ⟨by decide +kernel, rfl⟩
theorem d42_227 : Dx code 227 (.dup) 1 228 := ⟨by decide +kernel, rfl⟩
theorem d42_228 : Dx code 228 (.bipush 15) 2 230 := ⟨by decide +kernel, rfl⟩
theorem d42_230 : Dx code 230 (.iload 4) 2 232 := ⟨by decide +kernel, rfl⟩
theorem d42_232 : Dx code 232 (.castore) 1 233 := ⟨by decide +kernel, rfl⟩
theorem d42_233 : Dx code 233 (.dup) 1 234 := ⟨by decide +kernel, rfl⟩
theorem d42_234 : Dx code 234 (.bipush 16) 2 236 := ⟨by decide +kernel, rfl⟩
theorem d42_236 : Dx code 236 (.bipush 58) 2 238 := ⟨by decide +kernel, rfl⟩
theorem d42_238 : Dx code 238 (.castore) 1 239 := ⟨by decide +kernel, rfl⟩
theorem d42_239 : Dx code 239 (.dup) 1 240 := ⟨by decide +kernel, rfl⟩
theorem d42_240 : Dx code 240 (.bipush 17) 2 242 := ⟨by decide +kernel, rfl⟩
theorem d42_242 : Dx code 242 (.bipush 32) 2 244 := ⟨by decide +kernel, rfl⟩
theorem d42_244 : Dx code 244 (.castore) 1 245 := ⟨by decide +kernel, rfl⟩
theorem d42_245 : Dx code 245 (.dup) 1 246 := ⟨by decide +kernel, rfl⟩
theorem d42_246 : Dx code 246 (.bipush 18) 2 248 := ⟨by decide +kernel, rfl⟩
theorem d42_248 : Dx code 248 (.iload 5) 2 250 := ⟨by decide +kernel, rfl⟩
theorem d42_250 : Dx code 250 (.castore) 1 251 := ⟨by decide +kernel, rfl⟩
theorem d42_251 : Dx code 251 (.dup) 1 252 := ⟨by decide +kernel, rfl⟩
theorem d42_252 : Dx code 252 (.bipush 19) 2 254 := ⟨by decide +kernel, rfl⟩
theorem d42_254 : Dx code 254 (.iload 6) 2 256 := ⟨by decide +kernel, rfl⟩
theorem d42_256 : Dx code 256 (.castore) 1 257 := ⟨by decide +kernel, rfl⟩
theorem d42_257 : Dx code 257 (.invokespecial 9) 3 260 := ⟨by decide +kernel, rfl⟩
theorem d42_260 : Dx code 260 (.astore 11) 2 262 := ⟨by decide +kernel, rfl⟩
theorem d42_262 : Dx code 262 (.aload 7) 2 264 := ⟨by decide +kernel, rfl⟩
theorem d42_264 : Dx code 264 (.aload 8) 2 266 := ⟨by decide +kernel, rfl⟩
theorem d42_266 : Dx code 266 (.aload 10) 2 268 := ⟨by decide +kernel, rfl⟩
theorem d42_268 : Dx code 268 (.invokestatic 12) 3 271 := ⟨by decide +kernel, rfl⟩
theorem d42_271 : Dx code 271 (.astore 12) 2 273 := ⟨by decide +kernel, rfl⟩
theorem d42_273 : Dx code 273 (.aload 12) 2 275 := ⟨by decide +kernel, rfl⟩
theorem d42_275 : Dx code 275 (.ifnonnull 5) 3 278 := ⟨by decide +kernel, rfl⟩
theorem d42_278 : Dx code 278 (.iconst 0) 1 279 := ⟨by decide +kernel, rfl⟩
theorem d42_279 : Dx code 279 (.ireturn) 1 280 := ⟨by decide +kernel, rfl⟩
theorem d42_280 : Dx code 280 (.aload 11) 2 282 := ⟨by decide +kernel, rfl⟩
theorem d42_282 : Dx code 282 (.aload 12) 2 284 := ⟨by decide +kernel, rfl⟩
theorem d42_284 : Dx code 284 (.invokevirtual 18) 3 287 := ⟨by decide +kernel, rfl⟩
theorem d42_287 : Dx code 287 (.invokevirtual 22) 3 290 := ⟨by decide +kernel, rfl⟩
theorem d42_290 : Dx code 290 (.ifCond .ne 5) 3 293 := ⟨by decide +kernel, rfl⟩
theorem d42_293 : Dx code 293 (.iconst 0) 1 294 := ⟨by decide +kernel, rfl⟩
theorem d42_294 : Dx code 294 (.ireturn) 1 295 := ⟨by decide +kernel, rfl⟩
theorem d42_295 : Dx code 295 (.aload 12) 2 297 := ⟨by decide +kernel, rfl⟩
theorem d42_297 : Dx code 297 (.invokevirtual 26) 3 300 := ⟨by decide +kernel, rfl⟩
theorem d42_300 : Dx code 300 (.ifnull 5) 3 303 := ⟨by decide +kernel, rfl⟩
theorem d42_303 : Dx code 303 (.iconst 0) 1 304 := ⟨by decide +kernel, rfl⟩
theorem d42_304 : Dx code 304 (.ireturn) 1 305 := ⟨by decide +kernel, rfl⟩
theorem d42_305 : Dx code 305 (.aload 12) 2 307 := ⟨by decide +kernel, rfl⟩
theorem d42_307 : Dx code 307 (.invokevirtual 30) 3 310 := ⟨by decide +kernel, rfl⟩
theorem d42_310 : Dx code 310 (.astore 13) 2 312 := ⟨by decide +kernel, rfl⟩
theorem d42_312 : Dx code 312 (.aload 10) 2 314 := ⟨by decide +kernel, rfl⟩
theorem d42_314 : Dx code 314 (.ifnonnull 14) 3 317 := ⟨by decide +kernel, rfl⟩
theorem d42_317 : Dx code 317 (.aload 13) 2 319 := ⟨by decide +kernel, rfl⟩
theorem d42_319 : Dx code 319 (.ifnonnull 7) 3 322 := ⟨by decide +kernel, rfl⟩
theorem d42_322 : Dx code 322 (.iconst 1) 1 323 := ⟨by decide +kernel, rfl⟩
theorem d42_323 : Dx code 323 (.goto 4) 3 326 := ⟨by decide +kernel, rfl⟩
theorem d42_326 : Dx code 326 (.iconst 0) 1 327 := ⟨by decide +kernel, rfl⟩
theorem d42_327 : Dx code 327 (.ireturn) 1 328 := ⟨by decide +kernel, rfl⟩
theorem d42_328 : Dx code 328 (.aload 10) 2 330 := ⟨by decide +kernel, rfl⟩
theorem d42_330 : Dx code 330 (.aload 13) 2 332 := ⟨by decide +kernel, rfl⟩
theorem d42_332 : Dx code 332 (.invokevirtual 22) 3 335 := ⟨by decide +kernel, rfl⟩
theorem d42_335 : Dx code 335 (.ireturn) 1 336 := ⟨by decide +kernel, rfl⟩
theorem pdg_29 : parseMethodDescriptor "([C)V" = some ⟨[.array .char], none⟩ := by decide +kernel
theorem pdg_30 : parseMethodDescriptor "(Ljava/lang/String;Ljava/lang/String;Ljava/lang/String;)Lstartbeam/ComponentException;" = some ⟨[.object "java/lang/String", .object "java/lang/String", .object "java/lang/String"], some (.object "startbeam/ComponentException")⟩ := by decide +kernel
theorem pdg_31 : parseMethodDescriptor "(Ljava/lang/Object;)Z" = some ⟨[.object "java/lang/Object"], some .boolean⟩ := by decide +kernel
theorem png_11 : plainName "startbeam/ComponentExceptionCannotCreatePinLaw" = true := by first | (simp [plainName, overriddenIn]; done) | decide +kernel
set_option maxRecDepth 65536 in
set_option maxHeartbeats 40000000 in
theorem c_law {l : Launch} {Z : State} {a0 : Array Value} {EL : List (String × Nat)} {b : Bool} {n0 : Nat} (hw : ∀ d ∈ tables_1, d.before a0 Z = true) (a bq c : Int32) (cpt : Int32) (hCS : Sta Z Z.heap "java/lang/String" "COMPACT_STRINGS" "Z" (.int cpt)) (hcpt : ¬ cpt = 0) (hb1 : b = true) (hE_ComponentException_41 : ("startbeam/ComponentException", 41) ∈ EL) (hE_ComponentException_47 : ("startbeam/ComponentException", 47) ∈ EL) (hl : l.stackTraces = true) (su sn : Addr) (hUS : Sta Z Z.heap "java/lang/Throwable" "UNASSIGNED_STACK" "[Ljava/lang/StackTraceElement;" (.ref su)) (hSS : Sta Z Z.heap "java/lang/Throwable" "SUPPRESSED_SENTINEL" "Ljava/util/List;" (.ref sn)) : Met l Z a0 EL b n0 x code 14 (some .boolean) tables_1 room_1 [.int a, .int bq, .int c] [] [] (fun v D' S' => v = some (.int 1) ∧ D' = [] ∧ S' = []) := by
  refine Met.of_go (own := "startbeam/ComponentExceptionCannotCreatePinLaw") (nm := "law") (Ls := #[.val (.int a), .val (.int bq), .val (.int c), .unset, .unset, .unset, .unset, .unset, .unset, .unset, .unset, .unset, .unset, .unset]) (plainFor_of_name png_11) (fun m => by first | (simp [entryFrame, mkF, argsToLocals, Value.category]; done) | rfl) ?_
  refine Go.iloadN d42_0 rfl (G := ?_)
  refine Go.sipush d42_1 (v := 255) rfl (G := ?_)
  refine Go.iand d42_4 (z := (a &&& 255)) rfl (G := ?_)
  refine Go.i2c d42_5 (z := (a &&& 255)) (i2c_mask _) (G := ?_)
  refine Go.istoreN d42_6 (Ls' := #[.val (.int a), .val (.int bq), .val (.int c), .val (.int (a &&& 255)), .unset, .unset, .unset, .unset, .unset, .unset, .unset, .unset, .unset, .unset]) rfl (G := ?_)
  refine Go.iloadN d42_7 rfl (G := ?_)
  refine Go.bipush d42_8 (v := 8) rfl (G := ?_)
  refine Go.iushr d42_10 (z := (ush a 8)) rfl (G := ?_)
  refine Go.sipush d42_11 (v := 255) rfl (G := ?_)
  refine Go.iand d42_14 (z := ((ush a 8) &&& 255)) rfl (G := ?_)
  refine Go.i2c d42_15 (z := ((ush a 8) &&& 255)) (i2c_mask _) (G := ?_)
  refine Go.istore d42_16 (Ls' := #[.val (.int a), .val (.int bq), .val (.int c), .val (.int (a &&& 255)), .val (.int ((ush a 8) &&& 255)), .unset, .unset, .unset, .unset, .unset, .unset, .unset, .unset, .unset]) rfl (G := ?_)
  refine Go.iloadN d42_18 rfl (G := ?_)
  refine Go.sipush d42_19 (v := 255) rfl (G := ?_)
  refine Go.iand d42_22 (z := (bq &&& 255)) rfl (G := ?_)
  refine Go.i2c d42_23 (z := (bq &&& 255)) (i2c_mask _) (G := ?_)
  refine Go.istore d42_24 (Ls' := #[.val (.int a), .val (.int bq), .val (.int c), .val (.int (a &&& 255)), .val (.int ((ush a 8) &&& 255)), .val (.int (bq &&& 255)), .unset, .unset, .unset, .unset, .unset, .unset, .unset, .unset]) rfl (G := ?_)
  refine Go.iloadN d42_26 rfl (G := ?_)
  refine Go.bipush d42_27 (v := 8) rfl (G := ?_)
  refine Go.iushr d42_29 (z := (ush bq 8)) rfl (G := ?_)
  refine Go.sipush d42_30 (v := 255) rfl (G := ?_)
  refine Go.iand d42_33 (z := ((ush bq 8) &&& 255)) rfl (G := ?_)
  refine Go.i2c d42_34 (z := ((ush bq 8) &&& 255)) (i2c_mask _) (G := ?_)
  refine Go.istore d42_35 (Ls' := #[.val (.int a), .val (.int bq), .val (.int c), .val (.int (a &&& 255)), .val (.int ((ush a 8) &&& 255)), .val (.int (bq &&& 255)), .val (.int ((ush bq 8) &&& 255)), .unset, .unset, .unset, .unset, .unset, .unset, .unset]) rfl (G := ?_)
  refine Go.new d42_37 (hw _ (List.mem_of_getElem? (i := 0) rfl)) (hw _ (List.mem_of_getElem? (i := 1) rfl)) (hw _ (List.mem_of_getElem? (i := 2) rfl)) (NewF.cons (Or.inr (hw _ (List.mem_of_getElem? (i := 29) rfl))) (ty := .array .byte) (by decide +kernel) rfl (by simp) (NewF.cons (Or.inr (hw _ (List.mem_of_getElem? (i := 27) rfl))) (ty := .byte) (by decide +kernel) rfl (by simp) NewF.nil)) (G := fun o1 => ?_)
  refine Go.dup d42_40 (G := ?_)
  refine Go.iconst d42_41 (v := 2) rfl (G := ?_)
  refine Go.newarray d42_42 (hw _ (List.mem_of_getElem? (i := 3) rfl)) (k := 2) rfl (by decide) (by decide) (vs := [.int 0, .int 0]) rfl (G := fun o2 => ?_)
  refine Go.dup d42_44 (G := ?_)
  refine Go.iconst d42_45 (v := 0) rfl (G := ?_)
  refine Go.iloadN d42_46 rfl (G := ?_)
  refine Go.castore d42_47 0 rfl (x' := (a &&& 255)) (m255_c _) (Nat.le_of_ble_eq_true rfl) (D' := [(o2, .inr (.char, [.int (a &&& 255), .int 0])), (o1, .inl ("java/lang/String", [("java/lang/String", "value", "[B", .null), ("java/lang/String", "coder", "B", .int 0)]))]) rfl (G := ?_)
  refine Go.dup d42_48 (G := ?_)
  refine Go.iconst d42_49 (v := 1) rfl (G := ?_)
  refine Go.iload d42_50 rfl (G := ?_)
  refine Go.castore d42_52 0 rfl (x' := ((ush a 8) &&& 255)) (m255_c _) (Nat.le_of_ble_eq_true rfl) (D' := [(o2, .inr (.char, [.int (a &&& 255), .int ((ush a 8) &&& 255)])), (o1, .inl ("java/lang/String", [("java/lang/String", "value", "[B", .null), ("java/lang/String", "coder", "B", .int 0)]))]) rfl (G := ?_)
  refine Go.perm [1, 0] (by decide) rfl (D' := [(o1, .inl ("java/lang/String", [("java/lang/String", "value", "[B", .null), ("java/lang/String", "coder", "B", .int 0)])), (o2, .inr (.char, [.int (a &&& 255), .int ((ush a 8) &&& 255)]))]) rfl (G := ?_)
  refine Go.invokeinit true d42_53 rfl (hw _ (List.mem_of_getElem? (i := 4) rfl)) (hw _ (List.mem_of_getElem? (i := 5) rfl)) (hw _ (List.mem_of_getElem? (i := 2) rfl)) (hw _ (List.mem_of_getElem? (i := 6) rfl)) (c_init hw o1 o2 ([(a &&& 255), ((ush a 8) &&& 255)] : List Int32) 2 [] cpt hCS hcpt rfl (by decide) (by decide) (eS (m255_le _) (eS (m255_le _) eN))) pdg_29 rfl (argsL := [.ref o2]) (rest := [.ref o1]) rfl rfl (Dr := [(o2, .inr (.char, [.int (a &&& 255), .int ((ush a 8) &&& 255)]))]) rfl (eS (Or.inr ⟨rfl, List.mem_of_getElem? (i := 0) rfl⟩) eN) (G := ?_)
  rintro _ _ _ ⟨t3, rfl, rfl, rfl⟩
  refine Go.norm (D2 := [(o1, .inl ("java/lang/String", [("java/lang/String", "value", "[B", .ref t3), ("java/lang/String", "coder", "B", .int 0)])), (t3, .inr (.byte, [.int ((a &&& 255).toInt8.toInt32), .int (((ush a 8) &&& 255).toInt8.toInt32)])), (o2, .inr (.char, [.int (a &&& 255), .int ((ush a 8) &&& 255)]))]) (S2 := []) (c2 := 3) (s2 := 8) (st2 := [.ref o1]) ?_
  refine Go.astore d42_56 (Ls' := #[.val (.int a), .val (.int bq), .val (.int c), .val (.int (a &&& 255)), .val (.int ((ush a 8) &&& 255)), .val (.int (bq &&& 255)), .val (.int ((ush bq 8) &&& 255)), .val (.ref o1), .unset, .unset, .unset, .unset, .unset, .unset]) rfl (G := ?_)
  refine Go.new d42_58 (hw _ (List.mem_of_getElem? (i := 0) rfl)) (hw _ (List.mem_of_getElem? (i := 1) rfl)) (hw _ (List.mem_of_getElem? (i := 2) rfl)) (NewF.cons (Or.inr (hw _ (List.mem_of_getElem? (i := 29) rfl))) (ty := .array .byte) (by decide +kernel) rfl (by simp) (NewF.cons (Or.inr (hw _ (List.mem_of_getElem? (i := 27) rfl))) (ty := .byte) (by decide +kernel) rfl (by simp) NewF.nil)) (G := fun o4 => ?_)
  refine Go.dup d42_61 (G := ?_)
  refine Go.iconst d42_62 (v := 2) rfl (G := ?_)
  refine Go.newarray d42_63 (hw _ (List.mem_of_getElem? (i := 3) rfl)) (k := 2) rfl (by decide) (by decide) (vs := [.int 0, .int 0]) rfl (G := fun o5 => ?_)
  refine Go.dup d42_65 (G := ?_)
  refine Go.iconst d42_66 (v := 0) rfl (G := ?_)
  refine Go.iload d42_67 rfl (G := ?_)
  refine Go.castore d42_69 0 rfl (x' := (bq &&& 255)) (m255_c _) (Nat.le_of_ble_eq_true rfl) (D' := [(o5, .inr (.char, [.int (bq &&& 255), .int 0])), (o4, .inl ("java/lang/String", [("java/lang/String", "value", "[B", .null), ("java/lang/String", "coder", "B", .int 0)])), (o1, .inl ("java/lang/String", [("java/lang/String", "value", "[B", .ref t3), ("java/lang/String", "coder", "B", .int 0)])), (t3, .inr (.byte, [.int ((a &&& 255).toInt8.toInt32), .int (((ush a 8) &&& 255).toInt8.toInt32)])), (o2, .inr (.char, [.int (a &&& 255), .int ((ush a 8) &&& 255)]))]) rfl (G := ?_)
  refine Go.dup d42_70 (G := ?_)
  refine Go.iconst d42_71 (v := 1) rfl (G := ?_)
  refine Go.iload d42_72 rfl (G := ?_)
  refine Go.castore d42_74 0 rfl (x' := ((ush bq 8) &&& 255)) (m255_c _) (Nat.le_of_ble_eq_true rfl) (D' := [(o5, .inr (.char, [.int (bq &&& 255), .int ((ush bq 8) &&& 255)])), (o4, .inl ("java/lang/String", [("java/lang/String", "value", "[B", .null), ("java/lang/String", "coder", "B", .int 0)])), (o1, .inl ("java/lang/String", [("java/lang/String", "value", "[B", .ref t3), ("java/lang/String", "coder", "B", .int 0)])), (t3, .inr (.byte, [.int ((a &&& 255).toInt8.toInt32), .int (((ush a 8) &&& 255).toInt8.toInt32)])), (o2, .inr (.char, [.int (a &&& 255), .int ((ush a 8) &&& 255)]))]) rfl (G := ?_)
  refine Go.perm [1, 0, 2, 3, 4] (by decide) rfl (D' := [(o4, .inl ("java/lang/String", [("java/lang/String", "value", "[B", .null), ("java/lang/String", "coder", "B", .int 0)])), (o5, .inr (.char, [.int (bq &&& 255), .int ((ush bq 8) &&& 255)])), (o1, .inl ("java/lang/String", [("java/lang/String", "value", "[B", .ref t3), ("java/lang/String", "coder", "B", .int 0)])), (t3, .inr (.byte, [.int ((a &&& 255).toInt8.toInt32), .int (((ush a 8) &&& 255).toInt8.toInt32)])), (o2, .inr (.char, [.int (a &&& 255), .int ((ush a 8) &&& 255)]))]) rfl (G := ?_)
  refine Go.invokeinit true d42_75 rfl (hw _ (List.mem_of_getElem? (i := 4) rfl)) (hw _ (List.mem_of_getElem? (i := 5) rfl)) (hw _ (List.mem_of_getElem? (i := 2) rfl)) (hw _ (List.mem_of_getElem? (i := 6) rfl)) (c_init hw o4 o5 ([(bq &&& 255), ((ush bq 8) &&& 255)] : List Int32) 2 [] cpt hCS hcpt rfl (by decide) (by decide) (eS (m255_le _) (eS (m255_le _) eN))) pdg_29 rfl (argsL := [.ref o5]) (rest := [.ref o4]) rfl rfl (Dr := [(o5, .inr (.char, [.int (bq &&& 255), .int ((ush bq 8) &&& 255)])), (o1, .inl ("java/lang/String", [("java/lang/String", "value", "[B", .ref t3), ("java/lang/String", "coder", "B", .int 0)])), (t3, .inr (.byte, [.int ((a &&& 255).toInt8.toInt32), .int (((ush a 8) &&& 255).toInt8.toInt32)])), (o2, .inr (.char, [.int (a &&& 255), .int ((ush a 8) &&& 255)]))]) rfl (eS (Or.inr ⟨rfl, List.mem_of_getElem? (i := 0) rfl⟩) eN) (G := ?_)
  rintro _ _ _ ⟨t6, rfl, rfl, rfl⟩
  refine Go.norm (D2 := [(o4, .inl ("java/lang/String", [("java/lang/String", "value", "[B", .ref t6), ("java/lang/String", "coder", "B", .int 0)])), (t6, .inr (.byte, [.int ((bq &&& 255).toInt8.toInt32), .int (((ush bq 8) &&& 255).toInt8.toInt32)])), (o5, .inr (.char, [.int (bq &&& 255), .int ((ush bq 8) &&& 255)])), (o1, .inl ("java/lang/String", [("java/lang/String", "value", "[B", .ref t3), ("java/lang/String", "coder", "B", .int 0)])), (t3, .inr (.byte, [.int ((a &&& 255).toInt8.toInt32), .int (((ush a 8) &&& 255).toInt8.toInt32)])), (o2, .inr (.char, [.int (a &&& 255), .int ((ush a 8) &&& 255)]))]) (S2 := []) (c2 := 6) (s2 := 16) (st2 := [.ref o4]) ?_
  refine Go.astore d42_78 (Ls' := #[.val (.int a), .val (.int bq), .val (.int c), .val (.int (a &&& 255)), .val (.int ((ush a 8) &&& 255)), .val (.int (bq &&& 255)), .val (.int ((ush bq 8) &&& 255)), .val (.ref o1), .val (.ref o4), .unset, .unset, .unset, .unset, .unset]) rfl (G := ?_)
  refine Go.iloadN d42_80 rfl (G := ?_)
  refine Go.iconst d42_81 (v := 1) rfl (G := ?_)
  refine Go.iand d42_82 (z := (c &&& 1)) rfl (G := ?_)
  refine Go.ifc d42_83 (pc2 := 90) (Gy := fun h7 => ?_) (Gn := fun h7 => ?_)
  · have h7 : (c &&& 1) = 0 := h7
    refine Go.iconst d42_90 (v := 0) rfl (G := ?_)
    refine Go.istore d42_91 (Ls' := #[.val (.int a), .val (.int bq), .val (.int c), .val (.int (a &&& 255)), .val (.int ((ush a 8) &&& 255)), .val (.int (bq &&& 255)), .val (.int ((ush bq 8) &&& 255)), .val (.ref o1), .val (.ref o4), .val (.int 0), .unset, .unset, .unset, .unset]) rfl (G := ?_)
    refine Go.aconstNull d42_93 (G := ?_)
    refine Go.astore d42_94 (Ls' := #[.val (.int a), .val (.int bq), .val (.int c), .val (.int (a &&& 255)), .val (.int ((ush a 8) &&& 255)), .val (.int (bq &&& 255)), .val (.int ((ush bq 8) &&& 255)), .val (.ref o1), .val (.ref o4), .val (.int 0), .val .null, .unset, .unset, .unset]) rfl (G := ?_)
    refine Go.iload d42_96 rfl (G := ?_)
    refine Go.ifc d42_98 (pc2 := 136) (Gy := fun _ => ?_) (Gn := fun h => absurd (show (0 : Int32) = 0 by decide) h)
    refine Go.new d42_136 (hw _ (List.mem_of_getElem? (i := 0) rfl)) (hw _ (List.mem_of_getElem? (i := 1) rfl)) (hw _ (List.mem_of_getElem? (i := 2) rfl)) (NewF.cons (Or.inr (hw _ (List.mem_of_getElem? (i := 29) rfl))) (ty := .array .byte) (by decide +kernel) rfl (by simp) (NewF.cons (Or.inr (hw _ (List.mem_of_getElem? (i := 27) rfl))) (ty := .byte) (by decide +kernel) rfl (by simp) NewF.nil)) (G := fun o9 => ?_)
    refine Go.dup d42_139 (G := ?_)
    refine Go.bipush d42_140 (v := 20) rfl (G := ?_)
    refine Go.newarray d42_142 (hw _ (List.mem_of_getElem? (i := 3) rfl)) (k := 20) rfl (by decide) (by decide) (vs := [.int 0, .int 0, .int 0, .int 0, .int 0, .int 0, .int 0, .int 0, .int 0, .int 0, .int 0, .int 0, .int 0, .int 0, .int 0, .int 0, .int 0, .int 0, .int 0, .int 0]) rfl (G := fun o10 => ?_)
    refine Go.dup d42_144 (G := ?_)
    refine Go.iconst d42_145 (v := 0) rfl (G := ?_)
    refine Go.bipush d42_146 (v := 67) rfl (G := ?_)
    refine Go.castore d42_148 0 rfl (x' := 67) rfl (Nat.le_of_ble_eq_true rfl) (D' := [(o10, .inr (.char, [.int 67, .int 0, .int 0, .int 0, .int 0, .int 0, .int 0, .int 0, .int 0, .int 0, .int 0, .int 0, .int 0, .int 0, .int 0, .int 0, .int 0, .int 0, .int 0, .int 0])), (o9, .inl ("java/lang/String", [("java/lang/String", "value", "[B", .null), ("java/lang/String", "coder", "B", .int 0)])), (o4, .inl ("java/lang/String", [("java/lang/String", "value", "[B", .ref t6), ("java/lang/String", "coder", "B", .int 0)])), (t6, .inr (.byte, [.int ((bq &&& 255).toInt8.toInt32), .int (((ush bq 8) &&& 255).toInt8.toInt32)])), (o5, .inr (.char, [.int (bq &&& 255), .int ((ush bq 8) &&& 255)])), (o1, .inl ("java/lang/String", [("java/lang/String", "value", "[B", .ref t3), ("java/lang/String", "coder", "B", .int 0)])), (t3, .inr (.byte, [.int ((a &&& 255).toInt8.toInt32), .int (((ush a 8) &&& 255).toInt8.toInt32)])), (o2, .inr (.char, [.int (a &&& 255), .int ((ush a 8) &&& 255)]))]) rfl (G := ?_)
    refine Go.dup d42_149 (G := ?_)
    refine Go.iconst d42_150 (v := 1) rfl (G := ?_)
    refine Go.bipush d42_151 (v := 97) rfl (G := ?_)
    refine Go.castore d42_153 0 rfl (x' := 97) rfl (Nat.le_of_ble_eq_true rfl) (D' := [(o10, .inr (.char, [.int 67, .int 97, .int 0, .int 0, .int 0, .int 0, .int 0, .int 0, .int 0, .int 0, .int 0, .int 0, .int 0, .int 0, .int 0, .int 0, .int 0, .int 0, .int 0, .int 0])), (o9, .inl ("java/lang/String", [("java/lang/String", "value", "[B", .null), ("java/lang/String", "coder", "B", .int 0)])), (o4, .inl ("java/lang/String", [("java/lang/String", "value", "[B", .ref t6), ("java/lang/String", "coder", "B", .int 0)])), (t6, .inr (.byte, [.int ((bq &&& 255).toInt8.toInt32), .int (((ush bq 8) &&& 255).toInt8.toInt32)])), (o5, .inr (.char, [.int (bq &&& 255), .int ((ush bq 8) &&& 255)])), (o1, .inl ("java/lang/String", [("java/lang/String", "value", "[B", .ref t3), ("java/lang/String", "coder", "B", .int 0)])), (t3, .inr (.byte, [.int ((a &&& 255).toInt8.toInt32), .int (((ush a 8) &&& 255).toInt8.toInt32)])), (o2, .inr (.char, [.int (a &&& 255), .int ((ush a 8) &&& 255)]))]) rfl (G := ?_)
    refine Go.dup d42_154 (G := ?_)
    refine Go.iconst d42_155 (v := 2) rfl (G := ?_)
    refine Go.bipush d42_156 (v := 110) rfl (G := ?_)
    refine Go.castore d42_158 0 rfl (x' := 110) rfl (Nat.le_of_ble_eq_true rfl) (D' := [(o10, .inr (.char, [.int 67, .int 97, .int 110, .int 0, .int 0, .int 0, .int 0, .int 0, .int 0, .int 0, .int 0, .int 0, .int 0, .int 0, .int 0, .int 0, .int 0, .int 0, .int 0, .int 0])), (o9, .inl ("java/lang/String", [("java/lang/String", "value", "[B", .null), ("java/lang/String", "coder", "B", .int 0)])), (o4, .inl ("java/lang/String", [("java/lang/String", "value", "[B", .ref t6), ("java/lang/String", "coder", "B", .int 0)])), (t6, .inr (.byte, [.int ((bq &&& 255).toInt8.toInt32), .int (((ush bq 8) &&& 255).toInt8.toInt32)])), (o5, .inr (.char, [.int (bq &&& 255), .int ((ush bq 8) &&& 255)])), (o1, .inl ("java/lang/String", [("java/lang/String", "value", "[B", .ref t3), ("java/lang/String", "coder", "B", .int 0)])), (t3, .inr (.byte, [.int ((a &&& 255).toInt8.toInt32), .int (((ush a 8) &&& 255).toInt8.toInt32)])), (o2, .inr (.char, [.int (a &&& 255), .int ((ush a 8) &&& 255)]))]) rfl (G := ?_)
    refine Go.dup d42_159 (G := ?_)
    refine Go.iconst d42_160 (v := 3) rfl (G := ?_)
    refine Go.bipush d42_161 (v := 110) rfl (G := ?_)
    refine Go.castore d42_163 0 rfl (x' := 110) rfl (Nat.le_of_ble_eq_true rfl) (D' := [(o10, .inr (.char, [.int 67, .int 97, .int 110, .int 110, .int 0, .int 0, .int 0, .int 0, .int 0, .int 0, .int 0, .int 0, .int 0, .int 0, .int 0, .int 0, .int 0, .int 0, .int 0, .int 0])), (o9, .inl ("java/lang/String", [("java/lang/String", "value", "[B", .null), ("java/lang/String", "coder", "B", .int 0)])), (o4, .inl ("java/lang/String", [("java/lang/String", "value", "[B", .ref t6), ("java/lang/String", "coder", "B", .int 0)])), (t6, .inr (.byte, [.int ((bq &&& 255).toInt8.toInt32), .int (((ush bq 8) &&& 255).toInt8.toInt32)])), (o5, .inr (.char, [.int (bq &&& 255), .int ((ush bq 8) &&& 255)])), (o1, .inl ("java/lang/String", [("java/lang/String", "value", "[B", .ref t3), ("java/lang/String", "coder", "B", .int 0)])), (t3, .inr (.byte, [.int ((a &&& 255).toInt8.toInt32), .int (((ush a 8) &&& 255).toInt8.toInt32)])), (o2, .inr (.char, [.int (a &&& 255), .int ((ush a 8) &&& 255)]))]) rfl (G := ?_)
    refine Go.dup d42_164 (G := ?_)
    refine Go.iconst d42_165 (v := 4) rfl (G := ?_)
    refine Go.bipush d42_166 (v := 111) rfl (G := ?_)
    refine Go.castore d42_168 0 rfl (x' := 111) rfl (Nat.le_of_ble_eq_true rfl) (D' := [(o10, .inr (.char, [.int 67, .int 97, .int 110, .int 110, .int 111, .int 0, .int 0, .int 0, .int 0, .int 0, .int 0, .int 0, .int 0, .int 0, .int 0, .int 0, .int 0, .int 0, .int 0, .int 0])), (o9, .inl ("java/lang/String", [("java/lang/String", "value", "[B", .null), ("java/lang/String", "coder", "B", .int 0)])), (o4, .inl ("java/lang/String", [("java/lang/String", "value", "[B", .ref t6), ("java/lang/String", "coder", "B", .int 0)])), (t6, .inr (.byte, [.int ((bq &&& 255).toInt8.toInt32), .int (((ush bq 8) &&& 255).toInt8.toInt32)])), (o5, .inr (.char, [.int (bq &&& 255), .int ((ush bq 8) &&& 255)])), (o1, .inl ("java/lang/String", [("java/lang/String", "value", "[B", .ref t3), ("java/lang/String", "coder", "B", .int 0)])), (t3, .inr (.byte, [.int ((a &&& 255).toInt8.toInt32), .int (((ush a 8) &&& 255).toInt8.toInt32)])), (o2, .inr (.char, [.int (a &&& 255), .int ((ush a 8) &&& 255)]))]) rfl (G := ?_)
    refine Go.dup d42_169 (G := ?_)
    refine Go.iconst d42_170 (v := 5) rfl (G := ?_)
    refine Go.bipush d42_171 (v := 116) rfl (G := ?_)
    refine Go.castore d42_173 0 rfl (x' := 116) rfl (Nat.le_of_ble_eq_true rfl) (D' := [(o10, .inr (.char, [.int 67, .int 97, .int 110, .int 110, .int 111, .int 116, .int 0, .int 0, .int 0, .int 0, .int 0, .int 0, .int 0, .int 0, .int 0, .int 0, .int 0, .int 0, .int 0, .int 0])), (o9, .inl ("java/lang/String", [("java/lang/String", "value", "[B", .null), ("java/lang/String", "coder", "B", .int 0)])), (o4, .inl ("java/lang/String", [("java/lang/String", "value", "[B", .ref t6), ("java/lang/String", "coder", "B", .int 0)])), (t6, .inr (.byte, [.int ((bq &&& 255).toInt8.toInt32), .int (((ush bq 8) &&& 255).toInt8.toInt32)])), (o5, .inr (.char, [.int (bq &&& 255), .int ((ush bq 8) &&& 255)])), (o1, .inl ("java/lang/String", [("java/lang/String", "value", "[B", .ref t3), ("java/lang/String", "coder", "B", .int 0)])), (t3, .inr (.byte, [.int ((a &&& 255).toInt8.toInt32), .int (((ush a 8) &&& 255).toInt8.toInt32)])), (o2, .inr (.char, [.int (a &&& 255), .int ((ush a 8) &&& 255)]))]) rfl (G := ?_)
    refine Go.dup d42_174 (G := ?_)
    refine Go.bipush d42_175 (v := 6) rfl (G := ?_)
    refine Go.bipush d42_177 (v := 32) rfl (G := ?_)
    refine Go.castore d42_179 0 rfl (x' := 32) rfl (Nat.le_of_ble_eq_true rfl) (D' := [(o10, .inr (.char, [.int 67, .int 97, .int 110, .int 110, .int 111, .int 116, .int 32, .int 0, .int 0, .int 0, .int 0, .int 0, .int 0, .int 0, .int 0, .int 0, .int 0, .int 0, .int 0, .int 0])), (o9, .inl ("java/lang/String", [("java/lang/String", "value", "[B", .null), ("java/lang/String", "coder", "B", .int 0)])), (o4, .inl ("java/lang/String", [("java/lang/String", "value", "[B", .ref t6), ("java/lang/String", "coder", "B", .int 0)])), (t6, .inr (.byte, [.int ((bq &&& 255).toInt8.toInt32), .int (((ush bq 8) &&& 255).toInt8.toInt32)])), (o5, .inr (.char, [.int (bq &&& 255), .int ((ush bq 8) &&& 255)])), (o1, .inl ("java/lang/String", [("java/lang/String", "value", "[B", .ref t3), ("java/lang/String", "coder", "B", .int 0)])), (t3, .inr (.byte, [.int ((a &&& 255).toInt8.toInt32), .int (((ush a 8) &&& 255).toInt8.toInt32)])), (o2, .inr (.char, [.int (a &&& 255), .int ((ush a 8) &&& 255)]))]) rfl (G := ?_)
    refine Go.dup d42_180 (G := ?_)
    refine Go.bipush d42_181 (v := 7) rfl (G := ?_)
    refine Go.bipush d42_183 (v := 99) rfl (G := ?_)
    refine Go.castore d42_185 0 rfl (x' := 99) rfl (Nat.le_of_ble_eq_true rfl) (D' := [(o10, .inr (.char, [.int 67, .int 97, .int 110, .int 110, .int 111, .int 116, .int 32, .int 99, .int 0, .int 0, .int 0, .int 0, .int 0, .int 0, .int 0, .int 0, .int 0, .int 0, .int 0, .int 0])), (o9, .inl ("java/lang/String", [("java/lang/String", "value", "[B", .null), ("java/lang/String", "coder", "B", .int 0)])), (o4, .inl ("java/lang/String", [("java/lang/String", "value", "[B", .ref t6), ("java/lang/String", "coder", "B", .int 0)])), (t6, .inr (.byte, [.int ((bq &&& 255).toInt8.toInt32), .int (((ush bq 8) &&& 255).toInt8.toInt32)])), (o5, .inr (.char, [.int (bq &&& 255), .int ((ush bq 8) &&& 255)])), (o1, .inl ("java/lang/String", [("java/lang/String", "value", "[B", .ref t3), ("java/lang/String", "coder", "B", .int 0)])), (t3, .inr (.byte, [.int ((a &&& 255).toInt8.toInt32), .int (((ush a 8) &&& 255).toInt8.toInt32)])), (o2, .inr (.char, [.int (a &&& 255), .int ((ush a 8) &&& 255)]))]) rfl (G := ?_)
    refine Go.dup d42_186 (G := ?_)
    refine Go.bipush d42_187 (v := 8) rfl (G := ?_)
    refine Go.bipush d42_189 (v := 114) rfl (G := ?_)
    refine Go.castore d42_191 0 rfl (x' := 114) rfl (Nat.le_of_ble_eq_true rfl) (D' := [(o10, .inr (.char, [.int 67, .int 97, .int 110, .int 110, .int 111, .int 116, .int 32, .int 99, .int 114, .int 0, .int 0, .int 0, .int 0, .int 0, .int 0, .int 0, .int 0, .int 0, .int 0, .int 0])), (o9, .inl ("java/lang/String", [("java/lang/String", "value", "[B", .null), ("java/lang/String", "coder", "B", .int 0)])), (o4, .inl ("java/lang/String", [("java/lang/String", "value", "[B", .ref t6), ("java/lang/String", "coder", "B", .int 0)])), (t6, .inr (.byte, [.int ((bq &&& 255).toInt8.toInt32), .int (((ush bq 8) &&& 255).toInt8.toInt32)])), (o5, .inr (.char, [.int (bq &&& 255), .int ((ush bq 8) &&& 255)])), (o1, .inl ("java/lang/String", [("java/lang/String", "value", "[B", .ref t3), ("java/lang/String", "coder", "B", .int 0)])), (t3, .inr (.byte, [.int ((a &&& 255).toInt8.toInt32), .int (((ush a 8) &&& 255).toInt8.toInt32)])), (o2, .inr (.char, [.int (a &&& 255), .int ((ush a 8) &&& 255)]))]) rfl (G := ?_)
    refine Go.dup d42_192 (G := ?_)
    refine Go.bipush d42_193 (v := 9) rfl (G := ?_)
    refine Go.bipush d42_195 (v := 101) rfl (G := ?_)
    refine Go.castore d42_197 0 rfl (x' := 101) rfl (Nat.le_of_ble_eq_true rfl) (D' := [(o10, .inr (.char, [.int 67, .int 97, .int 110, .int 110, .int 111, .int 116, .int 32, .int 99, .int 114, .int 101, .int 0, .int 0, .int 0, .int 0, .int 0, .int 0, .int 0, .int 0, .int 0, .int 0])), (o9, .inl ("java/lang/String", [("java/lang/String", "value", "[B", .null), ("java/lang/String", "coder", "B", .int 0)])), (o4, .inl ("java/lang/String", [("java/lang/String", "value", "[B", .ref t6), ("java/lang/String", "coder", "B", .int 0)])), (t6, .inr (.byte, [.int ((bq &&& 255).toInt8.toInt32), .int (((ush bq 8) &&& 255).toInt8.toInt32)])), (o5, .inr (.char, [.int (bq &&& 255), .int ((ush bq 8) &&& 255)])), (o1, .inl ("java/lang/String", [("java/lang/String", "value", "[B", .ref t3), ("java/lang/String", "coder", "B", .int 0)])), (t3, .inr (.byte, [.int ((a &&& 255).toInt8.toInt32), .int (((ush a 8) &&& 255).toInt8.toInt32)])), (o2, .inr (.char, [.int (a &&& 255), .int ((ush a 8) &&& 255)]))]) rfl (G := ?_)
    refine Go.dup d42_198 (G := ?_)
    refine Go.bipush d42_199 (v := 10) rfl (G := ?_)
    refine Go.bipush d42_201 (v := 97) rfl (G := ?_)
    refine Go.castore d42_203 0 rfl (x' := 97) rfl (Nat.le_of_ble_eq_true rfl) (D' := [(o10, .inr (.char, [.int 67, .int 97, .int 110, .int 110, .int 111, .int 116, .int 32, .int 99, .int 114, .int 101, .int 97, .int 0, .int 0, .int 0, .int 0, .int 0, .int 0, .int 0, .int 0, .int 0])), (o9, .inl ("java/lang/String", [("java/lang/String", "value", "[B", .null), ("java/lang/String", "coder", "B", .int 0)])), (o4, .inl ("java/lang/String", [("java/lang/String", "value", "[B", .ref t6), ("java/lang/String", "coder", "B", .int 0)])), (t6, .inr (.byte, [.int ((bq &&& 255).toInt8.toInt32), .int (((ush bq 8) &&& 255).toInt8.toInt32)])), (o5, .inr (.char, [.int (bq &&& 255), .int ((ush bq 8) &&& 255)])), (o1, .inl ("java/lang/String", [("java/lang/String", "value", "[B", .ref t3), ("java/lang/String", "coder", "B", .int 0)])), (t3, .inr (.byte, [.int ((a &&& 255).toInt8.toInt32), .int (((ush a 8) &&& 255).toInt8.toInt32)])), (o2, .inr (.char, [.int (a &&& 255), .int ((ush a 8) &&& 255)]))]) rfl (G := ?_)
    refine Go.dup d42_204 (G := ?_)
    refine Go.bipush d42_205 (v := 11) rfl (G := ?_)
    refine Go.bipush d42_207 (v := 116) rfl (G := ?_)
    refine Go.castore d42_209 0 rfl (x' := 116) rfl (Nat.le_of_ble_eq_true rfl) (D' := [(o10, .inr (.char, [.int 67, .int 97, .int 110, .int 110, .int 111, .int 116, .int 32, .int 99, .int 114, .int 101, .int 97, .int 116, .int 0, .int 0, .int 0, .int 0, .int 0, .int 0, .int 0, .int 0])), (o9, .inl ("java/lang/String", [("java/lang/String", "value", "[B", .null), ("java/lang/String", "coder", "B", .int 0)])), (o4, .inl ("java/lang/String", [("java/lang/String", "value", "[B", .ref t6), ("java/lang/String", "coder", "B", .int 0)])), (t6, .inr (.byte, [.int ((bq &&& 255).toInt8.toInt32), .int (((ush bq 8) &&& 255).toInt8.toInt32)])), (o5, .inr (.char, [.int (bq &&& 255), .int ((ush bq 8) &&& 255)])), (o1, .inl ("java/lang/String", [("java/lang/String", "value", "[B", .ref t3), ("java/lang/String", "coder", "B", .int 0)])), (t3, .inr (.byte, [.int ((a &&& 255).toInt8.toInt32), .int (((ush a 8) &&& 255).toInt8.toInt32)])), (o2, .inr (.char, [.int (a &&& 255), .int ((ush a 8) &&& 255)]))]) rfl (G := ?_)
    refine Go.dup d42_210 (G := ?_)
    refine Go.bipush d42_211 (v := 12) rfl (G := ?_)
    refine Go.bipush d42_213 (v := 101) rfl (G := ?_)
    refine Go.castore d42_215 0 rfl (x' := 101) rfl (Nat.le_of_ble_eq_true rfl) (D' := [(o10, .inr (.char, [.int 67, .int 97, .int 110, .int 110, .int 111, .int 116, .int 32, .int 99, .int 114, .int 101, .int 97, .int 116, .int 101, .int 0, .int 0, .int 0, .int 0, .int 0, .int 0, .int 0])), (o9, .inl ("java/lang/String", [("java/lang/String", "value", "[B", .null), ("java/lang/String", "coder", "B", .int 0)])), (o4, .inl ("java/lang/String", [("java/lang/String", "value", "[B", .ref t6), ("java/lang/String", "coder", "B", .int 0)])), (t6, .inr (.byte, [.int ((bq &&& 255).toInt8.toInt32), .int (((ush bq 8) &&& 255).toInt8.toInt32)])), (o5, .inr (.char, [.int (bq &&& 255), .int ((ush bq 8) &&& 255)])), (o1, .inl ("java/lang/String", [("java/lang/String", "value", "[B", .ref t3), ("java/lang/String", "coder", "B", .int 0)])), (t3, .inr (.byte, [.int ((a &&& 255).toInt8.toInt32), .int (((ush a 8) &&& 255).toInt8.toInt32)])), (o2, .inr (.char, [.int (a &&& 255), .int ((ush a 8) &&& 255)]))]) rfl (G := ?_)
    refine Go.dup d42_216 (G := ?_)
    refine Go.bipush d42_217 (v := 13) rfl (G := ?_)
    refine Go.bipush d42_219 (v := 32) rfl (G := ?_)
    refine Go.castore d42_221 0 rfl (x' := 32) rfl (Nat.le_of_ble_eq_true rfl) (D' := [(o10, .inr (.char, [.int 67, .int 97, .int 110, .int 110, .int 111, .int 116, .int 32, .int 99, .int 114, .int 101, .int 97, .int 116, .int 101, .int 32, .int 0, .int 0, .int 0, .int 0, .int 0, .int 0])), (o9, .inl ("java/lang/String", [("java/lang/String", "value", "[B", .null), ("java/lang/String", "coder", "B", .int 0)])), (o4, .inl ("java/lang/String", [("java/lang/String", "value", "[B", .ref t6), ("java/lang/String", "coder", "B", .int 0)])), (t6, .inr (.byte, [.int ((bq &&& 255).toInt8.toInt32), .int (((ush bq 8) &&& 255).toInt8.toInt32)])), (o5, .inr (.char, [.int (bq &&& 255), .int ((ush bq 8) &&& 255)])), (o1, .inl ("java/lang/String", [("java/lang/String", "value", "[B", .ref t3), ("java/lang/String", "coder", "B", .int 0)])), (t3, .inr (.byte, [.int ((a &&& 255).toInt8.toInt32), .int (((ush a 8) &&& 255).toInt8.toInt32)])), (o2, .inr (.char, [.int (a &&& 255), .int ((ush a 8) &&& 255)]))]) rfl (G := ?_)
    refine Go.dup d42_222 (G := ?_)
    refine Go.bipush d42_223 (v := 14) rfl (G := ?_)
    refine Go.iloadN d42_225 rfl (G := ?_)
    refine Go.castore d42_226 0 rfl (x' := (a &&& 255)) (m255_c _) (Nat.le_of_ble_eq_true rfl) (D' := [(o10, .inr (.char, [.int 67, .int 97, .int 110, .int 110, .int 111, .int 116, .int 32, .int 99, .int 114, .int 101, .int 97, .int 116, .int 101, .int 32, .int (a &&& 255), .int 0, .int 0, .int 0, .int 0, .int 0])), (o9, .inl ("java/lang/String", [("java/lang/String", "value", "[B", .null), ("java/lang/String", "coder", "B", .int 0)])), (o4, .inl ("java/lang/String", [("java/lang/String", "value", "[B", .ref t6), ("java/lang/String", "coder", "B", .int 0)])), (t6, .inr (.byte, [.int ((bq &&& 255).toInt8.toInt32), .int (((ush bq 8) &&& 255).toInt8.toInt32)])), (o5, .inr (.char, [.int (bq &&& 255), .int ((ush bq 8) &&& 255)])), (o1, .inl ("java/lang/String", [("java/lang/String", "value", "[B", .ref t3), ("java/lang/String", "coder", "B", .int 0)])), (t3, .inr (.byte, [.int ((a &&& 255).toInt8.toInt32), .int (((ush a 8) &&& 255).toInt8.toInt32)])), (o2, .inr (.char, [.int (a &&& 255), .int ((ush a 8) &&& 255)]))]) rfl (G := ?_)
    refine Go.dup d42_227 (G := ?_)
    refine Go.bipush d42_228 (v := 15) rfl (G := ?_)
    refine Go.iload d42_230 rfl (G := ?_)
    refine Go.castore d42_232 0 rfl (x' := ((ush a 8) &&& 255)) (m255_c _) (Nat.le_of_ble_eq_true rfl) (D' := [(o10, .inr (.char, [.int 67, .int 97, .int 110, .int 110, .int 111, .int 116, .int 32, .int 99, .int 114, .int 101, .int 97, .int 116, .int 101, .int 32, .int (a &&& 255), .int ((ush a 8) &&& 255), .int 0, .int 0, .int 0, .int 0])), (o9, .inl ("java/lang/String", [("java/lang/String", "value", "[B", .null), ("java/lang/String", "coder", "B", .int 0)])), (o4, .inl ("java/lang/String", [("java/lang/String", "value", "[B", .ref t6), ("java/lang/String", "coder", "B", .int 0)])), (t6, .inr (.byte, [.int ((bq &&& 255).toInt8.toInt32), .int (((ush bq 8) &&& 255).toInt8.toInt32)])), (o5, .inr (.char, [.int (bq &&& 255), .int ((ush bq 8) &&& 255)])), (o1, .inl ("java/lang/String", [("java/lang/String", "value", "[B", .ref t3), ("java/lang/String", "coder", "B", .int 0)])), (t3, .inr (.byte, [.int ((a &&& 255).toInt8.toInt32), .int (((ush a 8) &&& 255).toInt8.toInt32)])), (o2, .inr (.char, [.int (a &&& 255), .int ((ush a 8) &&& 255)]))]) rfl (G := ?_)
    refine Go.dup d42_233 (G := ?_)
    refine Go.bipush d42_234 (v := 16) rfl (G := ?_)
    refine Go.bipush d42_236 (v := 58) rfl (G := ?_)
    refine Go.castore d42_238 0 rfl (x' := 58) rfl (Nat.le_of_ble_eq_true rfl) (D' := [(o10, .inr (.char, [.int 67, .int 97, .int 110, .int 110, .int 111, .int 116, .int 32, .int 99, .int 114, .int 101, .int 97, .int 116, .int 101, .int 32, .int (a &&& 255), .int ((ush a 8) &&& 255), .int 58, .int 0, .int 0, .int 0])), (o9, .inl ("java/lang/String", [("java/lang/String", "value", "[B", .null), ("java/lang/String", "coder", "B", .int 0)])), (o4, .inl ("java/lang/String", [("java/lang/String", "value", "[B", .ref t6), ("java/lang/String", "coder", "B", .int 0)])), (t6, .inr (.byte, [.int ((bq &&& 255).toInt8.toInt32), .int (((ush bq 8) &&& 255).toInt8.toInt32)])), (o5, .inr (.char, [.int (bq &&& 255), .int ((ush bq 8) &&& 255)])), (o1, .inl ("java/lang/String", [("java/lang/String", "value", "[B", .ref t3), ("java/lang/String", "coder", "B", .int 0)])), (t3, .inr (.byte, [.int ((a &&& 255).toInt8.toInt32), .int (((ush a 8) &&& 255).toInt8.toInt32)])), (o2, .inr (.char, [.int (a &&& 255), .int ((ush a 8) &&& 255)]))]) rfl (G := ?_)
    refine Go.dup d42_239 (G := ?_)
    refine Go.bipush d42_240 (v := 17) rfl (G := ?_)
    refine Go.bipush d42_242 (v := 32) rfl (G := ?_)
    refine Go.castore d42_244 0 rfl (x' := 32) rfl (Nat.le_of_ble_eq_true rfl) (D' := [(o10, .inr (.char, [.int 67, .int 97, .int 110, .int 110, .int 111, .int 116, .int 32, .int 99, .int 114, .int 101, .int 97, .int 116, .int 101, .int 32, .int (a &&& 255), .int ((ush a 8) &&& 255), .int 58, .int 32, .int 0, .int 0])), (o9, .inl ("java/lang/String", [("java/lang/String", "value", "[B", .null), ("java/lang/String", "coder", "B", .int 0)])), (o4, .inl ("java/lang/String", [("java/lang/String", "value", "[B", .ref t6), ("java/lang/String", "coder", "B", .int 0)])), (t6, .inr (.byte, [.int ((bq &&& 255).toInt8.toInt32), .int (((ush bq 8) &&& 255).toInt8.toInt32)])), (o5, .inr (.char, [.int (bq &&& 255), .int ((ush bq 8) &&& 255)])), (o1, .inl ("java/lang/String", [("java/lang/String", "value", "[B", .ref t3), ("java/lang/String", "coder", "B", .int 0)])), (t3, .inr (.byte, [.int ((a &&& 255).toInt8.toInt32), .int (((ush a 8) &&& 255).toInt8.toInt32)])), (o2, .inr (.char, [.int (a &&& 255), .int ((ush a 8) &&& 255)]))]) rfl (G := ?_)
    refine Go.dup d42_245 (G := ?_)
    refine Go.bipush d42_246 (v := 18) rfl (G := ?_)
    refine Go.iload d42_248 rfl (G := ?_)
    refine Go.castore d42_250 0 rfl (x' := (bq &&& 255)) (m255_c _) (Nat.le_of_ble_eq_true rfl) (D' := [(o10, .inr (.char, [.int 67, .int 97, .int 110, .int 110, .int 111, .int 116, .int 32, .int 99, .int 114, .int 101, .int 97, .int 116, .int 101, .int 32, .int (a &&& 255), .int ((ush a 8) &&& 255), .int 58, .int 32, .int (bq &&& 255), .int 0])), (o9, .inl ("java/lang/String", [("java/lang/String", "value", "[B", .null), ("java/lang/String", "coder", "B", .int 0)])), (o4, .inl ("java/lang/String", [("java/lang/String", "value", "[B", .ref t6), ("java/lang/String", "coder", "B", .int 0)])), (t6, .inr (.byte, [.int ((bq &&& 255).toInt8.toInt32), .int (((ush bq 8) &&& 255).toInt8.toInt32)])), (o5, .inr (.char, [.int (bq &&& 255), .int ((ush bq 8) &&& 255)])), (o1, .inl ("java/lang/String", [("java/lang/String", "value", "[B", .ref t3), ("java/lang/String", "coder", "B", .int 0)])), (t3, .inr (.byte, [.int ((a &&& 255).toInt8.toInt32), .int (((ush a 8) &&& 255).toInt8.toInt32)])), (o2, .inr (.char, [.int (a &&& 255), .int ((ush a 8) &&& 255)]))]) rfl (G := ?_)
    refine Go.dup d42_251 (G := ?_)
    refine Go.bipush d42_252 (v := 19) rfl (G := ?_)
    refine Go.iload d42_254 rfl (G := ?_)
    refine Go.castore d42_256 0 rfl (x' := ((ush bq 8) &&& 255)) (m255_c _) (Nat.le_of_ble_eq_true rfl) (D' := [(o10, .inr (.char, [.int 67, .int 97, .int 110, .int 110, .int 111, .int 116, .int 32, .int 99, .int 114, .int 101, .int 97, .int 116, .int 101, .int 32, .int (a &&& 255), .int ((ush a 8) &&& 255), .int 58, .int 32, .int (bq &&& 255), .int ((ush bq 8) &&& 255)])), (o9, .inl ("java/lang/String", [("java/lang/String", "value", "[B", .null), ("java/lang/String", "coder", "B", .int 0)])), (o4, .inl ("java/lang/String", [("java/lang/String", "value", "[B", .ref t6), ("java/lang/String", "coder", "B", .int 0)])), (t6, .inr (.byte, [.int ((bq &&& 255).toInt8.toInt32), .int (((ush bq 8) &&& 255).toInt8.toInt32)])), (o5, .inr (.char, [.int (bq &&& 255), .int ((ush bq 8) &&& 255)])), (o1, .inl ("java/lang/String", [("java/lang/String", "value", "[B", .ref t3), ("java/lang/String", "coder", "B", .int 0)])), (t3, .inr (.byte, [.int ((a &&& 255).toInt8.toInt32), .int (((ush a 8) &&& 255).toInt8.toInt32)])), (o2, .inr (.char, [.int (a &&& 255), .int ((ush a 8) &&& 255)]))]) rfl (G := ?_)
    refine Go.perm [1, 0, 2, 3, 4, 5, 6, 7] (by decide) rfl (D' := [(o9, .inl ("java/lang/String", [("java/lang/String", "value", "[B", .null), ("java/lang/String", "coder", "B", .int 0)])), (o10, .inr (.char, [.int 67, .int 97, .int 110, .int 110, .int 111, .int 116, .int 32, .int 99, .int 114, .int 101, .int 97, .int 116, .int 101, .int 32, .int (a &&& 255), .int ((ush a 8) &&& 255), .int 58, .int 32, .int (bq &&& 255), .int ((ush bq 8) &&& 255)])), (o4, .inl ("java/lang/String", [("java/lang/String", "value", "[B", .ref t6), ("java/lang/String", "coder", "B", .int 0)])), (t6, .inr (.byte, [.int ((bq &&& 255).toInt8.toInt32), .int (((ush bq 8) &&& 255).toInt8.toInt32)])), (o5, .inr (.char, [.int (bq &&& 255), .int ((ush bq 8) &&& 255)])), (o1, .inl ("java/lang/String", [("java/lang/String", "value", "[B", .ref t3), ("java/lang/String", "coder", "B", .int 0)])), (t3, .inr (.byte, [.int ((a &&& 255).toInt8.toInt32), .int (((ush a 8) &&& 255).toInt8.toInt32)])), (o2, .inr (.char, [.int (a &&& 255), .int ((ush a 8) &&& 255)]))]) rfl (G := ?_)
    refine Go.invokeinit true d42_257 rfl (hw _ (List.mem_of_getElem? (i := 4) rfl)) (hw _ (List.mem_of_getElem? (i := 5) rfl)) (hw _ (List.mem_of_getElem? (i := 2) rfl)) (hw _ (List.mem_of_getElem? (i := 6) rfl)) (c_init hw o9 o10 ([67, 97, 110, 110, 111, 116, 32, 99, 114, 101, 97, 116, 101, 32, (a &&& 255), ((ush a 8) &&& 255), 58, 32, (bq &&& 255), ((ush bq 8) &&& 255)] : List Int32) 20 [] cpt hCS hcpt rfl (by decide) (by decide) (eS (by decide) (eS (by decide) (eS (by decide) (eS (by decide) (eS (by decide) (eS (by decide) (eS (by decide) (eS (by decide) (eS (by decide) (eS (by decide) (eS (by decide) (eS (by decide) (eS (by decide) (eS (by decide) (eS (m255_le _) (eS (m255_le _) (eS (by decide) (eS (by decide) (eS (m255_le _) (eS (m255_le _) eN))))))))))))))))))))) pdg_29 rfl (argsL := [.ref o10]) (rest := [.ref o9]) rfl rfl (Dr := [(o10, .inr (.char, [.int 67, .int 97, .int 110, .int 110, .int 111, .int 116, .int 32, .int 99, .int 114, .int 101, .int 97, .int 116, .int 101, .int 32, .int (a &&& 255), .int ((ush a 8) &&& 255), .int 58, .int 32, .int (bq &&& 255), .int ((ush bq 8) &&& 255)])), (o4, .inl ("java/lang/String", [("java/lang/String", "value", "[B", .ref t6), ("java/lang/String", "coder", "B", .int 0)])), (t6, .inr (.byte, [.int ((bq &&& 255).toInt8.toInt32), .int (((ush bq 8) &&& 255).toInt8.toInt32)])), (o5, .inr (.char, [.int (bq &&& 255), .int ((ush bq 8) &&& 255)])), (o1, .inl ("java/lang/String", [("java/lang/String", "value", "[B", .ref t3), ("java/lang/String", "coder", "B", .int 0)])), (t3, .inr (.byte, [.int ((a &&& 255).toInt8.toInt32), .int (((ush a 8) &&& 255).toInt8.toInt32)])), (o2, .inr (.char, [.int (a &&& 255), .int ((ush a 8) &&& 255)]))]) rfl (eS (Or.inr ⟨rfl, List.mem_of_getElem? (i := 0) rfl⟩) eN) (G := ?_)
    rintro _ _ _ ⟨t11, rfl, rfl, rfl⟩
    refine Go.norm (D2 := [(o9, .inl ("java/lang/String", [("java/lang/String", "value", "[B", .ref t11), ("java/lang/String", "coder", "B", .int 0)])), (t11, .inr (.byte, [.int 67, .int 97, .int 110, .int 110, .int 111, .int 116, .int 32, .int 99, .int 114, .int 101, .int 97, .int 116, .int 101, .int 32, .int ((a &&& 255).toInt8.toInt32), .int (((ush a 8) &&& 255).toInt8.toInt32), .int 58, .int 32, .int ((bq &&& 255).toInt8.toInt32), .int (((ush bq 8) &&& 255).toInt8.toInt32)])), (o10, .inr (.char, [.int 67, .int 97, .int 110, .int 110, .int 111, .int 116, .int 32, .int 99, .int 114, .int 101, .int 97, .int 116, .int 101, .int 32, .int (a &&& 255), .int ((ush a 8) &&& 255), .int 58, .int 32, .int (bq &&& 255), .int ((ush bq 8) &&& 255)])), (o4, .inl ("java/lang/String", [("java/lang/String", "value", "[B", .ref t6), ("java/lang/String", "coder", "B", .int 0)])), (t6, .inr (.byte, [.int ((bq &&& 255).toInt8.toInt32), .int (((ush bq 8) &&& 255).toInt8.toInt32)])), (o5, .inr (.char, [.int (bq &&& 255), .int ((ush bq 8) &&& 255)])), (o1, .inl ("java/lang/String", [("java/lang/String", "value", "[B", .ref t3), ("java/lang/String", "coder", "B", .int 0)])), (t3, .inr (.byte, [.int ((a &&& 255).toInt8.toInt32), .int (((ush a 8) &&& 255).toInt8.toInt32)])), (o2, .inr (.char, [.int (a &&& 255), .int ((ush a 8) &&& 255)]))]) (S2 := []) (c2 := 9) (s2 := 60) (st2 := [.ref o9]) ?_
    refine Go.astore d42_260 (Ls' := #[.val (.int a), .val (.int bq), .val (.int c), .val (.int (a &&& 255)), .val (.int ((ush a 8) &&& 255)), .val (.int (bq &&& 255)), .val (.int ((ush bq 8) &&& 255)), .val (.ref o1), .val (.ref o4), .val (.int 0), .val .null, .val (.ref o9), .unset, .unset]) rfl (G := ?_)
    refine Go.aload d42_262 rfl (G := ?_)
    refine Go.aload d42_264 rfl (G := ?_)
    refine Go.aload d42_266 rfl (G := ?_)
    refine Go.invokestatic true d42_268 (hw _ (List.mem_of_getElem? (i := 30) rfl)) (hw _ (List.mem_of_getElem? (i := 31) rfl)) (hw _ (List.mem_of_getElem? (i := 32) rfl)) (hw _ (List.mem_of_getElem? (i := 33) rfl)) (c_ccN hw o1 t3 o4 t6 ((a &&& 255).toInt8.toInt32) (((ush a 8) &&& 255).toInt8.toInt32) ((bq &&& 255).toInt8.toInt32) (((ush bq 8) &&& 255).toInt8.toInt32) cpt hCS hcpt hb1 hE_ComponentException_41 hE_ComponentException_47 hl su sn hUS hSS) pdg_30 rfl (argsL := [.ref o1, .ref o4, .null]) (rest := []) rfl rfl (Dr := [(o9, .inl ("java/lang/String", [("java/lang/String", "value", "[B", .ref t11), ("java/lang/String", "coder", "B", .int 0)])), (t11, .inr (.byte, [.int 67, .int 97, .int 110, .int 110, .int 111, .int 116, .int 32, .int 99, .int 114, .int 101, .int 97, .int 116, .int 101, .int 32, .int ((a &&& 255).toInt8.toInt32), .int (((ush a 8) &&& 255).toInt8.toInt32), .int 58, .int 32, .int ((bq &&& 255).toInt8.toInt32), .int (((ush bq 8) &&& 255).toInt8.toInt32)])), (o10, .inr (.char, [.int 67, .int 97, .int 110, .int 110, .int 111, .int 116, .int 32, .int 99, .int 114, .int 101, .int 97, .int 116, .int 101, .int 32, .int (a &&& 255), .int ((ush a 8) &&& 255), .int 58, .int 32, .int (bq &&& 255), .int ((ush bq 8) &&& 255)])), (o4, .inl ("java/lang/String", [("java/lang/String", "value", "[B", .ref t6), ("java/lang/String", "coder", "B", .int 0)])), (t6, .inr (.byte, [.int ((bq &&& 255).toInt8.toInt32), .int (((ush bq 8) &&& 255).toInt8.toInt32)])), (o5, .inr (.char, [.int (bq &&& 255), .int ((ush bq 8) &&& 255)])), (o1, .inl ("java/lang/String", [("java/lang/String", "value", "[B", .ref t3), ("java/lang/String", "coder", "B", .int 0)])), (t3, .inr (.byte, [.int ((a &&& 255).toInt8.toInt32), .int (((ush a 8) &&& 255).toInt8.toInt32)])), (o2, .inr (.char, [.int (a &&& 255), .int ((ush a 8) &&& 255)]))]) rfl (eS (Or.inr ⟨rfl, List.mem_of_getElem? (i := 6) rfl⟩) (eS (Or.inr ⟨rfl, List.mem_of_getElem? (i := 7) rfl⟩) (eS (Or.inr ⟨rfl, List.mem_of_getElem? (i := 3) rfl⟩) (eS (Or.inr ⟨rfl, List.mem_of_getElem? (i := 4) rfl⟩) eN)))) (G := ?_)
    rintro _ _ _ ⟨e, m, v, rfl, rfl, rfl⟩
    refine Go.norm (D2 := [(e, .inl ("startbeam/ComponentException", [("java/lang/Throwable", "detailMessage", "Ljava/lang/String;", .ref m), ("java/lang/Throwable", "cause", "Ljava/lang/Throwable;", .null), ("startbeam/ComponentException", "remedy", "Ljava/lang/String;", .null)])), (m, .inl ("java/lang/String", [("java/lang/String", "value", "[B", .ref v), ("java/lang/String", "coder", "B", .int 0)])), (v, .inr (.byte, [.int 67, .int 97, .int 110, .int 110, .int 111, .int 116, .int 32, .int 99, .int 114, .int 101, .int 97, .int 116, .int 101, .int 32, .int ((a &&& 255).toInt8.toInt32), .int (((ush a 8) &&& 255).toInt8.toInt32), .int 58, .int 32, .int ((bq &&& 255).toInt8.toInt32), .int (((ush bq 8) &&& 255).toInt8.toInt32)])), (o9, .inl ("java/lang/String", [("java/lang/String", "value", "[B", .ref t11), ("java/lang/String", "coder", "B", .int 0)])), (t11, .inr (.byte, [.int 67, .int 97, .int 110, .int 110, .int 111, .int 116, .int 32, .int 99, .int 114, .int 101, .int 97, .int 116, .int 101, .int 32, .int ((a &&& 255).toInt8.toInt32), .int (((ush a 8) &&& 255).toInt8.toInt32), .int 58, .int 32, .int ((bq &&& 255).toInt8.toInt32), .int (((ush bq 8) &&& 255).toInt8.toInt32)])), (o10, .inr (.char, [.int 67, .int 97, .int 110, .int 110, .int 111, .int 116, .int 32, .int 99, .int 114, .int 101, .int 97, .int 116, .int 101, .int 32, .int (a &&& 255), .int ((ush a 8) &&& 255), .int 58, .int 32, .int (bq &&& 255), .int ((ush bq 8) &&& 255)])), (o4, .inl ("java/lang/String", [("java/lang/String", "value", "[B", .ref t6), ("java/lang/String", "coder", "B", .int 0)])), (t6, .inr (.byte, [.int ((bq &&& 255).toInt8.toInt32), .int (((ush bq 8) &&& 255).toInt8.toInt32)])), (o5, .inr (.char, [.int (bq &&& 255), .int ((ush bq 8) &&& 255)])), (o1, .inl ("java/lang/String", [("java/lang/String", "value", "[B", .ref t3), ("java/lang/String", "coder", "B", .int 0)])), (t3, .inr (.byte, [.int ((a &&& 255).toInt8.toInt32), .int (((ush a 8) &&& 255).toInt8.toInt32)])), (o2, .inr (.char, [.int (a &&& 255), .int ((ush a 8) &&& 255)]))]) (S2 := []) (c2 := 24) (s2 := 3019) (st2 := [.ref e]) ?_
    refine Go.astore d42_271 (Ls' := #[.val (.int a), .val (.int bq), .val (.int c), .val (.int (a &&& 255)), .val (.int ((ush a 8) &&& 255)), .val (.int (bq &&& 255)), .val (.int ((ush bq 8) &&& 255)), .val (.ref o1), .val (.ref o4), .val (.int 0), .val .null, .val (.ref o9), .val (.ref e), .unset]) rfl (G := ?_)
    refine Go.aload d42_273 rfl (G := ?_)
    refine Go.ifnonnullY d42_275 (pc2 := 280) (G := ?_)
    refine Go.aload d42_280 rfl (G := ?_)
    refine Go.aload d42_282 rfl (G := ?_)
    refine Go.invokevirtualUp true d42_284 (hw _ (List.mem_of_getElem? (i := 232) rfl)) (hw _ (List.mem_of_getElem? (i := 233) rfl)) (hw _ (List.mem_of_getElem? (i := 234) rfl)) (hw _ (List.mem_of_getElem? (i := 236) rfl)) (hw _ (List.mem_of_getElem? (i := 235) rfl)) (hw _ (List.mem_of_getElem? (i := 191) rfl)) (hw _ (List.mem_of_getElem? (i := 237) rfl)) (inD (i := 0) rfl) (c_gmN hw e m) pdg_24 rfl (argsL := []) (rest := [.ref o9]) rfl rfl (Dr := [(e, .inl ("startbeam/ComponentException", [("java/lang/Throwable", "detailMessage", "Ljava/lang/String;", .ref m), ("java/lang/Throwable", "cause", "Ljava/lang/Throwable;", .null), ("startbeam/ComponentException", "remedy", "Ljava/lang/String;", .null)])), (m, .inl ("java/lang/String", [("java/lang/String", "value", "[B", .ref v), ("java/lang/String", "coder", "B", .int 0)])), (v, .inr (.byte, [.int 67, .int 97, .int 110, .int 110, .int 111, .int 116, .int 32, .int 99, .int 114, .int 101, .int 97, .int 116, .int 101, .int 32, .int ((a &&& 255).toInt8.toInt32), .int (((ush a 8) &&& 255).toInt8.toInt32), .int 58, .int 32, .int ((bq &&& 255).toInt8.toInt32), .int (((ush bq 8) &&& 255).toInt8.toInt32)])), (o9, .inl ("java/lang/String", [("java/lang/String", "value", "[B", .ref t11), ("java/lang/String", "coder", "B", .int 0)])), (t11, .inr (.byte, [.int 67, .int 97, .int 110, .int 110, .int 111, .int 116, .int 32, .int 99, .int 114, .int 101, .int 97, .int 116, .int 101, .int 32, .int ((a &&& 255).toInt8.toInt32), .int (((ush a 8) &&& 255).toInt8.toInt32), .int 58, .int 32, .int ((bq &&& 255).toInt8.toInt32), .int (((ush bq 8) &&& 255).toInt8.toInt32)])), (o10, .inr (.char, [.int 67, .int 97, .int 110, .int 110, .int 111, .int 116, .int 32, .int 99, .int 114, .int 101, .int 97, .int 116, .int 101, .int 32, .int (a &&& 255), .int ((ush a 8) &&& 255), .int 58, .int 32, .int (bq &&& 255), .int ((ush bq 8) &&& 255)])), (o4, .inl ("java/lang/String", [("java/lang/String", "value", "[B", .ref t6), ("java/lang/String", "coder", "B", .int 0)])), (t6, .inr (.byte, [.int ((bq &&& 255).toInt8.toInt32), .int (((ush bq 8) &&& 255).toInt8.toInt32)])), (o5, .inr (.char, [.int (bq &&& 255), .int ((ush bq 8) &&& 255)])), (o1, .inl ("java/lang/String", [("java/lang/String", "value", "[B", .ref t3), ("java/lang/String", "coder", "B", .int 0)])), (t3, .inr (.byte, [.int ((a &&& 255).toInt8.toInt32), .int (((ush a 8) &&& 255).toInt8.toInt32)])), (o2, .inr (.char, [.int (a &&& 255), .int ((ush a 8) &&& 255)]))]) rfl (eS (Or.inr ⟨rfl, List.mem_of_getElem? (i := 0) rfl⟩) eN) (G := ?_)
    rintro _ _ _ ⟨rfl, rfl, rfl⟩
    refine Go.norm (D2 := [(e, .inl ("startbeam/ComponentException", [("java/lang/Throwable", "detailMessage", "Ljava/lang/String;", .ref m), ("java/lang/Throwable", "cause", "Ljava/lang/Throwable;", .null), ("startbeam/ComponentException", "remedy", "Ljava/lang/String;", .null)])), (m, .inl ("java/lang/String", [("java/lang/String", "value", "[B", .ref v), ("java/lang/String", "coder", "B", .int 0)])), (v, .inr (.byte, [.int 67, .int 97, .int 110, .int 110, .int 111, .int 116, .int 32, .int 99, .int 114, .int 101, .int 97, .int 116, .int 101, .int 32, .int ((a &&& 255).toInt8.toInt32), .int (((ush a 8) &&& 255).toInt8.toInt32), .int 58, .int 32, .int ((bq &&& 255).toInt8.toInt32), .int (((ush bq 8) &&& 255).toInt8.toInt32)])), (o9, .inl ("java/lang/String", [("java/lang/String", "value", "[B", .ref t11), ("java/lang/String", "coder", "B", .int 0)])), (t11, .inr (.byte, [.int 67, .int 97, .int 110, .int 110, .int 111, .int 116, .int 32, .int 99, .int 114, .int 101, .int 97, .int 116, .int 101, .int 32, .int ((a &&& 255).toInt8.toInt32), .int (((ush a 8) &&& 255).toInt8.toInt32), .int 58, .int 32, .int ((bq &&& 255).toInt8.toInt32), .int (((ush bq 8) &&& 255).toInt8.toInt32)])), (o10, .inr (.char, [.int 67, .int 97, .int 110, .int 110, .int 111, .int 116, .int 32, .int 99, .int 114, .int 101, .int 97, .int 116, .int 101, .int 32, .int (a &&& 255), .int ((ush a 8) &&& 255), .int 58, .int 32, .int (bq &&& 255), .int ((ush bq 8) &&& 255)])), (o4, .inl ("java/lang/String", [("java/lang/String", "value", "[B", .ref t6), ("java/lang/String", "coder", "B", .int 0)])), (t6, .inr (.byte, [.int ((bq &&& 255).toInt8.toInt32), .int (((ush bq 8) &&& 255).toInt8.toInt32)])), (o5, .inr (.char, [.int (bq &&& 255), .int ((ush bq 8) &&& 255)])), (o1, .inl ("java/lang/String", [("java/lang/String", "value", "[B", .ref t3), ("java/lang/String", "coder", "B", .int 0)])), (t3, .inr (.byte, [.int ((a &&& 255).toInt8.toInt32), .int (((ush a 8) &&& 255).toInt8.toInt32)])), (o2, .inr (.char, [.int (a &&& 255), .int ((ush a 8) &&& 255)]))]) (S2 := []) (c2 := 24) (s2 := 3019) (st2 := [.ref m, .ref o9]) ?_
    refine Go.ne 3 1 rfl rfl (by decide) (fun hne => ?_)
    refine Go.invokevirtual true d42_287 (hw _ (List.mem_of_getElem? (i := 238) rfl)) (hw _ (List.mem_of_getElem? (i := 239) rfl)) (hw _ (List.mem_of_getElem? (i := 241) rfl)) (hw _ (List.mem_of_getElem? (i := 240) rfl)) (hw _ (List.mem_of_getElem? (i := 2) rfl)) (hw _ (List.mem_of_getElem? (i := 242) rfl)) (nfSel (hw _ (List.mem_of_getElem? (i := 241) rfl))) (inD (i := 3) rfl) (c_eqL hw o9 t11 m v ([67, 97, 110, 110, 111, 116, 32, 99, 114, 101, 97, 116, 101, 32, (a &&& 255), ((ush a 8) &&& 255), 58, 32, (bq &&& 255), ((ush bq 8) &&& 255)] : List Int32) ([67, 97, 110, 110, 111, 116, 32, 99, 114, 101, 97, 116, 101, 32, (a &&& 255), ((ush a 8) &&& 255), 58, 32, (bq &&& 255), ((ush bq 8) &&& 255)] : List Int32) 20 20 [] [] cpt hCS hcpt hne rfl rfl (by decide) (by decide) (show ∀ c ∈ ([67, 97, 110, 110, 111, 116, 32, 99, 114, 101, 97, 116, 101, 32, (a &&& 255), ((ush a 8) &&& 255), 58, 32, (bq &&& 255), ((ush bq 8) &&& 255)] : List Int32), 0 ≤ c.toInt ∧ c.toInt ≤ 255 from (eS (by decide) (eS (by decide) (eS (by decide) (eS (by decide) (eS (by decide) (eS (by decide) (eS (by decide) (eS (by decide) (eS (by decide) (eS (by decide) (eS (by decide) (eS (by decide) (eS (by decide) (eS (by decide) (eS (m255_int _) (eS (m255_int _) (eS (by decide) (eS (by decide) (eS (m255_int _) (eS (m255_int _) eN))))))))))))))))))))) (show ∀ c ∈ ([67, 97, 110, 110, 111, 116, 32, 99, 114, 101, 97, 116, 101, 32, (a &&& 255), ((ush a 8) &&& 255), 58, 32, (bq &&& 255), ((ush bq 8) &&& 255)] : List Int32), 0 ≤ c.toInt ∧ c.toInt ≤ 255 from (eS (by decide) (eS (by decide) (eS (by decide) (eS (by decide) (eS (by decide) (eS (by decide) (eS (by decide) (eS (by decide) (eS (by decide) (eS (by decide) (eS (by decide) (eS (by decide) (eS (by decide) (eS (by decide) (eS (m255_int _) (eS (m255_int _) (eS (by decide) (eS (by decide) (eS (m255_int _) (eS (m255_int _) eN)))))))))))))))))))))) pdg_31 rfl (argsL := [.ref m]) (rest := []) rfl rfl (Dr := [(e, .inl ("startbeam/ComponentException", [("java/lang/Throwable", "detailMessage", "Ljava/lang/String;", .ref m), ("java/lang/Throwable", "cause", "Ljava/lang/Throwable;", .null), ("startbeam/ComponentException", "remedy", "Ljava/lang/String;", .null)])), (m, .inl ("java/lang/String", [("java/lang/String", "value", "[B", .ref v), ("java/lang/String", "coder", "B", .int 0)])), (v, .inr (.byte, [.int 67, .int 97, .int 110, .int 110, .int 111, .int 116, .int 32, .int 99, .int 114, .int 101, .int 97, .int 116, .int 101, .int 32, .int ((a &&& 255).toInt8.toInt32), .int (((ush a 8) &&& 255).toInt8.toInt32), .int 58, .int 32, .int ((bq &&& 255).toInt8.toInt32), .int (((ush bq 8) &&& 255).toInt8.toInt32)])), (o9, .inl ("java/lang/String", [("java/lang/String", "value", "[B", .ref t11), ("java/lang/String", "coder", "B", .int 0)])), (t11, .inr (.byte, [.int 67, .int 97, .int 110, .int 110, .int 111, .int 116, .int 32, .int 99, .int 114, .int 101, .int 97, .int 116, .int 101, .int 32, .int ((a &&& 255).toInt8.toInt32), .int (((ush a 8) &&& 255).toInt8.toInt32), .int 58, .int 32, .int ((bq &&& 255).toInt8.toInt32), .int (((ush bq 8) &&& 255).toInt8.toInt32)])), (o10, .inr (.char, [.int 67, .int 97, .int 110, .int 110, .int 111, .int 116, .int 32, .int 99, .int 114, .int 101, .int 97, .int 116, .int 101, .int 32, .int (a &&& 255), .int ((ush a 8) &&& 255), .int 58, .int 32, .int (bq &&& 255), .int ((ush bq 8) &&& 255)])), (o4, .inl ("java/lang/String", [("java/lang/String", "value", "[B", .ref t6), ("java/lang/String", "coder", "B", .int 0)])), (t6, .inr (.byte, [.int ((bq &&& 255).toInt8.toInt32), .int (((ush bq 8) &&& 255).toInt8.toInt32)])), (o5, .inr (.char, [.int (bq &&& 255), .int ((ush bq 8) &&& 255)])), (o1, .inl ("java/lang/String", [("java/lang/String", "value", "[B", .ref t3), ("java/lang/String", "coder", "B", .int 0)])), (t3, .inr (.byte, [.int ((a &&& 255).toInt8.toInt32), .int (((ush a 8) &&& 255).toInt8.toInt32)])), (o2, .inr (.char, [.int (a &&& 255), .int ((ush a 8) &&& 255)]))]) rfl (eS (Or.inr ⟨rfl, List.mem_of_getElem? (i := 3) rfl⟩) (eS (Or.inr ⟨rfl, List.mem_of_getElem? (i := 4) rfl⟩) (eS (Or.inr ⟨rfl, List.mem_of_getElem? (i := 1) rfl⟩) (eS (Or.inr ⟨rfl, List.mem_of_getElem? (i := 2) rfl⟩) eN)))) (G := ?_)
    rintro _ _ _ ⟨r, hr, rfl, rfl, rfl⟩
    refine Go.norm (D2 := [(e, .inl ("startbeam/ComponentException", [("java/lang/Throwable", "detailMessage", "Ljava/lang/String;", .ref m), ("java/lang/Throwable", "cause", "Ljava/lang/Throwable;", .null), ("startbeam/ComponentException", "remedy", "Ljava/lang/String;", .null)])), (m, .inl ("java/lang/String", [("java/lang/String", "value", "[B", .ref v), ("java/lang/String", "coder", "B", .int 0)])), (v, .inr (.byte, [.int 67, .int 97, .int 110, .int 110, .int 111, .int 116, .int 32, .int 99, .int 114, .int 101, .int 97, .int 116, .int 101, .int 32, .int ((a &&& 255).toInt8.toInt32), .int (((ush a 8) &&& 255).toInt8.toInt32), .int 58, .int 32, .int ((bq &&& 255).toInt8.toInt32), .int (((ush bq 8) &&& 255).toInt8.toInt32)])), (o9, .inl ("java/lang/String", [("java/lang/String", "value", "[B", .ref t11), ("java/lang/String", "coder", "B", .int 0)])), (t11, .inr (.byte, [.int 67, .int 97, .int 110, .int 110, .int 111, .int 116, .int 32, .int 99, .int 114, .int 101, .int 97, .int 116, .int 101, .int 32, .int ((a &&& 255).toInt8.toInt32), .int (((ush a 8) &&& 255).toInt8.toInt32), .int 58, .int 32, .int ((bq &&& 255).toInt8.toInt32), .int (((ush bq 8) &&& 255).toInt8.toInt32)])), (o10, .inr (.char, [.int 67, .int 97, .int 110, .int 110, .int 111, .int 116, .int 32, .int 99, .int 114, .int 101, .int 97, .int 116, .int 101, .int 32, .int (a &&& 255), .int ((ush a 8) &&& 255), .int 58, .int 32, .int (bq &&& 255), .int ((ush bq 8) &&& 255)])), (o4, .inl ("java/lang/String", [("java/lang/String", "value", "[B", .ref t6), ("java/lang/String", "coder", "B", .int 0)])), (t6, .inr (.byte, [.int ((bq &&& 255).toInt8.toInt32), .int (((ush bq 8) &&& 255).toInt8.toInt32)])), (o5, .inr (.char, [.int (bq &&& 255), .int ((ush bq 8) &&& 255)])), (o1, .inl ("java/lang/String", [("java/lang/String", "value", "[B", .ref t3), ("java/lang/String", "coder", "B", .int 0)])), (t3, .inr (.byte, [.int ((a &&& 255).toInt8.toInt32), .int (((ush a 8) &&& 255).toInt8.toInt32)])), (o2, .inr (.char, [.int (a &&& 255), .int ((ush a 8) &&& 255)]))]) (S2 := []) (c2 := 24) (s2 := 3019) (st2 := [.int r]) ?_
    refine Go.ifc d42_290 (pc2 := 295) (Gy := fun _ => ?_) (Gn := fun h => absurd (show ¬ r = 0 from (fun e0 => bF hr e0 rfl)) h)
    refine Go.aload d42_295 rfl (G := ?_)
    refine Go.getCause (cz := .null) rfl d42_297 (hw _ (List.mem_of_getElem? (i := 248) rfl)) (hw _ (List.mem_of_getElem? (i := 249) rfl)) (hw _ (List.mem_of_getElem? (i := 250) rfl)) (hw _ (List.mem_of_getElem? (i := 252) rfl)) (hw _ (List.mem_of_getElem? (i := 251) rfl)) (hw _ (List.mem_of_getElem? (i := 253) rfl)) (hw _ (List.mem_of_getElem? (i := 191) rfl)) (hw _ (List.mem_of_getElem? (i := 194) rfl)) (inD (i := 0) rfl) (List.mem_of_getElem? (i := 1) rfl) rfl (G := ?_)
    rw [gcv_null]
    refine Go.ifnullY d42_300 (pc2 := 305) (G := ?_)
    refine Go.aload d42_305 rfl (G := ?_)
    refine Go.invokevirtual true d42_307 (hw _ (List.mem_of_getElem? (i := 254) rfl)) (hw _ (List.mem_of_getElem? (i := 255) rfl)) (hw _ (List.mem_of_getElem? (i := 257) rfl)) (hw _ (List.mem_of_getElem? (i := 256) rfl)) (hw _ (List.mem_of_getElem? (i := 32) rfl)) (hw _ (List.mem_of_getElem? (i := 258) rfl)) (nfSel (hw _ (List.mem_of_getElem? (i := 257) rfl))) (inD (i := 0) rfl) (c_rmN hw e m) pdg_24 rfl (argsL := []) (rest := []) rfl rfl (Dr := [(e, .inl ("startbeam/ComponentException", [("java/lang/Throwable", "detailMessage", "Ljava/lang/String;", .ref m), ("java/lang/Throwable", "cause", "Ljava/lang/Throwable;", .null), ("startbeam/ComponentException", "remedy", "Ljava/lang/String;", .null)])), (m, .inl ("java/lang/String", [("java/lang/String", "value", "[B", .ref v), ("java/lang/String", "coder", "B", .int 0)])), (v, .inr (.byte, [.int 67, .int 97, .int 110, .int 110, .int 111, .int 116, .int 32, .int 99, .int 114, .int 101, .int 97, .int 116, .int 101, .int 32, .int ((a &&& 255).toInt8.toInt32), .int (((ush a 8) &&& 255).toInt8.toInt32), .int 58, .int 32, .int ((bq &&& 255).toInt8.toInt32), .int (((ush bq 8) &&& 255).toInt8.toInt32)])), (o9, .inl ("java/lang/String", [("java/lang/String", "value", "[B", .ref t11), ("java/lang/String", "coder", "B", .int 0)])), (t11, .inr (.byte, [.int 67, .int 97, .int 110, .int 110, .int 111, .int 116, .int 32, .int 99, .int 114, .int 101, .int 97, .int 116, .int 101, .int 32, .int ((a &&& 255).toInt8.toInt32), .int (((ush a 8) &&& 255).toInt8.toInt32), .int 58, .int 32, .int ((bq &&& 255).toInt8.toInt32), .int (((ush bq 8) &&& 255).toInt8.toInt32)])), (o10, .inr (.char, [.int 67, .int 97, .int 110, .int 110, .int 111, .int 116, .int 32, .int 99, .int 114, .int 101, .int 97, .int 116, .int 101, .int 32, .int (a &&& 255), .int ((ush a 8) &&& 255), .int 58, .int 32, .int (bq &&& 255), .int ((ush bq 8) &&& 255)])), (o4, .inl ("java/lang/String", [("java/lang/String", "value", "[B", .ref t6), ("java/lang/String", "coder", "B", .int 0)])), (t6, .inr (.byte, [.int ((bq &&& 255).toInt8.toInt32), .int (((ush bq 8) &&& 255).toInt8.toInt32)])), (o5, .inr (.char, [.int (bq &&& 255), .int ((ush bq 8) &&& 255)])), (o1, .inl ("java/lang/String", [("java/lang/String", "value", "[B", .ref t3), ("java/lang/String", "coder", "B", .int 0)])), (t3, .inr (.byte, [.int ((a &&& 255).toInt8.toInt32), .int (((ush a 8) &&& 255).toInt8.toInt32)])), (o2, .inr (.char, [.int (a &&& 255), .int ((ush a 8) &&& 255)]))]) rfl (eS (Or.inr ⟨rfl, List.mem_of_getElem? (i := 0) rfl⟩) eN) (G := ?_)
    rintro _ _ _ ⟨rfl, rfl, rfl⟩
    refine Go.norm (D2 := [(e, .inl ("startbeam/ComponentException", [("java/lang/Throwable", "detailMessage", "Ljava/lang/String;", .ref m), ("java/lang/Throwable", "cause", "Ljava/lang/Throwable;", .null), ("startbeam/ComponentException", "remedy", "Ljava/lang/String;", .null)])), (m, .inl ("java/lang/String", [("java/lang/String", "value", "[B", .ref v), ("java/lang/String", "coder", "B", .int 0)])), (v, .inr (.byte, [.int 67, .int 97, .int 110, .int 110, .int 111, .int 116, .int 32, .int 99, .int 114, .int 101, .int 97, .int 116, .int 101, .int 32, .int ((a &&& 255).toInt8.toInt32), .int (((ush a 8) &&& 255).toInt8.toInt32), .int 58, .int 32, .int ((bq &&& 255).toInt8.toInt32), .int (((ush bq 8) &&& 255).toInt8.toInt32)])), (o9, .inl ("java/lang/String", [("java/lang/String", "value", "[B", .ref t11), ("java/lang/String", "coder", "B", .int 0)])), (t11, .inr (.byte, [.int 67, .int 97, .int 110, .int 110, .int 111, .int 116, .int 32, .int 99, .int 114, .int 101, .int 97, .int 116, .int 101, .int 32, .int ((a &&& 255).toInt8.toInt32), .int (((ush a 8) &&& 255).toInt8.toInt32), .int 58, .int 32, .int ((bq &&& 255).toInt8.toInt32), .int (((ush bq 8) &&& 255).toInt8.toInt32)])), (o10, .inr (.char, [.int 67, .int 97, .int 110, .int 110, .int 111, .int 116, .int 32, .int 99, .int 114, .int 101, .int 97, .int 116, .int 101, .int 32, .int (a &&& 255), .int ((ush a 8) &&& 255), .int 58, .int 32, .int (bq &&& 255), .int ((ush bq 8) &&& 255)])), (o4, .inl ("java/lang/String", [("java/lang/String", "value", "[B", .ref t6), ("java/lang/String", "coder", "B", .int 0)])), (t6, .inr (.byte, [.int ((bq &&& 255).toInt8.toInt32), .int (((ush bq 8) &&& 255).toInt8.toInt32)])), (o5, .inr (.char, [.int (bq &&& 255), .int ((ush bq 8) &&& 255)])), (o1, .inl ("java/lang/String", [("java/lang/String", "value", "[B", .ref t3), ("java/lang/String", "coder", "B", .int 0)])), (t3, .inr (.byte, [.int ((a &&& 255).toInt8.toInt32), .int (((ush a 8) &&& 255).toInt8.toInt32)])), (o2, .inr (.char, [.int (a &&& 255), .int ((ush a 8) &&& 255)]))]) (S2 := []) (c2 := 24) (s2 := 3019) (st2 := [.null]) ?_
    refine Go.astore d42_310 (Ls' := #[.val (.int a), .val (.int bq), .val (.int c), .val (.int (a &&& 255)), .val (.int ((ush a 8) &&& 255)), .val (.int (bq &&& 255)), .val (.int ((ush bq 8) &&& 255)), .val (.ref o1), .val (.ref o4), .val (.int 0), .val .null, .val (.ref o9), .val (.ref e), .val .null]) rfl (G := ?_)
    refine Go.aload d42_312 rfl (G := ?_)
    refine Go.ifnonnullN d42_314 (G := ?_)
    refine Go.aload d42_317 rfl (G := ?_)
    refine Go.ifnonnullN d42_319 (G := ?_)
    refine Go.iconst d42_322 (v := 1) rfl (G := ?_)
    refine Go.goto d42_323 (pc2 := 327) (G := ?_)
    refine Go.sub [] (by decide) rfl (D' := []) rfl (S' := []) eN (G := ?_)
    exact Go.retB d42_327 (by simp) (z' := 1) rfl ⟨rfl, rfl, rfl⟩
  · have h7 : ¬ (c &&& 1) = 0 := h7
    refine Go.iconst d42_86 (v := 1) rfl (G := ?_)
    refine Go.goto d42_87 (pc2 := 91) (G := ?_)
    refine Go.istore d42_91 (Ls' := #[.val (.int a), .val (.int bq), .val (.int c), .val (.int (a &&& 255)), .val (.int ((ush a 8) &&& 255)), .val (.int (bq &&& 255)), .val (.int ((ush bq 8) &&& 255)), .val (.ref o1), .val (.ref o4), .val (.int 1), .unset, .unset, .unset, .unset]) rfl (G := ?_)
    refine Go.aconstNull d42_93 (G := ?_)
    refine Go.astore d42_94 (Ls' := #[.val (.int a), .val (.int bq), .val (.int c), .val (.int (a &&& 255)), .val (.int ((ush a 8) &&& 255)), .val (.int (bq &&& 255)), .val (.int ((ush bq 8) &&& 255)), .val (.ref o1), .val (.ref o4), .val (.int 1), .val .null, .unset, .unset, .unset]) rfl (G := ?_)
    refine Go.iload d42_96 rfl (G := ?_)
    refine Go.ifc d42_98 (pc2 := 136) (Gy := fun h => absurd h (show ¬ ((1 : Int32) = 0) by decide)) (Gn := fun _ => ?_)
    refine Go.new d42_101 (hw _ (List.mem_of_getElem? (i := 0) rfl)) (hw _ (List.mem_of_getElem? (i := 1) rfl)) (hw _ (List.mem_of_getElem? (i := 2) rfl)) (NewF.cons (Or.inr (hw _ (List.mem_of_getElem? (i := 29) rfl))) (ty := .array .byte) (by decide +kernel) rfl (by simp) (NewF.cons (Or.inr (hw _ (List.mem_of_getElem? (i := 27) rfl))) (ty := .byte) (by decide +kernel) rfl (by simp) NewF.nil)) (G := fun o18 => ?_)
    refine Go.dup d42_104 (G := ?_)
    refine Go.iconst d42_105 (v := 2) rfl (G := ?_)
    refine Go.newarray d42_106 (hw _ (List.mem_of_getElem? (i := 3) rfl)) (k := 2) rfl (by decide) (by decide) (vs := [.int 0, .int 0]) rfl (G := fun o19 => ?_)
    refine Go.dup d42_108 (G := ?_)
    refine Go.iconst d42_109 (v := 0) rfl (G := ?_)
    refine Go.iloadN d42_110 rfl (G := ?_)
    refine Go.iconst d42_111 (v := 1) rfl (G := ?_)
    refine Go.iushr d42_112 (z := (ush c 1)) rfl (G := ?_)
    refine Go.sipush d42_113 (v := 255) rfl (G := ?_)
    refine Go.iand d42_116 (z := ((ush c 1) &&& 255)) rfl (G := ?_)
    refine Go.i2c d42_117 (z := ((ush c 1) &&& 255)) (i2c_mask _) (G := ?_)
    refine Go.castore d42_118 0 rfl (x' := ((ush c 1) &&& 255)) (m255_c _) (Nat.le_of_ble_eq_true rfl) (D' := [(o19, .inr (.char, [.int ((ush c 1) &&& 255), .int 0])), (o18, .inl ("java/lang/String", [("java/lang/String", "value", "[B", .null), ("java/lang/String", "coder", "B", .int 0)])), (o4, .inl ("java/lang/String", [("java/lang/String", "value", "[B", .ref t6), ("java/lang/String", "coder", "B", .int 0)])), (t6, .inr (.byte, [.int ((bq &&& 255).toInt8.toInt32), .int (((ush bq 8) &&& 255).toInt8.toInt32)])), (o5, .inr (.char, [.int (bq &&& 255), .int ((ush bq 8) &&& 255)])), (o1, .inl ("java/lang/String", [("java/lang/String", "value", "[B", .ref t3), ("java/lang/String", "coder", "B", .int 0)])), (t3, .inr (.byte, [.int ((a &&& 255).toInt8.toInt32), .int (((ush a 8) &&& 255).toInt8.toInt32)])), (o2, .inr (.char, [.int (a &&& 255), .int ((ush a 8) &&& 255)]))]) rfl (G := ?_)
    refine Go.dup d42_119 (G := ?_)
    refine Go.iconst d42_120 (v := 1) rfl (G := ?_)
    refine Go.iloadN d42_121 rfl (G := ?_)
    refine Go.bipush d42_122 (v := 9) rfl (G := ?_)
    refine Go.iushr d42_124 (z := (ush c 9)) rfl (G := ?_)
    refine Go.sipush d42_125 (v := 255) rfl (G := ?_)
    refine Go.iand d42_128 (z := ((ush c 9) &&& 255)) rfl (G := ?_)
    refine Go.i2c d42_129 (z := ((ush c 9) &&& 255)) (i2c_mask _) (G := ?_)
    refine Go.castore d42_130 0 rfl (x' := ((ush c 9) &&& 255)) (m255_c _) (Nat.le_of_ble_eq_true rfl) (D' := [(o19, .inr (.char, [.int ((ush c 1) &&& 255), .int ((ush c 9) &&& 255)])), (o18, .inl ("java/lang/String", [("java/lang/String", "value", "[B", .null), ("java/lang/String", "coder", "B", .int 0)])), (o4, .inl ("java/lang/String", [("java/lang/String", "value", "[B", .ref t6), ("java/lang/String", "coder", "B", .int 0)])), (t6, .inr (.byte, [.int ((bq &&& 255).toInt8.toInt32), .int (((ush bq 8) &&& 255).toInt8.toInt32)])), (o5, .inr (.char, [.int (bq &&& 255), .int ((ush bq 8) &&& 255)])), (o1, .inl ("java/lang/String", [("java/lang/String", "value", "[B", .ref t3), ("java/lang/String", "coder", "B", .int 0)])), (t3, .inr (.byte, [.int ((a &&& 255).toInt8.toInt32), .int (((ush a 8) &&& 255).toInt8.toInt32)])), (o2, .inr (.char, [.int (a &&& 255), .int ((ush a 8) &&& 255)]))]) rfl (G := ?_)
    refine Go.perm [1, 0, 2, 3, 4, 5, 6, 7] (by decide) rfl (D' := [(o18, .inl ("java/lang/String", [("java/lang/String", "value", "[B", .null), ("java/lang/String", "coder", "B", .int 0)])), (o19, .inr (.char, [.int ((ush c 1) &&& 255), .int ((ush c 9) &&& 255)])), (o4, .inl ("java/lang/String", [("java/lang/String", "value", "[B", .ref t6), ("java/lang/String", "coder", "B", .int 0)])), (t6, .inr (.byte, [.int ((bq &&& 255).toInt8.toInt32), .int (((ush bq 8) &&& 255).toInt8.toInt32)])), (o5, .inr (.char, [.int (bq &&& 255), .int ((ush bq 8) &&& 255)])), (o1, .inl ("java/lang/String", [("java/lang/String", "value", "[B", .ref t3), ("java/lang/String", "coder", "B", .int 0)])), (t3, .inr (.byte, [.int ((a &&& 255).toInt8.toInt32), .int (((ush a 8) &&& 255).toInt8.toInt32)])), (o2, .inr (.char, [.int (a &&& 255), .int ((ush a 8) &&& 255)]))]) rfl (G := ?_)
    refine Go.invokeinit true d42_131 rfl (hw _ (List.mem_of_getElem? (i := 4) rfl)) (hw _ (List.mem_of_getElem? (i := 5) rfl)) (hw _ (List.mem_of_getElem? (i := 2) rfl)) (hw _ (List.mem_of_getElem? (i := 6) rfl)) (c_init hw o18 o19 ([((ush c 1) &&& 255), ((ush c 9) &&& 255)] : List Int32) 2 [] cpt hCS hcpt rfl (by decide) (by decide) (eS (m255_le _) (eS (m255_le _) eN))) pdg_29 rfl (argsL := [.ref o19]) (rest := [.ref o18]) rfl rfl (Dr := [(o19, .inr (.char, [.int ((ush c 1) &&& 255), .int ((ush c 9) &&& 255)])), (o4, .inl ("java/lang/String", [("java/lang/String", "value", "[B", .ref t6), ("java/lang/String", "coder", "B", .int 0)])), (t6, .inr (.byte, [.int ((bq &&& 255).toInt8.toInt32), .int (((ush bq 8) &&& 255).toInt8.toInt32)])), (o5, .inr (.char, [.int (bq &&& 255), .int ((ush bq 8) &&& 255)])), (o1, .inl ("java/lang/String", [("java/lang/String", "value", "[B", .ref t3), ("java/lang/String", "coder", "B", .int 0)])), (t3, .inr (.byte, [.int ((a &&& 255).toInt8.toInt32), .int (((ush a 8) &&& 255).toInt8.toInt32)])), (o2, .inr (.char, [.int (a &&& 255), .int ((ush a 8) &&& 255)]))]) rfl (eS (Or.inr ⟨rfl, List.mem_of_getElem? (i := 0) rfl⟩) eN) (G := ?_)
    rintro _ _ _ ⟨t20, rfl, rfl, rfl⟩
    refine Go.norm (D2 := [(o18, .inl ("java/lang/String", [("java/lang/String", "value", "[B", .ref t20), ("java/lang/String", "coder", "B", .int 0)])), (t20, .inr (.byte, [.int (((ush c 1) &&& 255).toInt8.toInt32), .int (((ush c 9) &&& 255).toInt8.toInt32)])), (o19, .inr (.char, [.int ((ush c 1) &&& 255), .int ((ush c 9) &&& 255)])), (o4, .inl ("java/lang/String", [("java/lang/String", "value", "[B", .ref t6), ("java/lang/String", "coder", "B", .int 0)])), (t6, .inr (.byte, [.int ((bq &&& 255).toInt8.toInt32), .int (((ush bq 8) &&& 255).toInt8.toInt32)])), (o5, .inr (.char, [.int (bq &&& 255), .int ((ush bq 8) &&& 255)])), (o1, .inl ("java/lang/String", [("java/lang/String", "value", "[B", .ref t3), ("java/lang/String", "coder", "B", .int 0)])), (t3, .inr (.byte, [.int ((a &&& 255).toInt8.toInt32), .int (((ush a 8) &&& 255).toInt8.toInt32)])), (o2, .inr (.char, [.int (a &&& 255), .int ((ush a 8) &&& 255)]))]) (S2 := []) (c2 := 9) (s2 := 24) (st2 := [.ref o18]) ?_
    refine Go.astore d42_134 (Ls' := #[.val (.int a), .val (.int bq), .val (.int c), .val (.int (a &&& 255)), .val (.int ((ush a 8) &&& 255)), .val (.int (bq &&& 255)), .val (.int ((ush bq 8) &&& 255)), .val (.ref o1), .val (.ref o4), .val (.int 1), .val (.ref o18), .unset, .unset, .unset]) rfl (G := ?_)
    refine Go.new d42_136 (hw _ (List.mem_of_getElem? (i := 0) rfl)) (hw _ (List.mem_of_getElem? (i := 1) rfl)) (hw _ (List.mem_of_getElem? (i := 2) rfl)) (NewF.cons (Or.inr (hw _ (List.mem_of_getElem? (i := 29) rfl))) (ty := .array .byte) (by decide +kernel) rfl (by simp) (NewF.cons (Or.inr (hw _ (List.mem_of_getElem? (i := 27) rfl))) (ty := .byte) (by decide +kernel) rfl (by simp) NewF.nil)) (G := fun o21 => ?_)
    refine Go.dup d42_139 (G := ?_)
    refine Go.bipush d42_140 (v := 20) rfl (G := ?_)
    refine Go.newarray d42_142 (hw _ (List.mem_of_getElem? (i := 3) rfl)) (k := 20) rfl (by decide) (by decide) (vs := [.int 0, .int 0, .int 0, .int 0, .int 0, .int 0, .int 0, .int 0, .int 0, .int 0, .int 0, .int 0, .int 0, .int 0, .int 0, .int 0, .int 0, .int 0, .int 0, .int 0]) rfl (G := fun o22 => ?_)
    refine Go.dup d42_144 (G := ?_)
    refine Go.iconst d42_145 (v := 0) rfl (G := ?_)
    refine Go.bipush d42_146 (v := 67) rfl (G := ?_)
    refine Go.castore d42_148 0 rfl (x' := 67) rfl (Nat.le_of_ble_eq_true rfl) (D' := [(o22, .inr (.char, [.int 67, .int 0, .int 0, .int 0, .int 0, .int 0, .int 0, .int 0, .int 0, .int 0, .int 0, .int 0, .int 0, .int 0, .int 0, .int 0, .int 0, .int 0, .int 0, .int 0])), (o21, .inl ("java/lang/String", [("java/lang/String", "value", "[B", .null), ("java/lang/String", "coder", "B", .int 0)])), (o18, .inl ("java/lang/String", [("java/lang/String", "value", "[B", .ref t20), ("java/lang/String", "coder", "B", .int 0)])), (t20, .inr (.byte, [.int (((ush c 1) &&& 255).toInt8.toInt32), .int (((ush c 9) &&& 255).toInt8.toInt32)])), (o19, .inr (.char, [.int ((ush c 1) &&& 255), .int ((ush c 9) &&& 255)])), (o4, .inl ("java/lang/String", [("java/lang/String", "value", "[B", .ref t6), ("java/lang/String", "coder", "B", .int 0)])), (t6, .inr (.byte, [.int ((bq &&& 255).toInt8.toInt32), .int (((ush bq 8) &&& 255).toInt8.toInt32)])), (o5, .inr (.char, [.int (bq &&& 255), .int ((ush bq 8) &&& 255)])), (o1, .inl ("java/lang/String", [("java/lang/String", "value", "[B", .ref t3), ("java/lang/String", "coder", "B", .int 0)])), (t3, .inr (.byte, [.int ((a &&& 255).toInt8.toInt32), .int (((ush a 8) &&& 255).toInt8.toInt32)])), (o2, .inr (.char, [.int (a &&& 255), .int ((ush a 8) &&& 255)]))]) rfl (G := ?_)
    refine Go.dup d42_149 (G := ?_)
    refine Go.iconst d42_150 (v := 1) rfl (G := ?_)
    refine Go.bipush d42_151 (v := 97) rfl (G := ?_)
    refine Go.castore d42_153 0 rfl (x' := 97) rfl (Nat.le_of_ble_eq_true rfl) (D' := [(o22, .inr (.char, [.int 67, .int 97, .int 0, .int 0, .int 0, .int 0, .int 0, .int 0, .int 0, .int 0, .int 0, .int 0, .int 0, .int 0, .int 0, .int 0, .int 0, .int 0, .int 0, .int 0])), (o21, .inl ("java/lang/String", [("java/lang/String", "value", "[B", .null), ("java/lang/String", "coder", "B", .int 0)])), (o18, .inl ("java/lang/String", [("java/lang/String", "value", "[B", .ref t20), ("java/lang/String", "coder", "B", .int 0)])), (t20, .inr (.byte, [.int (((ush c 1) &&& 255).toInt8.toInt32), .int (((ush c 9) &&& 255).toInt8.toInt32)])), (o19, .inr (.char, [.int ((ush c 1) &&& 255), .int ((ush c 9) &&& 255)])), (o4, .inl ("java/lang/String", [("java/lang/String", "value", "[B", .ref t6), ("java/lang/String", "coder", "B", .int 0)])), (t6, .inr (.byte, [.int ((bq &&& 255).toInt8.toInt32), .int (((ush bq 8) &&& 255).toInt8.toInt32)])), (o5, .inr (.char, [.int (bq &&& 255), .int ((ush bq 8) &&& 255)])), (o1, .inl ("java/lang/String", [("java/lang/String", "value", "[B", .ref t3), ("java/lang/String", "coder", "B", .int 0)])), (t3, .inr (.byte, [.int ((a &&& 255).toInt8.toInt32), .int (((ush a 8) &&& 255).toInt8.toInt32)])), (o2, .inr (.char, [.int (a &&& 255), .int ((ush a 8) &&& 255)]))]) rfl (G := ?_)
    refine Go.dup d42_154 (G := ?_)
    refine Go.iconst d42_155 (v := 2) rfl (G := ?_)
    refine Go.bipush d42_156 (v := 110) rfl (G := ?_)
    refine Go.castore d42_158 0 rfl (x' := 110) rfl (Nat.le_of_ble_eq_true rfl) (D' := [(o22, .inr (.char, [.int 67, .int 97, .int 110, .int 0, .int 0, .int 0, .int 0, .int 0, .int 0, .int 0, .int 0, .int 0, .int 0, .int 0, .int 0, .int 0, .int 0, .int 0, .int 0, .int 0])), (o21, .inl ("java/lang/String", [("java/lang/String", "value", "[B", .null), ("java/lang/String", "coder", "B", .int 0)])), (o18, .inl ("java/lang/String", [("java/lang/String", "value", "[B", .ref t20), ("java/lang/String", "coder", "B", .int 0)])), (t20, .inr (.byte, [.int (((ush c 1) &&& 255).toInt8.toInt32), .int (((ush c 9) &&& 255).toInt8.toInt32)])), (o19, .inr (.char, [.int ((ush c 1) &&& 255), .int ((ush c 9) &&& 255)])), (o4, .inl ("java/lang/String", [("java/lang/String", "value", "[B", .ref t6), ("java/lang/String", "coder", "B", .int 0)])), (t6, .inr (.byte, [.int ((bq &&& 255).toInt8.toInt32), .int (((ush bq 8) &&& 255).toInt8.toInt32)])), (o5, .inr (.char, [.int (bq &&& 255), .int ((ush bq 8) &&& 255)])), (o1, .inl ("java/lang/String", [("java/lang/String", "value", "[B", .ref t3), ("java/lang/String", "coder", "B", .int 0)])), (t3, .inr (.byte, [.int ((a &&& 255).toInt8.toInt32), .int (((ush a 8) &&& 255).toInt8.toInt32)])), (o2, .inr (.char, [.int (a &&& 255), .int ((ush a 8) &&& 255)]))]) rfl (G := ?_)
    refine Go.dup d42_159 (G := ?_)
    refine Go.iconst d42_160 (v := 3) rfl (G := ?_)
    refine Go.bipush d42_161 (v := 110) rfl (G := ?_)
    refine Go.castore d42_163 0 rfl (x' := 110) rfl (Nat.le_of_ble_eq_true rfl) (D' := [(o22, .inr (.char, [.int 67, .int 97, .int 110, .int 110, .int 0, .int 0, .int 0, .int 0, .int 0, .int 0, .int 0, .int 0, .int 0, .int 0, .int 0, .int 0, .int 0, .int 0, .int 0, .int 0])), (o21, .inl ("java/lang/String", [("java/lang/String", "value", "[B", .null), ("java/lang/String", "coder", "B", .int 0)])), (o18, .inl ("java/lang/String", [("java/lang/String", "value", "[B", .ref t20), ("java/lang/String", "coder", "B", .int 0)])), (t20, .inr (.byte, [.int (((ush c 1) &&& 255).toInt8.toInt32), .int (((ush c 9) &&& 255).toInt8.toInt32)])), (o19, .inr (.char, [.int ((ush c 1) &&& 255), .int ((ush c 9) &&& 255)])), (o4, .inl ("java/lang/String", [("java/lang/String", "value", "[B", .ref t6), ("java/lang/String", "coder", "B", .int 0)])), (t6, .inr (.byte, [.int ((bq &&& 255).toInt8.toInt32), .int (((ush bq 8) &&& 255).toInt8.toInt32)])), (o5, .inr (.char, [.int (bq &&& 255), .int ((ush bq 8) &&& 255)])), (o1, .inl ("java/lang/String", [("java/lang/String", "value", "[B", .ref t3), ("java/lang/String", "coder", "B", .int 0)])), (t3, .inr (.byte, [.int ((a &&& 255).toInt8.toInt32), .int (((ush a 8) &&& 255).toInt8.toInt32)])), (o2, .inr (.char, [.int (a &&& 255), .int ((ush a 8) &&& 255)]))]) rfl (G := ?_)
    refine Go.dup d42_164 (G := ?_)
    refine Go.iconst d42_165 (v := 4) rfl (G := ?_)
    refine Go.bipush d42_166 (v := 111) rfl (G := ?_)
    refine Go.castore d42_168 0 rfl (x' := 111) rfl (Nat.le_of_ble_eq_true rfl) (D' := [(o22, .inr (.char, [.int 67, .int 97, .int 110, .int 110, .int 111, .int 0, .int 0, .int 0, .int 0, .int 0, .int 0, .int 0, .int 0, .int 0, .int 0, .int 0, .int 0, .int 0, .int 0, .int 0])), (o21, .inl ("java/lang/String", [("java/lang/String", "value", "[B", .null), ("java/lang/String", "coder", "B", .int 0)])), (o18, .inl ("java/lang/String", [("java/lang/String", "value", "[B", .ref t20), ("java/lang/String", "coder", "B", .int 0)])), (t20, .inr (.byte, [.int (((ush c 1) &&& 255).toInt8.toInt32), .int (((ush c 9) &&& 255).toInt8.toInt32)])), (o19, .inr (.char, [.int ((ush c 1) &&& 255), .int ((ush c 9) &&& 255)])), (o4, .inl ("java/lang/String", [("java/lang/String", "value", "[B", .ref t6), ("java/lang/String", "coder", "B", .int 0)])), (t6, .inr (.byte, [.int ((bq &&& 255).toInt8.toInt32), .int (((ush bq 8) &&& 255).toInt8.toInt32)])), (o5, .inr (.char, [.int (bq &&& 255), .int ((ush bq 8) &&& 255)])), (o1, .inl ("java/lang/String", [("java/lang/String", "value", "[B", .ref t3), ("java/lang/String", "coder", "B", .int 0)])), (t3, .inr (.byte, [.int ((a &&& 255).toInt8.toInt32), .int (((ush a 8) &&& 255).toInt8.toInt32)])), (o2, .inr (.char, [.int (a &&& 255), .int ((ush a 8) &&& 255)]))]) rfl (G := ?_)
    refine Go.dup d42_169 (G := ?_)
    refine Go.iconst d42_170 (v := 5) rfl (G := ?_)
    refine Go.bipush d42_171 (v := 116) rfl (G := ?_)
    refine Go.castore d42_173 0 rfl (x' := 116) rfl (Nat.le_of_ble_eq_true rfl) (D' := [(o22, .inr (.char, [.int 67, .int 97, .int 110, .int 110, .int 111, .int 116, .int 0, .int 0, .int 0, .int 0, .int 0, .int 0, .int 0, .int 0, .int 0, .int 0, .int 0, .int 0, .int 0, .int 0])), (o21, .inl ("java/lang/String", [("java/lang/String", "value", "[B", .null), ("java/lang/String", "coder", "B", .int 0)])), (o18, .inl ("java/lang/String", [("java/lang/String", "value", "[B", .ref t20), ("java/lang/String", "coder", "B", .int 0)])), (t20, .inr (.byte, [.int (((ush c 1) &&& 255).toInt8.toInt32), .int (((ush c 9) &&& 255).toInt8.toInt32)])), (o19, .inr (.char, [.int ((ush c 1) &&& 255), .int ((ush c 9) &&& 255)])), (o4, .inl ("java/lang/String", [("java/lang/String", "value", "[B", .ref t6), ("java/lang/String", "coder", "B", .int 0)])), (t6, .inr (.byte, [.int ((bq &&& 255).toInt8.toInt32), .int (((ush bq 8) &&& 255).toInt8.toInt32)])), (o5, .inr (.char, [.int (bq &&& 255), .int ((ush bq 8) &&& 255)])), (o1, .inl ("java/lang/String", [("java/lang/String", "value", "[B", .ref t3), ("java/lang/String", "coder", "B", .int 0)])), (t3, .inr (.byte, [.int ((a &&& 255).toInt8.toInt32), .int (((ush a 8) &&& 255).toInt8.toInt32)])), (o2, .inr (.char, [.int (a &&& 255), .int ((ush a 8) &&& 255)]))]) rfl (G := ?_)
    refine Go.dup d42_174 (G := ?_)
    refine Go.bipush d42_175 (v := 6) rfl (G := ?_)
    refine Go.bipush d42_177 (v := 32) rfl (G := ?_)
    refine Go.castore d42_179 0 rfl (x' := 32) rfl (Nat.le_of_ble_eq_true rfl) (D' := [(o22, .inr (.char, [.int 67, .int 97, .int 110, .int 110, .int 111, .int 116, .int 32, .int 0, .int 0, .int 0, .int 0, .int 0, .int 0, .int 0, .int 0, .int 0, .int 0, .int 0, .int 0, .int 0])), (o21, .inl ("java/lang/String", [("java/lang/String", "value", "[B", .null), ("java/lang/String", "coder", "B", .int 0)])), (o18, .inl ("java/lang/String", [("java/lang/String", "value", "[B", .ref t20), ("java/lang/String", "coder", "B", .int 0)])), (t20, .inr (.byte, [.int (((ush c 1) &&& 255).toInt8.toInt32), .int (((ush c 9) &&& 255).toInt8.toInt32)])), (o19, .inr (.char, [.int ((ush c 1) &&& 255), .int ((ush c 9) &&& 255)])), (o4, .inl ("java/lang/String", [("java/lang/String", "value", "[B", .ref t6), ("java/lang/String", "coder", "B", .int 0)])), (t6, .inr (.byte, [.int ((bq &&& 255).toInt8.toInt32), .int (((ush bq 8) &&& 255).toInt8.toInt32)])), (o5, .inr (.char, [.int (bq &&& 255), .int ((ush bq 8) &&& 255)])), (o1, .inl ("java/lang/String", [("java/lang/String", "value", "[B", .ref t3), ("java/lang/String", "coder", "B", .int 0)])), (t3, .inr (.byte, [.int ((a &&& 255).toInt8.toInt32), .int (((ush a 8) &&& 255).toInt8.toInt32)])), (o2, .inr (.char, [.int (a &&& 255), .int ((ush a 8) &&& 255)]))]) rfl (G := ?_)
    refine Go.dup d42_180 (G := ?_)
    refine Go.bipush d42_181 (v := 7) rfl (G := ?_)
    refine Go.bipush d42_183 (v := 99) rfl (G := ?_)
    refine Go.castore d42_185 0 rfl (x' := 99) rfl (Nat.le_of_ble_eq_true rfl) (D' := [(o22, .inr (.char, [.int 67, .int 97, .int 110, .int 110, .int 111, .int 116, .int 32, .int 99, .int 0, .int 0, .int 0, .int 0, .int 0, .int 0, .int 0, .int 0, .int 0, .int 0, .int 0, .int 0])), (o21, .inl ("java/lang/String", [("java/lang/String", "value", "[B", .null), ("java/lang/String", "coder", "B", .int 0)])), (o18, .inl ("java/lang/String", [("java/lang/String", "value", "[B", .ref t20), ("java/lang/String", "coder", "B", .int 0)])), (t20, .inr (.byte, [.int (((ush c 1) &&& 255).toInt8.toInt32), .int (((ush c 9) &&& 255).toInt8.toInt32)])), (o19, .inr (.char, [.int ((ush c 1) &&& 255), .int ((ush c 9) &&& 255)])), (o4, .inl ("java/lang/String", [("java/lang/String", "value", "[B", .ref t6), ("java/lang/String", "coder", "B", .int 0)])), (t6, .inr (.byte, [.int ((bq &&& 255).toInt8.toInt32), .int (((ush bq 8) &&& 255).toInt8.toInt32)])), (o5, .inr (.char, [.int (bq &&& 255), .int ((ush bq 8) &&& 255)])), (o1, .inl ("java/lang/String", [("java/lang/String", "value", "[B", .ref t3), ("java/lang/String", "coder", "B", .int 0)])), (t3, .inr (.byte, [.int ((a &&& 255).toInt8.toInt32), .int (((ush a 8) &&& 255).toInt8.toInt32)])), (o2, .inr (.char, [.int (a &&& 255), .int ((ush a 8) &&& 255)]))]) rfl (G := ?_)
    refine Go.dup d42_186 (G := ?_)
    refine Go.bipush d42_187 (v := 8) rfl (G := ?_)
    refine Go.bipush d42_189 (v := 114) rfl (G := ?_)
    refine Go.castore d42_191 0 rfl (x' := 114) rfl (Nat.le_of_ble_eq_true rfl) (D' := [(o22, .inr (.char, [.int 67, .int 97, .int 110, .int 110, .int 111, .int 116, .int 32, .int 99, .int 114, .int 0, .int 0, .int 0, .int 0, .int 0, .int 0, .int 0, .int 0, .int 0, .int 0, .int 0])), (o21, .inl ("java/lang/String", [("java/lang/String", "value", "[B", .null), ("java/lang/String", "coder", "B", .int 0)])), (o18, .inl ("java/lang/String", [("java/lang/String", "value", "[B", .ref t20), ("java/lang/String", "coder", "B", .int 0)])), (t20, .inr (.byte, [.int (((ush c 1) &&& 255).toInt8.toInt32), .int (((ush c 9) &&& 255).toInt8.toInt32)])), (o19, .inr (.char, [.int ((ush c 1) &&& 255), .int ((ush c 9) &&& 255)])), (o4, .inl ("java/lang/String", [("java/lang/String", "value", "[B", .ref t6), ("java/lang/String", "coder", "B", .int 0)])), (t6, .inr (.byte, [.int ((bq &&& 255).toInt8.toInt32), .int (((ush bq 8) &&& 255).toInt8.toInt32)])), (o5, .inr (.char, [.int (bq &&& 255), .int ((ush bq 8) &&& 255)])), (o1, .inl ("java/lang/String", [("java/lang/String", "value", "[B", .ref t3), ("java/lang/String", "coder", "B", .int 0)])), (t3, .inr (.byte, [.int ((a &&& 255).toInt8.toInt32), .int (((ush a 8) &&& 255).toInt8.toInt32)])), (o2, .inr (.char, [.int (a &&& 255), .int ((ush a 8) &&& 255)]))]) rfl (G := ?_)
    refine Go.dup d42_192 (G := ?_)
    refine Go.bipush d42_193 (v := 9) rfl (G := ?_)
    refine Go.bipush d42_195 (v := 101) rfl (G := ?_)
    refine Go.castore d42_197 0 rfl (x' := 101) rfl (Nat.le_of_ble_eq_true rfl) (D' := [(o22, .inr (.char, [.int 67, .int 97, .int 110, .int 110, .int 111, .int 116, .int 32, .int 99, .int 114, .int 101, .int 0, .int 0, .int 0, .int 0, .int 0, .int 0, .int 0, .int 0, .int 0, .int 0])), (o21, .inl ("java/lang/String", [("java/lang/String", "value", "[B", .null), ("java/lang/String", "coder", "B", .int 0)])), (o18, .inl ("java/lang/String", [("java/lang/String", "value", "[B", .ref t20), ("java/lang/String", "coder", "B", .int 0)])), (t20, .inr (.byte, [.int (((ush c 1) &&& 255).toInt8.toInt32), .int (((ush c 9) &&& 255).toInt8.toInt32)])), (o19, .inr (.char, [.int ((ush c 1) &&& 255), .int ((ush c 9) &&& 255)])), (o4, .inl ("java/lang/String", [("java/lang/String", "value", "[B", .ref t6), ("java/lang/String", "coder", "B", .int 0)])), (t6, .inr (.byte, [.int ((bq &&& 255).toInt8.toInt32), .int (((ush bq 8) &&& 255).toInt8.toInt32)])), (o5, .inr (.char, [.int (bq &&& 255), .int ((ush bq 8) &&& 255)])), (o1, .inl ("java/lang/String", [("java/lang/String", "value", "[B", .ref t3), ("java/lang/String", "coder", "B", .int 0)])), (t3, .inr (.byte, [.int ((a &&& 255).toInt8.toInt32), .int (((ush a 8) &&& 255).toInt8.toInt32)])), (o2, .inr (.char, [.int (a &&& 255), .int ((ush a 8) &&& 255)]))]) rfl (G := ?_)
    refine Go.dup d42_198 (G := ?_)
    refine Go.bipush d42_199 (v := 10) rfl (G := ?_)
    refine Go.bipush d42_201 (v := 97) rfl (G := ?_)
    refine Go.castore d42_203 0 rfl (x' := 97) rfl (Nat.le_of_ble_eq_true rfl) (D' := [(o22, .inr (.char, [.int 67, .int 97, .int 110, .int 110, .int 111, .int 116, .int 32, .int 99, .int 114, .int 101, .int 97, .int 0, .int 0, .int 0, .int 0, .int 0, .int 0, .int 0, .int 0, .int 0])), (o21, .inl ("java/lang/String", [("java/lang/String", "value", "[B", .null), ("java/lang/String", "coder", "B", .int 0)])), (o18, .inl ("java/lang/String", [("java/lang/String", "value", "[B", .ref t20), ("java/lang/String", "coder", "B", .int 0)])), (t20, .inr (.byte, [.int (((ush c 1) &&& 255).toInt8.toInt32), .int (((ush c 9) &&& 255).toInt8.toInt32)])), (o19, .inr (.char, [.int ((ush c 1) &&& 255), .int ((ush c 9) &&& 255)])), (o4, .inl ("java/lang/String", [("java/lang/String", "value", "[B", .ref t6), ("java/lang/String", "coder", "B", .int 0)])), (t6, .inr (.byte, [.int ((bq &&& 255).toInt8.toInt32), .int (((ush bq 8) &&& 255).toInt8.toInt32)])), (o5, .inr (.char, [.int (bq &&& 255), .int ((ush bq 8) &&& 255)])), (o1, .inl ("java/lang/String", [("java/lang/String", "value", "[B", .ref t3), ("java/lang/String", "coder", "B", .int 0)])), (t3, .inr (.byte, [.int ((a &&& 255).toInt8.toInt32), .int (((ush a 8) &&& 255).toInt8.toInt32)])), (o2, .inr (.char, [.int (a &&& 255), .int ((ush a 8) &&& 255)]))]) rfl (G := ?_)
    refine Go.dup d42_204 (G := ?_)
    refine Go.bipush d42_205 (v := 11) rfl (G := ?_)
    refine Go.bipush d42_207 (v := 116) rfl (G := ?_)
    refine Go.castore d42_209 0 rfl (x' := 116) rfl (Nat.le_of_ble_eq_true rfl) (D' := [(o22, .inr (.char, [.int 67, .int 97, .int 110, .int 110, .int 111, .int 116, .int 32, .int 99, .int 114, .int 101, .int 97, .int 116, .int 0, .int 0, .int 0, .int 0, .int 0, .int 0, .int 0, .int 0])), (o21, .inl ("java/lang/String", [("java/lang/String", "value", "[B", .null), ("java/lang/String", "coder", "B", .int 0)])), (o18, .inl ("java/lang/String", [("java/lang/String", "value", "[B", .ref t20), ("java/lang/String", "coder", "B", .int 0)])), (t20, .inr (.byte, [.int (((ush c 1) &&& 255).toInt8.toInt32), .int (((ush c 9) &&& 255).toInt8.toInt32)])), (o19, .inr (.char, [.int ((ush c 1) &&& 255), .int ((ush c 9) &&& 255)])), (o4, .inl ("java/lang/String", [("java/lang/String", "value", "[B", .ref t6), ("java/lang/String", "coder", "B", .int 0)])), (t6, .inr (.byte, [.int ((bq &&& 255).toInt8.toInt32), .int (((ush bq 8) &&& 255).toInt8.toInt32)])), (o5, .inr (.char, [.int (bq &&& 255), .int ((ush bq 8) &&& 255)])), (o1, .inl ("java/lang/String", [("java/lang/String", "value", "[B", .ref t3), ("java/lang/String", "coder", "B", .int 0)])), (t3, .inr (.byte, [.int ((a &&& 255).toInt8.toInt32), .int (((ush a 8) &&& 255).toInt8.toInt32)])), (o2, .inr (.char, [.int (a &&& 255), .int ((ush a 8) &&& 255)]))]) rfl (G := ?_)
    refine Go.dup d42_210 (G := ?_)
    refine Go.bipush d42_211 (v := 12) rfl (G := ?_)
    refine Go.bipush d42_213 (v := 101) rfl (G := ?_)
    refine Go.castore d42_215 0 rfl (x' := 101) rfl (Nat.le_of_ble_eq_true rfl) (D' := [(o22, .inr (.char, [.int 67, .int 97, .int 110, .int 110, .int 111, .int 116, .int 32, .int 99, .int 114, .int 101, .int 97, .int 116, .int 101, .int 0, .int 0, .int 0, .int 0, .int 0, .int 0, .int 0])), (o21, .inl ("java/lang/String", [("java/lang/String", "value", "[B", .null), ("java/lang/String", "coder", "B", .int 0)])), (o18, .inl ("java/lang/String", [("java/lang/String", "value", "[B", .ref t20), ("java/lang/String", "coder", "B", .int 0)])), (t20, .inr (.byte, [.int (((ush c 1) &&& 255).toInt8.toInt32), .int (((ush c 9) &&& 255).toInt8.toInt32)])), (o19, .inr (.char, [.int ((ush c 1) &&& 255), .int ((ush c 9) &&& 255)])), (o4, .inl ("java/lang/String", [("java/lang/String", "value", "[B", .ref t6), ("java/lang/String", "coder", "B", .int 0)])), (t6, .inr (.byte, [.int ((bq &&& 255).toInt8.toInt32), .int (((ush bq 8) &&& 255).toInt8.toInt32)])), (o5, .inr (.char, [.int (bq &&& 255), .int ((ush bq 8) &&& 255)])), (o1, .inl ("java/lang/String", [("java/lang/String", "value", "[B", .ref t3), ("java/lang/String", "coder", "B", .int 0)])), (t3, .inr (.byte, [.int ((a &&& 255).toInt8.toInt32), .int (((ush a 8) &&& 255).toInt8.toInt32)])), (o2, .inr (.char, [.int (a &&& 255), .int ((ush a 8) &&& 255)]))]) rfl (G := ?_)
    refine Go.dup d42_216 (G := ?_)
    refine Go.bipush d42_217 (v := 13) rfl (G := ?_)
    refine Go.bipush d42_219 (v := 32) rfl (G := ?_)
    refine Go.castore d42_221 0 rfl (x' := 32) rfl (Nat.le_of_ble_eq_true rfl) (D' := [(o22, .inr (.char, [.int 67, .int 97, .int 110, .int 110, .int 111, .int 116, .int 32, .int 99, .int 114, .int 101, .int 97, .int 116, .int 101, .int 32, .int 0, .int 0, .int 0, .int 0, .int 0, .int 0])), (o21, .inl ("java/lang/String", [("java/lang/String", "value", "[B", .null), ("java/lang/String", "coder", "B", .int 0)])), (o18, .inl ("java/lang/String", [("java/lang/String", "value", "[B", .ref t20), ("java/lang/String", "coder", "B", .int 0)])), (t20, .inr (.byte, [.int (((ush c 1) &&& 255).toInt8.toInt32), .int (((ush c 9) &&& 255).toInt8.toInt32)])), (o19, .inr (.char, [.int ((ush c 1) &&& 255), .int ((ush c 9) &&& 255)])), (o4, .inl ("java/lang/String", [("java/lang/String", "value", "[B", .ref t6), ("java/lang/String", "coder", "B", .int 0)])), (t6, .inr (.byte, [.int ((bq &&& 255).toInt8.toInt32), .int (((ush bq 8) &&& 255).toInt8.toInt32)])), (o5, .inr (.char, [.int (bq &&& 255), .int ((ush bq 8) &&& 255)])), (o1, .inl ("java/lang/String", [("java/lang/String", "value", "[B", .ref t3), ("java/lang/String", "coder", "B", .int 0)])), (t3, .inr (.byte, [.int ((a &&& 255).toInt8.toInt32), .int (((ush a 8) &&& 255).toInt8.toInt32)])), (o2, .inr (.char, [.int (a &&& 255), .int ((ush a 8) &&& 255)]))]) rfl (G := ?_)
    refine Go.dup d42_222 (G := ?_)
    refine Go.bipush d42_223 (v := 14) rfl (G := ?_)
    refine Go.iloadN d42_225 rfl (G := ?_)
    refine Go.castore d42_226 0 rfl (x' := (a &&& 255)) (m255_c _) (Nat.le_of_ble_eq_true rfl) (D' := [(o22, .inr (.char, [.int 67, .int 97, .int 110, .int 110, .int 111, .int 116, .int 32, .int 99, .int 114, .int 101, .int 97, .int 116, .int 101, .int 32, .int (a &&& 255), .int 0, .int 0, .int 0, .int 0, .int 0])), (o21, .inl ("java/lang/String", [("java/lang/String", "value", "[B", .null), ("java/lang/String", "coder", "B", .int 0)])), (o18, .inl ("java/lang/String", [("java/lang/String", "value", "[B", .ref t20), ("java/lang/String", "coder", "B", .int 0)])), (t20, .inr (.byte, [.int (((ush c 1) &&& 255).toInt8.toInt32), .int (((ush c 9) &&& 255).toInt8.toInt32)])), (o19, .inr (.char, [.int ((ush c 1) &&& 255), .int ((ush c 9) &&& 255)])), (o4, .inl ("java/lang/String", [("java/lang/String", "value", "[B", .ref t6), ("java/lang/String", "coder", "B", .int 0)])), (t6, .inr (.byte, [.int ((bq &&& 255).toInt8.toInt32), .int (((ush bq 8) &&& 255).toInt8.toInt32)])), (o5, .inr (.char, [.int (bq &&& 255), .int ((ush bq 8) &&& 255)])), (o1, .inl ("java/lang/String", [("java/lang/String", "value", "[B", .ref t3), ("java/lang/String", "coder", "B", .int 0)])), (t3, .inr (.byte, [.int ((a &&& 255).toInt8.toInt32), .int (((ush a 8) &&& 255).toInt8.toInt32)])), (o2, .inr (.char, [.int (a &&& 255), .int ((ush a 8) &&& 255)]))]) rfl (G := ?_)
    refine Go.dup d42_227 (G := ?_)
    refine Go.bipush d42_228 (v := 15) rfl (G := ?_)
    refine Go.iload d42_230 rfl (G := ?_)
    refine Go.castore d42_232 0 rfl (x' := ((ush a 8) &&& 255)) (m255_c _) (Nat.le_of_ble_eq_true rfl) (D' := [(o22, .inr (.char, [.int 67, .int 97, .int 110, .int 110, .int 111, .int 116, .int 32, .int 99, .int 114, .int 101, .int 97, .int 116, .int 101, .int 32, .int (a &&& 255), .int ((ush a 8) &&& 255), .int 0, .int 0, .int 0, .int 0])), (o21, .inl ("java/lang/String", [("java/lang/String", "value", "[B", .null), ("java/lang/String", "coder", "B", .int 0)])), (o18, .inl ("java/lang/String", [("java/lang/String", "value", "[B", .ref t20), ("java/lang/String", "coder", "B", .int 0)])), (t20, .inr (.byte, [.int (((ush c 1) &&& 255).toInt8.toInt32), .int (((ush c 9) &&& 255).toInt8.toInt32)])), (o19, .inr (.char, [.int ((ush c 1) &&& 255), .int ((ush c 9) &&& 255)])), (o4, .inl ("java/lang/String", [("java/lang/String", "value", "[B", .ref t6), ("java/lang/String", "coder", "B", .int 0)])), (t6, .inr (.byte, [.int ((bq &&& 255).toInt8.toInt32), .int (((ush bq 8) &&& 255).toInt8.toInt32)])), (o5, .inr (.char, [.int (bq &&& 255), .int ((ush bq 8) &&& 255)])), (o1, .inl ("java/lang/String", [("java/lang/String", "value", "[B", .ref t3), ("java/lang/String", "coder", "B", .int 0)])), (t3, .inr (.byte, [.int ((a &&& 255).toInt8.toInt32), .int (((ush a 8) &&& 255).toInt8.toInt32)])), (o2, .inr (.char, [.int (a &&& 255), .int ((ush a 8) &&& 255)]))]) rfl (G := ?_)
    refine Go.dup d42_233 (G := ?_)
    refine Go.bipush d42_234 (v := 16) rfl (G := ?_)
    refine Go.bipush d42_236 (v := 58) rfl (G := ?_)
    refine Go.castore d42_238 0 rfl (x' := 58) rfl (Nat.le_of_ble_eq_true rfl) (D' := [(o22, .inr (.char, [.int 67, .int 97, .int 110, .int 110, .int 111, .int 116, .int 32, .int 99, .int 114, .int 101, .int 97, .int 116, .int 101, .int 32, .int (a &&& 255), .int ((ush a 8) &&& 255), .int 58, .int 0, .int 0, .int 0])), (o21, .inl ("java/lang/String", [("java/lang/String", "value", "[B", .null), ("java/lang/String", "coder", "B", .int 0)])), (o18, .inl ("java/lang/String", [("java/lang/String", "value", "[B", .ref t20), ("java/lang/String", "coder", "B", .int 0)])), (t20, .inr (.byte, [.int (((ush c 1) &&& 255).toInt8.toInt32), .int (((ush c 9) &&& 255).toInt8.toInt32)])), (o19, .inr (.char, [.int ((ush c 1) &&& 255), .int ((ush c 9) &&& 255)])), (o4, .inl ("java/lang/String", [("java/lang/String", "value", "[B", .ref t6), ("java/lang/String", "coder", "B", .int 0)])), (t6, .inr (.byte, [.int ((bq &&& 255).toInt8.toInt32), .int (((ush bq 8) &&& 255).toInt8.toInt32)])), (o5, .inr (.char, [.int (bq &&& 255), .int ((ush bq 8) &&& 255)])), (o1, .inl ("java/lang/String", [("java/lang/String", "value", "[B", .ref t3), ("java/lang/String", "coder", "B", .int 0)])), (t3, .inr (.byte, [.int ((a &&& 255).toInt8.toInt32), .int (((ush a 8) &&& 255).toInt8.toInt32)])), (o2, .inr (.char, [.int (a &&& 255), .int ((ush a 8) &&& 255)]))]) rfl (G := ?_)
    refine Go.dup d42_239 (G := ?_)
    refine Go.bipush d42_240 (v := 17) rfl (G := ?_)
    refine Go.bipush d42_242 (v := 32) rfl (G := ?_)
    refine Go.castore d42_244 0 rfl (x' := 32) rfl (Nat.le_of_ble_eq_true rfl) (D' := [(o22, .inr (.char, [.int 67, .int 97, .int 110, .int 110, .int 111, .int 116, .int 32, .int 99, .int 114, .int 101, .int 97, .int 116, .int 101, .int 32, .int (a &&& 255), .int ((ush a 8) &&& 255), .int 58, .int 32, .int 0, .int 0])), (o21, .inl ("java/lang/String", [("java/lang/String", "value", "[B", .null), ("java/lang/String", "coder", "B", .int 0)])), (o18, .inl ("java/lang/String", [("java/lang/String", "value", "[B", .ref t20), ("java/lang/String", "coder", "B", .int 0)])), (t20, .inr (.byte, [.int (((ush c 1) &&& 255).toInt8.toInt32), .int (((ush c 9) &&& 255).toInt8.toInt32)])), (o19, .inr (.char, [.int ((ush c 1) &&& 255), .int ((ush c 9) &&& 255)])), (o4, .inl ("java/lang/String", [("java/lang/String", "value", "[B", .ref t6), ("java/lang/String", "coder", "B", .int 0)])), (t6, .inr (.byte, [.int ((bq &&& 255).toInt8.toInt32), .int (((ush bq 8) &&& 255).toInt8.toInt32)])), (o5, .inr (.char, [.int (bq &&& 255), .int ((ush bq 8) &&& 255)])), (o1, .inl ("java/lang/String", [("java/lang/String", "value", "[B", .ref t3), ("java/lang/String", "coder", "B", .int 0)])), (t3, .inr (.byte, [.int ((a &&& 255).toInt8.toInt32), .int (((ush a 8) &&& 255).toInt8.toInt32)])), (o2, .inr (.char, [.int (a &&& 255), .int ((ush a 8) &&& 255)]))]) rfl (G := ?_)
    refine Go.dup d42_245 (G := ?_)
    refine Go.bipush d42_246 (v := 18) rfl (G := ?_)
    refine Go.iload d42_248 rfl (G := ?_)
    refine Go.castore d42_250 0 rfl (x' := (bq &&& 255)) (m255_c _) (Nat.le_of_ble_eq_true rfl) (D' := [(o22, .inr (.char, [.int 67, .int 97, .int 110, .int 110, .int 111, .int 116, .int 32, .int 99, .int 114, .int 101, .int 97, .int 116, .int 101, .int 32, .int (a &&& 255), .int ((ush a 8) &&& 255), .int 58, .int 32, .int (bq &&& 255), .int 0])), (o21, .inl ("java/lang/String", [("java/lang/String", "value", "[B", .null), ("java/lang/String", "coder", "B", .int 0)])), (o18, .inl ("java/lang/String", [("java/lang/String", "value", "[B", .ref t20), ("java/lang/String", "coder", "B", .int 0)])), (t20, .inr (.byte, [.int (((ush c 1) &&& 255).toInt8.toInt32), .int (((ush c 9) &&& 255).toInt8.toInt32)])), (o19, .inr (.char, [.int ((ush c 1) &&& 255), .int ((ush c 9) &&& 255)])), (o4, .inl ("java/lang/String", [("java/lang/String", "value", "[B", .ref t6), ("java/lang/String", "coder", "B", .int 0)])), (t6, .inr (.byte, [.int ((bq &&& 255).toInt8.toInt32), .int (((ush bq 8) &&& 255).toInt8.toInt32)])), (o5, .inr (.char, [.int (bq &&& 255), .int ((ush bq 8) &&& 255)])), (o1, .inl ("java/lang/String", [("java/lang/String", "value", "[B", .ref t3), ("java/lang/String", "coder", "B", .int 0)])), (t3, .inr (.byte, [.int ((a &&& 255).toInt8.toInt32), .int (((ush a 8) &&& 255).toInt8.toInt32)])), (o2, .inr (.char, [.int (a &&& 255), .int ((ush a 8) &&& 255)]))]) rfl (G := ?_)
    refine Go.dup d42_251 (G := ?_)
    refine Go.bipush d42_252 (v := 19) rfl (G := ?_)
    refine Go.iload d42_254 rfl (G := ?_)
    refine Go.castore d42_256 0 rfl (x' := ((ush bq 8) &&& 255)) (m255_c _) (Nat.le_of_ble_eq_true rfl) (D' := [(o22, .inr (.char, [.int 67, .int 97, .int 110, .int 110, .int 111, .int 116, .int 32, .int 99, .int 114, .int 101, .int 97, .int 116, .int 101, .int 32, .int (a &&& 255), .int ((ush a 8) &&& 255), .int 58, .int 32, .int (bq &&& 255), .int ((ush bq 8) &&& 255)])), (o21, .inl ("java/lang/String", [("java/lang/String", "value", "[B", .null), ("java/lang/String", "coder", "B", .int 0)])), (o18, .inl ("java/lang/String", [("java/lang/String", "value", "[B", .ref t20), ("java/lang/String", "coder", "B", .int 0)])), (t20, .inr (.byte, [.int (((ush c 1) &&& 255).toInt8.toInt32), .int (((ush c 9) &&& 255).toInt8.toInt32)])), (o19, .inr (.char, [.int ((ush c 1) &&& 255), .int ((ush c 9) &&& 255)])), (o4, .inl ("java/lang/String", [("java/lang/String", "value", "[B", .ref t6), ("java/lang/String", "coder", "B", .int 0)])), (t6, .inr (.byte, [.int ((bq &&& 255).toInt8.toInt32), .int (((ush bq 8) &&& 255).toInt8.toInt32)])), (o5, .inr (.char, [.int (bq &&& 255), .int ((ush bq 8) &&& 255)])), (o1, .inl ("java/lang/String", [("java/lang/String", "value", "[B", .ref t3), ("java/lang/String", "coder", "B", .int 0)])), (t3, .inr (.byte, [.int ((a &&& 255).toInt8.toInt32), .int (((ush a 8) &&& 255).toInt8.toInt32)])), (o2, .inr (.char, [.int (a &&& 255), .int ((ush a 8) &&& 255)]))]) rfl (G := ?_)
    refine Go.perm [1, 0, 2, 3, 4, 5, 6, 7, 8, 9, 10] (by decide) rfl (D' := [(o21, .inl ("java/lang/String", [("java/lang/String", "value", "[B", .null), ("java/lang/String", "coder", "B", .int 0)])), (o22, .inr (.char, [.int 67, .int 97, .int 110, .int 110, .int 111, .int 116, .int 32, .int 99, .int 114, .int 101, .int 97, .int 116, .int 101, .int 32, .int (a &&& 255), .int ((ush a 8) &&& 255), .int 58, .int 32, .int (bq &&& 255), .int ((ush bq 8) &&& 255)])), (o18, .inl ("java/lang/String", [("java/lang/String", "value", "[B", .ref t20), ("java/lang/String", "coder", "B", .int 0)])), (t20, .inr (.byte, [.int (((ush c 1) &&& 255).toInt8.toInt32), .int (((ush c 9) &&& 255).toInt8.toInt32)])), (o19, .inr (.char, [.int ((ush c 1) &&& 255), .int ((ush c 9) &&& 255)])), (o4, .inl ("java/lang/String", [("java/lang/String", "value", "[B", .ref t6), ("java/lang/String", "coder", "B", .int 0)])), (t6, .inr (.byte, [.int ((bq &&& 255).toInt8.toInt32), .int (((ush bq 8) &&& 255).toInt8.toInt32)])), (o5, .inr (.char, [.int (bq &&& 255), .int ((ush bq 8) &&& 255)])), (o1, .inl ("java/lang/String", [("java/lang/String", "value", "[B", .ref t3), ("java/lang/String", "coder", "B", .int 0)])), (t3, .inr (.byte, [.int ((a &&& 255).toInt8.toInt32), .int (((ush a 8) &&& 255).toInt8.toInt32)])), (o2, .inr (.char, [.int (a &&& 255), .int ((ush a 8) &&& 255)]))]) rfl (G := ?_)
    refine Go.invokeinit true d42_257 rfl (hw _ (List.mem_of_getElem? (i := 4) rfl)) (hw _ (List.mem_of_getElem? (i := 5) rfl)) (hw _ (List.mem_of_getElem? (i := 2) rfl)) (hw _ (List.mem_of_getElem? (i := 6) rfl)) (c_init hw o21 o22 ([67, 97, 110, 110, 111, 116, 32, 99, 114, 101, 97, 116, 101, 32, (a &&& 255), ((ush a 8) &&& 255), 58, 32, (bq &&& 255), ((ush bq 8) &&& 255)] : List Int32) 20 [] cpt hCS hcpt rfl (by decide) (by decide) (eS (by decide) (eS (by decide) (eS (by decide) (eS (by decide) (eS (by decide) (eS (by decide) (eS (by decide) (eS (by decide) (eS (by decide) (eS (by decide) (eS (by decide) (eS (by decide) (eS (by decide) (eS (by decide) (eS (m255_le _) (eS (m255_le _) (eS (by decide) (eS (by decide) (eS (m255_le _) (eS (m255_le _) eN))))))))))))))))))))) pdg_29 rfl (argsL := [.ref o22]) (rest := [.ref o21]) rfl rfl (Dr := [(o22, .inr (.char, [.int 67, .int 97, .int 110, .int 110, .int 111, .int 116, .int 32, .int 99, .int 114, .int 101, .int 97, .int 116, .int 101, .int 32, .int (a &&& 255), .int ((ush a 8) &&& 255), .int 58, .int 32, .int (bq &&& 255), .int ((ush bq 8) &&& 255)])), (o18, .inl ("java/lang/String", [("java/lang/String", "value", "[B", .ref t20), ("java/lang/String", "coder", "B", .int 0)])), (t20, .inr (.byte, [.int (((ush c 1) &&& 255).toInt8.toInt32), .int (((ush c 9) &&& 255).toInt8.toInt32)])), (o19, .inr (.char, [.int ((ush c 1) &&& 255), .int ((ush c 9) &&& 255)])), (o4, .inl ("java/lang/String", [("java/lang/String", "value", "[B", .ref t6), ("java/lang/String", "coder", "B", .int 0)])), (t6, .inr (.byte, [.int ((bq &&& 255).toInt8.toInt32), .int (((ush bq 8) &&& 255).toInt8.toInt32)])), (o5, .inr (.char, [.int (bq &&& 255), .int ((ush bq 8) &&& 255)])), (o1, .inl ("java/lang/String", [("java/lang/String", "value", "[B", .ref t3), ("java/lang/String", "coder", "B", .int 0)])), (t3, .inr (.byte, [.int ((a &&& 255).toInt8.toInt32), .int (((ush a 8) &&& 255).toInt8.toInt32)])), (o2, .inr (.char, [.int (a &&& 255), .int ((ush a 8) &&& 255)]))]) rfl (eS (Or.inr ⟨rfl, List.mem_of_getElem? (i := 0) rfl⟩) eN) (G := ?_)
    rintro _ _ _ ⟨t23, rfl, rfl, rfl⟩
    refine Go.norm (D2 := [(o21, .inl ("java/lang/String", [("java/lang/String", "value", "[B", .ref t23), ("java/lang/String", "coder", "B", .int 0)])), (t23, .inr (.byte, [.int 67, .int 97, .int 110, .int 110, .int 111, .int 116, .int 32, .int 99, .int 114, .int 101, .int 97, .int 116, .int 101, .int 32, .int ((a &&& 255).toInt8.toInt32), .int (((ush a 8) &&& 255).toInt8.toInt32), .int 58, .int 32, .int ((bq &&& 255).toInt8.toInt32), .int (((ush bq 8) &&& 255).toInt8.toInt32)])), (o22, .inr (.char, [.int 67, .int 97, .int 110, .int 110, .int 111, .int 116, .int 32, .int 99, .int 114, .int 101, .int 97, .int 116, .int 101, .int 32, .int (a &&& 255), .int ((ush a 8) &&& 255), .int 58, .int 32, .int (bq &&& 255), .int ((ush bq 8) &&& 255)])), (o18, .inl ("java/lang/String", [("java/lang/String", "value", "[B", .ref t20), ("java/lang/String", "coder", "B", .int 0)])), (t20, .inr (.byte, [.int (((ush c 1) &&& 255).toInt8.toInt32), .int (((ush c 9) &&& 255).toInt8.toInt32)])), (o19, .inr (.char, [.int ((ush c 1) &&& 255), .int ((ush c 9) &&& 255)])), (o4, .inl ("java/lang/String", [("java/lang/String", "value", "[B", .ref t6), ("java/lang/String", "coder", "B", .int 0)])), (t6, .inr (.byte, [.int ((bq &&& 255).toInt8.toInt32), .int (((ush bq 8) &&& 255).toInt8.toInt32)])), (o5, .inr (.char, [.int (bq &&& 255), .int ((ush bq 8) &&& 255)])), (o1, .inl ("java/lang/String", [("java/lang/String", "value", "[B", .ref t3), ("java/lang/String", "coder", "B", .int 0)])), (t3, .inr (.byte, [.int ((a &&& 255).toInt8.toInt32), .int (((ush a 8) &&& 255).toInt8.toInt32)])), (o2, .inr (.char, [.int (a &&& 255), .int ((ush a 8) &&& 255)]))]) (S2 := []) (c2 := 12) (s2 := 68) (st2 := [.ref o21]) ?_
    refine Go.astore d42_260 (Ls' := #[.val (.int a), .val (.int bq), .val (.int c), .val (.int (a &&& 255)), .val (.int ((ush a 8) &&& 255)), .val (.int (bq &&& 255)), .val (.int ((ush bq 8) &&& 255)), .val (.ref o1), .val (.ref o4), .val (.int 1), .val (.ref o18), .val (.ref o21), .unset, .unset]) rfl (G := ?_)
    refine Go.aload d42_262 rfl (G := ?_)
    refine Go.aload d42_264 rfl (G := ?_)
    refine Go.aload d42_266 rfl (G := ?_)
    refine Go.invokestatic true d42_268 (hw _ (List.mem_of_getElem? (i := 30) rfl)) (hw _ (List.mem_of_getElem? (i := 31) rfl)) (hw _ (List.mem_of_getElem? (i := 32) rfl)) (hw _ (List.mem_of_getElem? (i := 33) rfl)) (c_ccR hw o1 t3 o4 t6 o18 ((a &&& 255).toInt8.toInt32) (((ush a 8) &&& 255).toInt8.toInt32) ((bq &&& 255).toInt8.toInt32) (((ush bq 8) &&& 255).toInt8.toInt32) cpt hCS hcpt hb1 hE_ComponentException_41 hE_ComponentException_47 hl su sn hUS hSS) pdg_30 rfl (argsL := [.ref o1, .ref o4, .ref o18]) (rest := []) rfl rfl (Dr := [(o21, .inl ("java/lang/String", [("java/lang/String", "value", "[B", .ref t23), ("java/lang/String", "coder", "B", .int 0)])), (t23, .inr (.byte, [.int 67, .int 97, .int 110, .int 110, .int 111, .int 116, .int 32, .int 99, .int 114, .int 101, .int 97, .int 116, .int 101, .int 32, .int ((a &&& 255).toInt8.toInt32), .int (((ush a 8) &&& 255).toInt8.toInt32), .int 58, .int 32, .int ((bq &&& 255).toInt8.toInt32), .int (((ush bq 8) &&& 255).toInt8.toInt32)])), (o22, .inr (.char, [.int 67, .int 97, .int 110, .int 110, .int 111, .int 116, .int 32, .int 99, .int 114, .int 101, .int 97, .int 116, .int 101, .int 32, .int (a &&& 255), .int ((ush a 8) &&& 255), .int 58, .int 32, .int (bq &&& 255), .int ((ush bq 8) &&& 255)])), (o18, .inl ("java/lang/String", [("java/lang/String", "value", "[B", .ref t20), ("java/lang/String", "coder", "B", .int 0)])), (t20, .inr (.byte, [.int (((ush c 1) &&& 255).toInt8.toInt32), .int (((ush c 9) &&& 255).toInt8.toInt32)])), (o19, .inr (.char, [.int ((ush c 1) &&& 255), .int ((ush c 9) &&& 255)])), (o4, .inl ("java/lang/String", [("java/lang/String", "value", "[B", .ref t6), ("java/lang/String", "coder", "B", .int 0)])), (t6, .inr (.byte, [.int ((bq &&& 255).toInt8.toInt32), .int (((ush bq 8) &&& 255).toInt8.toInt32)])), (o5, .inr (.char, [.int (bq &&& 255), .int ((ush bq 8) &&& 255)])), (o1, .inl ("java/lang/String", [("java/lang/String", "value", "[B", .ref t3), ("java/lang/String", "coder", "B", .int 0)])), (t3, .inr (.byte, [.int ((a &&& 255).toInt8.toInt32), .int (((ush a 8) &&& 255).toInt8.toInt32)])), (o2, .inr (.char, [.int (a &&& 255), .int ((ush a 8) &&& 255)]))]) rfl (eS (Or.inr ⟨rfl, List.mem_of_getElem? (i := 9) rfl⟩) (eS (Or.inr ⟨rfl, List.mem_of_getElem? (i := 10) rfl⟩) (eS (Or.inr ⟨rfl, List.mem_of_getElem? (i := 6) rfl⟩) (eS (Or.inr ⟨rfl, List.mem_of_getElem? (i := 7) rfl⟩) eN)))) (G := ?_)
    rintro _ _ _ ⟨e, m, v, rfl, rfl, rfl⟩
    refine Go.norm (D2 := [(e, .inl ("startbeam/ComponentException", [("java/lang/Throwable", "detailMessage", "Ljava/lang/String;", .ref m), ("java/lang/Throwable", "cause", "Ljava/lang/Throwable;", .null), ("startbeam/ComponentException", "remedy", "Ljava/lang/String;", .ref o18)])), (m, .inl ("java/lang/String", [("java/lang/String", "value", "[B", .ref v), ("java/lang/String", "coder", "B", .int 0)])), (v, .inr (.byte, [.int 67, .int 97, .int 110, .int 110, .int 111, .int 116, .int 32, .int 99, .int 114, .int 101, .int 97, .int 116, .int 101, .int 32, .int ((a &&& 255).toInt8.toInt32), .int (((ush a 8) &&& 255).toInt8.toInt32), .int 58, .int 32, .int ((bq &&& 255).toInt8.toInt32), .int (((ush bq 8) &&& 255).toInt8.toInt32)])), (o21, .inl ("java/lang/String", [("java/lang/String", "value", "[B", .ref t23), ("java/lang/String", "coder", "B", .int 0)])), (t23, .inr (.byte, [.int 67, .int 97, .int 110, .int 110, .int 111, .int 116, .int 32, .int 99, .int 114, .int 101, .int 97, .int 116, .int 101, .int 32, .int ((a &&& 255).toInt8.toInt32), .int (((ush a 8) &&& 255).toInt8.toInt32), .int 58, .int 32, .int ((bq &&& 255).toInt8.toInt32), .int (((ush bq 8) &&& 255).toInt8.toInt32)])), (o22, .inr (.char, [.int 67, .int 97, .int 110, .int 110, .int 111, .int 116, .int 32, .int 99, .int 114, .int 101, .int 97, .int 116, .int 101, .int 32, .int (a &&& 255), .int ((ush a 8) &&& 255), .int 58, .int 32, .int (bq &&& 255), .int ((ush bq 8) &&& 255)])), (o18, .inl ("java/lang/String", [("java/lang/String", "value", "[B", .ref t20), ("java/lang/String", "coder", "B", .int 0)])), (t20, .inr (.byte, [.int (((ush c 1) &&& 255).toInt8.toInt32), .int (((ush c 9) &&& 255).toInt8.toInt32)])), (o19, .inr (.char, [.int ((ush c 1) &&& 255), .int ((ush c 9) &&& 255)])), (o4, .inl ("java/lang/String", [("java/lang/String", "value", "[B", .ref t6), ("java/lang/String", "coder", "B", .int 0)])), (t6, .inr (.byte, [.int ((bq &&& 255).toInt8.toInt32), .int (((ush bq 8) &&& 255).toInt8.toInt32)])), (o5, .inr (.char, [.int (bq &&& 255), .int ((ush bq 8) &&& 255)])), (o1, .inl ("java/lang/String", [("java/lang/String", "value", "[B", .ref t3), ("java/lang/String", "coder", "B", .int 0)])), (t3, .inr (.byte, [.int ((a &&& 255).toInt8.toInt32), .int (((ush a 8) &&& 255).toInt8.toInt32)])), (o2, .inr (.char, [.int (a &&& 255), .int ((ush a 8) &&& 255)]))]) (S2 := []) (c2 := 27) (s2 := 3027) (st2 := [.ref e]) ?_
    refine Go.astore d42_271 (Ls' := #[.val (.int a), .val (.int bq), .val (.int c), .val (.int (a &&& 255)), .val (.int ((ush a 8) &&& 255)), .val (.int (bq &&& 255)), .val (.int ((ush bq 8) &&& 255)), .val (.ref o1), .val (.ref o4), .val (.int 1), .val (.ref o18), .val (.ref o21), .val (.ref e), .unset]) rfl (G := ?_)
    refine Go.aload d42_273 rfl (G := ?_)
    refine Go.ifnonnullY d42_275 (pc2 := 280) (G := ?_)
    refine Go.aload d42_280 rfl (G := ?_)
    refine Go.aload d42_282 rfl (G := ?_)
    refine Go.invokevirtualUp true d42_284 (hw _ (List.mem_of_getElem? (i := 232) rfl)) (hw _ (List.mem_of_getElem? (i := 233) rfl)) (hw _ (List.mem_of_getElem? (i := 234) rfl)) (hw _ (List.mem_of_getElem? (i := 236) rfl)) (hw _ (List.mem_of_getElem? (i := 235) rfl)) (hw _ (List.mem_of_getElem? (i := 191) rfl)) (hw _ (List.mem_of_getElem? (i := 237) rfl)) (inD (i := 0) rfl) (c_gmR hw e m o18) pdg_24 rfl (argsL := []) (rest := [.ref o21]) rfl rfl (Dr := [(e, .inl ("startbeam/ComponentException", [("java/lang/Throwable", "detailMessage", "Ljava/lang/String;", .ref m), ("java/lang/Throwable", "cause", "Ljava/lang/Throwable;", .null), ("startbeam/ComponentException", "remedy", "Ljava/lang/String;", .ref o18)])), (m, .inl ("java/lang/String", [("java/lang/String", "value", "[B", .ref v), ("java/lang/String", "coder", "B", .int 0)])), (v, .inr (.byte, [.int 67, .int 97, .int 110, .int 110, .int 111, .int 116, .int 32, .int 99, .int 114, .int 101, .int 97, .int 116, .int 101, .int 32, .int ((a &&& 255).toInt8.toInt32), .int (((ush a 8) &&& 255).toInt8.toInt32), .int 58, .int 32, .int ((bq &&& 255).toInt8.toInt32), .int (((ush bq 8) &&& 255).toInt8.toInt32)])), (o21, .inl ("java/lang/String", [("java/lang/String", "value", "[B", .ref t23), ("java/lang/String", "coder", "B", .int 0)])), (t23, .inr (.byte, [.int 67, .int 97, .int 110, .int 110, .int 111, .int 116, .int 32, .int 99, .int 114, .int 101, .int 97, .int 116, .int 101, .int 32, .int ((a &&& 255).toInt8.toInt32), .int (((ush a 8) &&& 255).toInt8.toInt32), .int 58, .int 32, .int ((bq &&& 255).toInt8.toInt32), .int (((ush bq 8) &&& 255).toInt8.toInt32)])), (o22, .inr (.char, [.int 67, .int 97, .int 110, .int 110, .int 111, .int 116, .int 32, .int 99, .int 114, .int 101, .int 97, .int 116, .int 101, .int 32, .int (a &&& 255), .int ((ush a 8) &&& 255), .int 58, .int 32, .int (bq &&& 255), .int ((ush bq 8) &&& 255)])), (o18, .inl ("java/lang/String", [("java/lang/String", "value", "[B", .ref t20), ("java/lang/String", "coder", "B", .int 0)])), (t20, .inr (.byte, [.int (((ush c 1) &&& 255).toInt8.toInt32), .int (((ush c 9) &&& 255).toInt8.toInt32)])), (o19, .inr (.char, [.int ((ush c 1) &&& 255), .int ((ush c 9) &&& 255)])), (o4, .inl ("java/lang/String", [("java/lang/String", "value", "[B", .ref t6), ("java/lang/String", "coder", "B", .int 0)])), (t6, .inr (.byte, [.int ((bq &&& 255).toInt8.toInt32), .int (((ush bq 8) &&& 255).toInt8.toInt32)])), (o5, .inr (.char, [.int (bq &&& 255), .int ((ush bq 8) &&& 255)])), (o1, .inl ("java/lang/String", [("java/lang/String", "value", "[B", .ref t3), ("java/lang/String", "coder", "B", .int 0)])), (t3, .inr (.byte, [.int ((a &&& 255).toInt8.toInt32), .int (((ush a 8) &&& 255).toInt8.toInt32)])), (o2, .inr (.char, [.int (a &&& 255), .int ((ush a 8) &&& 255)]))]) rfl (eS (Or.inr ⟨rfl, List.mem_of_getElem? (i := 0) rfl⟩) eN) (G := ?_)
    rintro _ _ _ ⟨rfl, rfl, rfl⟩
    refine Go.norm (D2 := [(e, .inl ("startbeam/ComponentException", [("java/lang/Throwable", "detailMessage", "Ljava/lang/String;", .ref m), ("java/lang/Throwable", "cause", "Ljava/lang/Throwable;", .null), ("startbeam/ComponentException", "remedy", "Ljava/lang/String;", .ref o18)])), (m, .inl ("java/lang/String", [("java/lang/String", "value", "[B", .ref v), ("java/lang/String", "coder", "B", .int 0)])), (v, .inr (.byte, [.int 67, .int 97, .int 110, .int 110, .int 111, .int 116, .int 32, .int 99, .int 114, .int 101, .int 97, .int 116, .int 101, .int 32, .int ((a &&& 255).toInt8.toInt32), .int (((ush a 8) &&& 255).toInt8.toInt32), .int 58, .int 32, .int ((bq &&& 255).toInt8.toInt32), .int (((ush bq 8) &&& 255).toInt8.toInt32)])), (o21, .inl ("java/lang/String", [("java/lang/String", "value", "[B", .ref t23), ("java/lang/String", "coder", "B", .int 0)])), (t23, .inr (.byte, [.int 67, .int 97, .int 110, .int 110, .int 111, .int 116, .int 32, .int 99, .int 114, .int 101, .int 97, .int 116, .int 101, .int 32, .int ((a &&& 255).toInt8.toInt32), .int (((ush a 8) &&& 255).toInt8.toInt32), .int 58, .int 32, .int ((bq &&& 255).toInt8.toInt32), .int (((ush bq 8) &&& 255).toInt8.toInt32)])), (o22, .inr (.char, [.int 67, .int 97, .int 110, .int 110, .int 111, .int 116, .int 32, .int 99, .int 114, .int 101, .int 97, .int 116, .int 101, .int 32, .int (a &&& 255), .int ((ush a 8) &&& 255), .int 58, .int 32, .int (bq &&& 255), .int ((ush bq 8) &&& 255)])), (o18, .inl ("java/lang/String", [("java/lang/String", "value", "[B", .ref t20), ("java/lang/String", "coder", "B", .int 0)])), (t20, .inr (.byte, [.int (((ush c 1) &&& 255).toInt8.toInt32), .int (((ush c 9) &&& 255).toInt8.toInt32)])), (o19, .inr (.char, [.int ((ush c 1) &&& 255), .int ((ush c 9) &&& 255)])), (o4, .inl ("java/lang/String", [("java/lang/String", "value", "[B", .ref t6), ("java/lang/String", "coder", "B", .int 0)])), (t6, .inr (.byte, [.int ((bq &&& 255).toInt8.toInt32), .int (((ush bq 8) &&& 255).toInt8.toInt32)])), (o5, .inr (.char, [.int (bq &&& 255), .int ((ush bq 8) &&& 255)])), (o1, .inl ("java/lang/String", [("java/lang/String", "value", "[B", .ref t3), ("java/lang/String", "coder", "B", .int 0)])), (t3, .inr (.byte, [.int ((a &&& 255).toInt8.toInt32), .int (((ush a 8) &&& 255).toInt8.toInt32)])), (o2, .inr (.char, [.int (a &&& 255), .int ((ush a 8) &&& 255)]))]) (S2 := []) (c2 := 27) (s2 := 3027) (st2 := [.ref m, .ref o21]) ?_
    refine Go.ne 3 1 rfl rfl (by decide) (fun hne => ?_)
    refine Go.invokevirtual true d42_287 (hw _ (List.mem_of_getElem? (i := 238) rfl)) (hw _ (List.mem_of_getElem? (i := 239) rfl)) (hw _ (List.mem_of_getElem? (i := 241) rfl)) (hw _ (List.mem_of_getElem? (i := 240) rfl)) (hw _ (List.mem_of_getElem? (i := 2) rfl)) (hw _ (List.mem_of_getElem? (i := 242) rfl)) (nfSel (hw _ (List.mem_of_getElem? (i := 241) rfl))) (inD (i := 3) rfl) (c_eqL hw o21 t23 m v ([67, 97, 110, 110, 111, 116, 32, 99, 114, 101, 97, 116, 101, 32, (a &&& 255), ((ush a 8) &&& 255), 58, 32, (bq &&& 255), ((ush bq 8) &&& 255)] : List Int32) ([67, 97, 110, 110, 111, 116, 32, 99, 114, 101, 97, 116, 101, 32, (a &&& 255), ((ush a 8) &&& 255), 58, 32, (bq &&& 255), ((ush bq 8) &&& 255)] : List Int32) 20 20 [] [] cpt hCS hcpt hne rfl rfl (by decide) (by decide) (show ∀ c ∈ ([67, 97, 110, 110, 111, 116, 32, 99, 114, 101, 97, 116, 101, 32, (a &&& 255), ((ush a 8) &&& 255), 58, 32, (bq &&& 255), ((ush bq 8) &&& 255)] : List Int32), 0 ≤ c.toInt ∧ c.toInt ≤ 255 from (eS (by decide) (eS (by decide) (eS (by decide) (eS (by decide) (eS (by decide) (eS (by decide) (eS (by decide) (eS (by decide) (eS (by decide) (eS (by decide) (eS (by decide) (eS (by decide) (eS (by decide) (eS (by decide) (eS (m255_int _) (eS (m255_int _) (eS (by decide) (eS (by decide) (eS (m255_int _) (eS (m255_int _) eN))))))))))))))))))))) (show ∀ c ∈ ([67, 97, 110, 110, 111, 116, 32, 99, 114, 101, 97, 116, 101, 32, (a &&& 255), ((ush a 8) &&& 255), 58, 32, (bq &&& 255), ((ush bq 8) &&& 255)] : List Int32), 0 ≤ c.toInt ∧ c.toInt ≤ 255 from (eS (by decide) (eS (by decide) (eS (by decide) (eS (by decide) (eS (by decide) (eS (by decide) (eS (by decide) (eS (by decide) (eS (by decide) (eS (by decide) (eS (by decide) (eS (by decide) (eS (by decide) (eS (by decide) (eS (m255_int _) (eS (m255_int _) (eS (by decide) (eS (by decide) (eS (m255_int _) (eS (m255_int _) eN)))))))))))))))))))))) pdg_31 rfl (argsL := [.ref m]) (rest := []) rfl rfl (Dr := [(e, .inl ("startbeam/ComponentException", [("java/lang/Throwable", "detailMessage", "Ljava/lang/String;", .ref m), ("java/lang/Throwable", "cause", "Ljava/lang/Throwable;", .null), ("startbeam/ComponentException", "remedy", "Ljava/lang/String;", .ref o18)])), (m, .inl ("java/lang/String", [("java/lang/String", "value", "[B", .ref v), ("java/lang/String", "coder", "B", .int 0)])), (v, .inr (.byte, [.int 67, .int 97, .int 110, .int 110, .int 111, .int 116, .int 32, .int 99, .int 114, .int 101, .int 97, .int 116, .int 101, .int 32, .int ((a &&& 255).toInt8.toInt32), .int (((ush a 8) &&& 255).toInt8.toInt32), .int 58, .int 32, .int ((bq &&& 255).toInt8.toInt32), .int (((ush bq 8) &&& 255).toInt8.toInt32)])), (o21, .inl ("java/lang/String", [("java/lang/String", "value", "[B", .ref t23), ("java/lang/String", "coder", "B", .int 0)])), (t23, .inr (.byte, [.int 67, .int 97, .int 110, .int 110, .int 111, .int 116, .int 32, .int 99, .int 114, .int 101, .int 97, .int 116, .int 101, .int 32, .int ((a &&& 255).toInt8.toInt32), .int (((ush a 8) &&& 255).toInt8.toInt32), .int 58, .int 32, .int ((bq &&& 255).toInt8.toInt32), .int (((ush bq 8) &&& 255).toInt8.toInt32)])), (o22, .inr (.char, [.int 67, .int 97, .int 110, .int 110, .int 111, .int 116, .int 32, .int 99, .int 114, .int 101, .int 97, .int 116, .int 101, .int 32, .int (a &&& 255), .int ((ush a 8) &&& 255), .int 58, .int 32, .int (bq &&& 255), .int ((ush bq 8) &&& 255)])), (o18, .inl ("java/lang/String", [("java/lang/String", "value", "[B", .ref t20), ("java/lang/String", "coder", "B", .int 0)])), (t20, .inr (.byte, [.int (((ush c 1) &&& 255).toInt8.toInt32), .int (((ush c 9) &&& 255).toInt8.toInt32)])), (o19, .inr (.char, [.int ((ush c 1) &&& 255), .int ((ush c 9) &&& 255)])), (o4, .inl ("java/lang/String", [("java/lang/String", "value", "[B", .ref t6), ("java/lang/String", "coder", "B", .int 0)])), (t6, .inr (.byte, [.int ((bq &&& 255).toInt8.toInt32), .int (((ush bq 8) &&& 255).toInt8.toInt32)])), (o5, .inr (.char, [.int (bq &&& 255), .int ((ush bq 8) &&& 255)])), (o1, .inl ("java/lang/String", [("java/lang/String", "value", "[B", .ref t3), ("java/lang/String", "coder", "B", .int 0)])), (t3, .inr (.byte, [.int ((a &&& 255).toInt8.toInt32), .int (((ush a 8) &&& 255).toInt8.toInt32)])), (o2, .inr (.char, [.int (a &&& 255), .int ((ush a 8) &&& 255)]))]) rfl (eS (Or.inr ⟨rfl, List.mem_of_getElem? (i := 3) rfl⟩) (eS (Or.inr ⟨rfl, List.mem_of_getElem? (i := 4) rfl⟩) (eS (Or.inr ⟨rfl, List.mem_of_getElem? (i := 1) rfl⟩) (eS (Or.inr ⟨rfl, List.mem_of_getElem? (i := 2) rfl⟩) eN)))) (G := ?_)
    rintro _ _ _ ⟨r, hr, rfl, rfl, rfl⟩
    refine Go.norm (D2 := [(e, .inl ("startbeam/ComponentException", [("java/lang/Throwable", "detailMessage", "Ljava/lang/String;", .ref m), ("java/lang/Throwable", "cause", "Ljava/lang/Throwable;", .null), ("startbeam/ComponentException", "remedy", "Ljava/lang/String;", .ref o18)])), (m, .inl ("java/lang/String", [("java/lang/String", "value", "[B", .ref v), ("java/lang/String", "coder", "B", .int 0)])), (v, .inr (.byte, [.int 67, .int 97, .int 110, .int 110, .int 111, .int 116, .int 32, .int 99, .int 114, .int 101, .int 97, .int 116, .int 101, .int 32, .int ((a &&& 255).toInt8.toInt32), .int (((ush a 8) &&& 255).toInt8.toInt32), .int 58, .int 32, .int ((bq &&& 255).toInt8.toInt32), .int (((ush bq 8) &&& 255).toInt8.toInt32)])), (o21, .inl ("java/lang/String", [("java/lang/String", "value", "[B", .ref t23), ("java/lang/String", "coder", "B", .int 0)])), (t23, .inr (.byte, [.int 67, .int 97, .int 110, .int 110, .int 111, .int 116, .int 32, .int 99, .int 114, .int 101, .int 97, .int 116, .int 101, .int 32, .int ((a &&& 255).toInt8.toInt32), .int (((ush a 8) &&& 255).toInt8.toInt32), .int 58, .int 32, .int ((bq &&& 255).toInt8.toInt32), .int (((ush bq 8) &&& 255).toInt8.toInt32)])), (o22, .inr (.char, [.int 67, .int 97, .int 110, .int 110, .int 111, .int 116, .int 32, .int 99, .int 114, .int 101, .int 97, .int 116, .int 101, .int 32, .int (a &&& 255), .int ((ush a 8) &&& 255), .int 58, .int 32, .int (bq &&& 255), .int ((ush bq 8) &&& 255)])), (o18, .inl ("java/lang/String", [("java/lang/String", "value", "[B", .ref t20), ("java/lang/String", "coder", "B", .int 0)])), (t20, .inr (.byte, [.int (((ush c 1) &&& 255).toInt8.toInt32), .int (((ush c 9) &&& 255).toInt8.toInt32)])), (o19, .inr (.char, [.int ((ush c 1) &&& 255), .int ((ush c 9) &&& 255)])), (o4, .inl ("java/lang/String", [("java/lang/String", "value", "[B", .ref t6), ("java/lang/String", "coder", "B", .int 0)])), (t6, .inr (.byte, [.int ((bq &&& 255).toInt8.toInt32), .int (((ush bq 8) &&& 255).toInt8.toInt32)])), (o5, .inr (.char, [.int (bq &&& 255), .int ((ush bq 8) &&& 255)])), (o1, .inl ("java/lang/String", [("java/lang/String", "value", "[B", .ref t3), ("java/lang/String", "coder", "B", .int 0)])), (t3, .inr (.byte, [.int ((a &&& 255).toInt8.toInt32), .int (((ush a 8) &&& 255).toInt8.toInt32)])), (o2, .inr (.char, [.int (a &&& 255), .int ((ush a 8) &&& 255)]))]) (S2 := []) (c2 := 27) (s2 := 3027) (st2 := [.int r]) ?_
    refine Go.ifc d42_290 (pc2 := 295) (Gy := fun _ => ?_) (Gn := fun h => absurd (show ¬ r = 0 from (fun e0 => bF hr e0 rfl)) h)
    refine Go.aload d42_295 rfl (G := ?_)
    refine Go.getCause (cz := .null) rfl d42_297 (hw _ (List.mem_of_getElem? (i := 248) rfl)) (hw _ (List.mem_of_getElem? (i := 249) rfl)) (hw _ (List.mem_of_getElem? (i := 250) rfl)) (hw _ (List.mem_of_getElem? (i := 252) rfl)) (hw _ (List.mem_of_getElem? (i := 251) rfl)) (hw _ (List.mem_of_getElem? (i := 253) rfl)) (hw _ (List.mem_of_getElem? (i := 191) rfl)) (hw _ (List.mem_of_getElem? (i := 194) rfl)) (inD (i := 0) rfl) (List.mem_of_getElem? (i := 1) rfl) rfl (G := ?_)
    rw [gcv_null]
    refine Go.ifnullY d42_300 (pc2 := 305) (G := ?_)
    refine Go.aload d42_305 rfl (G := ?_)
    refine Go.invokevirtual true d42_307 (hw _ (List.mem_of_getElem? (i := 254) rfl)) (hw _ (List.mem_of_getElem? (i := 255) rfl)) (hw _ (List.mem_of_getElem? (i := 257) rfl)) (hw _ (List.mem_of_getElem? (i := 256) rfl)) (hw _ (List.mem_of_getElem? (i := 32) rfl)) (hw _ (List.mem_of_getElem? (i := 258) rfl)) (nfSel (hw _ (List.mem_of_getElem? (i := 257) rfl))) (inD (i := 0) rfl) (c_rmR hw e m o18) pdg_24 rfl (argsL := []) (rest := []) rfl rfl (Dr := [(e, .inl ("startbeam/ComponentException", [("java/lang/Throwable", "detailMessage", "Ljava/lang/String;", .ref m), ("java/lang/Throwable", "cause", "Ljava/lang/Throwable;", .null), ("startbeam/ComponentException", "remedy", "Ljava/lang/String;", .ref o18)])), (m, .inl ("java/lang/String", [("java/lang/String", "value", "[B", .ref v), ("java/lang/String", "coder", "B", .int 0)])), (v, .inr (.byte, [.int 67, .int 97, .int 110, .int 110, .int 111, .int 116, .int 32, .int 99, .int 114, .int 101, .int 97, .int 116, .int 101, .int 32, .int ((a &&& 255).toInt8.toInt32), .int (((ush a 8) &&& 255).toInt8.toInt32), .int 58, .int 32, .int ((bq &&& 255).toInt8.toInt32), .int (((ush bq 8) &&& 255).toInt8.toInt32)])), (o21, .inl ("java/lang/String", [("java/lang/String", "value", "[B", .ref t23), ("java/lang/String", "coder", "B", .int 0)])), (t23, .inr (.byte, [.int 67, .int 97, .int 110, .int 110, .int 111, .int 116, .int 32, .int 99, .int 114, .int 101, .int 97, .int 116, .int 101, .int 32, .int ((a &&& 255).toInt8.toInt32), .int (((ush a 8) &&& 255).toInt8.toInt32), .int 58, .int 32, .int ((bq &&& 255).toInt8.toInt32), .int (((ush bq 8) &&& 255).toInt8.toInt32)])), (o22, .inr (.char, [.int 67, .int 97, .int 110, .int 110, .int 111, .int 116, .int 32, .int 99, .int 114, .int 101, .int 97, .int 116, .int 101, .int 32, .int (a &&& 255), .int ((ush a 8) &&& 255), .int 58, .int 32, .int (bq &&& 255), .int ((ush bq 8) &&& 255)])), (o18, .inl ("java/lang/String", [("java/lang/String", "value", "[B", .ref t20), ("java/lang/String", "coder", "B", .int 0)])), (t20, .inr (.byte, [.int (((ush c 1) &&& 255).toInt8.toInt32), .int (((ush c 9) &&& 255).toInt8.toInt32)])), (o19, .inr (.char, [.int ((ush c 1) &&& 255), .int ((ush c 9) &&& 255)])), (o4, .inl ("java/lang/String", [("java/lang/String", "value", "[B", .ref t6), ("java/lang/String", "coder", "B", .int 0)])), (t6, .inr (.byte, [.int ((bq &&& 255).toInt8.toInt32), .int (((ush bq 8) &&& 255).toInt8.toInt32)])), (o5, .inr (.char, [.int (bq &&& 255), .int ((ush bq 8) &&& 255)])), (o1, .inl ("java/lang/String", [("java/lang/String", "value", "[B", .ref t3), ("java/lang/String", "coder", "B", .int 0)])), (t3, .inr (.byte, [.int ((a &&& 255).toInt8.toInt32), .int (((ush a 8) &&& 255).toInt8.toInt32)])), (o2, .inr (.char, [.int (a &&& 255), .int ((ush a 8) &&& 255)]))]) rfl (eS (Or.inr ⟨rfl, List.mem_of_getElem? (i := 0) rfl⟩) eN) (G := ?_)
    rintro _ _ _ ⟨rfl, rfl, rfl⟩
    refine Go.norm (D2 := [(e, .inl ("startbeam/ComponentException", [("java/lang/Throwable", "detailMessage", "Ljava/lang/String;", .ref m), ("java/lang/Throwable", "cause", "Ljava/lang/Throwable;", .null), ("startbeam/ComponentException", "remedy", "Ljava/lang/String;", .ref o18)])), (m, .inl ("java/lang/String", [("java/lang/String", "value", "[B", .ref v), ("java/lang/String", "coder", "B", .int 0)])), (v, .inr (.byte, [.int 67, .int 97, .int 110, .int 110, .int 111, .int 116, .int 32, .int 99, .int 114, .int 101, .int 97, .int 116, .int 101, .int 32, .int ((a &&& 255).toInt8.toInt32), .int (((ush a 8) &&& 255).toInt8.toInt32), .int 58, .int 32, .int ((bq &&& 255).toInt8.toInt32), .int (((ush bq 8) &&& 255).toInt8.toInt32)])), (o21, .inl ("java/lang/String", [("java/lang/String", "value", "[B", .ref t23), ("java/lang/String", "coder", "B", .int 0)])), (t23, .inr (.byte, [.int 67, .int 97, .int 110, .int 110, .int 111, .int 116, .int 32, .int 99, .int 114, .int 101, .int 97, .int 116, .int 101, .int 32, .int ((a &&& 255).toInt8.toInt32), .int (((ush a 8) &&& 255).toInt8.toInt32), .int 58, .int 32, .int ((bq &&& 255).toInt8.toInt32), .int (((ush bq 8) &&& 255).toInt8.toInt32)])), (o22, .inr (.char, [.int 67, .int 97, .int 110, .int 110, .int 111, .int 116, .int 32, .int 99, .int 114, .int 101, .int 97, .int 116, .int 101, .int 32, .int (a &&& 255), .int ((ush a 8) &&& 255), .int 58, .int 32, .int (bq &&& 255), .int ((ush bq 8) &&& 255)])), (o18, .inl ("java/lang/String", [("java/lang/String", "value", "[B", .ref t20), ("java/lang/String", "coder", "B", .int 0)])), (t20, .inr (.byte, [.int (((ush c 1) &&& 255).toInt8.toInt32), .int (((ush c 9) &&& 255).toInt8.toInt32)])), (o19, .inr (.char, [.int ((ush c 1) &&& 255), .int ((ush c 9) &&& 255)])), (o4, .inl ("java/lang/String", [("java/lang/String", "value", "[B", .ref t6), ("java/lang/String", "coder", "B", .int 0)])), (t6, .inr (.byte, [.int ((bq &&& 255).toInt8.toInt32), .int (((ush bq 8) &&& 255).toInt8.toInt32)])), (o5, .inr (.char, [.int (bq &&& 255), .int ((ush bq 8) &&& 255)])), (o1, .inl ("java/lang/String", [("java/lang/String", "value", "[B", .ref t3), ("java/lang/String", "coder", "B", .int 0)])), (t3, .inr (.byte, [.int ((a &&& 255).toInt8.toInt32), .int (((ush a 8) &&& 255).toInt8.toInt32)])), (o2, .inr (.char, [.int (a &&& 255), .int ((ush a 8) &&& 255)]))]) (S2 := []) (c2 := 27) (s2 := 3027) (st2 := [.ref o18]) ?_
    refine Go.astore d42_310 (Ls' := #[.val (.int a), .val (.int bq), .val (.int c), .val (.int (a &&& 255)), .val (.int ((ush a 8) &&& 255)), .val (.int (bq &&& 255)), .val (.int ((ush bq 8) &&& 255)), .val (.ref o1), .val (.ref o4), .val (.int 1), .val (.ref o18), .val (.ref o21), .val (.ref e), .val (.ref o18)]) rfl (G := ?_)
    refine Go.aload d42_312 rfl (G := ?_)
    refine Go.ifnonnullY d42_314 (pc2 := 328) (G := ?_)
    refine Go.aload d42_328 rfl (G := ?_)
    refine Go.aload d42_330 rfl (G := ?_)
    refine Go.invokevirtual false d42_332 (hw _ (List.mem_of_getElem? (i := 238) rfl)) (hw _ (List.mem_of_getElem? (i := 239) rfl)) (hw _ (List.mem_of_getElem? (i := 241) rfl)) (hw _ (List.mem_of_getElem? (i := 240) rfl)) (hw _ (List.mem_of_getElem? (i := 2) rfl)) (hw _ (List.mem_of_getElem? (i := 242) rfl)) (nfSel (hw _ (List.mem_of_getElem? (i := 241) rfl))) (inD (i := 6) rfl) (c_eqSame hw o18) pdg_31 rfl (argsL := [.ref o18]) (rest := []) rfl rfl (Dr := [(e, .inl ("startbeam/ComponentException", [("java/lang/Throwable", "detailMessage", "Ljava/lang/String;", .ref m), ("java/lang/Throwable", "cause", "Ljava/lang/Throwable;", .null), ("startbeam/ComponentException", "remedy", "Ljava/lang/String;", .ref o18)])), (m, .inl ("java/lang/String", [("java/lang/String", "value", "[B", .ref v), ("java/lang/String", "coder", "B", .int 0)])), (v, .inr (.byte, [.int 67, .int 97, .int 110, .int 110, .int 111, .int 116, .int 32, .int 99, .int 114, .int 101, .int 97, .int 116, .int 101, .int 32, .int ((a &&& 255).toInt8.toInt32), .int (((ush a 8) &&& 255).toInt8.toInt32), .int 58, .int 32, .int ((bq &&& 255).toInt8.toInt32), .int (((ush bq 8) &&& 255).toInt8.toInt32)])), (o21, .inl ("java/lang/String", [("java/lang/String", "value", "[B", .ref t23), ("java/lang/String", "coder", "B", .int 0)])), (t23, .inr (.byte, [.int 67, .int 97, .int 110, .int 110, .int 111, .int 116, .int 32, .int 99, .int 114, .int 101, .int 97, .int 116, .int 101, .int 32, .int ((a &&& 255).toInt8.toInt32), .int (((ush a 8) &&& 255).toInt8.toInt32), .int 58, .int 32, .int ((bq &&& 255).toInt8.toInt32), .int (((ush bq 8) &&& 255).toInt8.toInt32)])), (o22, .inr (.char, [.int 67, .int 97, .int 110, .int 110, .int 111, .int 116, .int 32, .int 99, .int 114, .int 101, .int 97, .int 116, .int 101, .int 32, .int (a &&& 255), .int ((ush a 8) &&& 255), .int 58, .int 32, .int (bq &&& 255), .int ((ush bq 8) &&& 255)])), (o18, .inl ("java/lang/String", [("java/lang/String", "value", "[B", .ref t20), ("java/lang/String", "coder", "B", .int 0)])), (t20, .inr (.byte, [.int (((ush c 1) &&& 255).toInt8.toInt32), .int (((ush c 9) &&& 255).toInt8.toInt32)])), (o19, .inr (.char, [.int ((ush c 1) &&& 255), .int ((ush c 9) &&& 255)])), (o4, .inl ("java/lang/String", [("java/lang/String", "value", "[B", .ref t6), ("java/lang/String", "coder", "B", .int 0)])), (t6, .inr (.byte, [.int ((bq &&& 255).toInt8.toInt32), .int (((ush bq 8) &&& 255).toInt8.toInt32)])), (o5, .inr (.char, [.int (bq &&& 255), .int ((ush bq 8) &&& 255)])), (o1, .inl ("java/lang/String", [("java/lang/String", "value", "[B", .ref t3), ("java/lang/String", "coder", "B", .int 0)])), (t3, .inr (.byte, [.int ((a &&& 255).toInt8.toInt32), .int (((ush a 8) &&& 255).toInt8.toInt32)])), (o2, .inr (.char, [.int (a &&& 255), .int ((ush a 8) &&& 255)]))]) rfl eN (G := ?_)
    rintro _ _ _ ⟨rfl, rfl, rfl⟩
    refine Go.norm (D2 := [(e, .inl ("startbeam/ComponentException", [("java/lang/Throwable", "detailMessage", "Ljava/lang/String;", .ref m), ("java/lang/Throwable", "cause", "Ljava/lang/Throwable;", .null), ("startbeam/ComponentException", "remedy", "Ljava/lang/String;", .ref o18)])), (m, .inl ("java/lang/String", [("java/lang/String", "value", "[B", .ref v), ("java/lang/String", "coder", "B", .int 0)])), (v, .inr (.byte, [.int 67, .int 97, .int 110, .int 110, .int 111, .int 116, .int 32, .int 99, .int 114, .int 101, .int 97, .int 116, .int 101, .int 32, .int ((a &&& 255).toInt8.toInt32), .int (((ush a 8) &&& 255).toInt8.toInt32), .int 58, .int 32, .int ((bq &&& 255).toInt8.toInt32), .int (((ush bq 8) &&& 255).toInt8.toInt32)])), (o21, .inl ("java/lang/String", [("java/lang/String", "value", "[B", .ref t23), ("java/lang/String", "coder", "B", .int 0)])), (t23, .inr (.byte, [.int 67, .int 97, .int 110, .int 110, .int 111, .int 116, .int 32, .int 99, .int 114, .int 101, .int 97, .int 116, .int 101, .int 32, .int ((a &&& 255).toInt8.toInt32), .int (((ush a 8) &&& 255).toInt8.toInt32), .int 58, .int 32, .int ((bq &&& 255).toInt8.toInt32), .int (((ush bq 8) &&& 255).toInt8.toInt32)])), (o22, .inr (.char, [.int 67, .int 97, .int 110, .int 110, .int 111, .int 116, .int 32, .int 99, .int 114, .int 101, .int 97, .int 116, .int 101, .int 32, .int (a &&& 255), .int ((ush a 8) &&& 255), .int 58, .int 32, .int (bq &&& 255), .int ((ush bq 8) &&& 255)])), (o18, .inl ("java/lang/String", [("java/lang/String", "value", "[B", .ref t20), ("java/lang/String", "coder", "B", .int 0)])), (t20, .inr (.byte, [.int (((ush c 1) &&& 255).toInt8.toInt32), .int (((ush c 9) &&& 255).toInt8.toInt32)])), (o19, .inr (.char, [.int ((ush c 1) &&& 255), .int ((ush c 9) &&& 255)])), (o4, .inl ("java/lang/String", [("java/lang/String", "value", "[B", .ref t6), ("java/lang/String", "coder", "B", .int 0)])), (t6, .inr (.byte, [.int ((bq &&& 255).toInt8.toInt32), .int (((ush bq 8) &&& 255).toInt8.toInt32)])), (o5, .inr (.char, [.int (bq &&& 255), .int ((ush bq 8) &&& 255)])), (o1, .inl ("java/lang/String", [("java/lang/String", "value", "[B", .ref t3), ("java/lang/String", "coder", "B", .int 0)])), (t3, .inr (.byte, [.int ((a &&& 255).toInt8.toInt32), .int (((ush a 8) &&& 255).toInt8.toInt32)])), (o2, .inr (.char, [.int (a &&& 255), .int ((ush a 8) &&& 255)]))]) (S2 := []) (c2 := 27) (s2 := 3027) (st2 := [.int 1]) ?_
    refine Go.sub [] (by decide) rfl (D' := []) rfl (S' := []) eN (G := ?_)
    exact Go.retB d42_335 (by simp) (z' := 1) rfl ⟨rfl, rfl, rfl⟩

theorem mk_of {s : State} (h : Jvm.D.tablesKnown s = true) : s.vm.MethodsKnown := fun m x hx => by
  simp only [Vm.method?, Option.bind_eq_bind, Option.bind_eq_some_iff] at hx
  obtain ⟨k, hk, hm⟩ := hx
  refine ⟨k, hk, fun cf hcf => ?_⟩
  obtain ⟨hlt, rfl⟩ := Array.getElem?_eq_some_iff.mp hk
  have q := Array.all_eq_true_iff_forall_mem.mp h _ (Array.getElem_mem hlt)
  rw [hcf] at q
  have q : (s.vm.classes[m.cls]).methods.size = cf.methods.size := by simpa using q
  have hi := (Array.getElem?_eq_some_iff.mp hm).1
  rw [Array.getElem?_eq_getElem (by omega)]; rfl
theorem fk_of {s : State} {m : MethodId} {args : Array Value} {below : List Frame} (hf : s.frames = .invoking m args :: below) (h : Jvm.D.framesKnown s = true) : s.vm.FramesKnown below := fun y hy m' hm => by
  have q := List.all_eq_true.mp h y (by rw [hf]; exact List.mem_cons_of_mem _ hy)
  have key : ∀ m2, Jvm.D.methodKnown s.vm m2 = true → s.vm.knowsMethod m2 := fun m2 h2 => by
    unfold Jvm.D.methodKnown at h2
    split at h2
    · rename_i k hk
      refine ⟨k, hk, fun cf hcf => ?_⟩
      rw [hcf] at h2; exact h2
    · cases h2
  cases y <;> simp [frameMethod?] at hm <;> subst hm <;> exact key _ q

set_option maxRecDepth 65536 in
set_option maxHeartbeats 40000000 in
theorem comes_1 {Post : Tables → Env → Array Value → State → Outcome → State → Prop} (hpost : ∀ tb e args s v u, (limb_1_1.after args s (.returned v) u = true ∧ limb_1_2.after args s (.returned v) u = true ∧ True) → ReturnedEndW s (.returned v) u (Jvm.fieldLocs frame_1_writes args s ++ Jvm.arrayLocs frame_1_arrays args s ++ Jvm.staticLocs frame_1_statics s) 56 7936 → Post tb e args s (.returned v) u) :
    ArmFor flags0 classFile x code maxLocals ret World_1 tables_1 room_1 Calls_1 rest_1 Pre_1 Post := by
  intro l hfl _ _ p e ha hc hk s m args below hf hA hF happ hP
  obtain ⟨hcalls, hrest, hpre⟩ := hP
  obtain ⟨-, -, -, hnamed, -, -, -, hat⟩ := (Spec.applies_iff hf).mp happ
  obtain ⟨hg, hn⟩ := and_e (Cond.before_iff.mp (show (Jvm.Cond.and given_1 narrow_1).before args s = true from hpre))
  obtain ⟨hcount, g0⟩ := and_e hg
  obtain ⟨t0, g1⟩ := and_e g0
  obtain ⟨t1, g2⟩ := and_e g1
  obtain ⟨w0, w1, w2, rfl⟩ : ∃ w0 w1 w2 : Value, args = #[w0, w1, w2] := by
    have hs : args.size = 3 := by simpa [Cond.value, given_1] using hcount
    obtain ⟨L⟩ := args
    match L, hs with
    | [w0, w1, w2], _ => exact ⟨w0, w1, w2, rfl⟩
  have hw := fun d (hd : d ∈ tables_1) => atoms_spec (ws := Jvm.Cond.code x code maxLocals ret :: tables_1) hat d (List.mem_cons_of_mem _ hd)
  obtain ⟨hsets, hown0⟩ := atoms_of _ (rest_1_c_eq ▸ (show rest_1_c.before _ s = true from hrest))
  have hfit : Fit s := fun {y c} hc i hi => by
    obtain ⟨ha, rfl⟩ := Array.getElem?_eq_some_iff.mp hc
    have q := List.all_eq_true.mp ((Array.all_eq_true_iff_forall_mem.mp hF) _ (Array.getElem_mem ha)) i (List.mem_range.mpr hi)
    simpa [Array.getElem?_eq_getElem hi] using q
  obtain ⟨x0, ex0⟩ := is_v t0
  obtain rfl : w0 = (.int x0) := Option.some.inj ex0
  obtain ⟨x1, ex1⟩ := is_v t1
  obtain rfl : w1 = (.int x1) := Option.some.inj ex1
  obtain ⟨x2, ex2⟩ := is_v g2
  obtain rfl : w2 = (.int x2) := Option.some.inj ex2
  have nz := not_v (Cond.before_iff.mp (hsets _ (List.mem_of_getElem? (i := 2) rfl)))
  obtain ⟨cpt, ecs⟩ := is_v (Cond.before_iff.mp (hsets _ (List.mem_of_getElem? (i := 1) rfl)))
  have hCS : Sta s s.heap "java/lang/String" "COMPACT_STRINGS" "Z" (.int cpt) := Sta.start ecs (Or.inl (hsets _ (List.mem_of_getElem? (i := 0) rfl)))
  have hcpt : ¬ (cpt = (0 : Int32)) := gotF (Cond.eq_ints ecs (Term.int_eval (0))) nz
  obtain ⟨fmt, efm, hfm⟩ := isR_v (Cond.before_iff.mp (hsets _ (List.mem_of_getElem? (i := 8) rfl)))
  have hFM : Sta s s.heap "jdk/internal/util/Preconditions" "SIOOBE_FORMATTER" "Ljava/util/function/BiFunction;" fmt := Sta.start efm (Or.inl (hsets _ (List.mem_of_getElem? (i := 7) rfl)))
  obtain ⟨su, esu⟩ := arr_v (Cond.before_iff.mp (hsets _ (List.mem_of_getElem? (i := 17) rfl)))
  have hUS : Sta s s.heap "java/lang/Throwable" "UNASSIGNED_STACK" "[Ljava/lang/StackTraceElement;" (.ref su) := Sta.start esu (Or.inl (hsets _ (List.mem_of_getElem? (i := 15) rfl)))
  obtain ⟨sn, esn⟩ := exa_v (Cond.before_iff.mp (hsets _ (List.mem_of_getElem? (i := 22) rfl)))
  have hSS : Sta s s.heap "java/lang/Throwable" "SUPPRESSED_SENTINEL" "Ljava/util/List;" (.ref sn) := Sta.start esn (Or.inl (hsets _ (List.mem_of_getElem? (i := 20) rfl)))
  have hl : l.stackTraces = true := by unfold Launch.stackTraces; rw [hfl]; decide
  have hEW : EW s #[.int x0, .int x1, .int x2] ([("startbeam/ComponentException", 41), ("startbeam/ComponentException", 47)] : List (String × Nat)) := (EW.cons (hw _ (List.mem_of_getElem? (i := 57) rfl)) (by decide) (EW.cons (hw _ (List.mem_of_getElem? (i := 107) rfl)) (by decide) EW.nil))
  have hCH : CHv s ([("startbeam/ComponentException", 41), ("startbeam/ComponentException", 47)] : List (String × Nat)) s.vm s.heap := CHv.start hEW (show ∀ p ∈ ([("startbeam/ComponentException", 41), ("startbeam/ComponentException", 47)] : List (String × Nat)), Jvm.Lit.constHeld s p.1 p.2 from hcalls.2.2.1) (hsets _ (List.mem_of_getElem? (i := 2) rfl)) (hw _ (List.mem_of_getElem? (i := 19) rfl)) (hw _ (List.mem_of_getElem? (i := 1) rfl))
  obtain ⟨n, o, r1, r2, r3, v, L, rfl, ⟨D', S', hQ, hHH, -, -, -, hFr, -, -, hwb⟩, hend⟩ := c_law (l := l) (EL := ([("startbeam/ComponentException", 41), ("startbeam/ComponentException", 47)] : List (String × Nat))) (b := true) (n0 := s.heap.size) hw x0 x1 x2 cpt hCS hcpt rfl (by simp) (by simp) hl su sn hUS hSS (fun _ => False) p e ha hc hk s m _ below hf ((Spec.applies_iff_loose hf).mp happ).1 ⟨rfl, hEW, State.Warmed39.refl s, hCH, Old.start s, ⟨eN, eN, List.nodup_nil, eN⟩, eN, eN, fun _ q => False.elim q⟩ (fun _ => ⟨mk_of hcalls.2.1, fk_of hf hcalls.1⟩)
  obtain ⟨rfl, -, -⟩ := hQ
  exact ⟨n, _, r1, r2, r3, hpost _ _ _ _ _ _ ⟨Cond.after_iff.mpr rfl, Cond.after_iff.mpr (eq_i res_at (Term.int_eval (1)) rfl), trivial⟩ ⟨hend.1, hend.2.1, hend.2.2.1, (hend.2.2.2.sift fun y hy => Or.inr (hFr y hy)).mono (by decide) (by decide)⟩⟩
theorem main_1_1 : Claimed_1_1 := comes_1 fun _ _ _ _ _ _ h hF => ⟨h.1, hF⟩
theorem main_1_2 : Claimed_1_2 := comes_1 fun _ _ _ _ _ _ h hF => ⟨h.2.1, hF⟩
end Jvm.Pilot.@@N@@
namespace Jvm.Pilot.@@N@@
open Jvm Jvm.ClassFile Sem Op Lib Jvm.Free Jvm.Stand Jvm.Pilot.@@N@@.Jvm.D
/-! MADE BY PROGRAM (witnessworld.py) out of the Statement's table words and the real class files: 42 classes; the members and pool entries that the words name. The judged class is class 1, her method 1. -/
namespace start1
open Jvm.ClassFile
def u (s : String) : CpInfo := .utf8 (stringToUtf16 s)
/-- a pool by its gaps: so many unusable entries, then the entry; so many at the end -/
def gap : Nat → List CpInfo → List CpInfo
  | 0, r => r
  | n + 1, r => .unusable :: gap n r
def poolList (es : List (Nat × CpInfo)) (last : Nat) : List CpInfo := es.foldr (fun e r => gap e.1 (e.2 :: r)) (gap last [])
def pool (es : List (Nat × CpInfo)) (last : Nat) : Array CpInfo := ⟨poolList es last⟩
def fileOf (pool : Array CpInfo) (this : Nat) (attrs : Array Attribute := #[]) (ms : Array MethodInfo := #[]) (fl : Nat := 33) (sup : Nat := 0) (ifs : Array Nat := #[]) (fds : Array FieldInfo := #[]) : ClassFile where
  minorVersion := 0
  majorVersion := 65
  constantPool := pool
  accessFlags := fl
  thisClass := this
  superClass := sup
  interfaces := ifs
  fields := fds
  methods := ms
  attributes := attrs
def plain (name : String) (sup : Option ClassId) : Class where
  name := name
  kind := .ordinary
  loader := none
  accessFlags := 33
  super := sup
  interfaces := #[]
  cf := none
  fields := #[]
  methods := #[]
  instanceTypes := #[]
  staticTypes := #[]
  resolved := #[]
  callSites := []
  init := .initialized
  statics := none
  mirror := none

def pool0 : Array CpInfo := pool [(5, u "<init>"), (0, u "()V"), (1, .class_ 10), (1, u "java/lang/Object")] 113

def k0c0 : Code := { maxStack := 0, maxLocals := 1, code := object_method_1_code, exceptionTable := #[], attributes := #[] }
def k0m0 : Method := { name := "<init>", desc := "()V", sig := { parameters := [], returnType := none }, accessFlags := 1, code := some k0c0 }
/-- java/lang/Object -/
def k0 : Class := { plain "java/lang/Object" none with
  accessFlags := 33
  interfaces := #[]
  cf := some (fileOf pool0 8 #[] #[{ accessFlags := 1, nameIndex := 5, descriptorIndex := 6, attributes := #[] }] 33 0 #[] #[])
  fields := #[]
  methods := #[k0m0]
  instanceTypes := #[]
  staticTypes := #[]
  resolved := Array.replicate 124 none
  statics := none }

def pool1 : Array CpInfo := pool [(2, .class_ 4), (1, u "java/lang/Object"), (0, u "<init>"), (0, u "()V"), (0, .class_ 8), (0, u "java/lang/String"), (0, .methodref 7 10), (0, .nameAndType 5 11), (0, u "([C)V"), (0, .methodref 13 14), (0, .class_ 15), (0, .nameAndType 16 17), (0, u "startbeam/ComponentException"), (0, u "cannotCreate"), (0, u "(Ljava/lang/String;Ljava/lang/String;Ljava/lang/String;)Lstartbeam/ComponentException;"), (0, .methodref 13 19), (0, .nameAndType 20 21), (0, u "getMessage"), (0, u "()Ljava/lang/String;"), (0, .methodref 7 23), (0, .nameAndType 24 25), (0, u "equals"), (0, u "(Ljava/lang/Object;)Z"), (0, .methodref 13 27), (0, .nameAndType 28 29), (0, u "getCause"), (0, u "()Ljava/lang/Throwable;"), (0, .methodref 13 31), (0, .nameAndType 32 21), (0, u "remedy"), (0, .class_ 34), (0, u "startbeam/ComponentExceptionCannotCreatePinLaw"), (2, u "law"), (0, u "(III)Z")] 3

def k1m0 : Method := { name := "<init>", desc := "()V", sig := { parameters := [], returnType := none }, accessFlags := 1, code := none }
def k1c1 : Code := { maxStack := 7, maxLocals := 14, code := code, exceptionTable := #[], attributes := #[] }
def k1m1 : Method := { name := "law", desc := "(III)Z", sig := { parameters := [.int, .int, .int], returnType := some .boolean }, accessFlags := 9, code := some k1c1 }
/-- startbeam/ComponentExceptionCannotCreatePinLaw -/
def k1 : Class := { plain "startbeam/ComponentExceptionCannotCreatePinLaw" (some 0) with
  accessFlags := 49
  interfaces := #[]
  cf := some (fileOf pool1 33 #[] #[{ accessFlags := 1, nameIndex := 5, descriptorIndex := 6, attributes := #[] }, { accessFlags := 9, nameIndex := 37, descriptorIndex := 38, attributes := #[] }] 49 2 #[] #[])
  fields := #[]
  methods := #[k1m0, k1m1]
  instanceTypes := #[]
  staticTypes := #[]
  resolved := Array.replicate 42 none
  statics := none }

def pool2 : Array CpInfo := pool [(1, .class_ 2), (0, u "java/io/Serializable"), (0, .class_ 4), (0, u "java/lang/Object")] 2

/-- java/io/Serializable -/
def k2 : Class := { plain "java/io/Serializable" (some 0) with
  accessFlags := 1537
  interfaces := #[]
  cf := some (fileOf pool2 1 #[] #[] 1537 3 #[] #[])
  fields := #[]
  methods := #[]
  instanceTypes := #[]
  staticTypes := #[]
  resolved := Array.replicate 7 none
  statics := none }

def pool3 : Array CpInfo := pool [(1, .class_ 2), (0, u "java/lang/Comparable"), (0, .class_ 4), (0, u "java/lang/Object")] 7

/-- java/lang/Comparable -/
def k3 : Class := { plain "java/lang/Comparable" (some 0) with
  accessFlags := 1537
  interfaces := #[]
  cf := some (fileOf pool3 1 #[] #[] 1537 3 #[] #[])
  fields := #[]
  methods := #[]
  instanceTypes := #[]
  staticTypes := #[]
  resolved := Array.replicate 12 none
  statics := none }

def pool4 : Array CpInfo := pool [(2, .class_ 4), (1, u "java/lang/CharSequence"), (42, .class_ 48), (0, u "java/lang/CharSequence$1CodePointIterator"), (10, .class_ 60), (0, u "java/lang/CharSequence$1CharIterator"), (5, .class_ 67), (0, u "java/lang/Object")] 63

/-- java/lang/CharSequence -/
def k4 : Class := { plain "java/lang/CharSequence" (some 0) with
  accessFlags := 1537
  interfaces := #[]
  cf := some (fileOf pool4 2 #[.nestMembers #[47, 59]] #[] 1537 66 #[] #[])
  fields := #[]
  methods := #[]
  instanceTypes := #[]
  staticTypes := #[]
  resolved := Array.replicate 131 none
  statics := none }

def pool5 : Array CpInfo := pool [(1, .class_ 2), (0, u "java/lang/constant/Constable"), (0, .class_ 4), (0, u "java/lang/Object")] 6

/-- java/lang/constant/Constable -/
def k5 : Class := { plain "java/lang/constant/Constable" (some 0) with
  accessFlags := 1537
  interfaces := #[]
  cf := some (fileOf pool5 1 #[] #[] 1537 3 #[] #[])
  fields := #[]
  methods := #[]
  instanceTypes := #[]
  staticTypes := #[]
  resolved := Array.replicate 11 none
  statics := none }

def pool6 : Array CpInfo := pool [(1, .class_ 2), (0, u "java/lang/constant/ConstantDesc"), (0, .class_ 4), (0, u "java/lang/Object")] 32

/-- java/lang/constant/ConstantDesc -/
def k6 : Class := { plain "java/lang/constant/ConstantDesc" (some 0) with
  accessFlags := 1537
  interfaces := #[]
  cf := some (fileOf pool6 1 #[] #[] 1537 3 #[] #[])
  fields := #[]
  methods := #[]
  instanceTypes := #[]
  staticTypes := #[]
  resolved := Array.replicate 37 none
  statics := none }

def pool7 : Array CpInfo := pool [(1, .methodref 2 3), (0, .class_ 4), (0, .nameAndType 5 6), (0, u "java/lang/Object"), (0, u "<init>"), (0, u "()V"), (2, .fieldref 10 11), (0, .class_ 12), (0, .nameAndType 13 14), (0, u "java/lang/String"), (0, u "value"), (0, u "[B"), (0, .fieldref 10 16), (0, .nameAndType 17 18), (0, u "coder"), (0, u "B"), (2, u "hash"), (0, u "I"), (2, u "hashIsZero"), (0, u "Z"), (0, .methodref 10 28), (0, .nameAndType 5 29), (0, u "([CIILjava/lang/Void;)V"), (8, .fieldref 10 39), (0, .nameAndType 40 26), (0, u "COMPACT_STRINGS"), (1, .class_ 44), (1, u "java/lang/StringUTF16"), (0, u "compress"), (1, .methodref 42 48), (0, .nameAndType 49 50), (0, u "coderFromArrayLen"), (0, u "([BI)B"), (3, .methodref 55 56), (0, .class_ 57), (0, .nameAndType 58 59), (0, u "java/util/Arrays"), (0, u "copyOfRange"), (0, u "([BII)[B"), (47, .class_ 109), (1, u "java/lang/StringLatin1"), (32, u "()Z"), (34, .methodref 42 178), (0, .nameAndType 45 179), (0, u "([CII)[B"), (13, .class_ 195), (1, u "java/lang/System"), (16, .methodref 193 213), (0, .nameAndType 214 215), (0, u "arraycopy"), (0, u "(Ljava/lang/Object;ILjava/lang/Object;II)V"), (118, u "()I"), (0, .methodref 10 336), (0, .nameAndType 17 337), (0, u "()B"), (2, u "()[B"), (148, .methodref 10 490), (0, .nameAndType 5 491), (0, u "(Ljava/lang/AbstractStringBuilder;Ljava/lang/Void;)V"), (1, .nameAndType 494 142), (0, u "isLatin1"), (11, .nameAndType 507 334), (0, u "length"), (24, u "getBytes"), (8, .methodref 107 542), (0, .nameAndType 543 544), (0, u "equals"), (0, u "([B[B)Z"), (4, .methodref 550 506), (0, .class_ 551), (0, u "java/lang/AbstractStringBuilder"), (0, .methodref 550 553), (0, .nameAndType 554 340), (0, u "getValue"), (18, u "(Ljava/lang/Object;)Z"), (1, .class_ 576), (0, u "java/lang/CharSequence"), (22, u "CASE_INSENSITIVE_ORDER"), (0, u "Ljava/util/Comparator;"), (220, u "([BIB)V"), (188, u "([C)V"), (36, .methodref 550 493), (53, u "serialPersistentFields"), (0, u "[Ljava/io/ObjectStreamField;"), (0, .class_ 1104), (0, u "java/lang/String$CaseInsensitiveComparator"), (1, .class_ 1107), (0, u "java/io/Serializable"), (0, .class_ 1109), (0, u "java/lang/Comparable"), (0, .class_ 1111), (0, u "java/lang/constant/Constable"), (0, .class_ 1113), (0, u "java/lang/constant/ConstantDesc"), (2, u "serialVersionUID"), (0, u "J"), (3, u "REPL"), (0, u "C"), (2, u "LATIN1"), (1, u "UTF16"), (105, u "(Ljava/lang/StringBuilder;)V")] 217

def k7m0 : Method := { name := "<init>", desc := "()V", sig := { parameters := [], returnType := none }, accessFlags := 1, code := none }
def k7c1 : Code := { maxStack := 5, maxLocals := 2, code := jdk_42_method_3_code, exceptionTable := #[], attributes := #[] }
def k7m1 : Method := { name := "<init>", desc := "([C)V", sig := { parameters := [(.array .char)], returnType := none }, accessFlags := 1, code := some k7c1 }
def k7c2 : Code := { maxStack := 3, maxLocals := 2, code := jdk_42_method_53_code, exceptionTable := #[], attributes := #[] }
def k7m2 : Method := { name := "<init>", desc := "(Ljava/lang/StringBuilder;)V", sig := { parameters := [(.object "java/lang/StringBuilder")], returnType := none }, accessFlags := 1, code := some k7c2 }
def k7c3 : Code := { maxStack := 2, maxLocals := 1, code := jdk_42_method_54_code, exceptionTable := #[], attributes := #[] }
def k7m3 : Method := { name := "length", desc := "()I", sig := { parameters := [], returnType := some .int }, accessFlags := 1, code := some k7c3 }
def k7c4 : Code := { maxStack := 2, maxLocals := 3, code := jdk_42_method_66_code, exceptionTable := #[], attributes := #[] }
def k7m4 : Method := { name := "equals", desc := "(Ljava/lang/Object;)Z", sig := { parameters := [(.object "java/lang/Object")], returnType := some .boolean }, accessFlags := 1, code := some k7c4 }
def k7c5 : Code := { maxStack := 5, maxLocals := 4, code := jdk_42_method_147_code, exceptionTable := #[], attributes := #[] }
def k7m5 : Method := { name := "getBytes", desc := "([BIB)V", sig := { parameters := [(.array .byte), .int, .byte], returnType := none }, accessFlags := 0, code := some k7c5 }
def k7c6 : Code := { maxStack := 4, maxLocals := 6, code := jdk_42_method_149_code, exceptionTable := #[], attributes := #[] }
def k7m6 : Method := { name := "<init>", desc := "([CIILjava/lang/Void;)V", sig := { parameters := [(.array .char), .int, .int, (.object "java/lang/Void")], returnType := none }, accessFlags := 2, code := some k7c6 }
def k7c7 : Code := { maxStack := 5, maxLocals := 5, code := jdk_42_method_150_code, exceptionTable := #[], attributes := #[] }
def k7m7 : Method := { name := "<init>", desc := "(Ljava/lang/AbstractStringBuilder;Ljava/lang/Void;)V", sig := { parameters := [(.object "java/lang/AbstractStringBuilder"), (.object "java/lang/Void")], returnType := none }, accessFlags := 0, code := some k7c7 }
def k7c8 : Code := { maxStack := 1, maxLocals := 1, code := jdk_42_method_152_code, exceptionTable := #[], attributes := #[] }
def k7m8 : Method := { name := "coder", desc := "()B", sig := { parameters := [], returnType := some .byte }, accessFlags := 0, code := some k7c8 }
/-- java/lang/String -/
def k7 : Class := { plain "java/lang/String" (some 0) with
  accessFlags := 49
  interfaces := #[2, 3, 4, 5, 6]
  cf := some (fileOf pool7 10 #[.nestMembers #[1103]] #[{ accessFlags := 1, nameIndex := 5, descriptorIndex := 6, attributes := #[] }, { accessFlags := 1, nameIndex := 5, descriptorIndex := 1010, attributes := #[] }, { accessFlags := 1, nameIndex := 5, descriptorIndex := 1233, attributes := #[] }, { accessFlags := 1, nameIndex := 507, descriptorIndex := 334, attributes := #[] }, { accessFlags := 1, nameIndex := 543, descriptorIndex := 573, attributes := #[] }, { accessFlags := 0, nameIndex := 532, descriptorIndex := 821, attributes := #[] }, { accessFlags := 2, nameIndex := 5, descriptorIndex := 29, attributes := #[] }, { accessFlags := 0, nameIndex := 5, descriptorIndex := 491, attributes := #[] }, { accessFlags := 0, nameIndex := 17, descriptorIndex := 337, attributes := #[] }] 49 2 #[1106, 1108, 575, 1110, 1112] #[{ accessFlags := 18, nameIndex := 13, descriptorIndex := 14, attributes := #[] }, { accessFlags := 18, nameIndex := 17, descriptorIndex := 18, attributes := #[] }, { accessFlags := 2, nameIndex := 21, descriptorIndex := 22, attributes := #[] }, { accessFlags := 2, nameIndex := 25, descriptorIndex := 26, attributes := #[] }, { accessFlags := 26, nameIndex := 1116, descriptorIndex := 1117, attributes := #[] }, { accessFlags := 24, nameIndex := 40, descriptorIndex := 26, attributes := #[] }, { accessFlags := 26, nameIndex := 1101, descriptorIndex := 1102, attributes := #[] }, { accessFlags := 26, nameIndex := 1121, descriptorIndex := 1122, attributes := #[] }, { accessFlags := 25, nameIndex := 599, descriptorIndex := 600, attributes := #[] }, { accessFlags := 24, nameIndex := 1125, descriptorIndex := 18, attributes := #[] }, { accessFlags := 24, nameIndex := 1127, descriptorIndex := 18, attributes := #[] }])
  fields := #[{ name := "value", type := (.array .byte), accessFlags := 18, slot := 0, constantValue := 0 }, { name := "coder", type := .byte, accessFlags := 18, slot := 1, constantValue := 0 }, { name := "hash", type := .int, accessFlags := 2, slot := 2, constantValue := 0 }, { name := "hashIsZero", type := .boolean, accessFlags := 2, slot := 3, constantValue := 0 }, { name := "serialVersionUID", type := .long, accessFlags := 26, slot := 0, constantValue := 0 }, { name := "COMPACT_STRINGS", type := .boolean, accessFlags := 24, slot := 1, constantValue := 0 }, { name := "serialPersistentFields", type := (.array (.object "java/io/ObjectStreamField")), accessFlags := 26, slot := 2, constantValue := 0 }, { name := "REPL", type := .char, accessFlags := 26, slot := 3, constantValue := 0 }, { name := "CASE_INSENSITIVE_ORDER", type := (.object "java/util/Comparator"), accessFlags := 25, slot := 4, constantValue := 0 }, { name := "LATIN1", type := .byte, accessFlags := 24, slot := 5, constantValue := 0 }, { name := "UTF16", type := .byte, accessFlags := 24, slot := 6, constantValue := 0 }]
  methods := #[k7m0, k7m1, k7m2, k7m3, k7m4, k7m5, k7m6, k7m7, k7m8]
  instanceTypes := #[(.array .byte), .byte, .int, .boolean]
  staticTypes := #[.long, .boolean, (.array (.object "java/io/ObjectStreamField")), .char, (.object "java/util/Comparator"), .byte, .byte]
  resolved := Array.replicate 1451 none
  statics := some 0 }

def pool8 : Array CpInfo := pool [(6, .class_ 8), (1, u "java/lang/Object"), (0, u "<init>"), (0, u "()V"), (1, .class_ 14), (1, u "java/lang/StringUTF16"), (31, u "$assertionsDisabled"), (0, u "Z"), (13, u "HI_BYTE_SHIFT"), (0, u "I"), (2, u "LO_BYTE_SHIFT"), (49, .methodref 12 116), (0, .nameAndType 117 118), (0, u "compress"), (0, u "([CI[BII)I"), (3, u "([CII)[B"), (138, u "coderFromArrayLen"), (0, u "([BI)B"), (106, .class_ 371), (1, u "java/lang/StringUTF16$LinesSpliterator"), (58, u "MAX_LENGTH"), (196, .class_ 628), (0, u "java/lang/StringUTF16$CodePointsSpliterator"), (0, .class_ 630), (0, u "java/lang/StringUTF16$CharsSpliterator")] 4

def k8m0 : Method := { name := "<init>", desc := "()V", sig := { parameters := [], returnType := none }, accessFlags := 0, code := none }
def k8c1 : Code := { maxStack := 2, maxLocals := 2, code := jdk_52_method_15_code, exceptionTable := #[], attributes := #[] }
def k8m1 : Method := { name := "coderFromArrayLen", desc := "([BI)B", sig := { parameters := [(.array .byte), .int], returnType := some .byte }, accessFlags := 8, code := some k8c1 }
def k8c2 : Code := { maxStack := 5, maxLocals := 6, code := jdk_52_method_16_code, exceptionTable := #[], attributes := #[] }
def k8m2 : Method := { name := "compress", desc := "([CII)[B", sig := { parameters := [(.array .char), .int, .int], returnType := some (.array .byte) }, accessFlags := 9, code := some k8c2 }
def k8c3 : Code := { maxStack := 3, maxLocals := 7, code := jdk_52_method_21_code, exceptionTable := #[], attributes := #[] }
def k8m3 : Method := { name := "compress", desc := "([CI[BII)I", sig := { parameters := [(.array .char), .int, (.array .byte), .int, .int], returnType := some .int }, accessFlags := 9, code := some k8c3 }
/-- java/lang/StringUTF16 -/
def k8 : Class := { plain "java/lang/StringUTF16" (some 0) with
  accessFlags := 48
  interfaces := #[]
  cf := some (fileOf pool8 12 #[.nestMembers #[627, 629, 369]] #[{ accessFlags := 0, nameIndex := 9, descriptorIndex := 10, attributes := #[] }, { accessFlags := 8, nameIndex := 261, descriptorIndex := 262, attributes := #[] }, { accessFlags := 9, nameIndex := 117, descriptorIndex := 122, attributes := #[] }, { accessFlags := 9, nameIndex := 117, descriptorIndex := 118, attributes := #[] }] 48 6 #[] #[{ accessFlags := 26, nameIndex := 61, descriptorIndex := 62, attributes := #[] }, { accessFlags := 26, nameIndex := 65, descriptorIndex := 62, attributes := #[] }, { accessFlags := 24, nameIndex := 430, descriptorIndex := 62, attributes := #[] }, { accessFlags := 4120, nameIndex := 46, descriptorIndex := 47, attributes := #[] }])
  fields := #[{ name := "HI_BYTE_SHIFT", type := .int, accessFlags := 26, slot := 0, constantValue := 0 }, { name := "LO_BYTE_SHIFT", type := .int, accessFlags := 26, slot := 1, constantValue := 0 }, { name := "MAX_LENGTH", type := .int, accessFlags := 24, slot := 2, constantValue := 0 }, { name := "$assertionsDisabled", type := .boolean, accessFlags := 4120, slot := 3, constantValue := 0 }]
  methods := #[k8m0, k8m1, k8m2, k8m3]
  instanceTypes := #[]
  staticTypes := #[.int, .int, .int, .boolean]
  resolved := Array.replicate 635 none
  statics := none }

def pool9 : Array CpInfo := pool [(1, .methodref 2 3), (0, .class_ 4), (0, .nameAndType 5 6), (0, u "java/lang/Object"), (0, u "<init>"), (0, u "()V"), (0, .fieldref 8 9), (0, .class_ 10), (0, .nameAndType 11 12), (0, u "java/lang/Throwable"), (0, u "cause"), (0, u "Ljava/lang/Throwable;"), (0, .fieldref 8 14), (0, .nameAndType 15 16), (0, u "UNASSIGNED_STACK"), (0, u "[Ljava/lang/StackTraceElement;"), (0, .fieldref 8 18), (0, .nameAndType 19 16), (0, u "stackTrace"), (0, .fieldref 8 21), (0, .nameAndType 22 23), (0, u "SUPPRESSED_SENTINEL"), (0, u "Ljava/util/List;"), (0, .fieldref 8 25), (0, .nameAndType 26 23), (0, u "suppressedExceptions"), (0, .methodref 8 28), (0, .nameAndType 29 30), (0, u "fillInStackTrace"), (0, u "()Ljava/lang/Throwable;"), (0, .fieldref 8 32), (0, .nameAndType 33 34), (0, u "detailMessage"), (0, u "Ljava/lang/String;"), (3, u "()Ljava/lang/String;"), (2, u "getMessage"), (21, u "(Ljava/lang/String;Ljava/lang/Throwable;)V"), (29, .class_ 94), (0, u "java/lang/Throwable$WrappedPrintStream"), (6, .class_ 103), (1, u "java/lang/Throwable$PrintStreamOrWriter"), (54, u "getCause"), (6, u "$assertionsDisabled"), (0, u "Z"), (26, .class_ 194), (0, u "java/lang/Throwable$WrappedPrintWriter"), (3, .fieldref 8 199), (0, .nameAndType 200 201), (0, u "backtrace"), (0, u "Ljava/lang/Object;"), (0, .methodref 8 203), (0, .nameAndType 29 204), (0, u "(I)Ljava/lang/Throwable;"), (6, u "depth"), (0, u "I"), (56, .class_ 271), (1, u "java/lang/Throwable$SentinelHolder"), (32, u "EMPTY_THROWABLE_ARRAY"), (0, u "[Ljava/lang/Throwable;"), (12, .class_ 319), (0, u "java/io/Serializable"), (0, u "serialVersionUID"), (0, u "J"), (5, u "NULL_CAUSE_MESSAGE"), (0, u "SELF_SUPPRESSION_MESSAGE"), (0, u "CAUSE_CAPTION"), (0, u "SUPPRESSED_CAPTION")] 73

def k9c0 : Code := { maxStack := 2, maxLocals := 1, code := jdk_78_method_1_code, exceptionTable := #[], attributes := #[] }
def k9m0 : Method := { name := "<init>", desc := "()V", sig := { parameters := [], returnType := none }, accessFlags := 1, code := some k9c0 }
def k9c1 : Code := { maxStack := 2, maxLocals := 3, code := jdk_78_method_3_code, exceptionTable := #[], attributes := #[] }
def k9m1 : Method := { name := "<init>", desc := "(Ljava/lang/String;Ljava/lang/Throwable;)V", sig := { parameters := [(.object "java/lang/String"), (.object "java/lang/Throwable")], returnType := none }, accessFlags := 1, code := some k9c1 }
def k9c2 : Code := { maxStack := 1, maxLocals := 1, code := jdk_78_method_6_code, exceptionTable := #[], attributes := #[] }
def k9m2 : Method := { name := "getMessage", desc := "()Ljava/lang/String;", sig := { parameters := [], returnType := some (.object "java/lang/String") }, accessFlags := 1, code := some k9c2 }
def k9c3 : Code := { maxStack := 2, maxLocals := 1, code := ⟨#[0x2a, 0xb4, 0x00, 0x07, 0x2a, 0xa6, 0x00, 0x07, 0x01, 0xa7, 0x00, 0x07, 0x2a, 0xb4, 0x00, 0x07, 0xb0]⟩, exceptionTable := #[], attributes := #[] }
def k9m3 : Method := { name := "getCause", desc := "()Ljava/lang/Throwable;", sig := { parameters := [], returnType := some (.object "java/lang/Throwable") }, accessFlags := 33, code := some k9c3 }
def k9c4 : Code := { maxStack := 2, maxLocals := 1, code := ⟨#[0x2a, 0xb4, 0x00, 0x11, 0xc7, 0x00, 0x0a, 0x2a, 0xb4, 0x00, 0xc6, 0xc6, 0x00, 0x10, 0x2a, 0x03, 0xb6, 0x00, 0xca, 0x57, 0x2a, 0xb2, 0x00, 0x0d, 0xb5, 0x00, 0x11, 0x2a, 0xb0]⟩, exceptionTable := #[], attributes := #[] }
def k9m4 : Method := { name := "fillInStackTrace", desc := "()Ljava/lang/Throwable;", sig := { parameters := [], returnType := some (.object "java/lang/Throwable") }, accessFlags := 33, code := some k9c4 }
def k9m5 : Method := { name := "fillInStackTrace", desc := "(I)Ljava/lang/Throwable;", sig := { parameters := [.int], returnType := some (.object "java/lang/Throwable") }, accessFlags := 258, code := none }
/-- java/lang/Throwable -/
def k9 : Class := { plain "java/lang/Throwable" (some 0) with
  accessFlags := 33
  interfaces := #[2]
  cf := some (fileOf pool9 8 #[.nestMembers #[193, 93, 101, 269]] #[{ accessFlags := 1, nameIndex := 5, descriptorIndex := 6, attributes := #[] }, { accessFlags := 1, nameIndex := 5, descriptorIndex := 63, attributes := #[] }, { accessFlags := 1, nameIndex := 41, descriptorIndex := 38, attributes := #[] }, { accessFlags := 33, nameIndex := 158, descriptorIndex := 30, attributes := #[] }, { accessFlags := 33, nameIndex := 29, descriptorIndex := 30, attributes := #[] }, { accessFlags := 258, nameIndex := 29, descriptorIndex := 204, attributes := #[] }] 33 2 #[318] #[{ accessFlags := 26, nameIndex := 320, descriptorIndex := 321, attributes := #[] }, { accessFlags := 130, nameIndex := 200, descriptorIndex := 201, attributes := #[] }, { accessFlags := 2, nameIndex := 33, descriptorIndex := 34, attributes := #[] }, { accessFlags := 26, nameIndex := 15, descriptorIndex := 16, attributes := #[] }, { accessFlags := 2, nameIndex := 11, descriptorIndex := 12, attributes := #[] }, { accessFlags := 2, nameIndex := 19, descriptorIndex := 16, attributes := #[] }, { accessFlags := 130, nameIndex := 211, descriptorIndex := 212, attributes := #[] }, { accessFlags := 26, nameIndex := 22, descriptorIndex := 23, attributes := #[] }, { accessFlags := 2, nameIndex := 26, descriptorIndex := 23, attributes := #[] }, { accessFlags := 26, nameIndex := 327, descriptorIndex := 34, attributes := #[] }, { accessFlags := 26, nameIndex := 328, descriptorIndex := 34, attributes := #[] }, { accessFlags := 26, nameIndex := 329, descriptorIndex := 34, attributes := #[] }, { accessFlags := 26, nameIndex := 330, descriptorIndex := 34, attributes := #[] }, { accessFlags := 26, nameIndex := 304, descriptorIndex := 305, attributes := #[] }, { accessFlags := 4120, nameIndex := 165, descriptorIndex := 166, attributes := #[] }])
  fields := #[{ name := "serialVersionUID", type := .long, accessFlags := 26, slot := 0, constantValue := 0 }, { name := "backtrace", type := (.object "java/lang/Object"), accessFlags := 130, slot := 0, constantValue := 0 }, { name := "detailMessage", type := (.object "java/lang/String"), accessFlags := 2, slot := 1, constantValue := 0 }, { name := "UNASSIGNED_STACK", type := (.array (.object "java/lang/StackTraceElement")), accessFlags := 26, slot := 1, constantValue := 0 }, { name := "cause", type := (.object "java/lang/Throwable"), accessFlags := 2, slot := 2, constantValue := 0 }, { name := "stackTrace", type := (.array (.object "java/lang/StackTraceElement")), accessFlags := 2, slot := 3, constantValue := 0 }, { name := "depth", type := .int, accessFlags := 130, slot := 4, constantValue := 0 }, { name := "SUPPRESSED_SENTINEL", type := (.object "java/util/List"), accessFlags := 26, slot := 2, constantValue := 0 }, { name := "suppressedExceptions", type := (.object "java/util/List"), accessFlags := 2, slot := 5, constantValue := 0 }, { name := "NULL_CAUSE_MESSAGE", type := (.object "java/lang/String"), accessFlags := 26, slot := 3, constantValue := 0 }, { name := "SELF_SUPPRESSION_MESSAGE", type := (.object "java/lang/String"), accessFlags := 26, slot := 4, constantValue := 0 }, { name := "CAUSE_CAPTION", type := (.object "java/lang/String"), accessFlags := 26, slot := 5, constantValue := 0 }, { name := "SUPPRESSED_CAPTION", type := (.object "java/lang/String"), accessFlags := 26, slot := 6, constantValue := 0 }, { name := "EMPTY_THROWABLE_ARRAY", type := (.array (.object "java/lang/Throwable")), accessFlags := 26, slot := 7, constantValue := 0 }, { name := "$assertionsDisabled", type := .boolean, accessFlags := 4120, slot := 8, constantValue := 0 }]
  methods := #[k9m0, k9m1, k9m2, k9m3, k9m4, k9m5]
  instanceTypes := #[(.object "java/lang/Object"), (.object "java/lang/String"), (.object "java/lang/Throwable"), (.array (.object "java/lang/StackTraceElement")), .int, (.object "java/util/List")]
  staticTypes := #[.long, (.array (.object "java/lang/StackTraceElement")), (.object "java/util/List"), (.object "java/lang/String"), (.object "java/lang/String"), (.object "java/lang/String"), (.object "java/lang/String"), (.array (.object "java/lang/Throwable")), .boolean]
  resolved := Array.replicate 404 none
  statics := some 1 }

def pool10 : Array CpInfo := pool [(2, .class_ 4), (1, u "java/lang/Throwable"), (0, u "<init>"), (0, u "()V"), (3, .methodref 2 11), (0, .nameAndType 5 12), (0, u "(Ljava/lang/String;Ljava/lang/Throwable;)V"), (6, .class_ 20), (0, u "java/lang/Exception"), (0, u "serialVersionUID"), (0, u "J")] 17

def k10m0 : Method := { name := "<init>", desc := "()V", sig := { parameters := [], returnType := none }, accessFlags := 1, code := none }
def k10c1 : Code := { maxStack := 3, maxLocals := 3, code := jdk_59_method_3_code, exceptionTable := #[], attributes := #[] }
def k10m1 : Method := { name := "<init>", desc := "(Ljava/lang/String;Ljava/lang/Throwable;)V", sig := { parameters := [(.object "java/lang/String"), (.object "java/lang/Throwable")], returnType := none }, accessFlags := 1, code := some k10c1 }
/-- java/lang/Exception -/
def k10 : Class := { plain "java/lang/Exception" (some 9) with
  accessFlags := 33
  interfaces := #[]
  cf := some (fileOf pool10 19 #[] #[{ accessFlags := 1, nameIndex := 5, descriptorIndex := 6, attributes := #[] }, { accessFlags := 1, nameIndex := 5, descriptorIndex := 12, attributes := #[] }] 33 2 #[] #[{ accessFlags := 24, nameIndex := 21, descriptorIndex := 22, attributes := #[] }])
  fields := #[{ name := "serialVersionUID", type := .long, accessFlags := 24, slot := 0, constantValue := 0 }]
  methods := #[k10m0, k10m1]
  instanceTypes := #[(.object "java/lang/Object"), (.object "java/lang/String"), (.object "java/lang/Throwable"), (.array (.object "java/lang/StackTraceElement")), .int, (.object "java/util/List")]
  staticTypes := #[.long]
  resolved := Array.replicate 40 none
  statics := none }

def pool11 : Array CpInfo := pool [(2, .class_ 4), (1, u "java/lang/Exception"), (0, u "<init>"), (0, u "()V"), (3, .methodref 2 11), (0, .nameAndType 5 12), (0, u "(Ljava/lang/String;Ljava/lang/Throwable;)V"), (6, .class_ 20), (0, u "java/lang/RuntimeException"), (0, u "serialVersionUID"), (0, u "J")] 17

def k11m0 : Method := { name := "<init>", desc := "()V", sig := { parameters := [], returnType := none }, accessFlags := 1, code := none }
def k11c1 : Code := { maxStack := 3, maxLocals := 3, code := jdk_58_method_3_code, exceptionTable := #[], attributes := #[] }
def k11m1 : Method := { name := "<init>", desc := "(Ljava/lang/String;Ljava/lang/Throwable;)V", sig := { parameters := [(.object "java/lang/String"), (.object "java/lang/Throwable")], returnType := none }, accessFlags := 1, code := some k11c1 }
/-- java/lang/RuntimeException -/
def k11 : Class := { plain "java/lang/RuntimeException" (some 10) with
  accessFlags := 33
  interfaces := #[]
  cf := some (fileOf pool11 19 #[] #[{ accessFlags := 1, nameIndex := 5, descriptorIndex := 6, attributes := #[] }, { accessFlags := 1, nameIndex := 5, descriptorIndex := 12, attributes := #[] }] 33 2 #[] #[{ accessFlags := 24, nameIndex := 21, descriptorIndex := 22, attributes := #[] }])
  fields := #[{ name := "serialVersionUID", type := .long, accessFlags := 24, slot := 0, constantValue := 0 }]
  methods := #[k11m0, k11m1]
  instanceTypes := #[(.object "java/lang/Object"), (.object "java/lang/String"), (.object "java/lang/Throwable"), (.array (.object "java/lang/StackTraceElement")), .int, (.object "java/util/List")]
  staticTypes := #[.long]
  resolved := Array.replicate 40 none
  statics := none }

def pool12 : Array CpInfo := pool [(4, .class_ 6), (0, .nameAndType 7 8), (0, u "startbeam/ComponentException"), (0, u "<init>"), (0, u "(Ljava/lang/String;Ljava/lang/Throwable;)V"), (0, .methodref 10 5), (0, .class_ 11), (0, u "java/lang/RuntimeException"), (0, .fieldref 4 13), (0, .nameAndType 14 15), (0, u "remedy"), (0, u "Ljava/lang/String;"), (0, .methodref 4 17), (0, .nameAndType 7 18), (0, u "(Ljava/lang/String;Ljava/lang/String;Ljava/lang/Throwable;)V"), (6, .methodref 4 26), (0, .nameAndType 27 28), (0, u "cannotCreateMessage"), (0, u "(Ljava/lang/String;Ljava/lang/String;)Ljava/lang/String;"), (2, u "cannotCreate"), (0, u "(Ljava/lang/String;Ljava/lang/String;Ljava/lang/String;)Lstartbeam/ComponentException;"), (0, .methodref 4 34), (0, .nameAndType 7 35), (0, u "(Ljava/lang/String;Ljava/lang/String;)V"), (0, .class_ 37), (0, u "java/lang/StringBuilder"), (0, .methodref 36 39), (0, .nameAndType 7 40), (0, u "()V"), (0, .string 42), (0, u "Cannot create "), (0, .methodref 36 44), (0, .nameAndType 45 46), (0, u "append"), (0, u "(Ljava/lang/String;)Ljava/lang/StringBuilder;"), (0, .string 48), (0, u ": "), (0, .methodref 36 50), (0, .nameAndType 51 52), (0, u "toString"), (0, u "()Ljava/lang/String;"), (7, u "serialVersionUID"), (0, u "J")] 12

def k12c0 : Code := { maxStack := 4, maxLocals := 3, code := prog_19_method_3_code, exceptionTable := #[], attributes := #[] }
def k12m0 : Method := { name := "<init>", desc := "(Ljava/lang/String;Ljava/lang/String;)V", sig := { parameters := [(.object "java/lang/String"), (.object "java/lang/String")], returnType := none }, accessFlags := 0, code := some k12c0 }
def k12c1 : Code := { maxStack := 3, maxLocals := 4, code := prog_19_method_4_code, exceptionTable := #[], attributes := #[] }
def k12m1 : Method := { name := "<init>", desc := "(Ljava/lang/String;Ljava/lang/String;Ljava/lang/Throwable;)V", sig := { parameters := [(.object "java/lang/String"), (.object "java/lang/String"), (.object "java/lang/Throwable")], returnType := none }, accessFlags := 0, code := some k12c1 }
def k12c2 : Code := { maxStack := 1, maxLocals := 1, code := prog_19_method_5_code, exceptionTable := #[], attributes := #[] }
def k12m2 : Method := { name := "remedy", desc := "()Ljava/lang/String;", sig := { parameters := [], returnType := some (.object "java/lang/String") }, accessFlags := 0, code := some k12c2 }
def k12c3 : Code := { maxStack := 4, maxLocals := 3, code := prog_19_method_8_code, exceptionTable := #[], attributes := #[] }
def k12m3 : Method := { name := "cannotCreate", desc := "(Ljava/lang/String;Ljava/lang/String;Ljava/lang/String;)Lstartbeam/ComponentException;", sig := { parameters := [(.object "java/lang/String"), (.object "java/lang/String"), (.object "java/lang/String")], returnType := some (.object "startbeam/ComponentException") }, accessFlags := 8, code := some k12c3 }
def k12c4 : Code := { maxStack := 2, maxLocals := 2, code := prog_19_method_9_code, exceptionTable := #[], attributes := #[] }
def k12m4 : Method := { name := "cannotCreateMessage", desc := "(Ljava/lang/String;Ljava/lang/String;)Ljava/lang/String;", sig := { parameters := [(.object "java/lang/String"), (.object "java/lang/String")], returnType := some (.object "java/lang/String") }, accessFlags := 10, code := some k12c4 }
/-- startbeam/ComponentException -/
def k12 : Class := { plain "startbeam/ComponentException" (some 11) with
  accessFlags := 33
  interfaces := #[]
  cf := some (fileOf pool12 4 #[] #[{ accessFlags := 0, nameIndex := 7, descriptorIndex := 35, attributes := #[] }, { accessFlags := 0, nameIndex := 7, descriptorIndex := 18, attributes := #[] }, { accessFlags := 0, nameIndex := 14, descriptorIndex := 52, attributes := #[] }, { accessFlags := 8, nameIndex := 31, descriptorIndex := 32, attributes := #[] }, { accessFlags := 10, nameIndex := 27, descriptorIndex := 28, attributes := #[] }] 33 10 #[] #[{ accessFlags := 26, nameIndex := 60, descriptorIndex := 61, attributes := #[] }, { accessFlags := 18, nameIndex := 14, descriptorIndex := 15, attributes := #[] }])
  fields := #[{ name := "serialVersionUID", type := .long, accessFlags := 26, slot := 0, constantValue := 0 }, { name := "remedy", type := (.object "java/lang/String"), accessFlags := 18, slot := 6, constantValue := 0 }]
  methods := #[k12m0, k12m1, k12m2, k12m3, k12m4]
  instanceTypes := #[(.object "java/lang/Object"), (.object "java/lang/String"), (.object "java/lang/Throwable"), (.array (.object "java/lang/StackTraceElement")), .int, (.object "java/util/List"), (.object "java/lang/String")]
  staticTypes := #[.long]
  resolved := Array.replicate 74 none
  statics := none }

def pool13 : Array CpInfo := pool [(1, .class_ 2), (0, u "java/lang/Appendable"), (0, .class_ 4), (0, u "java/lang/Object")] 9

/-- java/lang/Appendable -/
def k13 : Class := { plain "java/lang/Appendable" (some 0) with
  accessFlags := 1537
  interfaces := #[]
  cf := some (fileOf pool13 1 #[] #[] 1537 3 #[] #[])
  fields := #[]
  methods := #[]
  instanceTypes := #[]
  staticTypes := #[]
  resolved := Array.replicate 14 none
  statics := none }

def pool14 : Array CpInfo := pool [(1, .class_ 2), (0, u "java/lang/String"), (0, .methodref 4 5), (0, .class_ 6), (0, .nameAndType 7 8), (0, u "java/lang/Object"), (0, u "<init>"), (0, u "()V"), (1, .class_ 12), (1, u "java/lang/AbstractStringBuilder"), (0, u "EMPTYVALUE"), (0, u "[B"), (0, .fieldref 10 16), (0, .nameAndType 17 14), (0, u "value"), (0, .fieldref 1 19), (0, .nameAndType 20 21), (0, u "COMPACT_STRINGS"), (0, u "Z"), (0, .fieldref 10 23), (0, .nameAndType 24 25), (0, u "coder"), (0, u "B"), (6, .methodref 1 33), (0, .nameAndType 34 35), (0, u "length"), (0, u "()I"), (3, .integer 2147483647), (0, .methodref 1 41), (0, .nameAndType 24 42), (0, u "()B"), (2, u "append"), (0, u "(Ljava/lang/String;)Ljava/lang/AbstractStringBuilder;"), (1, .class_ 49), (0, u "java/lang/CharSequence"), (19, u "(Ljava/lang/String;)V"), (5, u "maybeLatin1"), (3, .fieldref 10 80), (0, .nameAndType 81 82), (0, u "count"), (0, u "I"), (2, u "isLatin1"), (0, u "()Z"), (13, .methodref 10 101), (0, .nameAndType 102 103), (0, u "ensureCapacityInternal"), (0, u "(I)V"), (0, .methodref 10 105), (0, .nameAndType 106 107), (0, u "newCapacity"), (0, u "(I)I"), (0, .methodref 109 110), (0, .class_ 111), (0, .nameAndType 112 113), (0, u "java/util/Arrays"), (0, u "copyOf"), (0, u "([BI)[B"), (0, .methodref 115 116), (0, .class_ 117), (0, .nameAndType 118 119), (0, u "jdk/internal/util/ArraysSupport"), (0, u "newLength"), (0, u "(III)I"), (88, .methodref 10 209), (0, .nameAndType 210 211), (0, u "putStringAt"), (0, u "(ILjava/lang/String;)V"), (5, u "inflateIfNeededFor"), (2, .nameAndType 221 222), (0, u "getBytes"), (0, u "([BIB)V"), (174, .methodref 10 398), (0, .nameAndType 217 69), (0, .methodref 1 220), (3, u "()[B"), (40, .class_ 445), (0, u "java/lang/Appendable"), (106, u "getValue")] 56

def k14m0 : Method := { name := "<init>", desc := "()V", sig := { parameters := [], returnType := none }, accessFlags := 0, code := none }
def k14c1 : Code := { maxStack := 2, maxLocals := 2, code := jdk_68_method_2_code, exceptionTable := #[], attributes := #[] }
def k14m1 : Method := { name := "<init>", desc := "(I)V", sig := { parameters := [.int], returnType := none }, accessFlags := 0, code := some k14c1 }
def k14c2 : Code := { maxStack := 1, maxLocals := 1, code := jdk_68_method_6_code, exceptionTable := #[], attributes := #[] }
def k14m2 : Method := { name := "length", desc := "()I", sig := { parameters := [], returnType := some .int }, accessFlags := 1, code := some k14c2 }
def k14c3 : Code := { maxStack := 4, maxLocals := 3, code := jdk_68_method_9_code, exceptionTable := #[], attributes := #[] }
def k14m3 : Method := { name := "ensureCapacityInternal", desc := "(I)V", sig := { parameters := [.int], returnType := none }, accessFlags := 2, code := some k14c3 }
def k14c4 : Code := { maxStack := 5, maxLocals := 6, code := jdk_68_method_10_code, exceptionTable := #[], attributes := #[] }
def k14m4 : Method := { name := "newCapacity", desc := "(I)I", sig := { parameters := [.int], returnType := some .int }, accessFlags := 2, code := some k14c4 }
def k14c5 : Code := { maxStack := 3, maxLocals := 3, code := jdk_68_method_22_code, exceptionTable := #[], attributes := #[] }
def k14m5 : Method := { name := "append", desc := "(Ljava/lang/String;)Ljava/lang/AbstractStringBuilder;", sig := { parameters := [(.object "java/lang/String")], returnType := some (.object "java/lang/AbstractStringBuilder") }, accessFlags := 1, code := some k14c5 }
def k14c6 : Code := { maxStack := 1, maxLocals := 1, code := jdk_68_method_64_code, exceptionTable := #[], attributes := #[] }
def k14m6 : Method := { name := "getValue", desc := "()[B", sig := { parameters := [], returnType := some (.array .byte) }, accessFlags := 16, code := some k14c6 }
def k14c7 : Code := { maxStack := 1, maxLocals := 1, code := jdk_68_method_68_code, exceptionTable := #[], attributes := #[] }
def k14m7 : Method := { name := "isLatin1", desc := "()Z", sig := { parameters := [], returnType := some .boolean }, accessFlags := 16, code := some k14c7 }
def k14c8 : Code := { maxStack := 2, maxLocals := 2, code := jdk_68_method_71_code, exceptionTable := #[], attributes := #[] }
def k14m8 : Method := { name := "inflateIfNeededFor", desc := "(Ljava/lang/String;)V", sig := { parameters := [(.object "java/lang/String")], returnType := none }, accessFlags := 2, code := some k14c8 }
def k14c9 : Code := { maxStack := 4, maxLocals := 3, code := jdk_68_method_73_code, exceptionTable := #[], attributes := #[] }
def k14m9 : Method := { name := "putStringAt", desc := "(ILjava/lang/String;)V", sig := { parameters := [.int, (.object "java/lang/String")], returnType := none }, accessFlags := 2, code := some k14c9 }
/-- java/lang/AbstractStringBuilder -/
def k14 : Class := { plain "java/lang/AbstractStringBuilder" (some 0) with
  accessFlags := 1056
  interfaces := #[13, 4]
  cf := some (fileOf pool14 10 #[] #[{ accessFlags := 0, nameIndex := 7, descriptorIndex := 8, attributes := #[] }, { accessFlags := 0, nameIndex := 7, descriptorIndex := 103, attributes := #[] }, { accessFlags := 1, nameIndex := 34, descriptorIndex := 35, attributes := #[] }, { accessFlags := 2, nameIndex := 102, descriptorIndex := 103, attributes := #[] }, { accessFlags := 2, nameIndex := 106, descriptorIndex := 107, attributes := #[] }, { accessFlags := 1, nameIndex := 45, descriptorIndex := 46, attributes := #[] }, { accessFlags := 16, nameIndex := 552, descriptorIndex := 403, attributes := #[] }, { accessFlags := 16, nameIndex := 85, descriptorIndex := 86, attributes := #[] }, { accessFlags := 2, nameIndex := 217, descriptorIndex := 69, attributes := #[] }, { accessFlags := 2, nameIndex := 210, descriptorIndex := 211, attributes := #[] }] 1056 4 #[444, 48] #[{ accessFlags := 0, nameIndex := 17, descriptorIndex := 14, attributes := #[] }, { accessFlags := 0, nameIndex := 24, descriptorIndex := 25, attributes := #[] }, { accessFlags := 0, nameIndex := 75, descriptorIndex := 21, attributes := #[] }, { accessFlags := 0, nameIndex := 81, descriptorIndex := 82, attributes := #[] }, { accessFlags := 26, nameIndex := 13, descriptorIndex := 14, attributes := #[] }])
  fields := #[{ name := "value", type := (.array .byte), accessFlags := 0, slot := 0, constantValue := 0 }, { name := "coder", type := .byte, accessFlags := 0, slot := 1, constantValue := 0 }, { name := "maybeLatin1", type := .boolean, accessFlags := 0, slot := 2, constantValue := 0 }, { name := "count", type := .int, accessFlags := 0, slot := 3, constantValue := 0 }, { name := "EMPTYVALUE", type := (.array .byte), accessFlags := 26, slot := 0, constantValue := 0 }]
  methods := #[k14m0, k14m1, k14m2, k14m3, k14m4, k14m5, k14m6, k14m7, k14m8, k14m9]
  instanceTypes := #[(.array .byte), .byte, .boolean, .int]
  staticTypes := #[(.array .byte)]
  resolved := Array.replicate 609 none
  statics := none }

def pool15 : Array CpInfo := pool [(1, .methodref 2 3), (0, .class_ 4), (0, .nameAndType 5 6), (0, u "java/lang/AbstractStringBuilder"), (0, u "<init>"), (0, u "(I)V"), (11, .class_ 20), (1, u "java/lang/String"), (3, .class_ 26), (1, u "java/lang/StringBuilder"), (0, u "append"), (0, u "(Ljava/lang/String;)Ljava/lang/StringBuilder;"), (0, .methodref 2 30), (0, .nameAndType 27 31), (0, u "(Ljava/lang/String;)Ljava/lang/AbstractStringBuilder;"), (105, .methodref 18 138), (0, .nameAndType 5 139), (0, u "(Ljava/lang/StringBuilder;)V"), (5, u "()V"), (10, u "()I"), (186, .methodref 2 344), (0, .nameAndType 345 156), (0, u "length"), (3, .class_ 350), (0, u "java/lang/Appendable"), (0, .class_ 352), (0, u "java/io/Serializable"), (0, .class_ 354), (0, u "java/lang/Comparable"), (0, .class_ 356), (0, u "java/lang/CharSequence"), (0, u "serialVersionUID"), (0, u "J"), (40, u "toString"), (0, u "()Ljava/lang/String;")] 21

def k15c0 : Code := { maxStack := 2, maxLocals := 1, code := jdk_67_method_1_code, exceptionTable := #[], attributes := #[] }
def k15m0 : Method := { name := "<init>", desc := "()V", sig := { parameters := [], returnType := none }, accessFlags := 1, code := some k15c0 }
def k15c1 : Code := { maxStack := 2, maxLocals := 2, code := jdk_67_method_7_code, exceptionTable := #[], attributes := #[] }
def k15m1 : Method := { name := "append", desc := "(Ljava/lang/String;)Ljava/lang/StringBuilder;", sig := { parameters := [(.object "java/lang/String")], returnType := some (.object "java/lang/StringBuilder") }, accessFlags := 1, code := some k15c1 }
def k15c2 : Code := { maxStack := 3, maxLocals := 1, code := jdk_67_method_42_code, exceptionTable := #[], attributes := #[] }
def k15m2 : Method := { name := "toString", desc := "()Ljava/lang/String;", sig := { parameters := [], returnType := some (.object "java/lang/String") }, accessFlags := 1, code := some k15c2 }
def k15c3 : Code := { maxStack := 1, maxLocals := 1, code := jdk_67_method_93_code, exceptionTable := #[], attributes := #[] }
def k15m3 : Method := { name := "length", desc := "()I", sig := { parameters := [], returnType := some .int }, accessFlags := 4161, code := some k15c3 }
/-- java/lang/StringBuilder -/
def k15 : Class := { plain "java/lang/StringBuilder" (some 14) with
  accessFlags := 49
  interfaces := #[13, 2, 3, 4]
  cf := some (fileOf pool15 24 #[] #[{ accessFlags := 1, nameIndex := 5, descriptorIndex := 145, attributes := #[] }, { accessFlags := 1, nameIndex := 27, descriptorIndex := 28, attributes := #[] }, { accessFlags := 1, nameIndex := 399, descriptorIndex := 400, attributes := #[] }, { accessFlags := 4161, nameIndex := 345, descriptorIndex := 156, attributes := #[] }] 49 2 #[349, 351, 353, 355] #[{ accessFlags := 24, nameIndex := 357, descriptorIndex := 358, attributes := #[] }])
  fields := #[{ name := "serialVersionUID", type := .long, accessFlags := 24, slot := 0, constantValue := 0 }]
  methods := #[k15m0, k15m1, k15m2, k15m3]
  instanceTypes := #[(.array .byte), .byte, .boolean, .int]
  staticTypes := #[.long]
  resolved := Array.replicate 422 none
  statics := none }

def pool16 : Array CpInfo := pool [(2, .class_ 4), (1, u "java/lang/Object"), (0, u "<init>"), (0, u "()V"), (1, .class_ 10), (1, u "java/lang/System"), (0, u "allowSecurityManager"), (0, u "I"), (16, u "cons"), (0, u "Ljava/io/Console;"), (77, .class_ 110), (1, u "java/lang/System$CallersHolder"), (43, u "initialErrStream"), (0, u "Ljava/io/PrintStream;"), (19, u "security"), (0, u "Ljava/lang/SecurityManager;"), (31, .class_ 209), (0, u "java/lang/System$1"), (7, u "props"), (0, u "Ljava/util/Properties;"), (2, u "lineSeparator"), (0, u "Ljava/lang/String;"), (96, .class_ 321), (1, u "java/lang/System$LoggerFinder"), (5, .class_ 328), (0, u "java/lang/System$Logger"), (67, u "err"), (2, u "out"), (91, u "notSupportedJnuEncoding"), (15, u "in"), (17, u "initialIn"), (0, u "Ljava/io/InputStream;"), (35, u "bootLayer"), (0, u "Ljava/lang/ModuleLayer;"), (99, .class_ 664), (0, u "java/lang/System$2"), (9, u "NEVER"), (2, u "MAYBE"), (49, u "arraycopy"), (0, u "(Ljava/lang/Object;ILjava/lang/Object;II)V"), (72, .class_ 802), (0, u "java/lang/System$Logger$Level")] 31

def k16m0 : Method := { name := "<init>", desc := "()V", sig := { parameters := [], returnType := none }, accessFlags := 2, code := none }
def k16m1 : Method := { name := "arraycopy", desc := "(Ljava/lang/Object;ILjava/lang/Object;II)V", sig := { parameters := [(.object "java/lang/Object"), .int, (.object "java/lang/Object"), .int, .int], returnType := none }, accessFlags := 265, code := none }
/-- java/lang/System -/
def k16 : Class := { plain "java/lang/System" (some 0) with
  accessFlags := 49
  interfaces := #[]
  cf := some (fileOf pool16 8 #[.nestMembers #[319, 327, 801, 108, 663, 208]] #[{ accessFlags := 2, nameIndex := 5, descriptorIndex := 6, attributes := #[] }, { accessFlags := 265, nameIndex := 727, descriptorIndex := 728, attributes := #[] }] 49 2 #[] #[{ accessFlags := 25, nameIndex := 507, descriptorIndex := 526, attributes := #[] }, { accessFlags := 25, nameIndex := 399, descriptorIndex := 155, attributes := #[] }, { accessFlags := 25, nameIndex := 396, descriptorIndex := 155, attributes := #[] }, { accessFlags := 10, nameIndex := 525, descriptorIndex := 526, attributes := #[] }, { accessFlags := 26, nameIndex := 674, descriptorIndex := 12, attributes := #[] }, { accessFlags := 26, nameIndex := 677, descriptorIndex := 12, attributes := #[] }, { accessFlags := 10, nameIndex := 11, descriptorIndex := 12, attributes := #[] }, { accessFlags := 74, nameIndex := 175, descriptorIndex := 176, attributes := #[] }, { accessFlags := 10, nameIndex := 491, descriptorIndex := 222, attributes := #[] }, { accessFlags := 74, nameIndex := 29, descriptorIndex := 30, attributes := #[] }, { accessFlags := 74, nameIndex := 154, descriptorIndex := 155, attributes := #[] }, { accessFlags := 10, nameIndex := 217, descriptorIndex := 218, attributes := #[] }, { accessFlags := 10, nameIndex := 221, descriptorIndex := 222, attributes := #[] }, { accessFlags := 8, nameIndex := 562, descriptorIndex := 563, attributes := #[] }])
  fields := #[{ name := "in", type := (.object "java/io/InputStream"), accessFlags := 25, slot := 0, constantValue := 0 }, { name := "out", type := (.object "java/io/PrintStream"), accessFlags := 25, slot := 1, constantValue := 0 }, { name := "err", type := (.object "java/io/PrintStream"), accessFlags := 25, slot := 2, constantValue := 0 }, { name := "initialIn", type := (.object "java/io/InputStream"), accessFlags := 10, slot := 3, constantValue := 0 }, { name := "NEVER", type := .int, accessFlags := 26, slot := 4, constantValue := 0 }, { name := "MAYBE", type := .int, accessFlags := 26, slot := 5, constantValue := 0 }, { name := "allowSecurityManager", type := .int, accessFlags := 10, slot := 6, constantValue := 0 }, { name := "security", type := (.object "java/lang/SecurityManager"), accessFlags := 74, slot := 7, constantValue := 0 }, { name := "notSupportedJnuEncoding", type := (.object "java/lang/String"), accessFlags := 10, slot := 8, constantValue := 0 }, { name := "cons", type := (.object "java/io/Console"), accessFlags := 74, slot := 9, constantValue := 0 }, { name := "initialErrStream", type := (.object "java/io/PrintStream"), accessFlags := 74, slot := 10, constantValue := 0 }, { name := "props", type := (.object "java/util/Properties"), accessFlags := 10, slot := 11, constantValue := 0 }, { name := "lineSeparator", type := (.object "java/lang/String"), accessFlags := 10, slot := 12, constantValue := 0 }, { name := "bootLayer", type := (.object "java/lang/ModuleLayer"), accessFlags := 8, slot := 13, constantValue := 0 }]
  methods := #[k16m0, k16m1]
  instanceTypes := #[]
  staticTypes := #[(.object "java/io/InputStream"), (.object "java/io/PrintStream"), (.object "java/io/PrintStream"), (.object "java/io/InputStream"), .int, .int, .int, (.object "java/lang/SecurityManager"), (.object "java/lang/String"), (.object "java/io/Console"), (.object "java/io/PrintStream"), (.object "java/util/Properties"), (.object "java/lang/String"), (.object "java/lang/ModuleLayer")]
  resolved := Array.replicate 834 none
  statics := none }

def pool17 : Array CpInfo := pool [(9, u "<init>"), (6, .class_ 18), (1, u "java/lang/Object"), (0, u "()V"), (1, .class_ 23), (1, u "jdk/internal/util/ArraysSupport"), (0, u "LOG2_ARRAY_LONG_INDEX_SCALE"), (0, u "I"), (2, u "U"), (0, u "Ljdk/internal/misc/Unsafe;"), (8, u "BIG_ENDIAN"), (0, u "Z"), (8, u "LOG2_BYTE_BIT_SIZE"), (4, u "LOG2_ARRAY_INT_INDEX_SCALE"), (54, u "JLA"), (0, u "Ljdk/internal/access/JavaLangAccess;"), (11, u "LOG2_ARRAY_BOOLEAN_INDEX_SCALE"), (9, u "LOG2_ARRAY_BYTE_INDEX_SCALE"), (5, u "LOG2_ARRAY_CHAR_INDEX_SCALE"), (5, u "LOG2_ARRAY_SHORT_INDEX_SCALE"), (18, u "LOG2_ARRAY_FLOAT_INDEX_SCALE"), (24, u "LOG2_ARRAY_DOUBLE_INDEX_SCALE"), (6, .methodref 195 196), (0, .class_ 197), (0, .nameAndType 198 199), (0, u "java/lang/Math"), (0, u "max"), (0, u "(II)I"), (0, .integer 2147483639), (76, u "T_BOOLEAN"), (2, u "T_CHAR"), (1, u "T_FLOAT"), (1, u "T_DOUBLE"), (1, u "T_BYTE"), (1, u "T_SHORT"), (1, u "T_INT"), (1, u "T_LONG"), (1, u "SOFT_MAX_ARRAY_LENGTH"), (56, u "newLength"), (0, u "(III)I")] 25

def k17m0 : Method := { name := "<init>", desc := "()V", sig := { parameters := [], returnType := none }, accessFlags := 2, code := none }
def k17c1 : Code := { maxStack := 3, maxLocals := 4, code := jdk_48_method_27_code, exceptionTable := #[], attributes := #[] }
def k17m1 : Method := { name := "newLength", desc := "(III)I", sig := { parameters := [.int, .int, .int], returnType := some .int }, accessFlags := 9, code := some k17c1 }
/-- jdk/internal/util/ArraysSupport -/
def k17 : Class := { plain "jdk/internal/util/ArraysSupport" (some 0) with
  accessFlags := 33
  interfaces := #[]
  cf := some (fileOf pool17 21 #[] #[{ accessFlags := 2, nameIndex := 9, descriptorIndex := 19, attributes := #[] }, { accessFlags := 9, nameIndex := 351, descriptorIndex := 352, attributes := #[] }] 33 16 #[] #[{ accessFlags := 24, nameIndex := 28, descriptorIndex := 29, attributes := #[] }, { accessFlags := 26, nameIndex := 38, descriptorIndex := 39, attributes := #[] }, { accessFlags := 25, nameIndex := 121, descriptorIndex := 25, attributes := #[] }, { accessFlags := 25, nameIndex := 131, descriptorIndex := 25, attributes := #[] }, { accessFlags := 25, nameIndex := 137, descriptorIndex := 25, attributes := #[] }, { accessFlags := 25, nameIndex := 143, descriptorIndex := 25, attributes := #[] }, { accessFlags := 25, nameIndex := 53, descriptorIndex := 25, attributes := #[] }, { accessFlags := 25, nameIndex := 24, descriptorIndex := 25, attributes := #[] }, { accessFlags := 25, nameIndex := 162, descriptorIndex := 25, attributes := #[] }, { accessFlags := 25, nameIndex := 187, descriptorIndex := 25, attributes := #[] }, { accessFlags := 26, nameIndex := 48, descriptorIndex := 25, attributes := #[] }, { accessFlags := 25, nameIndex := 277, descriptorIndex := 25, attributes := #[] }, { accessFlags := 25, nameIndex := 280, descriptorIndex := 25, attributes := #[] }, { accessFlags := 25, nameIndex := 282, descriptorIndex := 25, attributes := #[] }, { accessFlags := 25, nameIndex := 284, descriptorIndex := 25, attributes := #[] }, { accessFlags := 25, nameIndex := 286, descriptorIndex := 25, attributes := #[] }, { accessFlags := 25, nameIndex := 288, descriptorIndex := 25, attributes := #[] }, { accessFlags := 25, nameIndex := 290, descriptorIndex := 25, attributes := #[] }, { accessFlags := 25, nameIndex := 292, descriptorIndex := 25, attributes := #[] }, { accessFlags := 26, nameIndex := 108, descriptorIndex := 109, attributes := #[] }, { accessFlags := 25, nameIndex := 294, descriptorIndex := 25, attributes := #[] }])
  fields := #[{ name := "U", type := (.object "jdk/internal/misc/Unsafe"), accessFlags := 24, slot := 0, constantValue := 0 }, { name := "BIG_ENDIAN", type := .boolean, accessFlags := 26, slot := 1, constantValue := 0 }, { name := "LOG2_ARRAY_BOOLEAN_INDEX_SCALE", type := .int, accessFlags := 25, slot := 2, constantValue := 0 }, { name := "LOG2_ARRAY_BYTE_INDEX_SCALE", type := .int, accessFlags := 25, slot := 3, constantValue := 0 }, { name := "LOG2_ARRAY_CHAR_INDEX_SCALE", type := .int, accessFlags := 25, slot := 4, constantValue := 0 }, { name := "LOG2_ARRAY_SHORT_INDEX_SCALE", type := .int, accessFlags := 25, slot := 5, constantValue := 0 }, { name := "LOG2_ARRAY_INT_INDEX_SCALE", type := .int, accessFlags := 25, slot := 6, constantValue := 0 }, { name := "LOG2_ARRAY_LONG_INDEX_SCALE", type := .int, accessFlags := 25, slot := 7, constantValue := 0 }, { name := "LOG2_ARRAY_FLOAT_INDEX_SCALE", type := .int, accessFlags := 25, slot := 8, constantValue := 0 }, { name := "LOG2_ARRAY_DOUBLE_INDEX_SCALE", type := .int, accessFlags := 25, slot := 9, constantValue := 0 }, { name := "LOG2_BYTE_BIT_SIZE", type := .int, accessFlags := 26, slot := 10, constantValue := 0 }, { name := "T_BOOLEAN", type := .int, accessFlags := 25, slot := 11, constantValue := 0 }, { name := "T_CHAR", type := .int, accessFlags := 25, slot := 12, constantValue := 0 }, { name := "T_FLOAT", type := .int, accessFlags := 25, slot := 13, constantValue := 0 }, { name := "T_DOUBLE", type := .int, accessFlags := 25, slot := 14, constantValue := 0 }, { name := "T_BYTE", type := .int, accessFlags := 25, slot := 15, constantValue := 0 }, { name := "T_SHORT", type := .int, accessFlags := 25, slot := 16, constantValue := 0 }, { name := "T_INT", type := .int, accessFlags := 25, slot := 17, constantValue := 0 }, { name := "T_LONG", type := .int, accessFlags := 25, slot := 18, constantValue := 0 }, { name := "JLA", type := (.object "jdk/internal/access/JavaLangAccess"), accessFlags := 26, slot := 19, constantValue := 0 }, { name := "SOFT_MAX_ARRAY_LENGTH", type := .int, accessFlags := 25, slot := 20, constantValue := 0 }]
  methods := #[k17m0, k17m1]
  instanceTypes := #[]
  staticTypes := #[(.object "jdk/internal/misc/Unsafe"), .boolean, .int, .int, .int, .int, .int, .int, .int, .int, .int, .int, .int, .int, .int, .int, .int, .int, .int, (.object "jdk/internal/access/JavaLangAccess"), .int]
  resolved := Array.replicate 378 none
  statics := none }

def pool18 : Array CpInfo := pool [(1, .class_ 2), (0, u "java/lang/Math"), (1, .class_ 6), (1, u "java/lang/Object"), (0, u "<init>"), (0, u "()V"), (89, .class_ 100), (1, u "java/lang/Math$RandomNumberGeneratorHolder"), (71, u "negativeZeroFloatBits"), (0, u "J"), (2, u "negativeZeroDoubleBits"), (21, u "max"), (2, u "min"), (43, u "$assertionsDisabled"), (0, u "Z"), (88, u "(II)I"), (2, u "twoToTheDoubleScaleDown"), (0, u "D"), (4, u "twoToTheDoubleScaleUp"), (9, u "E"), (3, u "PI"), (2, u "TAU"), (2, u "DEGREES_TO_RADIANS"), (0, u "RADIANS_TO_DEGREES")] 94

def k18m0 : Method := { name := "<init>", desc := "()V", sig := { parameters := [], returnType := none }, accessFlags := 2, code := none }
def k18c1 : Code := { maxStack := 2, maxLocals := 2, code := jdk_29_method_65_code, exceptionTable := #[], attributes := #[] }
def k18m1 : Method := { name := "max", desc := "(II)I", sig := { parameters := [.int, .int], returnType := some .int }, accessFlags := 9, code := some k18c1 }
def k18c2 : Code := { maxStack := 2, maxLocals := 2, code := jdk_29_method_69_code, exceptionTable := #[], attributes := #[] }
def k18m2 : Method := { name := "min", desc := "(II)I", sig := { parameters := [.int, .int], returnType := some .int }, accessFlags := 9, code := some k18c2 }
/-- java/lang/Math -/
def k18 : Class := { plain "java/lang/Math" (some 0) with
  accessFlags := 49
  interfaces := #[]
  cf := some (fileOf pool18 1 #[.nestMembers #[98]] #[{ accessFlags := 2, nameIndex := 7, descriptorIndex := 8, attributes := #[] }, { accessFlags := 9, nameIndex := 198, descriptorIndex := 335, attributes := #[] }, { accessFlags := 9, nameIndex := 201, descriptorIndex := 335, attributes := #[] }] 49 4 #[] #[{ accessFlags := 25, nameIndex := 354, descriptorIndex := 339, attributes := #[] }, { accessFlags := 25, nameIndex := 358, descriptorIndex := 339, attributes := #[] }, { accessFlags := 25, nameIndex := 361, descriptorIndex := 339, attributes := #[] }, { accessFlags := 26, nameIndex := 364, descriptorIndex := 339, attributes := #[] }, { accessFlags := 26, nameIndex := 365, descriptorIndex := 339, attributes := #[] }, { accessFlags := 26, nameIndex := 172, descriptorIndex := 173, attributes := #[] }, { accessFlags := 26, nameIndex := 176, descriptorIndex := 173, attributes := #[] }, { accessFlags := 8, nameIndex := 344, descriptorIndex := 339, attributes := #[] }, { accessFlags := 8, nameIndex := 338, descriptorIndex := 339, attributes := #[] }, { accessFlags := 4120, nameIndex := 245, descriptorIndex := 246, attributes := #[] }])
  fields := #[{ name := "E", type := .double, accessFlags := 25, slot := 0, constantValue := 0 }, { name := "PI", type := .double, accessFlags := 25, slot := 1, constantValue := 0 }, { name := "TAU", type := .double, accessFlags := 25, slot := 2, constantValue := 0 }, { name := "DEGREES_TO_RADIANS", type := .double, accessFlags := 26, slot := 3, constantValue := 0 }, { name := "RADIANS_TO_DEGREES", type := .double, accessFlags := 26, slot := 4, constantValue := 0 }, { name := "negativeZeroFloatBits", type := .long, accessFlags := 26, slot := 5, constantValue := 0 }, { name := "negativeZeroDoubleBits", type := .long, accessFlags := 26, slot := 6, constantValue := 0 }, { name := "twoToTheDoubleScaleUp", type := .double, accessFlags := 8, slot := 7, constantValue := 0 }, { name := "twoToTheDoubleScaleDown", type := .double, accessFlags := 8, slot := 8, constantValue := 0 }, { name := "$assertionsDisabled", type := .boolean, accessFlags := 4120, slot := 9, constantValue := 0 }]
  methods := #[k18m0, k18m1, k18m2]
  instanceTypes := #[]
  staticTypes := #[.double, .double, .double, .double, .double, .long, .long, .double, .double, .boolean]
  resolved := Array.replicate 460 none
  statics := none }

def pool19 : Array CpInfo := pool [(2, .class_ 4), (1, u "java/lang/Object"), (0, u "<init>"), (0, u "()V"), (7, .class_ 16), (1, u "java/util/Arrays"), (57, .class_ 76), (1, u "java/util/Arrays$NaturalOrder"), (36, .class_ 115), (1, u "java/util/Arrays$LegacyMergeSort"), (1, u "Z"), (21, u "copyOfRange"), (10, .methodref 151 152), (0, .class_ 153), (0, .nameAndType 154 155), (0, u "java/lang/System"), (0, u "arraycopy"), (0, u "(Ljava/lang/Object;ILjava/lang/Object;II)V"), (146, u "copyOf"), (1, .methodref 305 306), (0, .class_ 307), (0, .nameAndType 308 309), (0, u "java/lang/Math"), (0, u "min"), (0, u "(II)I"), (29, .methodref 14 340), (0, .nameAndType 341 342), (0, u "copyOfRangeByte"), (0, u "([BII)[B"), (0, .methodref 14 344), (0, .nameAndType 345 346), (0, u "checkLength"), (0, u "(II)V"), (28, .class_ 376), (0, u "java/util/Arrays$ArrayList"), (68, u "$assertionsDisabled"), (269, u "MIN_ARRAY_SORT_GRAN"), (0, u "I"), (2, u "INSERTIONSORT_THRESHOLD"), (149, u "([BI)[B"), (105, .class_ 976), (0, u "java/util/Arrays$ArrayItr")] 52

def k19m0 : Method := { name := "<init>", desc := "()V", sig := { parameters := [], returnType := none }, accessFlags := 2, code := none }
def k19c1 : Code := { maxStack := 6, maxLocals := 3, code := jdk_65_method_121_code, exceptionTable := #[], attributes := #[] }
def k19m1 : Method := { name := "copyOf", desc := "([BI)[B", sig := { parameters := [(.array .byte), .int], returnType := some (.array .byte) }, accessFlags := 9, code := some k19c1 }
def k19c2 : Code := { maxStack := 4, maxLocals := 2, code := jdk_65_method_131_code, exceptionTable := #[], attributes := #[] }
def k19m2 : Method := { name := "checkLength", desc := "(II)V", sig := { parameters := [.int, .int], returnType := none }, accessFlags := 10, code := some k19c2 }
def k19c3 : Code := { maxStack := 3, maxLocals := 3, code := jdk_65_method_132_code, exceptionTable := #[], attributes := #[] }
def k19m3 : Method := { name := "copyOfRange", desc := "([BII)[B", sig := { parameters := [(.array .byte), .int, .int], returnType := some (.array .byte) }, accessFlags := 9, code := some k19c3 }
def k19c4 : Code := { maxStack := 6, maxLocals := 5, code := jdk_65_method_133_code, exceptionTable := #[], attributes := #[] }
def k19m4 : Method := { name := "copyOfRangeByte", desc := "([BII)[B", sig := { parameters := [(.array .byte), .int, .int], returnType := some (.array .byte) }, accessFlags := 10, code := some k19c4 }
/-- java/util/Arrays -/
def k19 : Class := { plain "java/util/Arrays" (some 0) with
  accessFlags := 49
  interfaces := #[]
  cf := some (fileOf pool19 14 #[.nestMembers #[975, 375, 113, 74]] #[{ accessFlags := 2, nameIndex := 5, descriptorIndex := 6, attributes := #[] }, { accessFlags := 9, nameIndex := 302, descriptorIndex := 869, attributes := #[] }, { accessFlags := 10, nameIndex := 345, descriptorIndex := 346, attributes := #[] }, { accessFlags := 9, nameIndex := 139, descriptorIndex := 342, attributes := #[] }, { accessFlags := 10, nameIndex := 341, descriptorIndex := 342, attributes := #[] }] 49 2 #[] #[{ accessFlags := 26, nameIndex := 715, descriptorIndex := 716, attributes := #[] }, { accessFlags := 26, nameIndex := 719, descriptorIndex := 716, attributes := #[] }, { accessFlags := 4120, nameIndex := 445, descriptorIndex := 117, attributes := #[] }])
  fields := #[{ name := "MIN_ARRAY_SORT_GRAN", type := .int, accessFlags := 26, slot := 0, constantValue := 0 }, { name := "INSERTIONSORT_THRESHOLD", type := .int, accessFlags := 26, slot := 1, constantValue := 0 }, { name := "$assertionsDisabled", type := .boolean, accessFlags := 4120, slot := 2, constantValue := 0 }]
  methods := #[k19m0, k19m1, k19m2, k19m3, k19m4]
  instanceTypes := #[]
  staticTypes := #[.int, .int, .boolean]
  resolved := Array.replicate 1029 none
  statics := none }

def pool20 : Array CpInfo := pool [(4, .class_ 6), (1, u "java/lang/Object"), (0, u "<init>"), (0, u "()V"), (5, .class_ 16), (1, u "java/lang/StringLatin1"), (104, u "$assertionsDisabled"), (0, u "Z"), (98, .class_ 223), (1, u "java/lang/StringLatin1$LinesSpliterator"), (57, u "equals"), (0, u "([B[B)Z"), (107, .class_ 391), (0, u "java/lang/StringLatin1$CharsSpliterator")] 3

def k20m0 : Method := { name := "<init>", desc := "()V", sig := { parameters := [], returnType := none }, accessFlags := 0, code := none }
def k20c1 : Code := { maxStack := 3, maxLocals := 3, code := jdk_43_method_13_code, exceptionTable := #[], attributes := #[] }
def k20m1 : Method := { name := "equals", desc := "([B[B)Z", sig := { parameters := [(.array .byte), (.array .byte)], returnType := some .boolean }, accessFlags := 9, code := some k20c1 }
/-- java/lang/StringLatin1 -/
def k20 : Class := { plain "java/lang/StringLatin1" (some 0) with
  accessFlags := 48
  interfaces := #[]
  cf := some (fileOf pool20 14 #[.nestMembers #[390, 221]] #[{ accessFlags := 0, nameIndex := 7, descriptorIndex := 8, attributes := #[] }, { accessFlags := 9, nameIndex := 281, descriptorIndex := 282, attributes := #[] }] 48 4 #[] #[{ accessFlags := 4120, nameIndex := 121, descriptorIndex := 122, attributes := #[] }])
  fields := #[{ name := "$assertionsDisabled", type := .boolean, accessFlags := 4120, slot := 0, constantValue := 0 }]
  methods := #[k20m0, k20m1]
  instanceTypes := #[]
  staticTypes := #[.boolean]
  resolved := Array.replicate 395 none
  statics := none }

def pool21 : Array CpInfo := pool [(2, .class_ 4), (1, u "java/lang/Object"), (0, u "<init>"), (0, u "()V"), (17, .class_ 26), (1, u "jdk/internal/util/Preconditions"), (28, .class_ 56), (0, u "jdk/internal/util/Preconditions$4"), (57, .class_ 115), (0, u "jdk/internal/util/Preconditions$1"), (7, u "SIOOBE_FORMATTER"), (0, u "Ljava/util/function/BiFunction;"), (0, .class_ 126), (0, u "jdk/internal/util/Preconditions$2"), (3, u "AIOOBE_FORMATTER"), (0, .class_ 132), (0, u "jdk/internal/util/Preconditions$3"), (3, u "IOOBE_FORMATTER")] 57

def k21m0 : Method := { name := "<init>", desc := "()V", sig := { parameters := [], returnType := none }, accessFlags := 1, code := none }
/-- jdk/internal/util/Preconditions -/
def k21 : Class := { plain "jdk/internal/util/Preconditions" (some 0) with
  accessFlags := 33
  interfaces := #[]
  cf := some (fileOf pool21 24 #[.nestMembers #[55, 131, 125, 114]] #[{ accessFlags := 1, nameIndex := 5, descriptorIndex := 6, attributes := #[] }] 33 2 #[] #[{ accessFlags := 25, nameIndex := 123, descriptorIndex := 124, attributes := #[] }, { accessFlags := 25, nameIndex := 130, descriptorIndex := 124, attributes := #[] }, { accessFlags := 25, nameIndex := 136, descriptorIndex := 124, attributes := #[] }])
  fields := #[{ name := "SIOOBE_FORMATTER", type := (.object "java/util/function/BiFunction"), accessFlags := 25, slot := 0, constantValue := 0 }, { name := "AIOOBE_FORMATTER", type := (.object "java/util/function/BiFunction"), accessFlags := 25, slot := 1, constantValue := 0 }, { name := "IOOBE_FORMATTER", type := (.object "java/util/function/BiFunction"), accessFlags := 25, slot := 2, constantValue := 0 }]
  methods := #[k21m0]
  instanceTypes := #[]
  staticTypes := #[(.object "java/util/function/BiFunction"), (.object "java/util/function/BiFunction"), (.object "java/util/function/BiFunction")]
  resolved := Array.replicate 194 none
  statics := some 2 }

def pool22 : Array CpInfo := pool [(2, .class_ 4), (1, u "java/lang/Object"), (0, u "<init>"), (0, u "()V"), (12, .class_ 20), (0, u "java/util/Collections"), (63, u "r"), (0, u "Ljava/util/Random;"), (80, .class_ 167), (0, u "java/util/Collections$UnmodifiableCollection"), (6, .class_ 175), (0, u "java/util/Collections$UnmodifiableSequencedCollection"), (6, .class_ 183), (0, u "java/util/Collections$UnmodifiableSet"), (6, .class_ 191), (0, u "java/util/Collections$UnmodifiableSequencedSet"), (6, .class_ 199), (0, u "java/util/Collections$UnmodifiableSortedSet"), (6, .class_ 207), (0, u "java/util/Collections$UnmodifiableNavigableSet"), (4, .class_ 213), (0, u "java/util/Collections$UnmodifiableList"), (1, .class_ 216), (0, u "java/util/Collections$UnmodifiableRandomAccessList"), (6, .class_ 224), (0, u "java/util/Collections$UnmodifiableMap"), (6, .class_ 232), (0, u "java/util/Collections$UnmodifiableSequencedMap"), (4, .class_ 238), (0, u "java/util/Collections$UnmodifiableSortedMap"), (6, .class_ 246), (0, u "java/util/Collections$UnmodifiableNavigableMap"), (3, .class_ 251), (0, u "java/util/Collections$SynchronizedCollection"), (4, .class_ 257), (0, u "java/util/Collections$SynchronizedSet"), (4, .class_ 263), (0, u "java/util/Collections$SynchronizedSortedSet"), (1, .class_ 266), (0, u "java/util/Collections$SynchronizedNavigableSet"), (1, .class_ 269), (0, u "java/util/Collections$SynchronizedRandomAccessList"), (1, .class_ 272), (0, u "java/util/Collections$SynchronizedList"), (5, .class_ 279), (0, u "java/util/Collections$SynchronizedMap"), (1, .class_ 282), (0, u "java/util/Collections$SynchronizedSortedMap"), (1, .class_ 285), (0, u "java/util/Collections$SynchronizedNavigableMap"), (1, .class_ 288), (0, u "java/util/Collections$CheckedCollection"), (11, .class_ 301), (0, u "java/util/Collections$CheckedQueue"), (3, .class_ 306), (0, u "java/util/Collections$CheckedSet"), (3, .class_ 311), (0, u "java/util/Collections$CheckedSortedSet"), (3, .class_ 316), (0, u "java/util/Collections$CheckedNavigableSet"), (3, .class_ 321), (0, u "java/util/Collections$CheckedRandomAccessList"), (3, .class_ 326), (0, u "java/util/Collections$CheckedList"), (1, .class_ 329), (0, u "java/util/Collections$CheckedMap"), (3, .class_ 334), (0, u "java/util/Collections$CheckedSortedMap"), (3, .class_ 339), (0, u "java/util/Collections$CheckedNavigableMap"), (4, .class_ 346), (1, u "java/util/Collections$EmptyIterator"), (3, .class_ 352), (1, u "java/util/Collections$EmptyListIterator"), (2, .class_ 357), (1, u "java/util/Collections$EmptyEnumeration"), (4, u "EMPTY_SET"), (0, u "Ljava/util/Set;"), (6, u "EMPTY_LIST"), (0, u "Ljava/util/List;"), (2, u "EMPTY_MAP"), (0, u "Ljava/util/Map;"), (4, .class_ 381), (0, u "java/util/Collections$SingletonSet"), (2, .class_ 385), (0, u "java/util/Collections$1"), (1, .class_ 388), (0, u "java/util/Collections$2"), (1, .class_ 391), (0, u "java/util/Collections$SingletonList"), (1, .class_ 394), (0, u "java/util/Collections$SingletonMap"), (22, .class_ 418), (0, u "java/util/Collections$CopiesList"), (4, .class_ 425), (1, u "java/util/Collections$ReverseComparator"), (8, .class_ 435), (0, u "java/util/Collections$ReverseComparator2"), (6, .class_ 443), (0, u "java/util/Collections$3"), (25, .class_ 470), (0, u "java/util/Collections$SetFromMap"), (2, .class_ 474), (0, u "java/util/Collections$SequencedSetFromMap"), (3, .class_ 479), (0, u "java/util/Collections$AsLIFOQueue"), (11, .class_ 492), (0, u "java/util/Collections$EmptySet"), (1, .class_ 495), (0, u "java/util/Collections$EmptyList"), (1, .class_ 498), (0, u "java/util/Collections$EmptyMap"), (1, u "BINARYSEARCH_THRESHOLD"), (0, u "I"), (2, u "REVERSE_THRESHOLD"), (1, u "SHUFFLE_THRESHOLD"), (1, u "FILL_THRESHOLD"), (1, u "ROTATE_THRESHOLD"), (1, u "COPY_THRESHOLD"), (1, u "REPLACEALL_THRESHOLD"), (1, u "INDEXOFSUBLIST_THRESHOLD"), (333, .class_ 851), (0, u "java/util/Collections$CheckedMap$CheckedEntrySet"), (0, .class_ 853), (0, u "java/util/Collections$CheckedMap$CheckedEntrySet$CheckedEntry"), (0, .class_ 855), (0, u "java/util/Collections$CheckedMap$CheckedEntrySet$1"), (0, .class_ 857), (0, u "java/util/Collections$CheckedList$1"), (0, .class_ 859), (0, u "java/util/Collections$CheckedCollection$1"), (0, .class_ 861), (0, u "java/util/Collections$UnmodifiableNavigableMap$EmptyNavigableMap"), (0, .class_ 863), (0, u "java/util/Collections$UnmodifiableMap$UnmodifiableEntrySet"), (0, .class_ 865), (0, u "java/util/Collections$UnmodifiableMap$UnmodifiableEntrySet$UnmodifiableEntry"), (0, .class_ 867), (0, u "java/util/Collections$UnmodifiableMap$UnmodifiableEntrySet$UnmodifiableEntrySetSpliterator"), (0, .class_ 869), (0, u "java/util/Collections$UnmodifiableMap$UnmodifiableEntrySet$1"), (0, .class_ 871), (0, u "java/util/Collections$UnmodifiableList$1"), (0, .class_ 873), (0, u "java/util/Collections$UnmodifiableNavigableSet$EmptyNavigableSet"), (0, .class_ 875), (0, u "java/util/Collections$UnmodifiableCollection$1")] 57

def k22m0 : Method := { name := "<init>", desc := "()V", sig := { parameters := [], returnType := none }, accessFlags := 2, code := none }
/-- java/util/Collections -/
def k22 : Class := { plain "java/util/Collections" (some 0) with
  accessFlags := 33
  interfaces := #[]
  cf := some (fileOf pool22 19 #[.nestMembers #[478, 473, 469, 434, 423, 417, 393, 390, 380, 497, 494, 491, 355, 350, 344, 338, 333, 328, 850, 852, 854, 320, 325, 856, 315, 310, 305, 300, 287, 858, 284, 281, 278, 268, 271, 265, 262, 256, 250, 245, 860, 237, 231, 223, 862, 864, 866, 868, 215, 212, 870, 206, 872, 198, 190, 182, 174, 166, 874, 442, 387, 384]] #[{ accessFlags := 2, nameIndex := 5, descriptorIndex := 6, attributes := #[] }] 33 2 #[] #[{ accessFlags := 26, nameIndex := 500, descriptorIndex := 501, attributes := #[] }, { accessFlags := 26, nameIndex := 504, descriptorIndex := 501, attributes := #[] }, { accessFlags := 26, nameIndex := 506, descriptorIndex := 501, attributes := #[] }, { accessFlags := 26, nameIndex := 508, descriptorIndex := 501, attributes := #[] }, { accessFlags := 26, nameIndex := 510, descriptorIndex := 501, attributes := #[] }, { accessFlags := 26, nameIndex := 512, descriptorIndex := 501, attributes := #[] }, { accessFlags := 26, nameIndex := 514, descriptorIndex := 501, attributes := #[] }, { accessFlags := 26, nameIndex := 516, descriptorIndex := 501, attributes := #[] }, { accessFlags := 10, nameIndex := 84, descriptorIndex := 85, attributes := #[] }, { accessFlags := 25, nameIndex := 362, descriptorIndex := 363, attributes := #[] }, { accessFlags := 25, nameIndex := 370, descriptorIndex := 371, attributes := #[] }, { accessFlags := 25, nameIndex := 374, descriptorIndex := 375, attributes := #[] }])
  fields := #[{ name := "BINARYSEARCH_THRESHOLD", type := .int, accessFlags := 26, slot := 0, constantValue := 0 }, { name := "REVERSE_THRESHOLD", type := .int, accessFlags := 26, slot := 1, constantValue := 0 }, { name := "SHUFFLE_THRESHOLD", type := .int, accessFlags := 26, slot := 2, constantValue := 0 }, { name := "FILL_THRESHOLD", type := .int, accessFlags := 26, slot := 3, constantValue := 0 }, { name := "ROTATE_THRESHOLD", type := .int, accessFlags := 26, slot := 4, constantValue := 0 }, { name := "COPY_THRESHOLD", type := .int, accessFlags := 26, slot := 5, constantValue := 0 }, { name := "REPLACEALL_THRESHOLD", type := .int, accessFlags := 26, slot := 6, constantValue := 0 }, { name := "INDEXOFSUBLIST_THRESHOLD", type := .int, accessFlags := 26, slot := 7, constantValue := 0 }, { name := "r", type := (.object "java/util/Random"), accessFlags := 10, slot := 8, constantValue := 0 }, { name := "EMPTY_SET", type := (.object "java/util/Set"), accessFlags := 25, slot := 9, constantValue := 0 }, { name := "EMPTY_LIST", type := (.object "java/util/List"), accessFlags := 25, slot := 10, constantValue := 0 }, { name := "EMPTY_MAP", type := (.object "java/util/Map"), accessFlags := 25, slot := 11, constantValue := 0 }]
  methods := #[k22m0]
  instanceTypes := #[]
  staticTypes := #[.int, .int, .int, .int, .int, .int, .int, .int, (.object "java/util/Random"), (.object "java/util/Set"), (.object "java/util/List"), (.object "java/util/Map")]
  resolved := Array.replicate 933 none
  statics := some 3 }

def pool23 : Array CpInfo := pool [(8, .class_ 10), (1, u "java/lang/Iterable"), (24, .class_ 36), (0, u "java/lang/Object")] 25

/-- java/lang/Iterable -/
def k23 : Class := { plain "java/lang/Iterable" (some 0) with
  accessFlags := 1537
  interfaces := #[]
  cf := some (fileOf pool23 8 #[] #[] 1537 35 #[] #[])
  fields := #[]
  methods := #[]
  instanceTypes := #[]
  staticTypes := #[]
  resolved := Array.replicate 62 none
  statics := none }

def pool24 : Array CpInfo := pool [(10, .class_ 12), (1, u "java/util/Collection"), (47, .class_ 61), (0, u "java/lang/Object"), (0, .class_ 63), (0, u "java/lang/Iterable")] 51

/-- java/util/Collection -/
def k24 : Class := { plain "java/util/Collection" (some 0) with
  accessFlags := 1537
  interfaces := #[23]
  cf := some (fileOf pool24 10 #[] #[] 1537 60 #[62] #[])
  fields := #[]
  methods := #[]
  instanceTypes := #[]
  staticTypes := #[]
  resolved := Array.replicate 115 none
  statics := none }

def pool25 : Array CpInfo := pool [(2, .class_ 4), (1, u "java/lang/Object"), (0, u "<init>"), (0, u "()V"), (1, .class_ 10), (1, u "java/util/AbstractCollection"), (66, .class_ 78), (0, u "java/util/Collection")] 81

def k25m0 : Method := { name := "<init>", desc := "()V", sig := { parameters := [], returnType := none }, accessFlags := 4, code := none }
/-- java/util/AbstractCollection -/
def k25 : Class := { plain "java/util/AbstractCollection" (some 0) with
  accessFlags := 1057
  interfaces := #[24]
  cf := some (fileOf pool25 8 #[] #[{ accessFlags := 4, nameIndex := 5, descriptorIndex := 6, attributes := #[] }] 1057 2 #[77] #[])
  fields := #[]
  methods := #[k25m0]
  instanceTypes := #[]
  staticTypes := #[]
  resolved := Array.replicate 160 none
  statics := none }

def pool26 : Array CpInfo := pool [(8, .class_ 10), (1, u "java/util/SequencedCollection"), (15, .class_ 27), (0, u "java/lang/Object"), (0, .class_ 29), (0, u "java/util/Collection")] 27

/-- java/util/SequencedCollection -/
def k26 : Class := { plain "java/util/SequencedCollection" (some 0) with
  accessFlags := 1537
  interfaces := #[24]
  cf := some (fileOf pool26 8 #[] #[] 1537 26 #[28] #[])
  fields := #[]
  methods := #[]
  instanceTypes := #[]
  staticTypes := #[]
  resolved := Array.replicate 57 none
  statics := none }

def pool27 : Array CpInfo := pool [(8, .class_ 10), (1, u "java/util/List"), (92, .class_ 104), (0, u "java/lang/Object"), (15, .class_ 121), (0, u "java/util/SequencedCollection")] 129

/-- java/util/List -/
def k27 : Class := { plain "java/util/List" (some 0) with
  accessFlags := 1537
  interfaces := #[26]
  cf := some (fileOf pool27 8 #[] #[] 1537 103 #[120] #[])
  fields := #[]
  methods := #[]
  instanceTypes := #[]
  staticTypes := #[]
  resolved := Array.replicate 251 none
  statics := none }

def pool28 : Array CpInfo := pool [(2, .class_ 4), (1, u "java/util/AbstractCollection"), (0, u "<init>"), (0, u "()V"), (1, .class_ 10), (1, u "java/util/AbstractList"), (0, u "modCount"), (0, u "I"), (64, .class_ 78), (0, u "java/util/AbstractList$Itr"), (3, .class_ 83), (0, u "java/util/AbstractList$ListItr"), (9, .class_ 94), (0, u "java/util/AbstractList$RandomAccessSubList"), (3, .class_ 99), (0, u "java/util/AbstractList$SubList"), (33, .class_ 134), (0, u "java/util/List"), (73, .class_ 209), (0, u "java/util/AbstractList$SubList$1"), (0, .class_ 211), (0, u "java/util/AbstractList$RandomAccessSpliterator")] 6

def k28m0 : Method := { name := "<init>", desc := "()V", sig := { parameters := [], returnType := none }, accessFlags := 4, code := none }
/-- java/util/AbstractList -/
def k28 : Class := { plain "java/util/AbstractList" (some 25) with
  accessFlags := 1057
  interfaces := #[27]
  cf := some (fileOf pool28 8 #[.nestMembers #[93, 98, 208, 210, 82, 77]] #[{ accessFlags := 4, nameIndex := 5, descriptorIndex := 6, attributes := #[] }] 1057 2 #[133] #[{ accessFlags := 132, nameIndex := 11, descriptorIndex := 12, attributes := #[] }])
  fields := #[{ name := "modCount", type := .int, accessFlags := 132, slot := 0, constantValue := 0 }]
  methods := #[k28m0]
  instanceTypes := #[.int]
  staticTypes := #[]
  resolved := Array.replicate 218 none
  statics := none }

def pool29 : Array CpInfo := pool [(1, .class_ 2), (0, u "java/util/RandomAccess"), (0, .class_ 4), (0, u "java/lang/Object")] 2

/-- java/util/RandomAccess -/
def k29 : Class := { plain "java/util/RandomAccess" (some 0) with
  accessFlags := 1537
  interfaces := #[]
  cf := some (fileOf pool29 1 #[] #[] 1537 3 #[] #[])
  fields := #[]
  methods := #[]
  instanceTypes := #[]
  staticTypes := #[]
  resolved := Array.replicate 7 none
  statics := none }

def pool30 : Array CpInfo := pool [(2, .class_ 4), (1, u "java/util/AbstractList"), (0, u "<init>"), (0, u "()V"), (1, .class_ 10), (1, u "java/util/Collections"), (54, .class_ 66), (0, u "java/util/Collections$EmptyList"), (0, .class_ 68), (0, u "java/util/RandomAccess"), (0, .class_ 70), (0, u "java/io/Serializable"), (0, u "serialVersionUID"), (0, u "J")] 77

def k30m0 : Method := { name := "<init>", desc := "()V", sig := { parameters := [], returnType := none }, accessFlags := 2, code := none }
/-- java/util/Collections$EmptyList -/
def k30 : Class := { plain "java/util/Collections$EmptyList" (some 28) with
  accessFlags := 32
  interfaces := #[29, 2]
  cf := some (fileOf pool30 65 #[.nestHost 8] #[{ accessFlags := 2, nameIndex := 5, descriptorIndex := 6, attributes := #[] }] 32 2 #[67, 69] #[{ accessFlags := 26, nameIndex := 71, descriptorIndex := 72, attributes := #[] }])
  fields := #[{ name := "serialVersionUID", type := .long, accessFlags := 26, slot := 0, constantValue := 0 }]
  methods := #[k30m0]
  instanceTypes := #[.int]
  staticTypes := #[.long]
  resolved := Array.replicate 150 none
  statics := none }

def pool31 : Array CpInfo := pool [(2, .class_ 4), (1, u "java/lang/StackTraceElement"), (0, u "<init>"), (2, .class_ 10), (1, u "java/lang/Object"), (0, u "()V"), (2, u "format"), (0, u "B"), (2, u "classLoaderName"), (0, u "Ljava/lang/String;"), (2, u "moduleName"), (2, u "moduleVersion"), (12, u "declaringClass"), (4, u "methodName"), (2, u "fileName"), (2, u "lineNumber"), (0, u "I"), (65, u "declaringClassObject"), (0, u "Ljava/lang/Class;"), (33, .class_ 153), (1, u "java/lang/StackTraceElement$HashedModules"), (17, .class_ 172), (0, u "java/io/Serializable"), (0, u "NATIVE_METHOD"), (1, u "UNKNOWN_SOURCE"), (2, u "BUILTIN_CLASS_LOADER"), (1, u "JDK_NON_UPGRADEABLE_MODULE"), (1, u "serialVersionUID"), (0, u "J")] 51

def k31m0 : Method := { name := "<init>", desc := "()V", sig := { parameters := [], returnType := none }, accessFlags := 2, code := none }
/-- java/lang/StackTraceElement -/
def k31 : Class := { plain "java/lang/StackTraceElement" (some 0) with
  accessFlags := 49
  interfaces := #[2]
  cf := some (fileOf pool31 2 #[.nestMembers #[151]] #[{ accessFlags := 2, nameIndex := 5, descriptorIndex := 11, attributes := #[] }] 49 8 #[171] #[{ accessFlags := 26, nameIndex := 173, descriptorIndex := 19, attributes := #[] }, { accessFlags := 26, nameIndex := 175, descriptorIndex := 19, attributes := #[] }, { accessFlags := 130, nameIndex := 116, descriptorIndex := 117, attributes := #[] }, { accessFlags := 2, nameIndex := 18, descriptorIndex := 19, attributes := #[] }, { accessFlags := 2, nameIndex := 22, descriptorIndex := 19, attributes := #[] }, { accessFlags := 2, nameIndex := 25, descriptorIndex := 19, attributes := #[] }, { accessFlags := 2, nameIndex := 38, descriptorIndex := 19, attributes := #[] }, { accessFlags := 2, nameIndex := 43, descriptorIndex := 19, attributes := #[] }, { accessFlags := 2, nameIndex := 46, descriptorIndex := 19, attributes := #[] }, { accessFlags := 2, nameIndex := 49, descriptorIndex := 50, attributes := #[] }, { accessFlags := 2, nameIndex := 14, descriptorIndex := 15, attributes := #[] }, { accessFlags := 26, nameIndex := 178, descriptorIndex := 15, attributes := #[] }, { accessFlags := 26, nameIndex := 180, descriptorIndex := 15, attributes := #[] }, { accessFlags := 26, nameIndex := 182, descriptorIndex := 183, attributes := #[] }])
  fields := #[{ name := "NATIVE_METHOD", type := (.object "java/lang/String"), accessFlags := 26, slot := 0, constantValue := 0 }, { name := "UNKNOWN_SOURCE", type := (.object "java/lang/String"), accessFlags := 26, slot := 1, constantValue := 0 }, { name := "declaringClassObject", type := (.object "java/lang/Class"), accessFlags := 130, slot := 0, constantValue := 0 }, { name := "classLoaderName", type := (.object "java/lang/String"), accessFlags := 2, slot := 1, constantValue := 0 }, { name := "moduleName", type := (.object "java/lang/String"), accessFlags := 2, slot := 2, constantValue := 0 }, { name := "moduleVersion", type := (.object "java/lang/String"), accessFlags := 2, slot := 3, constantValue := 0 }, { name := "declaringClass", type := (.object "java/lang/String"), accessFlags := 2, slot := 4, constantValue := 0 }, { name := "methodName", type := (.object "java/lang/String"), accessFlags := 2, slot := 5, constantValue := 0 }, { name := "fileName", type := (.object "java/lang/String"), accessFlags := 2, slot := 6, constantValue := 0 }, { name := "lineNumber", type := .int, accessFlags := 2, slot := 7, constantValue := 0 }, { name := "format", type := .byte, accessFlags := 2, slot := 8, constantValue := 0 }, { name := "BUILTIN_CLASS_LOADER", type := .byte, accessFlags := 26, slot := 2, constantValue := 0 }, { name := "JDK_NON_UPGRADEABLE_MODULE", type := .byte, accessFlags := 26, slot := 3, constantValue := 0 }, { name := "serialVersionUID", type := .long, accessFlags := 26, slot := 4, constantValue := 0 }]
  methods := #[k31m0]
  instanceTypes := #[(.object "java/lang/Class"), (.object "java/lang/String"), (.object "java/lang/String"), (.object "java/lang/String"), (.object "java/lang/String"), (.object "java/lang/String"), (.object "java/lang/String"), .int, .byte]
  staticTypes := #[(.object "java/lang/String"), (.object "java/lang/String"), .byte, .byte, .long]
  resolved := Array.replicate 235 none
  statics := none }

def pool32 : Array CpInfo := pool [(1, u "java/lang/Cloneable"), (0, .class_ 1), (0, u "java/lang/Object"), (0, .class_ 3)] 3

/-- java/lang/Cloneable -/
def k32 : Class := { plain "java/lang/Cloneable" (some 0) with
  accessFlags := 1537
  interfaces := #[]
  cf := some (fileOf pool32 2 #[] #[] 1537 4 #[] #[])
  fields := #[]
  methods := #[]
  instanceTypes := #[]
  staticTypes := #[]
  resolved := Array.replicate 8 none
  statics := none }

/-- the primitive byte -/
def k33 : Class := { plain "byte" none with kind := .primitive 'B', accessFlags := 0x411 }
/-- [B -/
def k34 : Class := { plain "[B" (some 0) with kind := .array 33 .byte, interfaces := #[32, 2], accessFlags := 1041 }

/-- the primitive char -/
def k35 : Class := { plain "char" none with kind := .primitive 'C', accessFlags := 0x411 }
/-- [C -/
def k36 : Class := { plain "[C" (some 0) with kind := .array 35 .char, interfaces := #[32, 2], accessFlags := 1041 }

/-- the primitive int -/
def k37 : Class := { plain "int" none with kind := .primitive 'I', accessFlags := 0x411 }
/-- [I -/
def k38 : Class := { plain "[I" (some 0) with kind := .array 37 .int, interfaces := #[32, 2], accessFlags := 1041 }

/-- [Ljava/lang/Object; -/
def k39 : Class := { plain "[Ljava/lang/Object;" (some 0) with kind := .array 0 (.object "java/lang/Object"), interfaces := #[32, 2], accessFlags := 1041 }

/-- [Ljava/lang/StackTraceElement; -/
def k40 : Class := { plain "[Ljava/lang/StackTraceElement;" (some 0) with kind := .array 31 (.object "java/lang/StackTraceElement"), interfaces := #[32, 2], accessFlags := 1041 }

/-- [Ljava/lang/Throwable; -/
def k41 : Class := { plain "[Ljava/lang/Throwable;" (some 0) with kind := .array 9 (.object "java/lang/Throwable"), interfaces := #[32, 2], accessFlags := 1041 }

def heap : Heap := #[{ cls := 7, slots := #[.long 0, .int 1, .null, .int 0, .null, .int 0, .int 0], vm := .statics 7 },
  { cls := 9, slots := #[.long 0, .ref 4, .ref 5, .null, .null, .null, .null, .ref 6, .int 1], vm := .statics 9 },
  { cls := 21, slots := #[.null, .null, .null], vm := .statics 21 },
  { cls := 22, slots := #[.int 0, .int 0, .int 0, .int 0, .int 0, .int 0, .int 0, .int 0, .null, .null, .ref 5, .null], vm := .statics 22 },
  { cls := 40, slots := #[], vm := .none },
  { cls := 30, slots := #[.int 0], vm := .none },
  { cls := 41, slots := #[], vm := .none }]
def classes : Array Class := #[k0, k1, k2, k3, k4, k5, k6, k7, k8, k9, k10, k11, k12, k13, k14, k15, k16, k17, k18, k19, k20, k21, k22, k23, k24, k25, k26, k27, k28, k29, k30, k31, k32, k33, k34, k35, k36, k37, k38, k39, k40, k41]
def interned : List (Array UInt16 × Addr) := []
def slotsUsed : Nat := 32
def theMethod : MethodId := ⟨1, 1⟩
def args0 : Array Value := #[.int 5, .int 6, .int 7]
def aboutOver (below : List Frame) : State where
  vm := { classes := classes, interned := interned.toArray }
  heap := heap
  slotsUsed := slotsUsed
  threads := #[{ frames := .invoking theMethod args0 :: below }]
def below0 : List Frame := [.native { method := ⟨0, 0⟩, args := #[] }]
def about1 : State := aboutOver below0
def p0 : Program := .bare "" "" ""
def e0 : Env := launch0.env 0 0 0
theorem w_frames : about1.frames = Frame.invoking theMethod args0 :: below0 := rfl
set_option maxRecDepth 65536 in
theorem w_args : argsFit about1.vm theMethod args0 = true := by decide +kernel
set_option maxRecDepth 65536 in
theorem w_heap : heapFits about1 = true := by decide +kernel
set_option maxRecDepth 65536 in
theorem w_runnable : about1.curStatus? = some .runnable := by decide +kernel
set_option maxRecDepth 65536 in
theorem w_alone : about1.alone = true := by decide +kernel
set_option maxRecDepth 65536 in
theorem w_named : about1.methodNamed? x = some theMethod := by decide +kernel
set_option maxRecDepth 65536 in
theorem w_hears : about1.hears theMethod below0 = true := by decide +kernel
set_option maxRecDepth 65536 in
theorem w_ripe : about1.ripe theMethod args0 below0 = true := by decide +kernel
theorem w_running : about1.status = .running := rfl
set_option maxRecDepth 65536 in
theorem w_room : about1.hasRoom e0.platform room_1 = true :=
  launch0.hasRoom_least _ room_1 (by decide +kernel) (by decide +kernel) (by decide +kernel) (by decide +kernel) (by decide +kernel) (by decide +kernel)
theorem allAtoms_all (ts : List Jvm.Cond) (a : Array Jvm.Value) (st : Jvm.State) : (allAtoms ts).before a st = ts.all (fun c => c.before a st) := by
  induction ts with
  | nil => rfl
  | cons c t ih =>
    show (Jvm.Cond.and c (allAtoms t)).before a st = _
    rw [Jvm.Cond.before_and, ih, List.all_cons]
def words1 : List Jvm.Cond := Jvm.Cond.code x code maxLocals ret :: tables_1
/-- a 'code' word, met by the world's own term for the bytes: nothing is compared byte by byte -/
theorem code_word {y : MethodName} {bytes : ByteArray} {mx : Nat} {rt : Option FieldType} {a : Array Value} {s : State} {m : MethodId} {meth : Method} {c : Code} (h1 : s.methodNamed? y = some m) (h2 : s.vm.method? m = some meth) (h3 : meth.code = some c) (h4 : c.code = bytes)
    (h5 : (c.maxLocals == mx && c.exceptionTable.isEmpty && decide (c.maxStack ≤ mostOperands) && decide (meth.sig.returnType = rt) && !meth.locks && decide (parseMethodDescriptor y.desc = some meth.sig)) = true) : (Jvm.Cond.code y bytes mx rt).before a s = true := by
  simp only [Bool.and_eq_true, beq_iff_eq, Bool.not_eq_true', decide_eq_true_eq] at h5
  obtain ⟨⟨⟨⟨⟨g1, g2⟩, g3⟩, g4⟩, g5⟩, g6⟩ := h5
  simp [Cond.before, Cond.holds, Cond.value, h1, h2, h3, h4, g1, g2, g3, g4, g5, g6]
def isCode : Jvm.Cond → Bool
  | .code _ _ _ _ => true
  | _ => false
theorem all_split {L : List Jvm.Cond} {P : Jvm.Cond → Bool} (h1 : L.all (fun c => isCode c || P c) = true) (h2 : ∀ c ∈ L.filter isCode, P c = true) : L.all P = true := by
  refine List.all_eq_true.mpr fun c hc => ?_
  have h := List.all_eq_true.mp h1 c hc
  rcases Bool.eq_false_or_eq_true (isCode c) with hi | hi
  · exact h2 c (List.mem_filter.mpr ⟨hc, hi⟩)
  · simpa [hi] using h
set_option maxRecDepth 65536 in
theorem w_c0 : (Jvm.Cond.code x code maxLocals ret).before args0 about1 = true := code_word (m := ⟨1, 1⟩) (meth := k1m1) (c := k1c1) (by decide +kernel) rfl rfl rfl (by decide +kernel)
set_option maxRecDepth 65536 in
theorem w_c1 : (Jvm.Cond.code ({ cls := "java/lang/String", name := "<init>", desc := "([C)V" } : Jvm.MethodName) jdk_42_method_3_code (2 : Nat) (Option.none : Option Jvm.ClassFile.FieldType)).before args0 about1 = true := code_word (m := ⟨7, 1⟩) (meth := k7m1) (c := k7c1) (by decide +kernel) rfl rfl rfl (by decide +kernel)
set_option maxRecDepth 65536 in
theorem w_c2 : (Jvm.Cond.code ({ cls := "java/lang/String", name := "<init>", desc := "([CIILjava/lang/Void;)V" } : Jvm.MethodName) jdk_42_method_149_code (6 : Nat) (Option.none : Option Jvm.ClassFile.FieldType)).before args0 about1 = true := code_word (m := ⟨7, 6⟩) (meth := k7m6) (c := k7c6) (by decide +kernel) rfl rfl rfl (by decide +kernel)
set_option maxRecDepth 65536 in
theorem w_c3 : (Jvm.Cond.code ({ cls := "java/lang/Object", name := "<init>", desc := "()V" } : Jvm.MethodName) object_method_1_code (1 : Nat) (Option.none : Option Jvm.ClassFile.FieldType)).before args0 about1 = true := code_word (m := ⟨0, 0⟩) (meth := k0m0) (c := k0c0) (by decide +kernel) rfl rfl rfl (by decide +kernel)
set_option maxRecDepth 65536 in
theorem w_c4 : (Jvm.Cond.code ({ cls := "java/lang/StringUTF16", name := "compress", desc := "([CII)[B" } : Jvm.MethodName) jdk_52_method_16_code (6 : Nat) (Option.some (Jvm.ClassFile.FieldType.array Jvm.ClassFile.FieldType.byte))).before args0 about1 = true := code_word (m := ⟨8, 2⟩) (meth := k8m2) (c := k8c2) (by decide +kernel) rfl rfl rfl (by decide +kernel)
set_option maxRecDepth 65536 in
theorem w_c5 : (Jvm.Cond.code ({ cls := "java/lang/StringUTF16", name := "compress", desc := "([CI[BII)I" } : Jvm.MethodName) jdk_52_method_21_code (7 : Nat) (Option.some Jvm.ClassFile.FieldType.int)).before args0 about1 = true := code_word (m := ⟨8, 3⟩) (meth := k8m3) (c := k8c3) (by decide +kernel) rfl rfl rfl (by decide +kernel)
set_option maxRecDepth 65536 in
theorem w_c6 : (Jvm.Cond.code ({ cls := "java/lang/StringUTF16", name := "coderFromArrayLen", desc := "([BI)B" } : Jvm.MethodName) jdk_52_method_15_code (2 : Nat) (Option.some Jvm.ClassFile.FieldType.byte)).before args0 about1 = true := code_word (m := ⟨8, 1⟩) (meth := k8m1) (c := k8c1) (by decide +kernel) rfl rfl rfl (by decide +kernel)
set_option maxRecDepth 65536 in
theorem w_c7 : (Jvm.Cond.code ({ cls := "startbeam/ComponentException", name := "cannotCreate", desc := "(Ljava/lang/String;Ljava/lang/String;Ljava/lang/String;)Lstartbeam/ComponentException;" } : Jvm.MethodName) prog_19_method_8_code (3 : Nat) (Option.some (Jvm.ClassFile.FieldType.object "startbeam/ComponentException"))).before args0 about1 = true := code_word (m := ⟨12, 3⟩) (meth := k12m3) (c := k12c3) (by decide +kernel) rfl rfl rfl (by decide +kernel)
set_option maxRecDepth 65536 in
theorem w_c8 : (Jvm.Cond.code ({ cls := "startbeam/ComponentException", name := "cannotCreateMessage", desc := "(Ljava/lang/String;Ljava/lang/String;)Ljava/lang/String;" } : Jvm.MethodName) prog_19_method_9_code (2 : Nat) (Option.some (Jvm.ClassFile.FieldType.object "java/lang/String"))).before args0 about1 = true := code_word (m := ⟨12, 4⟩) (meth := k12m4) (c := k12c4) (by decide +kernel) rfl rfl rfl (by decide +kernel)
set_option maxRecDepth 65536 in
theorem w_c9 : (Jvm.Cond.code ({ cls := "java/lang/StringBuilder", name := "<init>", desc := "()V" } : Jvm.MethodName) jdk_67_method_1_code (1 : Nat) (Option.none : Option Jvm.ClassFile.FieldType)).before args0 about1 = true := code_word (m := ⟨15, 0⟩) (meth := k15m0) (c := k15c0) (by decide +kernel) rfl rfl rfl (by decide +kernel)
set_option maxRecDepth 65536 in
theorem w_c10 : (Jvm.Cond.code ({ cls := "java/lang/AbstractStringBuilder", name := "<init>", desc := "(I)V" } : Jvm.MethodName) jdk_68_method_2_code (2 : Nat) (Option.none : Option Jvm.ClassFile.FieldType)).before args0 about1 = true := code_word (m := ⟨14, 1⟩) (meth := k14m1) (c := k14c1) (by decide +kernel) rfl rfl rfl (by decide +kernel)
set_option maxRecDepth 65536 in
theorem w_c11 : (Jvm.Cond.code ({ cls := "java/lang/StringBuilder", name := "append", desc := "(Ljava/lang/String;)Ljava/lang/StringBuilder;" } : Jvm.MethodName) jdk_67_method_7_code (2 : Nat) (Option.some (Jvm.ClassFile.FieldType.object "java/lang/StringBuilder"))).before args0 about1 = true := code_word (m := ⟨15, 1⟩) (meth := k15m1) (c := k15c1) (by decide +kernel) rfl rfl rfl (by decide +kernel)
set_option maxRecDepth 65536 in
theorem w_c12 : (Jvm.Cond.code ({ cls := "java/lang/AbstractStringBuilder", name := "append", desc := "(Ljava/lang/String;)Ljava/lang/AbstractStringBuilder;" } : Jvm.MethodName) jdk_68_method_22_code (3 : Nat) (Option.some (Jvm.ClassFile.FieldType.object "java/lang/AbstractStringBuilder"))).before args0 about1 = true := code_word (m := ⟨14, 5⟩) (meth := k14m5) (c := k14c5) (by decide +kernel) rfl rfl rfl (by decide +kernel)
set_option maxRecDepth 65536 in
theorem w_c13 : (Jvm.Cond.code ({ cls := "java/lang/String", name := "length", desc := "()I" } : Jvm.MethodName) jdk_42_method_54_code (1 : Nat) (Option.some Jvm.ClassFile.FieldType.int)).before args0 about1 = true := code_word (m := ⟨7, 3⟩) (meth := k7m3) (c := k7c3) (by decide +kernel) rfl rfl rfl (by decide +kernel)
set_option maxRecDepth 65536 in
theorem w_c14 : (Jvm.Cond.code ({ cls := "java/lang/String", name := "coder", desc := "()B" } : Jvm.MethodName) jdk_42_method_152_code (1 : Nat) (Option.some Jvm.ClassFile.FieldType.byte)).before args0 about1 = true := code_word (m := ⟨7, 8⟩) (meth := k7m8) (c := k7c8) (by decide +kernel) rfl rfl rfl (by decide +kernel)
set_option maxRecDepth 65536 in
theorem w_c15 : (Jvm.Cond.code ({ cls := "java/lang/AbstractStringBuilder", name := "ensureCapacityInternal", desc := "(I)V" } : Jvm.MethodName) jdk_68_method_9_code (3 : Nat) (Option.none : Option Jvm.ClassFile.FieldType)).before args0 about1 = true := code_word (m := ⟨14, 3⟩) (meth := k14m3) (c := k14c3) (by decide +kernel) rfl rfl rfl (by decide +kernel)
set_option maxRecDepth 65536 in
theorem w_c16 : (Jvm.Cond.code ({ cls := "java/lang/AbstractStringBuilder", name := "putStringAt", desc := "(ILjava/lang/String;)V" } : Jvm.MethodName) jdk_68_method_73_code (3 : Nat) (Option.none : Option Jvm.ClassFile.FieldType)).before args0 about1 = true := code_word (m := ⟨14, 9⟩) (meth := k14m9) (c := k14c9) (by decide +kernel) rfl rfl rfl (by decide +kernel)
set_option maxRecDepth 65536 in
theorem w_c17 : (Jvm.Cond.code ({ cls := "java/lang/AbstractStringBuilder", name := "inflateIfNeededFor", desc := "(Ljava/lang/String;)V" } : Jvm.MethodName) jdk_68_method_71_code (2 : Nat) (Option.none : Option Jvm.ClassFile.FieldType)).before args0 about1 = true := code_word (m := ⟨14, 8⟩) (meth := k14m8) (c := k14c8) (by decide +kernel) rfl rfl rfl (by decide +kernel)
set_option maxRecDepth 65536 in
theorem w_c18 : (Jvm.Cond.code ({ cls := "java/lang/String", name := "getBytes", desc := "([BIB)V" } : Jvm.MethodName) jdk_42_method_147_code (4 : Nat) (Option.none : Option Jvm.ClassFile.FieldType)).before args0 about1 = true := code_word (m := ⟨7, 5⟩) (meth := k7m5) (c := k7c5) (by decide +kernel) rfl rfl rfl (by decide +kernel)
set_option maxRecDepth 65536 in
theorem w_c19 : (Jvm.Cond.code ({ cls := "java/lang/AbstractStringBuilder", name := "newCapacity", desc := "(I)I" } : Jvm.MethodName) jdk_68_method_10_code (6 : Nat) (Option.some Jvm.ClassFile.FieldType.int)).before args0 about1 = true := code_word (m := ⟨14, 4⟩) (meth := k14m4) (c := k14c4) (by decide +kernel) rfl rfl rfl (by decide +kernel)
set_option maxRecDepth 65536 in
theorem w_c20 : (Jvm.Cond.code ({ cls := "jdk/internal/util/ArraysSupport", name := "newLength", desc := "(III)I" } : Jvm.MethodName) jdk_48_method_27_code (4 : Nat) (Option.some Jvm.ClassFile.FieldType.int)).before args0 about1 = true := code_word (m := ⟨17, 1⟩) (meth := k17m1) (c := k17c1) (by decide +kernel) rfl rfl rfl (by decide +kernel)
set_option maxRecDepth 65536 in
theorem w_c21 : (Jvm.Cond.code ({ cls := "java/lang/Math", name := "max", desc := "(II)I" } : Jvm.MethodName) jdk_29_method_65_code (2 : Nat) (Option.some Jvm.ClassFile.FieldType.int)).before args0 about1 = true := code_word (m := ⟨18, 1⟩) (meth := k18m1) (c := k18c1) (by decide +kernel) rfl rfl rfl (by decide +kernel)
set_option maxRecDepth 65536 in
theorem w_c22 : (Jvm.Cond.code ({ cls := "java/util/Arrays", name := "copyOf", desc := "([BI)[B" } : Jvm.MethodName) jdk_65_method_121_code (3 : Nat) (Option.some (Jvm.ClassFile.FieldType.array Jvm.ClassFile.FieldType.byte))).before args0 about1 = true := code_word (m := ⟨19, 1⟩) (meth := k19m1) (c := k19c1) (by decide +kernel) rfl rfl rfl (by decide +kernel)
set_option maxRecDepth 65536 in
theorem w_c23 : (Jvm.Cond.code ({ cls := "java/lang/Math", name := "min", desc := "(II)I" } : Jvm.MethodName) jdk_29_method_69_code (2 : Nat) (Option.some Jvm.ClassFile.FieldType.int)).before args0 about1 = true := code_word (m := ⟨18, 2⟩) (meth := k18m2) (c := k18c2) (by decide +kernel) rfl rfl rfl (by decide +kernel)
set_option maxRecDepth 65536 in
theorem w_c24 : (Jvm.Cond.code ({ cls := "java/lang/StringBuilder", name := "toString", desc := "()Ljava/lang/String;" } : Jvm.MethodName) jdk_67_method_42_code (1 : Nat) (Option.some (Jvm.ClassFile.FieldType.object "java/lang/String"))).before args0 about1 = true := code_word (m := ⟨15, 2⟩) (meth := k15m2) (c := k15c2) (by decide +kernel) rfl rfl rfl (by decide +kernel)
set_option maxRecDepth 65536 in
theorem w_c25 : (Jvm.Cond.code ({ cls := "java/lang/String", name := "<init>", desc := "(Ljava/lang/StringBuilder;)V" } : Jvm.MethodName) jdk_42_method_53_code (2 : Nat) (Option.none : Option Jvm.ClassFile.FieldType)).before args0 about1 = true := code_word (m := ⟨7, 2⟩) (meth := k7m2) (c := k7c2) (by decide +kernel) rfl rfl rfl (by decide +kernel)
set_option maxRecDepth 65536 in
theorem w_c26 : (Jvm.Cond.code ({ cls := "java/lang/String", name := "<init>", desc := "(Ljava/lang/AbstractStringBuilder;Ljava/lang/Void;)V" } : Jvm.MethodName) jdk_42_method_150_code (5 : Nat) (Option.none : Option Jvm.ClassFile.FieldType)).before args0 about1 = true := code_word (m := ⟨7, 7⟩) (meth := k7m7) (c := k7c7) (by decide +kernel) rfl rfl rfl (by decide +kernel)
set_option maxRecDepth 65536 in
theorem w_c27 : (Jvm.Cond.code ({ cls := "java/lang/AbstractStringBuilder", name := "getValue", desc := "()[B" } : Jvm.MethodName) jdk_68_method_64_code (1 : Nat) (Option.some (Jvm.ClassFile.FieldType.array Jvm.ClassFile.FieldType.byte))).before args0 about1 = true := code_word (m := ⟨14, 6⟩) (meth := k14m6) (c := k14c6) (by decide +kernel) rfl rfl rfl (by decide +kernel)
set_option maxRecDepth 65536 in
theorem w_c28 : (Jvm.Cond.code ({ cls := "java/lang/StringBuilder", name := "length", desc := "()I" } : Jvm.MethodName) jdk_67_method_93_code (1 : Nat) (Option.some Jvm.ClassFile.FieldType.int)).before args0 about1 = true := code_word (m := ⟨15, 3⟩) (meth := k15m3) (c := k15c3) (by decide +kernel) rfl rfl rfl (by decide +kernel)
set_option maxRecDepth 65536 in
theorem w_c29 : (Jvm.Cond.code ({ cls := "java/lang/AbstractStringBuilder", name := "length", desc := "()I" } : Jvm.MethodName) jdk_68_method_6_code (1 : Nat) (Option.some Jvm.ClassFile.FieldType.int)).before args0 about1 = true := code_word (m := ⟨14, 2⟩) (meth := k14m2) (c := k14c2) (by decide +kernel) rfl rfl rfl (by decide +kernel)
set_option maxRecDepth 65536 in
theorem w_c30 : (Jvm.Cond.code ({ cls := "java/lang/AbstractStringBuilder", name := "isLatin1", desc := "()Z" } : Jvm.MethodName) jdk_68_method_68_code (1 : Nat) (Option.some Jvm.ClassFile.FieldType.boolean)).before args0 about1 = true := code_word (m := ⟨14, 7⟩) (meth := k14m7) (c := k14c7) (by decide +kernel) rfl rfl rfl (by decide +kernel)
set_option maxRecDepth 65536 in
theorem w_c31 : (Jvm.Cond.code ({ cls := "java/util/Arrays", name := "copyOfRange", desc := "([BII)[B" } : Jvm.MethodName) jdk_65_method_132_code (3 : Nat) (Option.some (Jvm.ClassFile.FieldType.array Jvm.ClassFile.FieldType.byte))).before args0 about1 = true := code_word (m := ⟨19, 3⟩) (meth := k19m3) (c := k19c3) (by decide +kernel) rfl rfl rfl (by decide +kernel)
set_option maxRecDepth 65536 in
theorem w_c32 : (Jvm.Cond.code ({ cls := "java/util/Arrays", name := "copyOfRangeByte", desc := "([BII)[B" } : Jvm.MethodName) jdk_65_method_133_code (5 : Nat) (Option.some (Jvm.ClassFile.FieldType.array Jvm.ClassFile.FieldType.byte))).before args0 about1 = true := code_word (m := ⟨19, 4⟩) (meth := k19m4) (c := k19c4) (by decide +kernel) rfl rfl rfl (by decide +kernel)
set_option maxRecDepth 65536 in
theorem w_c33 : (Jvm.Cond.code ({ cls := "java/util/Arrays", name := "checkLength", desc := "(II)V" } : Jvm.MethodName) jdk_65_method_131_code (2 : Nat) (Option.none : Option Jvm.ClassFile.FieldType)).before args0 about1 = true := code_word (m := ⟨19, 2⟩) (meth := k19m2) (c := k19c2) (by decide +kernel) rfl rfl rfl (by decide +kernel)
set_option maxRecDepth 65536 in
theorem w_c34 : (Jvm.Cond.code ({ cls := "startbeam/ComponentException", name := "<init>", desc := "(Ljava/lang/String;Ljava/lang/String;)V" } : Jvm.MethodName) prog_19_method_3_code (3 : Nat) (Option.none : Option Jvm.ClassFile.FieldType)).before args0 about1 = true := code_word (m := ⟨12, 0⟩) (meth := k12m0) (c := k12c0) (by decide +kernel) rfl rfl rfl (by decide +kernel)
set_option maxRecDepth 65536 in
theorem w_c35 : (Jvm.Cond.code ({ cls := "startbeam/ComponentException", name := "<init>", desc := "(Ljava/lang/String;Ljava/lang/String;Ljava/lang/Throwable;)V" } : Jvm.MethodName) prog_19_method_4_code (4 : Nat) (Option.none : Option Jvm.ClassFile.FieldType)).before args0 about1 = true := code_word (m := ⟨12, 1⟩) (meth := k12m1) (c := k12c1) (by decide +kernel) rfl rfl rfl (by decide +kernel)
set_option maxRecDepth 65536 in
theorem w_c36 : (Jvm.Cond.code ({ cls := "java/lang/RuntimeException", name := "<init>", desc := "(Ljava/lang/String;Ljava/lang/Throwable;)V" } : Jvm.MethodName) jdk_58_method_3_code (3 : Nat) (Option.none : Option Jvm.ClassFile.FieldType)).before args0 about1 = true := code_word (m := ⟨11, 1⟩) (meth := k11m1) (c := k11c1) (by decide +kernel) rfl rfl rfl (by decide +kernel)
set_option maxRecDepth 65536 in
theorem w_c37 : (Jvm.Cond.code ({ cls := "java/lang/Exception", name := "<init>", desc := "(Ljava/lang/String;Ljava/lang/Throwable;)V" } : Jvm.MethodName) jdk_59_method_3_code (3 : Nat) (Option.none : Option Jvm.ClassFile.FieldType)).before args0 about1 = true := code_word (m := ⟨10, 1⟩) (meth := k10m1) (c := k10c1) (by decide +kernel) rfl rfl rfl (by decide +kernel)
set_option maxRecDepth 65536 in
theorem w_c38 : (Jvm.Cond.code ({ cls := "java/lang/Throwable", name := "<init>", desc := "(Ljava/lang/String;Ljava/lang/Throwable;)V" } : Jvm.MethodName) jdk_78_method_3_code (3 : Nat) (Option.none : Option Jvm.ClassFile.FieldType)).before args0 about1 = true := code_word (m := ⟨9, 1⟩) (meth := k9m1) (c := k9c1) (by decide +kernel) rfl rfl rfl (by decide +kernel)
set_option maxRecDepth 65536 in
theorem w_c39 : (Jvm.Cond.code ({ cls := "java/lang/Throwable", name := "<init>", desc := "()V" } : Jvm.MethodName) jdk_78_method_1_code (1 : Nat) (Option.none : Option Jvm.ClassFile.FieldType)).before args0 about1 = true := code_word (m := ⟨9, 0⟩) (meth := k9m0) (c := k9c0) (by decide +kernel) rfl rfl rfl (by decide +kernel)
set_option maxRecDepth 65536 in
theorem w_c40 : (Jvm.Cond.code ({ cls := "java/lang/Throwable", name := "getMessage", desc := "()Ljava/lang/String;" } : Jvm.MethodName) jdk_78_method_6_code (1 : Nat) (Option.some (Jvm.ClassFile.FieldType.object "java/lang/String"))).before args0 about1 = true := code_word (m := ⟨9, 2⟩) (meth := k9m2) (c := k9c2) (by decide +kernel) rfl rfl rfl (by decide +kernel)
set_option maxRecDepth 65536 in
theorem w_c41 : (Jvm.Cond.code ({ cls := "java/lang/String", name := "equals", desc := "(Ljava/lang/Object;)Z" } : Jvm.MethodName) jdk_42_method_66_code (3 : Nat) (Option.some Jvm.ClassFile.FieldType.boolean)).before args0 about1 = true := code_word (m := ⟨7, 4⟩) (meth := k7m4) (c := k7c4) (by decide +kernel) rfl rfl rfl (by decide +kernel)
set_option maxRecDepth 65536 in
theorem w_c42 : (Jvm.Cond.code ({ cls := "java/lang/StringLatin1", name := "equals", desc := "([B[B)Z" } : Jvm.MethodName) jdk_43_method_13_code (3 : Nat) (Option.some Jvm.ClassFile.FieldType.boolean)).before args0 about1 = true := code_word (m := ⟨20, 1⟩) (meth := k20m1) (c := k20c1) (by decide +kernel) rfl rfl rfl (by decide +kernel)
set_option maxRecDepth 65536 in
theorem w_c43 : (Jvm.Cond.code ({ cls := "startbeam/ComponentException", name := "remedy", desc := "()Ljava/lang/String;" } : Jvm.MethodName) prog_19_method_5_code (1 : Nat) (Option.some (Jvm.ClassFile.FieldType.object "java/lang/String"))).before args0 about1 = true := code_word (m := ⟨12, 2⟩) (meth := k12m2) (c := k12c2) (by decide +kernel) rfl rfl rfl (by decide +kernel)
def codes1 : List Jvm.Cond := [Jvm.Cond.code x code maxLocals ret, Jvm.Cond.code ({ cls := "java/lang/String", name := "<init>", desc := "([C)V" } : Jvm.MethodName) jdk_42_method_3_code (2 : Nat) (Option.none : Option Jvm.ClassFile.FieldType), Jvm.Cond.code ({ cls := "java/lang/String", name := "<init>", desc := "([CIILjava/lang/Void;)V" } : Jvm.MethodName) jdk_42_method_149_code (6 : Nat) (Option.none : Option Jvm.ClassFile.FieldType), Jvm.Cond.code ({ cls := "java/lang/Object", name := "<init>", desc := "()V" } : Jvm.MethodName) object_method_1_code (1 : Nat) (Option.none : Option Jvm.ClassFile.FieldType), Jvm.Cond.code ({ cls := "java/lang/StringUTF16", name := "compress", desc := "([CII)[B" } : Jvm.MethodName) jdk_52_method_16_code (6 : Nat) (Option.some (Jvm.ClassFile.FieldType.array Jvm.ClassFile.FieldType.byte)), Jvm.Cond.code ({ cls := "java/lang/StringUTF16", name := "compress", desc := "([CI[BII)I" } : Jvm.MethodName) jdk_52_method_21_code (7 : Nat) (Option.some Jvm.ClassFile.FieldType.int), Jvm.Cond.code ({ cls := "java/lang/StringUTF16", name := "coderFromArrayLen", desc := "([BI)B" } : Jvm.MethodName) jdk_52_method_15_code (2 : Nat) (Option.some Jvm.ClassFile.FieldType.byte), Jvm.Cond.code ({ cls := "startbeam/ComponentException", name := "cannotCreate", desc := "(Ljava/lang/String;Ljava/lang/String;Ljava/lang/String;)Lstartbeam/ComponentException;" } : Jvm.MethodName) prog_19_method_8_code (3 : Nat) (Option.some (Jvm.ClassFile.FieldType.object "startbeam/ComponentException")), Jvm.Cond.code ({ cls := "startbeam/ComponentException", name := "cannotCreateMessage", desc := "(Ljava/lang/String;Ljava/lang/String;)Ljava/lang/String;" } : Jvm.MethodName) prog_19_method_9_code (2 : Nat) (Option.some (Jvm.ClassFile.FieldType.object "java/lang/String")), Jvm.Cond.code ({ cls := "java/lang/StringBuilder", name := "<init>", desc := "()V" } : Jvm.MethodName) jdk_67_method_1_code (1 : Nat) (Option.none : Option Jvm.ClassFile.FieldType), Jvm.Cond.code ({ cls := "java/lang/AbstractStringBuilder", name := "<init>", desc := "(I)V" } : Jvm.MethodName) jdk_68_method_2_code (2 : Nat) (Option.none : Option Jvm.ClassFile.FieldType), Jvm.Cond.code ({ cls := "java/lang/StringBuilder", name := "append", desc := "(Ljava/lang/String;)Ljava/lang/StringBuilder;" } : Jvm.MethodName) jdk_67_method_7_code (2 : Nat) (Option.some (Jvm.ClassFile.FieldType.object "java/lang/StringBuilder")), Jvm.Cond.code ({ cls := "java/lang/AbstractStringBuilder", name := "append", desc := "(Ljava/lang/String;)Ljava/lang/AbstractStringBuilder;" } : Jvm.MethodName) jdk_68_method_22_code (3 : Nat) (Option.some (Jvm.ClassFile.FieldType.object "java/lang/AbstractStringBuilder")), Jvm.Cond.code ({ cls := "java/lang/String", name := "length", desc := "()I" } : Jvm.MethodName) jdk_42_method_54_code (1 : Nat) (Option.some Jvm.ClassFile.FieldType.int), Jvm.Cond.code ({ cls := "java/lang/String", name := "coder", desc := "()B" } : Jvm.MethodName) jdk_42_method_152_code (1 : Nat) (Option.some Jvm.ClassFile.FieldType.byte), Jvm.Cond.code ({ cls := "java/lang/AbstractStringBuilder", name := "ensureCapacityInternal", desc := "(I)V" } : Jvm.MethodName) jdk_68_method_9_code (3 : Nat) (Option.none : Option Jvm.ClassFile.FieldType), Jvm.Cond.code ({ cls := "java/lang/AbstractStringBuilder", name := "putStringAt", desc := "(ILjava/lang/String;)V" } : Jvm.MethodName) jdk_68_method_73_code (3 : Nat) (Option.none : Option Jvm.ClassFile.FieldType), Jvm.Cond.code ({ cls := "java/lang/AbstractStringBuilder", name := "inflateIfNeededFor", desc := "(Ljava/lang/String;)V" } : Jvm.MethodName) jdk_68_method_71_code (2 : Nat) (Option.none : Option Jvm.ClassFile.FieldType), Jvm.Cond.code ({ cls := "java/lang/String", name := "getBytes", desc := "([BIB)V" } : Jvm.MethodName) jdk_42_method_147_code (4 : Nat) (Option.none : Option Jvm.ClassFile.FieldType), Jvm.Cond.code ({ cls := "java/lang/AbstractStringBuilder", name := "newCapacity", desc := "(I)I" } : Jvm.MethodName) jdk_68_method_10_code (6 : Nat) (Option.some Jvm.ClassFile.FieldType.int), Jvm.Cond.code ({ cls := "jdk/internal/util/ArraysSupport", name := "newLength", desc := "(III)I" } : Jvm.MethodName) jdk_48_method_27_code (4 : Nat) (Option.some Jvm.ClassFile.FieldType.int), Jvm.Cond.code ({ cls := "java/lang/Math", name := "max", desc := "(II)I" } : Jvm.MethodName) jdk_29_method_65_code (2 : Nat) (Option.some Jvm.ClassFile.FieldType.int), Jvm.Cond.code ({ cls := "java/util/Arrays", name := "copyOf", desc := "([BI)[B" } : Jvm.MethodName) jdk_65_method_121_code (3 : Nat) (Option.some (Jvm.ClassFile.FieldType.array Jvm.ClassFile.FieldType.byte)), Jvm.Cond.code ({ cls := "java/lang/Math", name := "min", desc := "(II)I" } : Jvm.MethodName) jdk_29_method_69_code (2 : Nat) (Option.some Jvm.ClassFile.FieldType.int), Jvm.Cond.code ({ cls := "java/lang/StringBuilder", name := "toString", desc := "()Ljava/lang/String;" } : Jvm.MethodName) jdk_67_method_42_code (1 : Nat) (Option.some (Jvm.ClassFile.FieldType.object "java/lang/String")), Jvm.Cond.code ({ cls := "java/lang/String", name := "<init>", desc := "(Ljava/lang/StringBuilder;)V" } : Jvm.MethodName) jdk_42_method_53_code (2 : Nat) (Option.none : Option Jvm.ClassFile.FieldType), Jvm.Cond.code ({ cls := "java/lang/String", name := "<init>", desc := "(Ljava/lang/AbstractStringBuilder;Ljava/lang/Void;)V" } : Jvm.MethodName) jdk_42_method_150_code (5 : Nat) (Option.none : Option Jvm.ClassFile.FieldType), Jvm.Cond.code ({ cls := "java/lang/AbstractStringBuilder", name := "getValue", desc := "()[B" } : Jvm.MethodName) jdk_68_method_64_code (1 : Nat) (Option.some (Jvm.ClassFile.FieldType.array Jvm.ClassFile.FieldType.byte)), Jvm.Cond.code ({ cls := "java/lang/StringBuilder", name := "length", desc := "()I" } : Jvm.MethodName) jdk_67_method_93_code (1 : Nat) (Option.some Jvm.ClassFile.FieldType.int), Jvm.Cond.code ({ cls := "java/lang/AbstractStringBuilder", name := "length", desc := "()I" } : Jvm.MethodName) jdk_68_method_6_code (1 : Nat) (Option.some Jvm.ClassFile.FieldType.int), Jvm.Cond.code ({ cls := "java/lang/AbstractStringBuilder", name := "isLatin1", desc := "()Z" } : Jvm.MethodName) jdk_68_method_68_code (1 : Nat) (Option.some Jvm.ClassFile.FieldType.boolean), Jvm.Cond.code ({ cls := "java/util/Arrays", name := "copyOfRange", desc := "([BII)[B" } : Jvm.MethodName) jdk_65_method_132_code (3 : Nat) (Option.some (Jvm.ClassFile.FieldType.array Jvm.ClassFile.FieldType.byte)), Jvm.Cond.code ({ cls := "java/util/Arrays", name := "copyOfRangeByte", desc := "([BII)[B" } : Jvm.MethodName) jdk_65_method_133_code (5 : Nat) (Option.some (Jvm.ClassFile.FieldType.array Jvm.ClassFile.FieldType.byte)), Jvm.Cond.code ({ cls := "java/util/Arrays", name := "checkLength", desc := "(II)V" } : Jvm.MethodName) jdk_65_method_131_code (2 : Nat) (Option.none : Option Jvm.ClassFile.FieldType), Jvm.Cond.code ({ cls := "startbeam/ComponentException", name := "<init>", desc := "(Ljava/lang/String;Ljava/lang/String;)V" } : Jvm.MethodName) prog_19_method_3_code (3 : Nat) (Option.none : Option Jvm.ClassFile.FieldType), Jvm.Cond.code ({ cls := "startbeam/ComponentException", name := "<init>", desc := "(Ljava/lang/String;Ljava/lang/String;Ljava/lang/Throwable;)V" } : Jvm.MethodName) prog_19_method_4_code (4 : Nat) (Option.none : Option Jvm.ClassFile.FieldType), Jvm.Cond.code ({ cls := "java/lang/RuntimeException", name := "<init>", desc := "(Ljava/lang/String;Ljava/lang/Throwable;)V" } : Jvm.MethodName) jdk_58_method_3_code (3 : Nat) (Option.none : Option Jvm.ClassFile.FieldType), Jvm.Cond.code ({ cls := "java/lang/Exception", name := "<init>", desc := "(Ljava/lang/String;Ljava/lang/Throwable;)V" } : Jvm.MethodName) jdk_59_method_3_code (3 : Nat) (Option.none : Option Jvm.ClassFile.FieldType), Jvm.Cond.code ({ cls := "java/lang/Throwable", name := "<init>", desc := "(Ljava/lang/String;Ljava/lang/Throwable;)V" } : Jvm.MethodName) jdk_78_method_3_code (3 : Nat) (Option.none : Option Jvm.ClassFile.FieldType), Jvm.Cond.code ({ cls := "java/lang/Throwable", name := "<init>", desc := "()V" } : Jvm.MethodName) jdk_78_method_1_code (1 : Nat) (Option.none : Option Jvm.ClassFile.FieldType), Jvm.Cond.code ({ cls := "java/lang/Throwable", name := "getMessage", desc := "()Ljava/lang/String;" } : Jvm.MethodName) jdk_78_method_6_code (1 : Nat) (Option.some (Jvm.ClassFile.FieldType.object "java/lang/String")), Jvm.Cond.code ({ cls := "java/lang/String", name := "equals", desc := "(Ljava/lang/Object;)Z" } : Jvm.MethodName) jdk_42_method_66_code (3 : Nat) (Option.some Jvm.ClassFile.FieldType.boolean), Jvm.Cond.code ({ cls := "java/lang/StringLatin1", name := "equals", desc := "([B[B)Z" } : Jvm.MethodName) jdk_43_method_13_code (3 : Nat) (Option.some Jvm.ClassFile.FieldType.boolean), Jvm.Cond.code ({ cls := "startbeam/ComponentException", name := "remedy", desc := "()Ljava/lang/String;" } : Jvm.MethodName) prog_19_method_5_code (1 : Nat) (Option.some (Jvm.ClassFile.FieldType.object "java/lang/String"))]
set_option maxRecDepth 65536 in
theorem codes_eq : words1.filter isCode = codes1 := rfl
theorem w_codes : ∀ c ∈ words1.filter isCode, c.before args0 about1 = true := by
  rw [codes_eq]
  intro c hc
  simp only [codes1, List.mem_cons, List.not_mem_nil, or_false] at hc
  rcases hc with rfl | rfl | rfl | rfl | rfl | rfl | rfl | rfl | rfl | rfl | rfl | rfl | rfl | rfl | rfl | rfl | rfl | rfl | rfl | rfl | rfl | rfl | rfl | rfl | rfl | rfl | rfl | rfl | rfl | rfl | rfl | rfl | rfl | rfl | rfl | rfl | rfl | rfl | rfl | rfl | rfl | rfl | rfl | rfl
  · exact w_c0
  · exact w_c1
  · exact w_c2
  · exact w_c3
  · exact w_c4
  · exact w_c5
  · exact w_c6
  · exact w_c7
  · exact w_c8
  · exact w_c9
  · exact w_c10
  · exact w_c11
  · exact w_c12
  · exact w_c13
  · exact w_c14
  · exact w_c15
  · exact w_c16
  · exact w_c17
  · exact w_c18
  · exact w_c19
  · exact w_c20
  · exact w_c21
  · exact w_c22
  · exact w_c23
  · exact w_c24
  · exact w_c25
  · exact w_c26
  · exact w_c27
  · exact w_c28
  · exact w_c29
  · exact w_c30
  · exact w_c31
  · exact w_c32
  · exact w_c33
  · exact w_c34
  · exact w_c35
  · exact w_c36
  · exact w_c37
  · exact w_c38
  · exact w_c39
  · exact w_c40
  · exact w_c41
  · exact w_c42
  · exact w_c43
set_option maxRecDepth 65536 in
theorem w_t1 : (words1.take 24).all (fun c => isCode c || c.before args0 about1) = true := by decide +kernel
set_option maxRecDepth 65536 in
theorem w_t2 : ((words1.drop 24).take 24).all (fun c => isCode c || c.before args0 about1) = true := by decide +kernel
set_option maxRecDepth 65536 in
theorem w_t3 : (((words1.drop 24).drop 24).take 24).all (fun c => isCode c || c.before args0 about1) = true := by decide +kernel
set_option maxRecDepth 65536 in
theorem w_t4 : ((((words1.drop 24).drop 24).drop 24).take 24).all (fun c => isCode c || c.before args0 about1) = true := by decide +kernel
set_option maxRecDepth 65536 in
theorem w_t5 : (((((words1.drop 24).drop 24).drop 24).drop 24).take 24).all (fun c => isCode c || c.before args0 about1) = true := by decide +kernel
set_option maxRecDepth 65536 in
theorem w_t6 : ((((((words1.drop 24).drop 24).drop 24).drop 24).drop 24).take 24).all (fun c => isCode c || c.before args0 about1) = true := by decide +kernel
set_option maxRecDepth 65536 in
theorem w_t7 : (((((((words1.drop 24).drop 24).drop 24).drop 24).drop 24).drop 24).take 24).all (fun c => isCode c || c.before args0 about1) = true := by decide +kernel
set_option maxRecDepth 65536 in
theorem w_t8 : ((((((((words1.drop 24).drop 24).drop 24).drop 24).drop 24).drop 24).drop 24).take 24).all (fun c => isCode c || c.before args0 about1) = true := by decide +kernel
set_option maxRecDepth 65536 in
theorem w_t9 : (((((((((words1.drop 24).drop 24).drop 24).drop 24).drop 24).drop 24).drop 24).drop 24).take 24).all (fun c => isCode c || c.before args0 about1) = true := by decide +kernel
set_option maxRecDepth 65536 in
theorem w_t10 : ((((((((((words1.drop 24).drop 24).drop 24).drop 24).drop 24).drop 24).drop 24).drop 24).drop 24).take 24).all (fun c => isCode c || c.before args0 about1) = true := by decide +kernel
set_option maxRecDepth 65536 in
theorem w_t11 : ((((((((((words1.drop 24).drop 24).drop 24).drop 24).drop 24).drop 24).drop 24).drop 24).drop 24).drop 24).all (fun c => isCode c || c.before args0 about1) = true := by decide +kernel
theorem w_tables : (allAtoms (Jvm.Cond.code x code maxLocals ret :: tables_1)).before args0 about1 = true := by
  rw [allAtoms_all]
  show words1.all (fun c => c.before args0 about1) = true
  refine all_split ?_ w_codes
  rw [← List.take_append_drop 24 words1, List.all_append, w_t1, ← List.take_append_drop 24 (words1.drop 24), List.all_append, w_t2, ← List.take_append_drop 24 ((words1.drop 24).drop 24), List.all_append, w_t3, ← List.take_append_drop 24 (((words1.drop 24).drop 24).drop 24), List.all_append, w_t4, ← List.take_append_drop 24 ((((words1.drop 24).drop 24).drop 24).drop 24), List.all_append, w_t5, ← List.take_append_drop 24 (((((words1.drop 24).drop 24).drop 24).drop 24).drop 24), List.all_append, w_t6, ← List.take_append_drop 24 ((((((words1.drop 24).drop 24).drop 24).drop 24).drop 24).drop 24), List.all_append, w_t7, ← List.take_append_drop 24 (((((((words1.drop 24).drop 24).drop 24).drop 24).drop 24).drop 24).drop 24), List.all_append, w_t8, ← List.take_append_drop 24 ((((((((words1.drop 24).drop 24).drop 24).drop 24).drop 24).drop 24).drop 24).drop 24), List.all_append, w_t9, ← List.take_append_drop 24 (((((((((words1.drop 24).drop 24).drop 24).drop 24).drop 24).drop 24).drop 24).drop 24).drop 24), List.all_append, w_t10, w_t11]
  rfl
set_option maxRecDepth 65536 in
theorem w_rest : rest_1_c.before args0 about1 = true := by decide +kernel
set_option maxRecDepth 65536 in
theorem w_case : (Jvm.Cond.and given_1 narrow_1).before args0 about1 = true := by decide +kernel
set_option maxRecDepth 65536 in
theorem w_consts : constsHeld consts_1 about1 := Jvm.Lit.constsHeldB_iff.mp (by decide +kernel)
theorem w_applies : (headSpec (Jvm.Cond.code x code maxLocals ret :: tables_1) room_1).applies x e0.platform about1 = true :=
  (Spec.applies_iff w_frames).mpr ⟨w_running, w_runnable, w_alone, w_named, w_hears, w_ripe, w_room, w_tables⟩
theorem atStart : AtStart classFile x code maxLocals ret World_1 tables_1 room_1 Calls_1 rest_1 Pre_1 launch0 p0 e0 about1 theMethod args0 below0 :=
  ⟨lists_1, trivial, launch0.admits_env _ _ _, launch0.least_env, fairChoices_fair.cas, fairChoices_fair.clock, w_frames, w_args, w_heap, w_applies, ⟨(by decide +kernel : framesKnown about1 = true), ⟨(by decide +kernel : tablesKnown about1 = true), ⟨w_consts, trivial⟩⟩⟩, w_rest, w_case⟩
end start1
theorem witness_1 : WitnessClaimed_1 := ⟨start1.p0, start1.e0, start1.about1, start1.theMethod, start1.args0, start1.below0, start1.atStart⟩
end Jvm.Pilot.@@N@@
