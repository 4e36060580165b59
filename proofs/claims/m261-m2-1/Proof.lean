import JvmDerived
import JvmDerived.Pilot.@@N@@Statement
import JvmDerived.Pilot.@@N@@Code
set_option linter.unusedVariables false
set_option linter.unusedSimpArgs false
namespace Jvm.Pilot.@@N@@
open Jvm Jvm.ClassFile Sem Op Lib Jvm.Free Jvm.Stand Jvm.LawKit Jvm.RoadKit Bundle Jvm.Pilot.@@N@@.Jvm.D
section GoKit
theorem aN {a b : Addr} (h : a = b) : @Eq Nat a b := h
theorem aL {a : Addr} {n : Nat} (h : a < n) : @LT.lt Nat _ a n := h
theorem aM {a : Addr} {n : Nat} (h : n ≤ a) : @LE.le Nat _ n a := h
abbrev ush (x y : Int32) : Int32 := (x.toUInt32 >>> (y &&& 31).toUInt32).toInt32
abbrev ushL (x : Int64) (y : Int32) : Int64 := (x.toUInt64 >>> (y &&& 0x3f).toInt64.toUInt64).toInt64
/-! The walk's own calculus: a run that stands in a method's body, its heap told by two lists of entries (D: cells of its own, which it may write; S: cells that nobody writes), all else hidden. -/
abbrev Ob : Type := (String × List (String × String × String × Value)) ⊕ (FieldType × List Value)
abbrev Ent : Type := Addr × Ob
def KnO (Z : State) (h : Heap) (a : Addr) (C : String) (fs : List (String × String × String × Value)) : Prop :=
  Exa Z h a C ∧ (∀ f ∈ fs, Fld Z h a f.1 f.2.1 f.2.2.1 f.2.2.2) ∧ (fs.map fun f => Jvm.RoadKit.slotOf Z f.1 f.2.1 f.2.2.1).Nodup
def KnA (Z : State) (h : Heap) (a : Addr) (ty : FieldType) (vs : List Value) : Prop :=
  ∃ c : Cell, Arr Z h a c ty ∧ c.slots = vs.toArray ∧ vs.length < 2147483648 ∧ (∀ v ∈ vs, fits ty v = true) ∧ ∀ C, ty = .object C → Ovr Z c.cls C
def Kn (Z : State) (h : Heap) (x : Ent) : Prop :=
  match x.2 with
  | .inl o => KnO Z h x.1 o.1 o.2
  | .inr o => KnA Z h x.1 o.1 o.2
theorem KnO.keep {Z : State} {h h' : Heap} {a : Addr} {C : String} {fs : List (String × String × String × Value)} {ws : List Addr} (F : KnO Z h a C fs) (K : Keep h h' ws) (q : a ∉ ws) : KnO Z h' a C fs :=
  ⟨F.1.keep K, fun f hf => (F.2.1 f hf).keep K q, F.2.2⟩
theorem KnA.keep {Z : State} {h h' : Heap} {a : Addr} {ty : FieldType} {vs : List Value} {ws : List Addr} (F : KnA Z h a ty vs) (K : Keep h h' ws) (q : a ∉ ws) : KnA Z h' a ty vs := by
  obtain ⟨c, A, r⟩ := F
  exact ⟨c, ⟨K.2.1 a c A.1 q, A.2⟩, r⟩
theorem Kn.keep {Z : State} {h h' : Heap} {x : Ent} {ws : List Addr} (F : Kn Z h x) (K : Keep h h' ws) (q : x.1 ∉ ws) : Kn Z h' x := by
  obtain ⟨a, o | o⟩ := x
  · exact KnO.keep (show KnO Z h a o.1 o.2 from F) K q
  · exact KnA.keep (show KnA Z h a o.1 o.2 from F) K q
theorem Kn.lt {Z : State} {h : Heap} {x : Ent} (F : Kn Z h x) : x.1 < h.size := by
  obtain ⟨a, o | o⟩ := x
  · exact (show KnO Z h a o.1 o.2 from F).1.lt
  · obtain ⟨c, A, -⟩ := (show KnA Z h a o.1 o.2 from F)
    exact A.lt
theorem Kn.ext {Z : State} {h h' : Heap} {x : Ent} (F : Kn Z h x) (E : Ext h h') : Kn Z h' x := F.keep ((Keep.refl h []).ext E) (fun q => nomatch q)
def HH (Z : State) (h : Heap) (D S : List Ent) : Prop :=
  (∀ x ∈ D, Kn Z h x) ∧ (∀ x ∈ S, Kn Z h x) ∧ (D.map Prod.fst).Nodup ∧ ∀ x ∈ S, x.1 ∉ D.map Prod.fst
def In (x : Ent) (D S : List Ent) : Prop := x ∈ D ∨ x ∈ S
theorem inD {x : Ent} {D S : List Ent} {i : Nat} (h : D[i]? = some x) : In x D S := Or.inl (List.mem_of_getElem? h)
theorem inS {x : Ent} {D S : List Ent} {i : Nat} (h : S[i]? = some x) : In x D S := Or.inr (List.mem_of_getElem? h)
theorem HH.at {Z : State} {h : Heap} {D S : List Ent} {x : Ent} (H : HH Z h D S) (q : In x D S) : Kn Z h x := q.elim (H.1 x) (H.2.1 x)
def Inv (Z : State) (a0 : Array Value) (EL : List (String × Nat)) (b : Bool) (n0 : Nat) (W0 : List Addr) (fr : Addr → Prop) (D S : List Ent) (s : State) (vm0 : Vm) (h : Heap) (locs : List Loc) : Prop :=
  (EW Z a0 EL ∧ Z.Warmed39 vm0 ∧ (∃ k0, s.Since vm0 k0 ∧ k0 ≤ h.size) ∧ (b = false → s.WarmedH vm0)) ∧
  (CHr Z EL s.vm s.heap vm0 h ∧ Fr n0 locs ∧ Old Z n0 h ∧ Keep s.heap h W0) ∧
  HH Z h D S ∧
  (∀ x ∈ D, n0 ≤ x.1 ∧ Safe Z EL vm0 h x.1 ∧ ¬ fr x.1 ∧ (x.1 ∈ W0 ∨ s.heap.size ≤ x.1)) ∧ (∀ x ∈ S, ¬ fr x.1) ∧ (∀ y, fr y → n0 ≤ y ∧ Safe Z EL vm0 h y ∧ y < s.heap.size)
def PreC (Z : State) (a0 : Array Value) (EL : List (String × Nat)) (n0 : Nat) (fr : Addr → Prop) (D S : List Ent) (U : State) : Prop :=
  EW Z a0 EL ∧ Z.Warmed39 U.vm ∧ CHv Z EL U.vm U.heap ∧ Old Z n0 U.heap ∧ HH Z U.heap D S ∧ (∀ x ∈ D, n0 ≤ x.1 ∧ Safe Z EL U.vm U.heap x.1 ∧ ¬ fr x.1) ∧ (∀ x ∈ S, ¬ fr x.1) ∧ (∀ y, fr y → n0 ≤ y ∧ Safe Z EL U.vm U.heap y ∧ y < U.heap.size)
def PostC (Z : State) (EL : List (String × Nat)) (b : Bool) (n0 : Nat) (W0 : List Addr) (fr : Addr → Prop) (Q : Option Value → List Ent → List Ent → Prop) (U U' : State) (v : Option Value) (L : List Loc) : Prop :=
  ∃ D' S', Q v D' S' ∧ HH Z U'.heap D' S' ∧ (∀ x ∈ D', n0 ≤ x.1 ∧ Safe Z EL U'.vm U'.heap x.1 ∧ ¬ fr x.1 ∧ (x.1 ∈ W0 ∨ U.heap.size ≤ x.1)) ∧ (∀ x ∈ S', ¬ fr x.1) ∧
    Keep U.heap U'.heap W0 ∧ Fr n0 L ∧ Old Z n0 U'.heap ∧ CHr Z EL U.vm U.heap U'.vm U'.heap ∧ (b = false → U.WarmedH U'.vm)
def Met (l : Launch) (Z : State) (a0 : Array Value) (EL : List (String × Nat)) (b : Bool) (n0 : Nat) (y : MethodName) (bytes : ByteArray) (maxL : Nat) (ret : Option FieldType) (ws : List Jvm.Cond) (rm : Room) (as' : List Value) (D S : List Ent) (Q : Option Value → List Ent → List Ent → Prop) : Prop :=
  ∀ fr : Addr → Prop, MetFree l y (head1 (Jvm.Cond.code y bytes maxL ret :: ws) rm) (fun a U => a = as'.toArray ∧ PreC Z a0 EL n0 fr D S U) (fun _ _ _ _ _ => True)
    (fun _ U o U' => ∃ v L, o = .returned v ∧ PostC Z EL b n0 (D.map Prod.fst) fr Q U U' v L ∧ ReturnedEndW U o U' L rm.cells rm.slots)
def Sst (own : String) (code : ByteArray) (maxL : Nat) (ret : Option FieldType) (nm : String) (p : Program) (m : MethodId) (meth : Method) (c : Code) (vm0 : Vm) : Prop :=
  p.tables.exec = Jvm.exec ∧ c.code = code ∧ c.maxLocals = maxL ∧ meth.sig.returnType = ret ∧ meth.name = nm ∧ meth.locks = false ∧ vm0.findClass own = some m.cls
def Go (l : Launch) (Z : State) (a0 : Array Value) (EL : List (String × Nat)) (b : Bool) (n0 : Nat) (own : String) (code : ByteArray) (maxL : Nat) (ret : Option FieldType) (nm : String) (R : Room) (W0 : List Addr) (Q : Option Value → List Ent → List Ent → Prop)
    (D S : List Ent) (cells slots pc : Nat) (Ls : Array Slot) (st : List Value) : Prop :=
  ∀ (fr : Addr → Prop) (p : Program) (e : Env) (s : State) (m : MethodId) (args : Array Value) (below : List Frame) (meth : Method) (c : Code) (vm0 : Vm) (T : State) (locs : List Loc),
    Sst own code maxL ret nm p m meth c vm0 → Stand p l e R (s.setVm vm0) m args below meth c T locs cells slots → Inv Z a0 EL b n0 W0 fr D S s vm0 T.heap locs →
    ∃ (t : State) (v : Option Value), Steps p.tables e below (T.setTop (mkF m pc Ls st)) t ∧ t.status = .running ∧ Ended t below (.returned v) ∧ ∃ L, PostC Z EL b n0 W0 fr Q s t v L ∧ ReturnedEndW s (.returned v) t L R.cells R.slots
def Dx (code : ByteArray) (pc : Nat) (i : Instr) (n pc' : Nat) : Prop := decode code pc = .ok (i, n) ∧ pc + n = pc'
variable {l : Launch} {Z : State} {a0 : Array Value} {EL : List (String × Nat)} {b : Bool} {n0 : Nat} {own : String} {code : ByteArray} {maxL : Nat} {ret : Option FieldType} {nm : String} {R : Room} {W0 : List Addr} {Q : Option Value → List Ent → List Ent → Prop}
  {D D' S S' : List Ent} {cells slots pc pc' : Nat} {Ls Ls' : Array Slot} {st st' rest : List Value}
theorem Met.of_go {y : MethodName} {bytes : ByteArray} {ws : List Jvm.Cond} {rm : Room} {as' : List Value} (hpf : plainFor y = true) (hL : ∀ m, entryFrame m as'.toArray maxL = mkF m 0 Ls [])
    (G : Go l Z a0 EL b n0 own bytes maxL ret nm rm (D.map Prod.fst) Q D S 0 0 0 Ls []) (ho : y.cls = own := by rfl) (hn : y.name = nm := by rfl) : Met l Z a0 EL b n0 y bytes maxL ret ws rm as' D S Q := by
  subst ho hn
  intro fr
  refine MetFree.of_bodySF hpf hisR ?_
  intro p e s m args below meth c s₁ Bd hml hP hK
  obtain ⟨rfl, q1, q2, q3, q4, q5, q6, q7, q8⟩ := hP
  have X0 : Stand p l e rm s m as'.toArray below meth c s₁ [] 0 0 := Stand.of_body Bd
  have e0 : s₁.heap = s.heap := by rw [Bd.state]; rfl
  obtain ⟨t, v, st, h1, h2, L, hp, hr⟩ := G fr p e s m _ below meth c s.vm s₁ [] ⟨Bd.exec, Bd.bytes, hml, Bd.returns, (name_of_methodNamed Bd.named Bd.method).1, Bd.notSynchronized, findClass_of_methodNamed Bd.named⟩ X0
    (by
      rw [e0]
      exact ⟨⟨q1, q2, ⟨s.heap.size, (State.WarmedH.refl s).since _, Nat.le_refl _⟩, fun _ => State.WarmedH.refl s⟩, ⟨CHr.refl q3, Fr.nil _, q4, Keep.refl _ _⟩, q5, fun x hx => ⟨(q6 x hx).1, (q6 x hx).2.1, (q6 x hx).2.2, Or.inl (List.mem_map.mpr ⟨x, hx, rfl⟩)⟩, q7, q8⟩)
  exact ⟨t, _, castTop (hL m) st, h1, h2, v, L, rfl, hp, hr⟩
/-- a step that leaves the heap as it is -/
theorem Go.same (H : ∀ {p : Program} {e : Env} {s : State} {m : MethodId} {args : Array Value} {below : List Frame} {meth : Method} {c : Code} {vm0 : Vm} {T : State} {locs : List Loc}, Sst own code maxL ret nm p m meth c vm0 → Stand p l e R (s.setVm vm0) m args below meth c T locs cells slots → Z.Warmed39 (s.setVm vm0).vm → Old Z n0 T.heap → HH Z T.heap D S →
      ∃ T', Stand p l e R (s.setVm vm0) m args below meth c T' locs cells slots ∧ T'.heap = T.heap ∧ ∀ t, Steps p.tables e below (T'.setTop (mkF m pc' Ls' st')) t → Steps p.tables e below (T.setTop (mkF m pc Ls st)) t)
    (G : Go l Z a0 EL b n0 own code maxL ret nm R W0 Q D S cells slots pc' Ls' st') : Go l Z a0 EL b n0 own code maxL ret nm R W0 Q D S cells slots pc Ls st := by
  intro fr p e s m args below meth c vm0 T locs hs X I
  obtain ⟨T', X', e', k⟩ := H hs X I.1.2.1 I.2.1.2.2.1 I.2.2.1
  obtain ⟨t, v, k', r⟩ := G fr p e s m args below meth c vm0 T' locs hs X' (by rw [e']; exact I)
  exact ⟨t, v, k t k', r⟩
/-- a step that reads frames alone -/
theorem Go.plain (H : ∀ {p : Program} {e : Env} {m : MethodId} {c : Code} {below : List Frame} {T : State}, p.tables.exec = Jvm.exec → c.code = code → At T m c below → ∀ t, Steps p.tables e below (T.setTop (mkF m pc' Ls' st')) t → Steps p.tables e below (T.setTop (mkF m pc Ls st)) t)
    (G : Go l Z a0 EL b n0 own code maxL ret nm R W0 Q D S cells slots pc' Ls' st') : Go l Z a0 EL b n0 own code maxL ret nm R W0 Q D S cells slots pc Ls st :=
  Go.same (fun hs X _ _ _ => ⟨_, X, rfl, H hs.1 hs.2.1 X.here⟩) G
theorem Go.more {cells' slots' : Nat} (hc : cells ≤ cells') (hs : slots ≤ slots') (G : Go l Z a0 EL b n0 own code maxL ret nm R W0 Q D S cells' slots' pc Ls st) : Go l Z a0 EL b n0 own code maxL ret nm R W0 Q D S cells slots pc Ls st := by
  intro fr p e s m args below meth c vm0 T locs h X I
  exact G fr p e s m args below meth c vm0 T locs h (X.mono hc hs) I
/-- less is known -/
theorem HH.sub {h : Heap} (H : HH Z h D S) (h1 : ∀ x ∈ D', x ∈ D) (h2 : (D'.map Prod.fst).Nodup) (h3 : ∀ x ∈ S', x ∈ S ∨ (x ∈ D ∧ x.1 ∉ D'.map Prod.fst)) : HH Z h D' S' := by
  refine ⟨fun x hx => H.1 x (h1 x hx), fun x hx => ?_, h2, fun x hx q => ?_⟩
  · rcases h3 x hx with q | ⟨q, -⟩
    · exact H.2.1 x q
    · exact H.1 x q
  · rcases h3 x hx with r | ⟨-, r⟩
    · obtain ⟨y, hy, e⟩ := List.mem_map.mp q
      exact H.2.2.2 x r (List.mem_map.mpr ⟨y, h1 y hy, e⟩)
    · exact r q
theorem nodup_pick {α : Type} (dv : α) {L : List α} (hn : L.Nodup) {idx : List Nat} (h1 : idx.Nodup) (h2 : ∀ i ∈ idx, i < L.length) : (idx.map fun i => L.getD i dv).Nodup := by
  induction idx with
  | nil => simp
  | cons i r ih =>
    rw [List.map_cons, List.nodup_cons]
    rw [List.nodup_cons] at h1
    refine ⟨fun q => ?_, ih h1.2 fun j hj => h2 j (List.mem_cons_of_mem _ hj)⟩
    obtain ⟨j, hj, e⟩ := List.mem_map.mp q
    have hi := h2 i (List.mem_cons_self ..)
    have hj' := h2 j (List.mem_cons_of_mem _ hj)
    have : j = i := by
      refine (List.getElem?_inj hj' hn).mp ?_
      rw [List.getElem?_eq_getElem hj', List.getElem?_eq_getElem hi]
      simpa [List.getD, List.getElem?_eq_getElem hj', List.getElem?_eq_getElem hi] using e
    exact h1.1 (this ▸ hj)
def dE : Ent := (0, .inr (.int, []))
def pick (D : List Ent) (idx : List Nat) : List Ent := idx.map fun i => D.getD i dE
theorem pick_mem {D : List Ent} {idx : List Nat} (h2 : ∀ i ∈ idx, i < D.length) : ∀ x ∈ pick D idx, x ∈ D := fun x hx => by
  obtain ⟨i, hi, rfl⟩ := List.mem_map.mp hx
  have := h2 i hi
  simp [List.getD, List.getElem?_eq_getElem this]
theorem pick_nodup {D : List Ent} (hn : (D.map Prod.fst).Nodup) {idx : List Nat} (h1 : idx.Nodup) (h2 : ∀ i ∈ idx, i < D.length) : ((pick D idx).map Prod.fst).Nodup := by
  have e : (pick D idx).map Prod.fst = idx.map fun i => (D.map Prod.fst).getD i 0 := by
    rw [pick, List.map_map]
    refine List.map_congr_left fun i hi => ?_
    have := h2 i hi
    simp [List.getD, List.getElem?_eq_getElem this]
  rw [e]
  exact nodup_pick 0 hn h1 (by simpa using h2)
/-- forget, order anew, freeze -/
theorem Go.sub (idx : List Nat) (h1 : idx.Nodup) (h2' : (idx.all fun i => Nat.blt i D.length) = true) (hD : D' = pick D idx) (h3 : ∀ x ∈ S', x ∈ S ∨ (x ∈ D ∧ x.1 ∉ D'.map Prod.fst))
    (G : Go l Z a0 EL b n0 own code maxL ret nm R W0 Q D' S' cells slots pc Ls st) : Go l Z a0 EL b n0 own code maxL ret nm R W0 Q D S cells slots pc Ls st := by
  have h2 : ∀ i ∈ idx, i < D.length := fun i hi => Nat.blt_eq.mp (List.all_eq_true.mp h2' i hi)
  intro fr p e s m args below meth c vm0 T locs h X I
  obtain ⟨i1, i2, i3, i4, i5, i6⟩ := I
  have hm : ∀ x ∈ D', x ∈ D := by rw [hD]; exact pick_mem h2
  refine G fr p e s m args below meth c vm0 T locs h X ⟨i1, i2, i3.sub hm (by rw [hD]; exact pick_nodup i3.2.2.1 h1 h2) h3, fun x hx => i4 x (hm x hx), fun x hx => ?_, i6⟩
  rcases h3 x hx with q | ⟨q, -⟩
  · exact i5 x q
  · exact (i4 x q).2.2.1
/-- forget and order anew, D alone -/
theorem Go.perm (idx : List Nat) (h1 : idx.Nodup) (h2 : (idx.all fun i => Nat.blt i D.length) = true) (hD : D' = pick D idx)
    (G : Go l Z a0 EL b n0 own code maxL ret nm R W0 Q D' S cells slots pc Ls st) : Go l Z a0 EL b n0 own code maxL ret nm R W0 Q D S cells slots pc Ls st :=
  Go.sub idx h1 h2 hD (fun x hx => Or.inl hx) G
/-- two own cells are two -/
theorem Go.ne (i j : Nat) {x y : Ent} (hi : D[i]? = some x) (hj : D[j]? = some y) (hij : i ≠ j) (G : x.1 ≠ y.1 → Go l Z a0 EL b n0 own code maxL ret nm R W0 Q D S cells slots pc Ls st) : Go l Z a0 EL b n0 own code maxL ret nm R W0 Q D S cells slots pc Ls st := by
  intro fr p e s m args below meth c vm0 T locs h X I
  refine G (fun q => hij ?_) fr p e s m args below meth c vm0 T locs h X I
  have hn := I.2.2.1.2.2.1
  have li : i < (D.map Prod.fst).length := by simpa using (List.getElem?_eq_some_iff.mp hi).1
  refine (List.getElem?_inj li hn).mp ?_
  simp [hi, hj, q]
/-- an own cell and a frozen one are two -/
theorem Go.neS {x y : Ent} (hi : x ∈ D) (hj : y ∈ S) (G : x.1 ≠ y.1 → Go l Z a0 EL b n0 own code maxL ret nm R W0 Q D S cells slots pc Ls st) : Go l Z a0 EL b n0 own code maxL ret nm R W0 Q D S cells slots pc Ls st := by
  intro fr p e s m args below meth c vm0 T locs h X I
  exact G (fun q => I.2.2.1.2.2.2 y hj (List.mem_map.mpr ⟨x, hi, q⟩)) fr p e s m args below meth c vm0 T locs h X I
/-- a cell of the start's heap, taken up as frozen -/
theorem Go.old {x : Ent} (F : Kn Z Z.heap x) (G : Go l Z a0 EL b n0 own code maxL ret nm R W0 Q D (x :: S) cells slots pc Ls st) : Go l Z a0 EL b n0 own code maxL ret nm R W0 Q D S cells slots pc Ls st := by
  intro fr p e s m args below meth c vm0 T locs h X I
  obtain ⟨i1, i2, i3, i4, i5, i6⟩ := I
  have hO := i2.2.2.1
  have hlt : x.1 < n0 := hO.1 ▸ F.lt
  refine G fr p e s m args below meth c vm0 T locs h X ⟨i1, i2, ⟨i3.1, fun y hy => ?_, i3.2.2.1, fun y hy => ?_⟩, i4, fun y hy => ?_, i6⟩
  · rcases List.mem_cons.mp hy with rfl | hy
    · exact F.ext hO.2
    · exact i3.2.1 y hy
  · rcases List.mem_cons.mp hy with rfl | hy
    · intro q
      obtain ⟨z, hz, e⟩ := List.mem_map.mp q
      exact absurd (Nat.lt_of_lt_of_le hlt (i4 z hz).1) (by rw [e]; exact Nat.lt_irrefl _)
    · exact i3.2.2.2 y hy
  · rcases List.mem_cons.mp hy with rfl | hy
    · intro q
      exact absurd (Nat.lt_of_lt_of_le hlt (i6 _ q).1) (Nat.lt_irrefl _)
    · exact i5 y hy
/-! the plain steps -/
theorem Go.aloadN {k : Fin 4} {v : Value} (hd : Dx code pc (.aload_n k) 1 pc') (hl : Ls[k.val]? = some (.val v)) (hv : v.isRef = true := by rfl) (G : Go l Z a0 EL b n0 own code maxL ret nm R W0 Q D S cells slots pc' Ls (v :: st)) : Go l Z a0 EL b n0 own code maxL ret nm R W0 Q D S cells slots pc Ls (st) := by
  obtain ⟨h1, rfl⟩ := hd
  exact Go.plain (fun hx hc h t k => XS.aloadN h hx rfl (hb hc h1) hl hv k) G
theorem Go.aload {k : Nat} {v : Value} (hd : Dx code pc (.aload k) 2 pc') (hl : Ls[k]? = some (.val v)) (hv : v.isRef = true := by rfl) (G : Go l Z a0 EL b n0 own code maxL ret nm R W0 Q D S cells slots pc' Ls (v :: st)) : Go l Z a0 EL b n0 own code maxL ret nm R W0 Q D S cells slots pc Ls (st) := by
  obtain ⟨h1, rfl⟩ := hd
  exact Go.plain (fun hx hc h t k => XS.aload h hx rfl (hb hc h1) hl hv k) G
theorem Go.iloadN {k : Fin 4} {v : Int32} (hd : Dx code pc (.iload_n k) 1 pc') (hl : Ls[k.val]? = some (.val (.int v))) (G : Go l Z a0 EL b n0 own code maxL ret nm R W0 Q D S cells slots pc' Ls (.int v :: st)) : Go l Z a0 EL b n0 own code maxL ret nm R W0 Q D S cells slots pc Ls (st) := by
  obtain ⟨h1, rfl⟩ := hd
  exact Go.plain (fun hx hc h t k => XS.iloadN h hx rfl (hb hc h1) hl k) G
theorem Go.iload {k : Nat} {v : Int32} (hd : Dx code pc (.iload k) 2 pc') (hl : Ls[k]? = some (.val (.int v))) (G : Go l Z a0 EL b n0 own code maxL ret nm R W0 Q D S cells slots pc' Ls (.int v :: st)) : Go l Z a0 EL b n0 own code maxL ret nm R W0 Q D S cells slots pc Ls (st) := by
  obtain ⟨h1, rfl⟩ := hd
  exact Go.plain (fun hx hc h t k => XS.iload h hx rfl (hb hc h1) hl k) G
theorem Go.lloadN {k : Fin 4} {v : Int64} (hd : Dx code pc (.lload_n k) 1 pc') (hl : Ls[k.val]? = some (.val (.long v))) (G : Go l Z a0 EL b n0 own code maxL ret nm R W0 Q D S cells slots pc' Ls (.long v :: st)) : Go l Z a0 EL b n0 own code maxL ret nm R W0 Q D S cells slots pc Ls (st) := by
  obtain ⟨h1, rfl⟩ := hd
  exact Go.plain (fun hx hc h t k => XS.lloadN h hx rfl (hb hc h1) hl k) G
theorem Go.lload {k : Nat} {v : Int64} (hd : Dx code pc (.lload k) 2 pc') (hl : Ls[k]? = some (.val (.long v))) (G : Go l Z a0 EL b n0 own code maxL ret nm R W0 Q D S cells slots pc' Ls (.long v :: st)) : Go l Z a0 EL b n0 own code maxL ret nm R W0 Q D S cells slots pc Ls (st) := by
  obtain ⟨h1, rfl⟩ := hd
  exact Go.plain (fun hx hc h t k => XS.lload h hx rfl (hb hc h1) hl k) G
theorem Go.iconst {i : Int} {v : Int32} (hd : Dx code pc (.iconst i) 1 pc') (hv : Int32.ofInt i = v) (G : Go l Z a0 EL b n0 own code maxL ret nm R W0 Q D S cells slots pc' Ls (.int v :: st)) : Go l Z a0 EL b n0 own code maxL ret nm R W0 Q D S cells slots pc Ls (st) := by
  obtain ⟨h1, rfl⟩ := hd
  exact Go.plain (fun hx hc h t k => XS.iconst h hx rfl (hb hc h1) (by rw [hv]; exact k)) G
theorem Go.bipush {i : Int} {v : Int32} (hd : Dx code pc (.bipush i) 2 pc') (hv : (Int8.ofInt i).toInt32 = v) (G : Go l Z a0 EL b n0 own code maxL ret nm R W0 Q D S cells slots pc' Ls (.int v :: st)) : Go l Z a0 EL b n0 own code maxL ret nm R W0 Q D S cells slots pc Ls (st) := by
  obtain ⟨h1, rfl⟩ := hd
  exact Go.plain (fun hx hc h t k => XS.bipush h hx rfl (hb hc h1) (by rw [hv]; exact k)) G
theorem Go.sipush {i : Int} {v : Int32} (hd : Dx code pc (.sipush i) 3 pc') (hv : (Int16.ofInt i).toInt32 = v) (G : Go l Z a0 EL b n0 own code maxL ret nm R W0 Q D S cells slots pc' Ls (.int v :: st)) : Go l Z a0 EL b n0 own code maxL ret nm R W0 Q D S cells slots pc Ls (st) := by
  obtain ⟨h1, rfl⟩ := hd
  exact Go.plain (fun hx hc h t k => XT.sipushV h hx rfl v (hb hc h1) hv k) G
theorem Go.lconst {i : Fin 2} {v : Int64} (hd : Dx code pc (.lconst i) 1 pc') (hv : Int64.ofNat i = v) (G : Go l Z a0 EL b n0 own code maxL ret nm R W0 Q D S cells slots pc' Ls (.long v :: st)) : Go l Z a0 EL b n0 own code maxL ret nm R W0 Q D S cells slots pc Ls (st) := by
  obtain ⟨h1, rfl⟩ := hd
  exact Go.plain (fun hx hc h t k => XT.lconstV h hx rfl v (hb hc h1) hv k) G
theorem Go.aconstNull (hd : Dx code pc (.aconst_null) 1 pc') (G : Go l Z a0 EL b n0 own code maxL ret nm R W0 Q D S cells slots pc' Ls (.null :: st)) : Go l Z a0 EL b n0 own code maxL ret nm R W0 Q D S cells slots pc Ls (st) := by
  obtain ⟨h1, rfl⟩ := hd
  exact Go.plain (fun hx hc h t k => XS.aconstNull h hx rfl (hb hc h1) k) G
theorem Go.istoreN {k : Fin 4} {x : Int32} (hd : Dx code pc (.istore_n k) 1 pc') (hl : storeLocals Ls k.val (.int x) = some Ls') (G : Go l Z a0 EL b n0 own code maxL ret nm R W0 Q D S cells slots pc' Ls' (rest)) : Go l Z a0 EL b n0 own code maxL ret nm R W0 Q D S cells slots pc Ls (.int x :: rest) := by
  obtain ⟨h1, rfl⟩ := hd
  exact Go.plain (fun hx hc h t k => XS.istoreN h hx rfl (hb hc h1) rfl hl k) G
theorem Go.istore {k : Nat} {x : Int32} (hd : Dx code pc (.istore k) 2 pc') (hl : storeLocals Ls k (.int x) = some Ls') (G : Go l Z a0 EL b n0 own code maxL ret nm R W0 Q D S cells slots pc' Ls' (rest)) : Go l Z a0 EL b n0 own code maxL ret nm R W0 Q D S cells slots pc Ls (.int x :: rest) := by
  obtain ⟨h1, rfl⟩ := hd
  exact Go.plain (fun hx hc h t k => XS.istore h hx rfl (hb hc h1) rfl hl k) G
theorem Go.lstoreN {k : Fin 4} {x : Int64} (hd : Dx code pc (.lstore_n k) 1 pc') (hl : storeLocals Ls k.val (.long x) = some Ls') (G : Go l Z a0 EL b n0 own code maxL ret nm R W0 Q D S cells slots pc' Ls' (rest)) : Go l Z a0 EL b n0 own code maxL ret nm R W0 Q D S cells slots pc Ls (.long x :: rest) := by
  obtain ⟨h1, rfl⟩ := hd
  exact Go.plain (fun hx hc h t k => XS.lstoreN h hx rfl (hb hc h1) rfl hl k) G
theorem Go.lstore {k : Nat} {x : Int64} (hd : Dx code pc (.lstore k) 2 pc') (hl : storeLocals Ls k (.long x) = some Ls') (G : Go l Z a0 EL b n0 own code maxL ret nm R W0 Q D S cells slots pc' Ls' (rest)) : Go l Z a0 EL b n0 own code maxL ret nm R W0 Q D S cells slots pc Ls (.long x :: rest) := by
  obtain ⟨h1, rfl⟩ := hd
  exact Go.plain (fun hx hc h t k => XS.lstore h hx rfl (hb hc h1) rfl hl k) G
theorem Go.astoreN {k : Fin 4} {x : Value} (hd : Dx code pc (.astore_n k) 1 pc') (hl : storeLocals Ls k.val x = some Ls') (hv : x.isRef = true := by rfl) (G : Go l Z a0 EL b n0 own code maxL ret nm R W0 Q D S cells slots pc' Ls' (rest)) : Go l Z a0 EL b n0 own code maxL ret nm R W0 Q D S cells slots pc Ls (x :: rest) := by
  obtain ⟨h1, rfl⟩ := hd
  exact Go.plain (fun hx hc h t k => XS.astoreN h hx rfl (hb hc h1) rfl hv hl k) G
theorem Go.astore {k : Nat} {x : Value} (hd : Dx code pc (.astore k) 2 pc') (hl : storeLocals Ls k x = some Ls') (hv : x.isRef = true := by rfl) (G : Go l Z a0 EL b n0 own code maxL ret nm R W0 Q D S cells slots pc' Ls' (rest)) : Go l Z a0 EL b n0 own code maxL ret nm R W0 Q D S cells slots pc Ls (x :: rest) := by
  obtain ⟨h1, rfl⟩ := hd
  exact Go.plain (fun hx hc h t k => XS.astore h hx rfl (hb hc h1) rfl hv hl k) G
theorem Go.iinc {i : Nat} {cst : Int} {x v z : Int32} (hd : Dx code pc (.iinc i cst) 3 pc') (hl : Ls[i]? = some (.val (.int x))) (hv : Int32.ofInt cst = v) (hz : x + v = z) (hl' : storeLocals Ls i (.int z) = some Ls') (G : Go l Z a0 EL b n0 own code maxL ret nm R W0 Q D S cells slots pc' Ls' (st)) : Go l Z a0 EL b n0 own code maxL ret nm R W0 Q D S cells slots pc Ls (st) := by
  obtain ⟨h1, rfl⟩ := hd
  subst hz
  exact Go.plain (fun hx hc h t k => XT.iincV h hx rfl v (hb hc h1) hv hl hl' k) G
theorem Go.iadd {x y z : Int32} (hd : Dx code pc (.iadd) 1 pc') (hz : x + y = z) (G : Go l Z a0 EL b n0 own code maxL ret nm R W0 Q D S cells slots pc' Ls (.int z :: rest)) : Go l Z a0 EL b n0 own code maxL ret nm R W0 Q D S cells slots pc Ls (.int y :: .int x :: rest) := by
  obtain ⟨h1, rfl⟩ := hd
  subst hz
  exact Go.plain (fun hx hc h t k => XS.iadd h hx rfl (hb hc h1) rfl k) G
theorem Go.isub {x y z : Int32} (hd : Dx code pc (.isub) 1 pc') (hz : x - y = z) (G : Go l Z a0 EL b n0 own code maxL ret nm R W0 Q D S cells slots pc' Ls (.int z :: rest)) : Go l Z a0 EL b n0 own code maxL ret nm R W0 Q D S cells slots pc Ls (.int y :: .int x :: rest) := by
  obtain ⟨h1, rfl⟩ := hd
  subst hz
  exact Go.plain (fun hx hc h t k => XS.isub h hx rfl (hb hc h1) rfl k) G
theorem Go.imul {x y z : Int32} (hd : Dx code pc (.imul) 1 pc') (hz : x * y = z) (G : Go l Z a0 EL b n0 own code maxL ret nm R W0 Q D S cells slots pc' Ls (.int z :: rest)) : Go l Z a0 EL b n0 own code maxL ret nm R W0 Q D S cells slots pc Ls (.int y :: .int x :: rest) := by
  obtain ⟨h1, rfl⟩ := hd
  subst hz
  exact Go.plain (fun hx hc h t k => XS.imul h hx rfl (hb hc h1) rfl k) G
theorem Go.iand {x y z : Int32} (hd : Dx code pc (.iand) 1 pc') (hz : x &&& y = z) (G : Go l Z a0 EL b n0 own code maxL ret nm R W0 Q D S cells slots pc' Ls (.int z :: rest)) : Go l Z a0 EL b n0 own code maxL ret nm R W0 Q D S cells slots pc Ls (.int y :: .int x :: rest) := by
  obtain ⟨h1, rfl⟩ := hd
  subst hz
  exact Go.plain (fun hx hc h t k => XS.iand h hx rfl (hb hc h1) rfl k) G
theorem Go.ior {x y z : Int32} (hd : Dx code pc (.ior) 1 pc') (hz : x ||| y = z) (G : Go l Z a0 EL b n0 own code maxL ret nm R W0 Q D S cells slots pc' Ls (.int z :: rest)) : Go l Z a0 EL b n0 own code maxL ret nm R W0 Q D S cells slots pc Ls (.int y :: .int x :: rest) := by
  obtain ⟨h1, rfl⟩ := hd
  subst hz
  exact Go.plain (fun hx hc h t k => XS.ior h hx rfl (hb hc h1) rfl k) G
theorem Go.ixor {x y z : Int32} (hd : Dx code pc (.ixor) 1 pc') (hz : x ^^^ y = z) (G : Go l Z a0 EL b n0 own code maxL ret nm R W0 Q D S cells slots pc' Ls (.int z :: rest)) : Go l Z a0 EL b n0 own code maxL ret nm R W0 Q D S cells slots pc Ls (.int y :: .int x :: rest) := by
  obtain ⟨h1, rfl⟩ := hd
  subst hz
  exact Go.plain (fun hx hc h t k => XS.ixor h hx rfl (hb hc h1) rfl k) G
theorem Go.ishl {x y z : Int32} (hd : Dx code pc (.ishl) 1 pc') (hz : x <<< (y &&& 31) = z) (G : Go l Z a0 EL b n0 own code maxL ret nm R W0 Q D S cells slots pc' Ls (.int z :: rest)) : Go l Z a0 EL b n0 own code maxL ret nm R W0 Q D S cells slots pc Ls (.int y :: .int x :: rest) := by
  obtain ⟨h1, rfl⟩ := hd
  subst hz
  exact Go.plain (fun hx hc h t k => XS.ishl h hx rfl (hb hc h1) rfl k) G
theorem Go.ishr {x y z : Int32} (hd : Dx code pc (.ishr) 1 pc') (hz : x >>> (y &&& 31) = z) (G : Go l Z a0 EL b n0 own code maxL ret nm R W0 Q D S cells slots pc' Ls (.int z :: rest)) : Go l Z a0 EL b n0 own code maxL ret nm R W0 Q D S cells slots pc Ls (.int y :: .int x :: rest) := by
  obtain ⟨h1, rfl⟩ := hd
  subst hz
  exact Go.plain (fun hx hc h t k => XS.ishr h hx rfl (hb hc h1) rfl k) G
theorem Go.iushr {x y z : Int32} (hd : Dx code pc (.iushr) 1 pc') (hz : ush x y = z) (G : Go l Z a0 EL b n0 own code maxL ret nm R W0 Q D S cells slots pc' Ls (.int z :: rest)) : Go l Z a0 EL b n0 own code maxL ret nm R W0 Q D S cells slots pc Ls (.int y :: .int x :: rest) := by
  obtain ⟨h1, rfl⟩ := hd
  subst hz
  exact Go.plain (fun hx hc h t k => XS.iushr h hx rfl (hb hc h1) rfl k) G
theorem Go.ladd {x y z : Int64} (hd : Dx code pc (.ladd) 1 pc') (hz : x + y = z) (G : Go l Z a0 EL b n0 own code maxL ret nm R W0 Q D S cells slots pc' Ls (.long z :: rest)) : Go l Z a0 EL b n0 own code maxL ret nm R W0 Q D S cells slots pc Ls (.long y :: .long x :: rest) := by
  obtain ⟨h1, rfl⟩ := hd
  subst hz
  exact Go.plain (fun hx hc h t k => XS.ladd h hx rfl (hb hc h1) rfl k) G
theorem Go.lsub {x y z : Int64} (hd : Dx code pc (.lsub) 1 pc') (hz : x - y = z) (G : Go l Z a0 EL b n0 own code maxL ret nm R W0 Q D S cells slots pc' Ls (.long z :: rest)) : Go l Z a0 EL b n0 own code maxL ret nm R W0 Q D S cells slots pc Ls (.long y :: .long x :: rest) := by
  obtain ⟨h1, rfl⟩ := hd
  subst hz
  exact Go.plain (fun hx hc h t k => XS.lsub h hx rfl (hb hc h1) rfl k) G
theorem Go.lmul {x y z : Int64} (hd : Dx code pc (.lmul) 1 pc') (hz : x * y = z) (G : Go l Z a0 EL b n0 own code maxL ret nm R W0 Q D S cells slots pc' Ls (.long z :: rest)) : Go l Z a0 EL b n0 own code maxL ret nm R W0 Q D S cells slots pc Ls (.long y :: .long x :: rest) := by
  obtain ⟨h1, rfl⟩ := hd
  subst hz
  exact Go.plain (fun hx hc h t k => XS.lmul h hx rfl (hb hc h1) rfl k) G
theorem Go.land {x y z : Int64} (hd : Dx code pc (.land) 1 pc') (hz : x &&& y = z) (G : Go l Z a0 EL b n0 own code maxL ret nm R W0 Q D S cells slots pc' Ls (.long z :: rest)) : Go l Z a0 EL b n0 own code maxL ret nm R W0 Q D S cells slots pc Ls (.long y :: .long x :: rest) := by
  obtain ⟨h1, rfl⟩ := hd
  subst hz
  exact Go.plain (fun hx hc h t k => XS.land h hx rfl (hb hc h1) rfl k) G
theorem Go.lor {x y z : Int64} (hd : Dx code pc (.lor) 1 pc') (hz : x ||| y = z) (G : Go l Z a0 EL b n0 own code maxL ret nm R W0 Q D S cells slots pc' Ls (.long z :: rest)) : Go l Z a0 EL b n0 own code maxL ret nm R W0 Q D S cells slots pc Ls (.long y :: .long x :: rest) := by
  obtain ⟨h1, rfl⟩ := hd
  subst hz
  exact Go.plain (fun hx hc h t k => XS.lor h hx rfl (hb hc h1) rfl k) G
theorem Go.lxor {x y z : Int64} (hd : Dx code pc (.lxor) 1 pc') (hz : x ^^^ y = z) (G : Go l Z a0 EL b n0 own code maxL ret nm R W0 Q D S cells slots pc' Ls (.long z :: rest)) : Go l Z a0 EL b n0 own code maxL ret nm R W0 Q D S cells slots pc Ls (.long y :: .long x :: rest) := by
  obtain ⟨h1, rfl⟩ := hd
  subst hz
  exact Go.plain (fun hx hc h t k => XS.lxor h hx rfl (hb hc h1) rfl k) G
theorem Go.lshl {x z : Int64} {y : Int32} (hd : Dx code pc (.lshl) 1 pc') (hz : x <<< (y &&& 0x3f).toInt64 = z) (G : Go l Z a0 EL b n0 own code maxL ret nm R W0 Q D S cells slots pc' Ls (.long z :: rest)) : Go l Z a0 EL b n0 own code maxL ret nm R W0 Q D S cells slots pc Ls (.int y :: .long x :: rest) := by
  obtain ⟨h1, rfl⟩ := hd
  subst hz
  exact Go.plain (fun hx hc h t k => XS.lshl h hx rfl (hb hc h1) rfl k) G
theorem Go.lshr {x z : Int64} {y : Int32} (hd : Dx code pc (.lshr) 1 pc') (hz : x >>> (y &&& 0x3f).toInt64 = z) (G : Go l Z a0 EL b n0 own code maxL ret nm R W0 Q D S cells slots pc' Ls (.long z :: rest)) : Go l Z a0 EL b n0 own code maxL ret nm R W0 Q D S cells slots pc Ls (.int y :: .long x :: rest) := by
  obtain ⟨h1, rfl⟩ := hd
  subst hz
  exact Go.plain (fun hx hc h t k => XS.lshr h hx rfl (hb hc h1) rfl k) G
theorem Go.lushr {x z : Int64} {y : Int32} (hd : Dx code pc (.lushr) 1 pc') (hz : ushL x y = z) (G : Go l Z a0 EL b n0 own code maxL ret nm R W0 Q D S cells slots pc' Ls (.long z :: rest)) : Go l Z a0 EL b n0 own code maxL ret nm R W0 Q D S cells slots pc Ls (.int y :: .long x :: rest) := by
  obtain ⟨h1, rfl⟩ := hd
  subst hz
  exact Go.plain (fun hx hc h t k => XS.lushr h hx rfl (hb hc h1) rfl k) G
theorem Go.lcmp {x y : Int64} {z : Int32} (hd : Dx code pc (.lcmp) 1 pc') (hz : lcmpW x y = z) (G : Go l Z a0 EL b n0 own code maxL ret nm R W0 Q D S cells slots pc' Ls (.int z :: rest)) : Go l Z a0 EL b n0 own code maxL ret nm R W0 Q D S cells slots pc Ls (.long y :: .long x :: rest) := by
  obtain ⟨h1, rfl⟩ := hd
  subst hz
  exact Go.plain (fun hx hc h t k => XS.lcmp h hx rfl (hb hc h1) rfl k) G
theorem Go.idiv {x y z : Int32} (hd : Dx code pc (.idiv) 1 pc') (hy : y ≠ 0) (hz : x / y = z) (G : Go l Z a0 EL b n0 own code maxL ret nm R W0 Q D S cells slots pc' Ls (.int z :: rest)) : Go l Z a0 EL b n0 own code maxL ret nm R W0 Q D S cells slots pc Ls (.int y :: .int x :: rest) := by
  obtain ⟨h1, rfl⟩ := hd
  subst hz
  exact Go.plain (fun hx hc h t k => XS.idiv h hx rfl (hb hc h1) rfl hy k) G
theorem Go.ineg {x z : Int32} (hd : Dx code pc (.ineg) 1 pc') (hz : -x = z) (G : Go l Z a0 EL b n0 own code maxL ret nm R W0 Q D S cells slots pc' Ls (.int z :: rest)) : Go l Z a0 EL b n0 own code maxL ret nm R W0 Q D S cells slots pc Ls (.int x :: rest) := by
  obtain ⟨h1, rfl⟩ := hd
  subst hz
  exact Go.plain (fun hx hc h t k => XS.ineg h hx rfl (hb hc h1) rfl k) G
theorem Go.lneg {x z : Int64} (hd : Dx code pc (.lneg) 1 pc') (hz : -x = z) (G : Go l Z a0 EL b n0 own code maxL ret nm R W0 Q D S cells slots pc' Ls (.long z :: rest)) : Go l Z a0 EL b n0 own code maxL ret nm R W0 Q D S cells slots pc Ls (.long x :: rest) := by
  obtain ⟨h1, rfl⟩ := hd
  subst hz
  exact Go.plain (fun hx hc h t k => XS.lneg h hx rfl (hb hc h1) rfl k) G
theorem Go.i2l {x : Int32} {z : Int64} (hd : Dx code pc (.i2l) 1 pc') (hz : x.toInt64 = z) (G : Go l Z a0 EL b n0 own code maxL ret nm R W0 Q D S cells slots pc' Ls (.long z :: rest)) : Go l Z a0 EL b n0 own code maxL ret nm R W0 Q D S cells slots pc Ls (.int x :: rest) := by
  obtain ⟨h1, rfl⟩ := hd
  subst hz
  exact Go.plain (fun hx hc h t k => XS.i2l h hx rfl (hb hc h1) rfl k) G
theorem Go.l2i {x : Int64} {z : Int32} (hd : Dx code pc (.l2i) 1 pc') (hz : x.toInt32 = z) (G : Go l Z a0 EL b n0 own code maxL ret nm R W0 Q D S cells slots pc' Ls (.int z :: rest)) : Go l Z a0 EL b n0 own code maxL ret nm R W0 Q D S cells slots pc Ls (.long x :: rest) := by
  obtain ⟨h1, rfl⟩ := hd
  subst hz
  exact Go.plain (fun hx hc h t k => XS.l2i h hx rfl (hb hc h1) rfl k) G
theorem Go.i2b {x : Int32} {z : Int32} (hd : Dx code pc (.i2b) 1 pc') (hz : x.toInt8.toInt32 = z) (G : Go l Z a0 EL b n0 own code maxL ret nm R W0 Q D S cells slots pc' Ls (.int z :: rest)) : Go l Z a0 EL b n0 own code maxL ret nm R W0 Q D S cells slots pc Ls (.int x :: rest) := by
  obtain ⟨h1, rfl⟩ := hd
  subst hz
  exact Go.plain (fun hx hc h t k => XS.i2b h hx rfl (hb hc h1) rfl k) G
theorem Go.i2c {x : Int32} {z : Int32} (hd : Dx code pc (.i2c) 1 pc') (hz : x.toUInt32.toUInt16.toUInt32.toInt32 = z) (G : Go l Z a0 EL b n0 own code maxL ret nm R W0 Q D S cells slots pc' Ls (.int z :: rest)) : Go l Z a0 EL b n0 own code maxL ret nm R W0 Q D S cells slots pc Ls (.int x :: rest) := by
  obtain ⟨h1, rfl⟩ := hd
  subst hz
  exact Go.plain (fun hx hc h t k => XS.i2c h hx rfl (hb hc h1) rfl k) G
theorem Go.i2s {x : Int32} {z : Int32} (hd : Dx code pc (.i2s) 1 pc') (hz : x.toInt16.toInt32 = z) (G : Go l Z a0 EL b n0 own code maxL ret nm R W0 Q D S cells slots pc' Ls (.int z :: rest)) : Go l Z a0 EL b n0 own code maxL ret nm R W0 Q D S cells slots pc Ls (.int x :: rest) := by
  obtain ⟨h1, rfl⟩ := hd
  subst hz
  exact Go.plain (fun hx hc h t k => XS.i2s h hx rfl (hb hc h1) rfl k) G
theorem Go.dup {x : Value} (hd : Dx code pc (.dup) 1 pc') (hc1 : x.category = 1 := by rfl) (G : Go l Z a0 EL b n0 own code maxL ret nm R W0 Q D S cells slots pc' Ls (x :: x :: rest)) : Go l Z a0 EL b n0 own code maxL ret nm R W0 Q D S cells slots pc Ls (x :: rest) := by
  obtain ⟨h1, rfl⟩ := hd
  exact Go.plain (fun hx hc h t k => XS.dup h hx rfl (hb hc h1) rfl hc1 k) G
theorem Go.pop {x : Value} (hd : Dx code pc (.pop) 1 pc') (hc1 : x.category = 1 := by rfl) (G : Go l Z a0 EL b n0 own code maxL ret nm R W0 Q D S cells slots pc' Ls (rest)) : Go l Z a0 EL b n0 own code maxL ret nm R W0 Q D S cells slots pc Ls (x :: rest) := by
  obtain ⟨h1, rfl⟩ := hd
  exact Go.plain (fun hx hc h t k => XS.pop h hx rfl (hb hc h1) rfl hc1 k) G
theorem Go.dupX1 {x y : Value} (hd : Dx code pc (.dup_x1) 1 pc') (hc1 : x.category = 1 := by rfl) (hc2 : y.category = 1 := by rfl) (G : Go l Z a0 EL b n0 own code maxL ret nm R W0 Q D S cells slots pc' Ls (x :: y :: x :: rest)) : Go l Z a0 EL b n0 own code maxL ret nm R W0 Q D S cells slots pc Ls (x :: y :: rest) := by
  obtain ⟨h1, rfl⟩ := hd
  exact Go.plain (fun hx hc h t k => XS.dupX1 h hx rfl (hb hc h1) rfl hc1 hc2 k) G
theorem Go.dup2 {x y : Value} (hd : Dx code pc (.dup2) 1 pc') (hc1 : x.category = 1 := by rfl) (hc2 : y.category = 1 := by rfl) (G : Go l Z a0 EL b n0 own code maxL ret nm R W0 Q D S cells slots pc' Ls (x :: y :: x :: y :: rest)) : Go l Z a0 EL b n0 own code maxL ret nm R W0 Q D S cells slots pc Ls (x :: y :: rest) := by
  obtain ⟨h1, rfl⟩ := hd
  exact Go.plain (fun hx hc h t k => XT.dup2 h hx rfl (hb hc h1) rfl hc1 hc2 k) G
theorem Go.irem {x y z : Int32} (hd : Dx code pc .irem 1 pc') (hy : y ≠ 0) (hz : x % y = z) (G : Go l Z a0 EL b n0 own code maxL ret nm R W0 Q D S cells slots pc' Ls (.int z :: rest)) : Go l Z a0 EL b n0 own code maxL ret nm R W0 Q D S cells slots pc Ls (.int y :: .int x :: rest) := by
  obtain ⟨h1, rfl⟩ := hd
  subst hz
  refine Go.same (fun hs X _ _ _ => ⟨_, X, rfl, fun t k => iremM X hs.1 rfl (hb hs.2.1 h1) rfl hy k⟩) G
theorem Go.goto {o : Int} {pc2 : Nat} (hd : Dx code pc (.goto o) 3 pc') (hp : ((pc : Int) + o).toNat = pc2 := by decide) (ho : 0 ≤ (pc : Int) + o := by decide) (G : Go l Z a0 EL b n0 own code maxL ret nm R W0 Q D S cells slots pc2 Ls st) : Go l Z a0 EL b n0 own code maxL ret nm R W0 Q D S cells slots pc Ls st := by
  obtain ⟨h1, rfl⟩ := hd
  exact Go.plain (fun hx hc h t k => XS.goto h hx rfl rfl (hb hc h1) ho hp k) G
/-- what a comparison says -/
def cP : ClassFile.Cond → Int32 → Int32 → Prop
  | .eq, x, y => x = y
  | .ne, x, y => ¬ x = y
  | .lt, x, y => x < y
  | .ge, x, y => ¬ x < y
  | .gt, x, y => y < x
  | .le, x, y => ¬ y < x
theorem cP_t {cd : ClassFile.Cond} {x y : Int32} (h : cP cd x y) : if_icmp.holds cd x y = true := by
  cases cd
  · exact XT.ii_eq_t h
  · exact XT.ii_ne_t h
  · exact XT.ii_lt_t h
  · exact XT.ii_ge_t h
  · exact XT.ii_gt_t h
  · exact XT.ii_le_t h
theorem cP_f {cd : ClassFile.Cond} {x y : Int32} (h : ¬ cP cd x y) : if_icmp.holds cd x y = false := by
  cases cd
  · exact XT.ii_eq_f h
  · exact XT.ii_ne_f (Classical.not_not.mp h)
  · exact XT.ii_lt_f h
  · exact XT.ii_ge_f (Classical.not_not.mp h)
  · exact XT.ii_gt_f h
  · exact XT.ii_le_f (Classical.not_not.mp h)
theorem cP0_t {cd : ClassFile.Cond} {x : Int32} (h : cP cd x 0) : ifCond.holds cd x = true := by
  cases cd
  · exact XT.i0_eq_t h
  · exact XT.i0_ne_t h
  · exact XT.i0_lt_t h
  · exact XT.i0_ge_t h
  · exact XT.i0_gt_t h
  · exact XT.i0_le_t h
theorem cP0_f {cd : ClassFile.Cond} {x : Int32} (h : ¬ cP cd x 0) : ifCond.holds cd x = false := by
  cases cd
  · exact XT.i0_eq_f h
  · exact XT.i0_ne_f (Classical.not_not.mp h)
  · exact XT.i0_lt_f h
  · exact XT.i0_ge_f (Classical.not_not.mp h)
  · exact XT.i0_gt_f h
  · exact XT.i0_le_f (Classical.not_not.mp h)
theorem Go.icmp {cd : ClassFile.Cond} {x y : Int32} {o : Int} {pc2 : Nat} (hd : Dx code pc (.if_icmp cd o) 3 pc') (hp : ((pc : Int) + o).toNat = pc2 := by decide) (ho : 0 ≤ (pc : Int) + o := by decide)
    (Gy : cP cd x y → Go l Z a0 EL b n0 own code maxL ret nm R W0 Q D S cells slots pc2 Ls rest) (Gn : ¬ cP cd x y → Go l Z a0 EL b n0 own code maxL ret nm R W0 Q D S cells slots pc' Ls rest) : Go l Z a0 EL b n0 own code maxL ret nm R W0 Q D S cells slots pc Ls (.int y :: .int x :: rest) := by
  obtain ⟨h1, rfl⟩ := hd
  by_cases q : cP cd x y
  · exact Go.plain (fun hx hc h t k => XS.icmpYes h hx rfl rfl (hb hc h1) rfl (cP_t q) ho hp k) (Gy q)
  · exact Go.plain (fun hx hc h t k => XS.icmpNo h hx rfl (hb hc h1) rfl (cP_f q) k) (Gn q)
theorem Go.ifc {cd : ClassFile.Cond} {x : Int32} {o : Int} {pc2 : Nat} (hd : Dx code pc (.ifCond cd o) 3 pc') (hp : ((pc : Int) + o).toNat = pc2 := by decide) (ho : 0 ≤ (pc : Int) + o := by decide)
    (Gy : cP cd x 0 → Go l Z a0 EL b n0 own code maxL ret nm R W0 Q D S cells slots pc2 Ls rest) (Gn : ¬ cP cd x 0 → Go l Z a0 EL b n0 own code maxL ret nm R W0 Q D S cells slots pc' Ls rest) : Go l Z a0 EL b n0 own code maxL ret nm R W0 Q D S cells slots pc Ls (.int x :: rest) := by
  obtain ⟨h1, rfl⟩ := hd
  by_cases q : cP cd x 0
  · exact Go.plain (fun hx hc h t k => XS.ifYes h hx rfl rfl (hb hc h1) rfl (cP0_t q) ho hp k) (Gy q)
  · exact Go.plain (fun hx hc h t k => XS.ifNo h hx rfl (hb hc h1) rfl (cP0_f q) k) (Gn q)
theorem Go.ifnullY {o : Int} {pc2 : Nat} (hd : Dx code pc (.ifnull o) 3 pc') (hp : ((pc : Int) + o).toNat = pc2 := by decide) (ho : 0 ≤ (pc : Int) + o := by decide)
    (G : Go l Z a0 EL b n0 own code maxL ret nm R W0 Q D S cells slots pc2 Ls rest) : Go l Z a0 EL b n0 own code maxL ret nm R W0 Q D S cells slots pc Ls (.null :: rest) := by
  obtain ⟨h1, rfl⟩ := hd
  exact Go.plain (fun hx hc h t k => XS.ifnullYes h hx rfl rfl (hb hc h1) rfl ho hp k) G
theorem Go.ifnullN {o : Int} {a : Addr} (hd : Dx code pc (.ifnull o) 3 pc') (G : Go l Z a0 EL b n0 own code maxL ret nm R W0 Q D S cells slots pc' Ls rest) : Go l Z a0 EL b n0 own code maxL ret nm R W0 Q D S cells slots pc Ls (.ref a :: rest) := by
  obtain ⟨h1, rfl⟩ := hd
  exact Go.plain (fun hx hc h t k => XS.ifnullNo h hx rfl (hb hc h1) rfl k) G
theorem Go.ifnonnullY {o : Int} {a : Addr} {pc2 : Nat} (hd : Dx code pc (.ifnonnull o) 3 pc') (hp : ((pc : Int) + o).toNat = pc2 := by decide) (ho : 0 ≤ (pc : Int) + o := by decide)
    (G : Go l Z a0 EL b n0 own code maxL ret nm R W0 Q D S cells slots pc2 Ls rest) : Go l Z a0 EL b n0 own code maxL ret nm R W0 Q D S cells slots pc Ls (.ref a :: rest) := by
  obtain ⟨h1, rfl⟩ := hd
  exact Go.plain (fun hx hc h t k => XS.ifnonnullYes h hx rfl rfl (hb hc h1) rfl ho hp k) G
theorem Go.ifnonnullN {o : Int} (hd : Dx code pc (.ifnonnull o) 3 pc') (G : Go l Z a0 EL b n0 own code maxL ret nm R W0 Q D S cells slots pc' Ls rest) : Go l Z a0 EL b n0 own code maxL ret nm R W0 Q D S cells slots pc Ls (.null :: rest) := by
  obtain ⟨h1, rfl⟩ := hd
  exact Go.plain (fun hx hc h t k => XS.ifnonnullNo h hx rfl (hb hc h1) rfl k) G
theorem Go.acmpeq {o : Int} {x y : Value} {pc2 : Nat} (hd : Dx code pc (.if_acmp .eq o) 3 pc') (hx' : x.isRef = true := by rfl) (hy' : y.isRef = true := by rfl) (hp : ((pc : Int) + o).toNat = pc2 := by decide) (ho : 0 ≤ (pc : Int) + o := by decide)
    (Gy : x = y → Go l Z a0 EL b n0 own code maxL ret nm R W0 Q D S cells slots pc2 Ls rest) (Gn : ¬ x = y → Go l Z a0 EL b n0 own code maxL ret nm R W0 Q D S cells slots pc' Ls rest) : Go l Z a0 EL b n0 own code maxL ret nm R W0 Q D S cells slots pc Ls (y :: x :: rest) := by
  obtain ⟨h1, rfl⟩ := hd
  by_cases q : x = y
  · exact Go.plain (fun hx hc h t k => XT.acmpYes h hx rfl rfl (hb hc h1) rfl hx' hy' (XT.aa_eq_t q) ho hp k) (Gy q)
  · exact Go.plain (fun hx hc h t k => XT.acmpNo h hx rfl (hb hc h1) rfl hx' hy' (XT.aa_eq_f q) k) (Gn q)
theorem Go.acmpne {o : Int} {x y : Value} {pc2 : Nat} (hd : Dx code pc (.if_acmp .ne o) 3 pc') (hx' : x.isRef = true := by rfl) (hy' : y.isRef = true := by rfl) (hp : ((pc : Int) + o).toNat = pc2 := by decide) (ho : 0 ≤ (pc : Int) + o := by decide)
    (Gy : ¬ x = y → Go l Z a0 EL b n0 own code maxL ret nm R W0 Q D S cells slots pc2 Ls rest) (Gn : x = y → Go l Z a0 EL b n0 own code maxL ret nm R W0 Q D S cells slots pc' Ls rest) : Go l Z a0 EL b n0 own code maxL ret nm R W0 Q D S cells slots pc Ls (y :: x :: rest) := by
  obtain ⟨h1, rfl⟩ := hd
  by_cases q : x = y
  · exact Go.plain (fun hx hc h t k => XT.acmpNo h hx rfl (hb hc h1) rfl hx' hy' (XT.aa_ne_f q) k) (Gn q)
  · exact Go.plain (fun hx hc h t k => XT.acmpYes h hx rfl rfl (hb hc h1) rfl hx' hy' (XT.aa_ne_t q) ho hp k) (Gy q)
/-! the steps that read or write the heap -/
theorem Inv.alike {fr : Addr → Prop} {s : State} {vm0 : Vm} {h : Heap} {locs : List Loc} (I : Inv Z a0 EL b n0 W0 fr D S s vm0 h locs) : Z.Warmed39 vm0 := I.1.2.1
theorem Inv.ext {fr : Addr → Prop} {s : State} {vm0 : Vm} {h h' : Heap} {locs : List Loc} (I : Inv Z a0 EL b n0 W0 fr D S s vm0 h locs) (E : Ext h h') {x : Ent} (hx : x.1 = h.size) (F : Kn Z h' x) :
    Inv Z a0 EL b n0 W0 fr (x :: D) S s vm0 h' locs := by
  obtain ⟨⟨e1, e2, ⟨k0, e3, e4⟩, e5⟩, ⟨c1, c2, c3, c4⟩, ⟨g1, g2, g3, g4⟩, i4, i5, i6⟩ := I
  have hs : s.heap.size ≤ h.size := c1.2.1
  have hx' := aN hx
  refine ⟨⟨e1, e2, ⟨k0, e3, Nat.le_trans e4 E.1⟩, e5⟩, ⟨c1.trans (CHr.ext E c1.1), c2, c3.ext E, c4.ext E⟩, ⟨fun y hy => ?_, fun y hy => (g2 y hy).ext E, ?_, fun y hy => ?_⟩, fun y hy => ?_, i5, fun y hy => ?_⟩
  · rcases List.mem_cons.mp hy with rfl | hy
    · exact F
    · exact (g1 y hy).ext E
  · rw [List.map_cons, List.nodup_cons]
    refine ⟨fun q => ?_, g3⟩
    obtain ⟨y, hy, e⟩ := List.mem_map.mp q
    have e := aN e
    have := aL (g1 y hy).lt
    omega
  · rw [List.map_cons, List.mem_cons]
    rintro (q | q)
    · have q := aN q
      have := aL (g2 y hy).lt
      omega
    · exact g4 y hy q
  · rcases List.mem_cons.mp hy with rfl | hy
    · refine ⟨?_, ?_, fun q => ?_, Or.inr (by rw [hx]; exact hs)⟩
      · rw [hx]; have a1 := c3.1; have a2 := c3.2.1; omega
      · rw [hx]; exact (Safe.new (Nat.le_refl _)).ext E c1.1
      · have := aL (i6 _ q).2.2
        omega
    · obtain ⟨r1, r2, r3, r4⟩ := i4 y hy
      exact ⟨r1, r2.ext E c1.1, r3, r4⟩
  · obtain ⟨r1, r2, r3⟩ := i6 y hy
    exact ⟨r1, r2.ext E c1.1, r3⟩
theorem set_mem {α : Type} {L : List α} {i : Nat} {y x : α} (h : x ∈ L.set i y) : x = y ∨ ∃ j, j ≠ i ∧ L[j]? = some x := by
  obtain ⟨j, hj⟩ := List.mem_iff_getElem?.mp h
  rw [List.getElem?_set] at hj
  by_cases q : i = j
  · rw [if_pos q] at hj
    split at hj
    · exact Or.inl (Option.some.inj hj).symm
    · cases hj
  · rw [if_neg q] at hj
    exact Or.inr ⟨j, fun e => q e.symm, hj⟩
theorem map_set_same {D : List Ent} {i : Nat} {x y : Ent} (hi : D[i]? = some x) (e : y.1 = x.1) : (D.set i y).map Prod.fst = D.map Prod.fst := by
  apply List.ext_getElem?
  intro j
  rw [List.getElem?_map, List.getElem?_map, List.getElem?_set]
  by_cases q : i = j
  · subst q
    rw [if_pos rfl, hi]
    simp [(List.getElem?_eq_some_iff.mp hi).1, e]
  · rw [if_neg q]
theorem Inv.wr {fr : Addr → Prop} {s : State} {vm0 : Vm} {h h' : Heap} {locs : List Loc} {sl : Nat} {v : Value} {x y : Ent} {i : Nat} (I : Inv Z a0 EL b n0 W0 fr D S s vm0 h locs) (hi : D[i]? = some x) (W : Wr h h' x.1 sl v) (e : y.1 = x.1) (F : Kn Z h' y) :
    Inv Z a0 EL b n0 W0 fr (D.set i y) S s vm0 h' (locs ++ [⟨x.1, sl⟩]) := by
  obtain ⟨⟨e1, e2, ⟨k0, e3, e4⟩, e5⟩, ⟨c1, c2, c3, c4⟩, ⟨g1, g2, g3, g4⟩, i4, i5, i6⟩ := I
  have hx : x ∈ D := List.mem_of_getElem? hi
  obtain ⟨r1, r2, r3, r4⟩ := i4 x hx
  have K := Keep.of_wr W
  have apart : ∀ z j, j ≠ i → D[j]? = some z → z.1 ≠ x.1 := fun z j hj hz q => hj (by
    have lj : j < (D.map Prod.fst).length := by simpa using (List.getElem?_eq_some_iff.mp hz).1
    refine (List.getElem?_inj lj g3).mp ?_
    simp [hz, hi, q])
  refine ⟨⟨e1, e2, ⟨k0, e3, by rw [W.size]; exact e4⟩, e5⟩, ⟨c1.trans (CHr.wr W r2 c1.1), c2.app (fun z hz => by cases List.mem_singleton.mp hz; exact r1), c3.wr W r1, c4.wr W r4⟩, ⟨fun z hz => ?_, fun z hz => ?_, ?_, fun z hz => ?_⟩, fun z hz => ?_, i5, fun z hz => ?_⟩
  · rcases set_mem hz with rfl | ⟨j, hj, q⟩
    · exact F
    · exact (g1 z (List.mem_of_getElem? q)).keep K (fun r => apart z j hj q (List.mem_singleton.mp r))
  · exact (g2 z hz).keep K (fun r => g4 z hz (List.mem_map.mpr ⟨x, hx, (List.mem_singleton.mp r).symm⟩))
  · rw [map_set_same hi e]; exact g3
  · rw [map_set_same hi e]; exact g4 z hz
  · rcases set_mem hz with rfl | ⟨j, hj, q⟩
    · rw [e]; exact ⟨r1, Safe.wr W r2 c1.1 r2, r3, r4⟩
    · obtain ⟨t1, t2, t3, t4⟩ := i4 z (List.mem_of_getElem? q)
      exact ⟨t1, Safe.wr W r2 c1.1 t2, t3, t4⟩
  · obtain ⟨t1, t2, t3⟩ := i6 z hz
    exact ⟨t1, Safe.wr W r2 c1.1 t2, t3⟩
/-- a step that makes one cell -/
theorem Go.grow {k n : Nat} {o : Ob} (H : ∀ {p : Program} {e : Env} {s : State} {m : MethodId} {args : Array Value} {below : List Frame} {meth : Method} {c : Code} {vm0 : Vm} {T : State} {locs : List Loc}, Sst own code maxL ret nm p m meth c vm0 → Stand p l e R (s.setVm vm0) m args below meth c T locs cells slots → Z.Warmed39 (s.setVm vm0).vm → HH Z T.heap D S →
      ∃ T', Stand p l e R (s.setVm vm0) m args below meth c T' locs k n ∧ Ext T.heap T'.heap ∧ Kn Z T'.heap (T.heap.size, o) ∧ ∀ t, Steps p.tables e below (T'.setTop (mkF m pc' Ls' (.ref T.heap.size :: st'))) t → Steps p.tables e below (T.setTop (mkF m pc Ls st)) t)
    (G : ∀ a, Go l Z a0 EL b n0 own code maxL ret nm R W0 Q ((a, o) :: D) S k n pc' Ls' (.ref a :: st')) : Go l Z a0 EL b n0 own code maxL ret nm R W0 Q D S cells slots pc Ls st := by
  intro fr p e s m args below meth c vm0 T locs hs X I
  obtain ⟨T', X', E, F, st⟩ := H hs X I.1.2.1 I.2.2.1
  obtain ⟨t, v, k', r⟩ := G T.heap.size fr p e s m args below meth c vm0 T' locs hs X' (I.ext E (x := (T.heap.size, o)) rfl F)
  exact ⟨t, v, st t k', r⟩
/-- a step that writes one slot of an own cell -/
theorem Go.write {i : Nat} {x y : Ent} (hi : D[i]? = some x) (hD : D' = D.set i y) (e : y.1 = x.1) (H : ∀ {p : Program} {e : Env} {s : State} {m : MethodId} {args : Array Value} {below : List Frame} {meth : Method} {c : Code} {vm0 : Vm} {T : State} {locs : List Loc}, Sst own code maxL ret nm p m meth c vm0 → Stand p l e R (s.setVm vm0) m args below meth c T locs cells slots → Z.Warmed39 (s.setVm vm0).vm → HH Z T.heap D S →
      ∃ T' sl v, Stand p l e R (s.setVm vm0) m args below meth c T' (locs ++ [⟨x.1, sl⟩]) cells slots ∧ Wr T.heap T'.heap x.1 sl v ∧ Kn Z T'.heap y ∧ ∀ t, Steps p.tables e below (T'.setTop (mkF m pc' Ls' st')) t → Steps p.tables e below (T.setTop (mkF m pc Ls st)) t)
    (G : Go l Z a0 EL b n0 own code maxL ret nm R W0 Q D' S cells slots pc' Ls' st') : Go l Z a0 EL b n0 own code maxL ret nm R W0 Q D S cells slots pc Ls st := by
  intro fr p e' s m args below meth c vm0 T locs hs X I
  obtain ⟨T', sl, v, X', W, F, st⟩ := H hs X I.1.2.1 I.2.2.1
  subst hD
  obtain ⟨t, v, k', r⟩ := G fr p e' s m args below meth c vm0 T' _ hs X' (I.wr hi W e F)
  exact ⟨t, v, st t k', r⟩
/-- the fields of a new object -/
def NewF (Z : State) (a0 : Array Value) (C : String) (fs : List (String × String × String × Value)) : Prop :=
  (∀ f ∈ fs, Laid Z a0 C f.1 f.2.1 f.2.2.1 ∧ ∃ ty, parseFieldDescriptor f.2.2.1 = some ty ∧ defaultValue ty = f.2.2.2) ∧ (fs.map fun f => Jvm.RoadKit.slotOf Z f.1 f.2.1 f.2.2.1).Nodup
theorem NewF.nil {C : String} : NewF Z a0 C [] := ⟨fun _ q => (nomatch q), List.nodup_nil⟩
theorem NewF.cons {C O n d : String} {v : Value} {ty : FieldType} {fs : List (String × String × String × Value)} (L : Laid Z a0 C O n d) (ht : parseFieldDescriptor d = some ty) (hv : defaultValue ty = v) (hne : ∀ f ∈ fs, n ≠ f.2.1) (F : NewF Z a0 C fs) : NewF Z a0 C ((O, n, d, v) :: fs) := by
  refine ⟨fun f hf => ?_, ?_⟩
  · rcases List.mem_cons.mp hf with rfl | hf
    · exact ⟨L, ty, ht, hv⟩
    · exact F.1 f hf
  · rw [List.map_cons, List.nodup_cons]
    refine ⟨fun q => ?_, F.2⟩
    obtain ⟨f, hf, e⟩ := List.mem_map.mp q
    obtain ⟨L', ty', ht', -⟩ := F.1 f hf
    exact slot_ne L L' (hne f hf) ht ht' e.symm
theorem Go.new {idx n : Nat} {C : String} {fs : List (String × String × String × Value)} (hd : Dx code pc (.new idx) 3 pc') (w1 : (Jvm.Cond.classLink own idx C).before a0 Z = true) (w2 : (Jvm.Cond.instantiable C n).before a0 Z = true) (w3 : (Jvm.Cond.initialized C).before a0 Z = true) (hf : NewF Z a0 C fs)
    (hc : cells + 1 ≤ R.cells := by exact Nat.le_of_ble_eq_true rfl) (hl : slots + n ≤ R.slots := by exact Nat.le_of_ble_eq_true rfl) (G : ∀ a, Go l Z a0 EL b n0 own code maxL ret nm R W0 Q ((a, .inl (C, fs)) :: D) S (cells + 1) (slots + n) pc' Ls (.ref a :: st)) : Go l Z a0 EL b n0 own code maxL ret nm R W0 Q D S cells slots pc Ls st := by
  obtain ⟨h1, rfl⟩ := hd
  refine Go.grow (fun {p e s m args below meth c vm0 T locs} hs X hZ hH => ?_) G
  obtain ⟨T', h', X', rfl, E, A, F, -, k⟩ := newO X hs.1 hZ hs.2.2.2.2.2.2 w1 w2 w3 rfl (g := mkF m pc Ls st) rfl (hb hs.2.1 h1) hc hl
  refine ⟨T', X', E, ⟨A, fun f hf' => ?_, hf.2⟩, k⟩
  obtain ⟨L, ty, ht, hv⟩ := hf.1 f hf'
  rw [← hv]
  exact F L ht
theorem rep_fits {ty : FieldType} {v : Value} {k : Nat} (hv : fits ty v = true) : ∀ x ∈ List.replicate k v, fits ty x = true := fun x hx => by rw [List.eq_of_mem_replicate hx]; exact hv
theorem def_fits (ty : FieldType) : fits ty (defaultValue ty) = true := by cases ty <;> rfl
theorem Go.newarray {aty : ArrayType} {n : Int32} {k : Nat} {vs : List Value} (hd : Dx code pc (.newarray aty) 2 pc') (w : (Jvm.Cond.arrayClass (newarray.typeOf aty)).before a0 Z = true) (hk : n.toNatClampNeg = k) (hn : ¬ n < 0) (hb' : k * 8 ≤ 536870912) (hvs : vs = List.replicate k (defaultValue (newarray.typeOf aty)))
    (hc : cells + 1 ≤ R.cells := by exact Nat.le_of_ble_eq_true rfl) (hl : slots + k ≤ R.slots := by exact Nat.le_of_ble_eq_true rfl) (G : ∀ a, Go l Z a0 EL b n0 own code maxL ret nm R W0 Q ((a, .inr (newarray.typeOf aty, vs)) :: D) S (cells + 1) (slots + k) pc' Ls (.ref a :: rest)) : Go l Z a0 EL b n0 own code maxL ret nm R W0 Q D S cells slots pc Ls (.int n :: rest) := by
  obtain ⟨h1, rfl⟩ := hd
  refine Go.grow (fun {p e s m args below meth c vm0 T locs} hs X hZ hH => ?_) G
  obtain ⟨T', h', cA, X', rfl, E, A, k'⟩ := newP X hs.1 hZ w rfl (g := mkF m pc Ls (.int n :: rest)) rfl (hb hs.2.1 h1) rfl hn (cap := k) (by omega) hb' hc hl
  refine ⟨T', X', E, ⟨_, A, ?_, ?_, ?_, ?_⟩, k'⟩
  · subst hvs hk; simp [newA]
  · subst hvs; simp; omega
  · subst hvs; exact rep_fits (def_fits _)
  · intro C q; cases aty <;> cases q
theorem Go.anewarray {idx : Nat} {C : String} {n : Int32} {k : Nat} {vs : List Value} (hd : Dx code pc (.anewarray idx) 3 pc') (w1 : (Jvm.Cond.classLink own idx C).before a0 Z = true) (w2 : (Jvm.Cond.arrayOver (.object C)).before a0 Z = true) (hk : n.toNatClampNeg = k) (hn : ¬ n < 0) (hb' : k * 8 ≤ 536870912) (hvs : vs = List.replicate k .null)
    (hc : cells + 1 ≤ R.cells := by exact Nat.le_of_ble_eq_true rfl) (hl : slots + k ≤ R.slots := by exact Nat.le_of_ble_eq_true rfl) (G : ∀ a, Go l Z a0 EL b n0 own code maxL ret nm R W0 Q ((a, .inr (.object C, vs)) :: D) S (cells + 1) (slots + k) pc' Ls (.ref a :: rest)) : Go l Z a0 EL b n0 own code maxL ret nm R W0 Q D S cells slots pc Ls (.int n :: rest) := by
  obtain ⟨h1, rfl⟩ := hd
  refine Go.grow (fun {p e s m args below meth c vm0 T locs} hs X hZ hH => ?_) G
  obtain ⟨T', h', cA, X', rfl, E, A, O, k'⟩ := newR X hs.1 hZ hs.2.2.2.2.2.2 w1 w2 rfl (g := mkF m pc Ls (.int n :: rest)) rfl (hb hs.2.1 h1) rfl hn (cap := k) (by omega) hb' hc hl
  refine ⟨T', X', E, ⟨_, A, ?_, ?_, ?_, ?_⟩, k'⟩
  · subst hvs hk; simp [newA, defaultValue]
  · subst hvs; simp; omega
  · subst hvs; exact rep_fits rfl
  · intro C' q; cases q; exact O
theorem in_of {vs : List Value} {j : Int32} {v : Value} {c : Cell} (hc : c.slots = vs.toArray) (hv : vs[j.toNatClampNeg]? = some v) (hj : ¬ j < 0) : ¬ (j < 0 ∨ c.slots.size ≤ j.toNatClampNeg) ∧ c.slots[j.toNatClampNeg]? = some v := by
  have h := (List.getElem?_eq_some_iff.mp hv).1
  refine ⟨fun q => q.elim hj fun r => ?_, ?_⟩
  · rw [hc, List.size_toArray] at r; omega
  · rw [hc, List.getElem?_toArray]; exact hv
theorem Go.caload {a : Addr} {vs : List Value} {j : Int32} {v : Value} (hd : Dx code pc .caload 1 pc') (hm : In (a, .inr (.char, vs)) D S) (hv : vs[j.toNatClampNeg]? = some v) (hj : ¬ j < 0 := by decide) (G : Go l Z a0 EL b n0 own code maxL ret nm R W0 Q D S cells slots pc' Ls (v :: rest)) : Go l Z a0 EL b n0 own code maxL ret nm R W0 Q D S cells slots pc Ls (.int j :: .ref a :: rest) := by
  obtain ⟨h1, rfl⟩ := hd
  refine Go.same (fun {p e s m args below meth c vm0 T locs} hs X hZ _ hH => ?_) G
  obtain ⟨cl, A, hc, -⟩ := (show KnA Z T.heap a .char vs from hH.at hm)
  obtain ⟨q1, q2⟩ := in_of hc hv hj
  exact ⟨_, X, rfl, fun t k => X.caload hs.1 A.1 (State.isArrayOf_alike hZ.alike A.2.1) A.2.2 q1 q2 (g := mkF m pc Ls (.int j :: .ref a :: rest)) rfl rfl (hb hs.2.1 h1) t k⟩
theorem Go.baload {a : Addr} {vs : List Value} {j : Int32} {v : Value} (hd : Dx code pc .baload 1 pc') (hm : In (a, .inr (.byte, vs)) D S) (hv : vs[j.toNatClampNeg]? = some v) (hj : ¬ j < 0 := by decide) (G : Go l Z a0 EL b n0 own code maxL ret nm R W0 Q D S cells slots pc' Ls (v :: rest)) : Go l Z a0 EL b n0 own code maxL ret nm R W0 Q D S cells slots pc Ls (.int j :: .ref a :: rest) := by
  obtain ⟨h1, rfl⟩ := hd
  refine Go.same (fun {p e s m args below meth c vm0 T locs} hs X hZ _ hH => ?_) G
  obtain ⟨cl, A, hc, -⟩ := (show KnA Z T.heap a .byte vs from hH.at hm)
  obtain ⟨q1, q2⟩ := in_of hc hv hj
  exact ⟨_, X, rfl, fun t k => X.baloadBytes hs.1 A.1 (State.isArrayOf_alike hZ.alike A.2.1) A.2.2 q1 q2 (g := mkF m pc Ls (.int j :: .ref a :: rest)) rfl rfl (hb hs.2.1 h1) t k⟩
theorem Go.iaload {a : Addr} {vs : List Value} {j : Int32} {v : Value} (hd : Dx code pc .iaload 1 pc') (hm : In (a, .inr (.int, vs)) D S) (hv : vs[j.toNatClampNeg]? = some v) (hj : ¬ j < 0 := by decide) (G : Go l Z a0 EL b n0 own code maxL ret nm R W0 Q D S cells slots pc' Ls (v :: rest)) : Go l Z a0 EL b n0 own code maxL ret nm R W0 Q D S cells slots pc Ls (.int j :: .ref a :: rest) := by
  obtain ⟨h1, rfl⟩ := hd
  refine Go.same (fun {p e s m args below meth c vm0 T locs} hs X hZ _ hH => ?_) G
  obtain ⟨cl, A, hc, -⟩ := (show KnA Z T.heap a .int vs from hH.at hm)
  obtain ⟨q1, q2⟩ := in_of hc hv hj
  exact ⟨_, X, rfl, fun t k => X.iaload hs.1 A.1 (State.isArrayOf_alike hZ.alike A.2.1) A.2.2 q1 q2 (g := mkF m pc Ls (.int j :: .ref a :: rest)) rfl rfl (hb hs.2.1 h1) t k⟩
theorem Go.aaload {a : Addr} {ty : FieldType} {vs : List Value} {j : Int32} {v : Value} (hd : Dx code pc .aaload 1 pc') (hm : In (a, .inr (ty, vs)) D S) (hv : vs[j.toNatClampNeg]? = some v) (hty : ty.isReference = true := by rfl) (hj : ¬ j < 0 := by decide) (G : Go l Z a0 EL b n0 own code maxL ret nm R W0 Q D S cells slots pc' Ls (v :: rest)) : Go l Z a0 EL b n0 own code maxL ret nm R W0 Q D S cells slots pc Ls (.int j :: .ref a :: rest) := by
  obtain ⟨h1, rfl⟩ := hd
  refine Go.same (fun {p e s m args below meth c vm0 T locs} hs X hZ _ hH => ?_) G
  obtain ⟨cl, A, hc, -⟩ := (show KnA Z T.heap a ty vs from hH.at hm)
  obtain ⟨q1, q2⟩ := in_of hc hv hj
  exact ⟨_, X, rfl, fun t k => X.aaload hs.1 A.1 (State.isArrayOf_alike hZ.alike A.2.1) hty A.2.2 q1 q2 (g := mkF m pc Ls (.int j :: .ref a :: rest)) rfl rfl (hb hs.2.1 h1) t k⟩
theorem Go.arraylength {a : Addr} {ty : FieldType} {vs : List Value} {n : Int32} (hd : Dx code pc .arraylength 1 pc') (hm : In (a, .inr (ty, vs)) D S) (hn : vs.length.toInt32 = n) (G : Go l Z a0 EL b n0 own code maxL ret nm R W0 Q D S cells slots pc' Ls (.int n :: rest)) : Go l Z a0 EL b n0 own code maxL ret nm R W0 Q D S cells slots pc Ls (.ref a :: rest) := by
  obtain ⟨h1, rfl⟩ := hd
  refine Go.same (fun {p e s m args below meth c vm0 T locs} hs X hZ _ hH => ?_) G
  obtain ⟨cl, A, hc, -⟩ := (show KnA Z T.heap a ty vs from hH.at hm)
  have e : cl.slots.size.toInt32 = n := by rw [hc, List.size_toArray]; exact hn
  exact ⟨_, X, rfl, fun t k => X.arraylength hs.1 A.1 (State.isArrayOf_alike hZ.alike A.2.1) (g := mkF m pc Ls (.ref a :: rest)) rfl rfl (hb hs.2.1 h1) t (by rw [e]; exact k)⟩
theorem KnA.set {h h' : Heap} {a : Addr} {ty : FieldType} {vs : List Value} {j : Nat} {v : Value} {c : Cell} (A : Arr Z h a c ty) (hc : c.slots = vs.toArray) (hlen : vs.length < 2147483648) (hf : ∀ v ∈ vs, fits ty v = true) (hO : ∀ C, ty = .object C → Ovr Z c.cls C) (hv : fits ty v = true) (W : Wr h h' a j v) : KnA Z h' a ty (vs.set j v) := by
  refine ⟨c.setSlot j v, A.same W, ?_, by simpa using hlen, fun x hx => ?_, hO⟩
  · have : (c.setSlot j v).slots = c.slots.setIfInBounds j v := rfl
    rw [this, hc]; simp
  · rcases List.mem_or_eq_of_mem_set hx with q | rfl
    · exact hf x q
    · exact hv
theorem st_in {vs : List Value} {j : Int32} {c : Cell} (hc : c.slots = vs.toArray) (hj : ¬ j < 0) (hlt : j.toNatClampNeg < vs.length) : ¬ (j < 0 ∨ c.slots.size ≤ j.toNatClampNeg) := by
  rintro (q | q)
  · exact hj q
  · rw [hc, List.size_toArray] at q; omega
theorem Go.castore {a : Addr} {vs : List Value} {j x x' : Int32} (hd : Dx code pc .castore 1 pc') (i : Nat) (hi : D[i]? = some (a, .inr (.char, vs))) (hx : nar .char x = x') (hlt : j.toNatClampNeg < vs.length) (hD : D' = D.set i (a, .inr (.char, vs.set j.toNatClampNeg (.int x')))) (hj : ¬ j < 0 := by decide) (G : Go l Z a0 EL b n0 own code maxL ret nm R W0 Q D' S cells slots pc' Ls rest) : Go l Z a0 EL b n0 own code maxL ret nm R W0 Q D S cells slots pc Ls (.int x :: .int j :: .ref a :: rest) := by
  obtain ⟨h1, rfl⟩ := hd
  subst hx
  refine Go.write hi hD rfl (fun {p e s m args below meth c vm0 T locs} hs X hZ hH => ?_) G
  obtain ⟨cl, A, hc, r1, r2, r3⟩ := (show KnA Z T.heap a .char vs from hH.1 _ (List.mem_of_getElem? hi))
  obtain ⟨T', h', X', rfl, W, k⟩ := stC X hs.1 hZ rfl A (st_in hc hj hlt) (g := mkF m pc Ls (.int x :: .int j :: .ref a :: rest)) rfl rfl (hb hs.2.1 h1)
  exact ⟨T', _, _, X', W, KnA.set A hc r1 r2 r3 (fits_nar_char x) W, k⟩
theorem Go.bastore {a : Addr} {vs : List Value} {j x x' : Int32} (hd : Dx code pc .bastore 1 pc') (i : Nat) (hi : D[i]? = some (a, .inr (.byte, vs))) (hx : nar .byte x = x') (hlt : j.toNatClampNeg < vs.length) (hD : D' = D.set i (a, .inr (.byte, vs.set j.toNatClampNeg (.int x')))) (hj : ¬ j < 0 := by decide) (G : Go l Z a0 EL b n0 own code maxL ret nm R W0 Q D' S cells slots pc' Ls rest) : Go l Z a0 EL b n0 own code maxL ret nm R W0 Q D S cells slots pc Ls (.int x :: .int j :: .ref a :: rest) := by
  obtain ⟨h1, rfl⟩ := hd
  subst hx
  refine Go.write hi hD rfl (fun {p e s m args below meth c vm0 T locs} hs X hZ hH => ?_) G
  obtain ⟨cl, A, hc, r1, r2, r3⟩ := (show KnA Z T.heap a .byte vs from hH.1 _ (List.mem_of_getElem? hi))
  obtain ⟨T', h', X', rfl, W, k⟩ := stB X hs.1 hZ rfl A (st_in hc hj hlt) (g := mkF m pc Ls (.int x :: .int j :: .ref a :: rest)) rfl rfl (hb hs.2.1 h1)
  exact ⟨T', _, _, X', W, KnA.set A hc r1 r2 r3 (fits_nar_byte x) W, k⟩
theorem Go.iastore {a : Addr} {vs : List Value} {j x : Int32} (hd : Dx code pc .iastore 1 pc') (i : Nat) (hi : D[i]? = some (a, .inr (.int, vs))) (hlt : j.toNatClampNeg < vs.length) (hD : D' = D.set i (a, .inr (.int, vs.set j.toNatClampNeg (.int x)))) (hj : ¬ j < 0 := by decide) (G : Go l Z a0 EL b n0 own code maxL ret nm R W0 Q D' S cells slots pc' Ls rest) : Go l Z a0 EL b n0 own code maxL ret nm R W0 Q D S cells slots pc Ls (.int x :: .int j :: .ref a :: rest) := by
  obtain ⟨h1, rfl⟩ := hd
  refine Go.write hi hD rfl (fun {p e s m args below meth c vm0 T locs} hs X hZ hH => ?_) G
  obtain ⟨cl, A, hc, r1, r2, r3⟩ := (show KnA Z T.heap a .int vs from hH.1 _ (List.mem_of_getElem? hi))
  obtain ⟨T', h', X', rfl, W, k⟩ := stI X hs.1 hZ rfl A (st_in hc hj hlt) (g := mkF m pc Ls (.int x :: .int j :: .ref a :: rest)) rfl rfl (hb hs.2.1 h1)
  exact ⟨T', _, _, X', W, KnA.set A hc r1 r2 r3 rfl W, k⟩
/-- what may lie in an array of C -/
def Fit1 (Z : State) (a0 : Array Value) (D S : List Ent) (C : String) (v : Value) : Prop :=
  v = .null ∨ ∃ y K fs, v = .ref y ∧ In (y, .inl (K, fs)) D S ∧ (K = C ∨ (Jvm.Cond.castable K C).before a0 Z = true)
theorem Go.aastore {a : Addr} {C : String} {vs : List Value} {j : Int32} {v : Value} (hd : Dx code pc .aastore 1 pc') (i : Nat) (hi : D[i]? = some (a, .inr (.object C, vs))) (hF : Fit1 Z a0 D S C v) (hlt : j.toNatClampNeg < vs.length) (hD : D' = D.set i (a, .inr (.object C, vs.set j.toNatClampNeg v))) (hj : ¬ j < 0 := by decide) (G : Go l Z a0 EL b n0 own code maxL ret nm R W0 Q D' S cells slots pc' Ls rest) : Go l Z a0 EL b n0 own code maxL ret nm R W0 Q D S cells slots pc Ls (v :: .int j :: .ref a :: rest) := by
  obtain ⟨h1, rfl⟩ := hd
  refine Go.write hi hD rfl (fun {p e s m args below meth c vm0 T locs} hs X hZ hH => ?_) G
  obtain ⟨cl, A, hc, r1, r2, r3⟩ := (show KnA Z T.heap a (.object C) vs from hH.1 _ (List.mem_of_getElem? hi))
  have hsto : Sto Z T.heap a v ∧ fits (.object C) v = true := by
    rcases hF with rfl | ⟨y, K, fs, rfl, hy, hK⟩
    · exact ⟨Or.inl rfl, rfl⟩
    · obtain ⟨E, -⟩ := (show KnO Z T.heap y K fs from hH.at hy)
      refine ⟨Sto.of A (r3 C rfl) ?_, rfl⟩
      rcases hK with rfl | hK
      · exact Ins.self E
      · exact Ins.of_exa E hK
  obtain ⟨T', h', X', rfl, W, k⟩ := stR X hs.1 hZ rfl A (st_in hc hj hlt) rfl hsto.1 (g := mkF m pc Ls (v :: .int j :: .ref a :: rest)) rfl rfl (hb hs.2.1 h1)
  exact ⟨T', _, _, X', W, KnA.set A hc r1 r2 r3 hsto.2 W, k⟩
theorem Go.getfield {a : Addr} {idx : Nat} {C R0 O n d host : String} {fs : List (String × String × String × Value)} {v : Value} (hd : Dx code pc (.getfield idx) 3 pc') (w : (Jvm.Cond.fieldLink own idx R0 n d).before a0 Z = true ∨ (Jvm.Cond.fieldLinkNest own idx R0 n d host).before a0 Z = true) (via : Via Z R0 O n d) (hm : In (a, .inl (C, fs)) D S) (j : Nat) (hj : fs[j]? = some (O, n, d, v))
    (G : Go l Z a0 EL b n0 own code maxL ret nm R W0 Q D S cells slots pc' Ls (v :: rest)) : Go l Z a0 EL b n0 own code maxL ret nm R W0 Q D S cells slots pc Ls (.ref a :: rest) := by
  obtain ⟨h1, rfl⟩ := hd
  refine Go.same (fun {p e s m args below meth c vm0 T locs} hs X hZ _ hH => ?_) G
  obtain ⟨E, F, -⟩ := (show KnO Z T.heap a C fs from hH.at hm)
  obtain ⟨T', X', e', k⟩ := getF X hs.1 hZ hs.2.2.2.2.2.2 w via rfl (F _ (List.mem_of_getElem? hj)) (g := mkF m pc Ls (.ref a :: rest)) rfl rfl (hb hs.2.1 h1)
  exact ⟨T', X', e', k⟩
theorem Go.getstatic {idx : Nat} {R0 O n d host : String} {v : Value} (hd : Dx code pc (.getstatic idx) 3 pc') (w : (Jvm.Cond.fieldLink own idx R0 n d).before a0 Z = true ∨ (Jvm.Cond.fieldLinkNest own idx R0 n d host).before a0 Z = true) (via : Via Z R0 O n d) (F : Sta Z Z.heap O n d v)
    (G : Go l Z a0 EL b n0 own code maxL ret nm R W0 Q D S cells slots pc' Ls (v :: st)) : Go l Z a0 EL b n0 own code maxL ret nm R W0 Q D S cells slots pc Ls st := by
  obtain ⟨h1, rfl⟩ := hd
  refine Go.same (fun {p e s m args below meth c vm0 T locs} hs X hZ hO hH => ?_) G
  obtain ⟨T', X', e', k⟩ := getS2 X hs.1 hZ hs.2.2.2.2.2.2 w via rfl (F.ext hO.2) (g := mkF m pc Ls st) rfl (hb hs.2.1 h1)
  exact ⟨T', X', e', k⟩
theorem KnO.set {h h' : Heap} {a : Addr} {C O n d : String} {fs : List (String × String × String × Value)} {j : Nat} {v old : Value} (F : KnO Z h a C fs) (hj : fs[j]? = some (O, n, d, old)) (W : Wr h h' a (Jvm.RoadKit.slotOf Z O n d) v) : KnO Z h' a C (fs.set j (O, n, d, v)) := by
  obtain ⟨E, G, N⟩ := F
  refine ⟨E.wr W, fun f hf => ?_, ?_⟩
  · rcases set_mem hf with rfl | ⟨i, hi, q⟩
    · exact Fld.same (w := old) W (G _ (List.mem_of_getElem? hj))
    · refine Fld.other W (G f (List.mem_of_getElem? q)) (Or.inr fun e => hi ?_)
      have li : i < (fs.map fun f => Jvm.RoadKit.slotOf Z f.1 f.2.1 f.2.2.1).length := by simpa using (List.getElem?_eq_some_iff.mp q).1
      refine (List.getElem?_inj li N).mp ?_
      simp [q, hj, e]
  · have e : (fs.set j (O, n, d, v)).map (fun f => Jvm.RoadKit.slotOf Z f.1 f.2.1 f.2.2.1) = fs.map fun f => Jvm.RoadKit.slotOf Z f.1 f.2.1 f.2.2.1 := by
      apply List.ext_getElem?
      intro i
      rw [List.getElem?_map, List.getElem?_map, List.getElem?_set]
      by_cases q : j = i
      · subst q; rw [if_pos rfl, hj]; simp [(List.getElem?_eq_some_iff.mp hj).1]
      · rw [if_neg q]
    rw [e]; exact N
theorem Go.putfield {a : Addr} {idx kk : Nat} {C R0 O n d : String} {fs : List (String × String × String × Value)} {v v' old : Value} {ty : FieldType} (hd : Dx code pc (.putfield idx) 3 pc') (w : (Jvm.Cond.fieldLink own idx R0 n d).before a0 Z = true) (via : Via Z R0 O n d) (i : Nat) (hi : D[i]? = some (a, .inl (C, fs))) (j : Nat) (hj : fs[j]? = some (O, n, d, old))
    (hL : (Jvm.Cond.lays C O n d).before a0 Z = true ∨ ((Jvm.Cond.laysFinal C O n d).before a0 Z = true ∧ own = O ∧ nm = "<init>")) (wi : (Jvm.Cond.instantiable C kk).before a0 Z = true) (hty : parseFieldDescriptor d = some ty) (hn : narrow ty v = v') (hf : fits ty v' = true) (hD : D' = D.set i (a, .inl (C, fs.set j (O, n, d, v'))))
    (G : Go l Z a0 EL b n0 own code maxL ret nm R W0 Q D' S cells slots pc' Ls rest) : Go l Z a0 EL b n0 own code maxL ret nm R W0 Q D S cells slots pc Ls (v :: .ref a :: rest) := by
  obtain ⟨h1, rfl⟩ := hd
  refine Go.write hi hD rfl (fun {p e s m args below meth c vm0 T locs} hs X hZ hH => ?_) G
  have F := (show KnO Z T.heap a C fs from hH.1 _ (List.mem_of_getElem? hi))
  obtain ⟨T', h', X', rfl, W, k⟩ := putFN X hs.1 hZ hs.2.2.2.2.2.2 w via rfl (F.2.1 _ (List.mem_of_getElem? hj)) F.1 (hL.imp id fun q => ⟨q.1, q.2.1, hs.2.2.2.2.1.trans q.2.2⟩) wi hty hn hf (g := mkF m pc Ls (v :: .ref a :: rest)) rfl rfl (hb hs.2.1 h1)
  exact ⟨T', _, _, X', W, F.set hj W, k⟩
theorem Go.objInit {idx : Nat} {a : Addr} (hd : Dx code pc (.invokespecial idx) 3 pc') (w1 : (Jvm.Cond.methodLink own idx Lib.objectInit).before a0 Z = true) (w2 : (Jvm.Cond.instanceMethod Lib.objectInit).before a0 Z = true) (w3 : (Jvm.Cond.code Lib.objectInit ⟨#[0xb1]⟩ 1 none).before a0 Z = true) (hls : Ls.size = maxL) (hf : 1 ≤ R.frames) (hlo : (rest.map fun v => v.category).sum + 12 ≤ R.locals)
    (G : Go l Z a0 EL b n0 own code maxL ret nm R W0 Q D S cells slots pc' Ls rest) : Go l Z a0 EL b n0 own code maxL ret nm R W0 Q D S cells slots pc Ls (.ref a :: rest) := by
  obtain ⟨h1, rfl⟩ := hd
  refine Go.same (fun {p e s m args below meth c vm0 T locs} hs X hZ _ hH => ?_) G
  obtain ⟨T', X', e', k⟩ := initO X hs.1 hZ hs.2.2.2.2.2.2 w1 w2 w3 rfl (g := mkF m pc Ls (.ref a :: rest)) rfl (hls.trans hs.2.2.1.symm) rfl (hb hs.2.1 h1) hf (W := (rest.map fun v => v.category).sum) (by show 2 * 0 + _ ≤ _; omega) hlo
  exact ⟨T', X', e', k⟩
theorem Go.ldcInt {idx : Nat} {v : Int32} (hd : Dx code pc (.ldc idx) 2 pc') (w : (Jvm.Cond.constant own idx v).before a0 Z = true) (G : Go l Z a0 EL b n0 own code maxL ret nm R W0 Q D S cells slots pc' Ls (.int v :: st)) : Go l Z a0 EL b n0 own code maxL ret nm R W0 Q D S cells slots pc Ls st := by
  obtain ⟨h1, rfl⟩ := hd
  exact Go.same (fun {p e s m args below meth c vm0 T locs} hs X hZ _ hH => ⟨_, X, rfl, X.ldcInt hs.1 hs.2.2.2.2.2.2 (mvT hZ w) (g := mkF m pc Ls st) rfl (hb hs.2.1 h1)⟩) G
theorem Go.ldc2Long {idx : Nat} {v : Int64} (hd : Dx code pc (.ldc2_w idx) 3 pc') (w : (Jvm.Cond.constantLong own idx v).before a0 Z = true) (G : Go l Z a0 EL b n0 own code maxL ret nm R W0 Q D S cells slots pc' Ls (.long v :: st)) : Go l Z a0 EL b n0 own code maxL ret nm R W0 Q D S cells slots pc Ls st := by
  obtain ⟨h1, rfl⟩ := hd
  exact Go.same (fun {p e s m args below meth c vm0 T locs} hs X hZ _ hH => ⟨_, X, rfl, X.ldc2Long hs.1 hs.2.2.2.2.2.2 (mvT hZ w) (g := mkF m pc Ls st) rfl (hb hs.2.1 h1)⟩) G
theorem Go.checkcast {idx : Nat} {K C : String} {a : Addr} {fs : List (String × String × String × Value)} (hd : Dx code pc (.checkcast idx) 3 pc') (w : (Jvm.Cond.classLink own idx K).before a0 Z = true) (hm : In (a, .inl (C, fs)) D S) (hC : C = K ∨ (Jvm.Cond.castable C K).before a0 Z = true)
    (G : Go l Z a0 EL b n0 own code maxL ret nm R W0 Q D S cells slots pc' Ls (.ref a :: rest)) : Go l Z a0 EL b n0 own code maxL ret nm R W0 Q D S cells slots pc Ls (.ref a :: rest) := by
  obtain ⟨h1, rfl⟩ := hd
  refine Go.same (fun {p e s m args below meth c vm0 T locs} hs X hZ _ hH => ?_) G
  obtain ⟨E, -⟩ := (show KnO Z T.heap a C fs from hH.at hm)
  have I : Ins Z T.heap a K true := by
    rcases hC with rfl | hC
    · exact Ins.self E
    · exact Ins.of_exa E hC
  obtain ⟨T', X', e', k⟩ := castY X hs.1 hZ hs.2.2.2.2.2.2 w rfl I (g := mkF m pc Ls (.ref a :: rest)) rfl rfl (hb hs.2.1 h1)
  exact ⟨T', X', e', k⟩
theorem Go.instanceofY {idx : Nat} {K C : String} {a : Addr} {fs : List (String × String × String × Value)} (hd : Dx code pc (.instanceof idx) 3 pc') (w : (Jvm.Cond.classLink own idx K).before a0 Z = true) (hm : In (a, .inl (C, fs)) D S) (hC : C = K ∨ (Jvm.Cond.castable C K).before a0 Z = true)
    (G : Go l Z a0 EL b n0 own code maxL ret nm R W0 Q D S cells slots pc' Ls (.int 1 :: rest)) : Go l Z a0 EL b n0 own code maxL ret nm R W0 Q D S cells slots pc Ls (.ref a :: rest) := by
  obtain ⟨h1, rfl⟩ := hd
  refine Go.same (fun {p e s m args below meth c vm0 T locs} hs X hZ _ hH => ?_) G
  obtain ⟨E, -⟩ := (show KnO Z T.heap a C fs from hH.at hm)
  have I : Ins Z T.heap a K true := by
    rcases hC with rfl | hC
    · exact Ins.self E
    · exact Ins.of_exa E hC
  obtain ⟨T', X', e', k⟩ := instY X hs.1 hZ hs.2.2.2.2.2.2 w rfl I (g := mkF m pc Ls (.ref a :: rest)) rfl rfl (hb hs.2.1 h1)
  exact ⟨T', X', e', k⟩
theorem Go.lookupHit {d : Int} {ps : Array (Int × Int)} {len : Nat} {k : Int32} {a off : Int} {pc2 : Nat} (hd : Dx code pc (.lookupswitch d ps) len pc') (hs : (ps.toList.zip (ps.toList.drop 1)).all (fun (a, next) => a.1 < next.1) = true) (hf : ps.find? (·.1 == k.toInt) = some (a, off)) (hp : ((pc : Int) + off).toNat = pc2) (ho : 0 ≤ (pc : Int) + off)
    (G : Go l Z a0 EL b n0 own code maxL ret nm R W0 Q D S cells slots pc2 Ls rest) : Go l Z a0 EL b n0 own code maxL ret nm R W0 Q D S cells slots pc Ls (.int k :: rest) := by
  obtain ⟨h1, rfl⟩ := hd
  subst hp
  exact Go.same (fun {p e s m args below meth c vm0 T locs} h X hZ _ hH => ⟨_, X, rfl, fun t q => X.lookupswitchHit h.1 (g := mkF m pc Ls (.int k :: rest)) rfl rfl (hb h.2.1 h1) hs hf ho t q⟩) G
theorem Go.lookupMiss {d : Int} {ps : Array (Int × Int)} {len : Nat} {k : Int32} {pc2 : Nat} (hd : Dx code pc (.lookupswitch d ps) len pc') (hs : (ps.toList.zip (ps.toList.drop 1)).all (fun (a, next) => a.1 < next.1) = true) (hf : ps.find? (·.1 == k.toInt) = none) (hp : ((pc : Int) + d).toNat = pc2) (ho : 0 ≤ (pc : Int) + d)
    (G : Go l Z a0 EL b n0 own code maxL ret nm R W0 Q D S cells slots pc2 Ls rest) : Go l Z a0 EL b n0 own code maxL ret nm R W0 Q D S cells slots pc Ls (.int k :: rest) := by
  obtain ⟨h1, rfl⟩ := hd
  subst hp
  exact Go.same (fun {p e s m args below meth c vm0 T locs} h X hZ _ hH => ⟨_, X, rfl, fun t q => X.lookupswitchMiss h.1 (g := mkF m pc Ls (.int k :: rest)) rfl rfl (hb h.2.1 h1) hs hf ho t q⟩) G
/-! the end of a body -/
theorem Go.retCore {v : Option Value} (hQ : Q v D S) (hc : cells ≤ R.cells) (hl : slots ≤ R.slots) (hv : ret = none → v = none)
    (H : ∀ {p : Program} {e : Env} {s : State} {m : MethodId} {args : Array Value} {below : List Frame} {meth : Method} {c : Code} {vm0 : Vm} {T : State} {locs : List Loc}, Sst own code maxL ret nm p m meth c vm0 → Stand p l e R (s.setVm vm0) m args below meth c T locs cells slots → ∀ fs, (∀ (f : JFrame) (acts : List Action), f.method = m → f.locked = none → f.entered = [] → (doReturn e (T.setTop f) acts v).1 = T.setFrames fs) → Steps p.tables e below (T.setTop (mkF m pc Ls st)) (T.setFrames fs)) :
    Go l Z a0 EL b n0 own code maxL ret nm R W0 Q D S cells slots pc Ls st := by
  intro fr p e s m args below meth c vm0 T locs hs X I
  obtain ⟨⟨e1, e2, ⟨k0, e3, e4⟩, e5⟩, ⟨c1, c2, c3, c4⟩, hH, i4, i5, i6⟩ := I
  have hlk : meth.locks = false := hs.2.2.2.2.2.1
  obtain ⟨fs, k1, k2, k3, k4⟩ := X.leaveW e3 e4 (v := v) (fun q => hv (hs.2.2.2.1.symm.trans q))
  have hA := CHv.at X e2 e1 c1.1
  refine ⟨T.setFrames fs, v, H hs X fs k1, k2, k3, locs, ⟨D, S, hQ, hH, fun x hx => ?_, i5, c4, c2, c3, c1.trans hA, fun q => State.WarmedH.trans (e5 q) X.warmed⟩, ?_⟩
  · obtain ⟨r1, r2, r3, r4⟩ := i4 x hx
    exact ⟨r1, hA.safe (hH.1 x hx).lt r2, r3, r4⟩
  · obtain ⟨a1, a2, a3, a4⟩ := k4
    exact ⟨a1, a2, a3, a4.mono hc hl⟩
theorem Go.retB {t : FieldType} {z z' : Int32} (hd : Dx code pc .ireturn 1 pc') (ht : t = .boolean ∨ t = .byte ∨ t = .char ∨ t = .short) (hz : nar t z = z') (hQ : Q (some (.int z')) D S) (hc : cells ≤ R.cells := by exact Nat.le_of_ble_eq_true rfl) (hl : slots ≤ R.slots := by exact Nat.le_of_ble_eq_true rfl) :
    Go l Z a0 EL b n0 own code maxL (some t) nm R W0 Q D S cells slots pc Ls (.int z :: rest) := by
  obtain ⟨h1, rfl⟩ := hd
  subst hz
  exact Go.retCore hQ hc hl (fun q => by cases q) (fun {p e s m args below meth c vm0 T locs} hs X fs hfs => retN X hs.1 hs.2.2.2.1 ht (hb hs.2.1 h1) hfs)
theorem Go.retI {z : Int32} (hd : Dx code pc .ireturn 1 pc') (hQ : Q (some (.int z)) D S) (hc : cells ≤ R.cells := by exact Nat.le_of_ble_eq_true rfl) (hl : slots ≤ R.slots := by exact Nat.le_of_ble_eq_true rfl) :
    Go l Z a0 EL b n0 own code maxL (some .int) nm R W0 Q D S cells slots pc Ls (.int z :: rest) := by
  obtain ⟨h1, rfl⟩ := hd
  exact Go.retCore hQ hc hl (fun q => by cases q) (fun {p e s m args below meth c vm0 T locs} hs X fs hfs => retOut X hs.1 hs.2.2.2.1 rfl (Or.inl ⟨rfl, Or.inl rfl, z, rfl⟩) (hb hs.2.1 h1) hfs)
theorem Go.retL {z : Int64} (hd : Dx code pc .lreturn 1 pc') (hQ : Q (some (.long z)) D S) (hc : cells ≤ R.cells := by exact Nat.le_of_ble_eq_true rfl) (hl : slots ≤ R.slots := by exact Nat.le_of_ble_eq_true rfl) :
    Go l Z a0 EL b n0 own code maxL (some .long) nm R W0 Q D S cells slots pc Ls (.long z :: rest) := by
  obtain ⟨h1, rfl⟩ := hd
  exact Go.retCore hQ hc hl (fun q => by cases q) (fun {p e s m args below meth c vm0 T locs} hs X fs hfs => retOut X hs.1 hs.2.2.2.1 rfl (Or.inr (Or.inl ⟨rfl, rfl, z, rfl⟩)) (hb hs.2.1 h1) hfs)
theorem Go.retA {t : FieldType} {w : Value} (hd : Dx code pc .areturn 1 pc') (hQ : Q (some w) D S) (ht : t.isReference = true := by rfl) (hw : w.isRef = true := by rfl) (hn : narrow t w = w := by rfl) (hc : cells ≤ R.cells := by exact Nat.le_of_ble_eq_true rfl) (hl : slots ≤ R.slots := by exact Nat.le_of_ble_eq_true rfl) :
    Go l Z a0 EL b n0 own code maxL (some t) nm R W0 Q D S cells slots pc Ls (w :: rest) := by
  obtain ⟨h1, rfl⟩ := hd
  exact Go.retCore hQ hc hl (fun q => by cases q) (fun {p e s m args below meth c vm0 T locs} hs X fs hfs => retOut X hs.1 hs.2.2.2.1 hn (Or.inr (Or.inr (Or.inr (Or.inr ⟨rfl, ht, hw⟩)))) (hb hs.2.1 h1) hfs)
theorem Go.retV (hd : Dx code pc .return_ 1 pc') (hQ : Q none D S) (hc : cells ≤ R.cells := by exact Nat.le_of_ble_eq_true rfl) (hl : slots ≤ R.slots := by exact Nat.le_of_ble_eq_true rfl) :
    Go l Z a0 EL b n0 own code maxL none nm R W0 Q D S cells slots pc Ls [] := by
  obtain ⟨h1, rfl⟩ := hd
  exact Go.retCore hQ hc hl (fun _ => rfl) (fun {p e s m args below meth c vm0 T locs} hs X fs hfs => X.returnOut hs.1 hs.2.2.2.1 (hb hs.2.1 h1) hfs)
/-! a String constant -/
abbrev sob (c : Addr) : Ob := .inl ("java/lang/String", [("java/lang/String", "value", "[B", .ref c), ("java/lang/String", "coder", "B", .int 0)])
def LayS (Z : State) (a0 : Array Value) : Prop := (Jvm.Cond.laysFinal "java/lang/String" "java/lang/String" "value" "[B").before a0 Z = true ∧ (Jvm.Cond.laysFinal "java/lang/String" "java/lang/String" "coder" "B").before a0 Z = true
theorem LayS.nodup (h : LayS Z a0) : [Jvm.RoadKit.slotOf Z "java/lang/String" "value" "[B", Jvm.RoadKit.slotOf Z "java/lang/String" "coder" "B"].Nodup := by
  have q := slot_ne (Or.inr h.1) (Or.inr h.2) (by decide) (t := .array .byte) (t' := .byte) (by decide) (by decide)
  simp [q]
theorem knA_of_arv {h : Heap} {a : Addr} {k : ClassId} {z : Int32} {vs : List Value} {d : Value} {ty : FieldType} (F : Arv Z h a k ty z vs d) (hz : z.toNatClampNeg = vs.length) (hlt : vs.length < 2147483648) (hty : ∀ C, ty ≠ .object C) : KnA Z h a ty vs := by
  obtain ⟨c, A, -, h1, -, H, G⟩ := F
  have e : c.slots = vs.toArray := by
    apply Array.ext_getElem?
    intro i
    by_cases q : i < c.slots.size
    · rw [H i q]
      have : i < vs.length := by omega
      simp [List.getD, this]
    · rw [Array.getElem?_eq_none (by omega)]
      simp; omega
  refine ⟨c, A, e, hlt, fun v hv => ?_, fun C q => absurd q (hty C)⟩
  obtain ⟨i, hi, rfl⟩ := List.getElem_of_mem hv
  have := G i (by omega)
  simpa [List.getD, hi] using this
theorem Go.ldcStr {idx n : Nat} {text : String} {vs : List Value} (hd : Dx code pc (.ldc idx) 2 pc') (w : (Jvm.Cond.stringLink own idx text).before a0 Z = true) (wS : ∀ a ∈ Bundle.stringAtoms, a.before a0 Z = true) (hmem : (own, idx) ∈ EL) (hb1 : b = true) (hlay : LayS Z a0)
    (ht : (∀ c ∈ text.toList, c.toNat < 256) ∧ text.toList.map (fun c => Value.int (Jvm.Lit.byteI c.toNat.toUInt16)) = vs) (hn : 4 * text.toList.length ≤ n) (hbig : n ≤ 536870912) (hc : cells + 2 ≤ R.cells := by exact Nat.le_of_ble_eq_true rfl) (hl : slots + (n + 4) ≤ R.slots := by exact Nat.le_of_ble_eq_true rfl)
    (G : ∀ a c, Go l Z a0 EL b n0 own code maxL ret nm R W0 Q D ((a, sob c) :: (c, .inr (.byte, vs)) :: S) (cells + 2) (slots + (n + 4)) pc' Ls (.ref a :: st)) : Go l Z a0 EL b n0 own code maxL ret nm R W0 Q D S cells slots pc Ls st := by
  obtain ⟨h1, rfl⟩ := hd
  intro fr p e s m args below meth c vm0 T locs hs X I
  obtain ⟨⟨e1, e2, ⟨k0, e3, e4⟩, e5⟩, ⟨c1, c2, c3, c4⟩, hH, i4, i5, i6⟩ := I
  have hlen : vs.length = text.toList.length := by rw [← ht.2, List.length_map]
  have hvl : vs.length < 2147483648 := by omega
  have hz : (vs.length.toInt32).toNatClampNeg = vs.length := by
    have q : vs.length.toInt32.toInt = vs.length := len_toInt hvl
    simp only [Int32.toNatClampNeg, q]; omega
  have hz0 : ¬ vs.length.toInt32 < 0 := by
    have q : vs.length.toInt32.toInt = vs.length := len_toInt hvl
    simp only [Int32.lt_iff_toInt_lt, q, Int32.reduceToInt]; omega
  obtain ⟨a, T', h', k1, cb, k, X', rfl, E, hS', hk', hW', hf', F1, F2, F3, F4, l1, l2, hC, hL, hne, st⟩ := ldcCH X hs.1 e2 hs.2.2.2.2.2.2 w wS rfl e3 e4 e1 hmem c1.1 ht hz0 hz (g := mkF m pc Ls st) rfl (hb hs.2.1 h1) hn hbig hc hl
  have sf : ∀ x ∈ D, Safe Z EL T'.vm T'.heap x.1 := fun x hx => hC.safe (hH.1 x hx).lt (i4 x hx).2.1
  have ff : ∀ y, fr y → Safe Z EL T'.vm T'.heap y := fun y hy => hC.safe (Nat.lt_of_lt_of_le (i6 y hy).2.2 c1.2.1) (i6 y hy).2.1
  obtain ⟨t, v, k', r⟩ := G a cb fr p e s m args below meth c T'.vm T' locs ⟨hs.1, hs.2.1, hs.2.2.1, hs.2.2.2.1, hs.2.2.2.2.1, hs.2.2.2.2.2.1, hf'⟩ X'
    ⟨⟨e1, hW', ⟨k1, hS', hk'⟩, fun q => by rw [hb1] at q; cases q⟩, ⟨c1.trans hC, c2, c3.ext E, c4.ext E⟩, ⟨fun x hx => (hH.1 x hx).ext E, fun x hx => by
        rcases List.mem_cons.mp hx with rfl | hx
        · refine ⟨F1, fun f hf => ?_, hlay.nodup⟩
          rcases List.mem_cons.mp hf with rfl | hf
          · exact F3
          · cases List.mem_singleton.mp hf; exact F2
        · rcases List.mem_cons.mp hx with rfl | hx
          · exact knA_of_arv F4 hz hvl (by simp)
          · exact (hH.2.1 x hx).ext E, hH.2.2.1, fun x hx q => by
        obtain ⟨z, hz', ez⟩ := List.mem_map.mp q
        rcases List.mem_cons.mp hx with rfl | hx
        · exact (hne _ (sf z hz')).1 ez
        · rcases List.mem_cons.mp hx with rfl | hx
          · exact (hne _ (sf z hz')).2 ez
          · exact hH.2.2.2 x hx q⟩, fun x hx => ⟨(i4 x hx).1, sf x hx, (i4 x hx).2.2⟩, fun x hx q => by
        rcases List.mem_cons.mp hx with rfl | hx
        · exact (hne _ (ff _ q)).1 rfl
        · rcases List.mem_cons.mp hx with rfl | hx
          · exact (hne _ (ff _ q)).2 rfl
          · exact i5 x hx q, fun y hy => ⟨(i6 y hy).1, ff y hy, (i6 y hy).2.2⟩⟩
  exact ⟨t, v, st t k', r⟩
/-! calls -/
theorem Met.backS {y : MethodName} {bytes : ByteArray} {mL : Nat} {rt : Option FieldType} {rm : Room} {as' : List Value} {D0 S0 : List Ent} {Q' : Option Value → List Ent → List Ent → Prop} {p : Program} {e : Env} {below : List Frame} {s : State} {vm0 : Vm} {args : Array Value} {len W : Nat} (hM : Met l Z a0 EL b n0 y bytes mL rt [] rm as' D0 S0 Q') (fr : Addr → Prop)
    (hZ : Z.Warmed39 vm0) (wc : (Jvm.Cond.code y bytes mL rt).before a0 Z = true) (wz : (Jvm.Cond.initialized y.cls).before a0 Z = true) (hf : rm.frames + 1 ≤ R.frames) (hl : W + (mL + 11) + rm.locals ≤ R.locals) :
    BackS l R p e below (s.setVm vm0) args y len W (fun A a => a = as'.toArray ∧ PreC Z a0 EL n0 fr D0 S0 A.U ∧ A.cells + rm.cells ≤ R.cells ∧ A.slots + rm.slots ≤ R.slots)
      (fun A _ v B => ∃ L, PostC Z EL b n0 (D0.map Prod.fst) fr Q' A.U B.U v L ∧ B.locs = A.locs ++ L ∧ B.cells = A.cells + rm.cells ∧ B.slots = A.slots + rm.slots) :=
  BackS.of_freeW (bytes := bytes) (maxL := mL) (ret := rt) (E := fun _ first o t L k n => k = rm.cells ∧ n = rm.slots ∧ ∃ v, o = .returned v ∧ PostC Z EL b n0 (D0.map Prod.fst) fr Q' first t v L) (hM fr) hf hl
    (fun m meth c A a Y hp => have hU : Z.Warmed39 A.U.vm := wtrans (s := s.setVm vm0) hZ Y.warmed
      ⟨by show (Jvm.Cond.and _ .tt).before a A.U = true; rw [Cond.before_and, mv hU wc]; rfl, mv hU wc, mv hU wz, hp.2.2.1, hp.2.2.2⟩)
    (fun m meth c A a g mk Y hp => ⟨hp.1, hp.2.1⟩) (fun _ _ _ _ _ _ _ _ _ => trivial)
    (fun _ _ _ _ ⟨v, L, h1, h2, h3⟩ => ⟨L, _, _, h3, rfl, rfl, v, h1, h2⟩)
    (fun m meth c A a g mk v t L k n Y hp _ _ ⟨e1, e2, v', e3, e4⟩ => by cases e3; subst e1 e2; exact ⟨L, e4, rfl, rfl, rfl⟩)
theorem Go.callCore {y : MethodName} {bytes : ByteArray} {mL : Nat} {rt : Option FieldType} {rm : Room} {as' : List Value} {D0 Dr S0 : List Ent} {Q' : Option Value → List Ent → List Ent → Prop} {len W : Nat} (lend : Bool) (hM : Met l Z a0 EL b n0 y bytes mL rt [] rm as' D0 S0 Q')
    (wc : (Jvm.Cond.code y bytes mL rt).before a0 Z = true) (wz : (Jvm.Cond.initialized y.cls).before a0 Z = true) (hf : rm.frames + 1 ≤ R.frames) (hlo : W + (mL + 11) + rm.locals ≤ R.locals) (hce : cells + rm.cells ≤ R.cells) (hsl : slots + rm.slots ≤ R.slots)
    (hD : D = D0 ++ Dr) (hS : ∀ x ∈ S0, x ∈ S ∨ (lend = true ∧ x ∈ Dr))
    (H : ∀ {p : Program} {e : Env} {s : State} {m : MethodId} {args : Array Value} {below : List Frame} {meth : Method} {c : Code} {vm0 : Vm} {T : State} {locs : List Loc}, Sst own code maxL ret nm p m meth c vm0 → Stand p l e R (s.setVm vm0) m args below meth c T locs cells slots → Z.Warmed39 (s.setVm vm0).vm → HH Z T.heap D S →
      ∀ {Pre : Pt → Array Value → Prop} {Post : Pt → Array Value → Option Value → Pt → Prop}, BackS l R p e below (s.setVm vm0) args y len W Pre Post → (∀ vm₁, (s.setVm vm0).WarmedH vm₁ → Pre ⟨T.setVm vm₁, locs, cells, slots⟩ as'.toArray) →
      ∃ (v : Option Value) (vm₁ : Vm) (B : Pt), (s.setVm vm0).WarmedH vm₁ ∧ Stand p l e R ((s.setVm vm0).setVm B.U.vm) m args below meth c B.U B.locs B.cells B.slots ∧ (s.setVm vm0).Since B.U.vm B.U.heap.size ∧ T.heap.size ≤ B.U.heap.size ∧ Post ⟨T.setVm vm₁, locs, cells, slots⟩ as'.toArray v B ∧
        Steps p.tables e below (T.setTop (mkF m pc Ls st)) (B.U.setTop (mkF m pc' Ls (v.toList ++ rest))))
    (G : ∀ v D' S', Q' v D' S' → Go l Z a0 EL b n0 own code maxL ret nm R W0 Q (D' ++ Dr) (bif lend then S else S' ++ S) (cells + rm.cells) (slots + rm.slots) pc' Ls (v.toList ++ rest)) : Go l Z a0 EL b n0 own code maxL ret nm R W0 Q D S cells slots pc Ls st := by
  intro fr p e s m args below meth c vm0 T locs hs X I
  obtain ⟨⟨e1, e2, ⟨k0, e3, e4⟩, e5⟩, ⟨c1, c2, c3, c4⟩, hH, i4, i5, i6⟩ := I
  subst hD
  have nd := hH.2.2.1
  rw [List.map_append, List.nodup_append] at nd
  obtain ⟨nd0, ndr, ndx⟩ := nd
  have sep : ∀ x ∈ D0, x.1 ∉ Dr.map Prod.fst := fun x hx q => ndx _ (List.mem_map.mpr ⟨x, hx, rfl⟩) _ q rfl
  have sep' : ∀ x ∈ Dr, x.1 ∉ D0.map Prod.fst := fun x hx q => ndx _ q _ (List.mem_map.mpr ⟨x, hx, rfl⟩) rfl
  have hA : ∀ vm₁, (s.setVm vm0).WarmedH vm₁ → CHr Z EL vm0 T.heap vm₁ T.heap := fun vm₁ hW => by
    have q := CHv.later (h' := T.heap) e2 (hW := (show (Wst Z vm0 T.heap).Warmed39 vm₁ from hW.wide)) e1 ⟨Nat.le_refl _, fun _ _ q => q⟩ (Or.inl hW.interned_eq) c1.1
    exact ⟨q.1, Nat.le_refl _, q.2⟩
  have hss : s.heap.size ≤ T.heap.size := c1.2.1
  have hpre : ∀ vm₁, (s.setVm vm0).WarmedH vm₁ → PreC Z a0 EL n0 (fun y => fr y ∨ (lend = false ∧ y ∈ Dr.map Prod.fst)) D0 S0 (T.setVm vm₁) := fun vm₁ hW => by
    have A := hA vm₁ hW
    refine ⟨e1, wtrans (s := s.setVm vm0) (U := T.setVm vm₁) e2 hW, A.1, c3, hH.sub (fun x hx => List.mem_append_left _ hx) nd0 (fun x hx => ?_), fun x hx => ?_, fun x hx q => ?_, fun y hy => ?_⟩
    · rcases hS x hx with q | ⟨-, q⟩
      · exact Or.inl q
      · exact Or.inr ⟨List.mem_append_right _ q, sep' x q⟩
    · obtain ⟨r1, r2, r3, r4⟩ := i4 x (List.mem_append_left _ hx)
      exact ⟨r1, A.safe (hH.1 x (List.mem_append_left _ hx)).lt r2, fun q => q.elim r3 fun r => sep x hx r.2⟩
    · rcases hS x hx with r | ⟨r0, r⟩
      · rcases q with q | ⟨-, q⟩
        · exact i5 x r q
        · exact hH.2.2.2 x r (by rw [List.map_append]; exact List.mem_append_right _ q)
      · rcases q with q | ⟨q0, -⟩
        · exact (i4 x (List.mem_append_right _ r)).2.2.1 q
        · rw [r0] at q0; cases q0
    · rcases hy with hy | ⟨-, hy⟩
      · obtain ⟨r1, r2, r3⟩ := i6 y hy
        exact ⟨r1, A.safe (Nat.lt_of_lt_of_le r3 hss) r2, Nat.lt_of_lt_of_le r3 hss⟩
      · obtain ⟨x, hx, rfl⟩ := List.mem_map.mp hy
        obtain ⟨r1, r2, r3, r4⟩ := i4 x (List.mem_append_right _ hx)
        have lt := (hH.1 x (List.mem_append_right _ hx)).lt
        exact ⟨r1, A.safe lt r2, lt⟩
  obtain ⟨v, vm₁, ⟨U, Lc, kc, nc⟩, hW, X', hS', hg, ⟨L, hP, l1, l2, l3⟩, k⟩ := H hs X e2 hH (hM.backS (fun y => fr y ∨ (lend = false ∧ y ∈ Dr.map Prod.fst)) e2 wc wz hf hlo) (fun vm₁ hW => ⟨rfl, hpre vm₁ hW, hce, hsl⟩)
  dsimp only [Pt.U, Pt.locs, Pt.cells, Pt.slots] at X' hS' hg hP l1 l2 l3 k
  subst l1 l2 l3
  obtain ⟨D', S', hq, hH', hD', hS'', hK, hFr, hO, hC, hWb⟩ := hP
  have hK : Keep T.heap U.heap (D0.map Prod.fst) := hK
  have hC0 : CHr Z EL vm₁ T.heap U.vm U.heap := hC
  have hC1 : CHr Z EL vm0 T.heap U.vm U.heap := (hA vm₁ hW).trans hC0
  have new' : ∀ x ∈ D', x.1 ∉ Dr.map Prod.fst ∧ (∀ z ∈ S, z.1 ≠ x.1) := fun x hx => by
    rcases (hD' x hx).2.2.2 with q | q
    · refine ⟨fun r => ndx _ q _ r rfl, fun z hz r => hH.2.2.2 z hz ?_⟩
      rw [List.map_append, r]; exact List.mem_append_left _ q
    · have q : T.heap.size ≤ x.1 := q
      refine ⟨fun r => ?_, fun z hz r => ?_⟩
      · obtain ⟨z, hz, ez⟩ := List.mem_map.mp r
        have ez := aN ez; have q := aM q; have := aL (hH.1 z (List.mem_append_right _ hz)).lt; omega
      · have r := aN r; have q := aM q; have := aL (hH.2.1 z hz).lt; omega
  have kdr : ∀ x ∈ Dr, Kn Z U.heap x := fun x hx => (hH.1 x (List.mem_append_right _ hx)).keep hK (sep' x hx)
  have ks : ∀ x ∈ S, Kn Z U.heap x := fun x hx => (hH.2.1 x hx).keep hK (fun q => hH.2.2.2 x hx (by rw [List.map_append]; exact List.mem_append_left _ q))
  have hHH : HH Z U.heap (D' ++ Dr) (bif lend then S else S' ++ S) := by
    refine ⟨fun x hx => (List.mem_append.mp hx).elim (hH'.1 x) (kdr x), fun x hx => ?_, ?_, fun x hx => ?_⟩
    · cases lend
      · exact (List.mem_append.mp hx).elim (hH'.2.1 x) (ks x)
      · exact ks x hx
    · rw [List.map_append, List.nodup_append]
      refine ⟨hH'.2.2.1, ndr, fun a ha b hb e => ?_⟩
      obtain ⟨x, hx, rfl⟩ := List.mem_map.mp ha
      exact (new' x hx).1 (e ▸ hb)
    · have hSs : ∀ x ∈ S, x.1 ∉ (D' ++ Dr).map Prod.fst := fun x hx q => by
        rw [List.map_append, List.mem_append] at q
        rcases q with q | q
        · obtain ⟨z, hz, ez⟩ := List.mem_map.mp q
          exact (new' z hz).2 x hx ez.symm
        · exact hH.2.2.2 x hx (by rw [List.map_append]; exact List.mem_append_right _ q)
      cases lend
      · rcases List.mem_append.mp hx with hx | hx
        · rw [List.map_append, List.mem_append]
          rintro (q | q)
          · exact hH'.2.2.2 x hx q
          · exact hS'' x hx (Or.inr ⟨rfl, q⟩)
        · exact hSs x hx
      · exact hSs x hx
  have hZU : Z.Warmed39 U.vm := State.Warmed39.trans (t := s.setVm vm0) e2 hS'.1
  obtain ⟨t, v', k', r⟩ := G v D' S' hq fr p e s m args below meth c U.vm U (locs ++ L) ⟨hs.1, hs.2.1, hs.2.2.1, hs.2.2.2.1, hs.2.2.2.2.1, hs.2.2.2.2.2.1, by rw [hS'.1.alike.findClass]; exact hs.2.2.2.2.2.2⟩ X'
    ⟨⟨e1, hZU, ⟨U.heap.size, e3.trans hS' (Nat.le_trans e4 hg), Nat.le_refl _⟩, fun q => State.WarmedH.trans (State.WarmedH.trans (t := s.setVm vm0) (e5 q) hW) (hWb q)⟩,
      ⟨c1.trans hC1, c2.app hFr, hO, c4.trans hK (fun x hx => by
        obtain ⟨z, hz, rfl⟩ := List.mem_map.mp hx
        exact (i4 z (List.mem_append_left _ hz)).2.2.2)⟩, hHH, fun x hx => by
        rcases List.mem_append.mp hx with hx | hx
        · obtain ⟨r1, r2, r3, r4⟩ := hD' x hx
          refine ⟨r1, r2, fun q => r3 (Or.inl q), ?_⟩
          rcases r4 with q | q
          · obtain ⟨z, hz, ez⟩ := List.mem_map.mp q
            rw [← ez]; exact (i4 z (List.mem_append_left _ hz)).2.2.2
          · exact Or.inr (Nat.le_trans hss q)
        · obtain ⟨r1, r2, r3, r4⟩ := i4 x (List.mem_append_right _ hx)
          exact ⟨r1, hC1.safe (hH.1 x (List.mem_append_right _ hx)).lt r2, r3, r4⟩, fun x hx => by
        cases lend
        · rcases List.mem_append.mp hx with hx | hx
          · exact fun q => hS'' x hx (Or.inl q)
          · exact i5 x hx
        · exact i5 x hx, fun y hy => by
        obtain ⟨r1, r2, r3⟩ := i6 y hy
        exact ⟨r1, hC1.safe (Nat.lt_of_lt_of_le r3 hss) r2, r3⟩⟩
  exact ⟨t, v', k.trans k', r⟩
/-- the state, written anew -/
theorem Go.norm {D2 S2 : List Ent} {c2 s2 pc2 : Nat} {Ls2 : Array Slot} {st2 : List Value} (G : Go l Z a0 EL b n0 own code maxL ret nm R W0 Q D2 S2 c2 s2 pc2 Ls2 st2) (h1 : D = D2 := by rfl) (h2 : S = S2 := by rfl) (h3 : cells = c2 := by rfl) (h4 : slots = s2 := by rfl) (h5 : pc = pc2 := by rfl) (h6 : Ls = Ls2 := by rfl) (h7 : st = st2 := by rfl) :
    Go l Z a0 EL b n0 own code maxL ret nm R W0 Q D S cells slots pc Ls st := by
  subst h1 h2 h3 h4 h5 h6 h7; exact G
section Calls
variable {y : MethodName} {bytes : ByteArray} {mL : Nat} {rt : Option FieldType} {rm : Room} {argsL : List Value} {D0 Dr S0 : List Ent} {Q' : Option Value → List Ent → List Ent → Prop} {idx : Nat} {ps : List FieldType} {rr : Option FieldType}
theorem Go.invokestatic (lend : Bool) (hd : Dx code pc (.invokestatic idx) 3 pc') (w1 : (Jvm.Cond.methodLink own idx y).before a0 Z = true) (w2 : (Jvm.Cond.static y).before a0 Z = true) (w3 : (Jvm.Cond.initialized y.cls).before a0 Z = true) (w4 : (Jvm.Cond.code y bytes mL rt).before a0 Z = true) (hM : Met l Z a0 EL b n0 y bytes mL rt [] rm argsL D0 S0 Q')
    (hp : parseMethodDescriptor y.desc = some ⟨ps, rr⟩) (hlen : argsL.length = ps.length) (hst : st = argsL.reverse ++ rest) (hls : Ls.size = maxL) (hD : D = D0 ++ Dr) (hS : ∀ x ∈ S0, x ∈ S ∨ (lend = true ∧ x ∈ Dr)) (hy : y.cls ≠ "java/lang/invoke/MethodHandle" ∧ y.cls ≠ "java/lang/invoke/VarHandle" := by decide)
    (hf : rm.frames + 1 ≤ R.frames := by exact Nat.le_of_ble_eq_true rfl) (hlo : (rest.map fun v => v.category).sum + (mL + 11) + rm.locals ≤ R.locals := by exact Nat.le_of_ble_eq_true rfl) (hce : cells + rm.cells ≤ R.cells := by exact Nat.le_of_ble_eq_true rfl) (hsl : slots + rm.slots ≤ R.slots := by exact Nat.le_of_ble_eq_true rfl)
    (G : ∀ v D' S', Q' v D' S' → Go l Z a0 EL b n0 own code maxL ret nm R W0 Q (D' ++ Dr) (bif lend then S else S' ++ S) (cells + rm.cells) (slots + rm.slots) pc' Ls (v.toList ++ rest)) : Go l Z a0 EL b n0 own code maxL ret nm R W0 Q D S cells slots pc Ls st := by
  obtain ⟨h1, rfl⟩ := hd
  subst hst
  refine Go.callCore (len := 3) lend hM w4 w3 hf hlo hce hsl hD hS (fun {p e s m args below meth c vm0 T locs} hs X hZ hH {Pre Post} hB hpre => ?_) G
  exact callSS X hs.1 hs.2.2.2.2.2.2 (mvT hZ w1) (mvT hZ w2) (mvT hZ w3) (mvT hZ w4) hy hB (g := mkF m pc Ls (argsL.reverse ++ rest)) rfl (hls.trans hs.2.2.1.symm) (argsL := argsL) (rest := rest) (lenOf hp hlen) rfl (by show 2 * 0 + _ ≤ _; omega) (hb hs.2.1 h1) hpre
theorem Go.invokeinit {a : Addr} (lend : Bool) (hd : Dx code pc (.invokespecial idx) 3 pc') (hy1 : y.name = "<init>") (w1 : (Jvm.Cond.methodLink own idx y).before a0 Z = true) (w2 : (Jvm.Cond.instanceMethod y).before a0 Z = true) (w3 : (Jvm.Cond.initialized y.cls).before a0 Z = true) (w4 : (Jvm.Cond.code y bytes mL none).before a0 Z = true) (hM : Met l Z a0 EL b n0 y bytes mL none [] rm (.ref a :: argsL) D0 S0 Q')
    (hp : parseMethodDescriptor y.desc = some ⟨ps, rr⟩) (hlen : argsL.length = ps.length) (hst : st = argsL.reverse ++ .ref a :: rest) (hls : Ls.size = maxL) (hD : D = D0 ++ Dr) (hS : ∀ x ∈ S0, x ∈ S ∨ (lend = true ∧ x ∈ Dr)) (hy : y.cls ≠ "java/lang/invoke/MethodHandle" ∧ y.cls ≠ "java/lang/invoke/VarHandle" := by decide)
    (hf : rm.frames + 1 ≤ R.frames := by exact Nat.le_of_ble_eq_true rfl) (hlo : (rest.map fun v => v.category).sum + (mL + 11) + rm.locals ≤ R.locals := by exact Nat.le_of_ble_eq_true rfl) (hce : cells + rm.cells ≤ R.cells := by exact Nat.le_of_ble_eq_true rfl) (hsl : slots + rm.slots ≤ R.slots := by exact Nat.le_of_ble_eq_true rfl)
    (G : ∀ v D' S', Q' v D' S' → Go l Z a0 EL b n0 own code maxL ret nm R W0 Q (D' ++ Dr) (bif lend then S else S' ++ S) (cells + rm.cells) (slots + rm.slots) pc' Ls (v.toList ++ rest)) : Go l Z a0 EL b n0 own code maxL ret nm R W0 Q D S cells slots pc Ls st := by
  obtain ⟨h1, rfl⟩ := hd
  subst hst
  refine Go.callCore (len := 3) lend hM w4 w3 hf hlo hce hsl hD hS (fun {p e s m args below meth c vm0 T locs} hs X hZ hH {Pre Post} hB hpre => ?_) G
  exact X.specialBackS hs.1 hy1 hs.2.2.2.2.2.2 (mvT hZ w1) (mvT hZ w2) (mvT hZ w4) hy hB (g := mkF m pc Ls (argsL.reverse ++ .ref a :: rest)) rfl (hls.trans hs.2.2.1.symm) (Steps.refl _) (a := a) (argsL := argsL) (rest := rest) (lenOf hp hlen) rfl (by show 2 * 0 + _ ≤ _; omega) (hb hs.2.1 h1) hpre
theorem Go.invokevirtual {a : Addr} {z : MethodName} {C : String} {fs : List (String × String × String × Value)} (lend : Bool) (hd : Dx code pc (.invokevirtual idx) 3 pc') (w1 : (Jvm.Cond.methodLink own idx y).before a0 Z = true) (w2 : (Jvm.Cond.declares y).before a0 Z = true) (w5 : (Jvm.Cond.selects C y z).before a0 Z = true) (w6 : (Jvm.Cond.instanceMethod z).before a0 Z = true) (w3 : (Jvm.Cond.initialized z.cls).before a0 Z = true) (w4 : (Jvm.Cond.code z bytes mL rt).before a0 Z = true)
    (hnf : ∀ s : State, Z.Warmed39 s.vm → NotFace s y) (hm : In (a, .inl (C, fs)) D S) (hM : Met l Z a0 EL b n0 z bytes mL rt [] rm (.ref a :: argsL) D0 S0 Q')
    (hp : parseMethodDescriptor y.desc = some ⟨ps, rr⟩) (hlen : argsL.length = ps.length) (hst : st = argsL.reverse ++ .ref a :: rest) (hls : Ls.size = maxL) (hD : D = D0 ++ Dr) (hS : ∀ x ∈ S0, x ∈ S ∨ (lend = true ∧ x ∈ Dr)) (hy : y.cls ≠ "java/lang/invoke/MethodHandle" ∧ y.cls ≠ "java/lang/invoke/VarHandle" := by decide)
    (hf : rm.frames + 1 ≤ R.frames := by exact Nat.le_of_ble_eq_true rfl) (hlo : (rest.map fun v => v.category).sum + (mL + 11) + rm.locals ≤ R.locals := by exact Nat.le_of_ble_eq_true rfl) (hce : cells + rm.cells ≤ R.cells := by exact Nat.le_of_ble_eq_true rfl) (hsl : slots + rm.slots ≤ R.slots := by exact Nat.le_of_ble_eq_true rfl)
    (G : ∀ v D' S', Q' v D' S' → Go l Z a0 EL b n0 own code maxL ret nm R W0 Q (D' ++ Dr) (bif lend then S else S' ++ S) (cells + rm.cells) (slots + rm.slots) pc' Ls (v.toList ++ rest)) : Go l Z a0 EL b n0 own code maxL ret nm R W0 Q D S cells slots pc Ls st := by
  obtain ⟨h1, rfl⟩ := hd
  subst hst
  refine Go.callCore (len := 3) lend hM w4 w3 hf hlo hce hsl hD hS (fun {p e s m args below meth c vm0 T locs} hs X hZ hH {Pre Post} hB hpre => ?_) G
  obtain ⟨E, -⟩ := (show KnO Z T.heap a C fs from hH.at hm)
  obtain ⟨cB, kB, q1, q2, q3⟩ := isOf hZ rfl E
  exact X.virtualBackS hs.1 hs.2.2.2.2.2.2 (mvT hZ w1) (mvT hZ w2) (hnf _ hZ) (mvT hZ w5) (mvT hZ w6) hy hB q1 q3 (g := mkF m pc Ls (argsL.reverse ++ .ref a :: rest)) rfl (hls.trans hs.2.2.1.symm) (Steps.refl _) (argsL := argsL) (rest := rest) (lenOf hp hlen) rfl (by show 2 * 0 + _ ≤ _; omega) (hb hs.2.1 h1) hpre
/-- the class that declares it selects it: no interface -/
theorem nfSel {C : String} (w : (Jvm.Cond.selects C y y).before a0 Z = true) : ∀ s : State, Z.Warmed39 s.vm → NotFace s y := fun s hZ => notFace_of_selects (args := #[]) (mvT hZ w)
theorem Go.invokeprivate {a : Addr} {C : String} {fs : List (String × String × String × Value)} (lend : Bool) (hd : Dx code pc (.invokevirtual idx) 3 pc') (w1 : (Jvm.Cond.methodLink own idx y).before a0 Z = true) (w2 : (Jvm.Cond.instanceMethod y).before a0 Z = true) (w5 : (Jvm.Cond.selects y.cls y y).before a0 Z = true) (w6 : (Jvm.Cond.privateMethod y).before a0 Z = true) (w3 : (Jvm.Cond.initialized y.cls).before a0 Z = true) (w4 : (Jvm.Cond.code y bytes mL rt).before a0 Z = true)
    (hm : In (a, .inl (C, fs)) D S) (hM : Met l Z a0 EL b n0 y bytes mL rt [] rm (.ref a :: argsL) D0 S0 Q')
    (hp : parseMethodDescriptor y.desc = some ⟨ps, rr⟩) (hlen : argsL.length = ps.length) (hst : st = argsL.reverse ++ .ref a :: rest) (hls : Ls.size = maxL) (hD : D = D0 ++ Dr) (hS : ∀ x ∈ S0, x ∈ S ∨ (lend = true ∧ x ∈ Dr)) (hy : y.cls ≠ "java/lang/invoke/MethodHandle" ∧ y.cls ≠ "java/lang/invoke/VarHandle" := by decide)
    (hf : rm.frames + 1 ≤ R.frames := by exact Nat.le_of_ble_eq_true rfl) (hlo : (rest.map fun v => v.category).sum + (mL + 11) + rm.locals ≤ R.locals := by exact Nat.le_of_ble_eq_true rfl) (hce : cells + rm.cells ≤ R.cells := by exact Nat.le_of_ble_eq_true rfl) (hsl : slots + rm.slots ≤ R.slots := by exact Nat.le_of_ble_eq_true rfl)
    (G : ∀ v D' S', Q' v D' S' → Go l Z a0 EL b n0 own code maxL ret nm R W0 Q (D' ++ Dr) (bif lend then S else S' ++ S) (cells + rm.cells) (slots + rm.slots) pc' Ls (v.toList ++ rest)) : Go l Z a0 EL b n0 own code maxL ret nm R W0 Q D S cells slots pc Ls st := by
  obtain ⟨h1, rfl⟩ := hd
  subst hst
  refine Go.callCore (len := 3) lend hM w4 w3 hf hlo hce hsl hD hS (fun {p e s m args below meth c vm0 T locs} hs X hZ hH {Pre Post} hB hpre => ?_) G
  obtain ⟨E, -⟩ := (show KnO Z T.heap a C fs from hH.at hm)
  obtain ⟨cq, q1, q2⟩ := E.cell
  exact X.privateBackS hs.1 hs.2.2.2.2.2.2 (mvT hZ w1) (mvT hZ w2) (mvT hZ w5) (Cond.privateMethod_at (mvP hZ w6 (args := #[]))) (mvT hZ w4) hy hB (g := mkF m pc Ls (argsL.reverse ++ .ref a :: rest)) rfl (hls.trans hs.2.2.1.symm) (Steps.refl _) q1 q2 (argsL := argsL) (rest := rest) (lenOf hp hlen) rfl (by show 2 * 0 + _ ≤ _; omega) (hb hs.2.1 h1) hpre
theorem Go.invokeinterface {a : Addr} {xi : MethodName} {count : Nat} {C : String} {fs : List (String × String × String × Value)} (lend : Bool) (hd : Dx code pc (.invokeinterface idx count) 5 pc') (w1 : (Jvm.Cond.methodLink own idx xi).before a0 Z = true) (w2 : (Jvm.Cond.declares xi).before a0 Z = true) (w7 : (Jvm.Cond.interfaceMethod xi.cls xi.cls xi.name xi.desc).before a0 Z = true) (w5 : (Jvm.Cond.selects C xi y).before a0 Z = true) (w6 : (Jvm.Cond.instanceMethod y).before a0 Z = true) (w8 : (Jvm.Cond.publicMethod y).before a0 Z = true) (w9 : (Jvm.Cond.unhidden C xi.name xi.desc).before a0 Z = true) (w10 : (Jvm.Cond.castable C xi.cls).before a0 Z = true)
    (w3 : (Jvm.Cond.initialized y.cls).before a0 Z = true) (w4 : (Jvm.Cond.code y bytes mL rt).before a0 Z = true) (hm : In (a, .inl (C, fs)) D S) (hM : Met l Z a0 EL b n0 y bytes mL rt [] rm (.ref a :: argsL) D0 S0 Q')
    (hp : parseMethodDescriptor xi.desc = some ⟨ps, rr⟩) (hlen : argsL.length = ps.length) (hst : st = argsL.reverse ++ .ref a :: rest) (hls : Ls.size = maxL) (hD : D = D0 ++ Dr) (hS : ∀ x ∈ S0, x ∈ S ∨ (lend = true ∧ x ∈ Dr)) (hy : xi.cls ≠ "java/lang/invoke/MethodHandle" ∧ xi.cls ≠ "java/lang/invoke/VarHandle" := by decide)
    (hk7 : ((Jvm.Cond.interfaceMethod xi.cls xi.cls xi.name xi.desc).onTables && (Jvm.Cond.interfaceMethod xi.cls xi.cls xi.name xi.desc).keepsFace) = true := by first | rfl | decide)
    (hf : rm.frames + 1 ≤ R.frames := by exact Nat.le_of_ble_eq_true rfl) (hlo : (rest.map fun v => v.category).sum + (mL + 11) + rm.locals ≤ R.locals := by exact Nat.le_of_ble_eq_true rfl) (hce : cells + rm.cells ≤ R.cells := by exact Nat.le_of_ble_eq_true rfl) (hsl : slots + rm.slots ≤ R.slots := by exact Nat.le_of_ble_eq_true rfl)
    (G : ∀ v D' S', Q' v D' S' → Go l Z a0 EL b n0 own code maxL ret nm R W0 Q (D' ++ Dr) (bif lend then S else S' ++ S) (cells + rm.cells) (slots + rm.slots) pc' Ls (v.toList ++ rest)) : Go l Z a0 EL b n0 own code maxL ret nm R W0 Q D S cells slots pc Ls st := by
  obtain ⟨h1, rfl⟩ := hd
  subst hst
  refine Go.callCore (len := 5) lend hM w4 w3 hf hlo hce hsl hD hS (fun {p e s m args below meth c vm0 T locs} hs X hZ hH {Pre Post} hB hpre => ?_) G
  obtain ⟨E, -⟩ := (show KnO Z T.heap a C fs from hH.at hm)
  obtain ⟨cB, kB, q1, q2, q3⟩ := isOf hZ rfl E
  exact X.interfaceBackS hs.1 hs.2.2.2.2.2.2 (mvT hZ w1) (mvT hZ w2) (mvT hZ w7 hk7) (mvT hZ w5) (mvT hZ w6) (mvT hZ w8) (mvT hZ w9) (mvT hZ w10) hy hB q1 q2 q3 (g := mkF m pc Ls (argsL.reverse ++ .ref a :: rest)) rfl (hls.trans hs.2.2.1.symm) (Steps.refl _) (argsL := argsL) (rest := rest) (lenOf hp hlen) rfl (by show 2 * 0 + _ ≤ _; omega) (hb hs.2.1 h1) hpre
end Calls
end GoKit
abbrev rm4 (f c s l : Nat) : Room := { frames := f, cells := c, slots := s, locals := l }
theorem eN {α : Type} {P : α → Prop} : ∀ x ∈ ([] : List α), P x := fun _ q => nomatch q
theorem eS {α : Type} {P : α → Prop} {y : α} {L : List α} (q : P y) (r : ∀ x ∈ L, P x) : ∀ x ∈ y :: L, P x := fun x z => (List.mem_cons.mp z).elim (fun u => u ▸ q) (r x)
theorem nI_int {i : Nat} (h : i < 2147483648) : (Int32.ofNat i).toInt = i := len_toInt h
theorem nI_nn {i : Nat} (h : i < 2147483648) : ¬ Int32.ofNat i < 0 := by
  rw [Int32.lt_iff_toInt_lt, nI_int h]; simp
theorem nI_nat {i : Nat} (h : i < 2147483648) : (Int32.ofNat i).toNatClampNeg = i := by
  simp only [Int32.toNatClampNeg, nI_int h]; omega
theorem nI_lt {i n : Nat} (h : i < 2147483648) (hn : n < 2147483648) : Int32.ofNat i < Int32.ofNat n ↔ i < n := by
  rw [Int32.lt_iff_toInt_lt, nI_int h, nI_int hn]; omega
theorem nI_succ (i : Nat) : Int32.ofNat i + 1 = Int32.ofNat (i + 1) := (Int32.ofNat_add i 1).symm
theorem nI_eq {i n : Nat} (h : i < 2147483648) (hn : n < 2147483648) : Int32.ofNat i = Int32.ofNat n ↔ i = n := by
  rw [← Int32.toInt_inj, nI_int h, nI_int hn]; omega
theorem nar_b (x : Int32) : nar .byte x.toInt8.toInt32 = x.toInt8.toInt32 := by
  show x.toInt8.toInt32.toInt8.toInt32 = _
  simp
theorem nar_c (x : Int32) : nar .char x.toUInt32.toUInt16.toUInt32.toInt32 = x.toUInt32.toUInt16.toUInt32.toInt32 := by
  show x.toUInt32.toUInt16.toUInt32.toInt32.toUInt32.toUInt16.toUInt32.toInt32 = _
  simp only [UInt32.toUInt32_toInt32, UInt16.toUInt16_toUInt32]

theorem strW {Z : State} {a0 : Array Value} (hw : ∀ d ∈ tables_1, d.before a0 Z = true) : ∀ a ∈ Bundle.stringAtoms, a.before a0 Z = true := fun a ha => hw a ((show ∀ a ∈ Bundle.stringAtoms, a ∈ tables_1 by decide +kernel) a ha)
theorem layS {Z : State} {a0 : Array Value} (hw : ∀ d ∈ tables_1, d.before a0 Z = true) : LayS Z a0 := ⟨(hw _ (List.mem_of_getElem? (i := 29) rfl)), (hw _ (List.mem_of_getElem? (i := 27) rfl))⟩


theorem m255_int (x : Int32) : 0 ≤ (x &&& 255).toInt ∧ (x &&& 255).toInt ≤ 255 := by
  have h1 : 0 ≤ (x &&& 255).toInt := (c_andS x 255).2.2 (by decide)
  refine ⟨h1, ?_⟩
  have h : (x &&& 255).toBitVec.toNat < 256 := by
    simp only [Int32.toBitVec_and, BitVec.toNat_and]
    exact Nat.lt_succ_of_le Nat.and_le_right
  have e : (x &&& 255).toInt = (x &&& 255).toBitVec.toInt := rfl
  rw [e, BitVec.toInt_eq_toNat_cond]; split <;> omega
theorem m255_le (x : Int32) : ¬ (255 : Int32) < x &&& 255 := by
  rw [Int32.lt_iff_toInt_lt]; have := (m255_int x).2; have : (255 : Int32).toInt = 255 := rfl; omega
theorem m255_c (x : Int32) : nar .char (x &&& 255) = x &&& 255 := i2c_mask x


theorem st6 {z0 z1 z2 z3 z4 z5 : Value} {s6 : Slot} {v : Int32} (h : s6 = .unset ∨ ∃ w : Int32, s6 = .val (.int w)) : storeLocals #[.val z0, .val z1, .val z2, .val z3, .val z4, .val z5, s6] 6 (.int v) = some #[.val z0, .val z1, .val z2, .val z3, .val z4, .val z5, .val (.int v)] := by
  rcases h with rfl | ⟨w, rfl⟩ <;> rfl
/-- how many of the first chars fit a byte -/
def latN : List Int32 → Nat
  | [] => 0
  | c :: r => if (255 : Int32) < c then 0 else latN r + 1
theorem latN_le : ∀ cs, latN cs ≤ cs.length
  | [] => Nat.le_refl _
  | c :: r => by unfold latN; split <;> simp; exact latN_le r
theorem latN_all : ∀ {cs : List Int32}, (∀ c ∈ cs, ¬ (255 : Int32) < c) → latN cs = cs.length
  | [], _ => rfl
  | c :: r, h => by
    unfold latN; rw [if_neg (h c (by simp)), latN_all fun x hx => h x (by simp [hx])]; rfl
theorem latN_at : ∀ {cs : List Int32} {i : Nat}, (∀ j x, j < i → cs[j]? = some x → ¬ (255 : Int32) < x) → (∀ x, cs[i]? = some x → (255 : Int32) < x) → i ≤ cs.length → latN cs = i
  | [], i, _, _, h => by simp at h; subst h; rfl
  | c :: r, 0, _, h, _ => by unfold latN; rw [if_pos (h c rfl)]
  | c :: r, i + 1, h1, h2, h3 => by
    unfold latN
    rw [if_neg (h1 0 c (by omega) rfl), latN_at (fun j x hj hx => h1 (j + 1) x (by omega) hx) (fun x hx => h2 x hx) (by simpa using h3)]
def byV (c : Int32) : Value := .int c.toInt8.toInt32
/-- the byte array while compress fills it -/
def part (cs : List Int32) (n i : Nat) : List Value := (cs.take i).map byV ++ List.replicate (n - i) (.int 0)
theorem part_len {cs : List Int32} {n i : Nat} (h : i ≤ n) (hn : cs.length = n) : (part cs n i).length = n := by simp [part]; omega
theorem part_set {cs : List Int32} {n i : Nat} {x : Int32} (hx : cs[i]? = some x) (hn : cs.length = n) : (part cs n i).set i (byV x) = part cs n (i + 1) := by
  have hi := (List.getElem?_eq_some_iff.mp hx).1
  have e1 : n - i = (n - (i + 1)) + 1 := by omega
  unfold part
  rw [List.set_append_right _ _ (by simp; omega), e1, List.replicate_succ]
  have e2 : i - (List.map byV (List.take i cs)).length = 0 := by simp; omega
  rw [e2, List.set_cons_zero, List.take_add_one, hx]
  simp

theorem png_0 : plainName "java/lang/StringUTF16" = true := by first | (simp [plainName, overriddenIn]; done) | decide +kernel
theorem d1_0 : Dx jdk_52_method_15_code 0 (.iload_n 1) 1 1 := ⟨by decide +kernel, rfl⟩
theorem d1_1 : Dx jdk_52_method_15_code 1 (.aload_n 0) 1 2 := ⟨by decide +kernel, rfl⟩
theorem d1_2 : Dx jdk_52_method_15_code 2 (.arraylength) 1 3 := ⟨by decide +kernel, rfl⟩
theorem d1_3 : Dx jdk_52_method_15_code 3 (.isub) 1 4 := ⟨by decide +kernel, rfl⟩
theorem d1_4 : Dx jdk_52_method_15_code 4 (.bipush 31) 2 6 := ⟨by decide +kernel, rfl⟩
theorem d1_6 : Dx jdk_52_method_15_code 6 (.iushr) 1 7 := ⟨by decide +kernel, rfl⟩
theorem d1_7 : Dx jdk_52_method_15_code 7 (.i2b) 1 8 := ⟨by decide +kernel, rfl⟩
theorem d1_8 : Dx jdk_52_method_15_code 8 (.ireturn) 1 9 := ⟨by decide +kernel, rfl⟩
set_option maxRecDepth 65536 in
set_option maxHeartbeats 40000000 in
theorem c_coderFrom {l : Launch} {Z : State} {a0 : Array Value} {EL : List (String × Nat)} {b : Bool} {n0 : Nat} (hw : ∀ d ∈ tables_1, d.before a0 Z = true) (t : Addr) (vs : List Value) (m k : Int32) (hk : (ush (m - Int32.ofNat vs.length) 31).toInt8.toInt32 = k) (hk2 : nar .byte k = k) :
    Met l Z a0 EL b n0 (⟨"java/lang/StringUTF16", "coderFromArrayLen", "([BI)B"⟩ : MethodName) jdk_52_method_15_code 2 (some .byte) [] (rm4 0 0 0 0) [.ref t, .int m] [] [(t, .inr (.byte, vs))] (fun v D' S' => v = some (.int k) ∧ D' = [] ∧ S' = []) := by
  refine Met.of_go (own := "java/lang/StringUTF16") (nm := "coderFromArrayLen") (Ls := #[.val (.ref t), .val (.int m)]) (plainFor_of_name png_0) (fun m => by first | rfl | (simp [entryFrame, mkF, argsToLocals, Value.category]; done)) ?_
  refine Go.iloadN d1_0 rfl (G := ?_)
  refine Go.aloadN d1_1 rfl (G := ?_)
  refine Go.arraylength d1_2 (inS (i := 0) rfl) (n := (Int32.ofNat vs.length)) rfl (G := ?_)
  refine Go.isub d1_3 (z := (m - (Int32.ofNat vs.length))) rfl (G := ?_)
  refine Go.bipush d1_4 (v := 31) rfl (G := ?_)
  refine Go.iushr d1_6 (z := (ush (m - (Int32.ofNat vs.length)) 31)) rfl (G := ?_)
  refine Go.i2b d1_7 (z := k) hk (G := ?_)
  refine Go.sub [] (by decide) rfl (D' := []) rfl (S' := []) eN (G := ?_)
  exact Go.retB d1_8 (by simp) (z' := k) hk2 ⟨rfl, rfl, rfl⟩
theorem d2_0 : Dx jdk_52_method_21_code 0 (.iconst 0) 1 1 := ⟨by decide +kernel, rfl⟩
theorem d2_1 : Dx jdk_52_method_21_code 1 (.istore 5) 2 3 := ⟨by decide +kernel, rfl⟩
theorem d2_3 : Dx jdk_52_method_21_code 3 (.iload 5) 2 5 := ⟨by decide +kernel, rfl⟩
theorem d2_5 : Dx jdk_52_method_21_code 5 (.iload 4) 2 7 := ⟨by decide +kernel, rfl⟩
theorem d2_7 : Dx jdk_52_method_21_code 7 (.if_icmp .ge 37) 3 10 := ⟨by decide +kernel, rfl⟩
theorem d2_10 : Dx jdk_52_method_21_code 10 (.aload_n 0) 1 11 := ⟨by decide +kernel, rfl⟩
theorem d2_11 : Dx jdk_52_method_21_code 11 (.iload_n 1) 1 12 := ⟨by decide +kernel, rfl⟩
theorem d2_12 : Dx jdk_52_method_21_code 12 (.caload) 1 13 := ⟨by decide +kernel, rfl⟩
theorem d2_13 : Dx jdk_52_method_21_code 13 (.istore 6) 2 15 := ⟨by decide +kernel, rfl⟩
theorem d2_15 : Dx jdk_52_method_21_code 15 (.iload 6) 2 17 := ⟨by decide +kernel, rfl⟩
theorem d2_17 : Dx jdk_52_method_21_code 17 (.sipush 255) 3 20 := ⟨by decide +kernel, rfl⟩
theorem d2_20 : Dx jdk_52_method_21_code 20 (.if_icmp .le 6) 3 23 := ⟨by decide +kernel, rfl⟩
theorem d2_23 : Dx jdk_52_method_21_code 23 (.iload 5) 2 25 := ⟨by decide +kernel, rfl⟩
theorem d2_25 : Dx jdk_52_method_21_code 25 (.ireturn) 1 26 := ⟨by decide +kernel, rfl⟩
theorem d2_26 : Dx jdk_52_method_21_code 26 (.aload_n 2) 1 27 := ⟨by decide +kernel, rfl⟩
theorem d2_27 : Dx jdk_52_method_21_code 27 (.iload_n 3) 1 28 := ⟨by decide +kernel, rfl⟩
theorem d2_28 : Dx jdk_52_method_21_code 28 (.iload 6) 2 30 := ⟨by decide +kernel, rfl⟩
theorem d2_30 : Dx jdk_52_method_21_code 30 (.i2b) 1 31 := ⟨by decide +kernel, rfl⟩
theorem d2_31 : Dx jdk_52_method_21_code 31 (.bastore) 1 32 := ⟨by decide +kernel, rfl⟩
theorem d2_32 : Dx jdk_52_method_21_code 32 (.iinc 1 1) 3 35 := ⟨by decide +kernel, rfl⟩
theorem d2_35 : Dx jdk_52_method_21_code 35 (.iinc 3 1) 3 38 := ⟨by decide +kernel, rfl⟩
theorem d2_38 : Dx jdk_52_method_21_code 38 (.iinc 5 1) 3 41 := ⟨by decide +kernel, rfl⟩
theorem d2_41 : Dx jdk_52_method_21_code 41 (.goto (-38)) 3 44 := ⟨by decide +kernel, rfl⟩
theorem d2_44 : Dx jdk_52_method_21_code 44 (.iload 4) 2 46 := ⟨by decide +kernel, rfl⟩
theorem d2_46 : Dx jdk_52_method_21_code 46 (.ireturn) 1 47 := ⟨by decide +kernel, rfl⟩
set_option maxRecDepth 65536 in
set_option maxHeartbeats 40000000 in
theorem c_comprLoop {l : Launch} {Z : State} {a0 : Array Value} {EL : List (String × Nat)} {b : Bool} {n0 : Nat} (hw : ∀ d ∈ tables_1, d.before a0 Z = true) (src dst : Addr) (cs : List Int32) (n : Nat) (hn : cs.length = n) (hb : n ≤ 4000) :
    Met l Z a0 EL b n0 (⟨"java/lang/StringUTF16", "compress", "([CI[BII)I"⟩ : MethodName) jdk_52_method_21_code 7 (some .int) [] (rm4 0 0 0 0) [.ref src, .int 0, .ref dst, .int 0, .int (Int32.ofNat n)] [(dst, .inr (.byte, part cs n 0))] [(src, .inr (.char, cs.map Value.int))] (fun v D' S' => v = some (.int (Int32.ofNat (latN cs))) ∧ D' = [(dst, .inr (.byte, part cs n (latN cs)))] ∧ S' = []) := by
  refine Met.of_go (own := "java/lang/StringUTF16") (nm := "compress") (Ls := #[.val (.ref src), .val (.int 0), .val (.ref dst), .val (.int 0), .val (.int (Int32.ofNat n)), .unset, .unset]) (plainFor_of_name png_0) (fun m => by first | rfl | (simp [entryFrame, mkF, argsToLocals, Value.category]; done)) ?_
  refine Go.iconst d2_0 (v := 0) rfl (G := ?_)
  refine Go.istore d2_1 (Ls' := #[.val (.ref src), .val (.int 0), .val (.ref dst), .val (.int 0), .val (.int (Int32.ofNat n)), .val (.int 0), .unset]) rfl (G := ?_)
  refine Go.norm (D2 := [(dst, .inr (.byte, part cs n 0))]) ?_
  have main : ∀ m i (s6 : Slot), i + m = n → (s6 = .unset ∨ ∃ w : Int32, s6 = .val (.int w)) → (∀ j x, j < i → cs[j]? = some x → ¬ (255 : Int32) < x) →
      Go l Z a0 EL b n0 "java/lang/StringUTF16" jdk_52_method_21_code 7 (some .int) "compress" (rm4 0 0 0 0) ([(dst, (.inr (.byte, List.replicate n (.int 0)) : Ob))].map Prod.fst) (fun v D' S' => v = some (.int (Int32.ofNat (latN cs))) ∧ D' = [(dst, .inr (.byte, part cs n (latN cs)))] ∧ S' = []) [(dst, .inr (.byte, part cs n i))] [(src, .inr (.char, cs.map Value.int))] 0 0 3 #[.val (.ref src), .val (.int (Int32.ofNat i)), .val (.ref dst), .val (.int (Int32.ofNat i)), .val (.int (Int32.ofNat n)), .val (.int (Int32.ofNat i)), s6] [] := by
    intro m
    induction m with
    | zero =>
      intro i s6 hi h6 hall
      obtain rfl : i = n := by omega
      refine Go.iload d2_3 rfl (G := ?_)
      refine Go.iload d2_5 rfl (G := ?_)
      refine Go.icmp d2_7 (pc2 := 44) (Gy := fun _ => ?_) (Gn := fun h => absurd (show ¬ (Int32.ofNat i < Int32.ofNat i) from Int32.lt_irrefl) h)
      refine Go.iload d2_44 rfl (G := ?_)
      have e : latN cs = i := latN_at hall (fun x hx => absurd (List.getElem?_eq_some_iff.mp hx).1 (by omega)) (by omega)
      refine Go.sub [0] (by decide) rfl (D' := [(dst, .inr (.byte, part cs i i))]) rfl (S' := []) eN (G := ?_)
      exact Go.retI d2_46 ⟨by rw [e], by rw [e], rfl⟩
    | succ m ih =>
      intro i s6 hi h6 hall
      have hin : i < n := by omega
      have hi31 : i < 2147483648 := by omega
      have hn31 : n < 2147483648 := by omega
      obtain ⟨x, hx⟩ : ∃ x, cs[i]? = some x := ⟨_, List.getElem?_eq_getElem (by omega)⟩
      refine Go.iload d2_3 rfl (G := ?_)
      refine Go.iload d2_5 rfl (G := ?_)
      refine Go.icmp d2_7 (pc2 := 44) (Gy := fun h => absurd ((nI_lt hi31 hn31).mpr hin) h) (Gn := fun _ => ?_)
      refine Go.aloadN d2_10 rfl (G := ?_)
      refine Go.iloadN d2_11 rfl (G := ?_)
      refine Go.caload d2_12 (inS (i := 0) rfl) (v := .int x) (by rw [nI_nat hi31, List.getElem?_map, hx]; rfl) (nI_nn hi31) (G := ?_)
      refine Go.istore d2_13 (Ls' := #[.val (.ref src), .val (.int (Int32.ofNat i)), .val (.ref dst), .val (.int (Int32.ofNat i)), .val (.int (Int32.ofNat n)), .val (.int (Int32.ofNat i)), .val (.int x)]) (st6 h6) (G := ?_)
      refine Go.iload d2_15 rfl (G := ?_)
      refine Go.sipush d2_17 (v := 255) rfl (G := ?_)
      refine Go.icmp d2_20 (pc2 := 26) (Gy := fun hle => ?_) (Gn := fun hgt => ?_)
      · have hle : ¬ (255 : Int32) < x := hle
        refine Go.aloadN d2_26 rfl (G := ?_)
        refine Go.iloadN d2_27 rfl (G := ?_)
        refine Go.iload d2_28 rfl (G := ?_)
        refine Go.i2b d2_30 (z := (x.toInt8.toInt32)) rfl (G := ?_)
        refine Go.bastore d2_31 0 rfl (x' := (x.toInt8.toInt32)) (nar_b x) (by rw [nI_nat hi31, part_len (by omega) hn]; exact hin) (D' := [(dst, .inr (.byte, part cs n (i + 1)))]) (by rw [nI_nat hi31]; show _ = [(dst, Sum.inr (FieldType.byte, (part cs n i).set i (byV x)))]; rw [part_set hx hn]) (nI_nn hi31) (G := ?_)
        refine Go.iinc d2_32 rfl (v := 1) rfl (z := (Int32.ofNat (i + 1))) (nI_succ i) (Ls' := #[.val (.ref src), .val (.int (Int32.ofNat (i + 1))), .val (.ref dst), .val (.int (Int32.ofNat i)), .val (.int (Int32.ofNat n)), .val (.int (Int32.ofNat i)), .val (.int x)]) rfl (G := ?_)
        refine Go.iinc d2_35 rfl (v := 1) rfl (z := (Int32.ofNat (i + 1))) (nI_succ i) (Ls' := #[.val (.ref src), .val (.int (Int32.ofNat (i + 1))), .val (.ref dst), .val (.int (Int32.ofNat (i + 1))), .val (.int (Int32.ofNat n)), .val (.int (Int32.ofNat i)), .val (.int x)]) rfl (G := ?_)
        refine Go.iinc d2_38 rfl (v := 1) rfl (z := (Int32.ofNat (i + 1))) (nI_succ i) (Ls' := #[.val (.ref src), .val (.int (Int32.ofNat (i + 1))), .val (.ref dst), .val (.int (Int32.ofNat (i + 1))), .val (.int (Int32.ofNat n)), .val (.int (Int32.ofNat (i + 1))), .val (.int x)]) rfl (G := ?_)
        refine Go.goto d2_41 (pc2 := 3) (G := ?_)
        exact ih (i + 1) _ (by omega) (Or.inr ⟨x, rfl⟩) (fun j z hj hz => by
          rcases Nat.lt_or_ge j i with q | q
          · exact hall j z q hz
          · obtain rfl : j = i := by omega
            cases hx.symm.trans hz; exact hle)
      · have hgt : (255 : Int32) < x := Classical.not_not.mp hgt
        refine Go.iload d2_23 rfl (G := ?_)
        have e : latN cs = i := latN_at hall (fun z hz => by cases hx.symm.trans hz; exact hgt) (by omega)
        refine Go.sub [0] (by decide) rfl (D' := [(dst, .inr (.byte, part cs n i))]) rfl (S' := []) eN (G := ?_)
        exact Go.retI d2_25 ⟨by rw [e], by rw [e], rfl⟩
  exact main n 0 .unset (by omega) (Or.inl rfl) (fun j x hj => absurd hj (by omega))
theorem d3_0 : Dx jdk_52_method_16_code 0 (.iload_n 2) 1 1 := ⟨by decide +kernel, rfl⟩
theorem d3_1 : Dx jdk_52_method_16_code 1 (.newarray .byte) 2 3 := ⟨by decide +kernel, rfl⟩
theorem d3_3 : Dx jdk_52_method_16_code 3 (.astore_n 3) 1 4 := ⟨by decide +kernel, rfl⟩
theorem d3_4 : Dx jdk_52_method_16_code 4 (.aload_n 0) 1 5 := ⟨by decide +kernel, rfl⟩
theorem d3_5 : Dx jdk_52_method_16_code 5 (.iload_n 1) 1 6 := ⟨by decide +kernel, rfl⟩
theorem d3_6 : Dx jdk_52_method_16_code 6 (.aload_n 3) 1 7 := ⟨by decide +kernel, rfl⟩
theorem d3_7 : Dx jdk_52_method_16_code 7 (.iconst 0) 1 8 := ⟨by decide +kernel, rfl⟩
theorem d3_8 : Dx jdk_52_method_16_code 8 (.iload_n 2) 1 9 := ⟨by decide +kernel, rfl⟩
theorem d3_9 : Dx jdk_52_method_16_code 9 (.invokestatic 115) 3 12 := ⟨by decide +kernel, rfl⟩
theorem d3_12 : Dx jdk_52_method_16_code 12 (.istore 4) 2 14 := ⟨by decide +kernel, rfl⟩
theorem d3_14 : Dx jdk_52_method_16_code 14 (.iload 4) 2 16 := ⟨by decide +kernel, rfl⟩
theorem d3_16 : Dx jdk_52_method_16_code 16 (.iload_n 2) 1 17 := ⟨by decide +kernel, rfl⟩
theorem d3_17 : Dx jdk_52_method_16_code 17 (.if_icmp .eq 40) 3 20 := ⟨by decide +kernel, rfl⟩
theorem d3_20 : Dx jdk_52_method_16_code 20 (.aload_n 0) 1 21 := ⟨by decide +kernel, rfl⟩
theorem d3_21 : Dx jdk_52_method_16_code 21 (.iload_n 1) 1 22 := ⟨by decide +kernel, rfl⟩
theorem d3_22 : Dx jdk_52_method_16_code 22 (.iload_n 2) 1 23 := ⟨by decide +kernel, rfl⟩
theorem d3_23 : Dx jdk_52_method_16_code 23 (.invokestatic 119) 3 26 := ⟨by decide +kernel, rfl⟩
theorem d3_26 : Dx jdk_52_method_16_code 26 (.astore 5) 2 28 := ⟨by decide +kernel, rfl⟩
theorem d3_28 : Dx jdk_52_method_16_code 28 (.aload 5) 2 30 := ⟨by decide +kernel, rfl⟩
theorem d3_30 : Dx jdk_52_method_16_code 30 (.iload 4) 2 32 := ⟨by decide +kernel, rfl⟩
theorem d3_32 : Dx jdk_52_method_16_code 32 (.invokestatic 71) 3 35 := ⟨by decide +kernel, rfl⟩
theorem d3_35 : Dx jdk_52_method_16_code 35 (.sipush 255) 3 38 := ⟨by decide +kernel, rfl⟩
theorem d3_38 : Dx jdk_52_method_16_code 38 (.if_icmp .gt 16) 3 41 := ⟨by decide +kernel, rfl⟩
theorem d3_41 : Dx jdk_52_method_16_code 41 (.aload 5) 2 43 := ⟨by decide +kernel, rfl⟩
theorem d3_43 : Dx jdk_52_method_16_code 43 (.iconst 0) 1 44 := ⟨by decide +kernel, rfl⟩
theorem d3_44 : Dx jdk_52_method_16_code 44 (.aload_n 3) 1 45 := ⟨by decide +kernel, rfl⟩
theorem d3_45 : Dx jdk_52_method_16_code 45 (.iconst 0) 1 46 := ⟨by decide +kernel, rfl⟩
theorem d3_46 : Dx jdk_52_method_16_code 46 (.iload_n 2) 1 47 := ⟨by decide +kernel, rfl⟩
theorem d3_47 : Dx jdk_52_method_16_code 47 (.invokestatic 123) 3 50 := ⟨by decide +kernel, rfl⟩
theorem d3_50 : Dx jdk_52_method_16_code 50 (.iload_n 2) 1 51 := ⟨by decide +kernel, rfl⟩
theorem d3_51 : Dx jdk_52_method_16_code 51 (.if_icmp .eq 6) 3 54 := ⟨by decide +kernel, rfl⟩
theorem d3_54 : Dx jdk_52_method_16_code 54 (.aload 5) 2 56 := ⟨by decide +kernel, rfl⟩
theorem d3_56 : Dx jdk_52_method_16_code 56 (.areturn) 1 57 := ⟨by decide +kernel, rfl⟩
theorem d3_57 : Dx jdk_52_method_16_code 57 (.aload_n 3) 1 58 := ⟨by decide +kernel, rfl⟩
theorem d3_58 : Dx jdk_52_method_16_code 58 (.areturn) 1 59 := ⟨by decide +kernel, rfl⟩
theorem pdg_0 : parseMethodDescriptor "([CI[BII)I" = some ⟨[.array .char, .int, .array .byte, .int, .int], some .int⟩ := by decide +kernel
set_option maxRecDepth 65536 in
set_option maxHeartbeats 40000000 in
theorem c_compress {l : Launch} {Z : State} {a0 : Array Value} {EL : List (String × Nat)} {b : Bool} {n0 : Nat} (hw : ∀ d ∈ tables_1, d.before a0 Z = true) (src : Addr) (cs : List Int32) (n : Nat) (hn : cs.length = n) (hb : n ≤ 4000) (hlat : ∀ c ∈ cs, ¬ (255 : Int32) < c) :
    Met l Z a0 EL b n0 (⟨"java/lang/StringUTF16", "compress", "([CII)[B"⟩ : MethodName) jdk_52_method_16_code 6 (some (.array .byte)) [] (rm4 1 1 n 18) [.ref src, .int 0, .int (Int32.ofNat n)] [] [(src, .inr (.char, cs.map Value.int))] (fun v D' S' => ∃ t, v = some (.ref t) ∧ D' = [(t, .inr (.byte, cs.map byV))] ∧ S' = []) := by
  refine Met.of_go (own := "java/lang/StringUTF16") (nm := "compress") (Ls := #[.val (.ref src), .val (.int 0), .val (.int (Int32.ofNat n)), .unset, .unset, .unset]) (plainFor_of_name png_0) (fun m => by first | rfl | (simp [entryFrame, mkF, argsToLocals, Value.category]; done)) ?_
  refine Go.iloadN d3_0 rfl (G := ?_)
  refine Go.newarray d3_1 (hw _ (List.mem_of_getElem? (i := 19) rfl)) (k := n) (nI_nat (by omega)) (nI_nn (by omega)) (by omega) (vs := List.replicate n (.int 0)) rfl (hl := by show 0 + n ≤ n; omega) (G := fun t => ?_)
  refine Go.astoreN d3_3 (Ls' := #[.val (.ref src), .val (.int 0), .val (.int (Int32.ofNat n)), .val (.ref t), .unset, .unset]) rfl (G := ?_)
  refine Go.aloadN d3_4 rfl (G := ?_)
  refine Go.iloadN d3_5 rfl (G := ?_)
  refine Go.aloadN d3_6 rfl (G := ?_)
  refine Go.iconst d3_7 (v := 0) rfl (G := ?_)
  refine Go.iloadN d3_8 rfl (G := ?_)
  refine Go.invokestatic false d3_9 (hw _ (List.mem_of_getElem? (i := 20) rfl)) (hw _ (List.mem_of_getElem? (i := 21) rfl)) (hw _ (List.mem_of_getElem? (i := 17) rfl)) (hw _ (List.mem_of_getElem? (i := 22) rfl)) (c_comprLoop hw src t cs n hn hb) pdg_0 rfl (argsL := [.ref src, .int 0, .ref t, .int 0, .int (Int32.ofNat n)]) (rest := []) rfl rfl (Dr := []) rfl (eS (Or.inl (List.mem_of_getElem? (i := 0) rfl)) eN) (hsl := by show 0 + n + 0 ≤ n; omega) (G := ?_)
  rintro _ _ _ ⟨rfl, rfl, rfl⟩
  refine Go.norm (D2 := [(t, .inr (.byte, part cs n (latN cs)))]) (S2 := [(src, .inr (.char, cs.map Value.int))]) (c2 := 1) (s2 := 0 + n + 0) (st2 := [.int (Int32.ofNat (latN cs))]) ?_
  refine Go.istore d3_12 (Ls' := #[.val (.ref src), .val (.int 0), .val (.int (Int32.ofNat n)), .val (.ref t), .val (.int (Int32.ofNat (latN cs))), .unset]) rfl (G := ?_)
  refine Go.iload d3_14 rfl (G := ?_)
  refine Go.iloadN d3_16 rfl (G := ?_)
  have e : latN cs = n := by rw [latN_all hlat, hn]
  refine Go.icmp d3_17 (pc2 := 57) (Gy := fun _ => ?_) (Gn := fun h => absurd (show Int32.ofNat (latN cs) = Int32.ofNat n by rw [e]) h)
  refine Go.aloadN d3_57 rfl (G := ?_)
  have e2 : part cs n (latN cs) = cs.map byV := by rw [e, part, Nat.sub_self, ← hn, List.take_length]; simp
  refine Go.sub [0] (by decide) rfl (D' := [(t, .inr (.byte, part cs n (latN cs)))]) rfl (S' := []) eN (G := ?_)
  exact Go.retA d3_58 ⟨t, rfl, by rw [e2], rfl⟩ (hl := by show 0 + n + 0 ≤ n; omega)
theorem png_1 : plainName "java/lang/String" = true := by first | (simp [plainName, overriddenIn]; done) | decide +kernel
theorem d4_0 : Dx jdk_42_method_149_code 0 (.aload_n 0) 1 1 := ⟨by decide +kernel, rfl⟩
theorem d4_1 : Dx jdk_42_method_149_code 1 (.invokespecial 1) 3 4 := ⟨by decide +kernel, rfl⟩
theorem d4_4 : Dx jdk_42_method_149_code 4 (.iload_n 3) 1 5 := ⟨by decide +kernel, rfl⟩
theorem d4_5 : Dx jdk_42_method_149_code 5 (.ifCond .ne 22) 3 8 := ⟨by decide +kernel, rfl⟩
theorem d4_8 : Dx jdk_42_method_149_code 8 (.aload_n 0) 1 9 := ⟨by decide +kernel, rfl⟩
theorem d4_9 : Dx jdk_42_method_149_code 9 (.ldc 7) 2 11 := ⟨by decide +kernel, rfl⟩
theorem d4_11 : Dx jdk_42_method_149_code 11 (.getfield 9) 3 14 := ⟨by decide +kernel, rfl⟩
theorem d4_14 : Dx jdk_42_method_149_code 14 (.putfield 9) 3 17 := ⟨by decide +kernel, rfl⟩
theorem d4_17 : Dx jdk_42_method_149_code 17 (.aload_n 0) 1 18 := ⟨by decide +kernel, rfl⟩
theorem d4_18 : Dx jdk_42_method_149_code 18 (.ldc 7) 2 20 := ⟨by decide +kernel, rfl⟩
theorem d4_20 : Dx jdk_42_method_149_code 20 (.getfield 15) 3 23 := ⟨by decide +kernel, rfl⟩
theorem d4_23 : Dx jdk_42_method_149_code 23 (.putfield 15) 3 26 := ⟨by decide +kernel, rfl⟩
theorem d4_26 : Dx jdk_42_method_149_code 26 (.return_) 1 27 := ⟨by decide +kernel, rfl⟩
theorem d4_27 : Dx jdk_42_method_149_code 27 (.getstatic 38) 3 30 := ⟨by decide +kernel, rfl⟩
theorem d4_30 : Dx jdk_42_method_149_code 30 (.ifCond .eq 28) 3 33 := ⟨by decide +kernel, rfl⟩
theorem d4_33 : Dx jdk_42_method_149_code 33 (.aload_n 1) 1 34 := ⟨by decide +kernel, rfl⟩
theorem d4_34 : Dx jdk_42_method_149_code 34 (.iload_n 2) 1 35 := ⟨by decide +kernel, rfl⟩
theorem d4_35 : Dx jdk_42_method_149_code 35 (.iload_n 3) 1 36 := ⟨by decide +kernel, rfl⟩
theorem d4_36 : Dx jdk_42_method_149_code 36 (.invokestatic 177) 3 39 := ⟨by decide +kernel, rfl⟩
theorem d4_39 : Dx jdk_42_method_149_code 39 (.astore 5) 2 41 := ⟨by decide +kernel, rfl⟩
theorem d4_41 : Dx jdk_42_method_149_code 41 (.aload_n 0) 1 42 := ⟨by decide +kernel, rfl⟩
theorem d4_42 : Dx jdk_42_method_149_code 42 (.aload 5) 2 44 := ⟨by decide +kernel, rfl⟩
theorem d4_44 : Dx jdk_42_method_149_code 44 (.iload_n 3) 1 45 := ⟨by decide +kernel, rfl⟩
theorem d4_45 : Dx jdk_42_method_149_code 45 (.invokestatic 47) 3 48 := ⟨by decide +kernel, rfl⟩
theorem d4_48 : Dx jdk_42_method_149_code 48 (.putfield 15) 3 51 := ⟨by decide +kernel, rfl⟩
theorem d4_51 : Dx jdk_42_method_149_code 51 (.aload_n 0) 1 52 := ⟨by decide +kernel, rfl⟩
theorem d4_52 : Dx jdk_42_method_149_code 52 (.aload 5) 2 54 := ⟨by decide +kernel, rfl⟩
theorem d4_54 : Dx jdk_42_method_149_code 54 (.putfield 9) 3 57 := ⟨by decide +kernel, rfl⟩
theorem d4_57 : Dx jdk_42_method_149_code 57 (.return_) 1 58 := ⟨by decide +kernel, rfl⟩
theorem d4_58 : Dx jdk_42_method_149_code 58 (.aload_n 0) 1 59 := ⟨by decide +kernel, rfl⟩
theorem d4_59 : Dx jdk_42_method_149_code 59 (.iconst 1) 1 60 := ⟨by decide +kernel, rfl⟩
theorem d4_60 : Dx jdk_42_method_149_code 60 (.putfield 15) 3 63 := ⟨by decide +kernel, rfl⟩
theorem d4_63 : Dx jdk_42_method_149_code 63 (.aload_n 0) 1 64 := ⟨by decide +kernel, rfl⟩
theorem d4_64 : Dx jdk_42_method_149_code 64 (.aload_n 1) 1 65 := ⟨by decide +kernel, rfl⟩
theorem d4_65 : Dx jdk_42_method_149_code 65 (.iload_n 2) 1 66 := ⟨by decide +kernel, rfl⟩
theorem d4_66 : Dx jdk_42_method_149_code 66 (.iload_n 3) 1 67 := ⟨by decide +kernel, rfl⟩
theorem d4_67 : Dx jdk_42_method_149_code 67 (.invokestatic 180) 3 70 := ⟨by decide +kernel, rfl⟩
theorem d4_70 : Dx jdk_42_method_149_code 70 (.putfield 9) 3 73 := ⟨by decide +kernel, rfl⟩
theorem d4_73 : Dx jdk_42_method_149_code 73 (.return_) 1 74 := ⟨by decide +kernel, rfl⟩
theorem pdg_1 : parseMethodDescriptor "([CII)[B" = some ⟨[.array .char, .int, .int], some (.array .byte)⟩ := by decide +kernel
theorem pdg_2 : parseMethodDescriptor "([BI)B" = some ⟨[.array .byte, .int], some .byte⟩ := by decide +kernel
set_option maxRecDepth 65536 in
set_option maxHeartbeats 40000000 in
theorem c_initV {l : Launch} {Z : State} {a0 : Array Value} {EL : List (String × Nat)} {b : Bool} {n0 : Nat} (hw : ∀ d ∈ tables_1, d.before a0 Z = true) (x src : Addr) (cs : List Int32) (n : Nat) (more : List (String × String × String × Value)) (cpt : Int32) (hCS : Sta Z Z.heap "java/lang/String" "COMPACT_STRINGS" "Z" (.int cpt)) (hcpt : ¬ cpt = 0) (hn : cs.length = n) (hb : n ≤ 4000) (hpos : 0 < n) (hlat : ∀ c ∈ cs, ¬ (255 : Int32) < c) :
    Met l Z a0 EL b n0 (⟨"java/lang/String", "<init>", "([CIILjava/lang/Void;)V"⟩ : MethodName) jdk_42_method_149_code 6 none [] (rm4 2 1 n 35) [.ref x, .ref src, .int 0, .int (Int32.ofNat n), .null] [(x, .inl ("java/lang/String", ("java/lang/String", "value", "[B", .null) :: ("java/lang/String", "coder", "B", .int 0) :: more))] [(src, .inr (.char, cs.map Value.int))] (fun v D' S' => ∃ t, v = none ∧ D' = [(x, .inl ("java/lang/String", ("java/lang/String", "value", "[B", .ref t) :: ("java/lang/String", "coder", "B", .int 0) :: more)), (t, .inr (.byte, cs.map byV))] ∧ S' = []) := by
  refine Met.of_go (own := "java/lang/String") (nm := "<init>") (Ls := #[.val (.ref x), .val (.ref src), .val (.int 0), .val (.int (Int32.ofNat n)), .val .null, .unset]) (plainFor_of_name png_1) (fun m => by first | rfl | (simp [entryFrame, mkF, argsToLocals, Value.category]; done)) ?_
  refine Go.aloadN d4_0 rfl (G := ?_)
  refine Go.objInit d4_1 (hw _ (List.mem_of_getElem? (i := 11) rfl)) (hw _ (List.mem_of_getElem? (i := 12) rfl)) (hw _ (List.mem_of_getElem? (i := 13) rfl)) rfl (Nat.le_of_ble_eq_true rfl) (Nat.le_of_ble_eq_true rfl) (G := ?_)
  refine Go.iloadN d4_4 rfl (G := ?_)
  refine Go.ifc d4_5 (pc2 := 27) (Gy := fun _ => ?_) (Gn := fun h => absurd (fun (e : Int32.ofNat n = 0) => by have := (nI_eq (n := 0) (by omega) (by omega)).mp e; omega) h)
  refine Go.getstatic d4_27 (host := "") (Or.inl (hw _ (List.mem_of_getElem? (i := 14) rfl))) Via.refl hCS (G := ?_)
  refine Go.ifc d4_30 (pc2 := 58) (Gy := fun h => absurd h hcpt) (Gn := fun _ => ?_)
  refine Go.aloadN d4_33 rfl (G := ?_)
  refine Go.iloadN d4_34 rfl (G := ?_)
  refine Go.iloadN d4_35 rfl (G := ?_)
  refine Go.invokestatic false d4_36 (hw _ (List.mem_of_getElem? (i := 15) rfl)) (hw _ (List.mem_of_getElem? (i := 16) rfl)) (hw _ (List.mem_of_getElem? (i := 17) rfl)) (hw _ (List.mem_of_getElem? (i := 18) rfl)) (c_compress hw src cs n hn hb hlat) pdg_1 rfl (argsL := [.ref src, .int 0, .int (Int32.ofNat n)]) (rest := []) rfl rfl (Dr := [(x, .inl ("java/lang/String", ("java/lang/String", "value", "[B", .null) :: ("java/lang/String", "coder", "B", .int 0) :: more))]) rfl (eS (Or.inl (List.mem_of_getElem? (i := 0) rfl)) eN) (hsl := by show 0 + n ≤ n; omega) (G := ?_)
  rintro _ _ _ ⟨t, rfl, rfl, rfl⟩
  refine Go.norm (D2 := [(t, .inr (.byte, cs.map byV)), (x, .inl ("java/lang/String", ("java/lang/String", "value", "[B", .null) :: ("java/lang/String", "coder", "B", .int 0) :: more))]) (S2 := [(src, .inr (.char, cs.map Value.int))]) (c2 := 1) (s2 := 0 + n) (st2 := [.ref t]) ?_
  refine Go.astore d4_39 (Ls' := #[.val (.ref x), .val (.ref src), .val (.int 0), .val (.int (Int32.ofNat n)), .val .null, .val (.ref t)]) rfl (G := ?_)
  refine Go.aloadN d4_41 rfl (G := ?_)
  refine Go.aload d4_42 rfl (G := ?_)
  refine Go.iloadN d4_44 rfl (G := ?_)
  refine Go.invokestatic true d4_45 (hw _ (List.mem_of_getElem? (i := 23) rfl)) (hw _ (List.mem_of_getElem? (i := 24) rfl)) (hw _ (List.mem_of_getElem? (i := 17) rfl)) (hw _ (List.mem_of_getElem? (i := 25) rfl)) (c_coderFrom hw t (cs.map byV) (Int32.ofNat n) 0 (by rw [List.length_map, hn, Int32.sub_self]; decide) rfl) pdg_2 rfl (argsL := [.ref t, .int (Int32.ofNat n)]) (rest := [.ref x]) rfl rfl (Dr := [(t, .inr (.byte, cs.map byV)), (x, .inl ("java/lang/String", ("java/lang/String", "value", "[B", .null) :: ("java/lang/String", "coder", "B", .int 0) :: more))]) rfl (eS (Or.inr ⟨rfl, List.mem_of_getElem? (i := 0) rfl⟩) eN) (hsl := by show 0 + n + 0 ≤ n; omega) (G := ?_)
  rintro _ _ _ ⟨rfl, rfl, rfl⟩
  refine Go.norm (D2 := [(t, .inr (.byte, cs.map byV)), (x, .inl ("java/lang/String", ("java/lang/String", "value", "[B", .null) :: ("java/lang/String", "coder", "B", .int 0) :: more))]) (S2 := [(src, .inr (.char, cs.map Value.int))]) (c2 := 1) (s2 := 0 + n + 0) (st2 := [.int 0, .ref x]) ?_
  refine Go.putfield d4_48 (hw _ (List.mem_of_getElem? (i := 26) rfl)) Via.refl 1 rfl 1 rfl (Or.inr ⟨(hw _ (List.mem_of_getElem? (i := 27) rfl)), rfl, rfl⟩) (hw _ (List.mem_of_getElem? (i := 2) rfl)) (ty := .byte) (by decide +kernel) (v' := .int 0) rfl rfl (D' := [(t, .inr (.byte, cs.map byV)), (x, .inl ("java/lang/String", ("java/lang/String", "value", "[B", .null) :: ("java/lang/String", "coder", "B", .int 0) :: more))]) rfl (G := ?_)
  refine Go.aloadN d4_51 rfl (G := ?_)
  refine Go.aload d4_52 rfl (G := ?_)
  refine Go.putfield d4_54 (hw _ (List.mem_of_getElem? (i := 28) rfl)) Via.refl 1 rfl 0 rfl (Or.inr ⟨(hw _ (List.mem_of_getElem? (i := 29) rfl)), rfl, rfl⟩) (hw _ (List.mem_of_getElem? (i := 2) rfl)) (ty := .array .byte) (by decide +kernel) (v' := .ref t) rfl rfl (D' := [(t, .inr (.byte, cs.map byV)), (x, .inl ("java/lang/String", ("java/lang/String", "value", "[B", .ref t) :: ("java/lang/String", "coder", "B", .int 0) :: more))]) rfl (G := ?_)
  refine Go.sub [1, 0] (by decide) rfl (D' := [(x, .inl ("java/lang/String", ("java/lang/String", "value", "[B", .ref t) :: ("java/lang/String", "coder", "B", .int 0) :: more)), (t, .inr (.byte, cs.map byV))]) rfl (S' := []) eN (G := ?_)
  exact Go.retV d4_57 ⟨t, rfl, rfl, rfl⟩ (hl := by show 0 + n + 0 ≤ n; omega)
theorem d5_0 : Dx jdk_42_method_3_code 0 (.aload_n 0) 1 1 := ⟨by decide +kernel, rfl⟩
theorem d5_1 : Dx jdk_42_method_3_code 1 (.aload_n 1) 1 2 := ⟨by decide +kernel, rfl⟩
theorem d5_2 : Dx jdk_42_method_3_code 2 (.iconst 0) 1 3 := ⟨by decide +kernel, rfl⟩
theorem d5_3 : Dx jdk_42_method_3_code 3 (.aload_n 1) 1 4 := ⟨by decide +kernel, rfl⟩
theorem d5_4 : Dx jdk_42_method_3_code 4 (.arraylength) 1 5 := ⟨by decide +kernel, rfl⟩
theorem d5_5 : Dx jdk_42_method_3_code 5 (.aconst_null) 1 6 := ⟨by decide +kernel, rfl⟩
theorem d5_6 : Dx jdk_42_method_3_code 6 (.invokespecial 27) 3 9 := ⟨by decide +kernel, rfl⟩
theorem d5_9 : Dx jdk_42_method_3_code 9 (.return_) 1 10 := ⟨by decide +kernel, rfl⟩
theorem pdg_3 : parseMethodDescriptor "([CIILjava/lang/Void;)V" = some ⟨[.array .char, .int, .int, .object "java/lang/Void"], none⟩ := by decide +kernel
set_option maxRecDepth 65536 in
set_option maxHeartbeats 40000000 in
theorem c_init {l : Launch} {Z : State} {a0 : Array Value} {EL : List (String × Nat)} {b : Bool} {n0 : Nat} (hw : ∀ d ∈ tables_1, d.before a0 Z = true) (x src : Addr) (cs : List Int32) (n : Nat) (more : List (String × String × String × Value)) (cpt : Int32) (hCS : Sta Z Z.heap "java/lang/String" "COMPACT_STRINGS" "Z" (.int cpt)) (hcpt : ¬ cpt = 0) (hn : cs.length = n) (hb : n ≤ 4000) (hpos : 0 < n) (hlat : ∀ c ∈ cs, ¬ (255 : Int32) < c) :
    Met l Z a0 EL b n0 (⟨"java/lang/String", "<init>", "([C)V"⟩ : MethodName) jdk_42_method_3_code 2 none [] (rm4 3 1 n 52) [.ref x, .ref src] [(x, .inl ("java/lang/String", ("java/lang/String", "value", "[B", .null) :: ("java/lang/String", "coder", "B", .int 0) :: more))] [(src, .inr (.char, cs.map Value.int))] (fun v D' S' => ∃ t, v = none ∧ D' = [(x, .inl ("java/lang/String", ("java/lang/String", "value", "[B", .ref t) :: ("java/lang/String", "coder", "B", .int 0) :: more)), (t, .inr (.byte, cs.map byV))] ∧ S' = []) := by
  refine Met.of_go (own := "java/lang/String") (nm := "<init>") (Ls := #[.val (.ref x), .val (.ref src)]) (plainFor_of_name png_1) (fun m => by first | rfl | (simp [entryFrame, mkF, argsToLocals, Value.category]; done)) ?_
  refine Go.aloadN d5_0 rfl (G := ?_)
  refine Go.aloadN d5_1 rfl (G := ?_)
  refine Go.iconst d5_2 (v := 0) rfl (G := ?_)
  refine Go.aloadN d5_3 rfl (G := ?_)
  refine Go.arraylength d5_4 (inS (i := 0) rfl) (n := (Int32.ofNat n)) (by rw [List.length_map, hn]) (G := ?_)
  refine Go.aconstNull d5_5 (G := ?_)
  refine Go.invokeinit false d5_6 rfl (hw _ (List.mem_of_getElem? (i := 7) rfl)) (hw _ (List.mem_of_getElem? (i := 8) rfl)) (hw _ (List.mem_of_getElem? (i := 3) rfl)) (hw _ (List.mem_of_getElem? (i := 10) rfl)) (c_initV hw x src cs n more cpt hCS hcpt hn hb hpos hlat) pdg_3 rfl (argsL := [.ref src, .int 0, .int (Int32.ofNat n), .null]) (rest := []) rfl rfl (Dr := []) rfl (eS (Or.inl (List.mem_of_getElem? (i := 0) rfl)) eN) (hsl := by show 0 + n ≤ n; omega) (G := ?_)
  rintro _ _ _ ⟨t, rfl, rfl, rfl⟩
  refine Go.norm (D2 := [(x, .inl ("java/lang/String", ("java/lang/String", "value", "[B", .ref t) :: ("java/lang/String", "coder", "B", .int 0) :: more)), (t, .inr (.byte, cs.map byV))]) (S2 := [(src, .inr (.char, cs.map Value.int))]) (c2 := 1) (s2 := 0 + n) (st2 := []) ?_
  refine Go.sub [0, 1] (by decide) rfl (D' := [(x, .inl ("java/lang/String", ("java/lang/String", "value", "[B", .ref t) :: ("java/lang/String", "coder", "B", .int 0) :: more)), (t, .inr (.byte, cs.map byV))]) rfl (S' := []) eN (G := ?_)
  exact Go.retV d5_9 ⟨t, rfl, rfl, rfl⟩ (hl := by show 0 + n ≤ n; omega)
set_option maxRecDepth 65536 in
set_option maxHeartbeats 40000000 in
theorem c_initV0 {l : Launch} {Z : State} {a0 : Array Value} {EL : List (String × Nat)} {b : Bool} {n0 : Nat} (hw : ∀ d ∈ tables_1, d.before a0 Z = true) (x src : Addr) (more : List (String × String × String × Value)) (hb1 : b = true) (hE_String_7 : ("java/lang/String", 7) ∈ EL) :
    Met l Z a0 EL b n0 (⟨"java/lang/String", "<init>", "([CIILjava/lang/Void;)V"⟩ : MethodName) jdk_42_method_149_code 6 none [] (rm4 1 4 8 13) [.ref x, .ref src, .int 0, .int 0, .null] [(x, .inl ("java/lang/String", ("java/lang/String", "value", "[B", .null) :: ("java/lang/String", "coder", "B", .int 0) :: more)), (src, .inr (.char, []))] [] (fun v D' S' => ∃ kc, v = none ∧ D' = [(x, .inl ("java/lang/String", ("java/lang/String", "value", "[B", .ref kc) :: ("java/lang/String", "coder", "B", .int 0) :: more)), (src, .inr (.char, []))] ∧ S' = [(kc, .inr (.byte, []))]) := by
  refine Met.of_go (own := "java/lang/String") (nm := "<init>") (Ls := #[.val (.ref x), .val (.ref src), .val (.int 0), .val (.int 0), .val .null, .unset]) (plainFor_of_name png_1) (fun m => by first | rfl | (simp [entryFrame, mkF, argsToLocals, Value.category]; done)) ?_
  refine Go.aloadN d4_0 rfl (G := ?_)
  refine Go.objInit d4_1 (hw _ (List.mem_of_getElem? (i := 11) rfl)) (hw _ (List.mem_of_getElem? (i := 12) rfl)) (hw _ (List.mem_of_getElem? (i := 13) rfl)) rfl (Nat.le_of_ble_eq_true rfl) (Nat.le_of_ble_eq_true rfl) (G := ?_)
  refine Go.iloadN d4_4 rfl (G := ?_)
  refine Go.ifc d4_5 (pc2 := 27) (Gy := fun h => absurd h (show ¬ (¬ (0 : Int32) = 0) by decide)) (Gn := fun _ => ?_)
  refine Go.aloadN d4_8 rfl (G := ?_)
  refine Go.ldcStr d4_9 (hw _ (List.mem_of_getElem? (i := 68) rfl)) (strW hw) hE_String_7 hb1 (layS hw) (text := "") (vs := []) ⟨by decide, rfl⟩ (n := 0) (by decide) (by decide) (G := fun k1 k2 => ?_)
  refine Go.getfield d4_11 (host := "") (Or.inl (hw _ (List.mem_of_getElem? (i := 28) rfl))) Via.refl (inS (i := 0) rfl) 0 rfl (G := ?_)
  refine Go.putfield d4_14 (hw _ (List.mem_of_getElem? (i := 28) rfl)) Via.refl 0 rfl 0 rfl (Or.inr ⟨(hw _ (List.mem_of_getElem? (i := 29) rfl)), rfl, rfl⟩) (hw _ (List.mem_of_getElem? (i := 2) rfl)) (ty := .array .byte) (by decide +kernel) (v' := .ref k2) rfl rfl (D' := [(x, .inl ("java/lang/String", ("java/lang/String", "value", "[B", .ref k2) :: ("java/lang/String", "coder", "B", .int 0) :: more)), (src, .inr (.char, []))]) rfl (G := ?_)
  refine Go.aloadN d4_17 rfl (G := ?_)
  refine Go.ldcStr d4_18 (hw _ (List.mem_of_getElem? (i := 68) rfl)) (strW hw) hE_String_7 hb1 (layS hw) (text := "") (vs := []) ⟨by decide, rfl⟩ (n := 0) (by decide) (by decide) (G := fun k3 k4 => ?_)
  refine Go.getfield d4_20 (host := "") (Or.inl (hw _ (List.mem_of_getElem? (i := 26) rfl))) Via.refl (inS (i := 0) rfl) 1 rfl (G := ?_)
  refine Go.putfield d4_23 (hw _ (List.mem_of_getElem? (i := 26) rfl)) Via.refl 0 rfl 1 rfl (Or.inr ⟨(hw _ (List.mem_of_getElem? (i := 27) rfl)), rfl, rfl⟩) (hw _ (List.mem_of_getElem? (i := 2) rfl)) (ty := .byte) (by decide +kernel) (v' := .int 0) rfl rfl (D' := [(x, .inl ("java/lang/String", ("java/lang/String", "value", "[B", .ref k2) :: ("java/lang/String", "coder", "B", .int 0) :: more)), (src, .inr (.char, []))]) rfl (G := ?_)
  refine Go.sub [0, 1] (by decide) rfl (D' := [(x, .inl ("java/lang/String", ("java/lang/String", "value", "[B", .ref k2) :: ("java/lang/String", "coder", "B", .int 0) :: more)), (src, .inr (.char, []))]) rfl (S' := [(k2, .inr (.byte, []))]) (eS (Or.inl (List.mem_of_getElem? (i := 3) rfl)) eN) (G := ?_)
  exact Go.retV d4_26 ⟨k2, rfl, rfl, rfl⟩
set_option maxRecDepth 65536 in
set_option maxHeartbeats 40000000 in
theorem c_init0 {l : Launch} {Z : State} {a0 : Array Value} {EL : List (String × Nat)} {b : Bool} {n0 : Nat} (hw : ∀ d ∈ tables_1, d.before a0 Z = true) (x src : Addr) (more : List (String × String × String × Value)) (hb1 : b = true) (hE_String_7 : ("java/lang/String", 7) ∈ EL) :
    Met l Z a0 EL b n0 (⟨"java/lang/String", "<init>", "([C)V"⟩ : MethodName) jdk_42_method_3_code 2 none [] (rm4 2 4 8 30) [.ref x, .ref src] [(x, .inl ("java/lang/String", ("java/lang/String", "value", "[B", .null) :: ("java/lang/String", "coder", "B", .int 0) :: more)), (src, .inr (.char, []))] [] (fun v D' S' => ∃ kc, v = none ∧ D' = [(x, .inl ("java/lang/String", ("java/lang/String", "value", "[B", .ref kc) :: ("java/lang/String", "coder", "B", .int 0) :: more)), (src, .inr (.char, []))] ∧ S' = [(kc, .inr (.byte, []))]) := by
  refine Met.of_go (own := "java/lang/String") (nm := "<init>") (Ls := #[.val (.ref x), .val (.ref src)]) (plainFor_of_name png_1) (fun m => by first | rfl | (simp [entryFrame, mkF, argsToLocals, Value.category]; done)) ?_
  refine Go.aloadN d5_0 rfl (G := ?_)
  refine Go.aloadN d5_1 rfl (G := ?_)
  refine Go.iconst d5_2 (v := 0) rfl (G := ?_)
  refine Go.aloadN d5_3 rfl (G := ?_)
  refine Go.arraylength d5_4 (inD (i := 1) rfl) (n := 0) rfl (G := ?_)
  refine Go.aconstNull d5_5 (G := ?_)
  refine Go.invokeinit false d5_6 rfl (hw _ (List.mem_of_getElem? (i := 7) rfl)) (hw _ (List.mem_of_getElem? (i := 8) rfl)) (hw _ (List.mem_of_getElem? (i := 3) rfl)) (hw _ (List.mem_of_getElem? (i := 10) rfl)) (c_initV0 hw x src more hb1 hE_String_7) pdg_3 rfl (argsL := [.ref src, .int 0, .int 0, .null]) (rest := []) rfl rfl (Dr := []) rfl eN (G := ?_)
  rintro _ _ _ ⟨kc, rfl, rfl, rfl⟩
  refine Go.norm (D2 := [(x, .inl ("java/lang/String", ("java/lang/String", "value", "[B", .ref kc) :: ("java/lang/String", "coder", "B", .int 0) :: more)), (src, .inr (.char, []))]) (S2 := [(kc, .inr (.byte, []))]) (c2 := 4) (s2 := 8) (st2 := []) ?_
  exact Go.retV d5_9 ⟨kc, rfl, rfl, rfl⟩
theorem png_2 : plainName "java/lang/Record" = true := by first | (simp [plainName, overriddenIn]; done) | decide +kernel
theorem d6_0 : Dx jdk_30_method_1_code 0 (.aload_n 0) 1 1 := ⟨by decide +kernel, rfl⟩
theorem d6_1 : Dx jdk_30_method_1_code 1 (.invokespecial 1) 3 4 := ⟨by decide +kernel, rfl⟩
theorem d6_4 : Dx jdk_30_method_1_code 4 (.return_) 1 5 := ⟨by decide +kernel, rfl⟩
set_option maxRecDepth 65536 in
set_option maxHeartbeats 40000000 in
theorem c_rec {l : Launch} {Z : State} {a0 : Array Value} {EL : List (String × Nat)} {b : Bool} {n0 : Nat} (hw : ∀ d ∈ tables_1, d.before a0 Z = true) (a : Addr) :
    Met l Z a0 EL b n0 (⟨"java/lang/Record", "<init>", "()V"⟩ : MethodName) jdk_30_method_1_code 1 none [] (rm4 1 0 0 12) [.ref a] [] [] (fun v D' S' => v = none ∧ D' = [] ∧ S' = []) := by
  refine Met.of_go (own := "java/lang/Record") (nm := "<init>") (Ls := #[.val (.ref a)]) (plainFor_of_name png_2) (fun m => by first | rfl | (simp [entryFrame, mkF, argsToLocals, Value.category]; done)) ?_
  refine Go.aloadN d6_0 rfl (G := ?_)
  refine Go.objInit d6_1 (hw _ (List.mem_of_getElem? (i := 41) rfl)) (hw _ (List.mem_of_getElem? (i := 12) rfl)) (hw _ (List.mem_of_getElem? (i := 13) rfl)) rfl (Nat.le_of_ble_eq_true rfl) (Nat.le_of_ble_eq_true rfl) (G := ?_)
  exact Go.retV d6_4 ⟨rfl, rfl, rfl⟩
theorem png_3 : plainName "com/example/gyro/gyro/config/ListenAddress" = true := by first | (simp [plainName, overriddenIn]; done) | decide +kernel
theorem d7_0 : Dx prog_21_method_1_code 0 (.aload_n 0) 1 1 := ⟨by decide +kernel, rfl⟩
theorem d7_1 : Dx prog_21_method_1_code 1 (.invokespecial 1) 3 4 := ⟨by decide +kernel, rfl⟩
theorem d7_4 : Dx prog_21_method_1_code 4 (.aload_n 0) 1 5 := ⟨by decide +kernel, rfl⟩
theorem d7_5 : Dx prog_21_method_1_code 5 (.aload_n 1) 1 6 := ⟨by decide +kernel, rfl⟩
theorem d7_6 : Dx prog_21_method_1_code 6 (.putfield 7) 3 9 := ⟨by decide +kernel, rfl⟩
theorem d7_9 : Dx prog_21_method_1_code 9 (.aload_n 0) 1 10 := ⟨by decide +kernel, rfl⟩
theorem d7_10 : Dx prog_21_method_1_code 10 (.iload_n 2) 1 11 := ⟨by decide +kernel, rfl⟩
theorem d7_11 : Dx prog_21_method_1_code 11 (.putfield 13) 3 14 := ⟨by decide +kernel, rfl⟩
theorem d7_14 : Dx prog_21_method_1_code 14 (.return_) 1 15 := ⟨by decide +kernel, rfl⟩
theorem pdg_4 : parseMethodDescriptor "()V" = some ⟨[], none⟩ := by decide +kernel
set_option maxRecDepth 65536 in
set_option maxHeartbeats 40000000 in
theorem c_la {l : Launch} {Z : State} {a0 : Array Value} {EL : List (String × Nat)} {b : Bool} {n0 : Nat} (hw : ∀ d ∈ tables_1, d.before a0 Z = true) (a h : Addr) (p : Int32) :
    Met l Z a0 EL b n0 (⟨"com/example/gyro/gyro/config/ListenAddress", "<init>", "(Ljava/lang/String;I)V"⟩ : MethodName) prog_21_method_1_code 3 none [] (rm4 2 0 0 24) [.ref a, .ref h, .int p] [(a, .inl ("com/example/gyro/gyro/config/ListenAddress", [("com/example/gyro/gyro/config/ListenAddress", "host", "Ljava/lang/String;", .null), ("com/example/gyro/gyro/config/ListenAddress", "port", "I", .int 0)]))] [] (fun v D' S' => v = none ∧ D' = [(a, .inl ("com/example/gyro/gyro/config/ListenAddress", [("com/example/gyro/gyro/config/ListenAddress", "host", "Ljava/lang/String;", .ref h), ("com/example/gyro/gyro/config/ListenAddress", "port", "I", .int p)]))] ∧ S' = []) := by
  refine Met.of_go (own := "com/example/gyro/gyro/config/ListenAddress") (nm := "<init>") (Ls := #[.val (.ref a), .val (.ref h), .val (.int p)]) (plainFor_of_name png_3) (fun m => by first | rfl | (simp [entryFrame, mkF, argsToLocals, Value.category]; done)) ?_
  refine Go.aloadN d7_0 rfl (G := ?_)
  refine Go.invokeinit false d7_1 rfl (hw _ (List.mem_of_getElem? (i := 36) rfl)) (hw _ (List.mem_of_getElem? (i := 37) rfl)) (hw _ (List.mem_of_getElem? (i := 39) rfl)) (hw _ (List.mem_of_getElem? (i := 40) rfl)) (c_rec hw a) pdg_4 rfl (argsL := []) (rest := []) rfl rfl (Dr := [(a, .inl ("com/example/gyro/gyro/config/ListenAddress", [("com/example/gyro/gyro/config/ListenAddress", "host", "Ljava/lang/String;", .null), ("com/example/gyro/gyro/config/ListenAddress", "port", "I", .int 0)]))]) rfl eN (G := ?_)
  rintro _ _ _ ⟨rfl, rfl, rfl⟩
  refine Go.norm (D2 := [(a, .inl ("com/example/gyro/gyro/config/ListenAddress", [("com/example/gyro/gyro/config/ListenAddress", "host", "Ljava/lang/String;", .null), ("com/example/gyro/gyro/config/ListenAddress", "port", "I", .int 0)]))]) (S2 := []) (c2 := 0) (s2 := 0) (st2 := []) ?_
  refine Go.aloadN d7_4 rfl (G := ?_)
  refine Go.aloadN d7_5 rfl (G := ?_)
  refine Go.putfield d7_6 (hw _ (List.mem_of_getElem? (i := 42) rfl)) Via.refl 0 rfl 0 rfl (Or.inr ⟨(hw _ (List.mem_of_getElem? (i := 43) rfl)), rfl, rfl⟩) (hw _ (List.mem_of_getElem? (i := 31) rfl)) (ty := .object "java/lang/String") (by decide +kernel) (v' := .ref h) rfl rfl (D' := [(a, .inl ("com/example/gyro/gyro/config/ListenAddress", [("com/example/gyro/gyro/config/ListenAddress", "host", "Ljava/lang/String;", .ref h), ("com/example/gyro/gyro/config/ListenAddress", "port", "I", .int 0)]))]) rfl (G := ?_)
  refine Go.aloadN d7_9 rfl (G := ?_)
  refine Go.iloadN d7_10 rfl (G := ?_)
  refine Go.putfield d7_11 (hw _ (List.mem_of_getElem? (i := 44) rfl)) Via.refl 0 rfl 1 rfl (Or.inr ⟨(hw _ (List.mem_of_getElem? (i := 45) rfl)), rfl, rfl⟩) (hw _ (List.mem_of_getElem? (i := 31) rfl)) (ty := .int) (by decide +kernel) (v' := .int p) rfl rfl (D' := [(a, .inl ("com/example/gyro/gyro/config/ListenAddress", [("com/example/gyro/gyro/config/ListenAddress", "host", "Ljava/lang/String;", .ref h), ("com/example/gyro/gyro/config/ListenAddress", "port", "I", .int p)]))]) rfl (G := ?_)
  exact Go.retV d7_14 ⟨rfl, rfl, rfl⟩
theorem d8_0 : Dx prog_21_method_3_code 0 (.new 8) 3 3 := ⟨by decide +kernel, rfl⟩
theorem d8_3 : Dx prog_21_method_3_code 3 (.dup) 1 4 := ⟨by decide +kernel, rfl⟩
theorem d8_4 : Dx prog_21_method_3_code 4 (.aload_n 0) 1 5 := ⟨by decide +kernel, rfl⟩
theorem d8_5 : Dx prog_21_method_3_code 5 (.getfield 7) 3 8 := ⟨by decide +kernel, rfl⟩
theorem d8_8 : Dx prog_21_method_3_code 8 (.iload_n 1) 1 9 := ⟨by decide +kernel, rfl⟩
theorem d8_9 : Dx prog_21_method_3_code 9 (.invokespecial 66) 3 12 := ⟨by decide +kernel, rfl⟩
theorem d8_12 : Dx prog_21_method_3_code 12 (.areturn) 1 13 := ⟨by decide +kernel, rfl⟩
theorem pdg_5 : parseMethodDescriptor "(Ljava/lang/String;I)V" = some ⟨[.object "java/lang/String", .int], none⟩ := by decide +kernel
set_option maxRecDepth 65536 in
set_option maxHeartbeats 40000000 in
theorem c_withPort {l : Launch} {Z : State} {a0 : Array Value} {EL : List (String × Nat)} {b : Bool} {n0 : Nat} (hw : ∀ d ∈ tables_1, d.before a0 Z = true) (a h : Addr) (q p : Int32) :
    Met l Z a0 EL b n0 (⟨"com/example/gyro/gyro/config/ListenAddress", "withPort", "(I)Lcom/example/gyro/gyro/config/ListenAddress;"⟩ : MethodName) prog_21_method_3_code 2 (some (.object "com/example/gyro/gyro/config/ListenAddress")) [] (rm4 3 1 2 39) [.ref a, .int p] [] [(a, .inl ("com/example/gyro/gyro/config/ListenAddress", [("com/example/gyro/gyro/config/ListenAddress", "host", "Ljava/lang/String;", .ref h), ("com/example/gyro/gyro/config/ListenAddress", "port", "I", .int q)]))] (fun v D' S' => ∃ r, v = some (.ref r) ∧ D' = [(r, .inl ("com/example/gyro/gyro/config/ListenAddress", [("com/example/gyro/gyro/config/ListenAddress", "host", "Ljava/lang/String;", .ref h), ("com/example/gyro/gyro/config/ListenAddress", "port", "I", .int p)]))] ∧ S' = []) := by
  refine Met.of_go (own := "com/example/gyro/gyro/config/ListenAddress") (nm := "withPort") (Ls := #[.val (.ref a), .val (.int p)]) (plainFor_of_name png_3) (fun m => by first | rfl | (simp [entryFrame, mkF, argsToLocals, Value.category]; done)) ?_
  refine Go.new d8_0 (hw _ (List.mem_of_getElem? (i := 51) rfl)) (hw _ (List.mem_of_getElem? (i := 31) rfl)) (hw _ (List.mem_of_getElem? (i := 32) rfl)) (NewF.cons (Or.inr (hw _ (List.mem_of_getElem? (i := 43) rfl))) (ty := .object "java/lang/String") (by decide +kernel) rfl (by simp) (NewF.cons (Or.inr (hw _ (List.mem_of_getElem? (i := 45) rfl))) (ty := .int) (by decide +kernel) rfl (by simp) NewF.nil)) (G := fun o1 => ?_)
  refine Go.dup d8_3 (G := ?_)
  refine Go.aloadN d8_4 rfl (G := ?_)
  refine Go.getfield d8_5 (host := "") (Or.inl (hw _ (List.mem_of_getElem? (i := 42) rfl))) Via.refl (inS (i := 0) rfl) 0 rfl (G := ?_)
  refine Go.iloadN d8_8 rfl (G := ?_)
  refine Go.invokeinit false d8_9 rfl (hw _ (List.mem_of_getElem? (i := 52) rfl)) (hw _ (List.mem_of_getElem? (i := 34) rfl)) (hw _ (List.mem_of_getElem? (i := 32) rfl)) (hw _ (List.mem_of_getElem? (i := 35) rfl)) (c_la hw o1 h p) pdg_5 rfl (argsL := [.ref h, .int p]) (rest := [.ref o1]) rfl rfl (Dr := []) rfl eN (G := ?_)
  rintro _ _ _ ⟨rfl, rfl, rfl⟩
  refine Go.norm (D2 := [(o1, .inl ("com/example/gyro/gyro/config/ListenAddress", [("com/example/gyro/gyro/config/ListenAddress", "host", "Ljava/lang/String;", .ref h), ("com/example/gyro/gyro/config/ListenAddress", "port", "I", .int p)]))]) (S2 := [(a, .inl ("com/example/gyro/gyro/config/ListenAddress", [("com/example/gyro/gyro/config/ListenAddress", "host", "Ljava/lang/String;", .ref h), ("com/example/gyro/gyro/config/ListenAddress", "port", "I", .int q)]))]) (c2 := 1) (s2 := 2) (st2 := [.ref o1]) ?_
  refine Go.sub [0] (by decide) rfl (D' := [(o1, .inl ("com/example/gyro/gyro/config/ListenAddress", [("com/example/gyro/gyro/config/ListenAddress", "host", "Ljava/lang/String;", .ref h), ("com/example/gyro/gyro/config/ListenAddress", "port", "I", .int p)]))]) rfl (S' := []) eN (G := ?_)
  exact Go.retA d8_12 ⟨o1, rfl, rfl, rfl⟩
theorem d9_0 : Dx prog_21_method_8_code 0 (.aload_n 0) 1 1 := ⟨by decide +kernel, rfl⟩
theorem d9_1 : Dx prog_21_method_8_code 1 (.getfield 7) 3 4 := ⟨by decide +kernel, rfl⟩
theorem d9_4 : Dx prog_21_method_8_code 4 (.areturn) 1 5 := ⟨by decide +kernel, rfl⟩
set_option maxRecDepth 65536 in
set_option maxHeartbeats 40000000 in
theorem c_host {l : Launch} {Z : State} {a0 : Array Value} {EL : List (String × Nat)} {b : Bool} {n0 : Nat} (hw : ∀ d ∈ tables_1, d.before a0 Z = true) (a h : Addr) (q : Int32) :
    Met l Z a0 EL b n0 (⟨"com/example/gyro/gyro/config/ListenAddress", "host", "()Ljava/lang/String;"⟩ : MethodName) prog_21_method_8_code 1 (some (.object "java/lang/String")) [] (rm4 0 0 0 0) [.ref a] [] [(a, .inl ("com/example/gyro/gyro/config/ListenAddress", [("com/example/gyro/gyro/config/ListenAddress", "host", "Ljava/lang/String;", .ref h), ("com/example/gyro/gyro/config/ListenAddress", "port", "I", .int q)]))] (fun v D' S' => v = some (.ref h) ∧ D' = [] ∧ S' = []) := by
  refine Met.of_go (own := "com/example/gyro/gyro/config/ListenAddress") (nm := "host") (Ls := #[.val (.ref a)]) (plainFor_of_name png_3) (fun m => by first | rfl | (simp [entryFrame, mkF, argsToLocals, Value.category]; done)) ?_
  refine Go.aloadN d9_0 rfl (G := ?_)
  refine Go.getfield d9_1 (host := "") (Or.inl (hw _ (List.mem_of_getElem? (i := 42) rfl))) Via.refl (inS (i := 0) rfl) 0 rfl (G := ?_)
  refine Go.sub [] (by decide) rfl (D' := []) rfl (S' := []) eN (G := ?_)
  exact Go.retA d9_4 ⟨rfl, rfl, rfl⟩
theorem d10_0 : Dx prog_21_method_9_code 0 (.aload_n 0) 1 1 := ⟨by decide +kernel, rfl⟩
theorem d10_1 : Dx prog_21_method_9_code 1 (.getfield 13) 3 4 := ⟨by decide +kernel, rfl⟩
theorem d10_4 : Dx prog_21_method_9_code 4 (.ireturn) 1 5 := ⟨by decide +kernel, rfl⟩
set_option maxRecDepth 65536 in
set_option maxHeartbeats 40000000 in
theorem c_port {l : Launch} {Z : State} {a0 : Array Value} {EL : List (String × Nat)} {b : Bool} {n0 : Nat} (hw : ∀ d ∈ tables_1, d.before a0 Z = true) (a h : Addr) (q : Int32) :
    Met l Z a0 EL b n0 (⟨"com/example/gyro/gyro/config/ListenAddress", "port", "()I"⟩ : MethodName) prog_21_method_9_code 1 (some .int) [] (rm4 0 0 0 0) [.ref a] [] [(a, .inl ("com/example/gyro/gyro/config/ListenAddress", [("com/example/gyro/gyro/config/ListenAddress", "host", "Ljava/lang/String;", .ref h), ("com/example/gyro/gyro/config/ListenAddress", "port", "I", .int q)]))] (fun v D' S' => v = some (.int q) ∧ D' = [] ∧ S' = []) := by
  refine Met.of_go (own := "com/example/gyro/gyro/config/ListenAddress") (nm := "port") (Ls := #[.val (.ref a)]) (plainFor_of_name png_3) (fun m => by first | rfl | (simp [entryFrame, mkF, argsToLocals, Value.category]; done)) ?_
  refine Go.aloadN d10_0 rfl (G := ?_)
  refine Go.getfield d10_1 (host := "") (Or.inl (hw _ (List.mem_of_getElem? (i := 44) rfl))) Via.refl (inS (i := 0) rfl) 1 rfl (G := ?_)
  refine Go.sub [] (by decide) rfl (D' := []) rfl (S' := []) eN (G := ?_)
  exact Go.retI d10_4 ⟨rfl, rfl, rfl⟩
theorem d11_0 : Dx jdk_42_method_66_code 0 (.aload_n 0) 1 1 := ⟨by decide +kernel, rfl⟩
theorem d11_1 : Dx jdk_42_method_66_code 1 (.aload_n 1) 1 2 := ⟨by decide +kernel, rfl⟩
theorem d11_2 : Dx jdk_42_method_66_code 2 (.if_acmp .ne 5) 3 5 := ⟨by decide +kernel, rfl⟩
theorem d11_5 : Dx jdk_42_method_66_code 5 (.iconst 1) 1 6 := ⟨by decide +kernel, rfl⟩
theorem d11_6 : Dx jdk_42_method_66_code 6 (.ireturn) 1 7 := ⟨by decide +kernel, rfl⟩
theorem d11_7 : Dx jdk_42_method_66_code 7 (.aload_n 1) 1 8 := ⟨by decide +kernel, rfl⟩
theorem d11_8 : Dx jdk_42_method_66_code 8 (.instanceof 10) 3 11 := ⟨by decide +kernel, rfl⟩
theorem d11_11 : Dx jdk_42_method_66_code 11 (.ifCond .eq 43) 3 14 := ⟨by decide +kernel, rfl⟩
theorem d11_14 : Dx jdk_42_method_66_code 14 (.aload_n 1) 1 15 := ⟨by decide +kernel, rfl⟩
theorem d11_15 : Dx jdk_42_method_66_code 15 (.checkcast 10) 3 18 := ⟨by decide +kernel, rfl⟩
theorem d11_18 : Dx jdk_42_method_66_code 18 (.astore_n 2) 1 19 := ⟨by decide +kernel, rfl⟩
theorem d11_19 : Dx jdk_42_method_66_code 19 (.getstatic 38) 3 22 := ⟨by decide +kernel, rfl⟩
theorem d11_22 : Dx jdk_42_method_66_code 22 (.ifCond .eq 14) 3 25 := ⟨by decide +kernel, rfl⟩
theorem d11_25 : Dx jdk_42_method_66_code 25 (.aload_n 0) 1 26 := ⟨by decide +kernel, rfl⟩
theorem d11_26 : Dx jdk_42_method_66_code 26 (.getfield 15) 3 29 := ⟨by decide +kernel, rfl⟩
theorem d11_29 : Dx jdk_42_method_66_code 29 (.aload_n 2) 1 30 := ⟨by decide +kernel, rfl⟩
theorem d11_30 : Dx jdk_42_method_66_code 30 (.getfield 15) 3 33 := ⟨by decide +kernel, rfl⟩
theorem d11_33 : Dx jdk_42_method_66_code 33 (.if_icmp .ne 21) 3 36 := ⟨by decide +kernel, rfl⟩
theorem d11_36 : Dx jdk_42_method_66_code 36 (.aload_n 0) 1 37 := ⟨by decide +kernel, rfl⟩
theorem d11_37 : Dx jdk_42_method_66_code 37 (.getfield 9) 3 40 := ⟨by decide +kernel, rfl⟩
theorem d11_40 : Dx jdk_42_method_66_code 40 (.aload_n 2) 1 41 := ⟨by decide +kernel, rfl⟩
theorem d11_41 : Dx jdk_42_method_66_code 41 (.getfield 9) 3 44 := ⟨by decide +kernel, rfl⟩
theorem d11_44 : Dx jdk_42_method_66_code 44 (.invokestatic 541) 3 47 := ⟨by decide +kernel, rfl⟩
theorem d11_47 : Dx jdk_42_method_66_code 47 (.ifCond .eq 7) 3 50 := ⟨by decide +kernel, rfl⟩
theorem d11_50 : Dx jdk_42_method_66_code 50 (.iconst 1) 1 51 := ⟨by decide +kernel, rfl⟩
theorem d11_51 : Dx jdk_42_method_66_code 51 (.goto 4) 3 54 := ⟨by decide +kernel, rfl⟩
theorem d11_54 : Dx jdk_42_method_66_code 54 (.iconst 0) 1 55 := ⟨by decide +kernel, rfl⟩
theorem d11_55 : Dx jdk_42_method_66_code 55 (.ireturn) 1 56 := ⟨by decide +kernel, rfl⟩
set_option maxRecDepth 65536 in
set_option maxHeartbeats 40000000 in
theorem c_eqSame {l : Launch} {Z : State} {a0 : Array Value} {EL : List (String × Nat)} {b : Bool} {n0 : Nat} (hw : ∀ d ∈ tables_1, d.before a0 Z = true) (a : Addr) :
    Met l Z a0 EL b n0 (⟨"java/lang/String", "equals", "(Ljava/lang/Object;)Z"⟩ : MethodName) jdk_42_method_66_code 3 (some .boolean) [] (rm4 0 0 0 0) [.ref a, .ref a] [] [] (fun v D' S' => v = some (.int 1) ∧ D' = [] ∧ S' = []) := by
  refine Met.of_go (own := "java/lang/String") (nm := "equals") (Ls := #[.val (.ref a), .val (.ref a), .unset]) (plainFor_of_name png_1) (fun m => by first | rfl | (simp [entryFrame, mkF, argsToLocals, Value.category]; done)) ?_
  refine Go.aloadN d11_0 rfl (G := ?_)
  refine Go.aloadN d11_1 rfl (G := ?_)
  refine Go.acmpne d11_2 (pc2 := 7) (Gy := fun h => absurd rfl h) (Gn := fun _ => ?_)
  refine Go.iconst d11_5 (v := 1) rfl (G := ?_)
  exact Go.retB d11_6 (by simp) (z' := 1) rfl ⟨rfl, rfl, rfl⟩
theorem d12_0 : Dx code 0 (.iload_n 1) 1 1 := ⟨by decide +kernel, rfl⟩
theorem d12_1 : Dx code 1 (.iconst 3) 1 2 := ⟨by decide +kernel, rfl⟩
theorem d12_2 : Dx code 2 (.iand) 1 3 := ⟨by decide +kernel, rfl⟩
theorem d12_3 : Dx code 3 (.istore 4) 2 5 := ⟨by decide +kernel, rfl⟩
theorem d12_5 : Dx code 5 (.iload_n 0) 1 6 := ⟨by decide +kernel, rfl⟩
theorem d12_6 : Dx code 6 (.sipush 255) 3 9 := ⟨by decide +kernel, rfl⟩
theorem d12_9 : Dx code 9 (.iand) 1 10 := ⟨by decide +kernel, rfl⟩
theorem d12_10 : Dx code 10 (.i2c) 1 11 := ⟨by decide +kernel, rfl⟩
theorem d12_11 : Dx code 11 (.istore 5) 2 13 := ⟨by decide +kernel, rfl⟩
theorem d12_13 : Dx code 13 (.iload_n 0) 1 14 := ⟨by decide +kernel, rfl⟩
theorem d12_14 : Dx code 14 (.bipush 8) 2 16 := ⟨by decide +kernel, rfl⟩
theorem d12_16 : Dx code 16 (.iushr) 1 17 := ⟨by decide +kernel, rfl⟩
theorem d12_17 : Dx code 17 (.sipush 255) 3 20 := ⟨by decide +kernel, rfl⟩
theorem d12_20 : Dx code 20 (.iand) 1 21 := ⟨by decide +kernel, rfl⟩
theorem d12_21 : Dx code 21 (.i2c) 1 22 := ⟨by decide +kernel, rfl⟩
theorem d12_22 : Dx code 22 (.istore 6) 2 24 := ⟨by decide +kernel, rfl⟩
theorem d12_24 : Dx code 24 (.iload_n 0) 1 25 := ⟨by decide +kernel, rfl⟩
theorem d12_25 : Dx code 25 (.bipush 16) 2 27 := ⟨by decide +kernel, rfl⟩
theorem d12_27 : Dx code 27 (.iushr) 1 28 := ⟨by decide +kernel, rfl⟩
theorem d12_28 : Dx code 28 (.sipush 255) 3 31 := ⟨by decide +kernel, rfl⟩
theorem d12_31 : Dx code 31 (.iand) 1 32 := ⟨by decide +kernel, rfl⟩
theorem d12_32 : Dx code 32 (.i2c) 1 33 := ⟨by decide +kernel, rfl⟩
theorem d12_33 : Dx code 33 (.istore 7) 2 35 := ⟨by decide +kernel, rfl⟩
theorem d12_35 : Dx code 35 (.iload 4) 2 37 := ⟨by decide +kernel, rfl⟩
theorem d12_37 : Dx code 37 (.ifCond .ne 11) 3 40 := ⟨by decide +kernel, rfl⟩
theorem d12_40 : Dx code 40 (.iconst 0) 1 41 := ⟨by decide +kernel, rfl⟩
theorem d12_41 : Dx code 41 (.newarray .char) 2 43 := ⟨by decide +kernel, rfl⟩
theorem d12_43 : Dx code 43 (.astore 8) 2 45 := ⟨by decide +kernel, rfl⟩
theorem d12_45 : Dx code 45 (.goto 66) 3 48 := ⟨by decide +kernel, rfl⟩
theorem d12_48 : Dx code 48 (.iload 4) 2 50 := ⟨by decide +kernel, rfl⟩
theorem d12_50 : Dx code 50 (.iconst 1) 1 51 := ⟨by decide +kernel, rfl⟩
theorem d12_51 : Dx code 51 (.if_icmp .ne 16) 3 54 := ⟨by decide +kernel, rfl⟩
theorem d12_54 : Dx code 54 (.iconst 1) 1 55 := ⟨by decide +kernel, rfl⟩
theorem d12_55 : Dx code 55 (.newarray .char) 2 57 := ⟨by decide +kernel, rfl⟩
theorem d12_57 : Dx code 57 (.dup) 1 58 := ⟨by decide +kernel, rfl⟩
theorem d12_58 : Dx code 58 (.iconst 0) 1 59 := ⟨by decide +kernel, rfl⟩
theorem d12_59 : Dx code 59 (.iload 5) 2 61 := ⟨by decide +kernel, rfl⟩
theorem d12_61 : Dx code 61 (.castore) 1 62 := ⟨by decide +kernel, rfl⟩
theorem d12_62 : Dx code 62 (.astore 8) 2 64 := ⟨by decide +kernel, rfl⟩
theorem d12_64 : Dx code 64 (.goto 47) 3 67 := ⟨by decide +kernel, rfl⟩
theorem d12_67 : Dx code 67 (.iload 4) 2 69 := ⟨by decide +kernel, rfl⟩
theorem d12_69 : Dx code 69 (.iconst 2) 1 70 := ⟨by decide +kernel, rfl⟩
theorem d12_70 : Dx code 70 (.if_icmp .ne 21) 3 73 := ⟨by decide +kernel, rfl⟩
theorem d12_73 : Dx code 73 (.iconst 2) 1 74 := ⟨by decide +kernel, rfl⟩
theorem d12_74 : Dx code 74 (.newarray .char) 2 76 := ⟨by decide +kernel, rfl⟩
theorem d12_76 : Dx code 76 (.dup) 1 77 := ⟨by decide +kernel, rfl⟩
theorem d12_77 : Dx code 77 (.iconst 0) 1 78 := ⟨by decide +kernel, rfl⟩
theorem d12_78 : Dx code 78 (.iload 5) 2 80 := ⟨by decide +kernel, rfl⟩
theorem d12_80 : Dx code 80 (.castore) 1 81 := ⟨by decide +kernel, rfl⟩
theorem d12_81 : Dx code 81 (.dup) 1 82 := ⟨by decide +kernel, rfl⟩
theorem d12_82 : Dx code 82 (.iconst 1) 1 83 := ⟨by decide +kernel, rfl⟩
theorem d12_83 : Dx code 83 (.iload 6) 2 85 := ⟨by decide +kernel, rfl⟩
theorem d12_85 : Dx code 85 (.castore) 1 86 := ⟨by decide +kernel, rfl⟩
theorem d12_86 : Dx code 86 (.astore 8) 2 88 := ⟨by decide +kernel, rfl⟩
theorem d12_88 : Dx code 88 (.goto 23) 3 91 := ⟨by decide +kernel, rfl⟩
theorem d12_91 : Dx code 91 (.iconst 3) 1 92 := ⟨by decide +kernel, rfl⟩
theorem d12_92 : Dx code 92 (.newarray .char) 2 94 := ⟨by decide +kernel, rfl⟩
theorem d12_94 : Dx code 94 (.dup) 1 95 := ⟨by decide +kernel, rfl⟩
theorem d12_95 : Dx code 95 (.iconst 0) 1 96 := ⟨by decide +kernel, rfl⟩
theorem d12_96 : Dx code 96 (.iload 5) 2 98 := ⟨by decide +kernel, rfl⟩
theorem d12_98 : Dx code 98 (.castore) 1 99 := ⟨by decide +kernel, rfl⟩
theorem d12_99 : Dx code 99 (.dup) 1 100 := ⟨by decide +kernel, rfl⟩
theorem d12_100 : Dx code 100 (.iconst 1) 1 101 := ⟨by decide +kernel, rfl⟩
theorem d12_101 : Dx code 101 (.iload 6) 2 103 := ⟨by decide +kernel, rfl⟩
theorem d12_103 : Dx code 103 (.castore) 1 104 := ⟨by decide +kernel, rfl⟩
theorem d12_104 : Dx code 104 (.dup) 1 105 := ⟨by decide +kernel, rfl⟩
theorem d12_105 : Dx code 105 (.iconst 2) 1 106 := ⟨by decide +kernel, rfl⟩
theorem d12_106 : Dx code 106 (.iload 7) 2 108 := ⟨by decide +kernel, rfl⟩
theorem d12_108 : Dx code 108 (.castore) 1 109 := ⟨by decide +kernel, rfl⟩
theorem d12_109 : Dx code 109 (.astore 8) 2 111 := ⟨by decide +kernel, rfl⟩
theorem d12_111 : Dx code 111 (.new 7) 3 114 := ⟨by decide +kernel, rfl⟩
theorem d12_114 : Dx code 114 (.dup) 1 115 := ⟨by decide +kernel, rfl⟩
theorem d12_115 : Dx code 115 (.aload 8) 2 117 := ⟨by decide +kernel, rfl⟩
theorem d12_117 : Dx code 117 (.invokespecial 9) 3 120 := ⟨by decide +kernel, rfl⟩
theorem d12_120 : Dx code 120 (.astore 9) 2 122 := ⟨by decide +kernel, rfl⟩
theorem d12_122 : Dx code 122 (.new 12) 3 125 := ⟨by decide +kernel, rfl⟩
theorem d12_125 : Dx code 125 (.dup) 1 126 := ⟨by decide +kernel, rfl⟩
theorem d12_126 : Dx code 126 (.aload 9) 2 128 := ⟨by decide +kernel, rfl⟩
theorem d12_128 : Dx code 128 (.iload_n 2) 1 129 := ⟨by decide +kernel, rfl⟩
theorem d12_129 : Dx code 129 (.invokespecial 14) 3 132 := ⟨by decide +kernel, rfl⟩
theorem d12_132 : Dx code 132 (.astore 10) 2 134 := ⟨by decide +kernel, rfl⟩
theorem d12_134 : Dx code 134 (.aload 10) 2 136 := ⟨by decide +kernel, rfl⟩
theorem d12_136 : Dx code 136 (.iload_n 3) 1 137 := ⟨by decide +kernel, rfl⟩
theorem d12_137 : Dx code 137 (.invokevirtual 17) 3 140 := ⟨by decide +kernel, rfl⟩
theorem d12_140 : Dx code 140 (.astore 11) 2 142 := ⟨by decide +kernel, rfl⟩
theorem d12_142 : Dx code 142 (.aload 11) 2 144 := ⟨by decide +kernel, rfl⟩
theorem d12_144 : Dx code 144 (.invokevirtual 21) 3 147 := ⟨by decide +kernel, rfl⟩
theorem d12_147 : Dx code 147 (.aload 9) 2 149 := ⟨by decide +kernel, rfl⟩
theorem d12_149 : Dx code 149 (.invokevirtual 25) 3 152 := ⟨by decide +kernel, rfl⟩
theorem d12_152 : Dx code 152 (.ifCond .eq 38) 3 155 := ⟨by decide +kernel, rfl⟩
theorem d12_155 : Dx code 155 (.aload 11) 2 157 := ⟨by decide +kernel, rfl⟩
theorem d12_157 : Dx code 157 (.invokevirtual 29) 3 160 := ⟨by decide +kernel, rfl⟩
theorem d12_160 : Dx code 160 (.iload_n 3) 1 161 := ⟨by decide +kernel, rfl⟩
theorem d12_161 : Dx code 161 (.if_icmp .ne 29) 3 164 := ⟨by decide +kernel, rfl⟩
theorem d12_164 : Dx code 164 (.aload 10) 2 166 := ⟨by decide +kernel, rfl⟩
theorem d12_166 : Dx code 166 (.invokevirtual 21) 3 169 := ⟨by decide +kernel, rfl⟩
theorem d12_169 : Dx code 169 (.aload 9) 2 171 := ⟨by decide +kernel, rfl⟩
theorem d12_171 : Dx code 171 (.invokevirtual 25) 3 174 := ⟨by decide +kernel, rfl⟩
theorem d12_174 : Dx code 174 (.ifCond .eq 16) 3 177 := ⟨by decide +kernel, rfl⟩
theorem d12_177 : Dx code 177 (.aload 10) 2 179 := ⟨by decide +kernel, rfl⟩
theorem d12_179 : Dx code 179 (.invokevirtual 29) 3 182 := ⟨by decide +kernel, rfl⟩
theorem d12_182 : Dx code 182 (.iload_n 2) 1 183 := ⟨by decide +kernel, rfl⟩
theorem d12_183 : Dx code 183 (.if_icmp .ne 7) 3 186 := ⟨by decide +kernel, rfl⟩
theorem d12_186 : Dx code 186 (.iconst 1) 1 187 := ⟨by decide +kernel, rfl⟩
theorem d12_187 : Dx code 187 (.goto 4) 3 190 := ⟨by decide +kernel, rfl⟩
theorem d12_190 : Dx code 190 (.iconst 0) 1 191 := ⟨by decide +kernel, rfl⟩
theorem d12_191 : Dx code 191 (.ireturn) 1 192 := ⟨by decide +kernel, rfl⟩
theorem pdg_6 : parseMethodDescriptor "([C)V" = some ⟨[.array .char], none⟩ := by decide +kernel
theorem pdg_7 : parseMethodDescriptor "(I)Lcom/example/gyro/gyro/config/ListenAddress;" = some ⟨[.int], some (.object "com/example/gyro/gyro/config/ListenAddress")⟩ := by decide +kernel
theorem pdg_8 : parseMethodDescriptor "()Ljava/lang/String;" = some ⟨[], some (.object "java/lang/String")⟩ := by decide +kernel
theorem pdg_9 : parseMethodDescriptor "(Ljava/lang/Object;)Z" = some ⟨[.object "java/lang/Object"], some .boolean⟩ := by decide +kernel
theorem pdg_10 : parseMethodDescriptor "()I" = some ⟨[], some .int⟩ := by decide +kernel
theorem png_4 : plainName "com/example/gyro/gyro/config/ListenAddressWithPortPinLaw" = true := by first | (simp [plainName, overriddenIn]; done) | decide +kernel
set_option maxRecDepth 65536 in
set_option maxHeartbeats 40000000 in
theorem c_law {l : Launch} {Z : State} {a0 : Array Value} {EL : List (String × Nat)} {b : Bool} {n0 : Nat} (hw : ∀ d ∈ tables_1, d.before a0 Z = true) (chars len port0 bp : Int32) (cpt : Int32) (hCS : Sta Z Z.heap "java/lang/String" "COMPACT_STRINGS" "Z" (.int cpt)) (hcpt : ¬ cpt = 0) (hb1 : b = true) (hE_String_7 : ("java/lang/String", 7) ∈ EL) : Met l Z a0 EL b n0 x code 12 (some .boolean) tables_1 room_1 [.int chars, .int len, .int port0, .int bp] [] [] (fun v D' S' => v = some (.int 1) ∧ D' = [] ∧ S' = []) := by
  refine Met.of_go (own := "com/example/gyro/gyro/config/ListenAddressWithPortPinLaw") (nm := "law") (Ls := #[.val (.int chars), .val (.int len), .val (.int port0), .val (.int bp), .unset, .unset, .unset, .unset, .unset, .unset, .unset, .unset]) (plainFor_of_name png_4) (fun m => by first | rfl | (simp [entryFrame, mkF, argsToLocals, Value.category]; done)) ?_
  refine Go.iloadN d12_0 rfl (G := ?_)
  refine Go.iconst d12_1 (v := 3) rfl (G := ?_)
  refine Go.iand d12_2 (z := (len &&& 3)) rfl (G := ?_)
  refine Go.istore d12_3 (Ls' := #[.val (.int chars), .val (.int len), .val (.int port0), .val (.int bp), .val (.int (len &&& 3)), .unset, .unset, .unset, .unset, .unset, .unset, .unset]) rfl (G := ?_)
  refine Go.iloadN d12_5 rfl (G := ?_)
  refine Go.sipush d12_6 (v := 255) rfl (G := ?_)
  refine Go.iand d12_9 (z := (chars &&& 255)) rfl (G := ?_)
  refine Go.i2c d12_10 (z := (chars &&& 255)) (i2c_mask _) (G := ?_)
  refine Go.istore d12_11 (Ls' := #[.val (.int chars), .val (.int len), .val (.int port0), .val (.int bp), .val (.int (len &&& 3)), .val (.int (chars &&& 255)), .unset, .unset, .unset, .unset, .unset, .unset]) rfl (G := ?_)
  refine Go.iloadN d12_13 rfl (G := ?_)
  refine Go.bipush d12_14 (v := 8) rfl (G := ?_)
  refine Go.iushr d12_16 (z := (ush chars 8)) rfl (G := ?_)
  refine Go.sipush d12_17 (v := 255) rfl (G := ?_)
  refine Go.iand d12_20 (z := ((ush chars 8) &&& 255)) rfl (G := ?_)
  refine Go.i2c d12_21 (z := ((ush chars 8) &&& 255)) (i2c_mask _) (G := ?_)
  refine Go.istore d12_22 (Ls' := #[.val (.int chars), .val (.int len), .val (.int port0), .val (.int bp), .val (.int (len &&& 3)), .val (.int (chars &&& 255)), .val (.int ((ush chars 8) &&& 255)), .unset, .unset, .unset, .unset, .unset]) rfl (G := ?_)
  refine Go.iloadN d12_24 rfl (G := ?_)
  refine Go.bipush d12_25 (v := 16) rfl (G := ?_)
  refine Go.iushr d12_27 (z := (ush chars 16)) rfl (G := ?_)
  refine Go.sipush d12_28 (v := 255) rfl (G := ?_)
  refine Go.iand d12_31 (z := ((ush chars 16) &&& 255)) rfl (G := ?_)
  refine Go.i2c d12_32 (z := ((ush chars 16) &&& 255)) (i2c_mask _) (G := ?_)
  refine Go.istore d12_33 (Ls' := #[.val (.int chars), .val (.int len), .val (.int port0), .val (.int bp), .val (.int (len &&& 3)), .val (.int (chars &&& 255)), .val (.int ((ush chars 8) &&& 255)), .val (.int ((ush chars 16) &&& 255)), .unset, .unset, .unset, .unset]) rfl (G := ?_)
  refine Go.iload d12_35 rfl (G := ?_)
  refine Go.ifc d12_37 (pc2 := 48) (Gy := fun h1 => ?_) (Gn := fun h1 => ?_)
  · have h1 : ¬ (len &&& 3) = 0 := h1
    refine Go.iload d12_48 rfl (G := ?_)
    refine Go.iconst d12_50 (v := 1) rfl (G := ?_)
    refine Go.icmp d12_51 (pc2 := 67) (Gy := fun h2 => ?_) (Gn := fun h2 => ?_)
    · have h2 : ¬ (len &&& 3) = 1 := h2
      refine Go.iload d12_67 rfl (G := ?_)
      refine Go.iconst d12_69 (v := 2) rfl (G := ?_)
      refine Go.icmp d12_70 (pc2 := 91) (Gy := fun h3 => ?_) (Gn := fun h3 => ?_)
      · have h3 : ¬ (len &&& 3) = 2 := h3
        refine Go.iconst d12_91 (v := 3) rfl (G := ?_)
        refine Go.newarray d12_92 (hw _ (List.mem_of_getElem? (i := 0) rfl)) (k := 3) rfl (by decide) (by decide) (vs := [.int 0, .int 0, .int 0]) rfl (G := fun o4 => ?_)
        refine Go.dup d12_94 (G := ?_)
        refine Go.iconst d12_95 (v := 0) rfl (G := ?_)
        refine Go.iload d12_96 rfl (G := ?_)
        refine Go.castore d12_98 0 rfl (x' := (chars &&& 255)) (m255_c _) (Nat.le_of_ble_eq_true rfl) (D' := [(o4, .inr (.char, [.int (chars &&& 255), .int 0, .int 0]))]) rfl (G := ?_)
        refine Go.dup d12_99 (G := ?_)
        refine Go.iconst d12_100 (v := 1) rfl (G := ?_)
        refine Go.iload d12_101 rfl (G := ?_)
        refine Go.castore d12_103 0 rfl (x' := ((ush chars 8) &&& 255)) (m255_c _) (Nat.le_of_ble_eq_true rfl) (D' := [(o4, .inr (.char, [.int (chars &&& 255), .int ((ush chars 8) &&& 255), .int 0]))]) rfl (G := ?_)
        refine Go.dup d12_104 (G := ?_)
        refine Go.iconst d12_105 (v := 2) rfl (G := ?_)
        refine Go.iload d12_106 rfl (G := ?_)
        refine Go.castore d12_108 0 rfl (x' := ((ush chars 16) &&& 255)) (m255_c _) (Nat.le_of_ble_eq_true rfl) (D' := [(o4, .inr (.char, [.int (chars &&& 255), .int ((ush chars 8) &&& 255), .int ((ush chars 16) &&& 255)]))]) rfl (G := ?_)
        refine Go.astore d12_109 (Ls' := #[.val (.int chars), .val (.int len), .val (.int port0), .val (.int bp), .val (.int (len &&& 3)), .val (.int (chars &&& 255)), .val (.int ((ush chars 8) &&& 255)), .val (.int ((ush chars 16) &&& 255)), .val (.ref o4), .unset, .unset, .unset]) rfl (G := ?_)
        refine Go.new d12_111 (hw _ (List.mem_of_getElem? (i := 1) rfl)) (hw _ (List.mem_of_getElem? (i := 2) rfl)) (hw _ (List.mem_of_getElem? (i := 3) rfl)) (NewF.cons (Or.inr (hw _ (List.mem_of_getElem? (i := 29) rfl))) (ty := .array .byte) (by decide +kernel) rfl (by simp) (NewF.cons (Or.inr (hw _ (List.mem_of_getElem? (i := 27) rfl))) (ty := .byte) (by decide +kernel) rfl (by simp) NewF.nil)) (G := fun o5 => ?_)
        refine Go.dup d12_114 (G := ?_)
        refine Go.aload d12_115 rfl (G := ?_)
        refine Go.invokeinit true d12_117 rfl (hw _ (List.mem_of_getElem? (i := 4) rfl)) (hw _ (List.mem_of_getElem? (i := 5) rfl)) (hw _ (List.mem_of_getElem? (i := 3) rfl)) (hw _ (List.mem_of_getElem? (i := 6) rfl)) (c_init hw o5 o4 ([(chars &&& 255), ((ush chars 8) &&& 255), ((ush chars 16) &&& 255)] : List Int32) 3 [] cpt hCS hcpt rfl (by decide) (by decide) (eS (m255_le _) (eS (m255_le _) (eS (m255_le _) eN)))) pdg_6 rfl (argsL := [.ref o4]) (rest := [.ref o5]) rfl rfl (Dr := [(o4, .inr (.char, [.int (chars &&& 255), .int ((ush chars 8) &&& 255), .int ((ush chars 16) &&& 255)]))]) rfl (eS (Or.inr ⟨rfl, List.mem_of_getElem? (i := 0) rfl⟩) eN) (G := ?_)
        rintro _ _ _ ⟨t6, rfl, rfl, rfl⟩
        refine Go.norm (D2 := [(o5, .inl ("java/lang/String", [("java/lang/String", "value", "[B", .ref t6), ("java/lang/String", "coder", "B", .int 0)])), (t6, .inr (.byte, ([(chars &&& 255), ((ush chars 8) &&& 255), ((ush chars 16) &&& 255)] : List Int32).map byV)), (o4, .inr (.char, [.int (chars &&& 255), .int ((ush chars 8) &&& 255), .int ((ush chars 16) &&& 255)]))]) (S2 := []) (c2 := 3) (s2 := 10) (st2 := [.ref o5]) ?_
        refine Go.astore d12_120 (Ls' := #[.val (.int chars), .val (.int len), .val (.int port0), .val (.int bp), .val (.int (len &&& 3)), .val (.int (chars &&& 255)), .val (.int ((ush chars 8) &&& 255)), .val (.int ((ush chars 16) &&& 255)), .val (.ref o4), .val (.ref o5), .unset, .unset]) rfl (G := ?_)
        refine Go.new d12_122 (hw _ (List.mem_of_getElem? (i := 30) rfl)) (hw _ (List.mem_of_getElem? (i := 31) rfl)) (hw _ (List.mem_of_getElem? (i := 32) rfl)) (NewF.cons (Or.inr (hw _ (List.mem_of_getElem? (i := 43) rfl))) (ty := .object "java/lang/String") (by decide +kernel) rfl (by simp) (NewF.cons (Or.inr (hw _ (List.mem_of_getElem? (i := 45) rfl))) (ty := .int) (by decide +kernel) rfl (by simp) NewF.nil)) (G := fun o7 => ?_)
        refine Go.dup d12_125 (G := ?_)
        refine Go.aload d12_126 rfl (G := ?_)
        refine Go.iloadN d12_128 rfl (G := ?_)
        refine Go.invokeinit false d12_129 rfl (hw _ (List.mem_of_getElem? (i := 33) rfl)) (hw _ (List.mem_of_getElem? (i := 34) rfl)) (hw _ (List.mem_of_getElem? (i := 32) rfl)) (hw _ (List.mem_of_getElem? (i := 35) rfl)) (c_la hw o7 o5 port0) pdg_5 rfl (argsL := [.ref o5, .int port0]) (rest := [.ref o7]) rfl rfl (Dr := [(o5, .inl ("java/lang/String", [("java/lang/String", "value", "[B", .ref t6), ("java/lang/String", "coder", "B", .int 0)])), (t6, .inr (.byte, ([(chars &&& 255), ((ush chars 8) &&& 255), ((ush chars 16) &&& 255)] : List Int32).map byV)), (o4, .inr (.char, [.int (chars &&& 255), .int ((ush chars 8) &&& 255), .int ((ush chars 16) &&& 255)]))]) rfl eN (G := ?_)
        rintro _ _ _ ⟨rfl, rfl, rfl⟩
        refine Go.norm (D2 := [(o7, .inl ("com/example/gyro/gyro/config/ListenAddress", [("com/example/gyro/gyro/config/ListenAddress", "host", "Ljava/lang/String;", .ref o5), ("com/example/gyro/gyro/config/ListenAddress", "port", "I", .int port0)])), (o5, .inl ("java/lang/String", [("java/lang/String", "value", "[B", .ref t6), ("java/lang/String", "coder", "B", .int 0)])), (t6, .inr (.byte, ([(chars &&& 255), ((ush chars 8) &&& 255), ((ush chars 16) &&& 255)] : List Int32).map byV)), (o4, .inr (.char, [.int (chars &&& 255), .int ((ush chars 8) &&& 255), .int ((ush chars 16) &&& 255)]))]) (S2 := []) (c2 := 4) (s2 := 12) (st2 := [.ref o7]) ?_
        refine Go.astore d12_132 (Ls' := #[.val (.int chars), .val (.int len), .val (.int port0), .val (.int bp), .val (.int (len &&& 3)), .val (.int (chars &&& 255)), .val (.int ((ush chars 8) &&& 255)), .val (.int ((ush chars 16) &&& 255)), .val (.ref o4), .val (.ref o5), .val (.ref o7), .unset]) rfl (G := ?_)
        refine Go.aload d12_134 rfl (G := ?_)
        refine Go.iloadN d12_136 rfl (G := ?_)
        refine Go.invokevirtual true d12_137 (hw _ (List.mem_of_getElem? (i := 46) rfl)) (hw _ (List.mem_of_getElem? (i := 47) rfl)) (hw _ (List.mem_of_getElem? (i := 49) rfl)) (hw _ (List.mem_of_getElem? (i := 48) rfl)) (hw _ (List.mem_of_getElem? (i := 32) rfl)) (hw _ (List.mem_of_getElem? (i := 50) rfl)) (nfSel (hw _ (List.mem_of_getElem? (i := 49) rfl))) (inD (i := 0) rfl) (c_withPort hw o7 o5 port0 bp) pdg_7 rfl (argsL := [.int bp]) (rest := []) rfl rfl (Dr := [(o7, .inl ("com/example/gyro/gyro/config/ListenAddress", [("com/example/gyro/gyro/config/ListenAddress", "host", "Ljava/lang/String;", .ref o5), ("com/example/gyro/gyro/config/ListenAddress", "port", "I", .int port0)])), (o5, .inl ("java/lang/String", [("java/lang/String", "value", "[B", .ref t6), ("java/lang/String", "coder", "B", .int 0)])), (t6, .inr (.byte, ([(chars &&& 255), ((ush chars 8) &&& 255), ((ush chars 16) &&& 255)] : List Int32).map byV)), (o4, .inr (.char, [.int (chars &&& 255), .int ((ush chars 8) &&& 255), .int ((ush chars 16) &&& 255)]))]) rfl (eS (Or.inr ⟨rfl, List.mem_of_getElem? (i := 0) rfl⟩) eN) (G := ?_)
        rintro _ _ _ ⟨r8, rfl, rfl, rfl⟩
        refine Go.norm (D2 := [(r8, .inl ("com/example/gyro/gyro/config/ListenAddress", [("com/example/gyro/gyro/config/ListenAddress", "host", "Ljava/lang/String;", .ref o5), ("com/example/gyro/gyro/config/ListenAddress", "port", "I", .int bp)])), (o7, .inl ("com/example/gyro/gyro/config/ListenAddress", [("com/example/gyro/gyro/config/ListenAddress", "host", "Ljava/lang/String;", .ref o5), ("com/example/gyro/gyro/config/ListenAddress", "port", "I", .int port0)])), (o5, .inl ("java/lang/String", [("java/lang/String", "value", "[B", .ref t6), ("java/lang/String", "coder", "B", .int 0)])), (t6, .inr (.byte, ([(chars &&& 255), ((ush chars 8) &&& 255), ((ush chars 16) &&& 255)] : List Int32).map byV)), (o4, .inr (.char, [.int (chars &&& 255), .int ((ush chars 8) &&& 255), .int ((ush chars 16) &&& 255)]))]) (S2 := []) (c2 := 5) (s2 := 14) (st2 := [.ref r8]) ?_
        refine Go.astore d12_140 (Ls' := #[.val (.int chars), .val (.int len), .val (.int port0), .val (.int bp), .val (.int (len &&& 3)), .val (.int (chars &&& 255)), .val (.int ((ush chars 8) &&& 255)), .val (.int ((ush chars 16) &&& 255)), .val (.ref o4), .val (.ref o5), .val (.ref o7), .val (.ref r8)]) rfl (G := ?_)
        refine Go.aload d12_142 rfl (G := ?_)
        refine Go.invokevirtual true d12_144 (hw _ (List.mem_of_getElem? (i := 53) rfl)) (hw _ (List.mem_of_getElem? (i := 54) rfl)) (hw _ (List.mem_of_getElem? (i := 56) rfl)) (hw _ (List.mem_of_getElem? (i := 55) rfl)) (hw _ (List.mem_of_getElem? (i := 32) rfl)) (hw _ (List.mem_of_getElem? (i := 57) rfl)) (nfSel (hw _ (List.mem_of_getElem? (i := 56) rfl))) (inD (i := 0) rfl) (c_host hw r8 o5 bp) pdg_8 rfl (argsL := []) (rest := []) rfl rfl (Dr := [(r8, .inl ("com/example/gyro/gyro/config/ListenAddress", [("com/example/gyro/gyro/config/ListenAddress", "host", "Ljava/lang/String;", .ref o5), ("com/example/gyro/gyro/config/ListenAddress", "port", "I", .int bp)])), (o7, .inl ("com/example/gyro/gyro/config/ListenAddress", [("com/example/gyro/gyro/config/ListenAddress", "host", "Ljava/lang/String;", .ref o5), ("com/example/gyro/gyro/config/ListenAddress", "port", "I", .int port0)])), (o5, .inl ("java/lang/String", [("java/lang/String", "value", "[B", .ref t6), ("java/lang/String", "coder", "B", .int 0)])), (t6, .inr (.byte, ([(chars &&& 255), ((ush chars 8) &&& 255), ((ush chars 16) &&& 255)] : List Int32).map byV)), (o4, .inr (.char, [.int (chars &&& 255), .int ((ush chars 8) &&& 255), .int ((ush chars 16) &&& 255)]))]) rfl (eS (Or.inr ⟨rfl, List.mem_of_getElem? (i := 0) rfl⟩) eN) (G := ?_)
        rintro _ _ _ ⟨rfl, rfl, rfl⟩
        refine Go.norm (D2 := [(r8, .inl ("com/example/gyro/gyro/config/ListenAddress", [("com/example/gyro/gyro/config/ListenAddress", "host", "Ljava/lang/String;", .ref o5), ("com/example/gyro/gyro/config/ListenAddress", "port", "I", .int bp)])), (o7, .inl ("com/example/gyro/gyro/config/ListenAddress", [("com/example/gyro/gyro/config/ListenAddress", "host", "Ljava/lang/String;", .ref o5), ("com/example/gyro/gyro/config/ListenAddress", "port", "I", .int port0)])), (o5, .inl ("java/lang/String", [("java/lang/String", "value", "[B", .ref t6), ("java/lang/String", "coder", "B", .int 0)])), (t6, .inr (.byte, ([(chars &&& 255), ((ush chars 8) &&& 255), ((ush chars 16) &&& 255)] : List Int32).map byV)), (o4, .inr (.char, [.int (chars &&& 255), .int ((ush chars 8) &&& 255), .int ((ush chars 16) &&& 255)]))]) (S2 := []) (c2 := 5) (s2 := 14) (st2 := [.ref o5]) ?_
        refine Go.aload d12_147 rfl (G := ?_)
        refine Go.invokevirtual false d12_149 (hw _ (List.mem_of_getElem? (i := 58) rfl)) (hw _ (List.mem_of_getElem? (i := 59) rfl)) (hw _ (List.mem_of_getElem? (i := 61) rfl)) (hw _ (List.mem_of_getElem? (i := 60) rfl)) (hw _ (List.mem_of_getElem? (i := 3) rfl)) (hw _ (List.mem_of_getElem? (i := 62) rfl)) (nfSel (hw _ (List.mem_of_getElem? (i := 61) rfl))) (inD (i := 2) rfl) (c_eqSame hw o5) pdg_9 rfl (argsL := [.ref o5]) (rest := []) rfl rfl (Dr := [(r8, .inl ("com/example/gyro/gyro/config/ListenAddress", [("com/example/gyro/gyro/config/ListenAddress", "host", "Ljava/lang/String;", .ref o5), ("com/example/gyro/gyro/config/ListenAddress", "port", "I", .int bp)])), (o7, .inl ("com/example/gyro/gyro/config/ListenAddress", [("com/example/gyro/gyro/config/ListenAddress", "host", "Ljava/lang/String;", .ref o5), ("com/example/gyro/gyro/config/ListenAddress", "port", "I", .int port0)])), (o5, .inl ("java/lang/String", [("java/lang/String", "value", "[B", .ref t6), ("java/lang/String", "coder", "B", .int 0)])), (t6, .inr (.byte, ([(chars &&& 255), ((ush chars 8) &&& 255), ((ush chars 16) &&& 255)] : List Int32).map byV)), (o4, .inr (.char, [.int (chars &&& 255), .int ((ush chars 8) &&& 255), .int ((ush chars 16) &&& 255)]))]) rfl eN (G := ?_)
        rintro _ _ _ ⟨rfl, rfl, rfl⟩
        refine Go.norm (D2 := [(r8, .inl ("com/example/gyro/gyro/config/ListenAddress", [("com/example/gyro/gyro/config/ListenAddress", "host", "Ljava/lang/String;", .ref o5), ("com/example/gyro/gyro/config/ListenAddress", "port", "I", .int bp)])), (o7, .inl ("com/example/gyro/gyro/config/ListenAddress", [("com/example/gyro/gyro/config/ListenAddress", "host", "Ljava/lang/String;", .ref o5), ("com/example/gyro/gyro/config/ListenAddress", "port", "I", .int port0)])), (o5, .inl ("java/lang/String", [("java/lang/String", "value", "[B", .ref t6), ("java/lang/String", "coder", "B", .int 0)])), (t6, .inr (.byte, ([(chars &&& 255), ((ush chars 8) &&& 255), ((ush chars 16) &&& 255)] : List Int32).map byV)), (o4, .inr (.char, [.int (chars &&& 255), .int ((ush chars 8) &&& 255), .int ((ush chars 16) &&& 255)]))]) (S2 := []) (c2 := 5) (s2 := 14) (st2 := [.int 1]) ?_
        refine Go.ifc d12_152 (pc2 := 190) (Gy := fun h => absurd h (show ¬ ((1 : Int32) = 0) by decide)) (Gn := fun _ => ?_)
        refine Go.aload d12_155 rfl (G := ?_)
        refine Go.invokevirtual true d12_157 (hw _ (List.mem_of_getElem? (i := 63) rfl)) (hw _ (List.mem_of_getElem? (i := 64) rfl)) (hw _ (List.mem_of_getElem? (i := 66) rfl)) (hw _ (List.mem_of_getElem? (i := 65) rfl)) (hw _ (List.mem_of_getElem? (i := 32) rfl)) (hw _ (List.mem_of_getElem? (i := 67) rfl)) (nfSel (hw _ (List.mem_of_getElem? (i := 66) rfl))) (inD (i := 0) rfl) (c_port hw r8 o5 bp) pdg_10 rfl (argsL := []) (rest := []) rfl rfl (Dr := [(r8, .inl ("com/example/gyro/gyro/config/ListenAddress", [("com/example/gyro/gyro/config/ListenAddress", "host", "Ljava/lang/String;", .ref o5), ("com/example/gyro/gyro/config/ListenAddress", "port", "I", .int bp)])), (o7, .inl ("com/example/gyro/gyro/config/ListenAddress", [("com/example/gyro/gyro/config/ListenAddress", "host", "Ljava/lang/String;", .ref o5), ("com/example/gyro/gyro/config/ListenAddress", "port", "I", .int port0)])), (o5, .inl ("java/lang/String", [("java/lang/String", "value", "[B", .ref t6), ("java/lang/String", "coder", "B", .int 0)])), (t6, .inr (.byte, ([(chars &&& 255), ((ush chars 8) &&& 255), ((ush chars 16) &&& 255)] : List Int32).map byV)), (o4, .inr (.char, [.int (chars &&& 255), .int ((ush chars 8) &&& 255), .int ((ush chars 16) &&& 255)]))]) rfl (eS (Or.inr ⟨rfl, List.mem_of_getElem? (i := 0) rfl⟩) eN) (G := ?_)
        rintro _ _ _ ⟨rfl, rfl, rfl⟩
        refine Go.norm (D2 := [(r8, .inl ("com/example/gyro/gyro/config/ListenAddress", [("com/example/gyro/gyro/config/ListenAddress", "host", "Ljava/lang/String;", .ref o5), ("com/example/gyro/gyro/config/ListenAddress", "port", "I", .int bp)])), (o7, .inl ("com/example/gyro/gyro/config/ListenAddress", [("com/example/gyro/gyro/config/ListenAddress", "host", "Ljava/lang/String;", .ref o5), ("com/example/gyro/gyro/config/ListenAddress", "port", "I", .int port0)])), (o5, .inl ("java/lang/String", [("java/lang/String", "value", "[B", .ref t6), ("java/lang/String", "coder", "B", .int 0)])), (t6, .inr (.byte, ([(chars &&& 255), ((ush chars 8) &&& 255), ((ush chars 16) &&& 255)] : List Int32).map byV)), (o4, .inr (.char, [.int (chars &&& 255), .int ((ush chars 8) &&& 255), .int ((ush chars 16) &&& 255)]))]) (S2 := []) (c2 := 5) (s2 := 14) (st2 := [.int bp]) ?_
        refine Go.iloadN d12_160 rfl (G := ?_)
        refine Go.icmp d12_161 (pc2 := 190) (Gy := fun h => absurd rfl h) (Gn := fun _ => ?_)
        refine Go.aload d12_164 rfl (G := ?_)
        refine Go.invokevirtual true d12_166 (hw _ (List.mem_of_getElem? (i := 53) rfl)) (hw _ (List.mem_of_getElem? (i := 54) rfl)) (hw _ (List.mem_of_getElem? (i := 56) rfl)) (hw _ (List.mem_of_getElem? (i := 55) rfl)) (hw _ (List.mem_of_getElem? (i := 32) rfl)) (hw _ (List.mem_of_getElem? (i := 57) rfl)) (nfSel (hw _ (List.mem_of_getElem? (i := 56) rfl))) (inD (i := 1) rfl) (c_host hw o7 o5 port0) pdg_8 rfl (argsL := []) (rest := []) rfl rfl (Dr := [(r8, .inl ("com/example/gyro/gyro/config/ListenAddress", [("com/example/gyro/gyro/config/ListenAddress", "host", "Ljava/lang/String;", .ref o5), ("com/example/gyro/gyro/config/ListenAddress", "port", "I", .int bp)])), (o7, .inl ("com/example/gyro/gyro/config/ListenAddress", [("com/example/gyro/gyro/config/ListenAddress", "host", "Ljava/lang/String;", .ref o5), ("com/example/gyro/gyro/config/ListenAddress", "port", "I", .int port0)])), (o5, .inl ("java/lang/String", [("java/lang/String", "value", "[B", .ref t6), ("java/lang/String", "coder", "B", .int 0)])), (t6, .inr (.byte, ([(chars &&& 255), ((ush chars 8) &&& 255), ((ush chars 16) &&& 255)] : List Int32).map byV)), (o4, .inr (.char, [.int (chars &&& 255), .int ((ush chars 8) &&& 255), .int ((ush chars 16) &&& 255)]))]) rfl (eS (Or.inr ⟨rfl, List.mem_of_getElem? (i := 1) rfl⟩) eN) (G := ?_)
        rintro _ _ _ ⟨rfl, rfl, rfl⟩
        refine Go.norm (D2 := [(r8, .inl ("com/example/gyro/gyro/config/ListenAddress", [("com/example/gyro/gyro/config/ListenAddress", "host", "Ljava/lang/String;", .ref o5), ("com/example/gyro/gyro/config/ListenAddress", "port", "I", .int bp)])), (o7, .inl ("com/example/gyro/gyro/config/ListenAddress", [("com/example/gyro/gyro/config/ListenAddress", "host", "Ljava/lang/String;", .ref o5), ("com/example/gyro/gyro/config/ListenAddress", "port", "I", .int port0)])), (o5, .inl ("java/lang/String", [("java/lang/String", "value", "[B", .ref t6), ("java/lang/String", "coder", "B", .int 0)])), (t6, .inr (.byte, ([(chars &&& 255), ((ush chars 8) &&& 255), ((ush chars 16) &&& 255)] : List Int32).map byV)), (o4, .inr (.char, [.int (chars &&& 255), .int ((ush chars 8) &&& 255), .int ((ush chars 16) &&& 255)]))]) (S2 := []) (c2 := 5) (s2 := 14) (st2 := [.ref o5]) ?_
        refine Go.aload d12_169 rfl (G := ?_)
        refine Go.invokevirtual false d12_171 (hw _ (List.mem_of_getElem? (i := 58) rfl)) (hw _ (List.mem_of_getElem? (i := 59) rfl)) (hw _ (List.mem_of_getElem? (i := 61) rfl)) (hw _ (List.mem_of_getElem? (i := 60) rfl)) (hw _ (List.mem_of_getElem? (i := 3) rfl)) (hw _ (List.mem_of_getElem? (i := 62) rfl)) (nfSel (hw _ (List.mem_of_getElem? (i := 61) rfl))) (inD (i := 2) rfl) (c_eqSame hw o5) pdg_9 rfl (argsL := [.ref o5]) (rest := []) rfl rfl (Dr := [(r8, .inl ("com/example/gyro/gyro/config/ListenAddress", [("com/example/gyro/gyro/config/ListenAddress", "host", "Ljava/lang/String;", .ref o5), ("com/example/gyro/gyro/config/ListenAddress", "port", "I", .int bp)])), (o7, .inl ("com/example/gyro/gyro/config/ListenAddress", [("com/example/gyro/gyro/config/ListenAddress", "host", "Ljava/lang/String;", .ref o5), ("com/example/gyro/gyro/config/ListenAddress", "port", "I", .int port0)])), (o5, .inl ("java/lang/String", [("java/lang/String", "value", "[B", .ref t6), ("java/lang/String", "coder", "B", .int 0)])), (t6, .inr (.byte, ([(chars &&& 255), ((ush chars 8) &&& 255), ((ush chars 16) &&& 255)] : List Int32).map byV)), (o4, .inr (.char, [.int (chars &&& 255), .int ((ush chars 8) &&& 255), .int ((ush chars 16) &&& 255)]))]) rfl eN (G := ?_)
        rintro _ _ _ ⟨rfl, rfl, rfl⟩
        refine Go.norm (D2 := [(r8, .inl ("com/example/gyro/gyro/config/ListenAddress", [("com/example/gyro/gyro/config/ListenAddress", "host", "Ljava/lang/String;", .ref o5), ("com/example/gyro/gyro/config/ListenAddress", "port", "I", .int bp)])), (o7, .inl ("com/example/gyro/gyro/config/ListenAddress", [("com/example/gyro/gyro/config/ListenAddress", "host", "Ljava/lang/String;", .ref o5), ("com/example/gyro/gyro/config/ListenAddress", "port", "I", .int port0)])), (o5, .inl ("java/lang/String", [("java/lang/String", "value", "[B", .ref t6), ("java/lang/String", "coder", "B", .int 0)])), (t6, .inr (.byte, ([(chars &&& 255), ((ush chars 8) &&& 255), ((ush chars 16) &&& 255)] : List Int32).map byV)), (o4, .inr (.char, [.int (chars &&& 255), .int ((ush chars 8) &&& 255), .int ((ush chars 16) &&& 255)]))]) (S2 := []) (c2 := 5) (s2 := 14) (st2 := [.int 1]) ?_
        refine Go.ifc d12_174 (pc2 := 190) (Gy := fun h => absurd h (show ¬ ((1 : Int32) = 0) by decide)) (Gn := fun _ => ?_)
        refine Go.aload d12_177 rfl (G := ?_)
        refine Go.invokevirtual true d12_179 (hw _ (List.mem_of_getElem? (i := 63) rfl)) (hw _ (List.mem_of_getElem? (i := 64) rfl)) (hw _ (List.mem_of_getElem? (i := 66) rfl)) (hw _ (List.mem_of_getElem? (i := 65) rfl)) (hw _ (List.mem_of_getElem? (i := 32) rfl)) (hw _ (List.mem_of_getElem? (i := 67) rfl)) (nfSel (hw _ (List.mem_of_getElem? (i := 66) rfl))) (inD (i := 1) rfl) (c_port hw o7 o5 port0) pdg_10 rfl (argsL := []) (rest := []) rfl rfl (Dr := [(r8, .inl ("com/example/gyro/gyro/config/ListenAddress", [("com/example/gyro/gyro/config/ListenAddress", "host", "Ljava/lang/String;", .ref o5), ("com/example/gyro/gyro/config/ListenAddress", "port", "I", .int bp)])), (o7, .inl ("com/example/gyro/gyro/config/ListenAddress", [("com/example/gyro/gyro/config/ListenAddress", "host", "Ljava/lang/String;", .ref o5), ("com/example/gyro/gyro/config/ListenAddress", "port", "I", .int port0)])), (o5, .inl ("java/lang/String", [("java/lang/String", "value", "[B", .ref t6), ("java/lang/String", "coder", "B", .int 0)])), (t6, .inr (.byte, ([(chars &&& 255), ((ush chars 8) &&& 255), ((ush chars 16) &&& 255)] : List Int32).map byV)), (o4, .inr (.char, [.int (chars &&& 255), .int ((ush chars 8) &&& 255), .int ((ush chars 16) &&& 255)]))]) rfl (eS (Or.inr ⟨rfl, List.mem_of_getElem? (i := 1) rfl⟩) eN) (G := ?_)
        rintro _ _ _ ⟨rfl, rfl, rfl⟩
        refine Go.norm (D2 := [(r8, .inl ("com/example/gyro/gyro/config/ListenAddress", [("com/example/gyro/gyro/config/ListenAddress", "host", "Ljava/lang/String;", .ref o5), ("com/example/gyro/gyro/config/ListenAddress", "port", "I", .int bp)])), (o7, .inl ("com/example/gyro/gyro/config/ListenAddress", [("com/example/gyro/gyro/config/ListenAddress", "host", "Ljava/lang/String;", .ref o5), ("com/example/gyro/gyro/config/ListenAddress", "port", "I", .int port0)])), (o5, .inl ("java/lang/String", [("java/lang/String", "value", "[B", .ref t6), ("java/lang/String", "coder", "B", .int 0)])), (t6, .inr (.byte, ([(chars &&& 255), ((ush chars 8) &&& 255), ((ush chars 16) &&& 255)] : List Int32).map byV)), (o4, .inr (.char, [.int (chars &&& 255), .int ((ush chars 8) &&& 255), .int ((ush chars 16) &&& 255)]))]) (S2 := []) (c2 := 5) (s2 := 14) (st2 := [.int port0]) ?_
        refine Go.iloadN d12_182 rfl (G := ?_)
        refine Go.icmp d12_183 (pc2 := 190) (Gy := fun h => absurd rfl h) (Gn := fun _ => ?_)
        refine Go.iconst d12_186 (v := 1) rfl (G := ?_)
        refine Go.goto d12_187 (pc2 := 191) (G := ?_)
        refine Go.sub [] (by decide) rfl (D' := []) rfl (S' := []) eN (G := ?_)
        exact Go.retB d12_191 (by simp) (z' := 1) rfl ⟨rfl, rfl, rfl⟩
      · have h3 : (len &&& 3) = 2 := Classical.not_not.mp h3
        refine Go.iconst d12_73 (v := 2) rfl (G := ?_)
        refine Go.newarray d12_74 (hw _ (List.mem_of_getElem? (i := 0) rfl)) (k := 2) rfl (by decide) (by decide) (vs := [.int 0, .int 0]) rfl (G := fun o13 => ?_)
        refine Go.dup d12_76 (G := ?_)
        refine Go.iconst d12_77 (v := 0) rfl (G := ?_)
        refine Go.iload d12_78 rfl (G := ?_)
        refine Go.castore d12_80 0 rfl (x' := (chars &&& 255)) (m255_c _) (Nat.le_of_ble_eq_true rfl) (D' := [(o13, .inr (.char, [.int (chars &&& 255), .int 0]))]) rfl (G := ?_)
        refine Go.dup d12_81 (G := ?_)
        refine Go.iconst d12_82 (v := 1) rfl (G := ?_)
        refine Go.iload d12_83 rfl (G := ?_)
        refine Go.castore d12_85 0 rfl (x' := ((ush chars 8) &&& 255)) (m255_c _) (Nat.le_of_ble_eq_true rfl) (D' := [(o13, .inr (.char, [.int (chars &&& 255), .int ((ush chars 8) &&& 255)]))]) rfl (G := ?_)
        refine Go.astore d12_86 (Ls' := #[.val (.int chars), .val (.int len), .val (.int port0), .val (.int bp), .val (.int (len &&& 3)), .val (.int (chars &&& 255)), .val (.int ((ush chars 8) &&& 255)), .val (.int ((ush chars 16) &&& 255)), .val (.ref o13), .unset, .unset, .unset]) rfl (G := ?_)
        refine Go.goto d12_88 (pc2 := 111) (G := ?_)
        refine Go.new d12_111 (hw _ (List.mem_of_getElem? (i := 1) rfl)) (hw _ (List.mem_of_getElem? (i := 2) rfl)) (hw _ (List.mem_of_getElem? (i := 3) rfl)) (NewF.cons (Or.inr (hw _ (List.mem_of_getElem? (i := 29) rfl))) (ty := .array .byte) (by decide +kernel) rfl (by simp) (NewF.cons (Or.inr (hw _ (List.mem_of_getElem? (i := 27) rfl))) (ty := .byte) (by decide +kernel) rfl (by simp) NewF.nil)) (G := fun o14 => ?_)
        refine Go.dup d12_114 (G := ?_)
        refine Go.aload d12_115 rfl (G := ?_)
        refine Go.invokeinit true d12_117 rfl (hw _ (List.mem_of_getElem? (i := 4) rfl)) (hw _ (List.mem_of_getElem? (i := 5) rfl)) (hw _ (List.mem_of_getElem? (i := 3) rfl)) (hw _ (List.mem_of_getElem? (i := 6) rfl)) (c_init hw o14 o13 ([(chars &&& 255), ((ush chars 8) &&& 255)] : List Int32) 2 [] cpt hCS hcpt rfl (by decide) (by decide) (eS (m255_le _) (eS (m255_le _) eN))) pdg_6 rfl (argsL := [.ref o13]) (rest := [.ref o14]) rfl rfl (Dr := [(o13, .inr (.char, [.int (chars &&& 255), .int ((ush chars 8) &&& 255)]))]) rfl (eS (Or.inr ⟨rfl, List.mem_of_getElem? (i := 0) rfl⟩) eN) (G := ?_)
        rintro _ _ _ ⟨t15, rfl, rfl, rfl⟩
        refine Go.norm (D2 := [(o14, .inl ("java/lang/String", [("java/lang/String", "value", "[B", .ref t15), ("java/lang/String", "coder", "B", .int 0)])), (t15, .inr (.byte, ([(chars &&& 255), ((ush chars 8) &&& 255)] : List Int32).map byV)), (o13, .inr (.char, [.int (chars &&& 255), .int ((ush chars 8) &&& 255)]))]) (S2 := []) (c2 := 3) (s2 := 8) (st2 := [.ref o14]) ?_
        refine Go.astore d12_120 (Ls' := #[.val (.int chars), .val (.int len), .val (.int port0), .val (.int bp), .val (.int (len &&& 3)), .val (.int (chars &&& 255)), .val (.int ((ush chars 8) &&& 255)), .val (.int ((ush chars 16) &&& 255)), .val (.ref o13), .val (.ref o14), .unset, .unset]) rfl (G := ?_)
        refine Go.new d12_122 (hw _ (List.mem_of_getElem? (i := 30) rfl)) (hw _ (List.mem_of_getElem? (i := 31) rfl)) (hw _ (List.mem_of_getElem? (i := 32) rfl)) (NewF.cons (Or.inr (hw _ (List.mem_of_getElem? (i := 43) rfl))) (ty := .object "java/lang/String") (by decide +kernel) rfl (by simp) (NewF.cons (Or.inr (hw _ (List.mem_of_getElem? (i := 45) rfl))) (ty := .int) (by decide +kernel) rfl (by simp) NewF.nil)) (G := fun o16 => ?_)
        refine Go.dup d12_125 (G := ?_)
        refine Go.aload d12_126 rfl (G := ?_)
        refine Go.iloadN d12_128 rfl (G := ?_)
        refine Go.invokeinit false d12_129 rfl (hw _ (List.mem_of_getElem? (i := 33) rfl)) (hw _ (List.mem_of_getElem? (i := 34) rfl)) (hw _ (List.mem_of_getElem? (i := 32) rfl)) (hw _ (List.mem_of_getElem? (i := 35) rfl)) (c_la hw o16 o14 port0) pdg_5 rfl (argsL := [.ref o14, .int port0]) (rest := [.ref o16]) rfl rfl (Dr := [(o14, .inl ("java/lang/String", [("java/lang/String", "value", "[B", .ref t15), ("java/lang/String", "coder", "B", .int 0)])), (t15, .inr (.byte, ([(chars &&& 255), ((ush chars 8) &&& 255)] : List Int32).map byV)), (o13, .inr (.char, [.int (chars &&& 255), .int ((ush chars 8) &&& 255)]))]) rfl eN (G := ?_)
        rintro _ _ _ ⟨rfl, rfl, rfl⟩
        refine Go.norm (D2 := [(o16, .inl ("com/example/gyro/gyro/config/ListenAddress", [("com/example/gyro/gyro/config/ListenAddress", "host", "Ljava/lang/String;", .ref o14), ("com/example/gyro/gyro/config/ListenAddress", "port", "I", .int port0)])), (o14, .inl ("java/lang/String", [("java/lang/String", "value", "[B", .ref t15), ("java/lang/String", "coder", "B", .int 0)])), (t15, .inr (.byte, ([(chars &&& 255), ((ush chars 8) &&& 255)] : List Int32).map byV)), (o13, .inr (.char, [.int (chars &&& 255), .int ((ush chars 8) &&& 255)]))]) (S2 := []) (c2 := 4) (s2 := 10) (st2 := [.ref o16]) ?_
        refine Go.astore d12_132 (Ls' := #[.val (.int chars), .val (.int len), .val (.int port0), .val (.int bp), .val (.int (len &&& 3)), .val (.int (chars &&& 255)), .val (.int ((ush chars 8) &&& 255)), .val (.int ((ush chars 16) &&& 255)), .val (.ref o13), .val (.ref o14), .val (.ref o16), .unset]) rfl (G := ?_)
        refine Go.aload d12_134 rfl (G := ?_)
        refine Go.iloadN d12_136 rfl (G := ?_)
        refine Go.invokevirtual true d12_137 (hw _ (List.mem_of_getElem? (i := 46) rfl)) (hw _ (List.mem_of_getElem? (i := 47) rfl)) (hw _ (List.mem_of_getElem? (i := 49) rfl)) (hw _ (List.mem_of_getElem? (i := 48) rfl)) (hw _ (List.mem_of_getElem? (i := 32) rfl)) (hw _ (List.mem_of_getElem? (i := 50) rfl)) (nfSel (hw _ (List.mem_of_getElem? (i := 49) rfl))) (inD (i := 0) rfl) (c_withPort hw o16 o14 port0 bp) pdg_7 rfl (argsL := [.int bp]) (rest := []) rfl rfl (Dr := [(o16, .inl ("com/example/gyro/gyro/config/ListenAddress", [("com/example/gyro/gyro/config/ListenAddress", "host", "Ljava/lang/String;", .ref o14), ("com/example/gyro/gyro/config/ListenAddress", "port", "I", .int port0)])), (o14, .inl ("java/lang/String", [("java/lang/String", "value", "[B", .ref t15), ("java/lang/String", "coder", "B", .int 0)])), (t15, .inr (.byte, ([(chars &&& 255), ((ush chars 8) &&& 255)] : List Int32).map byV)), (o13, .inr (.char, [.int (chars &&& 255), .int ((ush chars 8) &&& 255)]))]) rfl (eS (Or.inr ⟨rfl, List.mem_of_getElem? (i := 0) rfl⟩) eN) (G := ?_)
        rintro _ _ _ ⟨r17, rfl, rfl, rfl⟩
        refine Go.norm (D2 := [(r17, .inl ("com/example/gyro/gyro/config/ListenAddress", [("com/example/gyro/gyro/config/ListenAddress", "host", "Ljava/lang/String;", .ref o14), ("com/example/gyro/gyro/config/ListenAddress", "port", "I", .int bp)])), (o16, .inl ("com/example/gyro/gyro/config/ListenAddress", [("com/example/gyro/gyro/config/ListenAddress", "host", "Ljava/lang/String;", .ref o14), ("com/example/gyro/gyro/config/ListenAddress", "port", "I", .int port0)])), (o14, .inl ("java/lang/String", [("java/lang/String", "value", "[B", .ref t15), ("java/lang/String", "coder", "B", .int 0)])), (t15, .inr (.byte, ([(chars &&& 255), ((ush chars 8) &&& 255)] : List Int32).map byV)), (o13, .inr (.char, [.int (chars &&& 255), .int ((ush chars 8) &&& 255)]))]) (S2 := []) (c2 := 5) (s2 := 12) (st2 := [.ref r17]) ?_
        refine Go.astore d12_140 (Ls' := #[.val (.int chars), .val (.int len), .val (.int port0), .val (.int bp), .val (.int (len &&& 3)), .val (.int (chars &&& 255)), .val (.int ((ush chars 8) &&& 255)), .val (.int ((ush chars 16) &&& 255)), .val (.ref o13), .val (.ref o14), .val (.ref o16), .val (.ref r17)]) rfl (G := ?_)
        refine Go.aload d12_142 rfl (G := ?_)
        refine Go.invokevirtual true d12_144 (hw _ (List.mem_of_getElem? (i := 53) rfl)) (hw _ (List.mem_of_getElem? (i := 54) rfl)) (hw _ (List.mem_of_getElem? (i := 56) rfl)) (hw _ (List.mem_of_getElem? (i := 55) rfl)) (hw _ (List.mem_of_getElem? (i := 32) rfl)) (hw _ (List.mem_of_getElem? (i := 57) rfl)) (nfSel (hw _ (List.mem_of_getElem? (i := 56) rfl))) (inD (i := 0) rfl) (c_host hw r17 o14 bp) pdg_8 rfl (argsL := []) (rest := []) rfl rfl (Dr := [(r17, .inl ("com/example/gyro/gyro/config/ListenAddress", [("com/example/gyro/gyro/config/ListenAddress", "host", "Ljava/lang/String;", .ref o14), ("com/example/gyro/gyro/config/ListenAddress", "port", "I", .int bp)])), (o16, .inl ("com/example/gyro/gyro/config/ListenAddress", [("com/example/gyro/gyro/config/ListenAddress", "host", "Ljava/lang/String;", .ref o14), ("com/example/gyro/gyro/config/ListenAddress", "port", "I", .int port0)])), (o14, .inl ("java/lang/String", [("java/lang/String", "value", "[B", .ref t15), ("java/lang/String", "coder", "B", .int 0)])), (t15, .inr (.byte, ([(chars &&& 255), ((ush chars 8) &&& 255)] : List Int32).map byV)), (o13, .inr (.char, [.int (chars &&& 255), .int ((ush chars 8) &&& 255)]))]) rfl (eS (Or.inr ⟨rfl, List.mem_of_getElem? (i := 0) rfl⟩) eN) (G := ?_)
        rintro _ _ _ ⟨rfl, rfl, rfl⟩
        refine Go.norm (D2 := [(r17, .inl ("com/example/gyro/gyro/config/ListenAddress", [("com/example/gyro/gyro/config/ListenAddress", "host", "Ljava/lang/String;", .ref o14), ("com/example/gyro/gyro/config/ListenAddress", "port", "I", .int bp)])), (o16, .inl ("com/example/gyro/gyro/config/ListenAddress", [("com/example/gyro/gyro/config/ListenAddress", "host", "Ljava/lang/String;", .ref o14), ("com/example/gyro/gyro/config/ListenAddress", "port", "I", .int port0)])), (o14, .inl ("java/lang/String", [("java/lang/String", "value", "[B", .ref t15), ("java/lang/String", "coder", "B", .int 0)])), (t15, .inr (.byte, ([(chars &&& 255), ((ush chars 8) &&& 255)] : List Int32).map byV)), (o13, .inr (.char, [.int (chars &&& 255), .int ((ush chars 8) &&& 255)]))]) (S2 := []) (c2 := 5) (s2 := 12) (st2 := [.ref o14]) ?_
        refine Go.aload d12_147 rfl (G := ?_)
        refine Go.invokevirtual false d12_149 (hw _ (List.mem_of_getElem? (i := 58) rfl)) (hw _ (List.mem_of_getElem? (i := 59) rfl)) (hw _ (List.mem_of_getElem? (i := 61) rfl)) (hw _ (List.mem_of_getElem? (i := 60) rfl)) (hw _ (List.mem_of_getElem? (i := 3) rfl)) (hw _ (List.mem_of_getElem? (i := 62) rfl)) (nfSel (hw _ (List.mem_of_getElem? (i := 61) rfl))) (inD (i := 2) rfl) (c_eqSame hw o14) pdg_9 rfl (argsL := [.ref o14]) (rest := []) rfl rfl (Dr := [(r17, .inl ("com/example/gyro/gyro/config/ListenAddress", [("com/example/gyro/gyro/config/ListenAddress", "host", "Ljava/lang/String;", .ref o14), ("com/example/gyro/gyro/config/ListenAddress", "port", "I", .int bp)])), (o16, .inl ("com/example/gyro/gyro/config/ListenAddress", [("com/example/gyro/gyro/config/ListenAddress", "host", "Ljava/lang/String;", .ref o14), ("com/example/gyro/gyro/config/ListenAddress", "port", "I", .int port0)])), (o14, .inl ("java/lang/String", [("java/lang/String", "value", "[B", .ref t15), ("java/lang/String", "coder", "B", .int 0)])), (t15, .inr (.byte, ([(chars &&& 255), ((ush chars 8) &&& 255)] : List Int32).map byV)), (o13, .inr (.char, [.int (chars &&& 255), .int ((ush chars 8) &&& 255)]))]) rfl eN (G := ?_)
        rintro _ _ _ ⟨rfl, rfl, rfl⟩
        refine Go.norm (D2 := [(r17, .inl ("com/example/gyro/gyro/config/ListenAddress", [("com/example/gyro/gyro/config/ListenAddress", "host", "Ljava/lang/String;", .ref o14), ("com/example/gyro/gyro/config/ListenAddress", "port", "I", .int bp)])), (o16, .inl ("com/example/gyro/gyro/config/ListenAddress", [("com/example/gyro/gyro/config/ListenAddress", "host", "Ljava/lang/String;", .ref o14), ("com/example/gyro/gyro/config/ListenAddress", "port", "I", .int port0)])), (o14, .inl ("java/lang/String", [("java/lang/String", "value", "[B", .ref t15), ("java/lang/String", "coder", "B", .int 0)])), (t15, .inr (.byte, ([(chars &&& 255), ((ush chars 8) &&& 255)] : List Int32).map byV)), (o13, .inr (.char, [.int (chars &&& 255), .int ((ush chars 8) &&& 255)]))]) (S2 := []) (c2 := 5) (s2 := 12) (st2 := [.int 1]) ?_
        refine Go.ifc d12_152 (pc2 := 190) (Gy := fun h => absurd h (show ¬ ((1 : Int32) = 0) by decide)) (Gn := fun _ => ?_)
        refine Go.aload d12_155 rfl (G := ?_)
        refine Go.invokevirtual true d12_157 (hw _ (List.mem_of_getElem? (i := 63) rfl)) (hw _ (List.mem_of_getElem? (i := 64) rfl)) (hw _ (List.mem_of_getElem? (i := 66) rfl)) (hw _ (List.mem_of_getElem? (i := 65) rfl)) (hw _ (List.mem_of_getElem? (i := 32) rfl)) (hw _ (List.mem_of_getElem? (i := 67) rfl)) (nfSel (hw _ (List.mem_of_getElem? (i := 66) rfl))) (inD (i := 0) rfl) (c_port hw r17 o14 bp) pdg_10 rfl (argsL := []) (rest := []) rfl rfl (Dr := [(r17, .inl ("com/example/gyro/gyro/config/ListenAddress", [("com/example/gyro/gyro/config/ListenAddress", "host", "Ljava/lang/String;", .ref o14), ("com/example/gyro/gyro/config/ListenAddress", "port", "I", .int bp)])), (o16, .inl ("com/example/gyro/gyro/config/ListenAddress", [("com/example/gyro/gyro/config/ListenAddress", "host", "Ljava/lang/String;", .ref o14), ("com/example/gyro/gyro/config/ListenAddress", "port", "I", .int port0)])), (o14, .inl ("java/lang/String", [("java/lang/String", "value", "[B", .ref t15), ("java/lang/String", "coder", "B", .int 0)])), (t15, .inr (.byte, ([(chars &&& 255), ((ush chars 8) &&& 255)] : List Int32).map byV)), (o13, .inr (.char, [.int (chars &&& 255), .int ((ush chars 8) &&& 255)]))]) rfl (eS (Or.inr ⟨rfl, List.mem_of_getElem? (i := 0) rfl⟩) eN) (G := ?_)
        rintro _ _ _ ⟨rfl, rfl, rfl⟩
        refine Go.norm (D2 := [(r17, .inl ("com/example/gyro/gyro/config/ListenAddress", [("com/example/gyro/gyro/config/ListenAddress", "host", "Ljava/lang/String;", .ref o14), ("com/example/gyro/gyro/config/ListenAddress", "port", "I", .int bp)])), (o16, .inl ("com/example/gyro/gyro/config/ListenAddress", [("com/example/gyro/gyro/config/ListenAddress", "host", "Ljava/lang/String;", .ref o14), ("com/example/gyro/gyro/config/ListenAddress", "port", "I", .int port0)])), (o14, .inl ("java/lang/String", [("java/lang/String", "value", "[B", .ref t15), ("java/lang/String", "coder", "B", .int 0)])), (t15, .inr (.byte, ([(chars &&& 255), ((ush chars 8) &&& 255)] : List Int32).map byV)), (o13, .inr (.char, [.int (chars &&& 255), .int ((ush chars 8) &&& 255)]))]) (S2 := []) (c2 := 5) (s2 := 12) (st2 := [.int bp]) ?_
        refine Go.iloadN d12_160 rfl (G := ?_)
        refine Go.icmp d12_161 (pc2 := 190) (Gy := fun h => absurd rfl h) (Gn := fun _ => ?_)
        refine Go.aload d12_164 rfl (G := ?_)
        refine Go.invokevirtual true d12_166 (hw _ (List.mem_of_getElem? (i := 53) rfl)) (hw _ (List.mem_of_getElem? (i := 54) rfl)) (hw _ (List.mem_of_getElem? (i := 56) rfl)) (hw _ (List.mem_of_getElem? (i := 55) rfl)) (hw _ (List.mem_of_getElem? (i := 32) rfl)) (hw _ (List.mem_of_getElem? (i := 57) rfl)) (nfSel (hw _ (List.mem_of_getElem? (i := 56) rfl))) (inD (i := 1) rfl) (c_host hw o16 o14 port0) pdg_8 rfl (argsL := []) (rest := []) rfl rfl (Dr := [(r17, .inl ("com/example/gyro/gyro/config/ListenAddress", [("com/example/gyro/gyro/config/ListenAddress", "host", "Ljava/lang/String;", .ref o14), ("com/example/gyro/gyro/config/ListenAddress", "port", "I", .int bp)])), (o16, .inl ("com/example/gyro/gyro/config/ListenAddress", [("com/example/gyro/gyro/config/ListenAddress", "host", "Ljava/lang/String;", .ref o14), ("com/example/gyro/gyro/config/ListenAddress", "port", "I", .int port0)])), (o14, .inl ("java/lang/String", [("java/lang/String", "value", "[B", .ref t15), ("java/lang/String", "coder", "B", .int 0)])), (t15, .inr (.byte, ([(chars &&& 255), ((ush chars 8) &&& 255)] : List Int32).map byV)), (o13, .inr (.char, [.int (chars &&& 255), .int ((ush chars 8) &&& 255)]))]) rfl (eS (Or.inr ⟨rfl, List.mem_of_getElem? (i := 1) rfl⟩) eN) (G := ?_)
        rintro _ _ _ ⟨rfl, rfl, rfl⟩
        refine Go.norm (D2 := [(r17, .inl ("com/example/gyro/gyro/config/ListenAddress", [("com/example/gyro/gyro/config/ListenAddress", "host", "Ljava/lang/String;", .ref o14), ("com/example/gyro/gyro/config/ListenAddress", "port", "I", .int bp)])), (o16, .inl ("com/example/gyro/gyro/config/ListenAddress", [("com/example/gyro/gyro/config/ListenAddress", "host", "Ljava/lang/String;", .ref o14), ("com/example/gyro/gyro/config/ListenAddress", "port", "I", .int port0)])), (o14, .inl ("java/lang/String", [("java/lang/String", "value", "[B", .ref t15), ("java/lang/String", "coder", "B", .int 0)])), (t15, .inr (.byte, ([(chars &&& 255), ((ush chars 8) &&& 255)] : List Int32).map byV)), (o13, .inr (.char, [.int (chars &&& 255), .int ((ush chars 8) &&& 255)]))]) (S2 := []) (c2 := 5) (s2 := 12) (st2 := [.ref o14]) ?_
        refine Go.aload d12_169 rfl (G := ?_)
        refine Go.invokevirtual false d12_171 (hw _ (List.mem_of_getElem? (i := 58) rfl)) (hw _ (List.mem_of_getElem? (i := 59) rfl)) (hw _ (List.mem_of_getElem? (i := 61) rfl)) (hw _ (List.mem_of_getElem? (i := 60) rfl)) (hw _ (List.mem_of_getElem? (i := 3) rfl)) (hw _ (List.mem_of_getElem? (i := 62) rfl)) (nfSel (hw _ (List.mem_of_getElem? (i := 61) rfl))) (inD (i := 2) rfl) (c_eqSame hw o14) pdg_9 rfl (argsL := [.ref o14]) (rest := []) rfl rfl (Dr := [(r17, .inl ("com/example/gyro/gyro/config/ListenAddress", [("com/example/gyro/gyro/config/ListenAddress", "host", "Ljava/lang/String;", .ref o14), ("com/example/gyro/gyro/config/ListenAddress", "port", "I", .int bp)])), (o16, .inl ("com/example/gyro/gyro/config/ListenAddress", [("com/example/gyro/gyro/config/ListenAddress", "host", "Ljava/lang/String;", .ref o14), ("com/example/gyro/gyro/config/ListenAddress", "port", "I", .int port0)])), (o14, .inl ("java/lang/String", [("java/lang/String", "value", "[B", .ref t15), ("java/lang/String", "coder", "B", .int 0)])), (t15, .inr (.byte, ([(chars &&& 255), ((ush chars 8) &&& 255)] : List Int32).map byV)), (o13, .inr (.char, [.int (chars &&& 255), .int ((ush chars 8) &&& 255)]))]) rfl eN (G := ?_)
        rintro _ _ _ ⟨rfl, rfl, rfl⟩
        refine Go.norm (D2 := [(r17, .inl ("com/example/gyro/gyro/config/ListenAddress", [("com/example/gyro/gyro/config/ListenAddress", "host", "Ljava/lang/String;", .ref o14), ("com/example/gyro/gyro/config/ListenAddress", "port", "I", .int bp)])), (o16, .inl ("com/example/gyro/gyro/config/ListenAddress", [("com/example/gyro/gyro/config/ListenAddress", "host", "Ljava/lang/String;", .ref o14), ("com/example/gyro/gyro/config/ListenAddress", "port", "I", .int port0)])), (o14, .inl ("java/lang/String", [("java/lang/String", "value", "[B", .ref t15), ("java/lang/String", "coder", "B", .int 0)])), (t15, .inr (.byte, ([(chars &&& 255), ((ush chars 8) &&& 255)] : List Int32).map byV)), (o13, .inr (.char, [.int (chars &&& 255), .int ((ush chars 8) &&& 255)]))]) (S2 := []) (c2 := 5) (s2 := 12) (st2 := [.int 1]) ?_
        refine Go.ifc d12_174 (pc2 := 190) (Gy := fun h => absurd h (show ¬ ((1 : Int32) = 0) by decide)) (Gn := fun _ => ?_)
        refine Go.aload d12_177 rfl (G := ?_)
        refine Go.invokevirtual true d12_179 (hw _ (List.mem_of_getElem? (i := 63) rfl)) (hw _ (List.mem_of_getElem? (i := 64) rfl)) (hw _ (List.mem_of_getElem? (i := 66) rfl)) (hw _ (List.mem_of_getElem? (i := 65) rfl)) (hw _ (List.mem_of_getElem? (i := 32) rfl)) (hw _ (List.mem_of_getElem? (i := 67) rfl)) (nfSel (hw _ (List.mem_of_getElem? (i := 66) rfl))) (inD (i := 1) rfl) (c_port hw o16 o14 port0) pdg_10 rfl (argsL := []) (rest := []) rfl rfl (Dr := [(r17, .inl ("com/example/gyro/gyro/config/ListenAddress", [("com/example/gyro/gyro/config/ListenAddress", "host", "Ljava/lang/String;", .ref o14), ("com/example/gyro/gyro/config/ListenAddress", "port", "I", .int bp)])), (o16, .inl ("com/example/gyro/gyro/config/ListenAddress", [("com/example/gyro/gyro/config/ListenAddress", "host", "Ljava/lang/String;", .ref o14), ("com/example/gyro/gyro/config/ListenAddress", "port", "I", .int port0)])), (o14, .inl ("java/lang/String", [("java/lang/String", "value", "[B", .ref t15), ("java/lang/String", "coder", "B", .int 0)])), (t15, .inr (.byte, ([(chars &&& 255), ((ush chars 8) &&& 255)] : List Int32).map byV)), (o13, .inr (.char, [.int (chars &&& 255), .int ((ush chars 8) &&& 255)]))]) rfl (eS (Or.inr ⟨rfl, List.mem_of_getElem? (i := 1) rfl⟩) eN) (G := ?_)
        rintro _ _ _ ⟨rfl, rfl, rfl⟩
        refine Go.norm (D2 := [(r17, .inl ("com/example/gyro/gyro/config/ListenAddress", [("com/example/gyro/gyro/config/ListenAddress", "host", "Ljava/lang/String;", .ref o14), ("com/example/gyro/gyro/config/ListenAddress", "port", "I", .int bp)])), (o16, .inl ("com/example/gyro/gyro/config/ListenAddress", [("com/example/gyro/gyro/config/ListenAddress", "host", "Ljava/lang/String;", .ref o14), ("com/example/gyro/gyro/config/ListenAddress", "port", "I", .int port0)])), (o14, .inl ("java/lang/String", [("java/lang/String", "value", "[B", .ref t15), ("java/lang/String", "coder", "B", .int 0)])), (t15, .inr (.byte, ([(chars &&& 255), ((ush chars 8) &&& 255)] : List Int32).map byV)), (o13, .inr (.char, [.int (chars &&& 255), .int ((ush chars 8) &&& 255)]))]) (S2 := []) (c2 := 5) (s2 := 12) (st2 := [.int port0]) ?_
        refine Go.iloadN d12_182 rfl (G := ?_)
        refine Go.icmp d12_183 (pc2 := 190) (Gy := fun h => absurd rfl h) (Gn := fun _ => ?_)
        refine Go.iconst d12_186 (v := 1) rfl (G := ?_)
        refine Go.goto d12_187 (pc2 := 191) (G := ?_)
        refine Go.sub [] (by decide) rfl (D' := []) rfl (S' := []) eN (G := ?_)
        exact Go.retB d12_191 (by simp) (z' := 1) rfl ⟨rfl, rfl, rfl⟩
    · have h2 : (len &&& 3) = 1 := Classical.not_not.mp h2
      refine Go.iconst d12_54 (v := 1) rfl (G := ?_)
      refine Go.newarray d12_55 (hw _ (List.mem_of_getElem? (i := 0) rfl)) (k := 1) rfl (by decide) (by decide) (vs := [.int 0]) rfl (G := fun o22 => ?_)
      refine Go.dup d12_57 (G := ?_)
      refine Go.iconst d12_58 (v := 0) rfl (G := ?_)
      refine Go.iload d12_59 rfl (G := ?_)
      refine Go.castore d12_61 0 rfl (x' := (chars &&& 255)) (m255_c _) (Nat.le_of_ble_eq_true rfl) (D' := [(o22, .inr (.char, [.int (chars &&& 255)]))]) rfl (G := ?_)
      refine Go.astore d12_62 (Ls' := #[.val (.int chars), .val (.int len), .val (.int port0), .val (.int bp), .val (.int (len &&& 3)), .val (.int (chars &&& 255)), .val (.int ((ush chars 8) &&& 255)), .val (.int ((ush chars 16) &&& 255)), .val (.ref o22), .unset, .unset, .unset]) rfl (G := ?_)
      refine Go.goto d12_64 (pc2 := 111) (G := ?_)
      refine Go.new d12_111 (hw _ (List.mem_of_getElem? (i := 1) rfl)) (hw _ (List.mem_of_getElem? (i := 2) rfl)) (hw _ (List.mem_of_getElem? (i := 3) rfl)) (NewF.cons (Or.inr (hw _ (List.mem_of_getElem? (i := 29) rfl))) (ty := .array .byte) (by decide +kernel) rfl (by simp) (NewF.cons (Or.inr (hw _ (List.mem_of_getElem? (i := 27) rfl))) (ty := .byte) (by decide +kernel) rfl (by simp) NewF.nil)) (G := fun o23 => ?_)
      refine Go.dup d12_114 (G := ?_)
      refine Go.aload d12_115 rfl (G := ?_)
      refine Go.invokeinit true d12_117 rfl (hw _ (List.mem_of_getElem? (i := 4) rfl)) (hw _ (List.mem_of_getElem? (i := 5) rfl)) (hw _ (List.mem_of_getElem? (i := 3) rfl)) (hw _ (List.mem_of_getElem? (i := 6) rfl)) (c_init hw o23 o22 ([(chars &&& 255)] : List Int32) 1 [] cpt hCS hcpt rfl (by decide) (by decide) (eS (m255_le _) eN)) pdg_6 rfl (argsL := [.ref o22]) (rest := [.ref o23]) rfl rfl (Dr := [(o22, .inr (.char, [.int (chars &&& 255)]))]) rfl (eS (Or.inr ⟨rfl, List.mem_of_getElem? (i := 0) rfl⟩) eN) (G := ?_)
      rintro _ _ _ ⟨t24, rfl, rfl, rfl⟩
      refine Go.norm (D2 := [(o23, .inl ("java/lang/String", [("java/lang/String", "value", "[B", .ref t24), ("java/lang/String", "coder", "B", .int 0)])), (t24, .inr (.byte, ([(chars &&& 255)] : List Int32).map byV)), (o22, .inr (.char, [.int (chars &&& 255)]))]) (S2 := []) (c2 := 3) (s2 := 6) (st2 := [.ref o23]) ?_
      refine Go.astore d12_120 (Ls' := #[.val (.int chars), .val (.int len), .val (.int port0), .val (.int bp), .val (.int (len &&& 3)), .val (.int (chars &&& 255)), .val (.int ((ush chars 8) &&& 255)), .val (.int ((ush chars 16) &&& 255)), .val (.ref o22), .val (.ref o23), .unset, .unset]) rfl (G := ?_)
      refine Go.new d12_122 (hw _ (List.mem_of_getElem? (i := 30) rfl)) (hw _ (List.mem_of_getElem? (i := 31) rfl)) (hw _ (List.mem_of_getElem? (i := 32) rfl)) (NewF.cons (Or.inr (hw _ (List.mem_of_getElem? (i := 43) rfl))) (ty := .object "java/lang/String") (by decide +kernel) rfl (by simp) (NewF.cons (Or.inr (hw _ (List.mem_of_getElem? (i := 45) rfl))) (ty := .int) (by decide +kernel) rfl (by simp) NewF.nil)) (G := fun o25 => ?_)
      refine Go.dup d12_125 (G := ?_)
      refine Go.aload d12_126 rfl (G := ?_)
      refine Go.iloadN d12_128 rfl (G := ?_)
      refine Go.invokeinit false d12_129 rfl (hw _ (List.mem_of_getElem? (i := 33) rfl)) (hw _ (List.mem_of_getElem? (i := 34) rfl)) (hw _ (List.mem_of_getElem? (i := 32) rfl)) (hw _ (List.mem_of_getElem? (i := 35) rfl)) (c_la hw o25 o23 port0) pdg_5 rfl (argsL := [.ref o23, .int port0]) (rest := [.ref o25]) rfl rfl (Dr := [(o23, .inl ("java/lang/String", [("java/lang/String", "value", "[B", .ref t24), ("java/lang/String", "coder", "B", .int 0)])), (t24, .inr (.byte, ([(chars &&& 255)] : List Int32).map byV)), (o22, .inr (.char, [.int (chars &&& 255)]))]) rfl eN (G := ?_)
      rintro _ _ _ ⟨rfl, rfl, rfl⟩
      refine Go.norm (D2 := [(o25, .inl ("com/example/gyro/gyro/config/ListenAddress", [("com/example/gyro/gyro/config/ListenAddress", "host", "Ljava/lang/String;", .ref o23), ("com/example/gyro/gyro/config/ListenAddress", "port", "I", .int port0)])), (o23, .inl ("java/lang/String", [("java/lang/String", "value", "[B", .ref t24), ("java/lang/String", "coder", "B", .int 0)])), (t24, .inr (.byte, ([(chars &&& 255)] : List Int32).map byV)), (o22, .inr (.char, [.int (chars &&& 255)]))]) (S2 := []) (c2 := 4) (s2 := 8) (st2 := [.ref o25]) ?_
      refine Go.astore d12_132 (Ls' := #[.val (.int chars), .val (.int len), .val (.int port0), .val (.int bp), .val (.int (len &&& 3)), .val (.int (chars &&& 255)), .val (.int ((ush chars 8) &&& 255)), .val (.int ((ush chars 16) &&& 255)), .val (.ref o22), .val (.ref o23), .val (.ref o25), .unset]) rfl (G := ?_)
      refine Go.aload d12_134 rfl (G := ?_)
      refine Go.iloadN d12_136 rfl (G := ?_)
      refine Go.invokevirtual true d12_137 (hw _ (List.mem_of_getElem? (i := 46) rfl)) (hw _ (List.mem_of_getElem? (i := 47) rfl)) (hw _ (List.mem_of_getElem? (i := 49) rfl)) (hw _ (List.mem_of_getElem? (i := 48) rfl)) (hw _ (List.mem_of_getElem? (i := 32) rfl)) (hw _ (List.mem_of_getElem? (i := 50) rfl)) (nfSel (hw _ (List.mem_of_getElem? (i := 49) rfl))) (inD (i := 0) rfl) (c_withPort hw o25 o23 port0 bp) pdg_7 rfl (argsL := [.int bp]) (rest := []) rfl rfl (Dr := [(o25, .inl ("com/example/gyro/gyro/config/ListenAddress", [("com/example/gyro/gyro/config/ListenAddress", "host", "Ljava/lang/String;", .ref o23), ("com/example/gyro/gyro/config/ListenAddress", "port", "I", .int port0)])), (o23, .inl ("java/lang/String", [("java/lang/String", "value", "[B", .ref t24), ("java/lang/String", "coder", "B", .int 0)])), (t24, .inr (.byte, ([(chars &&& 255)] : List Int32).map byV)), (o22, .inr (.char, [.int (chars &&& 255)]))]) rfl (eS (Or.inr ⟨rfl, List.mem_of_getElem? (i := 0) rfl⟩) eN) (G := ?_)
      rintro _ _ _ ⟨r26, rfl, rfl, rfl⟩
      refine Go.norm (D2 := [(r26, .inl ("com/example/gyro/gyro/config/ListenAddress", [("com/example/gyro/gyro/config/ListenAddress", "host", "Ljava/lang/String;", .ref o23), ("com/example/gyro/gyro/config/ListenAddress", "port", "I", .int bp)])), (o25, .inl ("com/example/gyro/gyro/config/ListenAddress", [("com/example/gyro/gyro/config/ListenAddress", "host", "Ljava/lang/String;", .ref o23), ("com/example/gyro/gyro/config/ListenAddress", "port", "I", .int port0)])), (o23, .inl ("java/lang/String", [("java/lang/String", "value", "[B", .ref t24), ("java/lang/String", "coder", "B", .int 0)])), (t24, .inr (.byte, ([(chars &&& 255)] : List Int32).map byV)), (o22, .inr (.char, [.int (chars &&& 255)]))]) (S2 := []) (c2 := 5) (s2 := 10) (st2 := [.ref r26]) ?_
      refine Go.astore d12_140 (Ls' := #[.val (.int chars), .val (.int len), .val (.int port0), .val (.int bp), .val (.int (len &&& 3)), .val (.int (chars &&& 255)), .val (.int ((ush chars 8) &&& 255)), .val (.int ((ush chars 16) &&& 255)), .val (.ref o22), .val (.ref o23), .val (.ref o25), .val (.ref r26)]) rfl (G := ?_)
      refine Go.aload d12_142 rfl (G := ?_)
      refine Go.invokevirtual true d12_144 (hw _ (List.mem_of_getElem? (i := 53) rfl)) (hw _ (List.mem_of_getElem? (i := 54) rfl)) (hw _ (List.mem_of_getElem? (i := 56) rfl)) (hw _ (List.mem_of_getElem? (i := 55) rfl)) (hw _ (List.mem_of_getElem? (i := 32) rfl)) (hw _ (List.mem_of_getElem? (i := 57) rfl)) (nfSel (hw _ (List.mem_of_getElem? (i := 56) rfl))) (inD (i := 0) rfl) (c_host hw r26 o23 bp) pdg_8 rfl (argsL := []) (rest := []) rfl rfl (Dr := [(r26, .inl ("com/example/gyro/gyro/config/ListenAddress", [("com/example/gyro/gyro/config/ListenAddress", "host", "Ljava/lang/String;", .ref o23), ("com/example/gyro/gyro/config/ListenAddress", "port", "I", .int bp)])), (o25, .inl ("com/example/gyro/gyro/config/ListenAddress", [("com/example/gyro/gyro/config/ListenAddress", "host", "Ljava/lang/String;", .ref o23), ("com/example/gyro/gyro/config/ListenAddress", "port", "I", .int port0)])), (o23, .inl ("java/lang/String", [("java/lang/String", "value", "[B", .ref t24), ("java/lang/String", "coder", "B", .int 0)])), (t24, .inr (.byte, ([(chars &&& 255)] : List Int32).map byV)), (o22, .inr (.char, [.int (chars &&& 255)]))]) rfl (eS (Or.inr ⟨rfl, List.mem_of_getElem? (i := 0) rfl⟩) eN) (G := ?_)
      rintro _ _ _ ⟨rfl, rfl, rfl⟩
      refine Go.norm (D2 := [(r26, .inl ("com/example/gyro/gyro/config/ListenAddress", [("com/example/gyro/gyro/config/ListenAddress", "host", "Ljava/lang/String;", .ref o23), ("com/example/gyro/gyro/config/ListenAddress", "port", "I", .int bp)])), (o25, .inl ("com/example/gyro/gyro/config/ListenAddress", [("com/example/gyro/gyro/config/ListenAddress", "host", "Ljava/lang/String;", .ref o23), ("com/example/gyro/gyro/config/ListenAddress", "port", "I", .int port0)])), (o23, .inl ("java/lang/String", [("java/lang/String", "value", "[B", .ref t24), ("java/lang/String", "coder", "B", .int 0)])), (t24, .inr (.byte, ([(chars &&& 255)] : List Int32).map byV)), (o22, .inr (.char, [.int (chars &&& 255)]))]) (S2 := []) (c2 := 5) (s2 := 10) (st2 := [.ref o23]) ?_
      refine Go.aload d12_147 rfl (G := ?_)
      refine Go.invokevirtual false d12_149 (hw _ (List.mem_of_getElem? (i := 58) rfl)) (hw _ (List.mem_of_getElem? (i := 59) rfl)) (hw _ (List.mem_of_getElem? (i := 61) rfl)) (hw _ (List.mem_of_getElem? (i := 60) rfl)) (hw _ (List.mem_of_getElem? (i := 3) rfl)) (hw _ (List.mem_of_getElem? (i := 62) rfl)) (nfSel (hw _ (List.mem_of_getElem? (i := 61) rfl))) (inD (i := 2) rfl) (c_eqSame hw o23) pdg_9 rfl (argsL := [.ref o23]) (rest := []) rfl rfl (Dr := [(r26, .inl ("com/example/gyro/gyro/config/ListenAddress", [("com/example/gyro/gyro/config/ListenAddress", "host", "Ljava/lang/String;", .ref o23), ("com/example/gyro/gyro/config/ListenAddress", "port", "I", .int bp)])), (o25, .inl ("com/example/gyro/gyro/config/ListenAddress", [("com/example/gyro/gyro/config/ListenAddress", "host", "Ljava/lang/String;", .ref o23), ("com/example/gyro/gyro/config/ListenAddress", "port", "I", .int port0)])), (o23, .inl ("java/lang/String", [("java/lang/String", "value", "[B", .ref t24), ("java/lang/String", "coder", "B", .int 0)])), (t24, .inr (.byte, ([(chars &&& 255)] : List Int32).map byV)), (o22, .inr (.char, [.int (chars &&& 255)]))]) rfl eN (G := ?_)
      rintro _ _ _ ⟨rfl, rfl, rfl⟩
      refine Go.norm (D2 := [(r26, .inl ("com/example/gyro/gyro/config/ListenAddress", [("com/example/gyro/gyro/config/ListenAddress", "host", "Ljava/lang/String;", .ref o23), ("com/example/gyro/gyro/config/ListenAddress", "port", "I", .int bp)])), (o25, .inl ("com/example/gyro/gyro/config/ListenAddress", [("com/example/gyro/gyro/config/ListenAddress", "host", "Ljava/lang/String;", .ref o23), ("com/example/gyro/gyro/config/ListenAddress", "port", "I", .int port0)])), (o23, .inl ("java/lang/String", [("java/lang/String", "value", "[B", .ref t24), ("java/lang/String", "coder", "B", .int 0)])), (t24, .inr (.byte, ([(chars &&& 255)] : List Int32).map byV)), (o22, .inr (.char, [.int (chars &&& 255)]))]) (S2 := []) (c2 := 5) (s2 := 10) (st2 := [.int 1]) ?_
      refine Go.ifc d12_152 (pc2 := 190) (Gy := fun h => absurd h (show ¬ ((1 : Int32) = 0) by decide)) (Gn := fun _ => ?_)
      refine Go.aload d12_155 rfl (G := ?_)
      refine Go.invokevirtual true d12_157 (hw _ (List.mem_of_getElem? (i := 63) rfl)) (hw _ (List.mem_of_getElem? (i := 64) rfl)) (hw _ (List.mem_of_getElem? (i := 66) rfl)) (hw _ (List.mem_of_getElem? (i := 65) rfl)) (hw _ (List.mem_of_getElem? (i := 32) rfl)) (hw _ (List.mem_of_getElem? (i := 67) rfl)) (nfSel (hw _ (List.mem_of_getElem? (i := 66) rfl))) (inD (i := 0) rfl) (c_port hw r26 o23 bp) pdg_10 rfl (argsL := []) (rest := []) rfl rfl (Dr := [(r26, .inl ("com/example/gyro/gyro/config/ListenAddress", [("com/example/gyro/gyro/config/ListenAddress", "host", "Ljava/lang/String;", .ref o23), ("com/example/gyro/gyro/config/ListenAddress", "port", "I", .int bp)])), (o25, .inl ("com/example/gyro/gyro/config/ListenAddress", [("com/example/gyro/gyro/config/ListenAddress", "host", "Ljava/lang/String;", .ref o23), ("com/example/gyro/gyro/config/ListenAddress", "port", "I", .int port0)])), (o23, .inl ("java/lang/String", [("java/lang/String", "value", "[B", .ref t24), ("java/lang/String", "coder", "B", .int 0)])), (t24, .inr (.byte, ([(chars &&& 255)] : List Int32).map byV)), (o22, .inr (.char, [.int (chars &&& 255)]))]) rfl (eS (Or.inr ⟨rfl, List.mem_of_getElem? (i := 0) rfl⟩) eN) (G := ?_)
      rintro _ _ _ ⟨rfl, rfl, rfl⟩
      refine Go.norm (D2 := [(r26, .inl ("com/example/gyro/gyro/config/ListenAddress", [("com/example/gyro/gyro/config/ListenAddress", "host", "Ljava/lang/String;", .ref o23), ("com/example/gyro/gyro/config/ListenAddress", "port", "I", .int bp)])), (o25, .inl ("com/example/gyro/gyro/config/ListenAddress", [("com/example/gyro/gyro/config/ListenAddress", "host", "Ljava/lang/String;", .ref o23), ("com/example/gyro/gyro/config/ListenAddress", "port", "I", .int port0)])), (o23, .inl ("java/lang/String", [("java/lang/String", "value", "[B", .ref t24), ("java/lang/String", "coder", "B", .int 0)])), (t24, .inr (.byte, ([(chars &&& 255)] : List Int32).map byV)), (o22, .inr (.char, [.int (chars &&& 255)]))]) (S2 := []) (c2 := 5) (s2 := 10) (st2 := [.int bp]) ?_
      refine Go.iloadN d12_160 rfl (G := ?_)
      refine Go.icmp d12_161 (pc2 := 190) (Gy := fun h => absurd rfl h) (Gn := fun _ => ?_)
      refine Go.aload d12_164 rfl (G := ?_)
      refine Go.invokevirtual true d12_166 (hw _ (List.mem_of_getElem? (i := 53) rfl)) (hw _ (List.mem_of_getElem? (i := 54) rfl)) (hw _ (List.mem_of_getElem? (i := 56) rfl)) (hw _ (List.mem_of_getElem? (i := 55) rfl)) (hw _ (List.mem_of_getElem? (i := 32) rfl)) (hw _ (List.mem_of_getElem? (i := 57) rfl)) (nfSel (hw _ (List.mem_of_getElem? (i := 56) rfl))) (inD (i := 1) rfl) (c_host hw o25 o23 port0) pdg_8 rfl (argsL := []) (rest := []) rfl rfl (Dr := [(r26, .inl ("com/example/gyro/gyro/config/ListenAddress", [("com/example/gyro/gyro/config/ListenAddress", "host", "Ljava/lang/String;", .ref o23), ("com/example/gyro/gyro/config/ListenAddress", "port", "I", .int bp)])), (o25, .inl ("com/example/gyro/gyro/config/ListenAddress", [("com/example/gyro/gyro/config/ListenAddress", "host", "Ljava/lang/String;", .ref o23), ("com/example/gyro/gyro/config/ListenAddress", "port", "I", .int port0)])), (o23, .inl ("java/lang/String", [("java/lang/String", "value", "[B", .ref t24), ("java/lang/String", "coder", "B", .int 0)])), (t24, .inr (.byte, ([(chars &&& 255)] : List Int32).map byV)), (o22, .inr (.char, [.int (chars &&& 255)]))]) rfl (eS (Or.inr ⟨rfl, List.mem_of_getElem? (i := 1) rfl⟩) eN) (G := ?_)
      rintro _ _ _ ⟨rfl, rfl, rfl⟩
      refine Go.norm (D2 := [(r26, .inl ("com/example/gyro/gyro/config/ListenAddress", [("com/example/gyro/gyro/config/ListenAddress", "host", "Ljava/lang/String;", .ref o23), ("com/example/gyro/gyro/config/ListenAddress", "port", "I", .int bp)])), (o25, .inl ("com/example/gyro/gyro/config/ListenAddress", [("com/example/gyro/gyro/config/ListenAddress", "host", "Ljava/lang/String;", .ref o23), ("com/example/gyro/gyro/config/ListenAddress", "port", "I", .int port0)])), (o23, .inl ("java/lang/String", [("java/lang/String", "value", "[B", .ref t24), ("java/lang/String", "coder", "B", .int 0)])), (t24, .inr (.byte, ([(chars &&& 255)] : List Int32).map byV)), (o22, .inr (.char, [.int (chars &&& 255)]))]) (S2 := []) (c2 := 5) (s2 := 10) (st2 := [.ref o23]) ?_
      refine Go.aload d12_169 rfl (G := ?_)
      refine Go.invokevirtual false d12_171 (hw _ (List.mem_of_getElem? (i := 58) rfl)) (hw _ (List.mem_of_getElem? (i := 59) rfl)) (hw _ (List.mem_of_getElem? (i := 61) rfl)) (hw _ (List.mem_of_getElem? (i := 60) rfl)) (hw _ (List.mem_of_getElem? (i := 3) rfl)) (hw _ (List.mem_of_getElem? (i := 62) rfl)) (nfSel (hw _ (List.mem_of_getElem? (i := 61) rfl))) (inD (i := 2) rfl) (c_eqSame hw o23) pdg_9 rfl (argsL := [.ref o23]) (rest := []) rfl rfl (Dr := [(r26, .inl ("com/example/gyro/gyro/config/ListenAddress", [("com/example/gyro/gyro/config/ListenAddress", "host", "Ljava/lang/String;", .ref o23), ("com/example/gyro/gyro/config/ListenAddress", "port", "I", .int bp)])), (o25, .inl ("com/example/gyro/gyro/config/ListenAddress", [("com/example/gyro/gyro/config/ListenAddress", "host", "Ljava/lang/String;", .ref o23), ("com/example/gyro/gyro/config/ListenAddress", "port", "I", .int port0)])), (o23, .inl ("java/lang/String", [("java/lang/String", "value", "[B", .ref t24), ("java/lang/String", "coder", "B", .int 0)])), (t24, .inr (.byte, ([(chars &&& 255)] : List Int32).map byV)), (o22, .inr (.char, [.int (chars &&& 255)]))]) rfl eN (G := ?_)
      rintro _ _ _ ⟨rfl, rfl, rfl⟩
      refine Go.norm (D2 := [(r26, .inl ("com/example/gyro/gyro/config/ListenAddress", [("com/example/gyro/gyro/config/ListenAddress", "host", "Ljava/lang/String;", .ref o23), ("com/example/gyro/gyro/config/ListenAddress", "port", "I", .int bp)])), (o25, .inl ("com/example/gyro/gyro/config/ListenAddress", [("com/example/gyro/gyro/config/ListenAddress", "host", "Ljava/lang/String;", .ref o23), ("com/example/gyro/gyro/config/ListenAddress", "port", "I", .int port0)])), (o23, .inl ("java/lang/String", [("java/lang/String", "value", "[B", .ref t24), ("java/lang/String", "coder", "B", .int 0)])), (t24, .inr (.byte, ([(chars &&& 255)] : List Int32).map byV)), (o22, .inr (.char, [.int (chars &&& 255)]))]) (S2 := []) (c2 := 5) (s2 := 10) (st2 := [.int 1]) ?_
      refine Go.ifc d12_174 (pc2 := 190) (Gy := fun h => absurd h (show ¬ ((1 : Int32) = 0) by decide)) (Gn := fun _ => ?_)
      refine Go.aload d12_177 rfl (G := ?_)
      refine Go.invokevirtual true d12_179 (hw _ (List.mem_of_getElem? (i := 63) rfl)) (hw _ (List.mem_of_getElem? (i := 64) rfl)) (hw _ (List.mem_of_getElem? (i := 66) rfl)) (hw _ (List.mem_of_getElem? (i := 65) rfl)) (hw _ (List.mem_of_getElem? (i := 32) rfl)) (hw _ (List.mem_of_getElem? (i := 67) rfl)) (nfSel (hw _ (List.mem_of_getElem? (i := 66) rfl))) (inD (i := 1) rfl) (c_port hw o25 o23 port0) pdg_10 rfl (argsL := []) (rest := []) rfl rfl (Dr := [(r26, .inl ("com/example/gyro/gyro/config/ListenAddress", [("com/example/gyro/gyro/config/ListenAddress", "host", "Ljava/lang/String;", .ref o23), ("com/example/gyro/gyro/config/ListenAddress", "port", "I", .int bp)])), (o25, .inl ("com/example/gyro/gyro/config/ListenAddress", [("com/example/gyro/gyro/config/ListenAddress", "host", "Ljava/lang/String;", .ref o23), ("com/example/gyro/gyro/config/ListenAddress", "port", "I", .int port0)])), (o23, .inl ("java/lang/String", [("java/lang/String", "value", "[B", .ref t24), ("java/lang/String", "coder", "B", .int 0)])), (t24, .inr (.byte, ([(chars &&& 255)] : List Int32).map byV)), (o22, .inr (.char, [.int (chars &&& 255)]))]) rfl (eS (Or.inr ⟨rfl, List.mem_of_getElem? (i := 1) rfl⟩) eN) (G := ?_)
      rintro _ _ _ ⟨rfl, rfl, rfl⟩
      refine Go.norm (D2 := [(r26, .inl ("com/example/gyro/gyro/config/ListenAddress", [("com/example/gyro/gyro/config/ListenAddress", "host", "Ljava/lang/String;", .ref o23), ("com/example/gyro/gyro/config/ListenAddress", "port", "I", .int bp)])), (o25, .inl ("com/example/gyro/gyro/config/ListenAddress", [("com/example/gyro/gyro/config/ListenAddress", "host", "Ljava/lang/String;", .ref o23), ("com/example/gyro/gyro/config/ListenAddress", "port", "I", .int port0)])), (o23, .inl ("java/lang/String", [("java/lang/String", "value", "[B", .ref t24), ("java/lang/String", "coder", "B", .int 0)])), (t24, .inr (.byte, ([(chars &&& 255)] : List Int32).map byV)), (o22, .inr (.char, [.int (chars &&& 255)]))]) (S2 := []) (c2 := 5) (s2 := 10) (st2 := [.int port0]) ?_
      refine Go.iloadN d12_182 rfl (G := ?_)
      refine Go.icmp d12_183 (pc2 := 190) (Gy := fun h => absurd rfl h) (Gn := fun _ => ?_)
      refine Go.iconst d12_186 (v := 1) rfl (G := ?_)
      refine Go.goto d12_187 (pc2 := 191) (G := ?_)
      refine Go.sub [] (by decide) rfl (D' := []) rfl (S' := []) eN (G := ?_)
      exact Go.retB d12_191 (by simp) (z' := 1) rfl ⟨rfl, rfl, rfl⟩
  · have h1 : (len &&& 3) = 0 := Classical.not_not.mp h1
    refine Go.iconst d12_40 (v := 0) rfl (G := ?_)
    refine Go.newarray d12_41 (hw _ (List.mem_of_getElem? (i := 0) rfl)) (k := 0) rfl (by decide) (by decide) (vs := []) rfl (G := fun o31 => ?_)
    refine Go.astore d12_43 (Ls' := #[.val (.int chars), .val (.int len), .val (.int port0), .val (.int bp), .val (.int (len &&& 3)), .val (.int (chars &&& 255)), .val (.int ((ush chars 8) &&& 255)), .val (.int ((ush chars 16) &&& 255)), .val (.ref o31), .unset, .unset, .unset]) rfl (G := ?_)
    refine Go.goto d12_45 (pc2 := 111) (G := ?_)
    refine Go.new d12_111 (hw _ (List.mem_of_getElem? (i := 1) rfl)) (hw _ (List.mem_of_getElem? (i := 2) rfl)) (hw _ (List.mem_of_getElem? (i := 3) rfl)) (NewF.cons (Or.inr (hw _ (List.mem_of_getElem? (i := 29) rfl))) (ty := .array .byte) (by decide +kernel) rfl (by simp) (NewF.cons (Or.inr (hw _ (List.mem_of_getElem? (i := 27) rfl))) (ty := .byte) (by decide +kernel) rfl (by simp) NewF.nil)) (G := fun o32 => ?_)
    refine Go.dup d12_114 (G := ?_)
    refine Go.aload d12_115 rfl (G := ?_)
    refine Go.invokeinit false d12_117 rfl (hw _ (List.mem_of_getElem? (i := 4) rfl)) (hw _ (List.mem_of_getElem? (i := 5) rfl)) (hw _ (List.mem_of_getElem? (i := 3) rfl)) (hw _ (List.mem_of_getElem? (i := 6) rfl)) (c_init0 hw o32 o31 [] hb1 hE_String_7) pdg_6 rfl (argsL := [.ref o31]) (rest := [.ref o32]) rfl rfl (Dr := []) rfl eN (G := ?_)
    rintro _ _ _ ⟨kc34, rfl, rfl, rfl⟩
    refine Go.norm (D2 := [(o32, .inl ("java/lang/String", [("java/lang/String", "value", "[B", .ref kc34), ("java/lang/String", "coder", "B", .int 0)])), (o31, .inr (.char, []))]) (S2 := [(kc34, .inr (.byte, []))]) (c2 := 6) (s2 := 12) (st2 := [.ref o32]) ?_
    refine Go.astore d12_120 (Ls' := #[.val (.int chars), .val (.int len), .val (.int port0), .val (.int bp), .val (.int (len &&& 3)), .val (.int (chars &&& 255)), .val (.int ((ush chars 8) &&& 255)), .val (.int ((ush chars 16) &&& 255)), .val (.ref o31), .val (.ref o32), .unset, .unset]) rfl (G := ?_)
    refine Go.new d12_122 (hw _ (List.mem_of_getElem? (i := 30) rfl)) (hw _ (List.mem_of_getElem? (i := 31) rfl)) (hw _ (List.mem_of_getElem? (i := 32) rfl)) (NewF.cons (Or.inr (hw _ (List.mem_of_getElem? (i := 43) rfl))) (ty := .object "java/lang/String") (by decide +kernel) rfl (by simp) (NewF.cons (Or.inr (hw _ (List.mem_of_getElem? (i := 45) rfl))) (ty := .int) (by decide +kernel) rfl (by simp) NewF.nil)) (G := fun o35 => ?_)
    refine Go.dup d12_125 (G := ?_)
    refine Go.aload d12_126 rfl (G := ?_)
    refine Go.iloadN d12_128 rfl (G := ?_)
    refine Go.invokeinit false d12_129 rfl (hw _ (List.mem_of_getElem? (i := 33) rfl)) (hw _ (List.mem_of_getElem? (i := 34) rfl)) (hw _ (List.mem_of_getElem? (i := 32) rfl)) (hw _ (List.mem_of_getElem? (i := 35) rfl)) (c_la hw o35 o32 port0) pdg_5 rfl (argsL := [.ref o32, .int port0]) (rest := [.ref o35]) rfl rfl (Dr := [(o32, .inl ("java/lang/String", [("java/lang/String", "value", "[B", .ref kc34), ("java/lang/String", "coder", "B", .int 0)])), (o31, .inr (.char, []))]) rfl eN (G := ?_)
    rintro _ _ _ ⟨rfl, rfl, rfl⟩
    refine Go.norm (D2 := [(o35, .inl ("com/example/gyro/gyro/config/ListenAddress", [("com/example/gyro/gyro/config/ListenAddress", "host", "Ljava/lang/String;", .ref o32), ("com/example/gyro/gyro/config/ListenAddress", "port", "I", .int port0)])), (o32, .inl ("java/lang/String", [("java/lang/String", "value", "[B", .ref kc34), ("java/lang/String", "coder", "B", .int 0)])), (o31, .inr (.char, []))]) (S2 := [(kc34, .inr (.byte, []))]) (c2 := 7) (s2 := 14) (st2 := [.ref o35]) ?_
    refine Go.astore d12_132 (Ls' := #[.val (.int chars), .val (.int len), .val (.int port0), .val (.int bp), .val (.int (len &&& 3)), .val (.int (chars &&& 255)), .val (.int ((ush chars 8) &&& 255)), .val (.int ((ush chars 16) &&& 255)), .val (.ref o31), .val (.ref o32), .val (.ref o35), .unset]) rfl (G := ?_)
    refine Go.aload d12_134 rfl (G := ?_)
    refine Go.iloadN d12_136 rfl (G := ?_)
    refine Go.invokevirtual true d12_137 (hw _ (List.mem_of_getElem? (i := 46) rfl)) (hw _ (List.mem_of_getElem? (i := 47) rfl)) (hw _ (List.mem_of_getElem? (i := 49) rfl)) (hw _ (List.mem_of_getElem? (i := 48) rfl)) (hw _ (List.mem_of_getElem? (i := 32) rfl)) (hw _ (List.mem_of_getElem? (i := 50) rfl)) (nfSel (hw _ (List.mem_of_getElem? (i := 49) rfl))) (inD (i := 0) rfl) (c_withPort hw o35 o32 port0 bp) pdg_7 rfl (argsL := [.int bp]) (rest := []) rfl rfl (Dr := [(o35, .inl ("com/example/gyro/gyro/config/ListenAddress", [("com/example/gyro/gyro/config/ListenAddress", "host", "Ljava/lang/String;", .ref o32), ("com/example/gyro/gyro/config/ListenAddress", "port", "I", .int port0)])), (o32, .inl ("java/lang/String", [("java/lang/String", "value", "[B", .ref kc34), ("java/lang/String", "coder", "B", .int 0)])), (o31, .inr (.char, []))]) rfl (eS (Or.inr ⟨rfl, List.mem_of_getElem? (i := 0) rfl⟩) eN) (G := ?_)
    rintro _ _ _ ⟨r36, rfl, rfl, rfl⟩
    refine Go.norm (D2 := [(r36, .inl ("com/example/gyro/gyro/config/ListenAddress", [("com/example/gyro/gyro/config/ListenAddress", "host", "Ljava/lang/String;", .ref o32), ("com/example/gyro/gyro/config/ListenAddress", "port", "I", .int bp)])), (o35, .inl ("com/example/gyro/gyro/config/ListenAddress", [("com/example/gyro/gyro/config/ListenAddress", "host", "Ljava/lang/String;", .ref o32), ("com/example/gyro/gyro/config/ListenAddress", "port", "I", .int port0)])), (o32, .inl ("java/lang/String", [("java/lang/String", "value", "[B", .ref kc34), ("java/lang/String", "coder", "B", .int 0)])), (o31, .inr (.char, []))]) (S2 := [(kc34, .inr (.byte, []))]) (c2 := 8) (s2 := 16) (st2 := [.ref r36]) ?_
    refine Go.astore d12_140 (Ls' := #[.val (.int chars), .val (.int len), .val (.int port0), .val (.int bp), .val (.int (len &&& 3)), .val (.int (chars &&& 255)), .val (.int ((ush chars 8) &&& 255)), .val (.int ((ush chars 16) &&& 255)), .val (.ref o31), .val (.ref o32), .val (.ref o35), .val (.ref r36)]) rfl (G := ?_)
    refine Go.aload d12_142 rfl (G := ?_)
    refine Go.invokevirtual true d12_144 (hw _ (List.mem_of_getElem? (i := 53) rfl)) (hw _ (List.mem_of_getElem? (i := 54) rfl)) (hw _ (List.mem_of_getElem? (i := 56) rfl)) (hw _ (List.mem_of_getElem? (i := 55) rfl)) (hw _ (List.mem_of_getElem? (i := 32) rfl)) (hw _ (List.mem_of_getElem? (i := 57) rfl)) (nfSel (hw _ (List.mem_of_getElem? (i := 56) rfl))) (inD (i := 0) rfl) (c_host hw r36 o32 bp) pdg_8 rfl (argsL := []) (rest := []) rfl rfl (Dr := [(r36, .inl ("com/example/gyro/gyro/config/ListenAddress", [("com/example/gyro/gyro/config/ListenAddress", "host", "Ljava/lang/String;", .ref o32), ("com/example/gyro/gyro/config/ListenAddress", "port", "I", .int bp)])), (o35, .inl ("com/example/gyro/gyro/config/ListenAddress", [("com/example/gyro/gyro/config/ListenAddress", "host", "Ljava/lang/String;", .ref o32), ("com/example/gyro/gyro/config/ListenAddress", "port", "I", .int port0)])), (o32, .inl ("java/lang/String", [("java/lang/String", "value", "[B", .ref kc34), ("java/lang/String", "coder", "B", .int 0)])), (o31, .inr (.char, []))]) rfl (eS (Or.inr ⟨rfl, List.mem_of_getElem? (i := 0) rfl⟩) eN) (G := ?_)
    rintro _ _ _ ⟨rfl, rfl, rfl⟩
    refine Go.norm (D2 := [(r36, .inl ("com/example/gyro/gyro/config/ListenAddress", [("com/example/gyro/gyro/config/ListenAddress", "host", "Ljava/lang/String;", .ref o32), ("com/example/gyro/gyro/config/ListenAddress", "port", "I", .int bp)])), (o35, .inl ("com/example/gyro/gyro/config/ListenAddress", [("com/example/gyro/gyro/config/ListenAddress", "host", "Ljava/lang/String;", .ref o32), ("com/example/gyro/gyro/config/ListenAddress", "port", "I", .int port0)])), (o32, .inl ("java/lang/String", [("java/lang/String", "value", "[B", .ref kc34), ("java/lang/String", "coder", "B", .int 0)])), (o31, .inr (.char, []))]) (S2 := [(kc34, .inr (.byte, []))]) (c2 := 8) (s2 := 16) (st2 := [.ref o32]) ?_
    refine Go.aload d12_147 rfl (G := ?_)
    refine Go.invokevirtual false d12_149 (hw _ (List.mem_of_getElem? (i := 58) rfl)) (hw _ (List.mem_of_getElem? (i := 59) rfl)) (hw _ (List.mem_of_getElem? (i := 61) rfl)) (hw _ (List.mem_of_getElem? (i := 60) rfl)) (hw _ (List.mem_of_getElem? (i := 3) rfl)) (hw _ (List.mem_of_getElem? (i := 62) rfl)) (nfSel (hw _ (List.mem_of_getElem? (i := 61) rfl))) (inD (i := 2) rfl) (c_eqSame hw o32) pdg_9 rfl (argsL := [.ref o32]) (rest := []) rfl rfl (Dr := [(r36, .inl ("com/example/gyro/gyro/config/ListenAddress", [("com/example/gyro/gyro/config/ListenAddress", "host", "Ljava/lang/String;", .ref o32), ("com/example/gyro/gyro/config/ListenAddress", "port", "I", .int bp)])), (o35, .inl ("com/example/gyro/gyro/config/ListenAddress", [("com/example/gyro/gyro/config/ListenAddress", "host", "Ljava/lang/String;", .ref o32), ("com/example/gyro/gyro/config/ListenAddress", "port", "I", .int port0)])), (o32, .inl ("java/lang/String", [("java/lang/String", "value", "[B", .ref kc34), ("java/lang/String", "coder", "B", .int 0)])), (o31, .inr (.char, []))]) rfl eN (G := ?_)
    rintro _ _ _ ⟨rfl, rfl, rfl⟩
    refine Go.norm (D2 := [(r36, .inl ("com/example/gyro/gyro/config/ListenAddress", [("com/example/gyro/gyro/config/ListenAddress", "host", "Ljava/lang/String;", .ref o32), ("com/example/gyro/gyro/config/ListenAddress", "port", "I", .int bp)])), (o35, .inl ("com/example/gyro/gyro/config/ListenAddress", [("com/example/gyro/gyro/config/ListenAddress", "host", "Ljava/lang/String;", .ref o32), ("com/example/gyro/gyro/config/ListenAddress", "port", "I", .int port0)])), (o32, .inl ("java/lang/String", [("java/lang/String", "value", "[B", .ref kc34), ("java/lang/String", "coder", "B", .int 0)])), (o31, .inr (.char, []))]) (S2 := [(kc34, .inr (.byte, []))]) (c2 := 8) (s2 := 16) (st2 := [.int 1]) ?_
    refine Go.ifc d12_152 (pc2 := 190) (Gy := fun h => absurd h (show ¬ ((1 : Int32) = 0) by decide)) (Gn := fun _ => ?_)
    refine Go.aload d12_155 rfl (G := ?_)
    refine Go.invokevirtual true d12_157 (hw _ (List.mem_of_getElem? (i := 63) rfl)) (hw _ (List.mem_of_getElem? (i := 64) rfl)) (hw _ (List.mem_of_getElem? (i := 66) rfl)) (hw _ (List.mem_of_getElem? (i := 65) rfl)) (hw _ (List.mem_of_getElem? (i := 32) rfl)) (hw _ (List.mem_of_getElem? (i := 67) rfl)) (nfSel (hw _ (List.mem_of_getElem? (i := 66) rfl))) (inD (i := 0) rfl) (c_port hw r36 o32 bp) pdg_10 rfl (argsL := []) (rest := []) rfl rfl (Dr := [(r36, .inl ("com/example/gyro/gyro/config/ListenAddress", [("com/example/gyro/gyro/config/ListenAddress", "host", "Ljava/lang/String;", .ref o32), ("com/example/gyro/gyro/config/ListenAddress", "port", "I", .int bp)])), (o35, .inl ("com/example/gyro/gyro/config/ListenAddress", [("com/example/gyro/gyro/config/ListenAddress", "host", "Ljava/lang/String;", .ref o32), ("com/example/gyro/gyro/config/ListenAddress", "port", "I", .int port0)])), (o32, .inl ("java/lang/String", [("java/lang/String", "value", "[B", .ref kc34), ("java/lang/String", "coder", "B", .int 0)])), (o31, .inr (.char, []))]) rfl (eS (Or.inr ⟨rfl, List.mem_of_getElem? (i := 0) rfl⟩) eN) (G := ?_)
    rintro _ _ _ ⟨rfl, rfl, rfl⟩
    refine Go.norm (D2 := [(r36, .inl ("com/example/gyro/gyro/config/ListenAddress", [("com/example/gyro/gyro/config/ListenAddress", "host", "Ljava/lang/String;", .ref o32), ("com/example/gyro/gyro/config/ListenAddress", "port", "I", .int bp)])), (o35, .inl ("com/example/gyro/gyro/config/ListenAddress", [("com/example/gyro/gyro/config/ListenAddress", "host", "Ljava/lang/String;", .ref o32), ("com/example/gyro/gyro/config/ListenAddress", "port", "I", .int port0)])), (o32, .inl ("java/lang/String", [("java/lang/String", "value", "[B", .ref kc34), ("java/lang/String", "coder", "B", .int 0)])), (o31, .inr (.char, []))]) (S2 := [(kc34, .inr (.byte, []))]) (c2 := 8) (s2 := 16) (st2 := [.int bp]) ?_
    refine Go.iloadN d12_160 rfl (G := ?_)
    refine Go.icmp d12_161 (pc2 := 190) (Gy := fun h => absurd rfl h) (Gn := fun _ => ?_)
    refine Go.aload d12_164 rfl (G := ?_)
    refine Go.invokevirtual true d12_166 (hw _ (List.mem_of_getElem? (i := 53) rfl)) (hw _ (List.mem_of_getElem? (i := 54) rfl)) (hw _ (List.mem_of_getElem? (i := 56) rfl)) (hw _ (List.mem_of_getElem? (i := 55) rfl)) (hw _ (List.mem_of_getElem? (i := 32) rfl)) (hw _ (List.mem_of_getElem? (i := 57) rfl)) (nfSel (hw _ (List.mem_of_getElem? (i := 56) rfl))) (inD (i := 1) rfl) (c_host hw o35 o32 port0) pdg_8 rfl (argsL := []) (rest := []) rfl rfl (Dr := [(r36, .inl ("com/example/gyro/gyro/config/ListenAddress", [("com/example/gyro/gyro/config/ListenAddress", "host", "Ljava/lang/String;", .ref o32), ("com/example/gyro/gyro/config/ListenAddress", "port", "I", .int bp)])), (o35, .inl ("com/example/gyro/gyro/config/ListenAddress", [("com/example/gyro/gyro/config/ListenAddress", "host", "Ljava/lang/String;", .ref o32), ("com/example/gyro/gyro/config/ListenAddress", "port", "I", .int port0)])), (o32, .inl ("java/lang/String", [("java/lang/String", "value", "[B", .ref kc34), ("java/lang/String", "coder", "B", .int 0)])), (o31, .inr (.char, []))]) rfl (eS (Or.inr ⟨rfl, List.mem_of_getElem? (i := 1) rfl⟩) eN) (G := ?_)
    rintro _ _ _ ⟨rfl, rfl, rfl⟩
    refine Go.norm (D2 := [(r36, .inl ("com/example/gyro/gyro/config/ListenAddress", [("com/example/gyro/gyro/config/ListenAddress", "host", "Ljava/lang/String;", .ref o32), ("com/example/gyro/gyro/config/ListenAddress", "port", "I", .int bp)])), (o35, .inl ("com/example/gyro/gyro/config/ListenAddress", [("com/example/gyro/gyro/config/ListenAddress", "host", "Ljava/lang/String;", .ref o32), ("com/example/gyro/gyro/config/ListenAddress", "port", "I", .int port0)])), (o32, .inl ("java/lang/String", [("java/lang/String", "value", "[B", .ref kc34), ("java/lang/String", "coder", "B", .int 0)])), (o31, .inr (.char, []))]) (S2 := [(kc34, .inr (.byte, []))]) (c2 := 8) (s2 := 16) (st2 := [.ref o32]) ?_
    refine Go.aload d12_169 rfl (G := ?_)
    refine Go.invokevirtual false d12_171 (hw _ (List.mem_of_getElem? (i := 58) rfl)) (hw _ (List.mem_of_getElem? (i := 59) rfl)) (hw _ (List.mem_of_getElem? (i := 61) rfl)) (hw _ (List.mem_of_getElem? (i := 60) rfl)) (hw _ (List.mem_of_getElem? (i := 3) rfl)) (hw _ (List.mem_of_getElem? (i := 62) rfl)) (nfSel (hw _ (List.mem_of_getElem? (i := 61) rfl))) (inD (i := 2) rfl) (c_eqSame hw o32) pdg_9 rfl (argsL := [.ref o32]) (rest := []) rfl rfl (Dr := [(r36, .inl ("com/example/gyro/gyro/config/ListenAddress", [("com/example/gyro/gyro/config/ListenAddress", "host", "Ljava/lang/String;", .ref o32), ("com/example/gyro/gyro/config/ListenAddress", "port", "I", .int bp)])), (o35, .inl ("com/example/gyro/gyro/config/ListenAddress", [("com/example/gyro/gyro/config/ListenAddress", "host", "Ljava/lang/String;", .ref o32), ("com/example/gyro/gyro/config/ListenAddress", "port", "I", .int port0)])), (o32, .inl ("java/lang/String", [("java/lang/String", "value", "[B", .ref kc34), ("java/lang/String", "coder", "B", .int 0)])), (o31, .inr (.char, []))]) rfl eN (G := ?_)
    rintro _ _ _ ⟨rfl, rfl, rfl⟩
    refine Go.norm (D2 := [(r36, .inl ("com/example/gyro/gyro/config/ListenAddress", [("com/example/gyro/gyro/config/ListenAddress", "host", "Ljava/lang/String;", .ref o32), ("com/example/gyro/gyro/config/ListenAddress", "port", "I", .int bp)])), (o35, .inl ("com/example/gyro/gyro/config/ListenAddress", [("com/example/gyro/gyro/config/ListenAddress", "host", "Ljava/lang/String;", .ref o32), ("com/example/gyro/gyro/config/ListenAddress", "port", "I", .int port0)])), (o32, .inl ("java/lang/String", [("java/lang/String", "value", "[B", .ref kc34), ("java/lang/String", "coder", "B", .int 0)])), (o31, .inr (.char, []))]) (S2 := [(kc34, .inr (.byte, []))]) (c2 := 8) (s2 := 16) (st2 := [.int 1]) ?_
    refine Go.ifc d12_174 (pc2 := 190) (Gy := fun h => absurd h (show ¬ ((1 : Int32) = 0) by decide)) (Gn := fun _ => ?_)
    refine Go.aload d12_177 rfl (G := ?_)
    refine Go.invokevirtual true d12_179 (hw _ (List.mem_of_getElem? (i := 63) rfl)) (hw _ (List.mem_of_getElem? (i := 64) rfl)) (hw _ (List.mem_of_getElem? (i := 66) rfl)) (hw _ (List.mem_of_getElem? (i := 65) rfl)) (hw _ (List.mem_of_getElem? (i := 32) rfl)) (hw _ (List.mem_of_getElem? (i := 67) rfl)) (nfSel (hw _ (List.mem_of_getElem? (i := 66) rfl))) (inD (i := 1) rfl) (c_port hw o35 o32 port0) pdg_10 rfl (argsL := []) (rest := []) rfl rfl (Dr := [(r36, .inl ("com/example/gyro/gyro/config/ListenAddress", [("com/example/gyro/gyro/config/ListenAddress", "host", "Ljava/lang/String;", .ref o32), ("com/example/gyro/gyro/config/ListenAddress", "port", "I", .int bp)])), (o35, .inl ("com/example/gyro/gyro/config/ListenAddress", [("com/example/gyro/gyro/config/ListenAddress", "host", "Ljava/lang/String;", .ref o32), ("com/example/gyro/gyro/config/ListenAddress", "port", "I", .int port0)])), (o32, .inl ("java/lang/String", [("java/lang/String", "value", "[B", .ref kc34), ("java/lang/String", "coder", "B", .int 0)])), (o31, .inr (.char, []))]) rfl (eS (Or.inr ⟨rfl, List.mem_of_getElem? (i := 1) rfl⟩) eN) (G := ?_)
    rintro _ _ _ ⟨rfl, rfl, rfl⟩
    refine Go.norm (D2 := [(r36, .inl ("com/example/gyro/gyro/config/ListenAddress", [("com/example/gyro/gyro/config/ListenAddress", "host", "Ljava/lang/String;", .ref o32), ("com/example/gyro/gyro/config/ListenAddress", "port", "I", .int bp)])), (o35, .inl ("com/example/gyro/gyro/config/ListenAddress", [("com/example/gyro/gyro/config/ListenAddress", "host", "Ljava/lang/String;", .ref o32), ("com/example/gyro/gyro/config/ListenAddress", "port", "I", .int port0)])), (o32, .inl ("java/lang/String", [("java/lang/String", "value", "[B", .ref kc34), ("java/lang/String", "coder", "B", .int 0)])), (o31, .inr (.char, []))]) (S2 := [(kc34, .inr (.byte, []))]) (c2 := 8) (s2 := 16) (st2 := [.int port0]) ?_
    refine Go.iloadN d12_182 rfl (G := ?_)
    refine Go.icmp d12_183 (pc2 := 190) (Gy := fun h => absurd rfl h) (Gn := fun _ => ?_)
    refine Go.iconst d12_186 (v := 1) rfl (G := ?_)
    refine Go.goto d12_187 (pc2 := 191) (G := ?_)
    refine Go.sub [] (by decide) rfl (D' := []) rfl (S' := []) eN (G := ?_)
    exact Go.retB d12_191 (by simp) (z' := 1) rfl ⟨rfl, rfl, rfl⟩
set_option maxRecDepth 65536 in
set_option maxHeartbeats 40000000 in
theorem comes_1 {Post : Tables → Env → Array Value → State → Outcome → State → Prop} (hpost : ∀ tb e args s v u, (limb_1_1.after args s (.returned v) u = true ∧ limb_1_2.after args s (.returned v) u = true ∧ True) → ReturnedEndW s (.returned v) u (Jvm.fieldLocs frame_1_writes args s ++ Jvm.arrayLocs frame_1_arrays args s ++ Jvm.staticLocs frame_1_statics s) 24 1152 → Post tb e args s (.returned v) u) :
    ArmFor flags0 classFile x code maxLocals ret World_1 tables_1 room_1 Calls_1 rest_1 Pre_1 Post := by
  intro l hfl _ _ p e ha hc hk s m args below hf hA hF happ hP
  obtain ⟨hcalls, hrest, hpre⟩ := hP
  obtain ⟨-, -, -, hnamed, -, -, -, hat⟩ := (Spec.applies_iff hf).mp happ
  obtain ⟨hg, hn⟩ := and_e (Cond.before_iff.mp (show (Jvm.Cond.and given_1 narrow_1).before args s = true from hpre))
  obtain ⟨hcount, g0⟩ := and_e hg
  obtain ⟨t0, g1⟩ := and_e g0
  obtain ⟨t1, g2⟩ := and_e g1
  obtain ⟨t2, g3⟩ := and_e g2
  obtain ⟨w0, w1, w2, w3, rfl⟩ : ∃ w0 w1 w2 w3 : Value, args = #[w0, w1, w2, w3] := by
    have hs : args.size = 4 := by simpa [Cond.value, given_1] using hcount
    obtain ⟨L⟩ := args
    match L, hs with
    | [w0, w1, w2, w3], _ => exact ⟨w0, w1, w2, w3, rfl⟩
  have hw := fun d (hd : d ∈ tables_1) => atoms_spec (ws := Jvm.Cond.code x code maxLocals ret :: tables_1) hat d (List.mem_cons_of_mem _ hd)
  obtain ⟨hsets, hown0⟩ := atoms_of _ (rest_1_c_eq ▸ (show rest_1_c.before _ s = true from hrest))
  have hfit : Fit s := fun {y c} hc i hi => by
    obtain ⟨ha, rfl⟩ := Array.getElem?_eq_some_iff.mp hc
    have q := List.all_eq_true.mp ((Array.all_eq_true_iff_forall_mem.mp hF) _ (Array.getElem_mem ha)) i (List.mem_range.mpr hi)
    simpa [Array.getElem?_eq_getElem hi] using q
  obtain ⟨x0, ex0⟩ := is_v t0
  obtain rfl : w0 = (.int x0) := Option.some.inj ex0
  obtain ⟨x1, ex1⟩ := is_v t1
  obtain rfl : w1 = (.int x1) := Option.some.inj ex1
  obtain ⟨x2, ex2⟩ := is_v t2
  obtain rfl : w2 = (.int x2) := Option.some.inj ex2
  obtain ⟨x3, ex3⟩ := is_v g3
  obtain rfl : w3 = (.int x3) := Option.some.inj ex3
  have nz := not_v (Cond.before_iff.mp (hsets _ (List.mem_of_getElem? (i := 2) rfl)))
  obtain ⟨cpt, ecs⟩ := is_v (Cond.before_iff.mp (hsets _ (List.mem_of_getElem? (i := 1) rfl)))
  have hCS : Sta s s.heap "java/lang/String" "COMPACT_STRINGS" "Z" (.int cpt) := Sta.start ecs (Or.inl (hsets _ (List.mem_of_getElem? (i := 0) rfl)))
  have hcpt : ¬ (cpt = (0 : Int32)) := gotF (Cond.eq_ints ecs (Term.int_eval (0))) nz
  obtain ⟨fmt, efm, hfm⟩ := isR_v (Cond.before_iff.mp (hsets _ (List.mem_of_getElem? (i := 8) rfl)))
  have hFM : Sta s s.heap "jdk/internal/util/Preconditions" "SIOOBE_FORMATTER" "Ljava/util/function/BiFunction;" fmt := Sta.start efm (Or.inl (hsets _ (List.mem_of_getElem? (i := 7) rfl)))
  have hEW : EW s #[.int x0, .int x1, .int x2, .int x3] ([("java/lang/String", 7)] : List (String × Nat)) := (EW.cons (hw _ (List.mem_of_getElem? (i := 68) rfl)) (by decide) EW.nil)
  have hCH : CHv s ([("java/lang/String", 7)] : List (String × Nat)) s.vm s.heap := CHv.start hEW (show ∀ p ∈ ([("java/lang/String", 7)] : List (String × Nat)), Jvm.Lit.constHeld s p.1 p.2 from hcalls.1) (hsets _ (List.mem_of_getElem? (i := 2) rfl)) (hw _ (List.mem_of_getElem? (i := 19) rfl)) (hw _ (List.mem_of_getElem? (i := 2) rfl))
  obtain ⟨n, o, r1, r2, r3, v, L, rfl, ⟨D', S', hQ, hHH, -, -, -, hFr, -, -, hwb⟩, hend⟩ := c_law (l := l) (EL := ([("java/lang/String", 7)] : List (String × Nat))) (b := true) (n0 := s.heap.size) hw x0 x1 x2 x3 cpt hCS hcpt rfl (by simp) (fun _ => False) p e ha hc hk s m _ below hf ((Spec.applies_iff_loose hf).mp happ).1 ⟨rfl, hEW, State.Warmed39.refl s, hCH, Old.start s, ⟨eN, eN, List.nodup_nil, eN⟩, eN, eN, fun _ q => False.elim q⟩ trivial
  obtain ⟨rfl, -, -⟩ := hQ
  exact ⟨n, _, r1, r2, r3, hpost _ _ _ _ _ _ ⟨Cond.after_iff.mpr rfl, Cond.after_iff.mpr (eq_i res_at (Term.int_eval (1)) rfl), trivial⟩ ⟨hend.1, hend.2.1, hend.2.2.1, (hend.2.2.2.sift fun y hy => Or.inr (hFr y hy)).mono (by decide) (by decide)⟩⟩
theorem main_1_1 : Claimed_1_1 := comes_1 fun _ _ _ _ _ _ h hF => ⟨h.1, hF⟩
theorem main_1_2 : Claimed_1_2 := comes_1 fun _ _ _ _ _ _ h hF => ⟨h.2.1, hF⟩
end Jvm.Pilot.@@N@@
namespace Jvm.Pilot.@@N@@
open Jvm Jvm.ClassFile Sem Op Lib Jvm.Free Jvm.Stand Jvm.Pilot.@@N@@.Jvm.D
/-! MADE BY PROGRAM (witnessworld.py) out of the Statement's table words and the real class files: 21 classes; the members and pool entries that the words name. The judged class is class 1, her method 1. -/
namespace start1
open Jvm.ClassFile
def u (s : String) : CpInfo := .utf8 (stringToUtf16 s)
/-- a pool by its gaps: so many unusable entries, then the entry; so many at the end -/
def gap : Nat → List CpInfo → List CpInfo
  | 0, r => r
  | n + 1, r => .unusable :: gap n r
def poolList (es : List (Nat × CpInfo)) (last : Nat) : List CpInfo := es.foldr (fun e r => gap e.1 (e.2 :: r)) (gap last [])
def pool (es : List (Nat × CpInfo)) (last : Nat) : Array CpInfo := ⟨poolList es last⟩
def fileOf (pool : Array CpInfo) (this : Nat) (attrs : Array Attribute := #[]) (ms : Array MethodInfo := #[]) (fl : Nat := 33) (sup : Nat := 0) (ifs : Array Nat := #[]) (fds : Array FieldInfo := #[]) : ClassFile where
  minorVersion := 0
  majorVersion := 65
  constantPool := pool
  accessFlags := fl
  thisClass := this
  superClass := sup
  interfaces := ifs
  fields := fds
  methods := ms
  attributes := attrs
def plain (name : String) (sup : Option ClassId) : Class where
  name := name
  kind := .ordinary
  loader := none
  accessFlags := 33
  super := sup
  interfaces := #[]
  cf := none
  fields := #[]
  methods := #[]
  instanceTypes := #[]
  staticTypes := #[]
  resolved := #[]
  callSites := []
  init := .initialized
  statics := none
  mirror := none

def pool0 : Array CpInfo := pool [(5, u "<init>"), (0, u "()V"), (1, .class_ 10), (1, u "java/lang/Object")] 113

def k0c0 : Code := { maxStack := 0, maxLocals := 1, code := object_method_1_code, exceptionTable := #[], attributes := #[] }
def k0m0 : Method := { name := "<init>", desc := "()V", sig := { parameters := [], returnType := none }, accessFlags := 1, code := some k0c0 }
/-- java/lang/Object -/
def k0 : Class := { plain "java/lang/Object" none with
  accessFlags := 33
  interfaces := #[]
  cf := some (fileOf pool0 8 #[] #[{ accessFlags := 1, nameIndex := 5, descriptorIndex := 6, attributes := #[] }] 33 0 #[] #[])
  fields := #[]
  methods := #[k0m0]
  instanceTypes := #[]
  staticTypes := #[]
  resolved := Array.replicate 124 none
  statics := none }

def pool1 : Array CpInfo := pool [(2, .class_ 4), (1, u "java/lang/Object"), (0, u "<init>"), (0, u "()V"), (0, .class_ 8), (0, u "java/lang/String"), (0, .methodref 7 10), (0, .nameAndType 5 11), (0, u "([C)V"), (0, .class_ 13), (0, u "com/example/gyro/gyro/config/ListenAddress"), (0, .methodref 12 15), (0, .nameAndType 5 16), (0, u "(Ljava/lang/String;I)V"), (0, .methodref 12 18), (0, .nameAndType 19 20), (0, u "withPort"), (0, u "(I)Lcom/example/gyro/gyro/config/ListenAddress;"), (0, .methodref 12 22), (0, .nameAndType 23 24), (0, u "host"), (0, u "()Ljava/lang/String;"), (0, .methodref 7 26), (0, .nameAndType 27 28), (0, u "equals"), (0, u "(Ljava/lang/Object;)Z"), (0, .methodref 12 30), (0, .nameAndType 31 32), (0, u "port"), (0, u "()I"), (0, .class_ 34), (0, u "com/example/gyro/gyro/config/ListenAddressWithPortPinLaw"), (2, u "law"), (0, u "(IIII)Z")] 5

def k1m0 : Method := { name := "<init>", desc := "()V", sig := { parameters := [], returnType := none }, accessFlags := 1, code := none }
def k1c1 : Code := { maxStack := 4, maxLocals := 12, code := code, exceptionTable := #[], attributes := #[] }
def k1m1 : Method := { name := "law", desc := "(IIII)Z", sig := { parameters := [.int, .int, .int, .int], returnType := some .boolean }, accessFlags := 9, code := some k1c1 }
/-- com/example/gyro/gyro/config/ListenAddressWithPortPinLaw -/
def k1 : Class := { plain "com/example/gyro/gyro/config/ListenAddressWithPortPinLaw" (some 0) with
  accessFlags := 49
  interfaces := #[]
  cf := some (fileOf pool1 33 #[] #[{ accessFlags := 1, nameIndex := 5, descriptorIndex := 6, attributes := #[] }, { accessFlags := 9, nameIndex := 37, descriptorIndex := 38, attributes := #[] }] 49 2 #[] #[])
  fields := #[]
  methods := #[k1m0, k1m1]
  instanceTypes := #[]
  staticTypes := #[]
  resolved := Array.replicate 44 none
  statics := none }

def pool2 : Array CpInfo := pool [(1, .class_ 2), (0, u "java/io/Serializable"), (0, .class_ 4), (0, u "java/lang/Object")] 2

/-- java/io/Serializable -/
def k2 : Class := { plain "java/io/Serializable" (some 0) with
  accessFlags := 1537
  interfaces := #[]
  cf := some (fileOf pool2 1 #[] #[] 1537 3 #[] #[])
  fields := #[]
  methods := #[]
  instanceTypes := #[]
  staticTypes := #[]
  resolved := Array.replicate 7 none
  statics := none }

def pool3 : Array CpInfo := pool [(1, .class_ 2), (0, u "java/lang/Comparable"), (0, .class_ 4), (0, u "java/lang/Object")] 7

/-- java/lang/Comparable -/
def k3 : Class := { plain "java/lang/Comparable" (some 0) with
  accessFlags := 1537
  interfaces := #[]
  cf := some (fileOf pool3 1 #[] #[] 1537 3 #[] #[])
  fields := #[]
  methods := #[]
  instanceTypes := #[]
  staticTypes := #[]
  resolved := Array.replicate 12 none
  statics := none }

def pool4 : Array CpInfo := pool [(2, .class_ 4), (1, u "java/lang/CharSequence"), (42, .class_ 48), (0, u "java/lang/CharSequence$1CodePointIterator"), (10, .class_ 60), (0, u "java/lang/CharSequence$1CharIterator"), (5, .class_ 67), (0, u "java/lang/Object")] 63

/-- java/lang/CharSequence -/
def k4 : Class := { plain "java/lang/CharSequence" (some 0) with
  accessFlags := 1537
  interfaces := #[]
  cf := some (fileOf pool4 2 #[.nestMembers #[47, 59]] #[] 1537 66 #[] #[])
  fields := #[]
  methods := #[]
  instanceTypes := #[]
  staticTypes := #[]
  resolved := Array.replicate 131 none
  statics := none }

def pool5 : Array CpInfo := pool [(1, .class_ 2), (0, u "java/lang/constant/Constable"), (0, .class_ 4), (0, u "java/lang/Object")] 6

/-- java/lang/constant/Constable -/
def k5 : Class := { plain "java/lang/constant/Constable" (some 0) with
  accessFlags := 1537
  interfaces := #[]
  cf := some (fileOf pool5 1 #[] #[] 1537 3 #[] #[])
  fields := #[]
  methods := #[]
  instanceTypes := #[]
  staticTypes := #[]
  resolved := Array.replicate 11 none
  statics := none }

def pool6 : Array CpInfo := pool [(1, .class_ 2), (0, u "java/lang/constant/ConstantDesc"), (0, .class_ 4), (0, u "java/lang/Object")] 32

/-- java/lang/constant/ConstantDesc -/
def k6 : Class := { plain "java/lang/constant/ConstantDesc" (some 0) with
  accessFlags := 1537
  interfaces := #[]
  cf := some (fileOf pool6 1 #[] #[] 1537 3 #[] #[])
  fields := #[]
  methods := #[]
  instanceTypes := #[]
  staticTypes := #[]
  resolved := Array.replicate 37 none
  statics := none }

def pool7 : Array CpInfo := pool [(1, .methodref 2 3), (0, .class_ 4), (0, .nameAndType 5 6), (0, u "java/lang/Object"), (0, u "<init>"), (0, u "()V"), (0, .string 8), (0, u ""), (0, .fieldref 10 11), (0, .class_ 12), (0, .nameAndType 13 14), (0, u "java/lang/String"), (0, u "value"), (0, u "[B"), (0, .fieldref 10 16), (0, .nameAndType 17 18), (0, u "coder"), (0, u "B"), (2, u "hash"), (0, u "I"), (2, u "hashIsZero"), (0, u "Z"), (0, .methodref 10 28), (0, .nameAndType 5 29), (0, u "([CIILjava/lang/Void;)V"), (8, .fieldref 10 39), (0, .nameAndType 40 26), (0, u "COMPACT_STRINGS"), (1, .class_ 44), (1, u "java/lang/StringUTF16"), (0, u "compress"), (1, .methodref 42 48), (0, .nameAndType 49 50), (0, u "coderFromArrayLen"), (0, u "([BI)B"), (126, .methodref 42 178), (0, .nameAndType 45 179), (0, u "([CII)[B"), (363, u "equals"), (29, u "(Ljava/lang/Object;)Z"), (1, .class_ 576), (0, u "java/lang/CharSequence"), (22, u "CASE_INSENSITIVE_ORDER"), (0, u "Ljava/util/Comparator;"), (409, u "([C)V"), (90, u "serialPersistentFields"), (0, u "[Ljava/io/ObjectStreamField;"), (0, .class_ 1104), (0, u "java/lang/String$CaseInsensitiveComparator"), (1, .class_ 1107), (0, u "java/io/Serializable"), (0, .class_ 1109), (0, u "java/lang/Comparable"), (0, .class_ 1111), (0, u "java/lang/constant/Constable"), (0, .class_ 1113), (0, u "java/lang/constant/ConstantDesc"), (2, u "serialVersionUID"), (0, u "J"), (3, u "REPL"), (0, u "C"), (2, u "LATIN1"), (1, u "UTF16")] 323

def k7m0 : Method := { name := "<init>", desc := "()V", sig := { parameters := [], returnType := none }, accessFlags := 1, code := none }
def k7c1 : Code := { maxStack := 5, maxLocals := 2, code := jdk_42_method_3_code, exceptionTable := #[], attributes := #[] }
def k7m1 : Method := { name := "<init>", desc := "([C)V", sig := { parameters := [(.array .char)], returnType := none }, accessFlags := 1, code := some k7c1 }
def k7c2 : Code := { maxStack := 2, maxLocals := 3, code := jdk_42_method_66_code, exceptionTable := #[], attributes := #[] }
def k7m2 : Method := { name := "equals", desc := "(Ljava/lang/Object;)Z", sig := { parameters := [(.object "java/lang/Object")], returnType := some .boolean }, accessFlags := 1, code := some k7c2 }
def k7c3 : Code := { maxStack := 4, maxLocals := 6, code := jdk_42_method_149_code, exceptionTable := #[], attributes := #[] }
def k7m3 : Method := { name := "<init>", desc := "([CIILjava/lang/Void;)V", sig := { parameters := [(.array .char), .int, .int, (.object "java/lang/Void")], returnType := none }, accessFlags := 2, code := some k7c3 }
/-- java/lang/String -/
def k7 : Class := { plain "java/lang/String" (some 0) with
  accessFlags := 49
  interfaces := #[2, 3, 4, 5, 6]
  cf := some (fileOf pool7 10 #[.nestMembers #[1103]] #[{ accessFlags := 1, nameIndex := 5, descriptorIndex := 6, attributes := #[] }, { accessFlags := 1, nameIndex := 5, descriptorIndex := 1010, attributes := #[] }, { accessFlags := 1, nameIndex := 543, descriptorIndex := 573, attributes := #[] }, { accessFlags := 2, nameIndex := 5, descriptorIndex := 29, attributes := #[] }] 49 2 #[1106, 1108, 575, 1110, 1112] #[{ accessFlags := 18, nameIndex := 13, descriptorIndex := 14, attributes := #[] }, { accessFlags := 18, nameIndex := 17, descriptorIndex := 18, attributes := #[] }, { accessFlags := 2, nameIndex := 21, descriptorIndex := 22, attributes := #[] }, { accessFlags := 2, nameIndex := 25, descriptorIndex := 26, attributes := #[] }, { accessFlags := 26, nameIndex := 1116, descriptorIndex := 1117, attributes := #[] }, { accessFlags := 24, nameIndex := 40, descriptorIndex := 26, attributes := #[] }, { accessFlags := 26, nameIndex := 1101, descriptorIndex := 1102, attributes := #[] }, { accessFlags := 26, nameIndex := 1121, descriptorIndex := 1122, attributes := #[] }, { accessFlags := 25, nameIndex := 599, descriptorIndex := 600, attributes := #[] }, { accessFlags := 24, nameIndex := 1125, descriptorIndex := 18, attributes := #[] }, { accessFlags := 24, nameIndex := 1127, descriptorIndex := 18, attributes := #[] }])
  fields := #[{ name := "value", type := (.array .byte), accessFlags := 18, slot := 0, constantValue := 0 }, { name := "coder", type := .byte, accessFlags := 18, slot := 1, constantValue := 0 }, { name := "hash", type := .int, accessFlags := 2, slot := 2, constantValue := 0 }, { name := "hashIsZero", type := .boolean, accessFlags := 2, slot := 3, constantValue := 0 }, { name := "serialVersionUID", type := .long, accessFlags := 26, slot := 0, constantValue := 0 }, { name := "COMPACT_STRINGS", type := .boolean, accessFlags := 24, slot := 1, constantValue := 0 }, { name := "serialPersistentFields", type := (.array (.object "java/io/ObjectStreamField")), accessFlags := 26, slot := 2, constantValue := 0 }, { name := "REPL", type := .char, accessFlags := 26, slot := 3, constantValue := 0 }, { name := "CASE_INSENSITIVE_ORDER", type := (.object "java/util/Comparator"), accessFlags := 25, slot := 4, constantValue := 0 }, { name := "LATIN1", type := .byte, accessFlags := 24, slot := 5, constantValue := 0 }, { name := "UTF16", type := .byte, accessFlags := 24, slot := 6, constantValue := 0 }]
  methods := #[k7m0, k7m1, k7m2, k7m3]
  instanceTypes := #[(.array .byte), .byte, .int, .boolean]
  staticTypes := #[.long, .boolean, (.array (.object "java/io/ObjectStreamField")), .char, (.object "java/util/Comparator"), .byte, .byte]
  resolved := Array.replicate 1451 none
  statics := some 0 }

def pool8 : Array CpInfo := pool [(6, .class_ 8), (1, u "java/lang/Object"), (0, u "<init>"), (0, u "()V"), (1, .class_ 14), (1, u "java/lang/StringUTF16"), (31, u "$assertionsDisabled"), (0, u "Z"), (13, u "HI_BYTE_SHIFT"), (0, u "I"), (2, u "LO_BYTE_SHIFT"), (49, .methodref 12 116), (0, .nameAndType 117 118), (0, u "compress"), (0, u "([CI[BII)I"), (3, u "([CII)[B"), (138, u "coderFromArrayLen"), (0, u "([BI)B"), (106, .class_ 371), (1, u "java/lang/StringUTF16$LinesSpliterator"), (58, u "MAX_LENGTH"), (196, .class_ 628), (0, u "java/lang/StringUTF16$CodePointsSpliterator"), (0, .class_ 630), (0, u "java/lang/StringUTF16$CharsSpliterator")] 4

def k8m0 : Method := { name := "<init>", desc := "()V", sig := { parameters := [], returnType := none }, accessFlags := 0, code := none }
def k8c1 : Code := { maxStack := 2, maxLocals := 2, code := jdk_52_method_15_code, exceptionTable := #[], attributes := #[] }
def k8m1 : Method := { name := "coderFromArrayLen", desc := "([BI)B", sig := { parameters := [(.array .byte), .int], returnType := some .byte }, accessFlags := 8, code := some k8c1 }
def k8c2 : Code := { maxStack := 5, maxLocals := 6, code := jdk_52_method_16_code, exceptionTable := #[], attributes := #[] }
def k8m2 : Method := { name := "compress", desc := "([CII)[B", sig := { parameters := [(.array .char), .int, .int], returnType := some (.array .byte) }, accessFlags := 9, code := some k8c2 }
def k8c3 : Code := { maxStack := 3, maxLocals := 7, code := jdk_52_method_21_code, exceptionTable := #[], attributes := #[] }
def k8m3 : Method := { name := "compress", desc := "([CI[BII)I", sig := { parameters := [(.array .char), .int, (.array .byte), .int, .int], returnType := some .int }, accessFlags := 9, code := some k8c3 }
/-- java/lang/StringUTF16 -/
def k8 : Class := { plain "java/lang/StringUTF16" (some 0) with
  accessFlags := 48
  interfaces := #[]
  cf := some (fileOf pool8 12 #[.nestMembers #[627, 629, 369]] #[{ accessFlags := 0, nameIndex := 9, descriptorIndex := 10, attributes := #[] }, { accessFlags := 8, nameIndex := 261, descriptorIndex := 262, attributes := #[] }, { accessFlags := 9, nameIndex := 117, descriptorIndex := 122, attributes := #[] }, { accessFlags := 9, nameIndex := 117, descriptorIndex := 118, attributes := #[] }] 48 6 #[] #[{ accessFlags := 26, nameIndex := 61, descriptorIndex := 62, attributes := #[] }, { accessFlags := 26, nameIndex := 65, descriptorIndex := 62, attributes := #[] }, { accessFlags := 24, nameIndex := 430, descriptorIndex := 62, attributes := #[] }, { accessFlags := 4120, nameIndex := 46, descriptorIndex := 47, attributes := #[] }])
  fields := #[{ name := "HI_BYTE_SHIFT", type := .int, accessFlags := 26, slot := 0, constantValue := 0 }, { name := "LO_BYTE_SHIFT", type := .int, accessFlags := 26, slot := 1, constantValue := 0 }, { name := "MAX_LENGTH", type := .int, accessFlags := 24, slot := 2, constantValue := 0 }, { name := "$assertionsDisabled", type := .boolean, accessFlags := 4120, slot := 3, constantValue := 0 }]
  methods := #[k8m0, k8m1, k8m2, k8m3]
  instanceTypes := #[]
  staticTypes := #[.int, .int, .int, .boolean]
  resolved := Array.replicate 635 none
  statics := none }

def pool9 : Array CpInfo := pool [(1, .methodref 2 3), (0, .class_ 4), (0, .nameAndType 5 6), (0, u "java/lang/Object"), (0, u "<init>"), (0, u "()V"), (0, .class_ 8), (0, u "java/lang/Record")] 13

def k9c0 : Code := { maxStack := 1, maxLocals := 1, code := jdk_30_method_1_code, exceptionTable := #[], attributes := #[] }
def k9m0 : Method := { name := "<init>", desc := "()V", sig := { parameters := [], returnType := none }, accessFlags := 4, code := some k9c0 }
/-- java/lang/Record -/
def k9 : Class := { plain "java/lang/Record" (some 0) with
  accessFlags := 1057
  interfaces := #[]
  cf := some (fileOf pool9 7 #[] #[{ accessFlags := 4, nameIndex := 5, descriptorIndex := 6, attributes := #[] }] 1057 2 #[] #[])
  fields := #[]
  methods := #[k9m0]
  instanceTypes := #[]
  staticTypes := #[]
  resolved := Array.replicate 22 none
  statics := none }

def pool10 : Array CpInfo := pool [(1, .methodref 2 3), (0, .class_ 4), (0, .nameAndType 5 6), (0, u "java/lang/Record"), (0, u "<init>"), (0, u "()V"), (0, .fieldref 8 9), (0, .class_ 10), (0, .nameAndType 11 12), (0, u "com/example/gyro/gyro/config/ListenAddress"), (0, u "host"), (0, u "Ljava/lang/String;"), (0, .fieldref 8 14), (0, .nameAndType 15 16), (0, u "port"), (0, u "I"), (2, u "FORM"), (0, u "Ljava/util/regex/Pattern;"), (40, u "()I"), (4, .methodref 8 67), (0, .nameAndType 5 68), (0, u "(Ljava/lang/String;I)V"), (35, u "MAX_PORT"), (9, u "withPort"), (0, u "(I)Lcom/example/gyro/gyro/config/ListenAddress;"), (1, u "()Ljava/lang/String;")] 33

def k10c0 : Code := { maxStack := 2, maxLocals := 3, code := prog_21_method_1_code, exceptionTable := #[], attributes := #[] }
def k10m0 : Method := { name := "<init>", desc := "(Ljava/lang/String;I)V", sig := { parameters := [(.object "java/lang/String"), .int], returnType := none }, accessFlags := 1, code := some k10c0 }
def k10c1 : Code := { maxStack := 4, maxLocals := 2, code := prog_21_method_3_code, exceptionTable := #[], attributes := #[] }
def k10m1 : Method := { name := "withPort", desc := "(I)Lcom/example/gyro/gyro/config/ListenAddress;", sig := { parameters := [.int], returnType := some (.object "com/example/gyro/gyro/config/ListenAddress") }, accessFlags := 1, code := some k10c1 }
def k10c2 : Code := { maxStack := 1, maxLocals := 1, code := prog_21_method_8_code, exceptionTable := #[], attributes := #[] }
def k10m2 : Method := { name := "host", desc := "()Ljava/lang/String;", sig := { parameters := [], returnType := some (.object "java/lang/String") }, accessFlags := 1, code := some k10c2 }
def k10c3 : Code := { maxStack := 1, maxLocals := 1, code := prog_21_method_9_code, exceptionTable := #[], attributes := #[] }
def k10m3 : Method := { name := "port", desc := "()I", sig := { parameters := [], returnType := some .int }, accessFlags := 1, code := some k10c3 }
/-- com/example/gyro/gyro/config/ListenAddress -/
def k10 : Class := { plain "com/example/gyro/gyro/config/ListenAddress" (some 9) with
  accessFlags := 49
  interfaces := #[]
  cf := some (fileOf pool10 8 #[] #[{ accessFlags := 1, nameIndex := 5, descriptorIndex := 68, attributes := #[] }, { accessFlags := 1, nameIndex := 114, descriptorIndex := 115, attributes := #[] }, { accessFlags := 1, nameIndex := 11, descriptorIndex := 117, attributes := #[] }, { accessFlags := 1, nameIndex := 15, descriptorIndex := 61, attributes := #[] }] 49 2 #[] #[{ accessFlags := 18, nameIndex := 11, descriptorIndex := 12, attributes := #[] }, { accessFlags := 18, nameIndex := 15, descriptorIndex := 16, attributes := #[] }, { accessFlags := 26, nameIndex := 19, descriptorIndex := 20, attributes := #[] }, { accessFlags := 26, nameIndex := 104, descriptorIndex := 16, attributes := #[] }])
  fields := #[{ name := "host", type := (.object "java/lang/String"), accessFlags := 18, slot := 0, constantValue := 0 }, { name := "port", type := .int, accessFlags := 18, slot := 1, constantValue := 0 }, { name := "FORM", type := (.object "java/util/regex/Pattern"), accessFlags := 26, slot := 0, constantValue := 0 }, { name := "MAX_PORT", type := .int, accessFlags := 26, slot := 1, constantValue := 0 }]
  methods := #[k10m0, k10m1, k10m2, k10m3]
  instanceTypes := #[(.object "java/lang/String"), .int]
  staticTypes := #[(.object "java/util/regex/Pattern"), .int]
  resolved := Array.replicate 151 none
  statics := none }

def pool11 : Array CpInfo := pool [(4, .class_ 6), (1, u "java/lang/Object"), (0, u "<init>"), (0, u "()V"), (5, .class_ 16), (1, u "java/lang/StringLatin1"), (104, u "$assertionsDisabled"), (0, u "Z"), (98, .class_ 223), (1, u "java/lang/StringLatin1$LinesSpliterator"), (166, .class_ 391), (0, u "java/lang/StringLatin1$CharsSpliterator")] 3

def k11m0 : Method := { name := "<init>", desc := "()V", sig := { parameters := [], returnType := none }, accessFlags := 0, code := none }
/-- java/lang/StringLatin1 -/
def k11 : Class := { plain "java/lang/StringLatin1" (some 0) with
  accessFlags := 48
  interfaces := #[]
  cf := some (fileOf pool11 14 #[.nestMembers #[390, 221]] #[{ accessFlags := 0, nameIndex := 7, descriptorIndex := 8, attributes := #[] }] 48 4 #[] #[{ accessFlags := 4120, nameIndex := 121, descriptorIndex := 122, attributes := #[] }])
  fields := #[{ name := "$assertionsDisabled", type := .boolean, accessFlags := 4120, slot := 0, constantValue := 0 }]
  methods := #[k11m0]
  instanceTypes := #[]
  staticTypes := #[.boolean]
  resolved := Array.replicate 395 none
  statics := none }

def pool12 : Array CpInfo := pool [(2, .class_ 4), (1, u "java/lang/Object"), (0, u "<init>"), (0, u "()V"), (17, .class_ 26), (1, u "jdk/internal/util/Preconditions"), (28, .class_ 56), (0, u "jdk/internal/util/Preconditions$4"), (57, .class_ 115), (0, u "jdk/internal/util/Preconditions$1"), (7, u "SIOOBE_FORMATTER"), (0, u "Ljava/util/function/BiFunction;"), (0, .class_ 126), (0, u "jdk/internal/util/Preconditions$2"), (3, u "AIOOBE_FORMATTER"), (0, .class_ 132), (0, u "jdk/internal/util/Preconditions$3"), (3, u "IOOBE_FORMATTER")] 57

def k12m0 : Method := { name := "<init>", desc := "()V", sig := { parameters := [], returnType := none }, accessFlags := 1, code := none }
/-- jdk/internal/util/Preconditions -/
def k12 : Class := { plain "jdk/internal/util/Preconditions" (some 0) with
  accessFlags := 33
  interfaces := #[]
  cf := some (fileOf pool12 24 #[.nestMembers #[55, 131, 125, 114]] #[{ accessFlags := 1, nameIndex := 5, descriptorIndex := 6, attributes := #[] }] 33 2 #[] #[{ accessFlags := 25, nameIndex := 123, descriptorIndex := 124, attributes := #[] }, { accessFlags := 25, nameIndex := 130, descriptorIndex := 124, attributes := #[] }, { accessFlags := 25, nameIndex := 136, descriptorIndex := 124, attributes := #[] }])
  fields := #[{ name := "SIOOBE_FORMATTER", type := (.object "java/util/function/BiFunction"), accessFlags := 25, slot := 0, constantValue := 0 }, { name := "AIOOBE_FORMATTER", type := (.object "java/util/function/BiFunction"), accessFlags := 25, slot := 1, constantValue := 0 }, { name := "IOOBE_FORMATTER", type := (.object "java/util/function/BiFunction"), accessFlags := 25, slot := 2, constantValue := 0 }]
  methods := #[k12m0]
  instanceTypes := #[]
  staticTypes := #[(.object "java/util/function/BiFunction"), (.object "java/util/function/BiFunction"), (.object "java/util/function/BiFunction")]
  resolved := Array.replicate 194 none
  statics := some 1 }

def pool13 : Array CpInfo := pool [(9, u "<init>"), (6, .class_ 18), (1, u "java/lang/Object"), (0, u "()V"), (1, .class_ 23), (1, u "jdk/internal/util/ArraysSupport"), (0, u "LOG2_ARRAY_LONG_INDEX_SCALE"), (0, u "I"), (2, u "U"), (0, u "Ljdk/internal/misc/Unsafe;"), (8, u "BIG_ENDIAN"), (0, u "Z"), (8, u "LOG2_BYTE_BIT_SIZE"), (4, u "LOG2_ARRAY_INT_INDEX_SCALE"), (54, u "JLA"), (0, u "Ljdk/internal/access/JavaLangAccess;"), (11, u "LOG2_ARRAY_BOOLEAN_INDEX_SCALE"), (9, u "LOG2_ARRAY_BYTE_INDEX_SCALE"), (5, u "LOG2_ARRAY_CHAR_INDEX_SCALE"), (5, u "LOG2_ARRAY_SHORT_INDEX_SCALE"), (18, u "LOG2_ARRAY_FLOAT_INDEX_SCALE"), (24, u "LOG2_ARRAY_DOUBLE_INDEX_SCALE"), (89, u "T_BOOLEAN"), (2, u "T_CHAR"), (1, u "T_FLOAT"), (1, u "T_DOUBLE"), (1, u "T_BYTE"), (1, u "T_SHORT"), (1, u "T_INT"), (1, u "T_LONG"), (1, u "SOFT_MAX_ARRAY_LENGTH")] 83

def k13m0 : Method := { name := "<init>", desc := "()V", sig := { parameters := [], returnType := none }, accessFlags := 2, code := none }
/-- jdk/internal/util/ArraysSupport -/
def k13 : Class := { plain "jdk/internal/util/ArraysSupport" (some 0) with
  accessFlags := 33
  interfaces := #[]
  cf := some (fileOf pool13 21 #[] #[{ accessFlags := 2, nameIndex := 9, descriptorIndex := 19, attributes := #[] }] 33 16 #[] #[{ accessFlags := 24, nameIndex := 28, descriptorIndex := 29, attributes := #[] }, { accessFlags := 26, nameIndex := 38, descriptorIndex := 39, attributes := #[] }, { accessFlags := 25, nameIndex := 121, descriptorIndex := 25, attributes := #[] }, { accessFlags := 25, nameIndex := 131, descriptorIndex := 25, attributes := #[] }, { accessFlags := 25, nameIndex := 137, descriptorIndex := 25, attributes := #[] }, { accessFlags := 25, nameIndex := 143, descriptorIndex := 25, attributes := #[] }, { accessFlags := 25, nameIndex := 53, descriptorIndex := 25, attributes := #[] }, { accessFlags := 25, nameIndex := 24, descriptorIndex := 25, attributes := #[] }, { accessFlags := 25, nameIndex := 162, descriptorIndex := 25, attributes := #[] }, { accessFlags := 25, nameIndex := 187, descriptorIndex := 25, attributes := #[] }, { accessFlags := 26, nameIndex := 48, descriptorIndex := 25, attributes := #[] }, { accessFlags := 25, nameIndex := 277, descriptorIndex := 25, attributes := #[] }, { accessFlags := 25, nameIndex := 280, descriptorIndex := 25, attributes := #[] }, { accessFlags := 25, nameIndex := 282, descriptorIndex := 25, attributes := #[] }, { accessFlags := 25, nameIndex := 284, descriptorIndex := 25, attributes := #[] }, { accessFlags := 25, nameIndex := 286, descriptorIndex := 25, attributes := #[] }, { accessFlags := 25, nameIndex := 288, descriptorIndex := 25, attributes := #[] }, { accessFlags := 25, nameIndex := 290, descriptorIndex := 25, attributes := #[] }, { accessFlags := 25, nameIndex := 292, descriptorIndex := 25, attributes := #[] }, { accessFlags := 26, nameIndex := 108, descriptorIndex := 109, attributes := #[] }, { accessFlags := 25, nameIndex := 294, descriptorIndex := 25, attributes := #[] }])
  fields := #[{ name := "U", type := (.object "jdk/internal/misc/Unsafe"), accessFlags := 24, slot := 0, constantValue := 0 }, { name := "BIG_ENDIAN", type := .boolean, accessFlags := 26, slot := 1, constantValue := 0 }, { name := "LOG2_ARRAY_BOOLEAN_INDEX_SCALE", type := .int, accessFlags := 25, slot := 2, constantValue := 0 }, { name := "LOG2_ARRAY_BYTE_INDEX_SCALE", type := .int, accessFlags := 25, slot := 3, constantValue := 0 }, { name := "LOG2_ARRAY_CHAR_INDEX_SCALE", type := .int, accessFlags := 25, slot := 4, constantValue := 0 }, { name := "LOG2_ARRAY_SHORT_INDEX_SCALE", type := .int, accessFlags := 25, slot := 5, constantValue := 0 }, { name := "LOG2_ARRAY_INT_INDEX_SCALE", type := .int, accessFlags := 25, slot := 6, constantValue := 0 }, { name := "LOG2_ARRAY_LONG_INDEX_SCALE", type := .int, accessFlags := 25, slot := 7, constantValue := 0 }, { name := "LOG2_ARRAY_FLOAT_INDEX_SCALE", type := .int, accessFlags := 25, slot := 8, constantValue := 0 }, { name := "LOG2_ARRAY_DOUBLE_INDEX_SCALE", type := .int, accessFlags := 25, slot := 9, constantValue := 0 }, { name := "LOG2_BYTE_BIT_SIZE", type := .int, accessFlags := 26, slot := 10, constantValue := 0 }, { name := "T_BOOLEAN", type := .int, accessFlags := 25, slot := 11, constantValue := 0 }, { name := "T_CHAR", type := .int, accessFlags := 25, slot := 12, constantValue := 0 }, { name := "T_FLOAT", type := .int, accessFlags := 25, slot := 13, constantValue := 0 }, { name := "T_DOUBLE", type := .int, accessFlags := 25, slot := 14, constantValue := 0 }, { name := "T_BYTE", type := .int, accessFlags := 25, slot := 15, constantValue := 0 }, { name := "T_SHORT", type := .int, accessFlags := 25, slot := 16, constantValue := 0 }, { name := "T_INT", type := .int, accessFlags := 25, slot := 17, constantValue := 0 }, { name := "T_LONG", type := .int, accessFlags := 25, slot := 18, constantValue := 0 }, { name := "JLA", type := (.object "jdk/internal/access/JavaLangAccess"), accessFlags := 26, slot := 19, constantValue := 0 }, { name := "SOFT_MAX_ARRAY_LENGTH", type := .int, accessFlags := 25, slot := 20, constantValue := 0 }]
  methods := #[k13m0]
  instanceTypes := #[]
  staticTypes := #[(.object "jdk/internal/misc/Unsafe"), .boolean, .int, .int, .int, .int, .int, .int, .int, .int, .int, .int, .int, .int, .int, .int, .int, .int, .int, (.object "jdk/internal/access/JavaLangAccess"), .int]
  resolved := Array.replicate 378 none
  statics := none }

def pool14 : Array CpInfo := pool [(1, u "java/lang/Cloneable"), (0, .class_ 1), (0, u "java/lang/Object"), (0, .class_ 3)] 3

/-- java/lang/Cloneable -/
def k14 : Class := { plain "java/lang/Cloneable" (some 0) with
  accessFlags := 1537
  interfaces := #[]
  cf := some (fileOf pool14 2 #[] #[] 1537 4 #[] #[])
  fields := #[]
  methods := #[]
  instanceTypes := #[]
  staticTypes := #[]
  resolved := Array.replicate 8 none
  statics := none }

/-- the primitive byte -/
def k15 : Class := { plain "byte" none with kind := .primitive 'B', accessFlags := 0x411 }
/-- [B -/
def k16 : Class := { plain "[B" (some 0) with kind := .array 15 .byte, interfaces := #[14, 2], accessFlags := 1041 }

/-- the primitive char -/
def k17 : Class := { plain "char" none with kind := .primitive 'C', accessFlags := 0x411 }
/-- [C -/
def k18 : Class := { plain "[C" (some 0) with kind := .array 17 .char, interfaces := #[14, 2], accessFlags := 1041 }

/-- the primitive int -/
def k19 : Class := { plain "int" none with kind := .primitive 'I', accessFlags := 0x411 }
/-- [I -/
def k20 : Class := { plain "[I" (some 0) with kind := .array 19 .int, interfaces := #[14, 2], accessFlags := 1041 }

def heap : Heap := #[{ cls := 7, slots := #[.long 0, .int 1, .null, .int 0, .null, .int 0, .int 0], vm := .statics 7 },
  { cls := 12, slots := #[.null, .null, .null], vm := .statics 12 }]
def classes : Array Class := #[k0, k1, k2, k3, k4, k5, k6, k7, k8, k9, k10, k11, k12, k13, k14, k15, k16, k17, k18, k19, k20]
def interned : List (Array UInt16 × Addr) := []
def slotsUsed : Nat := 10
def theMethod : MethodId := ⟨1, 1⟩
def args0 : Array Value := #[.int 5, .int 6, .int 7, .int 8]
def aboutOver (below : List Frame) : State where
  vm := { classes := classes, interned := interned.toArray }
  heap := heap
  slotsUsed := slotsUsed
  threads := #[{ frames := .invoking theMethod args0 :: below }]
def below0 : List Frame := [.native { method := ⟨0, 0⟩, args := #[] }]
def about1 : State := aboutOver below0
def p0 : Program := .bare "" "" ""
def e0 : Env := launch0.env 0 0 0
theorem w_frames : about1.frames = Frame.invoking theMethod args0 :: below0 := rfl
set_option maxRecDepth 65536 in
theorem w_args : argsFit about1.vm theMethod args0 = true := by decide +kernel
set_option maxRecDepth 65536 in
theorem w_heap : heapFits about1 = true := by decide +kernel
set_option maxRecDepth 65536 in
theorem w_runnable : about1.curStatus? = some .runnable := by decide +kernel
set_option maxRecDepth 65536 in
theorem w_alone : about1.alone = true := by decide +kernel
set_option maxRecDepth 65536 in
theorem w_named : about1.methodNamed? x = some theMethod := by decide +kernel
set_option maxRecDepth 65536 in
theorem w_hears : about1.hears theMethod below0 = true := by decide +kernel
set_option maxRecDepth 65536 in
theorem w_ripe : about1.ripe theMethod args0 below0 = true := by decide +kernel
theorem w_running : about1.status = .running := rfl
set_option maxRecDepth 65536 in
theorem w_room : about1.hasRoom e0.platform room_1 = true :=
  launch0.hasRoom_least _ room_1 (by decide +kernel) (by decide +kernel) (by decide +kernel) (by decide +kernel) (by decide +kernel) (by decide +kernel)
theorem allAtoms_all (ts : List Jvm.Cond) (a : Array Jvm.Value) (st : Jvm.State) : (allAtoms ts).before a st = ts.all (fun c => c.before a st) := by
  induction ts with
  | nil => rfl
  | cons c t ih =>
    show (Jvm.Cond.and c (allAtoms t)).before a st = _
    rw [Jvm.Cond.before_and, ih, List.all_cons]
def words1 : List Jvm.Cond := Jvm.Cond.code x code maxLocals ret :: tables_1
/-- a 'code' word, met by the world's own term for the bytes: nothing is compared byte by byte -/
theorem code_word {y : MethodName} {bytes : ByteArray} {mx : Nat} {rt : Option FieldType} {a : Array Value} {s : State} {m : MethodId} {meth : Method} {c : Code} (h1 : s.methodNamed? y = some m) (h2 : s.vm.method? m = some meth) (h3 : meth.code = some c) (h4 : c.code = bytes)
    (h5 : (c.maxLocals == mx && c.exceptionTable.isEmpty && decide (c.maxStack ≤ mostOperands) && decide (meth.sig.returnType = rt) && !meth.locks && decide (parseMethodDescriptor y.desc = some meth.sig)) = true) : (Jvm.Cond.code y bytes mx rt).before a s = true := by
  simp only [Bool.and_eq_true, beq_iff_eq, Bool.not_eq_true', decide_eq_true_eq] at h5
  obtain ⟨⟨⟨⟨⟨g1, g2⟩, g3⟩, g4⟩, g5⟩, g6⟩ := h5
  simp [Cond.before, Cond.holds, Cond.value, h1, h2, h3, h4, g1, g2, g3, g4, g5, g6]
def isCode : Jvm.Cond → Bool
  | .code _ _ _ _ => true
  | _ => false
theorem all_split {L : List Jvm.Cond} {P : Jvm.Cond → Bool} (h1 : L.all (fun c => isCode c || P c) = true) (h2 : ∀ c ∈ L.filter isCode, P c = true) : L.all P = true := by
  refine List.all_eq_true.mpr fun c hc => ?_
  have h := List.all_eq_true.mp h1 c hc
  rcases Bool.eq_false_or_eq_true (isCode c) with hi | hi
  · exact h2 c (List.mem_filter.mpr ⟨hc, hi⟩)
  · simpa [hi] using h
set_option maxRecDepth 65536 in
theorem w_c0 : (Jvm.Cond.code x code maxLocals ret).before args0 about1 = true := code_word (m := ⟨1, 1⟩) (meth := k1m1) (c := k1c1) (by decide +kernel) rfl rfl rfl (by decide +kernel)
set_option maxRecDepth 65536 in
theorem w_c1 : (Jvm.Cond.code ({ cls := "java/lang/String", name := "<init>", desc := "([C)V" } : Jvm.MethodName) jdk_42_method_3_code (2 : Nat) (Option.none : Option Jvm.ClassFile.FieldType)).before args0 about1 = true := code_word (m := ⟨7, 1⟩) (meth := k7m1) (c := k7c1) (by decide +kernel) rfl rfl rfl (by decide +kernel)
set_option maxRecDepth 65536 in
theorem w_c2 : (Jvm.Cond.code ({ cls := "java/lang/String", name := "<init>", desc := "([CIILjava/lang/Void;)V" } : Jvm.MethodName) jdk_42_method_149_code (6 : Nat) (Option.none : Option Jvm.ClassFile.FieldType)).before args0 about1 = true := code_word (m := ⟨7, 3⟩) (meth := k7m3) (c := k7c3) (by decide +kernel) rfl rfl rfl (by decide +kernel)
set_option maxRecDepth 65536 in
theorem w_c3 : (Jvm.Cond.code ({ cls := "java/lang/Object", name := "<init>", desc := "()V" } : Jvm.MethodName) object_method_1_code (1 : Nat) (Option.none : Option Jvm.ClassFile.FieldType)).before args0 about1 = true := code_word (m := ⟨0, 0⟩) (meth := k0m0) (c := k0c0) (by decide +kernel) rfl rfl rfl (by decide +kernel)
set_option maxRecDepth 65536 in
theorem w_c4 : (Jvm.Cond.code ({ cls := "java/lang/StringUTF16", name := "compress", desc := "([CII)[B" } : Jvm.MethodName) jdk_52_method_16_code (6 : Nat) (Option.some (Jvm.ClassFile.FieldType.array Jvm.ClassFile.FieldType.byte))).before args0 about1 = true := code_word (m := ⟨8, 2⟩) (meth := k8m2) (c := k8c2) (by decide +kernel) rfl rfl rfl (by decide +kernel)
set_option maxRecDepth 65536 in
theorem w_c5 : (Jvm.Cond.code ({ cls := "java/lang/StringUTF16", name := "compress", desc := "([CI[BII)I" } : Jvm.MethodName) jdk_52_method_21_code (7 : Nat) (Option.some Jvm.ClassFile.FieldType.int)).before args0 about1 = true := code_word (m := ⟨8, 3⟩) (meth := k8m3) (c := k8c3) (by decide +kernel) rfl rfl rfl (by decide +kernel)
set_option maxRecDepth 65536 in
theorem w_c6 : (Jvm.Cond.code ({ cls := "java/lang/StringUTF16", name := "coderFromArrayLen", desc := "([BI)B" } : Jvm.MethodName) jdk_52_method_15_code (2 : Nat) (Option.some Jvm.ClassFile.FieldType.byte)).before args0 about1 = true := code_word (m := ⟨8, 1⟩) (meth := k8m1) (c := k8c1) (by decide +kernel) rfl rfl rfl (by decide +kernel)
set_option maxRecDepth 65536 in
theorem w_c7 : (Jvm.Cond.code ({ cls := "com/example/gyro/gyro/config/ListenAddress", name := "<init>", desc := "(Ljava/lang/String;I)V" } : Jvm.MethodName) prog_21_method_1_code (3 : Nat) (Option.none : Option Jvm.ClassFile.FieldType)).before args0 about1 = true := code_word (m := ⟨10, 0⟩) (meth := k10m0) (c := k10c0) (by decide +kernel) rfl rfl rfl (by decide +kernel)
set_option maxRecDepth 65536 in
theorem w_c8 : (Jvm.Cond.code ({ cls := "java/lang/Record", name := "<init>", desc := "()V" } : Jvm.MethodName) jdk_30_method_1_code (1 : Nat) (Option.none : Option Jvm.ClassFile.FieldType)).before args0 about1 = true := code_word (m := ⟨9, 0⟩) (meth := k9m0) (c := k9c0) (by decide +kernel) rfl rfl rfl (by decide +kernel)
set_option maxRecDepth 65536 in
theorem w_c9 : (Jvm.Cond.code ({ cls := "com/example/gyro/gyro/config/ListenAddress", name := "withPort", desc := "(I)Lcom/example/gyro/gyro/config/ListenAddress;" } : Jvm.MethodName) prog_21_method_3_code (2 : Nat) (Option.some (Jvm.ClassFile.FieldType.object "com/example/gyro/gyro/config/ListenAddress"))).before args0 about1 = true := code_word (m := ⟨10, 1⟩) (meth := k10m1) (c := k10c1) (by decide +kernel) rfl rfl rfl (by decide +kernel)
set_option maxRecDepth 65536 in
theorem w_c10 : (Jvm.Cond.code ({ cls := "com/example/gyro/gyro/config/ListenAddress", name := "host", desc := "()Ljava/lang/String;" } : Jvm.MethodName) prog_21_method_8_code (1 : Nat) (Option.some (Jvm.ClassFile.FieldType.object "java/lang/String"))).before args0 about1 = true := code_word (m := ⟨10, 2⟩) (meth := k10m2) (c := k10c2) (by decide +kernel) rfl rfl rfl (by decide +kernel)
set_option maxRecDepth 65536 in
theorem w_c11 : (Jvm.Cond.code ({ cls := "java/lang/String", name := "equals", desc := "(Ljava/lang/Object;)Z" } : Jvm.MethodName) jdk_42_method_66_code (3 : Nat) (Option.some Jvm.ClassFile.FieldType.boolean)).before args0 about1 = true := code_word (m := ⟨7, 2⟩) (meth := k7m2) (c := k7c2) (by decide +kernel) rfl rfl rfl (by decide +kernel)
set_option maxRecDepth 65536 in
theorem w_c12 : (Jvm.Cond.code ({ cls := "com/example/gyro/gyro/config/ListenAddress", name := "port", desc := "()I" } : Jvm.MethodName) prog_21_method_9_code (1 : Nat) (Option.some Jvm.ClassFile.FieldType.int)).before args0 about1 = true := code_word (m := ⟨10, 3⟩) (meth := k10m3) (c := k10c3) (by decide +kernel) rfl rfl rfl (by decide +kernel)
def codes1 : List Jvm.Cond := [Jvm.Cond.code x code maxLocals ret, Jvm.Cond.code ({ cls := "java/lang/String", name := "<init>", desc := "([C)V" } : Jvm.MethodName) jdk_42_method_3_code (2 : Nat) (Option.none : Option Jvm.ClassFile.FieldType), Jvm.Cond.code ({ cls := "java/lang/String", name := "<init>", desc := "([CIILjava/lang/Void;)V" } : Jvm.MethodName) jdk_42_method_149_code (6 : Nat) (Option.none : Option Jvm.ClassFile.FieldType), Jvm.Cond.code ({ cls := "java/lang/Object", name := "<init>", desc := "()V" } : Jvm.MethodName) object_method_1_code (1 : Nat) (Option.none : Option Jvm.ClassFile.FieldType), Jvm.Cond.code ({ cls := "java/lang/StringUTF16", name := "compress", desc := "([CII)[B" } : Jvm.MethodName) jdk_52_method_16_code (6 : Nat) (Option.some (Jvm.ClassFile.FieldType.array Jvm.ClassFile.FieldType.byte)), Jvm.Cond.code ({ cls := "java/lang/StringUTF16", name := "compress", desc := "([CI[BII)I" } : Jvm.MethodName) jdk_52_method_21_code (7 : Nat) (Option.some Jvm.ClassFile.FieldType.int), Jvm.Cond.code ({ cls := "java/lang/StringUTF16", name := "coderFromArrayLen", desc := "([BI)B" } : Jvm.MethodName) jdk_52_method_15_code (2 : Nat) (Option.some Jvm.ClassFile.FieldType.byte), Jvm.Cond.code ({ cls := "com/example/gyro/gyro/config/ListenAddress", name := "<init>", desc := "(Ljava/lang/String;I)V" } : Jvm.MethodName) prog_21_method_1_code (3 : Nat) (Option.none : Option Jvm.ClassFile.FieldType), Jvm.Cond.code ({ cls := "java/lang/Record", name := "<init>", desc := "()V" } : Jvm.MethodName) jdk_30_method_1_code (1 : Nat) (Option.none : Option Jvm.ClassFile.FieldType), Jvm.Cond.code ({ cls := "com/example/gyro/gyro/config/ListenAddress", name := "withPort", desc := "(I)Lcom/example/gyro/gyro/config/ListenAddress;" } : Jvm.MethodName) prog_21_method_3_code (2 : Nat) (Option.some (Jvm.ClassFile.FieldType.object "com/example/gyro/gyro/config/ListenAddress")), Jvm.Cond.code ({ cls := "com/example/gyro/gyro/config/ListenAddress", name := "host", desc := "()Ljava/lang/String;" } : Jvm.MethodName) prog_21_method_8_code (1 : Nat) (Option.some (Jvm.ClassFile.FieldType.object "java/lang/String")), Jvm.Cond.code ({ cls := "java/lang/String", name := "equals", desc := "(Ljava/lang/Object;)Z" } : Jvm.MethodName) jdk_42_method_66_code (3 : Nat) (Option.some Jvm.ClassFile.FieldType.boolean), Jvm.Cond.code ({ cls := "com/example/gyro/gyro/config/ListenAddress", name := "port", desc := "()I" } : Jvm.MethodName) prog_21_method_9_code (1 : Nat) (Option.some Jvm.ClassFile.FieldType.int)]
set_option maxRecDepth 65536 in
theorem codes_eq : words1.filter isCode = codes1 := rfl
theorem w_codes : ∀ c ∈ words1.filter isCode, c.before args0 about1 = true := by
  rw [codes_eq]
  intro c hc
  simp only [codes1, List.mem_cons, List.not_mem_nil, or_false] at hc
  rcases hc with rfl | rfl | rfl | rfl | rfl | rfl | rfl | rfl | rfl | rfl | rfl | rfl | rfl
  · exact w_c0
  · exact w_c1
  · exact w_c2
  · exact w_c3
  · exact w_c4
  · exact w_c5
  · exact w_c6
  · exact w_c7
  · exact w_c8
  · exact w_c9
  · exact w_c10
  · exact w_c11
  · exact w_c12
set_option maxRecDepth 65536 in
theorem w_t1 : (words1.take 24).all (fun c => isCode c || c.before args0 about1) = true := by decide +kernel
set_option maxRecDepth 65536 in
theorem w_t2 : ((words1.drop 24).take 24).all (fun c => isCode c || c.before args0 about1) = true := by decide +kernel
set_option maxRecDepth 65536 in
theorem w_t3 : ((words1.drop 24).drop 24).all (fun c => isCode c || c.before args0 about1) = true := by decide +kernel
theorem w_tables : (allAtoms (Jvm.Cond.code x code maxLocals ret :: tables_1)).before args0 about1 = true := by
  rw [allAtoms_all]
  show words1.all (fun c => c.before args0 about1) = true
  refine all_split ?_ w_codes
  rw [← List.take_append_drop 24 words1, List.all_append, w_t1, ← List.take_append_drop 24 (words1.drop 24), List.all_append, w_t2, w_t3]
  rfl
set_option maxRecDepth 65536 in
theorem w_rest : rest_1_c.before args0 about1 = true := by decide +kernel
set_option maxRecDepth 65536 in
theorem w_case : (Jvm.Cond.and given_1 narrow_1).before args0 about1 = true := by decide +kernel
set_option maxRecDepth 65536 in
theorem w_consts : constsHeld consts_1 about1 := Jvm.Lit.constsHeldB_iff.mp (by decide +kernel)
theorem w_applies : (headSpec (Jvm.Cond.code x code maxLocals ret :: tables_1) room_1).applies x e0.platform about1 = true :=
  (Spec.applies_iff w_frames).mpr ⟨w_running, w_runnable, w_alone, w_named, w_hears, w_ripe, w_room, w_tables⟩
theorem atStart : AtStart classFile x code maxLocals ret World_1 tables_1 room_1 Calls_1 rest_1 Pre_1 launch0 p0 e0 about1 theMethod args0 below0 :=
  ⟨lists_1, trivial, launch0.admits_env _ _ _, launch0.least_env, fairChoices_fair.cas, fairChoices_fair.clock, w_frames, w_args, w_heap, w_applies, ⟨w_consts, trivial⟩, w_rest, w_case⟩
end start1
theorem witness_1 : WitnessClaimed_1 := ⟨start1.p0, start1.e0, start1.about1, start1.theMethod, start1.args0, start1.below0, start1.atStart⟩
end Jvm.Pilot.@@N@@
