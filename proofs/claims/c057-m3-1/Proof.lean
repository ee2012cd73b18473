import JvmDerived
import JvmDerived.Pilot.@@N@@Statement
import JvmDerived.Pilot.@@N@@Code
set_option linter.unusedVariables false
set_option linter.unusedSimpArgs false
set_option maxRecDepth 65536
set_option maxHeartbeats 4000000
namespace Jvm.Pilot.@@N@@
open Jvm Jvm.ClassFile Sem Op Lib Jvm.Free Jvm.Stand Jvm.LawKit Jvm.RoadKit Bundle Jvm.Pilot.@@N@@.Jvm.D

def OwnSets (g : Launch × State × Array Value × List (String × Nat)) : Prop := True ∧ Fit g.2.1 ∧ g.2.2.2 = []
/-! OWN WALKING KIT, part 1: the heap as an explicit list, the running state, the goal, contracts. -/
abbrev GG := Launch × State × Array Value × List (String × Nat)
abbrev GG.l (g : GG) : Launch := g.1
abbrev GG.Z (g : GG) : State := g.2.1
abbrev GG.a0 (g : GG) : Array Value := g.2.2.1
abbrev GG.EL (g : GG) : List (String × Nat) := g.2.2.2
abbrev MM := Program × Env × State × MethodId × Array Value × List Frame × Method × Code
abbrev MM.p (M : MM) : Program := M.1
abbrev MM.e (M : MM) : Env := M.2.1
abbrev MM.s (M : MM) : State := M.2.2.1
abbrev MM.m (M : MM) : MethodId := M.2.2.2.1
abbrev MM.args (M : MM) : Array Value := M.2.2.2.2.1
abbrev MM.below (M : MM) : List Frame := M.2.2.2.2.2.1
abbrev MM.meth (M : MM) : Method := M.2.2.2.2.2.2.1
abbrev MM.c (M : MM) : Code := M.2.2.2.2.2.2.2
abbrev DD := MethodName × ByteArray × Nat × Option FieldType × Room
abbrev DD.y (D : DD) : MethodName := D.1
abbrev DD.cd (D : DD) : ByteArray := D.2.1
abbrev DD.mx (D : DD) : Nat := D.2.2.1
abbrev DD.rt (D : DD) : Option FieldType := D.2.2.2.1
abbrev DD.rm (D : DD) : Room := D.2.2.2.2
/-- the case's words, at its start -/
def GW (g : GG) : Prop := (∀ d ∈ tables_1, d.before g.a0 g.Z = true) ∧ EW g.Z g.a0 g.EL ∧ OwnSets g
theorem GW.w {g : GG} (W : GW g) : ∀ d ∈ tables_1, d.before g.a0 g.Z = true := W.1
abbrev FD := String × String × String × Value
abbrev Ent := Addr × ((String × List FD) ⊕ (FieldType × String × List Value))
abbrev SE := Addr × Addr × Int32 × List Value
def Ary (Z : State) (h : Heap) (a : Addr) (ty : FieldType) (nm : String) (vs : List Value) : Prop :=
  ∃ c : Cell, Jvm.RoadKit.Arr Z h a c ty ∧ c.slots = vs.toArray ∧ vs.length < 2 ^ 31 ∧ (∀ v ∈ vs, fits ty v = true) ∧ (∀ C, ty = .object C → Ovr Z c.cls C) ∧ (nm ≠ "" → Exa Z h a nm)
def Is (Z : State) (h : Heap) : Ent → Prop
  | (a, .inl (C, fs)) => Exa Z h a C ∧ ∀ f ∈ fs, Fld Z h a f.1 f.2.1 f.2.2.1 f.2.2.2
  | (a, .inr (ty, nm, vs)) => Ary Z h a ty nm vs
def Lays (Z : State) (a0 : Array Value) (C : String) (fs : List FD) : Prop :=
  (fs.map fun f => f.2.1).Nodup ∧ ∀ f ∈ fs, Laid Z a0 C f.1 f.2.1 f.2.2.1 ∧ ∃ ty, parseFieldDescriptor f.2.2.1 = some ty
def Ld (Z : State) (a0 : Array Value) : Ent → Prop
  | (_, .inl (C, fs)) => Lays Z a0 C fs
  | (_, .inr _) => True
def IsS (Z : State) (h : Heap) (y : SE) : Prop :=
  Exa Z h y.1 "java/lang/String" ∧ Fld Z h y.1 "java/lang/String" "value" "[B" (.ref y.2.1) ∧ Fld Z h y.1 "java/lang/String" "coder" "B" (.int y.2.2.1) ∧ Ary Z h y.2.1 .byte "" y.2.2.2
def Hp (g : GG) (vm : Vm) (h : Heap) (H : List Ent) (Lt : List SE) : Prop :=
  (∀ x ∈ H, Is g.Z h x ∧ Ld g.Z g.a0 x ∧ g.Z.heap.size ≤ x.1 ∧ Safe g.Z g.EL vm h x.1) ∧ (H.map Prod.fst).Nodup ∧ (∀ y ∈ Lt, IsS g.Z h y) ∧ ∀ x ∈ H, ∀ y ∈ Lt, x.1 ≠ y.1 ∧ x.1 ≠ y.2.1
section Heap
variable {g : GG} {Z : State} {h h' : Heap} {vm vm1 : Vm} {a b : Addr} {ty : FieldType} {nm : String} {vs : List Value} {H H' : List Ent} {Lt Lt' : List SE} {ws : List Addr} {a0 : Array Value}
theorem Ary.ext (A : Ary Z h a ty nm vs) (E : Ext h h') : Ary Z h' a ty nm vs := by
  obtain ⟨c, r1, r2, r3, r4, r5, r6⟩ := A
  exact ⟨c, r1.ext E, r2, r3, r4, r5, fun q => (r6 q).ext E⟩
theorem Ary.keep (A : Ary Z h a ty nm vs) (K : Keep h h' ws) (q : a ∉ ws) : Ary Z h' a ty nm vs := by
  obtain ⟨c, r1, r2, r3, r4, r5, r6⟩ := A
  exact ⟨c, ⟨K.2.1 a c r1.1 q, r1.2⟩, r2, r3, r4, r5, fun q => (r6 q).keep K⟩
theorem Ary.lt (A : Ary Z h a ty nm vs) : a < h.size := by obtain ⟨c, r1, -⟩ := A; exact r1.lt
theorem Is.lt {x : Ent} (I : Is Z h x) : x.1 < h.size := by
  obtain ⟨a, ⟨C, fs⟩ | ⟨ty, nm, vs⟩⟩ := x
  · exact I.1.lt
  · exact Ary.lt I
theorem Is.ext {x : Ent} (I : Is Z h x) (E : Ext h h') : Is Z h' x := by
  obtain ⟨a, ⟨C, fs⟩ | ⟨ty, nm, vs⟩⟩ := x
  · exact ⟨I.1.ext E, fun f hf => (I.2 f hf).ext E⟩
  · exact Ary.ext I E
theorem Is.keep {x : Ent} (I : Is Z h x) (K : Keep h h' ws) (q : x.1 ∉ ws) : Is Z h' x := by
  obtain ⟨a, ⟨C, fs⟩ | ⟨ty, nm, vs⟩⟩ := x
  · exact ⟨I.1.keep K, fun f hf => (I.2 f hf).keep K q⟩
  · exact Ary.keep I K q
theorem IsS.ext {y : SE} (I : IsS Z h y) (E : Ext h h') : IsS Z h' y := ⟨I.1.ext E, I.2.1.ext E, I.2.2.1.ext E, I.2.2.2.ext E⟩
theorem IsS.keep {y : SE} (I : IsS Z h y) (K : Keep h h' ws) (q : y.1 ∉ ws) (r : y.2.1 ∉ ws) : IsS Z h' y := ⟨I.1.keep K, I.2.1.keep K q, I.2.2.1.keep K q, I.2.2.2.keep K r⟩
/-- the tables and the heap go on, the heap at its end -/
theorem Hp.move (P : Hp g vm h H Lt) (C : CHr g.Z g.EL vm h vm1 h') (E : Ext h h') : Hp g vm1 h' H Lt :=
  ⟨fun x hx => ⟨(P.1 x hx).1.ext E, (P.1 x hx).2.1, (P.1 x hx).2.2.1, C.safe (P.1 x hx).1.lt (P.1 x hx).2.2.2⟩, P.2.1, fun y hy => (P.2.2.1 y hy).ext E, P.2.2.2⟩
theorem Hp.perm (P : Hp g vm h H Lt) (q : H.Perm H') : Hp g vm h H' Lt :=
  ⟨fun x hx => P.1 x (q.mem_iff.mpr hx), (q.map Prod.fst).nodup_iff.mp P.2.1, P.2.2.1, fun x hx => P.2.2.2 x (q.mem_iff.mpr hx)⟩
theorem perm_front {α : Type} {x : α} : ∀ {l : List α} {i : Nat}, l[i]? = some x → (x :: l.eraseIdx i).Perm l
  | [], _, h => by simp at h
  | a :: l, 0, h => by
    rw [List.getElem?_cons_zero] at h
    cases h
    exact List.Perm.refl _
  | a :: l, i + 1, h => by
    rw [List.getElem?_cons_succ] at h
    exact (List.Perm.swap a x _).trans ((perm_front h).cons a)
theorem Hp.front (P : Hp g vm h H Lt) {i : Nat} {x : Ent} (hi : H[i]? = some x) : Hp g vm h (x :: H.eraseIdx i) Lt := by
  exact P.perm (perm_front hi).symm
theorem Hp.sub (P : Hp g vm h H Lt) (q : H'.Sublist H) : Hp g vm h H' Lt :=
  ⟨fun x hx => P.1 x (q.subset hx), (q.map Prod.fst).nodup P.2.1, P.2.2.1, fun x hx => P.2.2.2 x (q.subset hx)⟩
theorem Hp.del (P : Hp g vm h H Lt) (i : Nat) : Hp g vm h (H.eraseIdx i) Lt := P.sub (List.eraseIdx_sublist H i)
theorem Hp.lsub (P : Hp g vm h H Lt) (q : ∀ y ∈ Lt', y ∈ Lt) : Hp g vm h H Lt' := ⟨P.1, P.2.1, fun y hy => P.2.2.1 y (q y hy), fun x hx y hy => P.2.2.2 x hx y (q y hy)⟩
theorem Hp.add (P : Hp g vm h H Lt) {x : Ent} (hI : Is g.Z h x) (hL : Ld g.Z g.a0 x) (h0 : g.Z.heap.size ≤ x.1) (hs : Safe g.Z g.EL vm h x.1) (hn : ∀ y ∈ H, y.1 ≠ x.1) (hl : ∀ y ∈ Lt, x.1 ≠ y.1 ∧ x.1 ≠ y.2.1) : Hp g vm h (x :: H) Lt := by
  refine ⟨fun y hy => ?_, ?_, P.2.2.1, fun y hy => ?_⟩
  · rcases List.mem_cons.mp hy with rfl | hy
    · exact ⟨hI, hL, h0, hs⟩
    · exact P.1 y hy
  · rw [List.map_cons, List.nodup_cons]
    refine ⟨fun q => ?_, P.2.1⟩
    obtain ⟨y, hy, e⟩ := List.mem_map.mp q
    exact hn y hy e
  · rcases List.mem_cons.mp hy with rfl | hy
    · exact hl
    · exact P.2.2.2 y hy
/-- a new cell at the heap's end -/
theorem Hp.born (P : Hp g vm h H Lt) (HC : CHv g.Z g.EL vm h) (E0 : Ext g.Z.heap h) (E : Ext h h') {x : Ent} (ha : x.1 = h.size) (hI : Is g.Z h' x) (hL : Ld g.Z g.a0 x) : Hp g vm h' (x :: H) Lt := by
  have C := CHr.ext E HC
  refine (P.move C E).add hI hL (by rw [ha]; exact E0.1) ?_ (fun y hy => ?_) (fun y hy => ?_)
  · intro B
    have B' := (HC.step fun _ _ _ q => E.2 _ _ q).2 _ B
    obtain ⟨cell, q⟩ := B'.there
    have := (Array.getElem?_eq_some_iff.mp q).1
    rw [ha] at this; omega
  · exact fun e => Nat.lt_irrefl _ (Nat.lt_of_lt_of_eq (P.1 y hy).1.lt (e.trans ha).symm)
  · have q1 := (P.2.2.1 y hy).1.lt
    have q2 := (P.2.2.1 y hy).2.2.2.lt
    exact ⟨fun e => Nat.lt_irrefl _ (Nat.lt_of_lt_of_eq q1 (e.symm.trans ha).symm), fun e => Nat.lt_irrefl _ (Nat.lt_of_lt_of_eq q2 (e.symm.trans ha).symm)⟩
theorem Hp.upd (P : Hp g vm h H Lt) (C : CHr g.Z g.EL vm h vm1 h') (K : Keep h h' [a]) {i : Nat} {x x' : Ent} (hi : H[i]? = some x) (ha : x.1 = a) (ha' : x'.1 = a) (hI : Is g.Z h' x') (hL : Ld g.Z g.a0 x') : Hp g vm1 h' (H.set i x') Lt := by
  obtain ⟨hl, hg⟩ := List.getElem?_eq_some_iff.mp hi
  have hmap : (H.set i x').map Prod.fst = H.map Prod.fst := by
    rw [List.map_set, ha']
    apply List.ext_getElem?
    intro j
    rw [List.getElem?_set]
    split
    · rename_i e; subst e
      rw [if_pos (by simpa using hl), List.getElem?_map, hi, ← ha]; rfl
    · rfl
  have hx : x ∈ H := hg ▸ List.getElem_mem hl
  have hmem : ∀ z ∈ H.set i x', z = x' ∨ (z ∈ H ∧ z.1 ≠ a) := fun z hz => by
    obtain ⟨j, hj⟩ := List.mem_iff_getElem?.mp hz
    rw [List.getElem?_set] at hj
    split at hj
    · exact Or.inl (Option.some.inj hj).symm
    · rename_i hne
      refine Or.inr ⟨List.mem_iff_getElem?.mpr ⟨j, hj⟩, fun e => hne ?_⟩
      obtain ⟨hjl, hjg⟩ := List.getElem?_eq_some_iff.mp hj
      have e1 : (H.map Prod.fst)[i]'(by simpa using hl) = (H.map Prod.fst)[j]'(by simpa using hjl) := by
        rw [List.getElem_map, List.getElem_map, hg, hjg, ha, e]
      exact (List.getElem_inj P.2.1).mp e1
  refine ⟨fun z hz => ?_, by rw [hmap]; exact P.2.1, fun y hy => ?_, fun z hz y hy => ?_⟩
  · rcases hmem z hz with rfl | ⟨hz, hne⟩
    · refine ⟨hI, hL, by rw [ha', ← ha]; exact (P.1 x hx).2.2.1, ?_⟩
      have := C.safe (P.1 x hx).1.lt (P.1 x hx).2.2.2
      rw [ha', ← ha]; exact this
    · exact ⟨(P.1 z hz).1.keep K (fun q => hne (List.mem_singleton.mp q)), (P.1 z hz).2.1, (P.1 z hz).2.2.1, C.safe (P.1 z hz).1.lt (P.1 z hz).2.2.2⟩
  · have q := P.2.2.2 x hx y hy
    rw [ha] at q
    exact (P.2.2.1 y hy).keep K (fun r => q.1 (List.mem_singleton.mp r).symm) (fun r => q.2 (List.mem_singleton.mp r).symm)
  · rcases hmem z hz with rfl | ⟨hz, -⟩
    · have q := P.2.2.2 x hx y hy
      rw [ha'] ; rw [ha] at q; exact q
    · exact P.2.2.2 z hz y hy
theorem Hp.lit (P : Hp g vm h H Lt) {y : SE} (I : IsS g.Z h y) (q : ∀ x ∈ H, x.1 ≠ y.1 ∧ x.1 ≠ y.2.1) : Hp g vm h H (y :: Lt) := by
  refine ⟨P.1, P.2.1, fun z hz => ?_, fun x hx z hz => ?_⟩
  · rcases List.mem_cons.mp hz with rfl | hz
    · exact I
    · exact P.2.2.1 z hz
  · rcases List.mem_cons.mp hz with rfl | hz
    · exact q x hx
    · exact P.2.2.2 x hx z hz
/-- a String that is made: it and its bytes are never written again -/
theorem Hp.freeze {cd : Int32} {n : String} {fs : List FD} (P : Hp g vm h ((a, .inl ("java/lang/String", fs)) :: (b, .inr (.byte, n, vs)) :: H) Lt)
    (f1 : ("java/lang/String", "value", "[B", Value.ref b) ∈ fs) (f2 : ("java/lang/String", "coder", "B", Value.int cd) ∈ fs) : Hp g vm h H ((a, b, cd, vs) :: Lt) := by
  have q := P.2.1
  simp only [List.map_cons, List.nodup_cons, List.mem_cons, not_or] at q
  have I1 := (P.1 _ (List.mem_cons_self ..)).1
  have I2 := (P.1 _ (List.mem_cons_of_mem _ (List.mem_cons_self ..))).1
  have I2' : Ary g.Z h b .byte "" vs := by
    obtain ⟨c, r1, r2, r3, r4, r5, r6⟩ := I2
    exact ⟨c, r1, r2, r3, r4, r5, fun q => absurd rfl q⟩
  have P' : Hp g vm h H Lt := P.sub ((List.sublist_cons_self _ _).trans (List.sublist_cons_self _ _))
  refine P'.lit ⟨I1.1, I1.2 _ f1, I1.2 _ f2, I2'⟩ fun x hx => ⟨fun e => ?_, fun e => ?_⟩
  · exact q.1.2 (List.mem_map.mpr ⟨x, hx, e⟩)
  · exact q.2.1 (List.mem_map.mpr ⟨x, hx, e⟩)
/-- .. whose bytes are another String's -/
theorem Hp.freezeL {cd cd' : Int32} {a' : Addr} {fs : List FD} (P : Hp g vm h ((a, .inl ("java/lang/String", fs)) :: H) Lt)
    (f1 : ("java/lang/String", "value", "[B", Value.ref b) ∈ fs) (f2 : ("java/lang/String", "coder", "B", Value.int cd) ∈ fs) (hm : (a', b, cd', vs) ∈ Lt) : Hp g vm h H ((a, b, cd, vs) :: Lt) := by
  have q := P.2.1
  simp only [List.map_cons, List.nodup_cons] at q
  have I1 := (P.1 _ (List.mem_cons_self ..)).1
  refine (P.del 0).lit ⟨I1.1, I1.2 _ f1, I1.2 _ f2, (P.2.2.1 _ hm).2.2.2⟩ fun x hx => ⟨fun e => q.1 (List.mem_map.mpr ⟨x, hx, e⟩), ?_⟩
  exact (P.2.2.2 x (List.mem_cons_of_mem _ hx) _ hm).2
/-- what holds wherever the list holds -/
abbrev Al (g : GG) (H : List Ent) (Lt : List SE) (P : Heap → Prop) : Prop := ∀ vm h, Ext g.Z.heap h → Hp g vm h H Lt → P h
theorem fO {i j : Nat} {C O n d : String} {fs : List FD} {v : Value} (hi : H[i]? = some (a, .inl (C, fs))) (hf : fs[j]? = some (O, n, d, v)) : Al g H Lt fun h => Fld g.Z h a O n d v := fun vm h _ P =>
  (P.1 _ (List.mem_of_getElem? hi)).1.2 _ (List.mem_of_getElem? hf)
theorem fE {i : Nat} {C : String} {fs : List FD} (hi : H[i]? = some (a, .inl (C, fs))) : Al g H Lt fun h => Exa g.Z h a C := fun vm h _ P => (P.1 _ (List.mem_of_getElem? hi)).1.1
theorem aH {i : Nat} (hi : H[i]? = some (a, .inr (ty, nm, vs))) : Al g H Lt fun h => Ary g.Z h a ty nm vs := fun vm h _ P => (P.1 _ (List.mem_of_getElem? hi)).1
theorem sE {cd : Int32} (hm : (a, b, cd, vs) ∈ Lt) : Al g H Lt fun h => Exa g.Z h a "java/lang/String" := fun vm h _ P => (P.2.2.1 _ hm).1
theorem sV {cd : Int32} (hm : (a, b, cd, vs) ∈ Lt) : Al g H Lt fun h => Fld g.Z h a "java/lang/String" "value" "[B" (.ref b) := fun vm h _ P => (P.2.2.1 _ hm).2.1
theorem sC {cd : Int32} (hm : (a, b, cd, vs) ∈ Lt) : Al g H Lt fun h => Fld g.Z h a "java/lang/String" "coder" "B" (.int cd) := fun vm h _ P => (P.2.2.1 _ hm).2.2.1
theorem sA {cd : Int32} (hm : (a, b, cd, vs) ∈ Lt) : Al g H Lt fun h => Ary g.Z h b .byte "" vs := fun vm h _ P => (P.2.2.1 _ hm).2.2.2
theorem Al.old {P : Heap → Prop} (hP : ∀ h, Ext g.Z.heap h → P h) : Al g H Lt P := fun _ h E _ => hP h E
theorem Ary.cell (A : Ary Z h a ty nm vs) : ∃ c : Cell, Jvm.RoadKit.Arr Z h a c ty ∧ c.slots.size = vs.length ∧ ∀ i : Nat, c.slots[i]? = vs[i]? := by
  obtain ⟨c, r1, r2, -⟩ := A
  exact ⟨c, r1, by rw [r2]; simp, fun i => by rw [r2]; simp⟩
end Heap
/-! OWN WALKING KIT, part 2: running, goal, contract, and one rule an instruction. -/
def Rn (g : GG) (D : DD) (M : MM) (T : State) (A : Vm → Heap → Prop) (cs ss : Nat) : Prop :=
  (GW g ∧ M.p.tables.exec = Jvm.exec ∧ M.c.code = D.cd ∧ M.c.maxLocals = D.mx ∧ M.meth.sig.returnType = D.rt ∧ M.meth.locks = false ∧ M.meth.name = D.y.name) ∧
  ∃ (vm0 : Vm) (k0 : Nat) (locs : List Loc), Stand M.p g.l M.e D.rm (M.s.setVm vm0) M.m M.args M.below M.meth M.c T locs cs ss ∧ vm0 = M.s.vm ∧ k0 ≤ T.heap.size ∧ g.Z.Warmed39 vm0 ∧ vm0.findClass D.y.cls = some M.m.cls ∧
    CHr g.Z g.EL g.Z.vm M.s.heap g.Z.vm T.heap ∧ Fr g.Z.heap.size locs ∧ Ext g.Z.heap T.heap ∧ A g.Z.vm T.heap
abbrev RH (g : GG) (D : DD) (M : MM) (T : State) (H : List Ent) (Lt : List SE) (cs ss : Nat) : Prop := Rn g D M T (fun vm h => Hp g vm h H Lt) cs ss
def Fn (g : GG) (D : DD) (M : MM) (Q : Option Value → Vm → Heap → Prop) (U : State) : Prop :=
  ∃ (t : State) (v : Option Value) (L : List Loc), Steps M.p.tables M.e M.below U t ∧ t.status = .running ∧ Ended t M.below (.returned v) ∧ Q v g.Z.vm t.heap ∧ Fr g.Z.heap.size L ∧ CHr g.Z g.EL g.Z.vm M.s.heap g.Z.vm t.heap ∧ Ext g.Z.heap t.heap ∧
    FrameEnd M.s (.returned v) t L D.rm.cells D.rm.slots
def CtW (g : GG) (D : DD) (ws : List Jvm.Cond) (as : Array Value) (H : List Ent) (Lt : List SE) (Q : Option Value → Vm → Heap → Prop) : Prop :=
  MetFree g.l D.y (head1 (Jvm.Cond.code D.y D.cd D.mx D.rt :: ws) D.rm) (fun a U => a = as ∧ g.Z.Warmed39 U.vm ∧ CHv g.Z g.EL g.Z.vm U.heap ∧ Ext g.Z.heap U.heap ∧ Hp g g.Z.vm U.heap H Lt) (fun _ _ _ _ _ => True)
    (fun _ U o U' => ∃ v L, o = .returned v ∧ Q v g.Z.vm U'.heap ∧ Fr g.Z.heap.size L ∧ CHr g.Z g.EL g.Z.vm U.heap g.Z.vm U'.heap ∧ Ext g.Z.heap U'.heap ∧ FrameEnd U o U' L D.rm.cells D.rm.slots)
abbrev Ct (g : GG) (D : DD) (as : Array Value) (H : List Ent) (Lt : List SE) (Q : Option Value → Vm → Heap → Prop) : Prop := CtW g D [] as H Lt Q
section Rules
variable {g : GG} {D D' : DD} {M : MM} {T : State} {A A' : Vm → Heap → Prop} {cs ss : Nat} {Q Q' : Option Value → Vm → Heap → Prop} {pc pc' : Nat} {Ls Ls' : Array Slot} {S : List Value} {H H' : List Ent} {Lt Lt' : List SE} {as : Array Value} {ws : List Jvm.Cond}
theorem ext_rfl (h : Heap) : Ext h h := ⟨Nat.le_refl _, fun _ _ q => q⟩
theorem ext_trans {h h1 h2 : Heap} (E : Ext h h1) (E' : Ext h1 h2) : Ext h h2 := ⟨Nat.le_trans E.1 E'.1, fun a c q => E'.2 a c (E.2 a c q)⟩
theorem Rn.gw (B : Rn g D M T A cs ss) : GW g := B.1.1
theorem Rn.hw (B : Rn g D M T A cs ss) : ∀ d ∈ tables_1, d.before g.a0 g.Z = true := B.1.1.1
theorem Rn.hx (B : Rn g D M T A cs ss) : M.p.tables.exec = Jvm.exec := B.1.2.1
theorem Rn.cd (B : Rn g D M T A cs ss) : M.c.code = D.cd := B.1.2.2.1
theorem Rn.here (B : Rn g D M T A cs ss) : At T M.m M.c M.below := by obtain ⟨-, vm0, k0, locs, X, -⟩ := B; exact X.here
theorem Rn.map (B : Rn g D M T A cs ss) (q : ∀ vm h, Ext g.Z.heap h → A vm h → A' vm h) : Rn g D M T A' cs ss := by
  obtain ⟨st, vm0, k0, locs, X, hS, hk, hZ, hown, hC, N, E0, hH⟩ := B
  exact ⟨st, vm0, k0, locs, X, hS, hk, hZ, hown, hC, N, E0, q _ _ E0 hH⟩
theorem Rn.ex {α : Type} {P : α → Vm → Heap → Prop} (B : Rn g D M T (fun vm h => ∃ x, P x vm h) cs ss) : ∃ x, Rn g D M T (P x) cs ss := by
  obtain ⟨st, vm0, k0, locs, X, hS, hk, hZ, hown, hC, N, E0, x, hH⟩ := B
  exact ⟨x, st, vm0, k0, locs, X, hS, hk, hZ, hown, hC, N, E0, hH⟩
theorem Rn.and {P : Prop} (B : Rn g D M T (fun vm h => P ∧ A vm h) cs ss) : P ∧ Rn g D M T A cs ss := by
  obtain ⟨st, vm0, k0, locs, X, hS, hk, hZ, hown, hC, N, E0, x, hH⟩ := B
  exact ⟨x, st, vm0, k0, locs, X, hS, hk, hZ, hown, hC, N, E0, hH⟩
theorem Rn.or (B : Rn g D M T (fun vm h => A vm h ∨ A' vm h) cs ss) : Rn g D M T A cs ss ∨ Rn g D M T A' cs ss := by
  obtain ⟨st, vm0, k0, locs, X, hS, hk, hZ, hown, hC, N, E0, hH | hH⟩ := B
  · exact Or.inl ⟨st, vm0, k0, locs, X, hS, hk, hZ, hown, hC, N, E0, hH⟩
  · exact Or.inr ⟨st, vm0, k0, locs, X, hS, hk, hZ, hown, hC, N, E0, hH⟩
theorem Rn.front (B : RH g D M T H Lt cs ss) {i : Nat} {x : Ent} (hi : H[i]? = some x) (e : x :: H.eraseIdx i = H') : RH g D M T H' Lt cs ss := B.map fun _ _ _ P => e ▸ P.front hi
theorem Rn.del (B : RH g D M T H Lt cs ss) (i : Nat) (e : H.eraseIdx i = H') : RH g D M T H' Lt cs ss := B.map fun _ _ _ P => e ▸ P.del i
theorem Rn.lsub (B : RH g D M T H Lt cs ss) (q : ∀ y ∈ Lt', y ∈ Lt) : RH g D M T H Lt' cs ss := B.map fun _ _ _ P => P.lsub q
theorem Rn.mono (B : Rn g D M T A cs ss) {cs' ss' : Nat} (h1 : cs ≤ cs') (h2 : ss ≤ ss') : Rn g D M T A cs' ss' := by
  obtain ⟨st, vm0, k0, locs, X, r⟩ := B
  exact ⟨st, vm0, k0, locs, X.mono h1 h2, r⟩
theorem Fn.go {U U' : State} (F : Fn g D M Q U') (st : ∀ t, Steps M.p.tables M.e M.below U' t → Steps M.p.tables M.e M.below U t) : Fn g D M Q U := by
  obtain ⟨t, v, L, h1, r⟩ := F
  exact ⟨t, v, L, st _ h1, r⟩
theorem CtW.body (W : GW g) (hpl : plainFor D.y = true) (ef : ∀ m, entryFrame m as D.mx = mkF m 0 Ls []) (K : ∀ M T, RH g D M T H Lt 0 0 → Fn g D M Q (T.setTop (mkF M.m 0 Ls []))) : CtW g D ws as H Lt Q := by
  refine MetFree.of_bodySF hpl hisR ?_
  intro p e s m args below meth c s₁ Bd hml0 hP hK
  obtain ⟨rfl, hZ, hC, hE, hH⟩ := hP
  have hown : s.vm.findClass D.y.cls = some m.cls := findClass_of_methodNamed Bd.named
  have hnm := (name_of_methodNamed Bd.named Bd.method).1
  have X0 := Stand.of_body Bd
  have e0 : s₁.heap = s.heap := by rw [Bd.state]; rfl
  obtain ⟨t, v, L, h1, h2, h3, h4, h5, h6, h7, h8⟩ := K (p, e, s, m, args, below, meth, c) s₁ ⟨⟨W, Bd.exec, Bd.bytes, hml0, Bd.returns, Bd.notSynchronized, hnm⟩, s.vm, 0, [], X0, rfl, Nat.zero_le _, hZ, hown, by rw [e0]; exact CHr.refl hC, Fr.nil _, by rw [e0]; exact hE, by rw [e0]; exact hH⟩
  exact ⟨t, _, castTop (ef m) h1, h2, h3, v, L, rfl, h4, h5, h6, h7, h8⟩
/-! returns -/

theorem r_ret (B : RH g D M T H Lt cs ss) (hd : decode D.cd pc = .ok (.return_, 1)) (hr : D.rt = none) (hc : cs ≤ D.rm.cells) (hs : ss ≤ D.rm.slots) (hQ : ∀ vm h, Hp g vm h H Lt → Q none vm h) : Fn g D M Q (T.setTop (mkF M.m pc Ls [])) := by
  obtain ⟨⟨W, hx, hcd, hml, hrt, hlk, hnm⟩, vm0, k0, locs, X, hS, hk, hZ, hown, hC, N, E0, hH⟩ := B
  subst hS
  obtain ⟨fs, hl, h1, h2, hW, hsame⟩ := Stand.leave (s := M.s) X (v := none) (fun _ => rfl) hlk
  exact ⟨T.setFrames fs, none, locs, X.returnOut hx (hrt.trans hr) (hb hcd hd) hl, h1, h2, hQ _ _ hH, N, hC, E0, ⟨_, rfl⟩, hW, hsame.mono hc hs⟩
theorem r_retv (B : RH g D M T H Lt cs ss) {i : Instr} {w : Value} {t : FieldType} {rest : List Value} (hd : decode D.cd pc = .ok (i, 1)) (hr : D.rt = some t) (hn : narrow t w = w)
    (hi : (i = .ireturn ∧ (t = .int ∨ t = .boolean ∨ t = .byte ∨ t = .char ∨ t = .short) ∧ ∃ z, w = .int z) ∨ (i = .lreturn ∧ t = .long ∧ ∃ z, w = .long z) ∨ (i = .dreturn ∧ t = .double ∧ ∃ z, w = .double z) ∨ (i = .freturn ∧ t = .float ∧ ∃ z, w = .float z) ∨ (i = .areturn ∧ t.isReference = true ∧ w.isRef = true))
    (hc : cs ≤ D.rm.cells) (hs : ss ≤ D.rm.slots) (hQ : ∀ vm h, Hp g vm h H Lt → Q (some w) vm h) : Fn g D M Q (T.setTop (mkF M.m pc Ls (w :: rest))) := by
  obtain ⟨⟨W, hx, hcd, hml, hrt, hlk, hnm⟩, vm0, k0, locs, X, hS, hk, hZ, hown, hC, N, E0, hH⟩ := B
  subst hS
  obtain ⟨fs, hl, h1, h2, hW, hsame⟩ := Stand.leave (s := M.s) X (v := some w) (fun q => by rw [hrt, hr] at q; cases q) hlk
  exact ⟨T.setFrames fs, some w, locs, retOut X hx (hrt.trans hr) hn hi (hb hcd hd) hl, h1, h2, hQ _ _ hH, N, hC, E0, ⟨_, rfl⟩, hW, hsame.mono hc hs⟩
theorem r_reti (B : RH g D M T H Lt cs ss) {z : Int32} {t : FieldType} {rest : List Value} (hd : decode D.cd pc = .ok (.ireturn, 1)) (hr : D.rt = some t) (ht : t = .int ∨ t = .boolean ∨ t = .byte ∨ t = .char ∨ t = .short) (hn : narrow t (.int z) = .int z)
    (hc : cs ≤ D.rm.cells) (hs : ss ≤ D.rm.slots) (hQ : ∀ vm h, Hp g vm h H Lt → Q (some (.int z)) vm h) : Fn g D M Q (T.setTop (mkF M.m pc Ls (.int z :: rest))) :=
  r_retv B hd hr hn (Or.inl ⟨rfl, ht, z, rfl⟩) hc hs hQ
theorem r_reta (B : RH g D M T H Lt cs ss) {w : Value} {t : FieldType} {rest : List Value} (hd : decode D.cd pc = .ok (.areturn, 1)) (hr : D.rt = some t) (ht : t.isReference = true) (hw : w.isRef = true)
    (hc : cs ≤ D.rm.cells) (hs : ss ≤ D.rm.slots) (hQ : ∀ vm h, Hp g vm h H Lt → Q (some w) vm h) : Fn g D M Q (T.setTop (mkF M.m pc Ls (w :: rest))) :=
  r_retv B hd hr (by cases t <;> first | (cases w <;> first | rfl | cases hw) | cases ht) (Or.inr (Or.inr (Or.inr (Or.inr ⟨rfl, ht, hw⟩)))) hc hs hQ
theorem r_retj (B : RH g D M T H Lt cs ss) {z : Int64} {rest : List Value} (hd : decode D.cd pc = .ok (.lreturn, 1)) (hr : D.rt = some .long)
    (hc : cs ≤ D.rm.cells) (hs : ss ≤ D.rm.slots) (hQ : ∀ vm h, Hp g vm h H Lt → Q (some (.long z)) vm h) : Fn g D M Q (T.setTop (mkF M.m pc Ls (.long z :: rest))) :=
  r_retv B hd hr rfl (Or.inr (Or.inl ⟨rfl, rfl, z, rfl⟩)) hc hs hQ
theorem r_retd (B : RH g D M T H Lt cs ss) {z : UInt64} {rest : List Value} (hd : decode D.cd pc = .ok (.dreturn, 1)) (hr : D.rt = some .double)
    (hc : cs ≤ D.rm.cells) (hs : ss ≤ D.rm.slots) (hQ : ∀ vm h, Hp g vm h H Lt → Q (some (.double z)) vm h) : Fn g D M Q (T.setTop (mkF M.m pc Ls (.double z :: rest))) :=
  r_retv B hd hr rfl (Or.inr (Or.inr (Or.inl ⟨rfl, rfl, z, rfl⟩))) hc hs hQ
/-! fields -/
theorem r_get (B : RH g D M T H Lt cs ss) {ix : Nat} {R0 O n d host : String} {a : Addr} {v : Value} (hd : decode D.cd pc = .ok (.getfield ix, 3)) (hp : pc + 3 = pc')
    (w : (Jvm.Cond.fieldLink D.y.cls ix R0 n d).before g.a0 g.Z = true ∨ (Jvm.Cond.fieldLinkNest D.y.cls ix R0 n d host).before g.a0 g.Z = true) (via : Via g.Z R0 O n d) (F : Al g H Lt fun h => Fld g.Z h a O n d v)
    (K : ∀ T', RH g D M T' H Lt cs ss → Fn g D M Q (T'.setTop (mkF M.m pc' Ls (v :: S)))) : Fn g D M Q (T.setTop (mkF M.m pc Ls (.ref a :: S))) := by
  subst hp
  obtain ⟨st, vm0, k0, locs, X, hS, hk, hZ, hown, hC, N, E0, hH⟩ := B
  obtain ⟨T', X', e', stp⟩ := getF (Z := g.Z) (a0 := g.a0) X st.2.1 hZ hown w via rfl (F _ _ E0 hH) (g := mkF M.m pc Ls (.ref a :: S)) rfl rfl (hb st.2.2.1 hd)
  exact (K T' ⟨st, vm0, k0, locs, X', hS, by rw [e']; exact hk, hZ, hown, by rw [e']; exact hC, N, by rw [e']; exact E0, by rw [e']; exact hH⟩).go stp
theorem r_gets (B : RH g D M T H Lt cs ss) {ix : Nat} {R0 O n d host : String} {v : Value} (hd : decode D.cd pc = .ok (.getstatic ix, 3)) (hp : pc + 3 = pc')
    (w : (Jvm.Cond.fieldLink D.y.cls ix R0 n d).before g.a0 g.Z = true ∨ (Jvm.Cond.fieldLinkNest D.y.cls ix R0 n d host).before g.a0 g.Z = true) (via : Via g.Z R0 O n d) (F : Sta g.Z g.Z.heap O n d v)
    (K : ∀ T', RH g D M T' H Lt cs ss → Fn g D M Q (T'.setTop (mkF M.m pc' Ls (v :: S)))) : Fn g D M Q (T.setTop (mkF M.m pc Ls S)) := by
  subst hp
  obtain ⟨st, vm0, k0, locs, X, hS, hk, hZ, hown, hC, N, E0, hH⟩ := B
  obtain ⟨T', X', e', stp⟩ := getS2 (Z := g.Z) (a0 := g.a0) X st.2.1 hZ hown w via rfl (F.ext E0) (g := mkF M.m pc Ls S) rfl (hb st.2.2.1 hd)
  exact (K T' ⟨st, vm0, k0, locs, X', hS, by rw [e']; exact hk, hZ, hown, by rw [e']; exact hC, N, by rw [e']; exact E0, by rw [e']; exact hH⟩).go stp
theorem is_put {Z : State} {h h' : Heap} {a0 : Array Value} {a : Addr} {C O n d : String} {fs : List FD} {j : Nat} {old v : Value} (I : Is Z h (a, .inl (C, fs))) (L : Lays Z a0 C fs) (hf : fs[j]? = some (O, n, d, old)) (W : Wr h h' a (Jvm.RoadKit.slotOf Z O n d) v) : Is Z h' (a, .inl (C, fs.set j (O, n, d, v))) ∧ Lays Z a0 C (fs.set j (O, n, d, v)) := by
  obtain ⟨hj, hg⟩ := List.getElem?_eq_some_iff.mp hf
  have hmap : (fs.set j (O, n, d, v)).map (fun f => f.2.1) = fs.map fun f => f.2.1 := by
    rw [List.map_set]
    apply List.ext_getElem?
    intro i
    rw [List.getElem?_set]
    split
    · rename_i e; subst e
      rw [if_pos (by simpa using hj), List.getElem?_map, hf]; rfl
    · rfl
  have hmem : ∀ z ∈ fs.set j (O, n, d, v), z = (O, n, d, v) ∨ (z ∈ fs ∧ z.2.1 ≠ n) := fun z hz => by
    obtain ⟨i, hi⟩ := List.mem_iff_getElem?.mp hz
    rw [List.getElem?_set] at hi
    split at hi
    · exact Or.inl (Option.some.inj hi).symm
    · rename_i hne
      refine Or.inr ⟨List.mem_iff_getElem?.mpr ⟨i, hi⟩, fun e => hne ?_⟩
      obtain ⟨hil, hig⟩ := List.getElem?_eq_some_iff.mp hi
      have e1 : (fs.map fun f => f.2.1)[j]'(by simpa using hj) = (fs.map fun f => f.2.1)[i]'(by simpa using hil) := by
        rw [List.getElem_map, List.getElem_map, hg, hig, e]
      exact (List.getElem_inj L.1).mp e1
  have hx : (O, n, d, old) ∈ fs := List.mem_of_getElem? hf
  refine ⟨⟨I.1.wr W, fun z hz => ?_⟩, by rw [hmap]; exact L.1, fun z hz => ?_⟩
  · rcases hmem z hz with rfl | ⟨hz, hne⟩
    · exact (I.2 _ hx).same W
    · obtain ⟨t1, ht1⟩ := (L.2 _ hx).2
      obtain ⟨t2, ht2⟩ := (L.2 _ hz).2
      exact (I.2 _ hz).other W (Or.inr (slot_ne (L.2 _ hz).1 (L.2 _ hx).1 hne ht2 ht1))
  · rcases hmem z hz with rfl | ⟨hz, -⟩
    · exact (show _ from L.2 (O, n, d, old) hx)
    · exact L.2 _ hz
theorem r_put (B : RH g D M T H Lt cs ss) {ix kk i j : Nat} {R0 O n d host C : String} {a : Addr} {v old : Value} {fs : List FD} {ty : FieldType} (hd : decode D.cd pc = .ok (.putfield ix, 3)) (hp : pc + 3 = pc')
    (w : (Jvm.Cond.fieldLink D.y.cls ix R0 n d).before g.a0 g.Z = true ∨ (Jvm.Cond.fieldLinkNest D.y.cls ix R0 n d host).before g.a0 g.Z = true) (via : Via g.Z R0 O n d)
    (hi : H[i]? = some (a, .inl (C, fs))) (hf : fs[j]? = some (O, n, d, old)) (L : (Jvm.Cond.lays C O n d).before g.a0 g.Z = true ∨ ((Jvm.Cond.laysFinal C O n d).before g.a0 g.Z = true ∧ D.y.cls = O ∧ D.y.name = "<init>")) (wi : (Jvm.Cond.instantiable C kk).before g.a0 g.Z = true)
    (hty : parseFieldDescriptor d = some ty) (hn : narrow ty v = v) (hft : fits ty v = true) (e : H.set i (a, .inl (C, fs.set j (O, n, d, v))) = H')
    (K : ∀ T', RH g D M T' H' Lt cs ss → Fn g D M Q (T'.setTop (mkF M.m pc' Ls S))) : Fn g D M Q (T.setTop (mkF M.m pc Ls (v :: .ref a :: S))) := by
  subst hp
  obtain ⟨st, vm0, k0, locs, X, hS, hk, hZ, hown, hC, N, E0, hH⟩ := B
  have I := hH.1 _ (List.mem_of_getElem? hi)
  obtain ⟨T', h', X', e', W, stp⟩ := putF (Z := g.Z) (a0 := g.a0) X st.2.1 hZ hown w via rfl (I.1.2 _ (List.mem_of_getElem? hf)) I.1.1 (L.imp id fun q => ⟨q.1, q.2.1, st.2.2.2.2.2.2.trans q.2.2⟩) wi hty hn hft (g := mkF M.m pc Ls (v :: .ref a :: S)) rfl rfl (hb st.2.2.1 hd)
  have C1 := CHr.wr W I.2.2.2 hC.1
  have hsz := W.size
  obtain ⟨q1, q2⟩ := is_put I.1 I.2.1 hf W
  have P' := hH.upd C1 (Keep.of_wr W) hi rfl rfl q1 q2
  rw [e] at P'
  refine (K T' ⟨st, vm0, k0, _, X', hS, by rw [e', hsz]; exact hk, hZ, hown, by rw [e']; exact hC.trans C1, Fr.snoc X' N I.2.2.1, ?_, by rw [e']; exact P'⟩).go stp
  rw [e']; exact (Old.wr ⟨rfl, E0⟩ W I.2.2.1).2
/-- putfield of an int that the field's kind narrows -/
theorem r_putn (B : RH g D M T H Lt cs ss) {ix kk i j : Nat} {R0 O n d C : String} {a : Addr} {v v' old : Value} {fs : List FD} {ty : FieldType} (hd : decode D.cd pc = .ok (.putfield ix, 3)) (hp : pc + 3 = pc')
    (w : (Jvm.Cond.fieldLink D.y.cls ix R0 n d).before g.a0 g.Z = true) (via : Via g.Z R0 O n d)
    (hi : H[i]? = some (a, .inl (C, fs))) (hf : fs[j]? = some (O, n, d, old)) (L : (Jvm.Cond.lays C O n d).before g.a0 g.Z = true ∨ ((Jvm.Cond.laysFinal C O n d).before g.a0 g.Z = true ∧ D.y.cls = O ∧ D.y.name = "<init>")) (wi : (Jvm.Cond.instantiable C kk).before g.a0 g.Z = true)
    (hty : parseFieldDescriptor d = some ty) (hn : narrow ty v = v') (hft : fits ty v' = true) (e : H.set i (a, .inl (C, fs.set j (O, n, d, v'))) = H')
    (K : ∀ T', RH g D M T' H' Lt cs ss → Fn g D M Q (T'.setTop (mkF M.m pc' Ls S))) : Fn g D M Q (T.setTop (mkF M.m pc Ls (v :: .ref a :: S))) := by
  subst hp
  obtain ⟨st, vm0, k0, locs, X, hS, hk, hZ, hown, hC, N, E0, hH⟩ := B
  have I := hH.1 _ (List.mem_of_getElem? hi)
  obtain ⟨T', h', X', e', W, stp⟩ := putFN (Z := g.Z) (a0 := g.a0) X st.2.1 hZ hown w via rfl (I.1.2 _ (List.mem_of_getElem? hf)) I.1.1 (L.imp id fun q => ⟨q.1, q.2.1, st.2.2.2.2.2.2.trans q.2.2⟩) wi hty hn hft (g := mkF M.m pc Ls (v :: .ref a :: S)) rfl rfl (hb st.2.2.1 hd)
  have C1 := CHr.wr W I.2.2.2 hC.1
  have hsz := W.size
  obtain ⟨q1, q2⟩ := is_put I.1 I.2.1 hf W
  have P' := hH.upd C1 (Keep.of_wr W) hi rfl rfl q1 q2
  rw [e] at P'
  refine (K T' ⟨st, vm0, k0, _, X', hS, by rw [e', hsz]; exact hk, hZ, hown, by rw [e']; exact hC.trans C1, Fr.snoc X' N I.2.2.1, ?_, by rw [e']; exact P'⟩).go stp
  rw [e']; exact (Old.wr ⟨rfl, E0⟩ W I.2.2.1).2
/-! new objects and arrays -/
theorem r_new (B : RH g D M T H Lt cs ss) {ix n cs' ss' : Nat} {C : String} {fs : List FD} (hd : decode D.cd pc = .ok (.new ix, 3)) (hp : pc + 3 = pc')
    (w : (Jvm.Cond.classLink D.y.cls ix C).before g.a0 g.Z = true) (wi : (Jvm.Cond.instantiable C n).before g.a0 g.Z = true) (wz : (Jvm.Cond.initialized C).before g.a0 g.Z = true) (hl : Lays g.Z g.a0 C fs)
    (hv : ∀ f ∈ fs, (parseFieldDescriptor f.2.2.1).map defaultValue = some f.2.2.2) (hc : cs + 1 = cs') (hs : ss + n = ss') (hc' : cs' ≤ D.rm.cells) (hs' : ss' ≤ D.rm.slots)
    (K : ∀ T' a, RH g D M T' ((a, .inl (C, fs)) :: H) Lt cs' ss' → Fn g D M Q (T'.setTop (mkF M.m pc' Ls (.ref a :: S)))) : Fn g D M Q (T.setTop (mkF M.m pc Ls S)) := by
  subst hp hc hs
  obtain ⟨st, vm0, k0, locs, X, hS, hk, hZ, hown, hC, N, E0, hH⟩ := B
  obtain ⟨T', h', X', e', E, A1, D1, -, stp⟩ := newO (Z := g.Z) (a0 := g.a0) X st.2.1 hZ hown w wi wz rfl (g := mkF M.m pc Ls S) rfl (hb st.2.2.1 hd) hc' hs'
  have P' := hH.born (x := (T.heap.size, .inl (C, fs))) hC.1 E0 E rfl ⟨A1, fun f hf => by
    obtain ⟨ty, ht⟩ := (hl.2 f hf).2
    have q := hv f hf
    rw [ht] at q
    rw [← Option.some.inj q]
    exact D1 (hl.2 f hf).1 ht⟩ hl
  exact (K T' _ ⟨st, vm0, k0, locs, X', hS, by rw [e']; exact Nat.le_trans hk E.1, hZ, hown, by rw [e']; exact hC.trans (CHr.ext E hC.1), N, by rw [e']; exact ext_trans E0 E, by rw [e']; exact P'⟩).go stp
theorem ary_new {Z : State} {h : Heap} {a : Addr} {k : ClassId} {ty : FieldType} {n : Int32} {nm : String} {nn : Nat} (A : Jvm.RoadKit.Arr Z h a (newA k ty n) ty) (hn : ¬ n < 0) (hnn : n.toNatClampNeg = nn) (hf : fits ty (defaultValue ty) = true) (hO : ∀ C, ty = .object C → Ovr Z k C) (hE : nm ≠ "" → Exa Z h a nm) : Ary Z h a ty nm (List.replicate nn (defaultValue ty)) := by
  refine ⟨_, A, ?_, ?_, ?_, hO, hE⟩
  · subst hnn; simp [newA]
  · have := (back32 hn).2
    rw [List.length_replicate, ← hnn]; exact this
  · intro v hv
    rw [(List.mem_replicate.mp hv).2]; exact hf
theorem r_newp (B : RH g D M T H Lt cs ss) {aty : ArrayType} {n : Int32} {nn cap cs' ss' : Nat} {ty : FieldType} {vs : List Value} {ad : String} (hd : decode D.cd pc = .ok (.newarray aty, 2)) (hp : pc + 2 = pc')
    (w : (Jvm.Cond.arrayClass ty).before g.a0 g.Z = true) (hty : newarray.typeOf aty = ty) (hn : ¬ n < 0) (hnn : n.toNatClampNeg = nn) (hcap : nn ≤ cap) (hb8 : cap * 8 ≤ 536870912) (hc : cs + 1 = cs') (hs : ss + cap = ss') (hc' : cs' ≤ D.rm.cells) (hs' : ss' ≤ D.rm.slots)
    (had : "[" ++ ty.toString = ad) (hfd : fits ty (defaultValue ty) = true) (hob : ∀ C, ty ≠ .object C) (hvs : List.replicate nn (defaultValue ty) = vs)
    (K : ∀ T' a, RH g D M T' ((a, .inr (ty, ad, vs)) :: H) Lt cs' ss' → Fn g D M Q (T'.setTop (mkF M.m pc' Ls (.ref a :: S)))) : Fn g D M Q (T.setTop (mkF M.m pc Ls (.int n :: S))) := by
  subst hp hty hc hs
  obtain ⟨st, vm0, k0, locs, X, hS, hk, hZ, hown, hC, N, E0, hH⟩ := B
  obtain ⟨T', h', cA, X', e', E, A1, A2, stp⟩ := newPE (Z := g.Z) (a0 := g.a0) X st.2.1 hZ w rfl (g := mkF M.m pc Ls (.int n :: S)) rfl (hb st.2.2.1 hd) rfl hn (cap := cap) (by rw [hnn]; exact hcap) hb8 hc' hs' had
  have P' := hH.born (x := (T.heap.size, .inr (newarray.typeOf aty, ad, vs))) hC.1 E0 E rfl (hvs ▸ ary_new A1 hn hnn hfd (fun C q => absurd q (hob C)) (fun _ => A2)) trivial
  exact (K T' _ ⟨st, vm0, k0, locs, X', hS, by rw [e']; exact Nat.le_trans hk E.1, hZ, hown, by rw [e']; exact hC.trans (CHr.ext E hC.1), N, by rw [e']; exact ext_trans E0 E, by rw [e']; exact P'⟩).go stp
theorem r_newr (B : RH g D M T H Lt cs ss) {ix : Nat} {C : String} {n : Int32} {nn cap cs' ss' : Nat} {vs : List Value} {ad : String} (hd : decode D.cd pc = .ok (.anewarray ix, 3)) (hp : pc + 3 = pc')
    (w1 : (Jvm.Cond.classLink D.y.cls ix C).before g.a0 g.Z = true) (w2 : (Jvm.Cond.arrayOver (.object C)).before g.a0 g.Z = true) (hn : ¬ n < 0) (hnn : n.toNatClampNeg = nn) (hcap : nn ≤ cap) (hb8 : cap * 8 ≤ 536870912) (hc : cs + 1 = cs') (hs : ss + cap = ss') (hc' : cs' ≤ D.rm.cells) (hs' : ss' ≤ D.rm.slots)
    (had : "[" ++ (FieldType.object C).toString = ad) (hvs : List.replicate nn Value.null = vs)
    (K : ∀ T' a, RH g D M T' ((a, .inr (.object C, ad, vs)) :: H) Lt cs' ss' → Fn g D M Q (T'.setTop (mkF M.m pc' Ls (.ref a :: S)))) : Fn g D M Q (T.setTop (mkF M.m pc Ls (.int n :: S))) := by
  subst hp hc hs
  obtain ⟨st, vm0, k0, locs, X, hS, hk, hZ, hown, hC, N, E0, hH⟩ := B
  obtain ⟨T', h', cA, X', e', E, A1, A2, A3, stp⟩ := newRE (Z := g.Z) (a0 := g.a0) X st.2.1 hZ hown w1 w2 rfl (g := mkF M.m pc Ls (.int n :: S)) rfl (hb st.2.2.1 hd) rfl hn (cap := cap) (by rw [hnn]; exact hcap) hb8 hc' hs' had
  have P' := hH.born (x := (T.heap.size, .inr (.object C, ad, vs))) hC.1 E0 E rfl (hvs ▸ ary_new A1 hn hnn rfl (fun C' q => by cases q; exact A3) (fun _ => A2)) trivial
  exact (K T' _ ⟨st, vm0, k0, locs, X', hS, by rw [e']; exact Nat.le_trans hk E.1, hZ, hown, by rw [e']; exact hC.trans (CHr.ext E hC.1), N, by rw [e']; exact ext_trans E0 E, by rw [e']; exact P'⟩).go stp
/-! arrays read and written -/
theorem xarr {Z : State} {h : Heap} {U : State} {a : Addr} {ty : FieldType} {nm : String} {vs : List Value} (hZ : Z.vm.Alike U.vm) (eU : U.heap = h) (A : Ary Z h a ty nm vs) : ∃ c : Cell, Jvm.Free.XT.Arr ty a c U ∧ c.slots.size = vs.length ∧ ∀ i : Nat, c.slots[i]? = vs[i]? := by
  obtain ⟨c, r1, r2, r3, -⟩ := A
  refine ⟨c, ⟨by rw [eU]; exact r1.1, State.isArrayOf_alike hZ r1.2.1, r1.2.2, by rw [r2]; simpa using r3⟩, by rw [r2]; simp, fun i => by rw [r2]; simp⟩
theorem r_alen (B : RH g D M T H Lt cs ss) {a : Addr} {ty : FieldType} {nm : String} {vs : List Value} {z : Int32} (hd : decode D.cd pc = .ok (.arraylength, 1)) (hp : pc + 1 = pc') (F : Al g H Lt fun h => Ary g.Z h a ty nm vs) (hz : Int32.ofNat vs.length = z)
    (K : Fn g D M Q (T.setTop (mkF M.m pc' Ls (.int z :: S)))) : Fn g D M Q (T.setTop (mkF M.m pc Ls (.ref a :: S))) := by
  subst hp; subst hz
  obtain ⟨st, vm0, k0, locs, X, hS, hk, hZ, hown, hC, N, E0, hH⟩ := B
  obtain ⟨c, r1, r2, r3⟩ := xarr (U := T) (hZ.alike.trans X.warmed.alike) rfl (F _ _ E0 hH)
  rw [← r2] at K
  exact K.go fun t => X.alen (g := mkF M.m pc Ls (.ref a :: S)) st.2.1 r1 rfl rfl (hb st.2.2.1 hd)
theorem r_aget (B : RH g D M T H Lt cs ss) {a : Addr} {ty : FieldType} {nm : String} {vs : List Value} {j : Int32} {k : Nat} {v : Value} {i : Instr} (hd : decode D.cd pc = .ok (i, 1)) (hi : i = Jvm.Free.XT.loadOf ty) (hp : pc + 1 = pc') (F : Al g H Lt fun h => Ary g.Z h a ty nm vs) (hj : j = Int32.ofNat k) (hv : vs[k]? = some v)
    (K : Fn g D M Q (T.setTop (mkF M.m pc' Ls (v :: S)))) : Fn g D M Q (T.setTop (mkF M.m pc Ls (.int j :: .ref a :: S))) := by
  subst hp; subst hi
  obtain ⟨st, vm0, k0, locs, X, hS, hk, hZ, hown, hC, N, E0, hH⟩ := B
  obtain ⟨c, r1, r2, r3⟩ := xarr (U := T) (hZ.alike.trans X.warmed.alike) rfl (F _ _ E0 hH)
  exact K.go fun t => X.aget (g := mkF M.m pc Ls (.int j :: .ref a :: S)) st.2.1 r1 hj ((r3 k).trans hv) rfl rfl (hb st.2.2.1 hd)
theorem ary_set {Z : State} {h h' : Heap} {a : Addr} {ty : FieldType} {nm : String} {vs : List Value} {k : Nat} {v : Value} (A : Ary Z h a ty nm vs) (W : Wr h h' a k v) (hf : fits ty v = true) : Ary Z h' a ty nm (vs.set k v) := by
  obtain ⟨c, r1, r2, r3, r4, r5, r6⟩ := A
  refine ⟨_, r1.same W, ?_, by rw [List.length_set]; exact r3, fun w hw => ?_, r5, fun q => (r6 q).wr W⟩
  · simp [Cell.setSlot, r2]
  · rcases List.mem_or_eq_of_mem_set hw with q | rfl
    · exact r4 w q
    · exact hf
theorem r_aputW (B : RH g D M T H Lt cs ss) {i : Nat} {a : Addr} {ty : FieldType} {nm : String} {vs : List Value} {k : Nat} {v : Value} (hi : H[i]? = some (a, .inr (ty, nm, vs))) (hf : fits ty v = true) (e : H.set i (a, .inr (ty, nm, vs.set k v)) = H')
    {U : State} {f : JFrame} (P : ∀ (vm0 : Vm) (locs : List Loc), Stand M.p g.l M.e D.rm (M.s.setVm vm0) M.m M.args M.below M.meth M.c T locs cs ss → g.Z.Warmed39 vm0 → ∀ c, Jvm.RoadKit.Arr g.Z T.heap a c ty → c.slots.size = vs.length → ∃ T' h', Stand M.p g.l M.e D.rm (M.s.setVm vm0) M.m M.args M.below M.meth M.c T' (locs ++ [⟨a, k⟩]) cs ss ∧ T'.heap = h' ∧ Wr T.heap h' a k v ∧ ∀ t, Steps M.p.tables M.e M.below (T'.setTop f) t → Steps M.p.tables M.e M.below U t)
    (K : ∀ T', RH g D M T' H' Lt cs ss → Fn g D M Q (T'.setTop f)) : Fn g D M Q U := by
  obtain ⟨st, vm0, k0, locs, X, hS, hk, hZ, hown, hC, N, E0, hH⟩ := B
  have I := hH.1 _ (List.mem_of_getElem? hi)
  have I1 : Ary g.Z T.heap a ty nm vs := I.1
  have I2 := I1
  obtain ⟨c, r1, r2', -⟩ := I2
  have r2 : c.slots.size = vs.length := by rw [r2']; simp
  obtain ⟨T', h', X', e', W, stp⟩ := P vm0 locs X hZ c r1 r2
  have C1 := CHr.wr W I.2.2.2 hC.1
  have hsz := W.size
  have P' := hH.upd C1 (Keep.of_wr W) hi rfl rfl (show Is g.Z h' (a, .inr (ty, nm, vs.set k v)) from ary_set I1 W hf) trivial
  rw [e] at P'
  refine (K T' ⟨st, vm0, k0, _, X', hS, by rw [e', hsz]; exact hk, hZ, hown, by rw [e']; exact hC.trans C1, Fr.snoc X' N I.2.2.1, ?_, by rw [e']; exact P'⟩).go stp
  rw [e']; exact (Old.wr ⟨rfl, E0⟩ W I.2.2.1).2
theorem inb {j : Int32} {k n : Nat} (hj : ¬ j < 0) (hk : j.toNatClampNeg = k) (hl : k < n) : ¬ (j < 0 ∨ n ≤ j.toNatClampNeg) := fun q => q.elim hj fun r => by rw [hk] at r; omega
theorem r_castore (B : RH g D M T H Lt cs ss) {i : Nat} {a : Addr} {nm : String} {vs : List Value} {j x x' : Int32} {k : Nat} (hd : decode D.cd pc = .ok (.castore, 1)) (hp : pc + 1 = pc') (hi : H[i]? = some (a, .inr (.char, nm, vs))) (hj : ¬ j < 0) (hk : j.toNatClampNeg = k) (hl : k < vs.length) (hx : nar .char x = x')
    (e : H.set i (a, .inr (.char, nm, vs.set k (.int x'))) = H') (K : ∀ T', RH g D M T' H' Lt cs ss → Fn g D M Q (T'.setTop (mkF M.m pc' Ls S))) : Fn g D M Q (T.setTop (mkF M.m pc Ls (.int x :: .int j :: .ref a :: S))) := by
  subst hp; subst hx; subst hk
  exact r_aputW B hi (fits_nar_char x) e (fun vm0 locs X hZ c r1 r2 => stC X B.hx hZ rfl r1 (by rw [r2]; exact inb hj rfl hl) (g := mkF M.m pc Ls (.int x :: .int j :: .ref a :: S)) rfl rfl (hb B.cd hd)) K
theorem r_bastore (B : RH g D M T H Lt cs ss) {i : Nat} {a : Addr} {nm : String} {vs : List Value} {j x x' : Int32} {k : Nat} (hd : decode D.cd pc = .ok (.bastore, 1)) (hp : pc + 1 = pc') (hi : H[i]? = some (a, .inr (.byte, nm, vs))) (hj : ¬ j < 0) (hk : j.toNatClampNeg = k) (hl : k < vs.length) (hx : nar .byte x = x')
    (e : H.set i (a, .inr (.byte, nm, vs.set k (.int x'))) = H') (K : ∀ T', RH g D M T' H' Lt cs ss → Fn g D M Q (T'.setTop (mkF M.m pc' Ls S))) : Fn g D M Q (T.setTop (mkF M.m pc Ls (.int x :: .int j :: .ref a :: S))) := by
  subst hp; subst hx; subst hk
  exact r_aputW B hi (fits_nar_byte x) e (fun vm0 locs X hZ c r1 r2 => stB X B.hx hZ rfl r1 (by rw [r2]; exact inb hj rfl hl) (g := mkF M.m pc Ls (.int x :: .int j :: .ref a :: S)) rfl rfl (hb B.cd hd)) K
theorem r_zastore (B : RH g D M T H Lt cs ss) {i : Nat} {a : Addr} {nm : String} {vs : List Value} {j x x' : Int32} {k : Nat} (hd : decode D.cd pc = .ok (.bastore, 1)) (hp : pc + 1 = pc') (hi : H[i]? = some (a, .inr (.boolean, nm, vs))) (hj : ¬ j < 0) (hk : j.toNatClampNeg = k) (hl : k < vs.length) (hx : nar .boolean x = x')
    (e : H.set i (a, .inr (.boolean, nm, vs.set k (.int x'))) = H') (K : ∀ T', RH g D M T' H' Lt cs ss → Fn g D M Q (T'.setTop (mkF M.m pc' Ls S))) : Fn g D M Q (T.setTop (mkF M.m pc Ls (.int x :: .int j :: .ref a :: S))) := by
  subst hp; subst hx; subst hk
  exact r_aputW B hi (fits_nar_bool x) e (fun vm0 locs X hZ c r1 r2 => stZ X B.hx hZ rfl r1 (by rw [r2]; exact inb hj rfl hl) (g := mkF M.m pc Ls (.int x :: .int j :: .ref a :: S)) rfl rfl (hb B.cd hd)) K
theorem r_iastore (B : RH g D M T H Lt cs ss) {i : Nat} {a : Addr} {nm : String} {vs : List Value} {j x : Int32} {k : Nat} (hd : decode D.cd pc = .ok (.iastore, 1)) (hp : pc + 1 = pc') (hi : H[i]? = some (a, .inr (.int, nm, vs))) (hj : ¬ j < 0) (hk : j.toNatClampNeg = k) (hl : k < vs.length)
    (e : H.set i (a, .inr (.int, nm, vs.set k (.int x))) = H') (K : ∀ T', RH g D M T' H' Lt cs ss → Fn g D M Q (T'.setTop (mkF M.m pc' Ls S))) : Fn g D M Q (T.setTop (mkF M.m pc Ls (.int x :: .int j :: .ref a :: S))) := by
  subst hp; subst hk
  exact r_aputW B hi rfl e (fun vm0 locs X hZ c r1 r2 => stI X B.hx hZ rfl r1 (by rw [r2]; exact inb hj rfl hl) (g := mkF M.m pc Ls (.int x :: .int j :: .ref a :: S)) rfl rfl (hb B.cd hd)) K
theorem r_lastore (B : RH g D M T H Lt cs ss) {i : Nat} {a : Addr} {nm : String} {vs : List Value} {j : Int32} {x : Int64} {k : Nat} (hd : decode D.cd pc = .ok (.lastore, 1)) (hp : pc + 1 = pc') (hi : H[i]? = some (a, .inr (.long, nm, vs))) (hj : ¬ j < 0) (hk : j.toNatClampNeg = k) (hl : k < vs.length)
    (e : H.set i (a, .inr (.long, nm, vs.set k (.long x))) = H') (K : ∀ T', RH g D M T' H' Lt cs ss → Fn g D M Q (T'.setTop (mkF M.m pc' Ls S))) : Fn g D M Q (T.setTop (mkF M.m pc Ls (.long x :: .int j :: .ref a :: S))) := by
  subst hp; subst hk
  exact r_aputW B hi rfl e (fun vm0 locs X hZ c r1 r2 => stJ X B.hx hZ rfl r1 (by rw [r2]; exact inb hj rfl hl) (g := mkF M.m pc Ls (.long x :: .int j :: .ref a :: S)) rfl rfl (hb B.cd hd)) K
/-- aastore: null, or an object that is one of the array's kind -/
theorem r_aastore (B : RH g D M T H Lt cs ss) {i : Nat} {a : Addr} {nm C : String} {vs : List Value} {j : Int32} {v : Value} {k : Nat} (hd : decode D.cd pc = .ok (.aastore, 1)) (hp : pc + 1 = pc') (hi : H[i]? = some (a, .inr (.object C, nm, vs))) (hj : ¬ j < 0) (hk : j.toNatClampNeg = k) (hl : k < vs.length)
    (hv : v = .null ∨ ∃ y, v = .ref y ∧ Al g H Lt fun h => Ins g.Z h y C true)
    (e : H.set i (a, .inr (.object C, nm, vs.set k v)) = H') (K : ∀ T', RH g D M T' H' Lt cs ss → Fn g D M Q (T'.setTop (mkF M.m pc' Ls S))) : Fn g D M Q (T.setTop (mkF M.m pc Ls (v :: .int j :: .ref a :: S))) := by
  subst hp; subst hk
  have hf : fits (.object C) v = true := by rcases hv with rfl | ⟨y, rfl, -⟩ <;> rfl
  refine r_aputW B hi hf e (fun vm0 locs X hZ c r1 r2 => ?_) K
  obtain ⟨st, vm1, k0, locs1, X1, hS, hk, hZ1, hown, hC, N, E0, hH⟩ := B
  have I1 : Ary g.Z T.heap a (.object C) nm vs := (hH.1 _ (List.mem_of_getElem? hi)).1
  obtain ⟨c2, q1, -, -, -, q5, -⟩ := I1
  have hcc : c2 = c := Option.some.inj (q1.1.symm.trans r1.1)
  subst hcc
  have hsto : Sto g.Z T.heap a v := by
    rcases hv with rfl | ⟨y, rfl, I⟩
    · exact Or.inl rfl
    · exact Sto.of r1 (q5 C rfl) (I _ _ E0 hH)
  exact stR X st.2.1 hZ rfl r1 (by rw [r2]; exact inb hj rfl hl) rfl hsto (g := mkF M.m pc Ls (v :: .int j :: .ref a :: S)) rfl rfl (hb st.2.2.1 hd)
/-! OWN WALKING KIT, part 3: plain steps (printed by mkpure.py). -/
theorem p_iload (B : Rn g D M T A cs ss) {k : Nat} {v : Int32} (hd : decode D.cd pc = .ok (.iload k, 2)) (hp : pc + 2 = pc') (hl : Ls[k]? = some (.val (.int v))) (K : Fn g D M Q (T.setTop (mkF M.m pc' Ls (.int v :: S)))) : Fn g D M Q (T.setTop (mkF M.m pc Ls (S))) := by
  subst hp
  exact K.go fun t => XS.iload (g := mkF M.m pc Ls (S)) B.here B.hx rfl (hb B.cd hd) hl
theorem p_iloadN (B : Rn g D M T A cs ss) {k : Fin 4} {v : Int32} (hd : decode D.cd pc = .ok (.iload_n k, 1)) (hp : pc + 1 = pc') (hl : Ls[k.val]? = some (.val (.int v))) (K : Fn g D M Q (T.setTop (mkF M.m pc' Ls (.int v :: S)))) : Fn g D M Q (T.setTop (mkF M.m pc Ls (S))) := by
  subst hp
  exact K.go fun t => XS.iloadN (g := mkF M.m pc Ls (S)) B.here B.hx rfl (hb B.cd hd) hl
theorem p_lload (B : Rn g D M T A cs ss) {k : Nat} {v : Int64} (hd : decode D.cd pc = .ok (.lload k, 2)) (hp : pc + 2 = pc') (hl : Ls[k]? = some (.val (.long v))) (K : Fn g D M Q (T.setTop (mkF M.m pc' Ls (.long v :: S)))) : Fn g D M Q (T.setTop (mkF M.m pc Ls (S))) := by
  subst hp
  exact K.go fun t => XS.lload (g := mkF M.m pc Ls (S)) B.here B.hx rfl (hb B.cd hd) hl
theorem p_lloadN (B : Rn g D M T A cs ss) {k : Fin 4} {v : Int64} (hd : decode D.cd pc = .ok (.lload_n k, 1)) (hp : pc + 1 = pc') (hl : Ls[k.val]? = some (.val (.long v))) (K : Fn g D M Q (T.setTop (mkF M.m pc' Ls (.long v :: S)))) : Fn g D M Q (T.setTop (mkF M.m pc Ls (S))) := by
  subst hp
  exact K.go fun t => XS.lloadN (g := mkF M.m pc Ls (S)) B.here B.hx rfl (hb B.cd hd) hl
theorem p_aload (B : Rn g D M T A cs ss) {k : Nat} {v : Value} (hd : decode D.cd pc = .ok (.aload k, 2)) (hp : pc + 2 = pc') (hl : Ls[k]? = some (.val v)) (hv : v.isRef = true) (K : Fn g D M Q (T.setTop (mkF M.m pc' Ls (v :: S)))) : Fn g D M Q (T.setTop (mkF M.m pc Ls (S))) := by
  subst hp
  exact K.go fun t => XS.aload (g := mkF M.m pc Ls (S)) B.here B.hx rfl (hb B.cd hd) hl hv
theorem p_aloadN (B : Rn g D M T A cs ss) {k : Fin 4} {v : Value} (hd : decode D.cd pc = .ok (.aload_n k, 1)) (hp : pc + 1 = pc') (hl : Ls[k.val]? = some (.val v)) (hv : v.isRef = true) (K : Fn g D M Q (T.setTop (mkF M.m pc' Ls (v :: S)))) : Fn g D M Q (T.setTop (mkF M.m pc Ls (S))) := by
  subst hp
  exact K.go fun t => XS.aloadN (g := mkF M.m pc Ls (S)) B.here B.hx rfl (hb B.cd hd) hl hv
theorem p_istore (B : Rn g D M T A cs ss) {k : Nat} {v : Int32} (hd : decode D.cd pc = .ok (.istore k, 2)) (hp : pc + 2 = pc') (hl : storeLocals Ls k (.int v) = some Ls') (K : Fn g D M Q (T.setTop (mkF M.m pc' Ls' (S)))) : Fn g D M Q (T.setTop (mkF M.m pc Ls (.int v :: S))) := by
  subst hp
  exact K.go fun t => XS.istore (g := mkF M.m pc Ls (.int v :: S)) B.here B.hx rfl (hb B.cd hd) rfl hl
theorem p_istoreN (B : Rn g D M T A cs ss) {k : Fin 4} {v : Int32} (hd : decode D.cd pc = .ok (.istore_n k, 1)) (hp : pc + 1 = pc') (hl : storeLocals Ls k.val (.int v) = some Ls') (K : Fn g D M Q (T.setTop (mkF M.m pc' Ls' (S)))) : Fn g D M Q (T.setTop (mkF M.m pc Ls (.int v :: S))) := by
  subst hp
  exact K.go fun t => XS.istoreN (g := mkF M.m pc Ls (.int v :: S)) B.here B.hx rfl (hb B.cd hd) rfl hl
theorem p_lstore (B : Rn g D M T A cs ss) {k : Nat} {v : Int64} (hd : decode D.cd pc = .ok (.lstore k, 2)) (hp : pc + 2 = pc') (hl : storeLocals Ls k (.long v) = some Ls') (K : Fn g D M Q (T.setTop (mkF M.m pc' Ls' (S)))) : Fn g D M Q (T.setTop (mkF M.m pc Ls (.long v :: S))) := by
  subst hp
  exact K.go fun t => XS.lstore (g := mkF M.m pc Ls (.long v :: S)) B.here B.hx rfl (hb B.cd hd) rfl hl
theorem p_lstoreN (B : Rn g D M T A cs ss) {k : Fin 4} {v : Int64} (hd : decode D.cd pc = .ok (.lstore_n k, 1)) (hp : pc + 1 = pc') (hl : storeLocals Ls k.val (.long v) = some Ls') (K : Fn g D M Q (T.setTop (mkF M.m pc' Ls' (S)))) : Fn g D M Q (T.setTop (mkF M.m pc Ls (.long v :: S))) := by
  subst hp
  exact K.go fun t => XS.lstoreN (g := mkF M.m pc Ls (.long v :: S)) B.here B.hx rfl (hb B.cd hd) rfl hl
theorem p_astore (B : Rn g D M T A cs ss) {k : Nat} {v : Value} (hd : decode D.cd pc = .ok (.astore k, 2)) (hp : pc + 2 = pc') (hv : v.isRef = true) (hl : storeLocals Ls k v = some Ls') (K : Fn g D M Q (T.setTop (mkF M.m pc' Ls' (S)))) : Fn g D M Q (T.setTop (mkF M.m pc Ls (v :: S))) := by
  subst hp
  exact K.go fun t => XS.astore (g := mkF M.m pc Ls (v :: S)) B.here B.hx rfl (hb B.cd hd) rfl hv hl
theorem p_astoreN (B : Rn g D M T A cs ss) {k : Fin 4} {v : Value} (hd : decode D.cd pc = .ok (.astore_n k, 1)) (hp : pc + 1 = pc') (hv : v.isRef = true) (hl : storeLocals Ls k.val v = some Ls') (K : Fn g D M Q (T.setTop (mkF M.m pc' Ls' (S)))) : Fn g D M Q (T.setTop (mkF M.m pc Ls (v :: S))) := by
  subst hp
  exact K.go fun t => XS.astoreN (g := mkF M.m pc Ls (v :: S)) B.here B.hx rfl (hb B.cd hd) rfl hv hl
theorem p_iconst (B : Rn g D M T A cs ss) {i : Int} {v : Int32} (hd : decode D.cd pc = .ok (.iconst i, 1)) (hp : pc + 1 = pc') (hv : Int32.ofInt i = v) (K : Fn g D M Q (T.setTop (mkF M.m pc' Ls (.int v :: S)))) : Fn g D M Q (T.setTop (mkF M.m pc Ls (S))) := by
  subst hp
  exact K.go fun t => Jvm.Free.XT.iconstV (g := mkF M.m pc Ls (S)) B.here B.hx rfl v (hb B.cd hd) hv
theorem p_bipush (B : Rn g D M T A cs ss) {i : Int} {v : Int32} (hd : decode D.cd pc = .ok (.bipush i, 2)) (hp : pc + 2 = pc') (hv : (Int8.ofInt i).toInt32 = v) (K : Fn g D M Q (T.setTop (mkF M.m pc' Ls (.int v :: S)))) : Fn g D M Q (T.setTop (mkF M.m pc Ls (S))) := by
  subst hp
  exact K.go fun t => Jvm.Free.XT.bipushV (g := mkF M.m pc Ls (S)) B.here B.hx rfl v (hb B.cd hd) hv
theorem p_sipush (B : Rn g D M T A cs ss) {i : Int} {v : Int32} (hd : decode D.cd pc = .ok (.sipush i, 3)) (hp : pc + 3 = pc') (hv : (Int16.ofInt i).toInt32 = v) (K : Fn g D M Q (T.setTop (mkF M.m pc' Ls (.int v :: S)))) : Fn g D M Q (T.setTop (mkF M.m pc Ls (S))) := by
  subst hp
  exact K.go fun t => Jvm.Free.XT.sipushV (g := mkF M.m pc Ls (S)) B.here B.hx rfl v (hb B.cd hd) hv
theorem p_lconst (B : Rn g D M T A cs ss) {i : Fin 2} {v : Int64} (hd : decode D.cd pc = .ok (.lconst i, 1)) (hp : pc + 1 = pc') (hv : Int64.ofNat i = v) (K : Fn g D M Q (T.setTop (mkF M.m pc' Ls (.long v :: S)))) : Fn g D M Q (T.setTop (mkF M.m pc Ls (S))) := by
  subst hp
  exact K.go fun t => Jvm.Free.XT.lconstV (g := mkF M.m pc Ls (S)) B.here B.hx rfl v (hb B.cd hd) hv
theorem p_null (B : Rn g D M T A cs ss) (hd : decode D.cd pc = .ok (.aconst_null, 1)) (hp : pc + 1 = pc') (K : Fn g D M Q (T.setTop (mkF M.m pc' Ls (.null :: S)))) : Fn g D M Q (T.setTop (mkF M.m pc Ls (S))) := by
  subst hp
  exact K.go fun t => XS.aconstNull (g := mkF M.m pc Ls (S)) B.here B.hx rfl (hb B.cd hd)
theorem p_iadd (B : Rn g D M T A cs ss) {x y z : Int32} (hd : decode D.cd pc = .ok (.iadd, 1)) (hp : pc + 1 = pc') (hz : x + y = z) (K : Fn g D M Q (T.setTop (mkF M.m pc' Ls (.int z :: S)))) : Fn g D M Q (T.setTop (mkF M.m pc Ls (.int y :: .int x :: S))) := by
  subst hp; subst hz
  exact K.go fun t => XS.iadd (g := mkF M.m pc Ls (.int y :: .int x :: S)) B.here B.hx rfl (hb B.cd hd) rfl
theorem p_isub (B : Rn g D M T A cs ss) {x y z : Int32} (hd : decode D.cd pc = .ok (.isub, 1)) (hp : pc + 1 = pc') (hz : x - y = z) (K : Fn g D M Q (T.setTop (mkF M.m pc' Ls (.int z :: S)))) : Fn g D M Q (T.setTop (mkF M.m pc Ls (.int y :: .int x :: S))) := by
  subst hp; subst hz
  exact K.go fun t => XS.isub (g := mkF M.m pc Ls (.int y :: .int x :: S)) B.here B.hx rfl (hb B.cd hd) rfl
theorem p_imul (B : Rn g D M T A cs ss) {x y z : Int32} (hd : decode D.cd pc = .ok (.imul, 1)) (hp : pc + 1 = pc') (hz : x * y = z) (K : Fn g D M Q (T.setTop (mkF M.m pc' Ls (.int z :: S)))) : Fn g D M Q (T.setTop (mkF M.m pc Ls (.int y :: .int x :: S))) := by
  subst hp; subst hz
  exact K.go fun t => XS.imul (g := mkF M.m pc Ls (.int y :: .int x :: S)) B.here B.hx rfl (hb B.cd hd) rfl
theorem p_iand (B : Rn g D M T A cs ss) {x y z : Int32} (hd : decode D.cd pc = .ok (.iand, 1)) (hp : pc + 1 = pc') (hz : x &&& y = z) (K : Fn g D M Q (T.setTop (mkF M.m pc' Ls (.int z :: S)))) : Fn g D M Q (T.setTop (mkF M.m pc Ls (.int y :: .int x :: S))) := by
  subst hp; subst hz
  exact K.go fun t => XS.iand (g := mkF M.m pc Ls (.int y :: .int x :: S)) B.here B.hx rfl (hb B.cd hd) rfl
theorem p_ior (B : Rn g D M T A cs ss) {x y z : Int32} (hd : decode D.cd pc = .ok (.ior, 1)) (hp : pc + 1 = pc') (hz : x ||| y = z) (K : Fn g D M Q (T.setTop (mkF M.m pc' Ls (.int z :: S)))) : Fn g D M Q (T.setTop (mkF M.m pc Ls (.int y :: .int x :: S))) := by
  subst hp; subst hz
  exact K.go fun t => XS.ior (g := mkF M.m pc Ls (.int y :: .int x :: S)) B.here B.hx rfl (hb B.cd hd) rfl
theorem p_ixor (B : Rn g D M T A cs ss) {x y z : Int32} (hd : decode D.cd pc = .ok (.ixor, 1)) (hp : pc + 1 = pc') (hz : x ^^^ y = z) (K : Fn g D M Q (T.setTop (mkF M.m pc' Ls (.int z :: S)))) : Fn g D M Q (T.setTop (mkF M.m pc Ls (.int y :: .int x :: S))) := by
  subst hp; subst hz
  exact K.go fun t => XS.ixor (g := mkF M.m pc Ls (.int y :: .int x :: S)) B.here B.hx rfl (hb B.cd hd) rfl
theorem p_ishl (B : Rn g D M T A cs ss) {x y z : Int32} (hd : decode D.cd pc = .ok (.ishl, 1)) (hp : pc + 1 = pc') (hz : x <<< (y &&& 31) = z) (K : Fn g D M Q (T.setTop (mkF M.m pc' Ls (.int z :: S)))) : Fn g D M Q (T.setTop (mkF M.m pc Ls (.int y :: .int x :: S))) := by
  subst hp; subst hz
  exact K.go fun t => XS.ishl (g := mkF M.m pc Ls (.int y :: .int x :: S)) B.here B.hx rfl (hb B.cd hd) rfl
theorem p_ishr (B : Rn g D M T A cs ss) {x y z : Int32} (hd : decode D.cd pc = .ok (.ishr, 1)) (hp : pc + 1 = pc') (hz : x >>> (y &&& 31) = z) (K : Fn g D M Q (T.setTop (mkF M.m pc' Ls (.int z :: S)))) : Fn g D M Q (T.setTop (mkF M.m pc Ls (.int y :: .int x :: S))) := by
  subst hp; subst hz
  exact K.go fun t => XS.ishr (g := mkF M.m pc Ls (.int y :: .int x :: S)) B.here B.hx rfl (hb B.cd hd) rfl
theorem p_iushr (B : Rn g D M T A cs ss) {x y z : Int32} (hd : decode D.cd pc = .ok (.iushr, 1)) (hp : pc + 1 = pc') (hz : (x.toUInt32 >>> (y &&& 31).toUInt32).toInt32 = z) (K : Fn g D M Q (T.setTop (mkF M.m pc' Ls (.int z :: S)))) : Fn g D M Q (T.setTop (mkF M.m pc Ls (.int y :: .int x :: S))) := by
  subst hp; subst hz
  exact K.go fun t => XS.iushr (g := mkF M.m pc Ls (.int y :: .int x :: S)) B.here B.hx rfl (hb B.cd hd) rfl
theorem p_idiv (B : Rn g D M T A cs ss) {x y z : Int32} (hd : decode D.cd pc = .ok (.idiv, 1)) (hp : pc + 1 = pc') (hy : y ≠ 0) (hz : x / y = z) (K : Fn g D M Q (T.setTop (mkF M.m pc' Ls (.int z :: S)))) : Fn g D M Q (T.setTop (mkF M.m pc Ls (.int y :: .int x :: S))) := by
  subst hp; subst hz
  exact K.go fun t => XS.idiv (g := mkF M.m pc Ls (.int y :: .int x :: S)) B.here B.hx rfl (hb B.cd hd) rfl hy
theorem p_irem (B : Rn g D M T A cs ss) {x y z : Int32} (hd : decode D.cd pc = .ok (.irem, 1)) (hp : pc + 1 = pc') (hy : y ≠ 0) (hz : x % y = z) (K : Fn g D M Q (T.setTop (mkF M.m pc' Ls (.int z :: S)))) : Fn g D M Q (T.setTop (mkF M.m pc Ls (.int y :: .int x :: S))) := by
  subst hp; subst hz; rw [← Jvm.irem_eq_mod] at K
  exact K.go fun t => XS.irem (g := mkF M.m pc Ls (.int y :: .int x :: S)) B.here B.hx rfl (hb B.cd hd) rfl hy
theorem p_ineg (B : Rn g D M T A cs ss) {x : Int32} (hd : decode D.cd pc = .ok (.ineg, 1)) (hp : pc + 1 = pc') (K : Fn g D M Q (T.setTop (mkF M.m pc' Ls (.int (-x) :: S)))) : Fn g D M Q (T.setTop (mkF M.m pc Ls (.int x :: S))) := by
  subst hp
  exact K.go fun t => XS.ineg (g := mkF M.m pc Ls (.int x :: S)) B.here B.hx rfl (hb B.cd hd) rfl
theorem p_ladd (B : Rn g D M T A cs ss) {x y : Int64} (hd : decode D.cd pc = .ok (.ladd, 1)) (hp : pc + 1 = pc') (K : Fn g D M Q (T.setTop (mkF M.m pc' Ls (.long (x + y) :: S)))) : Fn g D M Q (T.setTop (mkF M.m pc Ls (.long y :: .long x :: S))) := by
  subst hp
  exact K.go fun t => XS.ladd (g := mkF M.m pc Ls (.long y :: .long x :: S)) B.here B.hx rfl (hb B.cd hd) rfl
theorem p_lsub (B : Rn g D M T A cs ss) {x y : Int64} (hd : decode D.cd pc = .ok (.lsub, 1)) (hp : pc + 1 = pc') (K : Fn g D M Q (T.setTop (mkF M.m pc' Ls (.long (x - y) :: S)))) : Fn g D M Q (T.setTop (mkF M.m pc Ls (.long y :: .long x :: S))) := by
  subst hp
  exact K.go fun t => XS.lsub (g := mkF M.m pc Ls (.long y :: .long x :: S)) B.here B.hx rfl (hb B.cd hd) rfl
theorem p_lmul (B : Rn g D M T A cs ss) {x y : Int64} (hd : decode D.cd pc = .ok (.lmul, 1)) (hp : pc + 1 = pc') (K : Fn g D M Q (T.setTop (mkF M.m pc' Ls (.long (x * y) :: S)))) : Fn g D M Q (T.setTop (mkF M.m pc Ls (.long y :: .long x :: S))) := by
  subst hp
  exact K.go fun t => XS.lmul (g := mkF M.m pc Ls (.long y :: .long x :: S)) B.here B.hx rfl (hb B.cd hd) rfl
theorem p_land (B : Rn g D M T A cs ss) {x y : Int64} (hd : decode D.cd pc = .ok (.land, 1)) (hp : pc + 1 = pc') (K : Fn g D M Q (T.setTop (mkF M.m pc' Ls (.long (x &&& y) :: S)))) : Fn g D M Q (T.setTop (mkF M.m pc Ls (.long y :: .long x :: S))) := by
  subst hp
  exact K.go fun t => XS.land (g := mkF M.m pc Ls (.long y :: .long x :: S)) B.here B.hx rfl (hb B.cd hd) rfl
theorem p_lor (B : Rn g D M T A cs ss) {x y : Int64} (hd : decode D.cd pc = .ok (.lor, 1)) (hp : pc + 1 = pc') (K : Fn g D M Q (T.setTop (mkF M.m pc' Ls (.long (x ||| y) :: S)))) : Fn g D M Q (T.setTop (mkF M.m pc Ls (.long y :: .long x :: S))) := by
  subst hp
  exact K.go fun t => XS.lor (g := mkF M.m pc Ls (.long y :: .long x :: S)) B.here B.hx rfl (hb B.cd hd) rfl
theorem p_lxor (B : Rn g D M T A cs ss) {x y : Int64} (hd : decode D.cd pc = .ok (.lxor, 1)) (hp : pc + 1 = pc') (K : Fn g D M Q (T.setTop (mkF M.m pc' Ls (.long (x ^^^ y) :: S)))) : Fn g D M Q (T.setTop (mkF M.m pc Ls (.long y :: .long x :: S))) := by
  subst hp
  exact K.go fun t => XS.lxor (g := mkF M.m pc Ls (.long y :: .long x :: S)) B.here B.hx rfl (hb B.cd hd) rfl
theorem p_lshl (B : Rn g D M T A cs ss) {x : Int64} {y : Int32} (hd : decode D.cd pc = .ok (.lshl, 1)) (hp : pc + 1 = pc') (K : Fn g D M Q (T.setTop (mkF M.m pc' Ls (.long (x <<< (y &&& 0x3f).toInt64) :: S)))) : Fn g D M Q (T.setTop (mkF M.m pc Ls (.int y :: .long x :: S))) := by
  subst hp
  exact K.go fun t => XS.lshl (g := mkF M.m pc Ls (.int y :: .long x :: S)) B.here B.hx rfl (hb B.cd hd) rfl
theorem p_lshr (B : Rn g D M T A cs ss) {x : Int64} {y : Int32} (hd : decode D.cd pc = .ok (.lshr, 1)) (hp : pc + 1 = pc') (K : Fn g D M Q (T.setTop (mkF M.m pc' Ls (.long (x >>> (y &&& 0x3f).toInt64) :: S)))) : Fn g D M Q (T.setTop (mkF M.m pc Ls (.int y :: .long x :: S))) := by
  subst hp
  exact K.go fun t => XS.lshr (g := mkF M.m pc Ls (.int y :: .long x :: S)) B.here B.hx rfl (hb B.cd hd) rfl
theorem p_lushr (B : Rn g D M T A cs ss) {x : Int64} {y : Int32} (hd : decode D.cd pc = .ok (.lushr, 1)) (hp : pc + 1 = pc') (K : Fn g D M Q (T.setTop (mkF M.m pc' Ls (.long ((x.toUInt64 >>> (y &&& 0x3f).toInt64.toUInt64).toInt64) :: S)))) : Fn g D M Q (T.setTop (mkF M.m pc Ls (.int y :: .long x :: S))) := by
  subst hp
  exact K.go fun t => XS.lushr (g := mkF M.m pc Ls (.int y :: .long x :: S)) B.here B.hx rfl (hb B.cd hd) rfl
theorem p_ldiv (B : Rn g D M T A cs ss) {x y : Int64} (hd : decode D.cd pc = .ok (.ldiv, 1)) (hp : pc + 1 = pc') (hy : y ≠ 0) (K : Fn g D M Q (T.setTop (mkF M.m pc' Ls (.long (x / y) :: S)))) : Fn g D M Q (T.setTop (mkF M.m pc Ls (.long y :: .long x :: S))) := by
  subst hp
  exact K.go fun t => XS.ldiv (g := mkF M.m pc Ls (.long y :: .long x :: S)) B.here B.hx rfl (hb B.cd hd) rfl hy
theorem p_lrem (B : Rn g D M T A cs ss) {x y : Int64} (hd : decode D.cd pc = .ok (.lrem, 1)) (hp : pc + 1 = pc') (hy : y ≠ 0) (K : Fn g D M Q (T.setTop (mkF M.m pc' Ls (.long (x - (x / y) * y) :: S)))) : Fn g D M Q (T.setTop (mkF M.m pc Ls (.long y :: .long x :: S))) := by
  subst hp
  exact K.go fun t => XS.lrem (g := mkF M.m pc Ls (.long y :: .long x :: S)) B.here B.hx rfl (hb B.cd hd) rfl hy
theorem p_lcmp (B : Rn g D M T A cs ss) {x y : Int64} (hd : decode D.cd pc = .ok (.lcmp, 1)) (hp : pc + 1 = pc') (K : Fn g D M Q (T.setTop (mkF M.m pc' Ls (.int (lcmpW x y) :: S)))) : Fn g D M Q (T.setTop (mkF M.m pc Ls (.long y :: .long x :: S))) := by
  subst hp
  exact K.go fun t => XS.lcmp (g := mkF M.m pc Ls (.long y :: .long x :: S)) B.here B.hx rfl (hb B.cd hd) rfl
theorem p_i2l (B : Rn g D M T A cs ss) {x : Int32} (hd : decode D.cd pc = .ok (.i2l, 1)) (hp : pc + 1 = pc') (K : Fn g D M Q (T.setTop (mkF M.m pc' Ls (.long x.toInt64 :: S)))) : Fn g D M Q (T.setTop (mkF M.m pc Ls (.int x :: S))) := by
  subst hp
  exact K.go fun t => XS.i2l (g := mkF M.m pc Ls (.int x :: S)) B.here B.hx rfl (hb B.cd hd) rfl
theorem p_l2i (B : Rn g D M T A cs ss) {x : Int64} (hd : decode D.cd pc = .ok (.l2i, 1)) (hp : pc + 1 = pc') (K : Fn g D M Q (T.setTop (mkF M.m pc' Ls (.int x.toInt32 :: S)))) : Fn g D M Q (T.setTop (mkF M.m pc Ls (.long x :: S))) := by
  subst hp
  exact K.go fun t => XS.l2i (g := mkF M.m pc Ls (.long x :: S)) B.here B.hx rfl (hb B.cd hd) rfl
theorem p_i2b (B : Rn g D M T A cs ss) {x : Int32} (hd : decode D.cd pc = .ok (.i2b, 1)) (hp : pc + 1 = pc') (K : Fn g D M Q (T.setTop (mkF M.m pc' Ls (.int x.toInt8.toInt32 :: S)))) : Fn g D M Q (T.setTop (mkF M.m pc Ls (.int x :: S))) := by
  subst hp
  exact K.go fun t => XS.i2b (g := mkF M.m pc Ls (.int x :: S)) B.here B.hx rfl (hb B.cd hd) rfl
theorem p_i2c (B : Rn g D M T A cs ss) {x : Int32} (hd : decode D.cd pc = .ok (.i2c, 1)) (hp : pc + 1 = pc') (K : Fn g D M Q (T.setTop (mkF M.m pc' Ls (.int x.toUInt32.toUInt16.toUInt32.toInt32 :: S)))) : Fn g D M Q (T.setTop (mkF M.m pc Ls (.int x :: S))) := by
  subst hp
  exact K.go fun t => XS.i2c (g := mkF M.m pc Ls (.int x :: S)) B.here B.hx rfl (hb B.cd hd) rfl
theorem p_i2s (B : Rn g D M T A cs ss) {x : Int32} (hd : decode D.cd pc = .ok (.i2s, 1)) (hp : pc + 1 = pc') (K : Fn g D M Q (T.setTop (mkF M.m pc' Ls (.int x.toInt16.toInt32 :: S)))) : Fn g D M Q (T.setTop (mkF M.m pc Ls (.int x :: S))) := by
  subst hp
  exact K.go fun t => XS.i2s (g := mkF M.m pc Ls (.int x :: S)) B.here B.hx rfl (hb B.cd hd) rfl
theorem p_dup (B : Rn g D M T A cs ss) {x : Value} (hd : decode D.cd pc = .ok (.dup, 1)) (hp : pc + 1 = pc') (hc : x.category = 1) (K : Fn g D M Q (T.setTop (mkF M.m pc' Ls (x :: x :: S)))) : Fn g D M Q (T.setTop (mkF M.m pc Ls (x :: S))) := by
  subst hp
  exact K.go fun t => XS.dup (g := mkF M.m pc Ls (x :: S)) B.here B.hx rfl (hb B.cd hd) rfl hc
theorem p_pop (B : Rn g D M T A cs ss) {x : Value} (hd : decode D.cd pc = .ok (.pop, 1)) (hp : pc + 1 = pc') (hc : x.category = 1) (K : Fn g D M Q (T.setTop (mkF M.m pc' Ls (S)))) : Fn g D M Q (T.setTop (mkF M.m pc Ls (x :: S))) := by
  subst hp
  exact K.go fun t => XS.pop (g := mkF M.m pc Ls (x :: S)) B.here B.hx rfl (hb B.cd hd) rfl hc
theorem p_dupx1 (B : Rn g D M T A cs ss) {x y : Value} (hd : decode D.cd pc = .ok (.dup_x1, 1)) (hp : pc + 1 = pc') (hc : x.category = 1) (hc' : y.category = 1) (K : Fn g D M Q (T.setTop (mkF M.m pc' Ls (x :: y :: x :: S)))) : Fn g D M Q (T.setTop (mkF M.m pc Ls (x :: y :: S))) := by
  subst hp
  exact K.go fun t => XS.dupX1 (g := mkF M.m pc Ls (x :: y :: S)) B.here B.hx rfl (hb B.cd hd) rfl hc hc'
theorem p_dup2 (B : Rn g D M T A cs ss) {x y : Value} (hd : decode D.cd pc = .ok (.dup2, 1)) (hp : pc + 1 = pc') (hc : x.category = 1) (hc' : y.category = 1) (K : Fn g D M Q (T.setTop (mkF M.m pc' Ls (x :: y :: x :: y :: S)))) : Fn g D M Q (T.setTop (mkF M.m pc Ls (x :: y :: S))) := by
  subst hp
  exact K.go fun t => Jvm.Free.XT.dup2 (g := mkF M.m pc Ls (x :: y :: S)) B.here B.hx rfl (hb B.cd hd) rfl hc hc'
theorem p_dup2L (B : Rn g D M T A cs ss) {x : Int64} (hd : decode D.cd pc = .ok (.dup2, 1)) (hp : pc + 1 = pc') (K : Fn g D M Q (T.setTop (mkF M.m pc' Ls (.long x :: .long x :: S)))) : Fn g D M Q (T.setTop (mkF M.m pc Ls (.long x :: S))) := by
  subst hp
  exact K.go fun t => Jvm.Free.XT.dup2L (g := mkF M.m pc Ls (.long x :: S)) B.here B.hx rfl (hb B.cd hd) rfl
theorem p_iinc (B : Rn g D M T A cs ss) {k : Nat} {cst : Int} {x v z : Int32} (hd : decode D.cd pc = .ok (.iinc k cst, 3)) (hp : pc + 3 = pc') (hv : Int32.ofInt cst = v) (hl : Ls[k]? = some (.val (.int x))) (hz : x + v = z) (hl' : storeLocals Ls k (.int z) = some Ls') (K : Fn g D M Q (T.setTop (mkF M.m pc' Ls' (S)))) : Fn g D M Q (T.setTop (mkF M.m pc Ls (S))) := by
  subst hp; subst hz
  exact K.go fun t => Jvm.Free.XT.iincV (g := mkF M.m pc Ls (S)) B.here B.hx rfl v (hb B.cd hd) hv hl hl'
def hldT : ClassFile.Cond → Int32 → Int32 → Prop
  | .eq, x, y => x = y
  | .ne, x, y => ¬ x = y
  | .lt, x, y => x < y
  | .ge, x, y => ¬ x < y
  | .gt, x, y => y < x
  | .le, x, y => ¬ y < x
def hldF : ClassFile.Cond → Int32 → Int32 → Prop
  | .eq, x, y => ¬ x = y
  | .ne, x, y => x = y
  | .lt, x, y => ¬ x < y
  | .ge, x, y => x < y
  | .gt, x, y => ¬ y < x
  | .le, x, y => y < x
theorem hldT_ii {cd : ClassFile.Cond} {x y : Int32} (h : hldT cd x y) : if_icmp.holds cd x y = true := by
  cases cd
  · exact Jvm.Free.XT.ii_eq_t h
  · exact Jvm.Free.XT.ii_ne_t h
  · exact Jvm.Free.XT.ii_lt_t h
  · exact Jvm.Free.XT.ii_ge_t h
  · exact Jvm.Free.XT.ii_gt_t h
  · exact Jvm.Free.XT.ii_le_t h
theorem hldF_ii {cd : ClassFile.Cond} {x y : Int32} (h : hldF cd x y) : if_icmp.holds cd x y = false := by
  cases cd
  · exact Jvm.Free.XT.ii_eq_f h
  · exact Jvm.Free.XT.ii_ne_f h
  · exact Jvm.Free.XT.ii_lt_f h
  · exact Jvm.Free.XT.ii_ge_f h
  · exact Jvm.Free.XT.ii_gt_f h
  · exact Jvm.Free.XT.ii_le_f h
theorem b_ifT (B : Rn g D M T A cs ss) {cd : ClassFile.Cond} {x : Int32} {o : Int} (hd : decode D.cd pc = .ok (.ifCond cd o, 3)) (h : hldT cd x 0) (ho : 0 ≤ (pc : Int) + o) (hp : ((pc : Int) + o).toNat = pc') (K : Fn g D M Q (T.setTop (mkF M.m pc' Ls S))) : Fn g D M Q (T.setTop (mkF M.m pc Ls (.int x :: S))) :=
  K.go fun t => XS.ifYes (g := mkF M.m pc Ls (.int x :: S)) B.here B.hx rfl (pc0 := pc) (pc' := pc') rfl (hb B.cd hd) rfl ((if0 cd x).trans (hldT_ii h)) ho hp
theorem b_ifF (B : Rn g D M T A cs ss) {cd : ClassFile.Cond} {x : Int32} {o : Int} (hd : decode D.cd pc = .ok (.ifCond cd o, 3)) (hp : pc + 3 = pc') (h : hldF cd x 0) (K : Fn g D M Q (T.setTop (mkF M.m pc' Ls S))) : Fn g D M Q (T.setTop (mkF M.m pc Ls (.int x :: S))) := by
  subst hp
  exact K.go fun t => XS.ifNo (g := mkF M.m pc Ls (.int x :: S)) B.here B.hx rfl (hb B.cd hd) rfl ((if0 cd x).trans (hldF_ii h))
theorem b_icT (B : Rn g D M T A cs ss) {cd : ClassFile.Cond} {x y : Int32} {o : Int} (hd : decode D.cd pc = .ok (.if_icmp cd o, 3)) (h : hldT cd x y) (ho : 0 ≤ (pc : Int) + o) (hp : ((pc : Int) + o).toNat = pc') (K : Fn g D M Q (T.setTop (mkF M.m pc' Ls S))) : Fn g D M Q (T.setTop (mkF M.m pc Ls (.int y :: .int x :: S))) :=
  K.go fun t => XS.icmpYes (g := mkF M.m pc Ls (.int y :: .int x :: S)) B.here B.hx rfl (pc0 := pc) (pc' := pc') rfl (hb B.cd hd) rfl (hldT_ii h) ho hp
theorem b_icF (B : Rn g D M T A cs ss) {cd : ClassFile.Cond} {x y : Int32} {o : Int} (hd : decode D.cd pc = .ok (.if_icmp cd o, 3)) (hp : pc + 3 = pc') (h : hldF cd x y) (K : Fn g D M Q (T.setTop (mkF M.m pc' Ls S))) : Fn g D M Q (T.setTop (mkF M.m pc Ls (.int y :: .int x :: S))) := by
  subst hp
  exact K.go fun t => XS.icmpNo (g := mkF M.m pc Ls (.int y :: .int x :: S)) B.here B.hx rfl (hb B.cd hd) rfl (hldF_ii h)
theorem b_nuT (B : Rn g D M T A cs ss) {o : Int} (hd : decode D.cd pc = .ok (.ifnull o, 3)) (ho : 0 ≤ (pc : Int) + o) (hp : ((pc : Int) + o).toNat = pc') (K : Fn g D M Q (T.setTop (mkF M.m pc' Ls S))) : Fn g D M Q (T.setTop (mkF M.m pc Ls (.null :: S))) :=
  K.go fun t => XS.ifnullYes (g := mkF M.m pc Ls (.null :: S)) B.here B.hx rfl (pc0 := pc) (pc' := pc') rfl (hb B.cd hd) rfl ho hp
theorem b_nuF (B : Rn g D M T A cs ss) {b : Addr} {o : Int} (hd : decode D.cd pc = .ok (.ifnull o, 3)) (hp : pc + 3 = pc') (K : Fn g D M Q (T.setTop (mkF M.m pc' Ls S))) : Fn g D M Q (T.setTop (mkF M.m pc Ls (.ref b :: S))) := by
  subst hp
  exact K.go fun t => XS.ifnullNo (g := mkF M.m pc Ls (.ref b :: S)) B.here B.hx rfl (hb B.cd hd) rfl
theorem b_nnT (B : Rn g D M T A cs ss) {b : Addr} {o : Int} (hd : decode D.cd pc = .ok (.ifnonnull o, 3)) (ho : 0 ≤ (pc : Int) + o) (hp : ((pc : Int) + o).toNat = pc') (K : Fn g D M Q (T.setTop (mkF M.m pc' Ls S))) : Fn g D M Q (T.setTop (mkF M.m pc Ls (.ref b :: S))) :=
  K.go fun t => XS.ifnonnullYes (g := mkF M.m pc Ls (.ref b :: S)) B.here B.hx rfl (pc0 := pc) (pc' := pc') rfl (hb B.cd hd) rfl ho hp
theorem b_nnF (B : Rn g D M T A cs ss) {o : Int} (hd : decode D.cd pc = .ok (.ifnonnull o, 3)) (hp : pc + 3 = pc') (K : Fn g D M Q (T.setTop (mkF M.m pc' Ls S))) : Fn g D M Q (T.setTop (mkF M.m pc Ls (.null :: S))) := by
  subst hp
  exact K.go fun t => XS.ifnonnullNo (g := mkF M.m pc Ls (.null :: S)) B.here B.hx rfl (hb B.cd hd) rfl
theorem b_nnTV (B : Rn g D M T A cs ss) {v : Value} {o : Int} (hd : decode D.cd pc = .ok (.ifnonnull o, 3)) (hv : v.isRef = true) (h : ¬ v = .null) (ho : 0 ≤ (pc : Int) + o) (hp : ((pc : Int) + o).toNat = pc') (K : Fn g D M Q (T.setTop (mkF M.m pc' Ls S))) : Fn g D M Q (T.setTop (mkF M.m pc Ls (v :: S))) :=
  K.go fun t => Jvm.Free.XT.nonnullYes (g := mkF M.m pc Ls (v :: S)) B.here B.hx rfl (pc0 := pc) (pc' := pc') rfl (hb B.cd hd) rfl hv h ho hp
theorem b_nnFV (B : Rn g D M T A cs ss) {v : Value} {o : Int} (hd : decode D.cd pc = .ok (.ifnonnull o, 3)) (hp : pc + 3 = pc') (h : v = .null) (K : Fn g D M Q (T.setTop (mkF M.m pc' Ls S))) : Fn g D M Q (T.setTop (mkF M.m pc Ls (v :: S))) := by
  subst hp
  exact K.go fun t => Jvm.Free.XT.nonnullNo (g := mkF M.m pc Ls (v :: S)) B.here B.hx rfl (hb B.cd hd) rfl h
theorem b_nuTV (B : Rn g D M T A cs ss) {v : Value} {o : Int} (hd : decode D.cd pc = .ok (.ifnull o, 3)) (h : v = .null) (ho : 0 ≤ (pc : Int) + o) (hp : ((pc : Int) + o).toNat = pc') (K : Fn g D M Q (T.setTop (mkF M.m pc' Ls S))) : Fn g D M Q (T.setTop (mkF M.m pc Ls (v :: S))) :=
  K.go fun t => Jvm.Free.XT.nullYes (g := mkF M.m pc Ls (v :: S)) B.here B.hx rfl (pc0 := pc) (pc' := pc') rfl (hb B.cd hd) rfl h ho hp
theorem b_nuFV (B : Rn g D M T A cs ss) {v : Value} {o : Int} (hd : decode D.cd pc = .ok (.ifnull o, 3)) (hp : pc + 3 = pc') (hv : v.isRef = true) (h : ¬ v = .null) (K : Fn g D M Q (T.setTop (mkF M.m pc' Ls S))) : Fn g D M Q (T.setTop (mkF M.m pc Ls (v :: S))) := by
  subst hp
  exact K.go fun t => Jvm.Free.XT.nullNo (g := mkF M.m pc Ls (v :: S)) B.here B.hx rfl (hb B.cd hd) rfl hv h
theorem b_aeT (B : Rn g D M T A cs ss) {x y : Value} {o : Int} (hd : decode D.cd pc = .ok (.if_acmp .eq o, 3)) (hx : x.isRef = true) (hy : y.isRef = true) (h : x = y) (ho : 0 ≤ (pc : Int) + o) (hp : ((pc : Int) + o).toNat = pc') (K : Fn g D M Q (T.setTop (mkF M.m pc' Ls S))) : Fn g D M Q (T.setTop (mkF M.m pc Ls (y :: x :: S))) :=
  K.go fun t => Jvm.Free.XT.acmpYes (g := mkF M.m pc Ls (y :: x :: S)) B.here B.hx rfl (pc0 := pc) (pc' := pc') rfl (hb B.cd hd) rfl hx hy (Jvm.Free.XT.aa_eq_t h) ho hp
theorem b_aeF (B : Rn g D M T A cs ss) {x y : Value} {o : Int} (hd : decode D.cd pc = .ok (.if_acmp .eq o, 3)) (hp : pc + 3 = pc') (hx : x.isRef = true) (hy : y.isRef = true) (h : ¬ x = y) (K : Fn g D M Q (T.setTop (mkF M.m pc' Ls S))) : Fn g D M Q (T.setTop (mkF M.m pc Ls (y :: x :: S))) := by
  subst hp
  exact K.go fun t => Jvm.Free.XT.acmpNo (g := mkF M.m pc Ls (y :: x :: S)) B.here B.hx rfl (hb B.cd hd) rfl hx hy (Jvm.Free.XT.aa_eq_f h)
theorem b_anT (B : Rn g D M T A cs ss) {x y : Value} {o : Int} (hd : decode D.cd pc = .ok (.if_acmp .ne o, 3)) (hx : x.isRef = true) (hy : y.isRef = true) (h : ¬ x = y) (ho : 0 ≤ (pc : Int) + o) (hp : ((pc : Int) + o).toNat = pc') (K : Fn g D M Q (T.setTop (mkF M.m pc' Ls S))) : Fn g D M Q (T.setTop (mkF M.m pc Ls (y :: x :: S))) :=
  K.go fun t => Jvm.Free.XT.acmpYes (g := mkF M.m pc Ls (y :: x :: S)) B.here B.hx rfl (pc0 := pc) (pc' := pc') rfl (hb B.cd hd) rfl hx hy (Jvm.Free.XT.aa_ne_t h) ho hp
theorem b_anF (B : Rn g D M T A cs ss) {x y : Value} {o : Int} (hd : decode D.cd pc = .ok (.if_acmp .ne o, 3)) (hp : pc + 3 = pc') (hx : x.isRef = true) (hy : y.isRef = true) (h : x = y) (K : Fn g D M Q (T.setTop (mkF M.m pc' Ls S))) : Fn g D M Q (T.setTop (mkF M.m pc Ls (y :: x :: S))) := by
  subst hp
  exact K.go fun t => Jvm.Free.XT.acmpNo (g := mkF M.m pc Ls (y :: x :: S)) B.here B.hx rfl (hb B.cd hd) rfl hx hy (Jvm.Free.XT.aa_ne_f h)
theorem b_goto (B : Rn g D M T A cs ss) {o : Int} (hd : decode D.cd pc = .ok (.goto o, 3)) (ho : 0 ≤ (pc : Int) + o) (hp : ((pc : Int) + o).toNat = pc') (K : Fn g D M Q (T.setTop (mkF M.m pc' Ls S))) : Fn g D M Q (T.setTop (mkF M.m pc Ls S)) :=
  K.go fun t => XS.goto (g := mkF M.m pc Ls S) B.here B.hx rfl (pc0 := pc) (pc' := pc') rfl (hb B.cd hd) ho hp
/-! OWN WALKING KIT, part 4: calls, constants, casts. -/
theorem r_initO (B : RH g D M T H Lt cs ss) {ix W : Nat} {a : Addr} (hd : decode D.cd pc = .ok (.invokespecial ix, 3)) (hp : pc + 3 = pc') (w1 : (Jvm.Cond.methodLink D.y.cls ix Lib.objectInit).before g.a0 g.Z = true) (w2 : (Jvm.Cond.instanceMethod Lib.objectInit).before g.a0 g.Z = true)
    (w3 : (Jvm.Cond.code Lib.objectInit ⟨#[0xb1]⟩ 1 none).before g.a0 g.Z = true) (hsz : Ls.size = D.mx) (hf : 1 ≤ D.rm.frames) (hW : (S.map fun v => v.category).sum = W) (hl : W + 12 ≤ D.rm.locals)
    (K : ∀ T', RH g D M T' H Lt cs ss → Fn g D M Q (T'.setTop (mkF M.m pc' Ls S))) : Fn g D M Q (T.setTop (mkF M.m pc Ls (.ref a :: S))) := by
  subst hp
  obtain ⟨st, vm0, k0, locs, X, hS, hk, hZ, hown, hC, N, E0, hH⟩ := B
  obtain ⟨T', X', e', stp⟩ := initO (Z := g.Z) (a0 := g.a0) X st.2.1 hZ hown w1 w2 w3 rfl (g := mkF M.m pc Ls (.ref a :: S)) rfl (hsz.trans st.2.2.2.1.symm) rfl (hb st.2.2.1 hd) hf (W := W) (by show 2 * 0 + _ ≤ _; rw [hW]; omega) hl
  exact (K T' ⟨st, vm0, k0, locs, X', hS, by rw [e']; exact hk, hZ, hown, by rw [e']; exact hC, N, by rw [e']; exact E0, by rw [e']; exact hH⟩).go stp
theorem Ct.back {R : Room} {p : Program} {e : Env} {below : List Frame} {s : State} {args : Array Value} {vm0 : Vm} {h : Heap} {len Wt : Nat} (K : Ct g D' as H Lt Q') (W : GW g) (hZ : g.Z.Warmed39 vm0) (wc : (Jvm.Cond.code D'.y D'.cd D'.mx D'.rt).before g.a0 g.Z = true) (wz : (Jvm.Cond.initialized D'.y.cls).before g.a0 g.Z = true)
    (hf : D'.rm.frames + 1 ≤ R.frames) (hl : Wt + (D'.mx + 11) + D'.rm.locals ≤ R.locals) (HC : CHv g.Z g.EL g.Z.vm h) (E0 : Ext g.Z.heap h) (P : Hp g g.Z.vm h H Lt) :
    Back g.l R p e below (s.setVm vm0) args D'.y len Wt (fun A a => a = as ∧ A.U.heap = h ∧ A.cells + D'.rm.cells ≤ R.cells ∧ A.slots + D'.rm.slots ≤ R.slots)
      (fun A _ v B => ∃ L, Q' v g.Z.vm B.U.heap ∧ Fr g.Z.heap.size L ∧ Ext g.Z.heap B.U.heap ∧ B.locs = A.locs ++ L ∧ B.cells = A.cells + D'.rm.cells ∧ B.slots = A.slots + D'.rm.slots ∧ CHr g.Z g.EL g.Z.vm h g.Z.vm B.U.heap) :=
  Back.of_free (bytes := D'.cd) (maxL := D'.mx) (ret := D'.rt) (E := fun _ first o t L k n => k = D'.rm.cells ∧ n = D'.rm.slots ∧ (∃ v, o = .returned v ∧ Q' v g.Z.vm t.heap) ∧ Fr g.Z.heap.size L ∧ Ext g.Z.heap t.heap ∧ CHr g.Z g.EL g.Z.vm first.heap g.Z.vm t.heap) K hf hl
    (fun m meth c A a Y hp => have hU : g.Z.Warmed39 A.U.vm := wtrans (s := s.setVm vm0) hZ Y.warmed
      ⟨by show (Jvm.Cond.and _ .tt).before a A.U = true; rw [Cond.before_and, mv hU wc]; rfl, mv hU wc, mv hU wz, hp.2.2.1, hp.2.2.2⟩)
    (fun m meth c A a g' mk Y hp => by
      have e1 : (A.U.calling g' mk a).heap = h := hp.2.1
      refine ⟨hp.1, wtrans (s := s.setVm vm0) hZ Y.warmed, ?_, ?_, ?_⟩
      · rw [e1]; exact HC
      · rw [e1]; exact E0
      · rw [e1]; exact P)
    (fun _ _ _ _ _ _ _ _ _ => trivial)
    (fun _ _ _ _ ⟨v, L, h1, h2, h3, h4, h5, h6⟩ => ⟨L, _, _, h6, rfl, rfl, ⟨v, h1, h2⟩, h3, h5, h4⟩)
    (fun m meth c A a g' mk v t L k n Y hp _ _ ⟨e1, e2, ⟨v', e3, e4⟩, e5, e6, e7⟩ => by
      cases e3; subst e1 e2
      refine ⟨L, e4, e5, e6, rfl, rfl, rfl, ?_⟩
      rw [← hp.2.1]; exact e7)
theorem Rn.after {vm0 : Vm} {locs : List Loc} {B : Pt} {L : List Loc} {v : Option Value} {rc rs : Nat} (st : GW g ∧ M.p.tables.exec = Jvm.exec ∧ M.c.code = D.cd ∧ M.c.maxLocals = D.mx ∧ M.meth.sig.returnType = D.rt ∧ M.meth.locks = false ∧ M.meth.name = D.y.name)
    (hS : vm0 = M.s.vm) (hZ : g.Z.Warmed39 vm0) (hown : vm0.findClass D.y.cls = some M.m.cls) (hC : CHr g.Z g.EL g.Z.vm M.s.heap g.Z.vm T.heap) (N : Fr g.Z.heap.size locs)
    (X' : Stand M.p g.l M.e D.rm (M.s.setVm vm0) M.m M.args M.below M.meth M.c B.U B.locs B.cells B.slots)
    (hQ : Q' v g.Z.vm B.U.heap) (hL : Fr g.Z.heap.size L) (hE : Ext g.Z.heap B.U.heap) (e1 : B.locs = locs ++ L) (e2 : B.cells = cs + rc) (e3 : B.slots = ss + rs) (hC' : CHr g.Z g.EL g.Z.vm T.heap g.Z.vm B.U.heap) : Rn g D M B.U (Q' v) (cs + rc) (ss + rs) := by
  rw [e1, e2, e3] at X'
  exact ⟨st, vm0, 0, _, X', hS, Nat.zero_le _, hZ, hown, hC.trans hC', N.app hL, hE, hQ⟩
theorem r_static (B : RH g D M T H Lt cs ss) {ix W cs' ss' : Nat} {argsL rest : List Value} {ps : List FieldType} {r : Option FieldType} (hd : decode D.cd pc = .ok (.invokestatic ix, 3)) (hp : pc + 3 = pc')
    (w1 : (Jvm.Cond.methodLink D.y.cls ix D'.y).before g.a0 g.Z = true) (w2 : (Jvm.Cond.static D'.y).before g.a0 g.Z = true) (w3 : (Jvm.Cond.initialized D'.y.cls).before g.a0 g.Z = true) (w4 : (Jvm.Cond.code D'.y D'.cd D'.mx D'.rt).before g.a0 g.Z = true)
    (hy : D'.y.cls ≠ "java/lang/invoke/MethodHandle" ∧ D'.y.cls ≠ "java/lang/invoke/VarHandle") (C : Ct g D' as H Lt Q') (has : argsL.toArray = as) (pd : parseMethodDescriptor D'.y.desc = some ⟨ps, r⟩) (hlen : argsL.length = ps.length) (hst : S = argsL.reverse ++ rest)
    (hsz : Ls.size = D.mx) (hW : (rest.map fun v => v.category).sum = W) (hf : D'.rm.frames + 1 ≤ D.rm.frames) (hl : W + (D'.mx + 11) + D'.rm.locals ≤ D.rm.locals) (hc : cs + D'.rm.cells = cs') (hs : ss + D'.rm.slots = ss') (hc' : cs' ≤ D.rm.cells) (hs' : ss' ≤ D.rm.slots)
    (K : ∀ T' v, Rn g D M T' (Q' v) cs' ss' → Fn g D M Q (T'.setTop (mkF M.m pc' Ls (v.toList ++ rest)))) : Fn g D M Q (T.setTop (mkF M.m pc Ls S)) := by
  subst hp hc hs
  obtain ⟨st, vm0, k0, locs, X, hS, hk, hZ, hown, hC, N, E0, hH⟩ := B
  obtain ⟨v, vm1, Bp, -, X', ⟨L, hQ, hL, hE, e1, e2, e3, hC'⟩, stp⟩ := Jvm.LawKit.callS X st.2.1 hown (mvT hZ w1) (mvT hZ w2) (mvT hZ w3) (mvT hZ w4) hy (Ct.back (p := M.p) (e := M.e) (below := M.below) (s := M.s) (args := M.args) (len := 3) (Wt := W) C st.1 hZ w4 w3 hf hl hC.1 E0 hH) (g := mkF M.m pc Ls S) rfl (hsz.trans st.2.2.2.1.symm) (argsL := argsL) (rest := rest) (lenOf pd hlen) hst (by show 2 * 0 + _ ≤ _; rw [hW]; omega) (hb st.2.2.1 hd) (fun _ _ => ⟨has, rfl, hc', hs'⟩)
  exact (K Bp.U v (Rn.after st hS hZ hown hC N X' hQ hL hE e1 e2 e3 hC')).go stp
theorem r_special (B : RH g D M T H Lt cs ss) {ix W cs' ss' : Nat} {a : Addr} {argsL rest : List Value} {ps : List FieldType} {r : Option FieldType} (hd : decode D.cd pc = .ok (.invokespecial ix, 3)) (hp : pc + 3 = pc') (hy1 : D'.y.name = "<init>") (hrt : D'.rt = none)
    (w1 : (Jvm.Cond.methodLink D.y.cls ix D'.y).before g.a0 g.Z = true) (w2 : (Jvm.Cond.instanceMethod D'.y).before g.a0 g.Z = true) (w3 : (Jvm.Cond.initialized D'.y.cls).before g.a0 g.Z = true) (w4 : (Jvm.Cond.code D'.y D'.cd D'.mx D'.rt).before g.a0 g.Z = true)
    (hy : D'.y.cls ≠ "java/lang/invoke/MethodHandle" ∧ D'.y.cls ≠ "java/lang/invoke/VarHandle") (C : Ct g D' as H Lt Q') (has : (.ref a :: argsL).toArray = as) (pd : parseMethodDescriptor D'.y.desc = some ⟨ps, r⟩) (hlen : argsL.length = ps.length) (hst : S = argsL.reverse ++ .ref a :: rest)
    (hsz : Ls.size = D.mx) (hW : (rest.map fun v => v.category).sum = W) (hf : D'.rm.frames + 1 ≤ D.rm.frames) (hl : W + (D'.mx + 11) + D'.rm.locals ≤ D.rm.locals) (hc : cs + D'.rm.cells = cs') (hs : ss + D'.rm.slots = ss') (hc' : cs' ≤ D.rm.cells) (hs' : ss' ≤ D.rm.slots)
    (K : ∀ T' v, Rn g D M T' (Q' v) cs' ss' → Fn g D M Q (T'.setTop (mkF M.m pc' Ls (v.toList ++ rest)))) : Fn g D M Q (T.setTop (mkF M.m pc Ls S)) := by
  subst hp hc hs
  obtain ⟨st, vm0, k0, locs, X, hS, hk, hZ, hown, hC, N, E0, hH⟩ := B
  obtain ⟨v, vm1, Bp, -, X', ⟨L, hQ, hL, hE, e1, e2, e3, hC'⟩, stp⟩ := X.specialBack st.2.1 hy1 hown (mvT hZ w1) (mvT hZ w2) (bytes := D'.cd) (maxL := D'.mx) (by rw [hrt] at w4; exact mvT hZ w4) hy (Ct.back (p := M.p) (e := M.e) (below := M.below) (s := M.s) (args := M.args) (len := 3) (Wt := W) C st.1 hZ w4 w3 hf hl hC.1 E0 hH) (g := mkF M.m pc Ls S) rfl (hsz.trans st.2.2.2.1.symm) (Steps.refl _) (a := a) (argsL := argsL) (rest := rest) (lenOf pd hlen) hst (by show 2 * 0 + _ ≤ _; rw [hW]; omega) (hb st.2.2.1 hd) (fun _ _ => ⟨has, rfl, hc', hs'⟩)
  exact (K Bp.U v (Rn.after st hS hZ hown hC N X' hQ hL hE e1 e2 e3 hC')).go fun t => stp.trans
theorem r_virtual (B : RH g D M T H Lt cs ss) {ix W cs' ss' : Nat} {y : MethodName} {C0 : String} {b : Addr} {argsL rest : List Value} {ps : List FieldType} {r : Option FieldType} (hd : decode D.cd pc = .ok (.invokevirtual ix, 3)) (hp : pc + 3 = pc')
    (w1 : (Jvm.Cond.methodLink D.y.cls ix y).before g.a0 g.Z = true) (wd : (Jvm.Cond.declares y).before g.a0 g.Z = true) (ws : (Jvm.Cond.selects C0 y D'.y).before g.a0 g.Z = true) (nf : ∀ vm0, g.Z.Warmed39 vm0 → NotFace (M.s.setVm vm0) y) (w2 : (Jvm.Cond.instanceMethod D'.y).before g.a0 g.Z = true) (w3 : (Jvm.Cond.initialized D'.y.cls).before g.a0 g.Z = true) (w4 : (Jvm.Cond.code D'.y D'.cd D'.mx D'.rt).before g.a0 g.Z = true)
    (hy : y.cls ≠ "java/lang/invoke/MethodHandle" ∧ y.cls ≠ "java/lang/invoke/VarHandle") (F : Al g H Lt fun h => Exa g.Z h b C0) (C : Ct g D' as H Lt Q') (has : (.ref b :: argsL).toArray = as) (pd : parseMethodDescriptor y.desc = some ⟨ps, r⟩) (hlen : argsL.length = ps.length) (hst : S = argsL.reverse ++ .ref b :: rest)
    (hsz : Ls.size = D.mx) (hW : (rest.map fun v => v.category).sum = W) (hf : D'.rm.frames + 1 ≤ D.rm.frames) (hl : W + (D'.mx + 11) + D'.rm.locals ≤ D.rm.locals) (hc : cs + D'.rm.cells = cs') (hs : ss + D'.rm.slots = ss') (hc' : cs' ≤ D.rm.cells) (hs' : ss' ≤ D.rm.slots)
    (K : ∀ T' v, Rn g D M T' (Q' v) cs' ss' → Fn g D M Q (T'.setTop (mkF M.m pc' Ls (v.toList ++ rest)))) : Fn g D M Q (T.setTop (mkF M.m pc Ls S)) := by
  subst hp hc hs
  obtain ⟨st, vm0, k0, locs, X, hS, hk, hZ, hown, hC, N, E0, hH⟩ := B
  obtain ⟨cB, kB, q1, q2, q3⟩ := isOf (s := M.s.setVm vm0) (T := T) hZ rfl (F _ _ E0 hH)
  obtain ⟨v, vm1, Bp, -, X', ⟨L, hQ, hL, hE, e1, e2, e3, hC'⟩, stp⟩ := X.virtualBack st.2.1 hown (mvT hZ w1) (mvT hZ wd) (nf vm0 hZ) (mvT hZ ws) (mvT hZ w2) hy (Ct.back (p := M.p) (e := M.e) (below := M.below) (s := M.s) (args := M.args) (len := 3) (Wt := W) C st.1 hZ w4 w3 hf hl hC.1 E0 hH) q1 q3 (g := mkF M.m pc Ls S) rfl (hsz.trans st.2.2.2.1.symm) (Steps.refl _) (argsL := argsL) (rest := rest) (lenOf pd hlen) hst (by show 2 * 0 + _ ≤ _; rw [hW]; omega) (hb st.2.2.1 hd) (fun _ _ => ⟨has, rfl, hc', hs'⟩)
  exact (K Bp.U v (Rn.after st hS hZ hown hC N X' hQ hL hE e1 e2 e3 hC')).go fun t => stp.trans
theorem r_iface (B : RH g D M T H Lt cs ss) {ix cnt W cs' ss' : Nat} {y : MethodName} {C0 : String} {b : Addr} {argsL rest : List Value} {ps : List FieldType} {r : Option FieldType} (hd : decode D.cd pc = .ok (.invokeinterface ix cnt, 5)) (hp : pc + 5 = pc')
    (w1 : (Jvm.Cond.methodLink D.y.cls ix y).before g.a0 g.Z = true) (wd : (Jvm.Cond.declares y).before g.a0 g.Z = true) (wf : (Jvm.Cond.interfaceMethod y.cls y.cls y.name y.desc).before g.a0 g.Z = true) (hfa : ((Jvm.Cond.interfaceMethod y.cls y.cls y.name y.desc).onTables && (Jvm.Cond.interfaceMethod y.cls y.cls y.name y.desc).keepsFace) = true) (ws : (Jvm.Cond.selects C0 y D'.y).before g.a0 g.Z = true) (w2 : (Jvm.Cond.instanceMethod D'.y).before g.a0 g.Z = true)
    (wp : (Jvm.Cond.publicMethod D'.y).before g.a0 g.Z = true) (wu : (Jvm.Cond.unhidden C0 y.name y.desc).before g.a0 g.Z = true) (wk : (Jvm.Cond.castable C0 y.cls).before g.a0 g.Z = true)
    (w3 : (Jvm.Cond.initialized D'.y.cls).before g.a0 g.Z = true) (w4 : (Jvm.Cond.code D'.y D'.cd D'.mx D'.rt).before g.a0 g.Z = true)
    (hy : y.cls ≠ "java/lang/invoke/MethodHandle" ∧ y.cls ≠ "java/lang/invoke/VarHandle") (F : Al g H Lt fun h => Exa g.Z h b C0) (C : Ct g D' as H Lt Q') (has : (.ref b :: argsL).toArray = as) (pd : parseMethodDescriptor y.desc = some ⟨ps, r⟩) (hlen : argsL.length = ps.length) (hst : S = argsL.reverse ++ .ref b :: rest)
    (hsz : Ls.size = D.mx) (hW : (rest.map fun v => v.category).sum = W) (hf : D'.rm.frames + 1 ≤ D.rm.frames) (hl : W + (D'.mx + 11) + D'.rm.locals ≤ D.rm.locals) (hc : cs + D'.rm.cells = cs') (hs : ss + D'.rm.slots = ss') (hc' : cs' ≤ D.rm.cells) (hs' : ss' ≤ D.rm.slots)
    (K : ∀ T' v, Rn g D M T' (Q' v) cs' ss' → Fn g D M Q (T'.setTop (mkF M.m pc' Ls (v.toList ++ rest)))) : Fn g D M Q (T.setTop (mkF M.m pc Ls S)) := by
  subst hp hc hs
  obtain ⟨st, vm0, k0, locs, X, hS, hk, hZ, hown, hC, N, E0, hH⟩ := B
  obtain ⟨cB, kB, q1, q2, q3⟩ := isOf (s := M.s.setVm vm0) (T := T) hZ rfl (F _ _ E0 hH)
  obtain ⟨v, vm1, Bp, -, X', ⟨L, hQ, hL, hE, e1, e2, e3, hC'⟩, stp⟩ := X.interfaceBack st.2.1 hown (mvT hZ w1) (mvT hZ wd) (mvT hZ wf hfa) (mvT hZ ws) (mvT hZ w2) (mvT hZ wp) (mvT hZ wu) (mvT hZ wk) hy (Ct.back (p := M.p) (e := M.e) (below := M.below) (s := M.s) (args := M.args) (len := 5) (Wt := W) C st.1 hZ w4 w3 hf hl hC.1 E0 hH) q1 q2 q3 (g := mkF M.m pc Ls S) rfl (hsz.trans st.2.2.2.1.symm) (Steps.refl _) (argsL := argsL) (rest := rest) (lenOf pd hlen) hst (by show 2 * 0 + _ ≤ _; rw [hW]; omega) (hb st.2.2.1 hd) (fun _ _ => ⟨has, rfl, hc', hs'⟩)
  exact (K Bp.U v (Rn.after st hS hZ hown hC N X' hQ hL hE e1 e2 e3 hC')).go fun t => stp.trans
/-! constants -/
theorem ary_of {Z : State} {h : Heap} {b : Addr} {k : ClassId} {z : Int32} {vs : List Value} {dv : Value} (A : Arv Z h b k .byte z vs dv) (hl : z.toNatClampNeg = vs.length) : Ary Z h b .byte "" vs := by
  obtain ⟨c, r1, r2, r3, r4, r5, r6⟩ := A
  have hs : c.slots.size = vs.length := r3.trans hl
  refine ⟨c, r1, ?_, ?_, fun v hv => ?_, nofun, fun q => absurd rfl q⟩
  · apply Array.ext_getElem?
    intro i
    by_cases hi : i < c.slots.size
    · rw [r5 i hi]
      have : i < vs.length := hs ▸ hi
      simp [this]
    · rw [Array.getElem?_eq_none (by omega), List.getElem?_toArray, List.getElem?_eq_none (by omega)]
  · have := (back32 r4).2
    omega
  · obtain ⟨i, hi, rfl⟩ := List.getElem_of_mem hv
    have := r6 i (by omega)
    simpa [hi] using this
theorem r_ldcI (B : RH g D M T H Lt cs ss) {ix : Nat} {v : Int32} (hd : decode D.cd pc = .ok (.ldc ix, 2)) (hp : pc + 2 = pc') (w : (Jvm.Cond.constant D.y.cls ix v).before g.a0 g.Z = true) (K : Fn g D M Q (T.setTop (mkF M.m pc' Ls (.int v :: S)))) : Fn g D M Q (T.setTop (mkF M.m pc Ls S)) := by
  subst hp
  obtain ⟨st, vm0, k0, locs, X, hS, hk, hZ, hown, hC, N, E0, hH⟩ := B
  exact K.go fun t => X.ldcI (g := mkF M.m pc Ls S) st.2.1 hown (mvT hZ w) rfl (hb st.2.2.1 hd)
theorem r_ldcwI (B : RH g D M T H Lt cs ss) {ix : Nat} {v : Int32} (hd : decode D.cd pc = .ok (.ldc_w ix, 3)) (hp : pc + 3 = pc') (w : (Jvm.Cond.constant D.y.cls ix v).before g.a0 g.Z = true) (K : Fn g D M Q (T.setTop (mkF M.m pc' Ls (.int v :: S)))) : Fn g D M Q (T.setTop (mkF M.m pc Ls S)) := by
  subst hp
  obtain ⟨st, vm0, k0, locs, X, hS, hk, hZ, hown, hC, N, E0, hH⟩ := B
  exact K.go fun t => X.ldcWI (g := mkF M.m pc Ls S) st.2.1 hown (mvT hZ w) rfl (hb st.2.2.1 hd)
theorem r_ldcJ (B : RH g D M T H Lt cs ss) {ix : Nat} {v : Int64} (hd : decode D.cd pc = .ok (.ldc2_w ix, 3)) (hp : pc + 3 = pc') (w : (Jvm.Cond.constantLong D.y.cls ix v).before g.a0 g.Z = true) (K : Fn g D M Q (T.setTop (mkF M.m pc' Ls (.long v :: S)))) : Fn g D M Q (T.setTop (mkF M.m pc Ls S)) := by
  subst hp
  obtain ⟨st, vm0, k0, locs, X, hS, hk, hZ, hown, hC, N, E0, hH⟩ := B
  exact K.go fun t => X.ldc2J (g := mkF M.m pc Ls S) st.2.1 hown (mvT hZ w) rfl (hb st.2.2.1 hd)
/-! casts -/
theorem r_cast (B : RH g D M T H Lt cs ss) {ix : Nat} {C : String} {a : Addr} (hd : decode D.cd pc = .ok (.checkcast ix, 3)) (hp : pc + 3 = pc') (w : (Jvm.Cond.classLink D.y.cls ix C).before g.a0 g.Z = true) (F : Al g H Lt fun h => Ins g.Z h a C true)
    (K : ∀ T', RH g D M T' H Lt cs ss → Fn g D M Q (T'.setTop (mkF M.m pc' Ls (.ref a :: S)))) : Fn g D M Q (T.setTop (mkF M.m pc Ls (.ref a :: S))) := by
  subst hp
  obtain ⟨st, vm0, k0, locs, X, hS, hk, hZ, hown, hC, N, E0, hH⟩ := B
  obtain ⟨T', X', e', stp⟩ := castY (Z := g.Z) (a0 := g.a0) X st.2.1 hZ hown w rfl (F _ _ E0 hH) (g := mkF M.m pc Ls (.ref a :: S)) rfl rfl (hb st.2.2.1 hd)
  exact (K T' ⟨st, vm0, k0, locs, X', hS, by rw [e']; exact hk, hZ, hown, by rw [e']; exact hC, N, by rw [e']; exact E0, by rw [e']; exact hH⟩).go stp
theorem r_inst1 (B : RH g D M T H Lt cs ss) {ix : Nat} {C : String} {a : Addr} (hd : decode D.cd pc = .ok (.instanceof ix, 3)) (hp : pc + 3 = pc') (w : (Jvm.Cond.classLink D.y.cls ix C).before g.a0 g.Z = true) (F : Al g H Lt fun h => Ins g.Z h a C true)
    (K : ∀ T', RH g D M T' H Lt cs ss → Fn g D M Q (T'.setTop (mkF M.m pc' Ls (.int 1 :: S)))) : Fn g D M Q (T.setTop (mkF M.m pc Ls (.ref a :: S))) := by
  subst hp
  obtain ⟨st, vm0, k0, locs, X, hS, hk, hZ, hown, hC, N, E0, hH⟩ := B
  obtain ⟨T', X', e', stp⟩ := instY (Z := g.Z) (a0 := g.a0) X st.2.1 hZ hown w rfl (F _ _ E0 hH) (g := mkF M.m pc Ls (.ref a :: S)) rfl rfl (hb st.2.2.1 hd)
  exact (K T' ⟨st, vm0, k0, locs, X', hS, by rw [e']; exact hk, hZ, hown, by rw [e']; exact hC, N, by rw [e']; exact E0, by rw [e']; exact hH⟩).go stp
theorem r_inst0 (B : RH g D M T H Lt cs ss) {ix : Nat} {C C1 : String} {a : Addr} (hd : decode D.cd pc = .ok (.instanceof ix, 3)) (hp : pc + 3 = pc') (w : (Jvm.Cond.classLink D.y.cls ix C).before g.a0 g.Z = true) (F : Al g H Lt fun h => Ins g.Z h a C false) (F1 : Al g H Lt fun h => Exa g.Z h a C1)
    (K : ∀ T', RH g D M T' H Lt cs ss → Fn g D M Q (T'.setTop (mkF M.m pc' Ls (.int 0 :: S)))) : Fn g D M Q (T.setTop (mkF M.m pc Ls (.ref a :: S))) := by
  subst hp
  obtain ⟨st, vm0, k0, locs, X, hS, hk, hZ, hown, hC, N, E0, hH⟩ := B
  obtain ⟨cell, cT, h1, h2, h3⟩ := F _ _ E0 hH
  obtain ⟨cell', k, e1, -, e3, e4, -⟩ := F1 _ _ E0 hH
  cases h1.symm.trans e1
  obtain ⟨k', q, -⟩ := hZ.alike.2.2 _ _ e3
  obtain ⟨vm', X', stp⟩ := Jvm.Sym.instanceofNoAt X st.2.1 hown (mvT hZ w) h1 e4 q (by show vm0.findClass C = some cT; rw [hZ.alike.findClass]; exact h2) (by show vm0.assignable cell.cls cT = false; rw [hZ.alike.assignable]; simpa [e4] using h3) (g := mkF M.m pc Ls (.ref a :: S)) rfl rfl (hb st.2.2.1 hd)
  exact (K _ ⟨st, vm0, k0, locs, X', hS, hk, hZ, hown, hC, N, E0, hH⟩).go stp
theorem r_castN (B : RH g D M T H Lt cs ss) {ix : Nat} (hd : decode D.cd pc = .ok (.checkcast ix, 3)) (hp : pc + 3 = pc') (K : Fn g D M Q (T.setTop (mkF M.m pc' Ls (.null :: S)))) : Fn g D M Q (T.setTop (mkF M.m pc Ls (.null :: S))) := by
  subst hp
  obtain ⟨st, vm0, k0, locs, X, hS, hk, hZ, hown, hC, N, E0, hH⟩ := B
  exact K.go fun t => X.checkcastNull st.2.1 (g := mkF M.m pc Ls (.null :: S)) rfl rfl (hb st.2.2.1 hd) t
theorem r_instN (B : RH g D M T H Lt cs ss) {ix : Nat} (hd : decode D.cd pc = .ok (.instanceof ix, 3)) (hp : pc + 3 = pc') (K : Fn g D M Q (T.setTop (mkF M.m pc' Ls (.int 0 :: S)))) : Fn g D M Q (T.setTop (mkF M.m pc Ls (.null :: S))) := by
  subst hp
  obtain ⟨st, vm0, k0, locs, X, hS, hk, hZ, hown, hC, N, E0, hH⟩ := B
  exact K.go fun t => X.instanceofNull st.2.1 (g := mkF M.m pc Ls (.null :: S)) rfl rfl (hb st.2.2.1 hd) t
/-! OWN WALKING KIT, part 6: a private method. -/
theorem r_private (B : RH g D M T H Lt cs ss) {ix W cs' ss' kk : Nat} {C0 : String} {b : Addr} {argsL rest : List Value} {ps : List FieldType} {r : Option FieldType} (hd : decode D.cd pc = .ok (.invokevirtual ix, 3)) (hp : pc + 3 = pc')
    (w1 : (Jvm.Cond.methodLink D.y.cls ix D'.y).before g.a0 g.Z = true) (wp : (Jvm.Cond.privateMethod D'.y).before g.a0 g.Z = true) (wi : (Jvm.Cond.instantiable D'.y.cls kk).before g.a0 g.Z = true) (w2 : (Jvm.Cond.instanceMethod D'.y).before g.a0 g.Z = true) (w3 : (Jvm.Cond.initialized D'.y.cls).before g.a0 g.Z = true) (w4 : (Jvm.Cond.code D'.y D'.cd D'.mx D'.rt).before g.a0 g.Z = true)
    (hy : D'.y.cls ≠ "java/lang/invoke/MethodHandle" ∧ D'.y.cls ≠ "java/lang/invoke/VarHandle") (F : Al g H Lt fun h => Exa g.Z h b C0) (C : Ct g D' as H Lt Q') (has : (.ref b :: argsL).toArray = as) (pd : parseMethodDescriptor D'.y.desc = some ⟨ps, r⟩) (hlen : argsL.length = ps.length) (hst : S = argsL.reverse ++ .ref b :: rest)
    (hsz : Ls.size = D.mx) (hW : (rest.map fun v => v.category).sum = W) (hf : D'.rm.frames + 1 ≤ D.rm.frames) (hl : W + (D'.mx + 11) + D'.rm.locals ≤ D.rm.locals) (hc : cs + D'.rm.cells = cs') (hs : ss + D'.rm.slots = ss') (hc' : cs' ≤ D.rm.cells) (hs' : ss' ≤ D.rm.slots)
    (K : ∀ T' v, Rn g D M T' (Q' v) cs' ss' → Fn g D M Q (T'.setTop (mkF M.m pc' Ls (v.toList ++ rest)))) : Fn g D M Q (T.setTop (mkF M.m pc Ls S)) := by
  subst hp hc hs
  obtain ⟨st, vm0, k0, locs, X, hS, hk, hZ, hown, hC, N, E0, hH⟩ := B
  obtain ⟨cB, kB, q1, q2, cell, c1, c2, c3⟩ := isOf (s := M.s.setVm vm0) (T := T) hZ rfl (F _ _ E0 hH)
  obtain ⟨tt, kt, t1, t2, t3, t4, -⟩ := Cond.instantiable_spec (args := M.args) (s := M.s.setVm vm0) (mvT hZ wi)
  have hpv := Cond.privateMethod_at (args := M.args) (s := M.s.setVm vm0) (mvT hZ wp)
  have hse := selects_self_of_private (s := M.s.setVm vm0) (args := M.args) t1 t2 (Bool.or_eq_false_iff.mp t4).1 hpv (mvT hZ w2) hy
  obtain ⟨v, vm1, Bp, -, X', ⟨L, hQ, hL, hE, e1, e2, e3, hC'⟩, stp⟩ := X.privateBack st.2.1 hown (mvT hZ w1) (mvT hZ w2) hse hpv (mvT hZ w4) hy (Ct.back (p := M.p) (e := M.e) (below := M.below) (s := M.s) (args := M.args) (len := 3) (Wt := W) C st.1 hZ w4 w3 hf hl hC.1 E0 hH) (g := mkF M.m pc Ls S) rfl (hsz.trans st.2.2.2.1.symm) (Steps.refl _) c1 (fun q e => by rw [e] at c3; cases c3) (argsL := argsL) (rest := rest) (lenOf pd hlen) hst (by show 2 * 0 + _ ≤ _; rw [hW]; omega) (hb st.2.2.1 hd) (fun _ _ => ⟨has, rfl, hc', hs'⟩)
  exact (K Bp.U v (Rn.after st hS hZ hown hC N X' hQ hL hE e1 e2 e3 hC')).go fun t => stp.trans
end Rules
theorem nar_ref {t : FieldType} {v : Value} (h : v.isRef = true) (ht : t.isReference = true) : narrow t v = v := by cases t <;> first | (cases v <;> first | rfl | (cases h; done)) | (cases ht; done)
theorem fit_ref {t : FieldType} {v : Value} (h : v.isRef = true) (ht : t.isReference = true) : fits t v = true := by cases t <;> first | (cases v <;> first | rfl | (cases h; done)) | (cases ht; done)
theorem cat_ref {v : Value} (h : v.isRef = true) : v.category = 1 := Jvm.Free.XT.cat1 h
theorem ins_no {Z : State} {h : Heap} {a : Addr} {a0 : Array Value} {C S K : String} {n : Nat} (E : Exa Z h a C) (w : (Jvm.Cond.superclass C S).before a0 Z = true) (w0 : (Jvm.Cond.noSuperclass S).before a0 Z = true) (wi : (Jvm.Cond.instantiable K n).before a0 Z = true) (h1 : C ≠ K) (h2 : S ≠ K) : Ins Z h a K false := by
  obtain ⟨cell, k, e1, e2, e3, e4, -⟩ := E
  obtain ⟨t, kt, t1, t2, t3, t4, -⟩ := Cond.instantiable_spec wi
  obtain ⟨p, kc, kp, q1, q2, q3, q4, q5, q6, q7⟩ := Cond.superclass_spec e2 w
  obtain ⟨p', kp', r1, r2, r3, r4, r5⟩ := Cond.noSuperclass_spec w0
  cases q1.symm.trans r1
  have n1 := ids_ne e2 t1 h1
  have n2 := ids_ne r1 t1 h2
  have hi : kt.isInterface = false := (Bool.or_eq_false_iff.mp t4).1
  have hs0 : ∀ fuel, Z.vm.isSubclassAux fuel p t = false := fun fuel => by
    cases fuel with
    | zero => rfl
    | succ f => simp [Vm.isSubclassAux, n2, r2, r3]
  have hs : ∀ fuel, Z.vm.isSubclassAux fuel cell.cls t = false := fun fuel => by
    cases fuel with
    | zero => rfl
    | succ f => simp [Vm.isSubclassAux, n1, q2, q4, hs0]
  have hA : Z.vm.assignable cell.cls t = false := by
    show Z.vm.assignableAux (255 + 1) cell.cls t = false
    simp [Vm.assignableAux, n1, q2, t2, q5, t3, hi, Vm.isSubclass, hs]
  exact ⟨cell, t, e1, t1, by simp [hA]⟩
theorem tl1 {α : Type} {a : α} {l : List α} : ∀ y ∈ l, y ∈ a :: l := fun _ h => List.mem_cons_of_mem _ h
theorem tl2 {α : Type} {a b : α} {l : List α} : ∀ y ∈ l, y ∈ a :: b :: l := fun _ h => List.mem_cons_of_mem _ (tl1 _ h)
theorem tl3 {α : Type} {a b c : α} {l : List α} : ∀ y ∈ l, y ∈ a :: b :: c :: l := fun _ h => List.mem_cons_of_mem _ (tl2 _ h)
theorem tl4 {α : Type} {a b c d : α} {l : List α} : ∀ y ∈ l, y ∈ a :: b :: c :: d :: l := fun _ h => List.mem_cons_of_mem _ (tl3 _ h)
theorem tlm {α : Type} {a b : α} {l : List α} : ∀ y ∈ a :: l, y ∈ a :: b :: l := fun _ h => (List.mem_cons.mp h).elim (fun e => e ▸ List.mem_cons_self ..) fun h => List.mem_cons_of_mem _ (tl1 _ h)
theorem tlh {α : Type} {a : α} {l : List α} (m : a ∈ l) : ∀ y ∈ a :: l, y ∈ l := fun _ h => (List.mem_cons.mp h).elim (fun e => e ▸ m) id
theorem Hp.nil {g : GG} {vm : Vm} {h : Heap} : Hp g vm h [] [] := ⟨nofun, List.nodup_nil, nofun, nofun⟩
/-! OWN WALKING KIT, part 5: doubles. -/
section Doubles
variable {g : GG} {D D' : DD} {M : MM} {T : State} {A A' : Vm → Heap → Prop} {cs ss : Nat} {Q Q' : Option Value → Vm → Heap → Prop} {pc pc' : Nat} {Ls Ls' : Array Slot} {S : List Value} {H H' : List Ent} {Lt Lt' : List SE}
theorem p_dload (B : Rn g D M T A cs ss) {k : Nat} {v : UInt64} (hd : decode D.cd pc = .ok (.dload k, 2)) (hp : pc + 2 = pc') (hl : Ls[k]? = some (.val (.double v))) (K : Fn g D M Q (T.setTop (mkF M.m pc' Ls (.double v :: S)))) : Fn g D M Q (T.setTop (mkF M.m pc Ls S)) := by
  subst hp
  exact K.go fun t => Jvm.Free.XS.dload (g := mkF M.m pc Ls S) B.here B.hx rfl (hb B.cd hd) hl
theorem p_dloadN (B : Rn g D M T A cs ss) {k : Fin 4} {v : UInt64} (hd : decode D.cd pc = .ok (.dload_n k, 1)) (hp : pc + 1 = pc') (hl : Ls[k.val]? = some (.val (.double v))) (K : Fn g D M Q (T.setTop (mkF M.m pc' Ls (.double v :: S)))) : Fn g D M Q (T.setTop (mkF M.m pc Ls S)) := by
  subst hp
  exact K.go fun t => Jvm.Free.XS.dloadN (g := mkF M.m pc Ls S) B.here B.hx rfl (hb B.cd hd) hl
theorem p_dstore (B : Rn g D M T A cs ss) {k : Nat} {v : UInt64} (hd : decode D.cd pc = .ok (.dstore k, 2)) (hp : pc + 2 = pc') (hl : storeLocals Ls k (.double v) = some Ls') (K : Fn g D M Q (T.setTop (mkF M.m pc' Ls' S))) : Fn g D M Q (T.setTop (mkF M.m pc Ls (.double v :: S))) := by
  subst hp
  exact K.go fun t => Jvm.Free.XS.dstore (g := mkF M.m pc Ls (.double v :: S)) B.here B.hx rfl (hb B.cd hd) rfl hl
theorem p_dstoreN (B : Rn g D M T A cs ss) {k : Fin 4} {v : UInt64} (hd : decode D.cd pc = .ok (.dstore_n k, 1)) (hp : pc + 1 = pc') (hl : storeLocals Ls k.val (.double v) = some Ls') (K : Fn g D M Q (T.setTop (mkF M.m pc' Ls' S))) : Fn g D M Q (T.setTop (mkF M.m pc Ls (.double v :: S))) := by
  subst hp
  exact K.go fun t => Jvm.Free.XS.dstoreN (g := mkF M.m pc Ls (.double v :: S)) B.here B.hx rfl (hb B.cd hd) rfl hl
theorem p_dconst0 (B : Rn g D M T A cs ss) {v : UInt64} (hd : decode D.cd pc = .ok (.dconst 0, 1)) (hp : pc + 1 = pc') (hv : FP.dconst0 = v) (K : Fn g D M Q (T.setTop (mkF M.m pc' Ls (.double v :: S)))) : Fn g D M Q (T.setTop (mkF M.m pc Ls S)) := by
  subst hp
  exact K.go fun t => Jvm.Free.XS.dconst0 (g := mkF M.m pc Ls S) B.here B.hx rfl (hb B.cd hd) hv
theorem p_dconst1 (B : Rn g D M T A cs ss) {v : UInt64} (hd : decode D.cd pc = .ok (.dconst 1, 1)) (hp : pc + 1 = pc') (hv : FP.dconst1 = v) (K : Fn g D M Q (T.setTop (mkF M.m pc' Ls (.double v :: S)))) : Fn g D M Q (T.setTop (mkF M.m pc Ls S)) := by
  subst hp
  exact K.go fun t => Jvm.Free.XS.dconst1 (g := mkF M.m pc Ls S) B.here B.hx rfl (hb B.cd hd) hv
theorem p_i2d (B : Rn g D M T A cs ss) {x : Int32} {v : UInt64} (hd : decode D.cd pc = .ok (.i2d, 1)) (hp : pc + 1 = pc') (hv : FP.i2d x = v) (K : Fn g D M Q (T.setTop (mkF M.m pc' Ls (.double v :: S)))) : Fn g D M Q (T.setTop (mkF M.m pc Ls (.int x :: S))) := by
  subst hp
  exact K.go fun t => Jvm.Free.XS.i2dS (g := mkF M.m pc Ls (.int x :: S)) B.here B.hx rfl (hb B.cd hd) rfl hv
theorem p_l2d (B : Rn g D M T A cs ss) {x : Int64} {v : UInt64} (hd : decode D.cd pc = .ok (.l2d, 1)) (hp : pc + 1 = pc') (hv : FP.l2d x = v) (K : Fn g D M Q (T.setTop (mkF M.m pc' Ls (.double v :: S)))) : Fn g D M Q (T.setTop (mkF M.m pc Ls (.long x :: S))) := by
  subst hp
  exact K.go fun t => Jvm.Free.XS.l2dS (g := mkF M.m pc Ls (.long x :: S)) B.here B.hx rfl (hb B.cd hd) rfl hv
theorem p_ddiv (B : Rn g D M T A cs ss) {x y v : UInt64} (hd : decode D.cd pc = .ok (.ddiv, 1)) (hp : pc + 1 = pc') (hn : Jvm.Free.Fl.NoNaN64 (FP.ddiv x y)) (hv : FP.ddiv x y = v) (K : Fn g D M Q (T.setTop (mkF M.m pc' Ls (.double v :: S)))) : Fn g D M Q (T.setTop (mkF M.m pc Ls (.double y :: .double x :: S))) := by
  subst hp
  exact K.go fun t => Jvm.Free.XS.ddivS (g := mkF M.m pc Ls (.double y :: .double x :: S)) B.here B.hx rfl (hb B.cd hd) rfl hn hv
theorem p_dadd (B : Rn g D M T A cs ss) {x y v : UInt64} (hd : decode D.cd pc = .ok (.dadd, 1)) (hp : pc + 1 = pc') (hn : Jvm.Free.Fl.NoNaN64 (FP.dadd x y)) (hv : FP.dadd x y = v) (K : Fn g D M Q (T.setTop (mkF M.m pc' Ls (.double v :: S)))) : Fn g D M Q (T.setTop (mkF M.m pc Ls (.double y :: .double x :: S))) := by
  subst hp
  exact K.go fun t => Jvm.Free.XS.daddS (g := mkF M.m pc Ls (.double y :: .double x :: S)) B.here B.hx rfl (hb B.cd hd) rfl hn hv
theorem p_dcmp (B : Rn g D M T A cs ss) {o : CmpOp} {x y : UInt64} {v : Int32} (hd : decode D.cd pc = .ok (.dcmp o, 1)) (hp : pc + 1 = pc') (hv : cmpValue (FP.dcmp x y) o = v) (K : Fn g D M Q (T.setTop (mkF M.m pc' Ls (.int v :: S)))) : Fn g D M Q (T.setTop (mkF M.m pc Ls (.double y :: .double x :: S))) := by
  subst hp
  exact K.go fun t => Jvm.Free.XS.dcmpS (g := mkF M.m pc Ls (.double y :: .double x :: S)) B.here B.hx rfl (hb B.cd hd) rfl hv
theorem r_ldcD (B : RH g D M T H Lt cs ss) {ix : Nat} {v : UInt64} (hd : decode D.cd pc = .ok (.ldc2_w ix, 3)) (hp : pc + 3 = pc') (w : (Jvm.Cond.constantDouble D.y.cls ix v).before g.a0 g.Z = true) (K : Fn g D M Q (T.setTop (mkF M.m pc' Ls (.double v :: S)))) : Fn g D M Q (T.setTop (mkF M.m pc Ls S)) := by
  subst hp
  obtain ⟨st, vm0, k0, locs, X, hS, hk, hZ, hown, hC, N, E0, hH⟩ := B
  exact K.go fun t => X.ldc2DoubleC st.2.1 hown (mvT hZ w) (g := mkF M.m pc Ls S) rfl (hb st.2.2.1 hd) t
theorem r_dastore (B : RH g D M T H Lt cs ss) {i : Nat} {a : Addr} {nm : String} {vs : List Value} {j : Int32} {x : UInt64} {k : Nat} (hd : decode D.cd pc = .ok (.dastore, 1)) (hp : pc + 1 = pc') (hi : H[i]? = some (a, .inr (.double, nm, vs))) (hj : ¬ j < 0) (hk : j.toNatClampNeg = k) (hl : k < vs.length)
    (e : H.set i (a, .inr (.double, nm, vs.set k (.double x))) = H') (K : ∀ T', RH g D M T' H' Lt cs ss → Fn g D M Q (T'.setTop (mkF M.m pc' Ls S))) : Fn g D M Q (T.setTop (mkF M.m pc Ls (.double x :: .int j :: .ref a :: S))) := by
  subst hp; subst hk
  exact r_aputW B hi rfl e (fun vm0 locs X hZ c r1 r2 => stD X B.hx hZ rfl r1 (by rw [r2]; exact inb hj rfl hl) (g := mkF M.m pc Ls (.double x :: .int j :: .ref a :: S)) rfl rfl (hb B.cd hd)) K
end Doubles

theorem W0 {g : GG} (W : GW g) : (Jvm.Cond.constant "com/example/keys_to_peers/keystopeers/placement/LeaveFlowsGetPinLaw" (7 : Nat) (2147483647 : Int32)).before g.a0 g.Z = true := W.1 _ (List.mem_of_getElem? (i := 0) rfl)
theorem W1 {g : GG} (W : GW g) : (Jvm.Cond.methodLink "com/example/keys_to_peers/keystopeers/placement/LeaveFlowsGetPinLaw" (8 : Nat) ({ cls := "java/lang/Math", name := "max", desc := "(II)I" } : Jvm.MethodName)).before g.a0 g.Z = true := W.1 _ (List.mem_of_getElem? (i := 1) rfl)
theorem W2 {g : GG} (W : GW g) : (Jvm.Cond.static ({ cls := "java/lang/Math", name := "max", desc := "(II)I" } : Jvm.MethodName)).before g.a0 g.Z = true := W.1 _ (List.mem_of_getElem? (i := 2) rfl)
theorem W3 {g : GG} (W : GW g) : (Jvm.Cond.initialized "java/lang/Math").before g.a0 g.Z = true := W.1 _ (List.mem_of_getElem? (i := 3) rfl)
theorem W4 {g : GG} (W : GW g) : (Jvm.Cond.code ({ cls := "java/lang/Math", name := "max", desc := "(II)I" } : Jvm.MethodName) jdk_29_method_65_code (2 : Nat) (Option.some Jvm.ClassFile.FieldType.int)).before g.a0 g.Z = true := W.1 _ (List.mem_of_getElem? (i := 4) rfl)
theorem W5 {g : GG} (W : GW g) : (Jvm.Cond.methodLink "com/example/keys_to_peers/keystopeers/placement/LeaveFlowsGetPinLaw" (14 : Nat) ({ cls := "com/example/keys_to_peers/keystopeers/placement/LeaveFlowsGetPinLaw", name := "from", desc := "(JI)I" } : Jvm.MethodName)).before g.a0 g.Z = true := W.1 _ (List.mem_of_getElem? (i := 5) rfl)
theorem W6 {g : GG} (W : GW g) : (Jvm.Cond.static ({ cls := "com/example/keys_to_peers/keystopeers/placement/LeaveFlowsGetPinLaw", name := "from", desc := "(JI)I" } : Jvm.MethodName)).before g.a0 g.Z = true := W.1 _ (List.mem_of_getElem? (i := 6) rfl)
theorem W7 {g : GG} (W : GW g) : (Jvm.Cond.initialized "com/example/keys_to_peers/keystopeers/placement/LeaveFlowsGetPinLaw").before g.a0 g.Z = true := W.1 _ (List.mem_of_getElem? (i := 7) rfl)
theorem W8 {g : GG} (W : GW g) : (Jvm.Cond.code ({ cls := "com/example/keys_to_peers/keystopeers/placement/LeaveFlowsGetPinLaw", name := "from", desc := "(JI)I" } : Jvm.MethodName) method_3_code (3 : Nat) (Option.some Jvm.ClassFile.FieldType.int)).before g.a0 g.Z = true := W.1 _ (List.mem_of_getElem? (i := 8) rfl)
theorem W9 {g : GG} (W : GW g) : (Jvm.Cond.constantLong "com/example/keys_to_peers/keystopeers/placement/LeaveFlowsGetPinLaw" (40 : Nat) (2147483647 : Int64)).before g.a0 g.Z = true := W.1 _ (List.mem_of_getElem? (i := 9) rfl)
theorem W10 {g : GG} (W : GW g) : (Jvm.Cond.methodLink "com/example/keys_to_peers/keystopeers/placement/LeaveFlowsGetPinLaw" (20 : Nat) ({ cls := "com/example/keys_to_peers/keystopeers/placement/LeaveFlowsGetPinLaw", name := "to", desc := "(JI)I" } : Jvm.MethodName)).before g.a0 g.Z = true := W.1 _ (List.mem_of_getElem? (i := 10) rfl)
theorem W11 {g : GG} (W : GW g) : (Jvm.Cond.static ({ cls := "com/example/keys_to_peers/keystopeers/placement/LeaveFlowsGetPinLaw", name := "to", desc := "(JI)I" } : Jvm.MethodName)).before g.a0 g.Z = true := W.1 _ (List.mem_of_getElem? (i := 11) rfl)
theorem W12 {g : GG} (W : GW g) : (Jvm.Cond.code ({ cls := "com/example/keys_to_peers/keystopeers/placement/LeaveFlowsGetPinLaw", name := "to", desc := "(JI)I" } : Jvm.MethodName) method_4_code (3 : Nat) (Option.some Jvm.ClassFile.FieldType.int)).before g.a0 g.Z = true := W.1 _ (List.mem_of_getElem? (i := 12) rfl)
theorem W13 {g : GG} (W : GW g) : (Jvm.Cond.classLink "com/example/keys_to_peers/keystopeers/placement/LeaveFlowsGetPinLaw" (23 : Nat) "com/example/keys_to_peers/keystopeers/placement/LeaveFlows").before g.a0 g.Z = true := W.1 _ (List.mem_of_getElem? (i := 13) rfl)
theorem W14 {g : GG} (W : GW g) : (Jvm.Cond.instantiable "com/example/keys_to_peers/keystopeers/placement/LeaveFlows" (4 : Nat)).before g.a0 g.Z = true := W.1 _ (List.mem_of_getElem? (i := 14) rfl)
theorem W15 {g : GG} (W : GW g) : (Jvm.Cond.initialized "com/example/keys_to_peers/keystopeers/placement/LeaveFlows").before g.a0 g.Z = true := W.1 _ (List.mem_of_getElem? (i := 15) rfl)
theorem W16 {g : GG} (W : GW g) : (Jvm.Cond.methodLink "com/example/keys_to_peers/keystopeers/placement/LeaveFlowsGetPinLaw" (25 : Nat) ({ cls := "com/example/keys_to_peers/keystopeers/placement/LeaveFlows", name := "<init>", desc := "(II)V" } : Jvm.MethodName)).before g.a0 g.Z = true := W.1 _ (List.mem_of_getElem? (i := 16) rfl)
theorem W17 {g : GG} (W : GW g) : (Jvm.Cond.instanceMethod ({ cls := "com/example/keys_to_peers/keystopeers/placement/LeaveFlows", name := "<init>", desc := "(II)V" } : Jvm.MethodName)).before g.a0 g.Z = true := W.1 _ (List.mem_of_getElem? (i := 17) rfl)
theorem W18 {g : GG} (W : GW g) : (Jvm.Cond.code ({ cls := "com/example/keys_to_peers/keystopeers/placement/LeaveFlows", name := "<init>", desc := "(II)V" } : Jvm.MethodName) prog_34_method_1_code (4 : Nat) (Option.none : Option Jvm.ClassFile.FieldType)).before g.a0 g.Z = true := W.1 _ (List.mem_of_getElem? (i := 18) rfl)
theorem W19 {g : GG} (W : GW g) : (Jvm.Cond.methodLink "com/example/keys_to_peers/keystopeers/placement/LeaveFlows" (1 : Nat) ({ cls := "java/lang/Object", name := "<init>", desc := "()V" } : Jvm.MethodName)).before g.a0 g.Z = true := W.1 _ (List.mem_of_getElem? (i := 19) rfl)
theorem W20 {g : GG} (W : GW g) : (Jvm.Cond.instanceMethod ({ cls := "java/lang/Object", name := "<init>", desc := "()V" } : Jvm.MethodName)).before g.a0 g.Z = true := W.1 _ (List.mem_of_getElem? (i := 20) rfl)
theorem W21 {g : GG} (W : GW g) : (Jvm.Cond.code ({ cls := "java/lang/Object", name := "<init>", desc := "()V" } : Jvm.MethodName) object_method_1_code (1 : Nat) (Option.none : Option Jvm.ClassFile.FieldType)).before g.a0 g.Z = true := W.1 _ (List.mem_of_getElem? (i := 21) rfl)
theorem W22 {g : GG} (W : GW g) : (Jvm.Cond.fieldLink "com/example/keys_to_peers/keystopeers/placement/LeaveFlows" (7 : Nat) "com/example/keys_to_peers/keystopeers/placement/LeaveFlows" "units" "J").before g.a0 g.Z = true := W.1 _ (List.mem_of_getElem? (i := 22) rfl)
theorem W23 {g : GG} (W : GW g) : (Jvm.Cond.laysFinal "com/example/keys_to_peers/keystopeers/placement/LeaveFlows" "com/example/keys_to_peers/keystopeers/placement/LeaveFlows" "units" "J").before g.a0 g.Z = true := W.1 _ (List.mem_of_getElem? (i := 23) rfl)
theorem W24 {g : GG} (W : GW g) : (Jvm.Cond.constantLong "com/example/keys_to_peers/keystopeers/placement/LeaveFlows" (13 : Nat) (4 : Int64)).before g.a0 g.Z = true := W.1 _ (List.mem_of_getElem? (i := 24) rfl)
theorem W25 {g : GG} (W : GW g) : (Jvm.Cond.constantLong "com/example/keys_to_peers/keystopeers/placement/LeaveFlows" (15 : Nat) (3 : Int64)).before g.a0 g.Z = true := W.1 _ (List.mem_of_getElem? (i := 25) rfl)
theorem W26 {g : GG} (W : GW g) : (Jvm.Cond.arrayClass Jvm.ClassFile.FieldType.long).before g.a0 g.Z = true := W.1 _ (List.mem_of_getElem? (i := 26) rfl)
theorem W27 {g : GG} (W : GW g) : (Jvm.Cond.fieldLink "com/example/keys_to_peers/keystopeers/placement/LeaveFlows" (17 : Nat) "com/example/keys_to_peers/keystopeers/placement/LeaveFlows" "keys" "[J").before g.a0 g.Z = true := W.1 _ (List.mem_of_getElem? (i := 27) rfl)
theorem W28 {g : GG} (W : GW g) : (Jvm.Cond.lays "com/example/keys_to_peers/keystopeers/placement/LeaveFlows" "com/example/keys_to_peers/keystopeers/placement/LeaveFlows" "keys" "[J").before g.a0 g.Z = true := W.1 _ (List.mem_of_getElem? (i := 28) rfl)
theorem W29 {g : GG} (W : GW g) : (Jvm.Cond.arrayClass Jvm.ClassFile.FieldType.double).before g.a0 g.Z = true := W.1 _ (List.mem_of_getElem? (i := 29) rfl)
theorem W30 {g : GG} (W : GW g) : (Jvm.Cond.fieldLink "com/example/keys_to_peers/keystopeers/placement/LeaveFlows" (21 : Nat) "com/example/keys_to_peers/keystopeers/placement/LeaveFlows" "values" "[D").before g.a0 g.Z = true := W.1 _ (List.mem_of_getElem? (i := 30) rfl)
theorem W31 {g : GG} (W : GW g) : (Jvm.Cond.lays "com/example/keys_to_peers/keystopeers/placement/LeaveFlows" "com/example/keys_to_peers/keystopeers/placement/LeaveFlows" "values" "[D").before g.a0 g.Z = true := W.1 _ (List.mem_of_getElem? (i := 31) rfl)
theorem W32 {g : GG} (W : GW g) : (Jvm.Cond.constantLong "com/example/keys_to_peers/keystopeers/placement/LeaveFlows" (25 : Nat) (-1 : Int64)).before g.a0 g.Z = true := W.1 _ (List.mem_of_getElem? (i := 32) rfl)
theorem W33 {g : GG} (W : GW g) : (Jvm.Cond.methodLink "com/example/keys_to_peers/keystopeers/placement/LeaveFlows" (27 : Nat) ({ cls := "java/util/Arrays", name := "fill", desc := "([JJ)V" } : Jvm.MethodName)).before g.a0 g.Z = true := W.1 _ (List.mem_of_getElem? (i := 33) rfl)
theorem W34 {g : GG} (W : GW g) : (Jvm.Cond.static ({ cls := "java/util/Arrays", name := "fill", desc := "([JJ)V" } : Jvm.MethodName)).before g.a0 g.Z = true := W.1 _ (List.mem_of_getElem? (i := 34) rfl)
theorem W35 {g : GG} (W : GW g) : (Jvm.Cond.initialized "java/util/Arrays").before g.a0 g.Z = true := W.1 _ (List.mem_of_getElem? (i := 35) rfl)
theorem W36 {g : GG} (W : GW g) : (Jvm.Cond.code ({ cls := "java/util/Arrays", name := "fill", desc := "([JJ)V" } : Jvm.MethodName) jdk_65_method_101_code (5 : Nat) (Option.none : Option Jvm.ClassFile.FieldType)).before g.a0 g.Z = true := W.1 _ (List.mem_of_getElem? (i := 36) rfl)
theorem W37 {g : GG} (W : GW g) : (Jvm.Cond.methodLink "com/example/keys_to_peers/keystopeers/placement/LeaveFlowsGetPinLaw" (28 : Nat) ({ cls := "com/example/keys_to_peers/keystopeers/placement/LeaveFlows", name := "add", desc := "(IID)V" } : Jvm.MethodName)).before g.a0 g.Z = true := W.1 _ (List.mem_of_getElem? (i := 37) rfl)
theorem W38 {g : GG} (W : GW g) : (Jvm.Cond.declares ({ cls := "com/example/keys_to_peers/keystopeers/placement/LeaveFlows", name := "add", desc := "(IID)V" } : Jvm.MethodName)).before g.a0 g.Z = true := W.1 _ (List.mem_of_getElem? (i := 38) rfl)
theorem W39 {g : GG} (W : GW g) : (Jvm.Cond.instanceMethod ({ cls := "com/example/keys_to_peers/keystopeers/placement/LeaveFlows", name := "add", desc := "(IID)V" } : Jvm.MethodName)).before g.a0 g.Z = true := W.1 _ (List.mem_of_getElem? (i := 39) rfl)
theorem W40 {g : GG} (W : GW g) : (Jvm.Cond.selects "com/example/keys_to_peers/keystopeers/placement/LeaveFlows" ({ cls := "com/example/keys_to_peers/keystopeers/placement/LeaveFlows", name := "add", desc := "(IID)V" } : Jvm.MethodName) ({ cls := "com/example/keys_to_peers/keystopeers/placement/LeaveFlows", name := "add", desc := "(IID)V" } : Jvm.MethodName)).before g.a0 g.Z = true := W.1 _ (List.mem_of_getElem? (i := 40) rfl)
theorem W41 {g : GG} (W : GW g) : (Jvm.Cond.code ({ cls := "com/example/keys_to_peers/keystopeers/placement/LeaveFlows", name := "add", desc := "(IID)V" } : Jvm.MethodName) prog_34_method_3_code (8 : Nat) (Option.none : Option Jvm.ClassFile.FieldType)).before g.a0 g.Z = true := W.1 _ (List.mem_of_getElem? (i := 41) rfl)
theorem W42 {g : GG} (W : GW g) : (Jvm.Cond.methodLink "com/example/keys_to_peers/keystopeers/placement/LeaveFlows" (33 : Nat) ({ cls := "com/example/keys_to_peers/keystopeers/placement/LeaveFlows", name := "slot", desc := "(J)I" } : Jvm.MethodName)).before g.a0 g.Z = true := W.1 _ (List.mem_of_getElem? (i := 42) rfl)
theorem W43 {g : GG} (W : GW g) : (Jvm.Cond.instanceMethod ({ cls := "com/example/keys_to_peers/keystopeers/placement/LeaveFlows", name := "slot", desc := "(J)I" } : Jvm.MethodName)).before g.a0 g.Z = true := W.1 _ (List.mem_of_getElem? (i := 43) rfl)
theorem W44 {g : GG} (W : GW g) : (Jvm.Cond.privateMethod ({ cls := "com/example/keys_to_peers/keystopeers/placement/LeaveFlows", name := "slot", desc := "(J)I" } : Jvm.MethodName)).before g.a0 g.Z = true := W.1 _ (List.mem_of_getElem? (i := 44) rfl)
theorem W45 {g : GG} (W : GW g) : (Jvm.Cond.code ({ cls := "com/example/keys_to_peers/keystopeers/placement/LeaveFlows", name := "slot", desc := "(J)I" } : Jvm.MethodName) prog_34_method_4_code (5 : Nat) (Option.some Jvm.ClassFile.FieldType.int)).before g.a0 g.Z = true := W.1 _ (List.mem_of_getElem? (i := 45) rfl)
theorem W46 {g : GG} (W : GW g) : (Jvm.Cond.methodLink "com/example/keys_to_peers/keystopeers/placement/LeaveFlows" (46 : Nat) ({ cls := "java/lang/Integer", name := "numberOfTrailingZeros", desc := "(I)I" } : Jvm.MethodName)).before g.a0 g.Z = true := W.1 _ (List.mem_of_getElem? (i := 46) rfl)
theorem W47 {g : GG} (W : GW g) : (Jvm.Cond.static ({ cls := "java/lang/Integer", name := "numberOfTrailingZeros", desc := "(I)I" } : Jvm.MethodName)).before g.a0 g.Z = true := W.1 _ (List.mem_of_getElem? (i := 47) rfl)
theorem W48 {g : GG} (W : GW g) : (Jvm.Cond.initialized "java/lang/Integer").before g.a0 g.Z = true := W.1 _ (List.mem_of_getElem? (i := 48) rfl)
theorem W49 {g : GG} (W : GW g) : (Jvm.Cond.code ({ cls := "java/lang/Integer", name := "numberOfTrailingZeros", desc := "(I)I" } : Jvm.MethodName) jdk_33_method_48_code (2 : Nat) (Option.some Jvm.ClassFile.FieldType.int)).before g.a0 g.Z = true := W.1 _ (List.mem_of_getElem? (i := 49) rfl)
theorem W50 {g : GG} (W : GW g) : (Jvm.Cond.constant "java/lang/Integer" (264 : Nat) (65536 : Int32)).before g.a0 g.Z = true := W.1 _ (List.mem_of_getElem? (i := 50) rfl)
theorem W51 {g : GG} (W : GW g) : (Jvm.Cond.constantLong "com/example/keys_to_peers/keystopeers/placement/LeaveFlows" (52 : Nat) (-7046029254386353131 : Int64)).before g.a0 g.Z = true := W.1 _ (List.mem_of_getElem? (i := 51) rfl)
theorem W52 {g : GG} (W : GW g) : (Jvm.Cond.fieldLink "com/example/keys_to_peers/keystopeers/placement/LeaveFlows" (37 : Nat) "com/example/keys_to_peers/keystopeers/placement/LeaveFlows" "size" "I").before g.a0 g.Z = true := W.1 _ (List.mem_of_getElem? (i := 52) rfl)
theorem W53 {g : GG} (W : GW g) : (Jvm.Cond.lays "com/example/keys_to_peers/keystopeers/placement/LeaveFlows" "com/example/keys_to_peers/keystopeers/placement/LeaveFlows" "size" "I").before g.a0 g.Z = true := W.1 _ (List.mem_of_getElem? (i := 53) rfl)
theorem W54 {g : GG} (W : GW g) : (Jvm.Cond.constantDouble "com/example/keys_to_peers/keystopeers/placement/LeaveFlowsGetPinLaw" (32 : Nat) (4611686018427387904 : UInt64)).before g.a0 g.Z = true := W.1 _ (List.mem_of_getElem? (i := 54) rfl)
theorem W55 {g : GG} (W : GW g) : (Jvm.Cond.constantDouble "com/example/keys_to_peers/keystopeers/placement/LeaveFlowsGetPinLaw" (34 : Nat) (4616189618054758400 : UInt64)).before g.a0 g.Z = true := W.1 _ (List.mem_of_getElem? (i := 55) rfl)
theorem W56 {g : GG} (W : GW g) : (Jvm.Cond.methodLink "com/example/keys_to_peers/keystopeers/placement/LeaveFlowsGetPinLaw" (36 : Nat) ({ cls := "com/example/keys_to_peers/keystopeers/placement/LeaveFlows", name := "get", desc := "(II)D" } : Jvm.MethodName)).before g.a0 g.Z = true := W.1 _ (List.mem_of_getElem? (i := 56) rfl)
theorem W57 {g : GG} (W : GW g) : (Jvm.Cond.declares ({ cls := "com/example/keys_to_peers/keystopeers/placement/LeaveFlows", name := "get", desc := "(II)D" } : Jvm.MethodName)).before g.a0 g.Z = true := W.1 _ (List.mem_of_getElem? (i := 57) rfl)
theorem W58 {g : GG} (W : GW g) : (Jvm.Cond.instanceMethod ({ cls := "com/example/keys_to_peers/keystopeers/placement/LeaveFlows", name := "get", desc := "(II)D" } : Jvm.MethodName)).before g.a0 g.Z = true := W.1 _ (List.mem_of_getElem? (i := 58) rfl)
theorem W59 {g : GG} (W : GW g) : (Jvm.Cond.selects "com/example/keys_to_peers/keystopeers/placement/LeaveFlows" ({ cls := "com/example/keys_to_peers/keystopeers/placement/LeaveFlows", name := "get", desc := "(II)D" } : Jvm.MethodName) ({ cls := "com/example/keys_to_peers/keystopeers/placement/LeaveFlows", name := "get", desc := "(II)D" } : Jvm.MethodName)).before g.a0 g.Z = true := W.1 _ (List.mem_of_getElem? (i := 59) rfl)
theorem W60 {g : GG} (W : GW g) : (Jvm.Cond.code ({ cls := "com/example/keys_to_peers/keystopeers/placement/LeaveFlows", name := "get", desc := "(II)D" } : Jvm.MethodName) prog_34_method_2_code (4 : Nat) (Option.some Jvm.ClassFile.FieldType.double)).before g.a0 g.Z = true := W.1 _ (List.mem_of_getElem? (i := 60) rfl)
theorem d1_0 : decode jdk_29_method_65_code 0 = .ok (.iload_n 0, 1) := by decide +kernel
theorem d1_1 : decode jdk_29_method_65_code 1 = .ok (.iload_n 1, 1) := by decide +kernel
theorem d1_2 : decode jdk_29_method_65_code 2 = .ok (.if_icmp .lt 7, 3) := by decide +kernel
theorem d1_5 : decode jdk_29_method_65_code 5 = .ok (.iload_n 0, 1) := by decide +kernel
theorem d1_6 : decode jdk_29_method_65_code 6 = .ok (.goto 4, 3) := by decide +kernel
theorem d1_9 : decode jdk_29_method_65_code 9 = .ok (.iload_n 1, 1) := by decide +kernel
theorem d1_10 : decode jdk_29_method_65_code 10 = .ok (.ireturn, 1) := by decide +kernel
theorem d2_0 : decode method_3_code 0 = .ok (.lload_n 0, 1) := by decide +kernel
theorem d2_1 : decode method_3_code 1 = .ok (.ldc2_w 40, 3) := by decide +kernel
theorem d2_4 : decode method_3_code 4 = .ok (.land, 1) := by decide +kernel
theorem d2_5 : decode method_3_code 5 = .ok (.iload_n 2, 1) := by decide +kernel
theorem d2_6 : decode method_3_code 6 = .ok (.i2l, 1) := by decide +kernel
theorem d2_7 : decode method_3_code 7 = .ok (.lrem, 1) := by decide +kernel
theorem d2_8 : decode method_3_code 8 = .ok (.l2i, 1) := by decide +kernel
theorem d2_9 : decode method_3_code 9 = .ok (.ireturn, 1) := by decide +kernel
theorem d3_0 : decode method_4_code 0 = .ok (.lload_n 0, 1) := by decide +kernel
theorem d3_1 : decode method_4_code 1 = .ok (.bipush 32, 2) := by decide +kernel
theorem d3_3 : decode method_4_code 3 = .ok (.lushr, 1) := by decide +kernel
theorem d3_4 : decode method_4_code 4 = .ok (.ldc2_w 40, 3) := by decide +kernel
theorem d3_7 : decode method_4_code 7 = .ok (.land, 1) := by decide +kernel
theorem d3_8 : decode method_4_code 8 = .ok (.iload_n 2, 1) := by decide +kernel
theorem d3_9 : decode method_4_code 9 = .ok (.i2l, 1) := by decide +kernel
theorem d3_10 : decode method_4_code 10 = .ok (.lrem, 1) := by decide +kernel
theorem d3_11 : decode method_4_code 11 = .ok (.l2i, 1) := by decide +kernel
theorem d3_12 : decode method_4_code 12 = .ok (.ireturn, 1) := by decide +kernel
theorem d4_0 : decode prog_34_method_1_code 0 = .ok (.aload_n 0, 1) := by decide +kernel
theorem d4_1 : decode prog_34_method_1_code 1 = .ok (.invokespecial 1, 3) := by decide +kernel
theorem d4_4 : decode prog_34_method_1_code 4 = .ok (.aload_n 0, 1) := by decide +kernel
theorem d4_5 : decode prog_34_method_1_code 5 = .ok (.iload_n 1, 1) := by decide +kernel
theorem d4_6 : decode prog_34_method_1_code 6 = .ok (.i2l, 1) := by decide +kernel
theorem d4_7 : decode prog_34_method_1_code 7 = .ok (.putfield 7, 3) := by decide +kernel
theorem d4_10 : decode prog_34_method_1_code 10 = .ok (.bipush 16, 2) := by decide +kernel
theorem d4_12 : decode prog_34_method_1_code 12 = .ok (.istore_n 3, 1) := by decide +kernel
theorem d4_13 : decode prog_34_method_1_code 13 = .ok (.ldc2_w 13, 3) := by decide +kernel
theorem d4_16 : decode prog_34_method_1_code 16 = .ok (.iload_n 2, 1) := by decide +kernel
theorem d4_17 : decode prog_34_method_1_code 17 = .ok (.i2l, 1) := by decide +kernel
theorem d4_18 : decode prog_34_method_1_code 18 = .ok (.lmul, 1) := by decide +kernel
theorem d4_19 : decode prog_34_method_1_code 19 = .ok (.ldc2_w 15, 3) := by decide +kernel
theorem d4_22 : decode prog_34_method_1_code 22 = .ok (.iload_n 3, 1) := by decide +kernel
theorem d4_23 : decode prog_34_method_1_code 23 = .ok (.i2l, 1) := by decide +kernel
theorem d4_24 : decode prog_34_method_1_code 24 = .ok (.lmul, 1) := by decide +kernel
theorem d4_25 : decode prog_34_method_1_code 25 = .ok (.lcmp, 1) := by decide +kernel
theorem d4_26 : decode prog_34_method_1_code 26 = .ok (.ifCond .le 10, 3) := by decide +kernel
theorem d4_29 : decode prog_34_method_1_code 29 = .ok (.iload_n 3, 1) := by decide +kernel
theorem d4_30 : decode prog_34_method_1_code 30 = .ok (.iconst 1, 1) := by decide +kernel
theorem d4_31 : decode prog_34_method_1_code 31 = .ok (.ishl, 1) := by decide +kernel
theorem d4_32 : decode prog_34_method_1_code 32 = .ok (.istore_n 3, 1) := by decide +kernel
theorem d4_33 : decode prog_34_method_1_code 33 = .ok (.goto (-20), 3) := by decide +kernel
theorem d4_36 : decode prog_34_method_1_code 36 = .ok (.aload_n 0, 1) := by decide +kernel
theorem d4_37 : decode prog_34_method_1_code 37 = .ok (.iload_n 3, 1) := by decide +kernel
theorem d4_38 : decode prog_34_method_1_code 38 = .ok (.newarray .long, 2) := by decide +kernel
theorem d4_40 : decode prog_34_method_1_code 40 = .ok (.putfield 17, 3) := by decide +kernel
theorem d4_43 : decode prog_34_method_1_code 43 = .ok (.aload_n 0, 1) := by decide +kernel
theorem d4_44 : decode prog_34_method_1_code 44 = .ok (.iload_n 3, 1) := by decide +kernel
theorem d4_45 : decode prog_34_method_1_code 45 = .ok (.newarray .double, 2) := by decide +kernel
theorem d4_47 : decode prog_34_method_1_code 47 = .ok (.putfield 21, 3) := by decide +kernel
theorem d4_50 : decode prog_34_method_1_code 50 = .ok (.aload_n 0, 1) := by decide +kernel
theorem d4_51 : decode prog_34_method_1_code 51 = .ok (.getfield 17, 3) := by decide +kernel
theorem d4_54 : decode prog_34_method_1_code 54 = .ok (.ldc2_w 25, 3) := by decide +kernel
theorem d4_57 : decode prog_34_method_1_code 57 = .ok (.invokestatic 27, 3) := by decide +kernel
theorem d4_60 : decode prog_34_method_1_code 60 = .ok (.return_, 1) := by decide +kernel
theorem d6_0 : decode jdk_65_method_101_code 0 = .ok (.iconst 0, 1) := by decide +kernel
theorem d6_1 : decode jdk_65_method_101_code 1 = .ok (.istore_n 3, 1) := by decide +kernel
theorem d6_2 : decode jdk_65_method_101_code 2 = .ok (.aload_n 0, 1) := by decide +kernel
theorem d6_3 : decode jdk_65_method_101_code 3 = .ok (.arraylength, 1) := by decide +kernel
theorem d6_4 : decode jdk_65_method_101_code 4 = .ok (.istore 4, 2) := by decide +kernel
theorem d6_6 : decode jdk_65_method_101_code 6 = .ok (.iload_n 3, 1) := by decide +kernel
theorem d6_7 : decode jdk_65_method_101_code 7 = .ok (.iload 4, 2) := by decide +kernel
theorem d6_9 : decode jdk_65_method_101_code 9 = .ok (.if_icmp .ge 13, 3) := by decide +kernel
theorem d6_12 : decode jdk_65_method_101_code 12 = .ok (.aload_n 0, 1) := by decide +kernel
theorem d6_13 : decode jdk_65_method_101_code 13 = .ok (.iload_n 3, 1) := by decide +kernel
theorem d6_14 : decode jdk_65_method_101_code 14 = .ok (.lload_n 1, 1) := by decide +kernel
theorem d6_15 : decode jdk_65_method_101_code 15 = .ok (.lastore, 1) := by decide +kernel
theorem d6_16 : decode jdk_65_method_101_code 16 = .ok (.iinc 3 1, 3) := by decide +kernel
theorem d6_19 : decode jdk_65_method_101_code 19 = .ok (.goto (-13), 3) := by decide +kernel
theorem d6_22 : decode jdk_65_method_101_code 22 = .ok (.return_, 1) := by decide +kernel
theorem d7_0 : decode prog_34_method_3_code 0 = .ok (.iload_n 1, 1) := by decide +kernel
theorem d7_1 : decode prog_34_method_3_code 1 = .ok (.i2l, 1) := by decide +kernel
theorem d7_2 : decode prog_34_method_3_code 2 = .ok (.aload_n 0, 1) := by decide +kernel
theorem d7_3 : decode prog_34_method_3_code 3 = .ok (.getfield 7, 3) := by decide +kernel
theorem d7_6 : decode prog_34_method_3_code 6 = .ok (.lmul, 1) := by decide +kernel
theorem d7_7 : decode prog_34_method_3_code 7 = .ok (.iload_n 2, 1) := by decide +kernel
theorem d7_8 : decode prog_34_method_3_code 8 = .ok (.i2l, 1) := by decide +kernel
theorem d7_9 : decode prog_34_method_3_code 9 = .ok (.ladd, 1) := by decide +kernel
theorem d7_10 : decode prog_34_method_3_code 10 = .ok (.lstore 5, 2) := by decide +kernel
theorem d7_12 : decode prog_34_method_3_code 12 = .ok (.aload_n 0, 1) := by decide +kernel
theorem d7_13 : decode prog_34_method_3_code 13 = .ok (.lload 5, 2) := by decide +kernel
theorem d7_15 : decode prog_34_method_3_code 15 = .ok (.invokevirtual 33, 3) := by decide +kernel
theorem d7_18 : decode prog_34_method_3_code 18 = .ok (.istore 7, 2) := by decide +kernel
theorem d7_20 : decode prog_34_method_3_code 20 = .ok (.aload_n 0, 1) := by decide +kernel
theorem d7_21 : decode prog_34_method_3_code 21 = .ok (.getfield 17, 3) := by decide +kernel
theorem d7_24 : decode prog_34_method_3_code 24 = .ok (.iload 7, 2) := by decide +kernel
theorem d7_26 : decode prog_34_method_3_code 26 = .ok (.laload, 1) := by decide +kernel
theorem d7_27 : decode prog_34_method_3_code 27 = .ok (.ldc2_w 25, 3) := by decide +kernel
theorem d7_30 : decode prog_34_method_3_code 30 = .ok (.lcmp, 1) := by decide +kernel
theorem d7_31 : decode prog_34_method_3_code 31 = .ok (.ifCond .ne 22, 3) := by decide +kernel
theorem d7_34 : decode prog_34_method_3_code 34 = .ok (.aload_n 0, 1) := by decide +kernel
theorem d7_35 : decode prog_34_method_3_code 35 = .ok (.getfield 17, 3) := by decide +kernel
theorem d7_38 : decode prog_34_method_3_code 38 = .ok (.iload 7, 2) := by decide +kernel
theorem d7_40 : decode prog_34_method_3_code 40 = .ok (.lload 5, 2) := by decide +kernel
theorem d7_42 : decode prog_34_method_3_code 42 = .ok (.lastore, 1) := by decide +kernel
theorem d7_43 : decode prog_34_method_3_code 43 = .ok (.aload_n 0, 1) := by decide +kernel
theorem d7_44 : decode prog_34_method_3_code 44 = .ok (.dup, 1) := by decide +kernel
theorem d7_45 : decode prog_34_method_3_code 45 = .ok (.getfield 37, 3) := by decide +kernel
theorem d7_48 : decode prog_34_method_3_code 48 = .ok (.iconst 1, 1) := by decide +kernel
theorem d7_49 : decode prog_34_method_3_code 49 = .ok (.iadd, 1) := by decide +kernel
theorem d7_50 : decode prog_34_method_3_code 50 = .ok (.putfield 37, 3) := by decide +kernel
theorem d7_53 : decode prog_34_method_3_code 53 = .ok (.aload_n 0, 1) := by decide +kernel
theorem d7_54 : decode prog_34_method_3_code 54 = .ok (.getfield 21, 3) := by decide +kernel
theorem d7_57 : decode prog_34_method_3_code 57 = .ok (.iload 7, 2) := by decide +kernel
theorem d7_59 : decode prog_34_method_3_code 59 = .ok (.dup2, 1) := by decide +kernel
theorem d7_60 : decode prog_34_method_3_code 60 = .ok (.daload, 1) := by decide +kernel
theorem d7_61 : decode prog_34_method_3_code 61 = .ok (.dload_n 3, 1) := by decide +kernel
theorem d7_62 : decode prog_34_method_3_code 62 = .ok (.dadd, 1) := by decide +kernel
theorem d7_63 : decode prog_34_method_3_code 63 = .ok (.dastore, 1) := by decide +kernel
theorem d7_64 : decode prog_34_method_3_code 64 = .ok (.ldc2_w 13, 3) := by decide +kernel
theorem d7_67 : decode prog_34_method_3_code 67 = .ok (.aload_n 0, 1) := by decide +kernel
theorem d7_68 : decode prog_34_method_3_code 68 = .ok (.getfield 37, 3) := by decide +kernel
theorem d7_71 : decode prog_34_method_3_code 71 = .ok (.i2l, 1) := by decide +kernel
theorem d7_72 : decode prog_34_method_3_code 72 = .ok (.lmul, 1) := by decide +kernel
theorem d7_73 : decode prog_34_method_3_code 73 = .ok (.ldc2_w 15, 3) := by decide +kernel
theorem d7_76 : decode prog_34_method_3_code 76 = .ok (.aload_n 0, 1) := by decide +kernel
theorem d7_77 : decode prog_34_method_3_code 77 = .ok (.getfield 17, 3) := by decide +kernel
theorem d7_80 : decode prog_34_method_3_code 80 = .ok (.arraylength, 1) := by decide +kernel
theorem d7_81 : decode prog_34_method_3_code 81 = .ok (.i2l, 1) := by decide +kernel
theorem d7_82 : decode prog_34_method_3_code 82 = .ok (.lmul, 1) := by decide +kernel
theorem d7_83 : decode prog_34_method_3_code 83 = .ok (.lcmp, 1) := by decide +kernel
theorem d7_84 : decode prog_34_method_3_code 84 = .ok (.ifCond .le 7, 3) := by decide +kernel
theorem d7_91 : decode prog_34_method_3_code 91 = .ok (.return_, 1) := by decide +kernel
theorem d8_0 : decode prog_34_method_4_code 0 = .ok (.bipush 64, 2) := by decide +kernel
theorem d8_2 : decode prog_34_method_4_code 2 = .ok (.aload_n 0, 1) := by decide +kernel
theorem d8_3 : decode prog_34_method_4_code 3 = .ok (.getfield 17, 3) := by decide +kernel
theorem d8_6 : decode prog_34_method_4_code 6 = .ok (.arraylength, 1) := by decide +kernel
theorem d8_7 : decode prog_34_method_4_code 7 = .ok (.invokestatic 46, 3) := by decide +kernel
theorem d8_10 : decode prog_34_method_4_code 10 = .ok (.isub, 1) := by decide +kernel
theorem d8_11 : decode prog_34_method_4_code 11 = .ok (.istore_n 3, 1) := by decide +kernel
theorem d8_12 : decode prog_34_method_4_code 12 = .ok (.lload_n 1, 1) := by decide +kernel
theorem d8_13 : decode prog_34_method_4_code 13 = .ok (.ldc2_w 52, 3) := by decide +kernel
theorem d8_16 : decode prog_34_method_4_code 16 = .ok (.lmul, 1) := by decide +kernel
theorem d8_17 : decode prog_34_method_4_code 17 = .ok (.iload_n 3, 1) := by decide +kernel
theorem d8_18 : decode prog_34_method_4_code 18 = .ok (.lushr, 1) := by decide +kernel
theorem d8_19 : decode prog_34_method_4_code 19 = .ok (.l2i, 1) := by decide +kernel
theorem d8_20 : decode prog_34_method_4_code 20 = .ok (.istore 4, 2) := by decide +kernel
theorem d8_22 : decode prog_34_method_4_code 22 = .ok (.aload_n 0, 1) := by decide +kernel
theorem d8_23 : decode prog_34_method_4_code 23 = .ok (.getfield 17, 3) := by decide +kernel
theorem d8_26 : decode prog_34_method_4_code 26 = .ok (.iload 4, 2) := by decide +kernel
theorem d8_28 : decode prog_34_method_4_code 28 = .ok (.laload, 1) := by decide +kernel
theorem d8_29 : decode prog_34_method_4_code 29 = .ok (.ldc2_w 25, 3) := by decide +kernel
theorem d8_32 : decode prog_34_method_4_code 32 = .ok (.lcmp, 1) := by decide +kernel
theorem d8_33 : decode prog_34_method_4_code 33 = .ok (.ifCond .eq 32, 3) := by decide +kernel
theorem d8_36 : decode prog_34_method_4_code 36 = .ok (.aload_n 0, 1) := by decide +kernel
theorem d8_37 : decode prog_34_method_4_code 37 = .ok (.getfield 17, 3) := by decide +kernel
theorem d8_40 : decode prog_34_method_4_code 40 = .ok (.iload 4, 2) := by decide +kernel
theorem d8_42 : decode prog_34_method_4_code 42 = .ok (.laload, 1) := by decide +kernel
theorem d8_43 : decode prog_34_method_4_code 43 = .ok (.lload_n 1, 1) := by decide +kernel
theorem d8_44 : decode prog_34_method_4_code 44 = .ok (.lcmp, 1) := by decide +kernel
theorem d8_45 : decode prog_34_method_4_code 45 = .ok (.ifCond .eq 20, 3) := by decide +kernel
theorem d8_48 : decode prog_34_method_4_code 48 = .ok (.iload 4, 2) := by decide +kernel
theorem d8_50 : decode prog_34_method_4_code 50 = .ok (.iconst 1, 1) := by decide +kernel
theorem d8_51 : decode prog_34_method_4_code 51 = .ok (.iadd, 1) := by decide +kernel
theorem d8_52 : decode prog_34_method_4_code 52 = .ok (.aload_n 0, 1) := by decide +kernel
theorem d8_53 : decode prog_34_method_4_code 53 = .ok (.getfield 17, 3) := by decide +kernel
theorem d8_56 : decode prog_34_method_4_code 56 = .ok (.arraylength, 1) := by decide +kernel
theorem d8_57 : decode prog_34_method_4_code 57 = .ok (.iconst 1, 1) := by decide +kernel
theorem d8_58 : decode prog_34_method_4_code 58 = .ok (.isub, 1) := by decide +kernel
theorem d8_59 : decode prog_34_method_4_code 59 = .ok (.iand, 1) := by decide +kernel
theorem d8_60 : decode prog_34_method_4_code 60 = .ok (.istore 4, 2) := by decide +kernel
theorem d8_62 : decode prog_34_method_4_code 62 = .ok (.goto (-40), 3) := by decide +kernel
theorem d8_65 : decode prog_34_method_4_code 65 = .ok (.iload 4, 2) := by decide +kernel
theorem d8_67 : decode prog_34_method_4_code 67 = .ok (.ireturn, 1) := by decide +kernel
theorem d9_0 : decode jdk_33_method_48_code 0 = .ok (.iload_n 0, 1) := by decide +kernel
theorem d9_1 : decode jdk_33_method_48_code 1 = .ok (.iconst (-1), 1) := by decide +kernel
theorem d9_2 : decode jdk_33_method_48_code 2 = .ok (.ixor, 1) := by decide +kernel
theorem d9_3 : decode jdk_33_method_48_code 3 = .ok (.iload_n 0, 1) := by decide +kernel
theorem d9_4 : decode jdk_33_method_48_code 4 = .ok (.iconst 1, 1) := by decide +kernel
theorem d9_5 : decode jdk_33_method_48_code 5 = .ok (.isub, 1) := by decide +kernel
theorem d9_6 : decode jdk_33_method_48_code 6 = .ok (.iand, 1) := by decide +kernel
theorem d9_7 : decode jdk_33_method_48_code 7 = .ok (.istore_n 0, 1) := by decide +kernel
theorem d9_8 : decode jdk_33_method_48_code 8 = .ok (.iload_n 0, 1) := by decide +kernel
theorem d9_9 : decode jdk_33_method_48_code 9 = .ok (.ifCond .gt 8, 3) := by decide +kernel
theorem d9_17 : decode jdk_33_method_48_code 17 = .ok (.iconst 1, 1) := by decide +kernel
theorem d9_18 : decode jdk_33_method_48_code 18 = .ok (.istore_n 1, 1) := by decide +kernel
theorem d9_19 : decode jdk_33_method_48_code 19 = .ok (.iload_n 0, 1) := by decide +kernel
theorem d9_20 : decode jdk_33_method_48_code 20 = .ok (.ldc_w 264, 3) := by decide +kernel
theorem d9_23 : decode jdk_33_method_48_code 23 = .ok (.if_icmp .le 11, 3) := by decide +kernel
theorem d9_34 : decode jdk_33_method_48_code 34 = .ok (.iload_n 0, 1) := by decide +kernel
theorem d9_35 : decode jdk_33_method_48_code 35 = .ok (.sipush 256, 3) := by decide +kernel
theorem d9_38 : decode jdk_33_method_48_code 38 = .ok (.if_icmp .le 11, 3) := by decide +kernel
theorem d9_41 : decode jdk_33_method_48_code 41 = .ok (.iinc 1 8, 3) := by decide +kernel
theorem d9_44 : decode jdk_33_method_48_code 44 = .ok (.iload_n 0, 1) := by decide +kernel
theorem d9_45 : decode jdk_33_method_48_code 45 = .ok (.bipush 8, 2) := by decide +kernel
theorem d9_47 : decode jdk_33_method_48_code 47 = .ok (.iushr, 1) := by decide +kernel
theorem d9_48 : decode jdk_33_method_48_code 48 = .ok (.istore_n 0, 1) := by decide +kernel
theorem d9_49 : decode jdk_33_method_48_code 49 = .ok (.iload_n 0, 1) := by decide +kernel
theorem d9_50 : decode jdk_33_method_48_code 50 = .ok (.bipush 16, 2) := by decide +kernel
theorem d9_52 : decode jdk_33_method_48_code 52 = .ok (.if_icmp .le 10, 3) := by decide +kernel
theorem d9_55 : decode jdk_33_method_48_code 55 = .ok (.iinc 1 4, 3) := by decide +kernel
theorem d9_58 : decode jdk_33_method_48_code 58 = .ok (.iload_n 0, 1) := by decide +kernel
theorem d9_59 : decode jdk_33_method_48_code 59 = .ok (.iconst 4, 1) := by decide +kernel
theorem d9_60 : decode jdk_33_method_48_code 60 = .ok (.iushr, 1) := by decide +kernel
theorem d9_61 : decode jdk_33_method_48_code 61 = .ok (.istore_n 0, 1) := by decide +kernel
theorem d9_62 : decode jdk_33_method_48_code 62 = .ok (.iload_n 0, 1) := by decide +kernel
theorem d9_63 : decode jdk_33_method_48_code 63 = .ok (.iconst 4, 1) := by decide +kernel
theorem d9_64 : decode jdk_33_method_48_code 64 = .ok (.if_icmp .le 10, 3) := by decide +kernel
theorem d9_67 : decode jdk_33_method_48_code 67 = .ok (.iinc 1 2, 3) := by decide +kernel
theorem d9_70 : decode jdk_33_method_48_code 70 = .ok (.iload_n 0, 1) := by decide +kernel
theorem d9_71 : decode jdk_33_method_48_code 71 = .ok (.iconst 2, 1) := by decide +kernel
theorem d9_72 : decode jdk_33_method_48_code 72 = .ok (.iushr, 1) := by decide +kernel
theorem d9_73 : decode jdk_33_method_48_code 73 = .ok (.istore_n 0, 1) := by decide +kernel
theorem d9_74 : decode jdk_33_method_48_code 74 = .ok (.iload_n 1, 1) := by decide +kernel
theorem d9_75 : decode jdk_33_method_48_code 75 = .ok (.iload_n 0, 1) := by decide +kernel
theorem d9_76 : decode jdk_33_method_48_code 76 = .ok (.iconst 1, 1) := by decide +kernel
theorem d9_77 : decode jdk_33_method_48_code 77 = .ok (.iushr, 1) := by decide +kernel
theorem d9_78 : decode jdk_33_method_48_code 78 = .ok (.iadd, 1) := by decide +kernel
theorem d9_79 : decode jdk_33_method_48_code 79 = .ok (.ireturn, 1) := by decide +kernel
theorem d10_0 : decode prog_34_method_2_code 0 = .ok (.aload_n 0, 1) := by decide +kernel
theorem d10_1 : decode prog_34_method_2_code 1 = .ok (.iload_n 1, 1) := by decide +kernel
theorem d10_2 : decode prog_34_method_2_code 2 = .ok (.i2l, 1) := by decide +kernel
theorem d10_3 : decode prog_34_method_2_code 3 = .ok (.aload_n 0, 1) := by decide +kernel
theorem d10_4 : decode prog_34_method_2_code 4 = .ok (.getfield 7, 3) := by decide +kernel
theorem d10_7 : decode prog_34_method_2_code 7 = .ok (.lmul, 1) := by decide +kernel
theorem d10_8 : decode prog_34_method_2_code 8 = .ok (.iload_n 2, 1) := by decide +kernel
theorem d10_9 : decode prog_34_method_2_code 9 = .ok (.i2l, 1) := by decide +kernel
theorem d10_10 : decode prog_34_method_2_code 10 = .ok (.ladd, 1) := by decide +kernel
theorem d10_11 : decode prog_34_method_2_code 11 = .ok (.invokevirtual 33, 3) := by decide +kernel
theorem d10_14 : decode prog_34_method_2_code 14 = .ok (.istore_n 3, 1) := by decide +kernel
theorem d10_15 : decode prog_34_method_2_code 15 = .ok (.aload_n 0, 1) := by decide +kernel
theorem d10_16 : decode prog_34_method_2_code 16 = .ok (.getfield 17, 3) := by decide +kernel
theorem d10_19 : decode prog_34_method_2_code 19 = .ok (.iload_n 3, 1) := by decide +kernel
theorem d10_20 : decode prog_34_method_2_code 20 = .ok (.laload, 1) := by decide +kernel
theorem d10_21 : decode prog_34_method_2_code 21 = .ok (.ldc2_w 25, 3) := by decide +kernel
theorem d10_24 : decode prog_34_method_2_code 24 = .ok (.lcmp, 1) := by decide +kernel
theorem d10_25 : decode prog_34_method_2_code 25 = .ok (.ifCond .ne 7, 3) := by decide +kernel
theorem d10_28 : decode prog_34_method_2_code 28 = .ok (.dconst 0, 1) := by decide +kernel
theorem d10_29 : decode prog_34_method_2_code 29 = .ok (.goto 9, 3) := by decide +kernel
theorem d10_32 : decode prog_34_method_2_code 32 = .ok (.aload_n 0, 1) := by decide +kernel
theorem d10_33 : decode prog_34_method_2_code 33 = .ok (.getfield 21, 3) := by decide +kernel
theorem d10_36 : decode prog_34_method_2_code 36 = .ok (.iload_n 3, 1) := by decide +kernel
theorem d10_37 : decode prog_34_method_2_code 37 = .ok (.daload, 1) := by decide +kernel
theorem d10_38 : decode prog_34_method_2_code 38 = .ok (.dreturn, 1) := by decide +kernel
theorem pd0 : parseMethodDescriptor "([JJ)V" = some ⟨[(.array .long), .long], none⟩ := by decide +kernel
theorem pd1 : parseMethodDescriptor "(I)I" = some ⟨[.int], some .int⟩ := by decide +kernel
theorem pd2 : parseMethodDescriptor "(J)I" = some ⟨[.long], some .int⟩ := by decide +kernel
theorem pd3 : parseMethodDescriptor "(II)I" = some ⟨[.int, .int], some .int⟩ := by decide +kernel
theorem pd4 : parseMethodDescriptor "(JI)I" = some ⟨[.long, .int], some .int⟩ := by decide +kernel
theorem pd5 : parseMethodDescriptor "(II)V" = some ⟨[.int, .int], none⟩ := by decide +kernel
theorem pd6 : parseMethodDescriptor "(IID)V" = some ⟨[.int, .int, .double], none⟩ := by decide +kernel
theorem pd7 : parseMethodDescriptor "(II)D" = some ⟨[.int, .int], some .double⟩ := by decide +kernel
abbrev o_LeaveFlows (a : Addr) (v0 v1 v2 v3 : Value) : Ent := (a, .inl ("com/example/keys_to_peers/keystopeers/placement/LeaveFlows", [("com/example/keys_to_peers/keystopeers/placement/LeaveFlows", "units", "J", v0), ("com/example/keys_to_peers/keystopeers/placement/LeaveFlows", "keys", "[J", v1), ("com/example/keys_to_peers/keystopeers/placement/LeaveFlows", "values", "[D", v2), ("com/example/keys_to_peers/keystopeers/placement/LeaveFlows", "size", "I", v3)]))
theorem Ly_o_LeaveFlows {g : GG} (W : GW g) : Lays g.Z g.a0 "com/example/keys_to_peers/keystopeers/placement/LeaveFlows" [("com/example/keys_to_peers/keystopeers/placement/LeaveFlows", "units", "J", (.long (0 : Int64))), ("com/example/keys_to_peers/keystopeers/placement/LeaveFlows", "keys", "[J", .null), ("com/example/keys_to_peers/keystopeers/placement/LeaveFlows", "values", "[D", .null), ("com/example/keys_to_peers/keystopeers/placement/LeaveFlows", "size", "I", (.int (0 : Int32)))] := by
  refine ⟨by decide, fun f hf => ?_⟩
  simp only [List.mem_cons, List.not_mem_nil, or_false] at hf
  rcases hf with rfl | rfl | rfl | rfl
  · exact ⟨Or.inr (W23 W), .long, by decide⟩
  · exact ⟨Or.inl (W28 W), (.array .long), by decide⟩
  · exact ⟨Or.inl (W31 W), (.array .double), by decide⟩
  · exact ⟨Or.inl (W53 W), .int, by decide⟩
def mxI (x y : Int32) : Int32 := if x < y then y else x
theorem mxT {x y : Int32} (h : x < y) : mxI x y = y := if_pos h
theorem mxF {x y : Int32} (h : ¬ x < y) : mxI x y = x := if_neg h
theorem mx_1 (y : Int32) : 1 ≤ (mxI (1 : Int32) y).toInt := by
  have c : (1 : Int32).toInt = 1 := rfl
  by_cases h : (1 : Int32) < y
  · rw [mxT h]; rw [Int32.lt_iff_toInt_lt] at h; omega
  · rw [mxF h, c]; omega
def CP (cap : Nat) (k : Int32) : Prop := (cap = 16 ∧ k = 4) ∨ (cap = 32 ∧ k = 5) ∨ (cap = 64 ∧ k = 6) ∨ (cap = 128 ∧ k = 7) ∨ (cap = 256 ∧ k = 8) ∨ (cap = 512 ∧ k = 9) ∨ (cap = 1024 ∧ k = 10) ∨ (cap = 2048 ∧ k = 11)
theorem CP.le {cap : Nat} {k : Int32} (h : CP cap k) : 16 ≤ cap ∧ cap ≤ 2048 := by unfold CP at h; omega
def dV (z : Int64) : Value := .double (FP.l2d z)
def hI (key : Int64) (k : Int32) : Int32 := (((key * (-7046029254386353131 : Int64)).toUInt64 >>> (((64 : Int32) - k) &&& 0x3f).toInt64.toUInt64).toInt64).toInt32
def hN (key : Int64) (k : Int32) : Nat := (hI key k).toNatClampNeg
theorem clampT (z : Int32) (h0 : 0 ≤ z.toInt) : z = Int32.ofNat z.toNatClampNeg ∧ (z.toNatClampNeg : Int) = z.toInt := by
  have h1 := z.toInt_lt
  have e : (z.toNatClampNeg : Int) = z.toInt := by show ((z.toInt.toNat : Nat) : Int) = _; omega
  refine ⟨?_, e⟩
  rw [← Int32.toInt_inj, Int32.toInt_ofNat_small (by omega)]
  exact e.symm
theorem hI_aux (x : Int64) (q : Int32) (kk cap : Nat) (hk : q.toBitVec.toNat % 64 = kk) (h0 : 0 < kk) (hc : 18446744073709551616 ≤ cap * 2 ^ kk) (hcap : cap ≤ 2048) :
    (((x.toUInt64 >>> (q &&& 0x3f).toInt64.toUInt64).toInt64).toInt32) = Int32.ofNat (((x.toUInt64 >>> (q &&& 0x3f).toInt64.toUInt64).toInt64).toInt32).toNatClampNeg ∧ (((x.toUInt64 >>> (q &&& 0x3f).toInt64.toUInt64).toInt64).toInt32).toNatClampNeg < cap := by
  have a := c_lushr x q kk hk h0
  generalize (x.toUInt64 >>> (q &&& 0x3f).toInt64.toUInt64).toInt64 = y at a ⊢
  have p0 : (0 : Int) < ((2 ^ kk : Nat) : Int) := by have := Nat.two_pow_pos kk; omega
  have b1 : 0 ≤ x.toInt % 18446744073709551616 / ((2 ^ kk : Nat) : Int) := Int.ediv_nonneg (by omega) (by omega)
  have b2 : x.toInt % 18446744073709551616 / ((2 ^ kk : Nat) : Int) < (cap : Int) := Int.ediv_lt_of_lt_mul p0 (by
    have : ((cap * 2 ^ kk : Nat) : Int) = (cap : Int) * ((2 ^ kk : Nat) : Int) := Int.natCast_mul _ _
    omega)
  have c := c_l2i y
  have d := rng32 y.toInt32
  have e : y.toInt32.toInt = y.toInt := by omega
  obtain ⟨f1, f2⟩ := clampT y.toInt32 (by omega)
  exact ⟨f1, by omega⟩
theorem hI_r {cap : Nat} {k : Int32} (h : CP cap k) (key : Int64) : hI key k = Int32.ofNat (hN key k) ∧ hN key k < cap := by
  unfold hN hI
  unfold CP at h
  rcases h with ⟨rfl, rfl⟩ | ⟨rfl, rfl⟩ | ⟨rfl, rfl⟩ | ⟨rfl, rfl⟩ | ⟨rfl, rfl⟩ | ⟨rfl, rfl⟩ | ⟨rfl, rfl⟩ | ⟨rfl, rfl⟩
  · exact hI_aux _ _ 60 16 (by decide) (by decide) (by decide) (by decide)
  · exact hI_aux _ _ 59 32 (by decide) (by decide) (by decide) (by decide)
  · exact hI_aux _ _ 58 64 (by decide) (by decide) (by decide) (by decide)
  · exact hI_aux _ _ 57 128 (by decide) (by decide) (by decide) (by decide)
  · exact hI_aux _ _ 56 256 (by decide) (by decide) (by decide) (by decide)
  · exact hI_aux _ _ 55 512 (by decide) (by decide) (by decide) (by decide)
  · exact hI_aux _ _ 54 1024 (by decide) (by decide) (by decide) (by decide)
  · exact hI_aux _ _ 53 2048 (by decide) (by decide) (by decide) (by decide)
theorem hI_0 {cap : Nat} {k : Int32} (h : CP cap k) (key : Int64) : hI key k = Int32.ofNat ((hN key k + 0) % cap) := by
  have := hI_r h key
  rw [Nat.add_zero, Nat.mod_eq_of_lt this.2]; exact this.1
theorem st_aux (j c : Nat) (M : Int32) (kk : Nat) (hk : kk ≤ 31) (hm : M.toBitVec.toNat = 2 ^ kk - 1) (hc : c = 2 ^ kk) (hc2 : c ≤ 2048) (hj : j < c) : (Int32.ofNat j + (1 : Int32)) &&& M = Int32.ofNat ((j + 1) % c) := by
  have a := c_mask (Int32.ofNat j + (1 : Int32)) M kk hk hm
  have b := c_iadd (Int32.ofNat j) (1 : Int32)
  have r := rng32 (Int32.ofNat j + (1 : Int32))
  have o : (1 : Int32).toInt = 1 := rfl
  rw [Int32.toInt_ofNat_small (by omega), o] at b
  have e : (Int32.ofNat j + (1 : Int32)).toInt = ((j + 1 : Nat) : Int) := by omega
  rw [e, ← hc, ← Int.natCast_emod] at a
  have l := Nat.mod_lt (j + 1) (show 0 < c by omega)
  rw [← Int32.toInt_inj, a, Int32.toInt_ofNat_small (by omega)]
theorem step_ix {cap : Nat} {k : Int32} (h : CP cap k) (x m : Nat) : (Int32.ofNat ((x + m) % cap) + (1 : Int32)) &&& (Int32.ofNat cap - (1 : Int32)) = Int32.ofNat ((x + (m + 1)) % cap) := by
  have hl := Nat.mod_lt (x + m) (show 0 < cap by have := h.le; omega)
  have e : (x + (m + 1)) % cap = ((x + m) % cap + 1) % cap := by rw [Nat.mod_add_mod, Nat.add_assoc]
  rw [e]
  generalize (x + m) % cap = j at hl
  unfold CP at h
  rcases h with ⟨rfl, rfl⟩ | ⟨rfl, rfl⟩ | ⟨rfl, rfl⟩ | ⟨rfl, rfl⟩ | ⟨rfl, rfl⟩ | ⟨rfl, rfl⟩ | ⟨rfl, rfl⟩ | ⟨rfl, rfl⟩
  · exact st_aux j 16 _ 4 (by decide) (by decide) (by decide) (by decide) hl
  · exact st_aux j 32 _ 5 (by decide) (by decide) (by decide) (by decide) hl
  · exact st_aux j 64 _ 6 (by decide) (by decide) (by decide) (by decide) hl
  · exact st_aux j 128 _ 7 (by decide) (by decide) (by decide) (by decide) hl
  · exact st_aux j 256 _ 8 (by decide) (by decide) (by decide) (by decide) hl
  · exact st_aux j 512 _ 9 (by decide) (by decide) (by decide) (by decide) hl
  · exact st_aux j 1024 _ 10 (by decide) (by decide) (by decide) (by decide) hl
  · exact st_aux j 2048 _ 11 (by decide) (by decide) (by decide) (by decide) hl
/-! the table, in plain terms -/
def Rch (cap : Nat) (k : Int32) (ks : List Int64) (key : Int64) (n i : Nat) : Prop :=
  i = (hN key k + n) % cap ∧ (∃ kk, ks[i]? = some kk ∧ (kk = -1 ∨ kk = key)) ∧ ∀ m < n, ∃ kk, ks[(hN key k + m) % cap]? = some kk ∧ kk ≠ -1 ∧ kk ≠ key
theorem Rch.uniq {cap : Nat} {k : Int32} {ks : List Int64} {key : Int64} {n n' i i' : Nat} (R : Rch cap k ks key n i) (R' : Rch cap k ks key n' i') : i = i' := by
  obtain ⟨e, ⟨kk, e1, e2⟩, e3⟩ := R
  obtain ⟨f, ⟨ll, f1, f2⟩, f3⟩ := R'
  rcases Nat.lt_trichotomy n n' with h | h | h
  · obtain ⟨x, x1, x2, x3⟩ := f3 n h
    rw [← e, e1] at x1
    cases x1
    exact (e2.elim x2 x3).elim
  · rw [e, f, h]
  · obtain ⟨x, x1, x2, x3⟩ := e3 n' h
    rw [← f, f1] at x1
    cases x1
    exact (f2.elim x2 x3).elim
theorem rch_set {cap : Nat} {k : Int32} {ks : List Int64} {key q k0 : Int64} {n i j : Nat} (h0 : ks[i]? = some k0) (hk0 : k0 = -1 ∨ k0 = key) (hq : q ≠ -1) (R : Rch cap k ks q n j) (hj : ks[j]? = some q ∨ (j = i ∧ q = key)) : Rch cap k (ks.set i key) q n j := by
  obtain ⟨e, -, e3⟩ := R
  have hi : i < ks.length := (List.getElem?_eq_some_iff.mp h0).1
  refine ⟨e, ?_, fun m hm => ?_⟩
  · by_cases hji : j = i
    · refine ⟨key, by rw [hji, List.getElem?_set_self hi], Or.inr ?_⟩
      rcases hj with h | h
      · rw [hji, h0] at h
        cases h
        exact (hk0.resolve_left hq).symm
      · exact h.2.symm
    · refine ⟨q, ?_, Or.inr rfl⟩
      rw [List.getElem?_set_ne (Ne.symm hji)]
      exact hj.resolve_right fun h => hji h.1
  · obtain ⟨kk, f1, f2, f3⟩ := e3 m hm
    refine ⟨kk, ?_, f2, f3⟩
    by_cases hp : (hN q k + m) % cap = i
    · rw [hp] at f1 ⊢
      rw [h0] at f1
      cases f1
      rw [List.getElem?_set_self hi, hk0.resolve_left f2]
    · rw [List.getElem?_set_ne (Ne.symm hp)]; exact f1
theorem modw {h c m : Nat} (hh : h < c) (hm : m < c) : (h + m) % c = if h + m < c then h + m else h + m - c := by
  split
  · rename_i q; exact Nat.mod_eq_of_lt q
  · rename_i q
    rw [Nat.mod_eq_sub_mod (by omega), Nat.mod_eq_of_lt (by omega)]
theorem rch_ex {cap : Nat} {k : Int32} {ks : List Int64} (hC : CP cap k) (hl : ks.length = cap) (key : Int64) (ps : List Nat) (hp : ps.length ≤ 3) (hs : ∀ (j : Nat) (kk : Int64), ks[j]? = some kk → kk ≠ -1 → j ∈ ps) : ∃ n i, Rch cap k ks key n i := by
  have hc := hC.le
  have hh := (hI_r hC key).2
  have at_ : ∀ m, ∃ v, ks[(hN key k + m) % cap]? = some v := fun m => ⟨_, List.getElem?_eq_getElem (by rw [hl]; exact Nat.mod_lt _ (by omega))⟩
  obtain ⟨v0, a0⟩ := at_ 0
  obtain ⟨v1, a1⟩ := at_ 1
  obtain ⟨v2, a2⟩ := at_ 2
  obtain ⟨v3, a3⟩ := at_ 3
  by_cases h0 : v0 = -1 ∨ v0 = key
  · exact ⟨0, _, rfl, ⟨v0, a0, h0⟩, fun m hm => absurd hm (by omega)⟩
  have g0 := not_or.mp h0
  by_cases h1 : v1 = -1 ∨ v1 = key
  · exact ⟨1, _, rfl, ⟨v1, a1, h1⟩, fun m hm => by
      obtain rfl : m = 0 := by omega
      exact ⟨v0, a0, g0⟩⟩
  have g1 := not_or.mp h1
  by_cases h2 : v2 = -1 ∨ v2 = key
  · exact ⟨2, _, rfl, ⟨v2, a2, h2⟩, fun m hm => by
      rcases (show m = 0 ∨ m = 1 by omega) with rfl | rfl
      · exact ⟨v0, a0, g0⟩
      · exact ⟨v1, a1, g1⟩⟩
  have g2 := not_or.mp h2
  by_cases h3 : v3 = -1 ∨ v3 = key
  · exact ⟨3, _, rfl, ⟨v3, a3, h3⟩, fun m hm => by
      rcases (show m = 0 ∨ m = 1 ∨ m = 2 by omega) with rfl | rfl | rfl
      · exact ⟨v0, a0, g0⟩
      · exact ⟨v1, a1, g1⟩
      · exact ⟨v2, a2, g2⟩⟩
  have g3 := not_or.mp h3
  exfalso
  have p0 := hs _ _ a0 g0.1
  have p1 := hs _ _ a1 g1.1
  have p2 := hs _ _ a2 g2.1
  have p3 := hs _ _ a3 g3.1
  rw [modw hh (by omega)] at p0 p1 p2 p3
  have d : ∀ a b : Nat, a < 4 → b < 4 → a ≠ b → (if hN key k + a < cap then hN key k + a else hN key k + a - cap) ≠ (if hN key k + b < cap then hN key k + b else hN key k + b - cap) := by
    intro a b ha hb hab
    split <;> split <;> omega
  have d01 := d 0 1 (by decide) (by decide) (by decide)
  have d02 := d 0 2 (by decide) (by decide) (by decide)
  have d03 := d 0 3 (by decide) (by decide) (by decide)
  have d12 := d 1 2 (by decide) (by decide) (by decide)
  have d13 := d 1 3 (by decide) (by decide) (by decide)
  have d23 := d 2 3 (by decide) (by decide) (by decide)
  generalize (if hN key k + 0 < cap then hN key k + 0 else hN key k + 0 - cap) = x0 at *
  generalize (if hN key k + 1 < cap then hN key k + 1 else hN key k + 1 - cap) = x1 at *
  generalize (if hN key k + 2 < cap then hN key k + 2 else hN key k + 2 - cap) = x2 at *
  generalize (if hN key k + 3 < cap then hN key k + 3 else hN key k + 3 - cap) = x3 at *
  match ps, hp with
  | [], _ => cases p0
  | [a], _ => simp only [List.mem_cons, List.not_mem_nil, or_false] at p0 p1 p2 p3; omega
  | [a, b], _ => simp only [List.mem_cons, List.not_mem_nil, or_false] at p0 p1 p2 p3; omega
  | [a, b, c], _ => simp only [List.mem_cons, List.not_mem_nil, or_false] at p0 p1 p2 p3; omega
def Inv (cap : Nat) (k : Int32) (ks zs : List Int64) (M : Int64 → Int64) (ps : List Nat) : Prop :=
  ks.length = cap ∧ zs.length = cap ∧ (∀ (j : Nat) (kk : Int64), ks[j]? = some kk → kk ≠ -1 → j ∈ ps ∧ ∃ n, Rch cap k ks kk n j) ∧ (∀ j : Nat, ks[j]? = some (-1) → zs[j]? = some 0) ∧
  ∀ q : Int64, q ≠ -1 → (∀ j : Nat, ks[j]? = some q → zs[j]? = some (M q)) ∧ ((∀ j : Nat, ks[j]? ≠ some q) → M q = 0)
def upd (M : Int64 → Int64) (key am : Int64) : Int64 → Int64 := fun q => M q + (if q = key then am else 0)
theorem inv0 (cap : Nat) (k : Int32) : Inv cap k (List.replicate cap (-1)) (List.replicate cap 0) (fun _ => 0) [] := by
  have rp : ∀ (a b : Int64) (j : Nat), (List.replicate cap a)[j]? = some b → b = a ∧ j < cap := fun a b j h => by
    rw [List.getElem?_replicate] at h
    split at h
    · rename_i q; exact ⟨(Option.some.inj h).symm, q⟩
    · cases h
  refine ⟨by simp, by simp, fun j kk h h1 => absurd (rp _ _ _ h).1 h1, fun j h => ?_, fun q hq => ⟨fun j h => absurd (rp _ _ _ h).1 hq, fun _ => rfl⟩⟩
  rw [List.getElem?_replicate, if_pos (rp _ _ _ h).2]
theorem add_inv {cap : Nat} {k : Int32} {ks zs : List Int64} {M : Int64 → Int64} {ps : List Nat} (I : Inv cap k ks zs M ps) {key k0 z : Int64} (am : Int64) (hk : key ≠ -1) {n i : Nat} (R : Rch cap k ks key n i) (h0 : ks[i]? = some k0) (hz : zs[i]? = some z) :
    z = M key ∧ Inv cap k (ks.set i key) (zs.set i (z + am)) (upd M key am) (i :: ps) := by
  obtain ⟨l1, l2, s1, s2, s3⟩ := I
  have hi : i < ks.length := (List.getElem?_eq_some_iff.mp h0).1
  have hiz : i < zs.length := by omega
  have hk0 : k0 = -1 ∨ k0 = key := by
    obtain ⟨-, ⟨kk, e1, e2⟩, -⟩ := R
    rw [h0] at e1; cases e1; exact e2
  have only : ∀ j : Nat, ks[j]? = some key → j = i := fun j h => by
    obtain ⟨-, n', R'⟩ := s1 j key h hk
    exact R'.uniq R
  have zM : z = M key := by
    rcases hk0 with q | q
    · rw [q] at h0
      have := s2 i h0
      rw [hz] at this
      rw [Option.some.inj this]
      refine ((s3 key hk).2 fun j h => ?_).symm
      have := only j h
      rw [this, h0] at h
      exact hk (Option.some.inj h).symm
    · rw [q] at h0
      have := (s3 key hk).1 i h0
      rw [hz] at this
      exact Option.some.inj this
  have at' : ∀ (j : Nat) (v : Int64), (ks.set i key)[j]? = some v → (j = i ∧ v = key) ∨ (j ≠ i ∧ ks[j]? = some v) := fun j v h => by
    by_cases e : j = i
    · rw [e, List.getElem?_set_self hi] at h
      exact Or.inl ⟨e, (Option.some.inj h).symm⟩
    · rw [List.getElem?_set_ne (Ne.symm e)] at h
      exact Or.inr ⟨e, h⟩
  refine ⟨zM, by simp [l1], by simp [l2], fun j kk h h1 => ?_, fun j h => ?_, fun q hq => ⟨fun j h => ?_, fun h => ?_⟩⟩
  · rcases at' j kk h with ⟨rfl, rfl⟩ | ⟨e, h'⟩
    · exact ⟨List.mem_cons_self .., n, rch_set h0 hk0 h1 R (Or.inr ⟨rfl, rfl⟩)⟩
    · obtain ⟨m1, n', R'⟩ := s1 j kk h' h1
      exact ⟨List.mem_cons_of_mem _ m1, n', rch_set h0 hk0 h1 R' (Or.inl h')⟩
  · rcases at' j _ h with ⟨-, e⟩ | ⟨e, h'⟩
    · exact absurd e.symm hk
    · rw [List.getElem?_set_ne (Ne.symm e)]; exact s2 j h'
  · unfold upd
    rcases at' j q h with ⟨rfl, rfl⟩ | ⟨e, h'⟩
    · rw [List.getElem?_set_self hiz, if_pos rfl, zM]
    · have hne : q ≠ key := fun e' => e (only j (e' ▸ h'))
      rw [List.getElem?_set_ne (Ne.symm e), if_neg hne, (s3 q hq).1 j h', Int64.add_zero]
  · unfold upd
    have hne : q ≠ key := fun e' => h i (by rw [List.getElem?_set_self hi, e'])
    rw [if_neg hne, Int64.add_zero]
    refine (s3 q hq).2 fun j h' => h j ?_
    by_cases e : j = i
    · exfalso
      rw [e, h0] at h'
      cases h'
      exact hk0.elim hq hne
    · rw [List.getElem?_set_ne (Ne.symm e)]; exact h'
theorem get_inv {cap : Nat} {k : Int32} {ks zs : List Int64} {M : Int64 → Int64} {ps : List Nat} (I : Inv cap k ks zs M ps) {key k0 : Int64} (hk : key ≠ -1) {n i : Nat} (R : Rch cap k ks key n i) (h0 : ks[i]? = some k0) :
    (k0 = -1 → M key = 0) ∧ (k0 ≠ -1 → zs[i]? = some (M key)) := by
  obtain ⟨l1, l2, s1, s2, s3⟩ := I
  have hk0 : k0 = -1 ∨ k0 = key := by
    obtain ⟨-, ⟨kk, e1, e2⟩, -⟩ := R
    rw [h0] at e1; cases e1; exact e2
  refine ⟨fun q => (s3 key hk).2 fun j h => ?_, fun q => (s3 key hk).1 i (by rw [h0, hk0.resolve_left q])⟩
  obtain ⟨-, n', R'⟩ := s1 j key h hk
  rw [R'.uniq R, h0, q] at h
  exact hk (Option.some.inj h).symm
theorem inv_at {cap : Nat} {k : Int32} {ks zs : List Int64} {M : Int64 → Int64} {ps : List Nat} (hC : CP cap k) (I : Inv cap k ks zs M ps) (hp : ps.length ≤ 3) (key : Int64) : ∃ (n i : Nat) (k0 z : Int64), Rch cap k ks key n i ∧ ks[i]? = some k0 ∧ zs[i]? = some z ∧ i < 2048 := by
  obtain ⟨n, i, R⟩ := rch_ex hC I.1 key ps hp (fun j kk h h1 => (I.2.2.1 j kk h h1).1)
  obtain ⟨kk, e1, -⟩ := R.2.1
  have hi : i < ks.length := (List.getElem?_eq_some_iff.mp e1).1
  have := hC.le
  have l1 := I.1
  have l2 := I.2.1
  exact ⟨n, i, kk, _, R, e1, List.getElem?_eq_getElem (by omega), by omega⟩
theorem Rch.or {cap : Nat} {k : Int32} {ks : List Int64} {key k0 : Int64} {n i : Nat} (R : Rch cap k ks key n i) (h0 : ks[i]? = some k0) : k0 = -1 ∨ k0 = key := by
  obtain ⟨-, ⟨kk, e1, e2⟩, -⟩ := R
  rw [h0] at e1; cases e1; exact e2
theorem mapL {ks : List Int64} {i : Nat} {k0 : Int64} (h : ks[i]? = some k0) : (ks.map Value.long)[i]? = some (.long k0) := by rw [List.getElem?_map, h]; rfl
theorem mapD {zs : List Int64} {i : Nat} {z : Int64} (h : zs[i]? = some z) : (zs.map dV)[i]? = some (.double (FP.l2d z)) := by rw [List.getElem?_map, h]; rfl
theorem set_same {ks : List Int64} {i : Nat} {key : Int64} (h : ks[i]? = some key) : ks.set i key = ks := by
  apply List.ext_getElem?
  intro j
  by_cases e : i = j
  · rw [← e, List.getElem?_set_self (List.getElem?_eq_some_iff.mp h).1, h]
  · rw [List.getElem?_set_ne e]
theorem cl_i {i : Nat} (h : i < 2048) : ¬ Int32.ofNat i < 0 ∧ (Int32.ofNat i).toNatClampNeg = i := ⟨Int32.ofNat_not_neg (by omega), Jvm.Free.XT.n32 (by omega)⟩
theorem small {cap : Nat} {k : Int32} (hC : CP cap k) {n : Int32} (h0 : 0 ≤ n.toInt) (h3 : n.toInt ≤ 3) : ¬ (0 : Int32) < lcmpW ((4 : Int64) * n.toInt64) ((3 : Int64) * (Int32.ofNat cap).toInt64) := fun q => by
  have h := (lw_gt _ _).mp q
  rw [Int64.lt_iff_toInt_lt] at h
  have a := c_lmul (4 : Int64) n.toInt64
  have b := c_lmul (3 : Int64) (Int32.ofNat cap).toInt64
  have hc := hC.le
  rw [c_i2l, show (4 : Int64).toInt = 4 from rfl] at a
  rw [c_i2l, show (3 : Int64).toInt = 3 from rfl, Int32.toInt_ofNat_small (by omega)] at b
  have r1 := rng64 ((4 : Int64) * n.toInt64)
  have r2 := rng64 ((3 : Int64) * (Int32.ofNat cap).toInt64)
  have s1 : ((4 : Int64) * n.toInt64).toInt = 4 * n.toInt := by omega
  have s2 : ((3 : Int64) * (Int32.ofNat cap).toInt64).toInt = 3 * (cap : Int) := by omega
  omega
theorem big {e : Int32} (h0 : 0 ≤ e.toInt) (h3 : e.toInt < 1024) : ¬ (0 : Int32) < lcmpW ((4 : Int64) * e.toInt64) ((3 : Int64) * (2048 : Int32).toInt64) := fun q => by
  have h := (lw_gt _ _).mp q
  rw [Int64.lt_iff_toInt_lt] at h
  have a := c_lmul (4 : Int64) e.toInt64
  rw [c_i2l, show (4 : Int64).toInt = 4 from rfl] at a
  have r1 := rng64 ((4 : Int64) * e.toInt64)
  have r2 : ((3 : Int64) * (2048 : Int32).toInt64).toInt = 6144 := rfl
  have s1 : ((4 : Int64) * e.toInt64).toInt = 4 * e.toInt := by omega
  omega
/-! the law's own numbers -/
def frI (x : Int64) (u : Int32) : Int32 := ((x &&& (2147483647 : Int64)) - ((x &&& (2147483647 : Int64)) / u.toInt64) * u.toInt64).toInt32
def toI (x : Int64) (u : Int32) : Int32 := frI ((x.toUInt64 >>> ((32 : Int32) &&& 0x3f).toInt64.toUInt64).toInt64) u
theorem fr_r (x : Int64) {u : Int32} (hu : 1 ≤ u.toInt) : 0 ≤ (frI x u).toInt ∧ (frI x u).toInt < u.toInt := by
  unfold frI
  have a := c_maskL x 2147483647 31 (by decide) rfl
  simp only [Nat.reducePow, Int.cast_ofNat_Int] at a
  have b := (c_lrem (x &&& (2147483647 : Int64)) u.toInt64 u.toInt (c_i2l u)).1 (by omega)
  generalize (x &&& (2147483647 : Int64)) - ((x &&& (2147483647 : Int64)) / u.toInt64) * u.toInt64 = y at b ⊢
  have c := c_l2i y
  have d := rng32 y.toInt32
  have e := rng32 u
  have f1 := Int.emod_nonneg (x &&& (2147483647 : Int64)).toInt (show u.toInt ≠ 0 by omega)
  have f2 := Int.emod_lt_of_pos (x &&& (2147483647 : Int64)).toInt (show 0 < u.toInt by omega)
  omega
def ky (f t u : Int32) : Int64 := f.toInt64 * u.toInt64 + t.toInt64
theorem ky_i {f t u : Int32} (hu : 1 ≤ u.toInt) (hf : 0 ≤ f.toInt ∧ f.toInt < u.toInt) (ht : 0 ≤ t.toInt ∧ t.toInt < u.toInt) : (ky f t u).toInt = f.toInt * u.toInt + t.toInt ∧ 0 ≤ f.toInt * u.toInt := by
  unfold ky
  have a := c_lmul f.toInt64 u.toInt64
  have b := c_ladd (f.toInt64 * u.toInt64) t.toInt64
  rw [c_i2l, c_i2l] at a
  rw [c_i2l] at b
  have r1 := rng64 (f.toInt64 * u.toInt64)
  have r2 := rng64 (f.toInt64 * u.toInt64 + t.toInt64)
  have e := rng32 u
  have m0 : 0 ≤ f.toInt * u.toInt := Int.mul_nonneg hf.1 (by omega)
  have m1 : f.toInt * u.toInt ≤ 2147483647 * 2147483647 := Int.mul_le_mul (by omega) (by omega) (by omega) (by decide)
  generalize f.toInt * u.toInt = w at *
  omega
theorem ky_ne {f t u : Int32} (hu : 1 ≤ u.toInt) (hf : 0 ≤ f.toInt ∧ f.toInt < u.toInt) (ht : 0 ≤ t.toInt ∧ t.toInt < u.toInt) : ky f t u ≠ -1 := fun e => by
  have a := ky_i hu hf ht
  rw [e, show (-1 : Int64).toInt = -1 from rfl] at a
  omega
theorem ky_inj {f t f' t' u : Int32} (hu : 1 ≤ u.toInt) (hf : 0 ≤ f.toInt ∧ f.toInt < u.toInt) (ht : 0 ≤ t.toInt ∧ t.toInt < u.toInt) (hf' : 0 ≤ f'.toInt ∧ f'.toInt < u.toInt) (ht' : 0 ≤ t'.toInt ∧ t'.toInt < u.toInt) (e : ky f t u = ky f' t' u) : f = f' ∧ t = t' := by
  have a := (ky_i hu hf ht).1
  have b := (ky_i hu hf' ht').1
  rw [e, b] at a
  have m : t.toInt = t'.toInt := by
    have h1 : (f.toInt * u.toInt + t.toInt) % u.toInt = t.toInt := by rw [Int.add_comm, Int.add_mul_emod_self_right]; exact Int.emod_eq_of_lt ht.1 ht.2
    have h2 : (f'.toInt * u.toInt + t'.toInt) % u.toInt = t'.toInt := by rw [Int.add_comm, Int.add_mul_emod_self_right]; exact Int.emod_eq_of_lt ht'.1 ht'.2
    rw [← h1, ← h2, a]
  have q : f.toInt * u.toInt = f'.toInt * u.toInt := by omega
  exact ⟨Int32.toInt_inj.mp (Int.eq_of_mul_eq_mul_right (show u.toInt ≠ 0 by omega) q), Int32.toInt_inj.mp m⟩
theorem e_r (x : Int32) : 0 ≤ (x &&& (1023 : Int32)).toInt ∧ (x &&& (1023 : Int32)).toInt < 1024 := by
  have a := c_mask x 1023 10 (by decide) rfl
  simp only [Nat.reducePow, Int.cast_ofNat_Int] at a
  omega
abbrev Eqv (b : Int32) (x y : Int64) : Prop := (b = 1 ∧ x = y) ∨ (b = 0 ∧ ¬ x = y)
def tr (b c : Int32) : Int32 := if b = 0 then 0 else c
def M3 (k1 k2 k3 : Int64) : Int64 → Int64 := upd (upd (upd (fun _ => 0) k1 1) k2 2) k3 4
theorem M3_at (k1 k2 k3 q : Int64) : M3 k1 k2 k3 q = 0 + (if q = k1 then 1 else 0) + (if q = k2 then 2 else 0) + (if q = k3 then 4 else 0) := rfl
theorem ite_eqv {b : Int32} {x y : Int64} (h : Eqv b x y) (c : Int64) (d : Int32) (hd : d.toInt64 = c) : (if x = y then c else 0) = (tr b d).toInt64 := by
  rcases h with ⟨rfl, e⟩ | ⟨rfl, e⟩
  · rw [if_pos e]; exact hd.symm
  · rw [if_neg e]; rfl
theorem Eqv.symm {b : Int32} {x y : Int64} (h : Eqv b x y) : Eqv b y x := h.imp (fun q => ⟨q.1, q.2.symm⟩) fun q => ⟨q.1, fun e => q.2 e.symm⟩
theorem tr2 (b c : Int32) (hb : b = 1 ∨ b = 0) : tr b c = 0 ∨ tr b c = c := by
  rcases hb with rfl | rfl
  · exact Or.inr rfl
  · exact Or.inl rfl
theorem Eqv.b {b : Int32} {x y : Int64} (h : Eqv b x y) : b = 1 ∨ b = 0 := h.imp (fun q => q.1) fun q => q.1
theorem fM1 {k1 k2 k3 : Int64} {a b : Int32} (ha : Eqv a k1 k2) (hb : Eqv b k1 k3) : M3 k1 k2 k3 k1 = ((1 : Int32) + tr a 2 + tr b 4).toInt64 := by
  rw [M3_at, if_pos rfl, ite_eqv ha 2 2 rfl, ite_eqv hb 4 4 rfl]
  rcases tr2 a 2 ha.b with e | e <;> rcases tr2 b 4 hb.b with e' | e' <;> rw [e, e'] <;> decide
theorem fM2 {k1 k2 k3 : Int64} {a b : Int32} (ha : Eqv a k1 k2) (hb : Eqv b k2 k3) : M3 k1 k2 k3 k2 = ((2 : Int32) + tr a 1 + tr b 4).toInt64 := by
  rw [M3_at, ite_eqv ha.symm 1 1 rfl, if_pos rfl, ite_eqv hb 4 4 rfl]
  rcases tr2 a 1 ha.b with e | e <;> rcases tr2 b 4 hb.b with e' | e' <;> rw [e, e'] <;> decide
theorem fM3 {k1 k2 k3 : Int64} {a b : Int32} (ha : Eqv a k1 k3) (hb : Eqv b k2 k3) : M3 k1 k2 k3 k3 = ((4 : Int32) + tr a 1 + tr b 2).toInt64 := by
  rw [M3_at, ite_eqv ha.symm 1 1 rfl, ite_eqv hb.symm 2 2 rfl, if_pos rfl]
  rcases tr2 a 1 ha.b with e | e <;> rcases tr2 b 2 hb.b with e' | e' <;> rw [e, e'] <;> decide
theorem fM4 {k1 k2 k3 q : Int64} {a b c : Int32} (ha : Eqv a k1 q) (hb : Eqv b k2 q) (hc : Eqv c k3 q) : M3 k1 k2 k3 q = (tr a 1 + tr b 2 + tr c 4).toInt64 := by
  rw [M3_at, ite_eqv ha.symm 1 1 rfl, ite_eqv hb.symm 2 2 rfl, ite_eqv hc.symm 4 4 rfl]
  rcases tr2 a 1 ha.b with e | e <;> rcases tr2 b 2 hb.b with e' | e' <;> rcases tr2 c 4 hc.b with e'' | e'' <;> rw [e, e', e''] <;> decide
theorem b53_0 (k : Int64) : Jvm.RoadKit.B53 ((fun _ => 0 : Int64 → Int64) k) := by
  show Jvm.RoadKit.B53 (0 : Int64)
  exact ⟨by decide, by decide⟩
theorem b53_1 (k1 q : Int64) : Jvm.RoadKit.B53 (upd (fun _ => 0) k1 1 q) := by
  show Jvm.RoadKit.B53 (0 + (if q = k1 then 1 else 0))
  split <;> exact ⟨by decide, by decide⟩
theorem b53_2 (k1 k2 q : Int64) : Jvm.RoadKit.B53 (upd (upd (fun _ => 0) k1 1) k2 2 q) := by
  show Jvm.RoadKit.B53 (0 + (if q = k1 then 1 else 0) + (if q = k2 then 2 else 0))
  split <;> split <;> exact ⟨by decide, by decide⟩
theorem size1 {n n' : Int32} {a : Int} (h0 : 0 ≤ n.toInt) (h : n.toInt ≤ a) (ha : a < 10) (hn : n' = n ∨ n' = n + 1) : 0 ≤ n'.toInt ∧ n'.toInt ≤ a + 1 := by
  have b := c_iadd n 1
  have r := rng32 (n + 1)
  have o : (1 : Int32).toInt = 1 := rfl
  rcases hn with rfl | rfl <;> omega

theorem ef_mx (x y : Int32) (m : MethodId) : entryFrame m #[(.int x), (.int y)] 2 = mkF m 0 #[.val (.int x), .val (.int y)] [] := by first | (simp [entryFrame, mkF, argsToLocals, Value.category]; done) | rfl
abbrev D1 : DD := (⟨"java/lang/Math", "max", "(II)I"⟩, jdk_29_method_65_code, 2, (some .int), { frames := 0, cells := 0, slots := 0, locals := 0 })
theorem k_mx {g : GG} (W : GW g) (x y : Int32) (H : List Ent) (Lt : List SE) : Ct g D1 #[.int x, .int y] H Lt (fun v vm h => v = some (.int (mxI x y)) ∧ Hp g vm h H Lt) := by
  refine CtW.body W (Jvm.Free.JP.mathPlain rfl (by decide +kernel)) (ef_mx x y) ?_
  intro M T B
  refine p_iloadN B d1_0 (pc' := 1) rfl rfl ?_
  refine p_iloadN B d1_1 (pc' := 2) rfl rfl ?_
  by_cases hx : x < y
  · refine b_icT B d1_2 (pc' := 9) hx (by decide) (by decide) ?_
    refine p_iloadN B d1_9 (pc' := 10) rfl rfl ?_
    exact r_reti B d1_10 rfl (by simp) rfl (by decide) (by decide) (fun vm h P => ⟨by rw [mxT hx], P⟩)
  · refine b_icF B d1_2 (pc' := 5) rfl hx ?_
    refine p_iloadN B d1_5 (pc' := 6) rfl rfl ?_
    refine b_goto B d1_6 (pc' := 10) (by decide) (by decide) ?_
    exact r_reti B d1_10 rfl (by simp) rfl (by decide) (by decide) (fun vm h P => ⟨by rw [mxF hx], P⟩)
theorem ef_fr (x : Int64) (u : Int32) (m : MethodId) : entryFrame m #[(.long x), (.int u)] 3 = mkF m 0 #[.val (.long x), .second, .val (.int u)] [] := by first | (simp [entryFrame, mkF, argsToLocals, Value.category]; done) | rfl
abbrev D2 : DD := (⟨"com/example/keys_to_peers/keystopeers/placement/LeaveFlowsGetPinLaw", "from", "(JI)I"⟩, method_3_code, 3, (some .int), { frames := 0, cells := 0, slots := 0, locals := 0 })
theorem k_fr {g : GG} (W : GW g) (x : Int64) (u : Int32) (hu : u.toInt64 ≠ 0) (H : List Ent) (Lt : List SE) : Ct g D2 #[.long x, .int u] H Lt (fun v vm h => v = some (.int (frI x u)) ∧ Hp g vm h H Lt) := by
  refine CtW.body W (by decide +kernel) (ef_fr x u) ?_
  intro M T B
  refine p_lloadN B d2_0 (pc' := 1) rfl rfl ?_
  refine r_ldcJ B d2_1 (pc' := 4) rfl (W9 B.gw) ?_
  refine p_land B d2_4 (pc' := 5) rfl ?_
  refine p_iloadN B d2_5 (pc' := 6) rfl rfl ?_
  refine p_i2l B d2_6 (pc' := 7) rfl ?_
  refine p_lrem B d2_7 (pc' := 8) rfl hu ?_
  refine p_l2i B d2_8 (pc' := 9) rfl ?_
  exact r_reti B d2_9 rfl (by simp) rfl (by decide) (by decide) (fun vm h P => ⟨rfl, P⟩)
theorem ef_to (x : Int64) (u : Int32) (m : MethodId) : entryFrame m #[(.long x), (.int u)] 3 = mkF m 0 #[.val (.long x), .second, .val (.int u)] [] := by first | (simp [entryFrame, mkF, argsToLocals, Value.category]; done) | rfl
abbrev D3 : DD := (⟨"com/example/keys_to_peers/keystopeers/placement/LeaveFlowsGetPinLaw", "to", "(JI)I"⟩, method_4_code, 3, (some .int), { frames := 0, cells := 0, slots := 0, locals := 0 })
theorem k_to {g : GG} (W : GW g) (x : Int64) (u : Int32) (hu : u.toInt64 ≠ 0) (H : List Ent) (Lt : List SE) : Ct g D3 #[.long x, .int u] H Lt (fun v vm h => v = some (.int (toI x u)) ∧ Hp g vm h H Lt) := by
  refine CtW.body W (by decide +kernel) (ef_to x u) ?_
  intro M T B
  refine p_lloadN B d3_0 (pc' := 1) rfl rfl ?_
  refine p_bipush B d3_1 (pc' := 3) rfl (v := (32 : Int32)) (by decide) ?_
  refine p_lushr B d3_3 (pc' := 4) rfl ?_
  refine r_ldcJ B d3_4 (pc' := 7) rfl (W9 B.gw) ?_
  refine p_land B d3_7 (pc' := 8) rfl ?_
  refine p_iloadN B d3_8 (pc' := 9) rfl rfl ?_
  refine p_i2l B d3_9 (pc' := 10) rfl ?_
  refine p_lrem B d3_10 (pc' := 11) rfl hu ?_
  refine p_l2i B d3_11 (pc' := 12) rfl ?_
  exact r_reti B d3_12 rfl (by simp) rfl (by decide) (by decide) (fun vm h P => ⟨rfl, P⟩)
theorem ef_nz16  (m : MethodId) : entryFrame m #[(.int (16 : Int32))] 2 = mkF m 0 #[.val (.int (16 : Int32)), .unset] [] := by first | (simp [entryFrame, mkF, argsToLocals, Value.category]; done) | rfl
theorem ef_nz32  (m : MethodId) : entryFrame m #[(.int (32 : Int32))] 2 = mkF m 0 #[.val (.int (32 : Int32)), .unset] [] := by first | (simp [entryFrame, mkF, argsToLocals, Value.category]; done) | rfl
theorem ef_nz64  (m : MethodId) : entryFrame m #[(.int (64 : Int32))] 2 = mkF m 0 #[.val (.int (64 : Int32)), .unset] [] := by first | (simp [entryFrame, mkF, argsToLocals, Value.category]; done) | rfl
theorem ef_nz128  (m : MethodId) : entryFrame m #[(.int (128 : Int32))] 2 = mkF m 0 #[.val (.int (128 : Int32)), .unset] [] := by first | (simp [entryFrame, mkF, argsToLocals, Value.category]; done) | rfl
theorem ef_nz256  (m : MethodId) : entryFrame m #[(.int (256 : Int32))] 2 = mkF m 0 #[.val (.int (256 : Int32)), .unset] [] := by first | (simp [entryFrame, mkF, argsToLocals, Value.category]; done) | rfl
theorem ef_nz512  (m : MethodId) : entryFrame m #[(.int (512 : Int32))] 2 = mkF m 0 #[.val (.int (512 : Int32)), .unset] [] := by first | (simp [entryFrame, mkF, argsToLocals, Value.category]; done) | rfl
theorem ef_nz1024  (m : MethodId) : entryFrame m #[(.int (1024 : Int32))] 2 = mkF m 0 #[.val (.int (1024 : Int32)), .unset] [] := by first | (simp [entryFrame, mkF, argsToLocals, Value.category]; done) | rfl
theorem ef_nz2048  (m : MethodId) : entryFrame m #[(.int (2048 : Int32))] 2 = mkF m 0 #[.val (.int (2048 : Int32)), .unset] [] := by first | (simp [entryFrame, mkF, argsToLocals, Value.category]; done) | rfl
abbrev D9 : DD := (⟨"java/lang/Integer", "numberOfTrailingZeros", "(I)I"⟩, jdk_33_method_48_code, 2, (some .int), { frames := 0, cells := 0, slots := 0, locals := 0 })
theorem k_nz16 {g : GG} (W : GW g) (H : List Ent) (Lt : List SE) : Ct g D9 #[.int (16 : Int32)] H Lt (fun v vm h => v = some (.int (4 : Int32)) ∧ Hp g vm h H Lt) := by
  refine CtW.body W (by decide +kernel) ef_nz16 ?_
  intro M T B
  refine p_iloadN B d9_0 (pc' := 1) rfl rfl ?_
  refine p_iconst B d9_1 (pc' := 2) rfl (v := (-1 : Int32)) (by decide) ?_
  refine p_ixor B d9_2 (pc' := 3) rfl (z := (-17 : Int32)) (by decide) ?_
  refine p_iloadN B d9_3 (pc' := 4) rfl rfl ?_
  refine p_iconst B d9_4 (pc' := 5) rfl (v := (1 : Int32)) (by decide) ?_
  refine p_isub B d9_5 (pc' := 6) rfl (z := (15 : Int32)) (by decide) ?_
  refine p_iand B d9_6 (pc' := 7) rfl (z := (15 : Int32)) (by decide) ?_
  refine p_istoreN B d9_7 (pc' := 8) rfl (Ls' := #[.val (.int (15 : Int32)), .unset]) rfl ?_
  refine p_iloadN B d9_8 (pc' := 9) rfl rfl ?_
  refine b_ifT B d9_9 (pc' := 17) (show (0 : Int32) < (15 : Int32) from by decide) (by decide) (by decide) ?_
  refine p_iconst B d9_17 (pc' := 18) rfl (v := (1 : Int32)) (by decide) ?_
  refine p_istoreN B d9_18 (pc' := 19) rfl (Ls' := #[.val (.int (15 : Int32)), .val (.int (1 : Int32))]) rfl ?_
  refine p_iloadN B d9_19 (pc' := 20) rfl rfl ?_
  refine r_ldcwI B d9_20 (pc' := 23) rfl (W50 B.gw) ?_
  refine b_icT B d9_23 (pc' := 34) (show ¬ (65536 : Int32) < (15 : Int32) from by decide) (by decide) (by decide) ?_
  refine p_iloadN B d9_34 (pc' := 35) rfl rfl ?_
  refine p_sipush B d9_35 (pc' := 38) rfl (v := (256 : Int32)) (by decide) ?_
  refine b_icT B d9_38 (pc' := 49) (show ¬ (256 : Int32) < (15 : Int32) from by decide) (by decide) (by decide) ?_
  refine p_iloadN B d9_49 (pc' := 50) rfl rfl ?_
  refine p_bipush B d9_50 (pc' := 52) rfl (v := (16 : Int32)) (by decide) ?_
  refine b_icT B d9_52 (pc' := 62) (show ¬ (16 : Int32) < (15 : Int32) from by decide) (by decide) (by decide) ?_
  refine p_iloadN B d9_62 (pc' := 63) rfl rfl ?_
  refine p_iconst B d9_63 (pc' := 64) rfl (v := (4 : Int32)) (by decide) ?_
  refine b_icF B d9_64 (pc' := 67) rfl (show (4 : Int32) < (15 : Int32) from by decide) ?_
  refine p_iinc B d9_67 (pc' := 70) rfl (v := (2 : Int32)) (by decide) rfl (z := (3 : Int32)) (by decide) (Ls' := #[.val (.int (15 : Int32)), .val (.int (3 : Int32))]) rfl ?_
  refine p_iloadN B d9_70 (pc' := 71) rfl rfl ?_
  refine p_iconst B d9_71 (pc' := 72) rfl (v := (2 : Int32)) (by decide) ?_
  refine p_iushr B d9_72 (pc' := 73) rfl (z := (3 : Int32)) (by decide) ?_
  refine p_istoreN B d9_73 (pc' := 74) rfl (Ls' := #[.val (.int (3 : Int32)), .val (.int (3 : Int32))]) rfl ?_
  refine p_iloadN B d9_74 (pc' := 75) rfl rfl ?_
  refine p_iloadN B d9_75 (pc' := 76) rfl rfl ?_
  refine p_iconst B d9_76 (pc' := 77) rfl (v := (1 : Int32)) (by decide) ?_
  refine p_iushr B d9_77 (pc' := 78) rfl (z := (1 : Int32)) (by decide) ?_
  refine p_iadd B d9_78 (pc' := 79) rfl (z := (4 : Int32)) (by decide) ?_
  exact r_reti B d9_79 rfl (by simp) rfl (by decide) (by decide) (fun vm h P => ⟨rfl, P⟩)
theorem k_nz32 {g : GG} (W : GW g) (H : List Ent) (Lt : List SE) : Ct g D9 #[.int (32 : Int32)] H Lt (fun v vm h => v = some (.int (5 : Int32)) ∧ Hp g vm h H Lt) := by
  refine CtW.body W (by decide +kernel) ef_nz32 ?_
  intro M T B
  refine p_iloadN B d9_0 (pc' := 1) rfl rfl ?_
  refine p_iconst B d9_1 (pc' := 2) rfl (v := (-1 : Int32)) (by decide) ?_
  refine p_ixor B d9_2 (pc' := 3) rfl (z := (-33 : Int32)) (by decide) ?_
  refine p_iloadN B d9_3 (pc' := 4) rfl rfl ?_
  refine p_iconst B d9_4 (pc' := 5) rfl (v := (1 : Int32)) (by decide) ?_
  refine p_isub B d9_5 (pc' := 6) rfl (z := (31 : Int32)) (by decide) ?_
  refine p_iand B d9_6 (pc' := 7) rfl (z := (31 : Int32)) (by decide) ?_
  refine p_istoreN B d9_7 (pc' := 8) rfl (Ls' := #[.val (.int (31 : Int32)), .unset]) rfl ?_
  refine p_iloadN B d9_8 (pc' := 9) rfl rfl ?_
  refine b_ifT B d9_9 (pc' := 17) (show (0 : Int32) < (31 : Int32) from by decide) (by decide) (by decide) ?_
  refine p_iconst B d9_17 (pc' := 18) rfl (v := (1 : Int32)) (by decide) ?_
  refine p_istoreN B d9_18 (pc' := 19) rfl (Ls' := #[.val (.int (31 : Int32)), .val (.int (1 : Int32))]) rfl ?_
  refine p_iloadN B d9_19 (pc' := 20) rfl rfl ?_
  refine r_ldcwI B d9_20 (pc' := 23) rfl (W50 B.gw) ?_
  refine b_icT B d9_23 (pc' := 34) (show ¬ (65536 : Int32) < (31 : Int32) from by decide) (by decide) (by decide) ?_
  refine p_iloadN B d9_34 (pc' := 35) rfl rfl ?_
  refine p_sipush B d9_35 (pc' := 38) rfl (v := (256 : Int32)) (by decide) ?_
  refine b_icT B d9_38 (pc' := 49) (show ¬ (256 : Int32) < (31 : Int32) from by decide) (by decide) (by decide) ?_
  refine p_iloadN B d9_49 (pc' := 50) rfl rfl ?_
  refine p_bipush B d9_50 (pc' := 52) rfl (v := (16 : Int32)) (by decide) ?_
  refine b_icF B d9_52 (pc' := 55) rfl (show (16 : Int32) < (31 : Int32) from by decide) ?_
  refine p_iinc B d9_55 (pc' := 58) rfl (v := (4 : Int32)) (by decide) rfl (z := (5 : Int32)) (by decide) (Ls' := #[.val (.int (31 : Int32)), .val (.int (5 : Int32))]) rfl ?_
  refine p_iloadN B d9_58 (pc' := 59) rfl rfl ?_
  refine p_iconst B d9_59 (pc' := 60) rfl (v := (4 : Int32)) (by decide) ?_
  refine p_iushr B d9_60 (pc' := 61) rfl (z := (1 : Int32)) (by decide) ?_
  refine p_istoreN B d9_61 (pc' := 62) rfl (Ls' := #[.val (.int (1 : Int32)), .val (.int (5 : Int32))]) rfl ?_
  refine p_iloadN B d9_62 (pc' := 63) rfl rfl ?_
  refine p_iconst B d9_63 (pc' := 64) rfl (v := (4 : Int32)) (by decide) ?_
  refine b_icT B d9_64 (pc' := 74) (show ¬ (4 : Int32) < (1 : Int32) from by decide) (by decide) (by decide) ?_
  refine p_iloadN B d9_74 (pc' := 75) rfl rfl ?_
  refine p_iloadN B d9_75 (pc' := 76) rfl rfl ?_
  refine p_iconst B d9_76 (pc' := 77) rfl (v := (1 : Int32)) (by decide) ?_
  refine p_iushr B d9_77 (pc' := 78) rfl (z := (0 : Int32)) (by decide) ?_
  refine p_iadd B d9_78 (pc' := 79) rfl (z := (5 : Int32)) (by decide) ?_
  exact r_reti B d9_79 rfl (by simp) rfl (by decide) (by decide) (fun vm h P => ⟨rfl, P⟩)
theorem k_nz64 {g : GG} (W : GW g) (H : List Ent) (Lt : List SE) : Ct g D9 #[.int (64 : Int32)] H Lt (fun v vm h => v = some (.int (6 : Int32)) ∧ Hp g vm h H Lt) := by
  refine CtW.body W (by decide +kernel) ef_nz64 ?_
  intro M T B
  refine p_iloadN B d9_0 (pc' := 1) rfl rfl ?_
  refine p_iconst B d9_1 (pc' := 2) rfl (v := (-1 : Int32)) (by decide) ?_
  refine p_ixor B d9_2 (pc' := 3) rfl (z := (-65 : Int32)) (by decide) ?_
  refine p_iloadN B d9_3 (pc' := 4) rfl rfl ?_
  refine p_iconst B d9_4 (pc' := 5) rfl (v := (1 : Int32)) (by decide) ?_
  refine p_isub B d9_5 (pc' := 6) rfl (z := (63 : Int32)) (by decide) ?_
  refine p_iand B d9_6 (pc' := 7) rfl (z := (63 : Int32)) (by decide) ?_
  refine p_istoreN B d9_7 (pc' := 8) rfl (Ls' := #[.val (.int (63 : Int32)), .unset]) rfl ?_
  refine p_iloadN B d9_8 (pc' := 9) rfl rfl ?_
  refine b_ifT B d9_9 (pc' := 17) (show (0 : Int32) < (63 : Int32) from by decide) (by decide) (by decide) ?_
  refine p_iconst B d9_17 (pc' := 18) rfl (v := (1 : Int32)) (by decide) ?_
  refine p_istoreN B d9_18 (pc' := 19) rfl (Ls' := #[.val (.int (63 : Int32)), .val (.int (1 : Int32))]) rfl ?_
  refine p_iloadN B d9_19 (pc' := 20) rfl rfl ?_
  refine r_ldcwI B d9_20 (pc' := 23) rfl (W50 B.gw) ?_
  refine b_icT B d9_23 (pc' := 34) (show ¬ (65536 : Int32) < (63 : Int32) from by decide) (by decide) (by decide) ?_
  refine p_iloadN B d9_34 (pc' := 35) rfl rfl ?_
  refine p_sipush B d9_35 (pc' := 38) rfl (v := (256 : Int32)) (by decide) ?_
  refine b_icT B d9_38 (pc' := 49) (show ¬ (256 : Int32) < (63 : Int32) from by decide) (by decide) (by decide) ?_
  refine p_iloadN B d9_49 (pc' := 50) rfl rfl ?_
  refine p_bipush B d9_50 (pc' := 52) rfl (v := (16 : Int32)) (by decide) ?_
  refine b_icF B d9_52 (pc' := 55) rfl (show (16 : Int32) < (63 : Int32) from by decide) ?_
  refine p_iinc B d9_55 (pc' := 58) rfl (v := (4 : Int32)) (by decide) rfl (z := (5 : Int32)) (by decide) (Ls' := #[.val (.int (63 : Int32)), .val (.int (5 : Int32))]) rfl ?_
  refine p_iloadN B d9_58 (pc' := 59) rfl rfl ?_
  refine p_iconst B d9_59 (pc' := 60) rfl (v := (4 : Int32)) (by decide) ?_
  refine p_iushr B d9_60 (pc' := 61) rfl (z := (3 : Int32)) (by decide) ?_
  refine p_istoreN B d9_61 (pc' := 62) rfl (Ls' := #[.val (.int (3 : Int32)), .val (.int (5 : Int32))]) rfl ?_
  refine p_iloadN B d9_62 (pc' := 63) rfl rfl ?_
  refine p_iconst B d9_63 (pc' := 64) rfl (v := (4 : Int32)) (by decide) ?_
  refine b_icT B d9_64 (pc' := 74) (show ¬ (4 : Int32) < (3 : Int32) from by decide) (by decide) (by decide) ?_
  refine p_iloadN B d9_74 (pc' := 75) rfl rfl ?_
  refine p_iloadN B d9_75 (pc' := 76) rfl rfl ?_
  refine p_iconst B d9_76 (pc' := 77) rfl (v := (1 : Int32)) (by decide) ?_
  refine p_iushr B d9_77 (pc' := 78) rfl (z := (1 : Int32)) (by decide) ?_
  refine p_iadd B d9_78 (pc' := 79) rfl (z := (6 : Int32)) (by decide) ?_
  exact r_reti B d9_79 rfl (by simp) rfl (by decide) (by decide) (fun vm h P => ⟨rfl, P⟩)
theorem k_nz128 {g : GG} (W : GW g) (H : List Ent) (Lt : List SE) : Ct g D9 #[.int (128 : Int32)] H Lt (fun v vm h => v = some (.int (7 : Int32)) ∧ Hp g vm h H Lt) := by
  refine CtW.body W (by decide +kernel) ef_nz128 ?_
  intro M T B
  refine p_iloadN B d9_0 (pc' := 1) rfl rfl ?_
  refine p_iconst B d9_1 (pc' := 2) rfl (v := (-1 : Int32)) (by decide) ?_
  refine p_ixor B d9_2 (pc' := 3) rfl (z := (-129 : Int32)) (by decide) ?_
  refine p_iloadN B d9_3 (pc' := 4) rfl rfl ?_
  refine p_iconst B d9_4 (pc' := 5) rfl (v := (1 : Int32)) (by decide) ?_
  refine p_isub B d9_5 (pc' := 6) rfl (z := (127 : Int32)) (by decide) ?_
  refine p_iand B d9_6 (pc' := 7) rfl (z := (127 : Int32)) (by decide) ?_
  refine p_istoreN B d9_7 (pc' := 8) rfl (Ls' := #[.val (.int (127 : Int32)), .unset]) rfl ?_
  refine p_iloadN B d9_8 (pc' := 9) rfl rfl ?_
  refine b_ifT B d9_9 (pc' := 17) (show (0 : Int32) < (127 : Int32) from by decide) (by decide) (by decide) ?_
  refine p_iconst B d9_17 (pc' := 18) rfl (v := (1 : Int32)) (by decide) ?_
  refine p_istoreN B d9_18 (pc' := 19) rfl (Ls' := #[.val (.int (127 : Int32)), .val (.int (1 : Int32))]) rfl ?_
  refine p_iloadN B d9_19 (pc' := 20) rfl rfl ?_
  refine r_ldcwI B d9_20 (pc' := 23) rfl (W50 B.gw) ?_
  refine b_icT B d9_23 (pc' := 34) (show ¬ (65536 : Int32) < (127 : Int32) from by decide) (by decide) (by decide) ?_
  refine p_iloadN B d9_34 (pc' := 35) rfl rfl ?_
  refine p_sipush B d9_35 (pc' := 38) rfl (v := (256 : Int32)) (by decide) ?_
  refine b_icT B d9_38 (pc' := 49) (show ¬ (256 : Int32) < (127 : Int32) from by decide) (by decide) (by decide) ?_
  refine p_iloadN B d9_49 (pc' := 50) rfl rfl ?_
  refine p_bipush B d9_50 (pc' := 52) rfl (v := (16 : Int32)) (by decide) ?_
  refine b_icF B d9_52 (pc' := 55) rfl (show (16 : Int32) < (127 : Int32) from by decide) ?_
  refine p_iinc B d9_55 (pc' := 58) rfl (v := (4 : Int32)) (by decide) rfl (z := (5 : Int32)) (by decide) (Ls' := #[.val (.int (127 : Int32)), .val (.int (5 : Int32))]) rfl ?_
  refine p_iloadN B d9_58 (pc' := 59) rfl rfl ?_
  refine p_iconst B d9_59 (pc' := 60) rfl (v := (4 : Int32)) (by decide) ?_
  refine p_iushr B d9_60 (pc' := 61) rfl (z := (7 : Int32)) (by decide) ?_
  refine p_istoreN B d9_61 (pc' := 62) rfl (Ls' := #[.val (.int (7 : Int32)), .val (.int (5 : Int32))]) rfl ?_
  refine p_iloadN B d9_62 (pc' := 63) rfl rfl ?_
  refine p_iconst B d9_63 (pc' := 64) rfl (v := (4 : Int32)) (by decide) ?_
  refine b_icF B d9_64 (pc' := 67) rfl (show (4 : Int32) < (7 : Int32) from by decide) ?_
  refine p_iinc B d9_67 (pc' := 70) rfl (v := (2 : Int32)) (by decide) rfl (z := (7 : Int32)) (by decide) (Ls' := #[.val (.int (7 : Int32)), .val (.int (7 : Int32))]) rfl ?_
  refine p_iloadN B d9_70 (pc' := 71) rfl rfl ?_
  refine p_iconst B d9_71 (pc' := 72) rfl (v := (2 : Int32)) (by decide) ?_
  refine p_iushr B d9_72 (pc' := 73) rfl (z := (1 : Int32)) (by decide) ?_
  refine p_istoreN B d9_73 (pc' := 74) rfl (Ls' := #[.val (.int (1 : Int32)), .val (.int (7 : Int32))]) rfl ?_
  refine p_iloadN B d9_74 (pc' := 75) rfl rfl ?_
  refine p_iloadN B d9_75 (pc' := 76) rfl rfl ?_
  refine p_iconst B d9_76 (pc' := 77) rfl (v := (1 : Int32)) (by decide) ?_
  refine p_iushr B d9_77 (pc' := 78) rfl (z := (0 : Int32)) (by decide) ?_
  refine p_iadd B d9_78 (pc' := 79) rfl (z := (7 : Int32)) (by decide) ?_
  exact r_reti B d9_79 rfl (by simp) rfl (by decide) (by decide) (fun vm h P => ⟨rfl, P⟩)
theorem k_nz256 {g : GG} (W : GW g) (H : List Ent) (Lt : List SE) : Ct g D9 #[.int (256 : Int32)] H Lt (fun v vm h => v = some (.int (8 : Int32)) ∧ Hp g vm h H Lt) := by
  refine CtW.body W (by decide +kernel) ef_nz256 ?_
  intro M T B
  refine p_iloadN B d9_0 (pc' := 1) rfl rfl ?_
  refine p_iconst B d9_1 (pc' := 2) rfl (v := (-1 : Int32)) (by decide) ?_
  refine p_ixor B d9_2 (pc' := 3) rfl (z := (-257 : Int32)) (by decide) ?_
  refine p_iloadN B d9_3 (pc' := 4) rfl rfl ?_
  refine p_iconst B d9_4 (pc' := 5) rfl (v := (1 : Int32)) (by decide) ?_
  refine p_isub B d9_5 (pc' := 6) rfl (z := (255 : Int32)) (by decide) ?_
  refine p_iand B d9_6 (pc' := 7) rfl (z := (255 : Int32)) (by decide) ?_
  refine p_istoreN B d9_7 (pc' := 8) rfl (Ls' := #[.val (.int (255 : Int32)), .unset]) rfl ?_
  refine p_iloadN B d9_8 (pc' := 9) rfl rfl ?_
  refine b_ifT B d9_9 (pc' := 17) (show (0 : Int32) < (255 : Int32) from by decide) (by decide) (by decide) ?_
  refine p_iconst B d9_17 (pc' := 18) rfl (v := (1 : Int32)) (by decide) ?_
  refine p_istoreN B d9_18 (pc' := 19) rfl (Ls' := #[.val (.int (255 : Int32)), .val (.int (1 : Int32))]) rfl ?_
  refine p_iloadN B d9_19 (pc' := 20) rfl rfl ?_
  refine r_ldcwI B d9_20 (pc' := 23) rfl (W50 B.gw) ?_
  refine b_icT B d9_23 (pc' := 34) (show ¬ (65536 : Int32) < (255 : Int32) from by decide) (by decide) (by decide) ?_
  refine p_iloadN B d9_34 (pc' := 35) rfl rfl ?_
  refine p_sipush B d9_35 (pc' := 38) rfl (v := (256 : Int32)) (by decide) ?_
  refine b_icT B d9_38 (pc' := 49) (show ¬ (256 : Int32) < (255 : Int32) from by decide) (by decide) (by decide) ?_
  refine p_iloadN B d9_49 (pc' := 50) rfl rfl ?_
  refine p_bipush B d9_50 (pc' := 52) rfl (v := (16 : Int32)) (by decide) ?_
  refine b_icF B d9_52 (pc' := 55) rfl (show (16 : Int32) < (255 : Int32) from by decide) ?_
  refine p_iinc B d9_55 (pc' := 58) rfl (v := (4 : Int32)) (by decide) rfl (z := (5 : Int32)) (by decide) (Ls' := #[.val (.int (255 : Int32)), .val (.int (5 : Int32))]) rfl ?_
  refine p_iloadN B d9_58 (pc' := 59) rfl rfl ?_
  refine p_iconst B d9_59 (pc' := 60) rfl (v := (4 : Int32)) (by decide) ?_
  refine p_iushr B d9_60 (pc' := 61) rfl (z := (15 : Int32)) (by decide) ?_
  refine p_istoreN B d9_61 (pc' := 62) rfl (Ls' := #[.val (.int (15 : Int32)), .val (.int (5 : Int32))]) rfl ?_
  refine p_iloadN B d9_62 (pc' := 63) rfl rfl ?_
  refine p_iconst B d9_63 (pc' := 64) rfl (v := (4 : Int32)) (by decide) ?_
  refine b_icF B d9_64 (pc' := 67) rfl (show (4 : Int32) < (15 : Int32) from by decide) ?_
  refine p_iinc B d9_67 (pc' := 70) rfl (v := (2 : Int32)) (by decide) rfl (z := (7 : Int32)) (by decide) (Ls' := #[.val (.int (15 : Int32)), .val (.int (7 : Int32))]) rfl ?_
  refine p_iloadN B d9_70 (pc' := 71) rfl rfl ?_
  refine p_iconst B d9_71 (pc' := 72) rfl (v := (2 : Int32)) (by decide) ?_
  refine p_iushr B d9_72 (pc' := 73) rfl (z := (3 : Int32)) (by decide) ?_
  refine p_istoreN B d9_73 (pc' := 74) rfl (Ls' := #[.val (.int (3 : Int32)), .val (.int (7 : Int32))]) rfl ?_
  refine p_iloadN B d9_74 (pc' := 75) rfl rfl ?_
  refine p_iloadN B d9_75 (pc' := 76) rfl rfl ?_
  refine p_iconst B d9_76 (pc' := 77) rfl (v := (1 : Int32)) (by decide) ?_
  refine p_iushr B d9_77 (pc' := 78) rfl (z := (1 : Int32)) (by decide) ?_
  refine p_iadd B d9_78 (pc' := 79) rfl (z := (8 : Int32)) (by decide) ?_
  exact r_reti B d9_79 rfl (by simp) rfl (by decide) (by decide) (fun vm h P => ⟨rfl, P⟩)
theorem k_nz512 {g : GG} (W : GW g) (H : List Ent) (Lt : List SE) : Ct g D9 #[.int (512 : Int32)] H Lt (fun v vm h => v = some (.int (9 : Int32)) ∧ Hp g vm h H Lt) := by
  refine CtW.body W (by decide +kernel) ef_nz512 ?_
  intro M T B
  refine p_iloadN B d9_0 (pc' := 1) rfl rfl ?_
  refine p_iconst B d9_1 (pc' := 2) rfl (v := (-1 : Int32)) (by decide) ?_
  refine p_ixor B d9_2 (pc' := 3) rfl (z := (-513 : Int32)) (by decide) ?_
  refine p_iloadN B d9_3 (pc' := 4) rfl rfl ?_
  refine p_iconst B d9_4 (pc' := 5) rfl (v := (1 : Int32)) (by decide) ?_
  refine p_isub B d9_5 (pc' := 6) rfl (z := (511 : Int32)) (by decide) ?_
  refine p_iand B d9_6 (pc' := 7) rfl (z := (511 : Int32)) (by decide) ?_
  refine p_istoreN B d9_7 (pc' := 8) rfl (Ls' := #[.val (.int (511 : Int32)), .unset]) rfl ?_
  refine p_iloadN B d9_8 (pc' := 9) rfl rfl ?_
  refine b_ifT B d9_9 (pc' := 17) (show (0 : Int32) < (511 : Int32) from by decide) (by decide) (by decide) ?_
  refine p_iconst B d9_17 (pc' := 18) rfl (v := (1 : Int32)) (by decide) ?_
  refine p_istoreN B d9_18 (pc' := 19) rfl (Ls' := #[.val (.int (511 : Int32)), .val (.int (1 : Int32))]) rfl ?_
  refine p_iloadN B d9_19 (pc' := 20) rfl rfl ?_
  refine r_ldcwI B d9_20 (pc' := 23) rfl (W50 B.gw) ?_
  refine b_icT B d9_23 (pc' := 34) (show ¬ (65536 : Int32) < (511 : Int32) from by decide) (by decide) (by decide) ?_
  refine p_iloadN B d9_34 (pc' := 35) rfl rfl ?_
  refine p_sipush B d9_35 (pc' := 38) rfl (v := (256 : Int32)) (by decide) ?_
  refine b_icF B d9_38 (pc' := 41) rfl (show (256 : Int32) < (511 : Int32) from by decide) ?_
  refine p_iinc B d9_41 (pc' := 44) rfl (v := (8 : Int32)) (by decide) rfl (z := (9 : Int32)) (by decide) (Ls' := #[.val (.int (511 : Int32)), .val (.int (9 : Int32))]) rfl ?_
  refine p_iloadN B d9_44 (pc' := 45) rfl rfl ?_
  refine p_bipush B d9_45 (pc' := 47) rfl (v := (8 : Int32)) (by decide) ?_
  refine p_iushr B d9_47 (pc' := 48) rfl (z := (1 : Int32)) (by decide) ?_
  refine p_istoreN B d9_48 (pc' := 49) rfl (Ls' := #[.val (.int (1 : Int32)), .val (.int (9 : Int32))]) rfl ?_
  refine p_iloadN B d9_49 (pc' := 50) rfl rfl ?_
  refine p_bipush B d9_50 (pc' := 52) rfl (v := (16 : Int32)) (by decide) ?_
  refine b_icT B d9_52 (pc' := 62) (show ¬ (16 : Int32) < (1 : Int32) from by decide) (by decide) (by decide) ?_
  refine p_iloadN B d9_62 (pc' := 63) rfl rfl ?_
  refine p_iconst B d9_63 (pc' := 64) rfl (v := (4 : Int32)) (by decide) ?_
  refine b_icT B d9_64 (pc' := 74) (show ¬ (4 : Int32) < (1 : Int32) from by decide) (by decide) (by decide) ?_
  refine p_iloadN B d9_74 (pc' := 75) rfl rfl ?_
  refine p_iloadN B d9_75 (pc' := 76) rfl rfl ?_
  refine p_iconst B d9_76 (pc' := 77) rfl (v := (1 : Int32)) (by decide) ?_
  refine p_iushr B d9_77 (pc' := 78) rfl (z := (0 : Int32)) (by decide) ?_
  refine p_iadd B d9_78 (pc' := 79) rfl (z := (9 : Int32)) (by decide) ?_
  exact r_reti B d9_79 rfl (by simp) rfl (by decide) (by decide) (fun vm h P => ⟨rfl, P⟩)
theorem k_nz1024 {g : GG} (W : GW g) (H : List Ent) (Lt : List SE) : Ct g D9 #[.int (1024 : Int32)] H Lt (fun v vm h => v = some (.int (10 : Int32)) ∧ Hp g vm h H Lt) := by
  refine CtW.body W (by decide +kernel) ef_nz1024 ?_
  intro M T B
  refine p_iloadN B d9_0 (pc' := 1) rfl rfl ?_
  refine p_iconst B d9_1 (pc' := 2) rfl (v := (-1 : Int32)) (by decide) ?_
  refine p_ixor B d9_2 (pc' := 3) rfl (z := (-1025 : Int32)) (by decide) ?_
  refine p_iloadN B d9_3 (pc' := 4) rfl rfl ?_
  refine p_iconst B d9_4 (pc' := 5) rfl (v := (1 : Int32)) (by decide) ?_
  refine p_isub B d9_5 (pc' := 6) rfl (z := (1023 : Int32)) (by decide) ?_
  refine p_iand B d9_6 (pc' := 7) rfl (z := (1023 : Int32)) (by decide) ?_
  refine p_istoreN B d9_7 (pc' := 8) rfl (Ls' := #[.val (.int (1023 : Int32)), .unset]) rfl ?_
  refine p_iloadN B d9_8 (pc' := 9) rfl rfl ?_
  refine b_ifT B d9_9 (pc' := 17) (show (0 : Int32) < (1023 : Int32) from by decide) (by decide) (by decide) ?_
  refine p_iconst B d9_17 (pc' := 18) rfl (v := (1 : Int32)) (by decide) ?_
  refine p_istoreN B d9_18 (pc' := 19) rfl (Ls' := #[.val (.int (1023 : Int32)), .val (.int (1 : Int32))]) rfl ?_
  refine p_iloadN B d9_19 (pc' := 20) rfl rfl ?_
  refine r_ldcwI B d9_20 (pc' := 23) rfl (W50 B.gw) ?_
  refine b_icT B d9_23 (pc' := 34) (show ¬ (65536 : Int32) < (1023 : Int32) from by decide) (by decide) (by decide) ?_
  refine p_iloadN B d9_34 (pc' := 35) rfl rfl ?_
  refine p_sipush B d9_35 (pc' := 38) rfl (v := (256 : Int32)) (by decide) ?_
  refine b_icF B d9_38 (pc' := 41) rfl (show (256 : Int32) < (1023 : Int32) from by decide) ?_
  refine p_iinc B d9_41 (pc' := 44) rfl (v := (8 : Int32)) (by decide) rfl (z := (9 : Int32)) (by decide) (Ls' := #[.val (.int (1023 : Int32)), .val (.int (9 : Int32))]) rfl ?_
  refine p_iloadN B d9_44 (pc' := 45) rfl rfl ?_
  refine p_bipush B d9_45 (pc' := 47) rfl (v := (8 : Int32)) (by decide) ?_
  refine p_iushr B d9_47 (pc' := 48) rfl (z := (3 : Int32)) (by decide) ?_
  refine p_istoreN B d9_48 (pc' := 49) rfl (Ls' := #[.val (.int (3 : Int32)), .val (.int (9 : Int32))]) rfl ?_
  refine p_iloadN B d9_49 (pc' := 50) rfl rfl ?_
  refine p_bipush B d9_50 (pc' := 52) rfl (v := (16 : Int32)) (by decide) ?_
  refine b_icT B d9_52 (pc' := 62) (show ¬ (16 : Int32) < (3 : Int32) from by decide) (by decide) (by decide) ?_
  refine p_iloadN B d9_62 (pc' := 63) rfl rfl ?_
  refine p_iconst B d9_63 (pc' := 64) rfl (v := (4 : Int32)) (by decide) ?_
  refine b_icT B d9_64 (pc' := 74) (show ¬ (4 : Int32) < (3 : Int32) from by decide) (by decide) (by decide) ?_
  refine p_iloadN B d9_74 (pc' := 75) rfl rfl ?_
  refine p_iloadN B d9_75 (pc' := 76) rfl rfl ?_
  refine p_iconst B d9_76 (pc' := 77) rfl (v := (1 : Int32)) (by decide) ?_
  refine p_iushr B d9_77 (pc' := 78) rfl (z := (1 : Int32)) (by decide) ?_
  refine p_iadd B d9_78 (pc' := 79) rfl (z := (10 : Int32)) (by decide) ?_
  exact r_reti B d9_79 rfl (by simp) rfl (by decide) (by decide) (fun vm h P => ⟨rfl, P⟩)
theorem k_nz2048 {g : GG} (W : GW g) (H : List Ent) (Lt : List SE) : Ct g D9 #[.int (2048 : Int32)] H Lt (fun v vm h => v = some (.int (11 : Int32)) ∧ Hp g vm h H Lt) := by
  refine CtW.body W (by decide +kernel) ef_nz2048 ?_
  intro M T B
  refine p_iloadN B d9_0 (pc' := 1) rfl rfl ?_
  refine p_iconst B d9_1 (pc' := 2) rfl (v := (-1 : Int32)) (by decide) ?_
  refine p_ixor B d9_2 (pc' := 3) rfl (z := (-2049 : Int32)) (by decide) ?_
  refine p_iloadN B d9_3 (pc' := 4) rfl rfl ?_
  refine p_iconst B d9_4 (pc' := 5) rfl (v := (1 : Int32)) (by decide) ?_
  refine p_isub B d9_5 (pc' := 6) rfl (z := (2047 : Int32)) (by decide) ?_
  refine p_iand B d9_6 (pc' := 7) rfl (z := (2047 : Int32)) (by decide) ?_
  refine p_istoreN B d9_7 (pc' := 8) rfl (Ls' := #[.val (.int (2047 : Int32)), .unset]) rfl ?_
  refine p_iloadN B d9_8 (pc' := 9) rfl rfl ?_
  refine b_ifT B d9_9 (pc' := 17) (show (0 : Int32) < (2047 : Int32) from by decide) (by decide) (by decide) ?_
  refine p_iconst B d9_17 (pc' := 18) rfl (v := (1 : Int32)) (by decide) ?_
  refine p_istoreN B d9_18 (pc' := 19) rfl (Ls' := #[.val (.int (2047 : Int32)), .val (.int (1 : Int32))]) rfl ?_
  refine p_iloadN B d9_19 (pc' := 20) rfl rfl ?_
  refine r_ldcwI B d9_20 (pc' := 23) rfl (W50 B.gw) ?_
  refine b_icT B d9_23 (pc' := 34) (show ¬ (65536 : Int32) < (2047 : Int32) from by decide) (by decide) (by decide) ?_
  refine p_iloadN B d9_34 (pc' := 35) rfl rfl ?_
  refine p_sipush B d9_35 (pc' := 38) rfl (v := (256 : Int32)) (by decide) ?_
  refine b_icF B d9_38 (pc' := 41) rfl (show (256 : Int32) < (2047 : Int32) from by decide) ?_
  refine p_iinc B d9_41 (pc' := 44) rfl (v := (8 : Int32)) (by decide) rfl (z := (9 : Int32)) (by decide) (Ls' := #[.val (.int (2047 : Int32)), .val (.int (9 : Int32))]) rfl ?_
  refine p_iloadN B d9_44 (pc' := 45) rfl rfl ?_
  refine p_bipush B d9_45 (pc' := 47) rfl (v := (8 : Int32)) (by decide) ?_
  refine p_iushr B d9_47 (pc' := 48) rfl (z := (7 : Int32)) (by decide) ?_
  refine p_istoreN B d9_48 (pc' := 49) rfl (Ls' := #[.val (.int (7 : Int32)), .val (.int (9 : Int32))]) rfl ?_
  refine p_iloadN B d9_49 (pc' := 50) rfl rfl ?_
  refine p_bipush B d9_50 (pc' := 52) rfl (v := (16 : Int32)) (by decide) ?_
  refine b_icT B d9_52 (pc' := 62) (show ¬ (16 : Int32) < (7 : Int32) from by decide) (by decide) (by decide) ?_
  refine p_iloadN B d9_62 (pc' := 63) rfl rfl ?_
  refine p_iconst B d9_63 (pc' := 64) rfl (v := (4 : Int32)) (by decide) ?_
  refine b_icF B d9_64 (pc' := 67) rfl (show (4 : Int32) < (7 : Int32) from by decide) ?_
  refine p_iinc B d9_67 (pc' := 70) rfl (v := (2 : Int32)) (by decide) rfl (z := (11 : Int32)) (by decide) (Ls' := #[.val (.int (7 : Int32)), .val (.int (11 : Int32))]) rfl ?_
  refine p_iloadN B d9_70 (pc' := 71) rfl rfl ?_
  refine p_iconst B d9_71 (pc' := 72) rfl (v := (2 : Int32)) (by decide) ?_
  refine p_iushr B d9_72 (pc' := 73) rfl (z := (1 : Int32)) (by decide) ?_
  refine p_istoreN B d9_73 (pc' := 74) rfl (Ls' := #[.val (.int (1 : Int32)), .val (.int (11 : Int32))]) rfl ?_
  refine p_iloadN B d9_74 (pc' := 75) rfl rfl ?_
  refine p_iloadN B d9_75 (pc' := 76) rfl rfl ?_
  refine p_iconst B d9_76 (pc' := 77) rfl (v := (1 : Int32)) (by decide) ?_
  refine p_iushr B d9_77 (pc' := 78) rfl (z := (0 : Int32)) (by decide) ?_
  refine p_iadd B d9_78 (pc' := 79) rfl (z := (11 : Int32)) (by decide) ?_
  exact r_reti B d9_79 rfl (by simp) rfl (by decide) (by decide) (fun vm h P => ⟨rfl, P⟩)
theorem k_nz {g : GG} (W : GW g) {cap : Nat} {k : Int32} (hC : CP cap k) (H : List Ent) (Lt : List SE) : Ct g D9 #[.int (Int32.ofNat cap)] H Lt (fun v vm h => v = some (.int k) ∧ Hp g vm h H Lt) := by
  unfold CP at hC
  rcases hC with ⟨rfl, rfl⟩ | ⟨rfl, rfl⟩ | ⟨rfl, rfl⟩ | ⟨rfl, rfl⟩ | ⟨rfl, rfl⟩ | ⟨rfl, rfl⟩ | ⟨rfl, rfl⟩ | ⟨rfl, rfl⟩
  · exact k_nz16 W H Lt
  · exact k_nz32 W H Lt
  · exact k_nz64 W H Lt
  · exact k_nz128 W H Lt
  · exact k_nz256 W H Lt
  · exact k_nz512 W H Lt
  · exact k_nz1024 W H Lt
  · exact k_nz2048 W H Lt
theorem ef_fl (a : Addr) (x : Int64) (m : MethodId) : entryFrame m #[(.ref a), (.long x)] 5 = mkF m 0 #[.val (.ref a), .val (.long x), .second, .unset, .unset] [] := by first | (simp [entryFrame, mkF, argsToLocals, Value.category]; done) | rfl
abbrev D6 : DD := (⟨"java/util/Arrays", "fill", "([JJ)V"⟩, jdk_65_method_101_code, 5, none, { frames := 0, cells := 0, slots := 0, locals := 0 })
theorem full {vs : List Value} {x : Int64} {n : Nat} (hl : vs.length = n) (h : ∀ j < n, vs[j]? = some (.long x)) : vs = List.replicate n (Value.long x) := by
  apply List.ext_getElem?
  intro j
  rw [List.getElem?_replicate]
  split
  · rename_i q; exact h j q
  · rename_i q; exact List.getElem?_eq_none (by omega)
theorem fillset {vs : List Value} {x : Int64} {n i : Nat} (hl : vs.length = n) (hi : i < n) (h : ∀ j < i, vs[j]? = some (.long x)) : ∀ j < i + 1, (vs.set i (.long x))[j]? = some (.long x) := by
  intro j hj
  by_cases e : i = j
  · rw [← e, List.getElem?_set_self (by omega)]
  · rw [List.getElem?_set_ne e]; exact h j (by omega)
theorem fl_loop {g : GG} (W : GW g) (a : Addr) (x : Int64) (n : Nat) (hn2 : n ≤ 2048) (H : List Ent) (Lt : List SE) : ∀ (d : Nat) (vs : List Value) (i : Nat), vs.length = n → i + d = n → (∀ j < i, vs[j]? = some (.long x)) → ∀ {M : MM} {T : State}, RH g D6 M T ((a, .inr (.long, "[J", vs)) :: H) Lt 0 0 → Fn g D6 M (fun v vm h => v = none ∧ Hp g vm h ((a, .inr (.long, "[J", List.replicate n (Value.long x))) :: H) Lt) (T.setTop (mkF M.m 6 #[.val (.ref a), .val (.long x), .second, .val (.int (Int32.ofNat i)), .val (.int (Int32.ofNat n))] [])) := by
  intro d
  induction d with
  | zero =>
    intro vs i hl hd hs M T B
    refine p_iloadN B d6_6 (pc' := 7) rfl rfl ?_
    refine p_iload B d6_7 (pc' := 9) rfl rfl ?_
    refine b_icT B d6_9 (pc' := 22) (fun q => by rw [Int32.lt_iff_toInt_lt, Int32.toInt_ofNat_small (by omega), Int32.toInt_ofNat_small (by omega)] at q; omega) (by decide) (by decide) ?_
    exact r_ret B d6_22 rfl (by decide) (by decide) (fun vm h P => ⟨rfl, by rw [← full hl (fun j hj => hs j (by omega))]; exact P⟩)
  | succ d ih =>
    intro vs i hl hd hs M T B
    refine p_iloadN B d6_6 (pc' := 7) rfl rfl ?_
    refine p_iload B d6_7 (pc' := 9) rfl rfl ?_
    refine b_icF B d6_9 (pc' := 12) rfl (by show Int32.ofNat i < Int32.ofNat n; rw [Int32.lt_iff_toInt_lt, Int32.toInt_ofNat_small (by omega), Int32.toInt_ofNat_small (by omega)]; omega) ?_
    refine p_aloadN B d6_12 (pc' := 13) rfl rfl rfl ?_
    refine p_iloadN B d6_13 (pc' := 14) rfl rfl ?_
    refine p_lloadN B d6_14 (pc' := 15) rfl rfl ?_
    refine r_lastore B d6_15 (pc' := 16) rfl (i := 0) rfl (cl_i (by omega)).1 (k := i) (cl_i (by omega)).2 (by omega) (H' := (a, .inr (.long, "[J", vs.set i (.long x))) :: H) rfl ?_
    intro T1 B2
    refine p_iinc B2 d6_16 (pc' := 19) rfl (v := (1 : Int32)) (by decide) rfl (z := ((Int32.ofNat i) + (1 : Int32))) rfl (Ls' := #[.val (.ref a), .val (.long x), .second, .val (.int ((Int32.ofNat i) + (1 : Int32))), .val (.int (Int32.ofNat n))]) rfl ?_
    rw [show Int32.ofNat i + (1 : Int32) = Int32.ofNat (i + 1) from by simp]
    refine b_goto B2 d6_19 (pc' := 6) (by decide) (by decide) ?_
    exact ih (vs.set i (.long x)) (i + 1) (by simp [hl]) (by omega) (fun j hj => fillset hl (by omega) hs j hj) B2
theorem k_fl {g : GG} (W : GW g) (a : Addr) (x : Int64) (n : Nat) (hn2 : n ≤ 2048) (vs : List Value) (hn : vs.length = n) (H : List Ent) (Lt : List SE) : Ct g D6 #[.ref a, .long x] ((a, .inr (.long, "[J", vs)) :: H) Lt (fun v vm h => v = none ∧ Hp g vm h ((a, .inr (.long, "[J", List.replicate n (Value.long x))) :: H) Lt) := by
  refine CtW.body W (by decide +kernel) (ef_fl a x) ?_
  intro M T B
  refine p_iconst B d6_0 (pc' := 1) rfl (v := (0 : Int32)) (by decide) ?_
  refine p_istoreN B d6_1 (pc' := 2) rfl (Ls' := #[.val (.ref a), .val (.long x), .second, .val (.int (0 : Int32)), .unset]) rfl ?_
  refine p_aloadN B d6_2 (pc' := 3) rfl rfl rfl ?_
  refine r_alen B d6_3 (pc' := 4) rfl (aH (i := 0) rfl) (z := (Int32.ofNat vs.length)) rfl ?_
  rw [hn]
  refine p_istore B d6_4 (pc' := 6) rfl (Ls' := #[.val (.ref a), .val (.long x), .second, .val (.int (0 : Int32)), .val (.int (Int32.ofNat n))]) rfl ?_
  exact fl_loop W a x n hn2 H Lt n vs 0 hn (by omega) (fun j hj => absurd hj (by omega)) B
theorem ef_li (o : Addr) (u e : Int32) (m : MethodId) : entryFrame m #[(.ref o), (.int u), (.int e)] 4 = mkF m 0 #[.val (.ref o), .val (.int u), .val (.int e), .unset] [] := by first | (simp [entryFrame, mkF, argsToLocals, Value.category]; done) | rfl
abbrev D4 : DD := (⟨"com/example/keys_to_peers/keystopeers/placement/LeaveFlows", "<init>", "(II)V"⟩, prog_34_method_1_code, 4, none, { frames := 1, cells := 2, slots := 4096, locals := 16 })
theorem n31 {n : Nat} (h : n < 2147483648) : ¬ Int32.ofNat n < 0 := Int32.ofNat_not_neg (by omega)
theorem n31c {n : Nat} (h : n < 2147483648) : (Int32.ofNat n).toNatClampNeg = n := Jvm.Free.XT.n32 (by omega)
theorem li36 {g : GG} (W : GW g) (o : Addr) (u e : Int32) {cap : Nat} {k : Int32} (hC : CP cap k) (H : List Ent) (Lt : List SE) {M : MM} {T : State} (B : RH g D4 M T (o_LeaveFlows o (.long u.toInt64) .null .null (.int (0 : Int32)) :: H) Lt 0 0) : Fn g D4 M (fun v vm h => ∃ (cap : Nat) (k : Int32) (ka va : Addr), v = none ∧ CP cap k ∧ Hp g vm h (o_LeaveFlows o (.long u.toInt64) (.ref ka) (.ref va) (.int (0 : Int32)) :: (ka, .inr (.long, "[J", ((List.replicate cap (-1)).map Value.long))) :: (va, .inr (.double, "[D", ((List.replicate cap 0).map dV))) :: H) Lt) (T.setTop (mkF M.m 36 #[.val (.ref o), .val (.int u), .val (.int e), .val (.int (Int32.ofNat cap))] [])) := by
  have hc2 := hC.le.2
  refine p_aloadN B d4_36 (pc' := 37) rfl rfl rfl ?_
  refine p_iloadN B d4_37 (pc' := 38) rfl rfl ?_
  refine r_newp B d4_38 (pc' := 40) rfl (ty := .long) (W26 B.gw) rfl (n31 (by omega)) (nn := cap) (n31c (by omega)) (cap := 2048) hc2 (by decide) (cs' := 1) rfl (ss' := 2048) rfl (by decide) (by decide) (ad := "[J") (by decide) (by decide) nofun (vs := (List.replicate cap (Value.long 0))) rfl ?_
  intro T1 a3 B2
  refine r_put B2 d4_40 (pc' := 43) rfl (host := "") (Or.inl (W27 B2.gw)) Via.refl (i := 1) (j := 1) rfl rfl (Or.inl (W28 B2.gw)) (W14 B2.gw) (ty := (.array .long)) (by decide) rfl rfl (H' := ((a3, .inr (.long, "[J", (List.replicate cap (Value.long 0)))) :: o_LeaveFlows o (.long u.toInt64) (.ref a3) .null (.int (0 : Int32)) :: H)) rfl ?_
  intro T4 B5
  refine p_aloadN B5 d4_43 (pc' := 44) rfl rfl rfl ?_
  refine p_iloadN B5 d4_44 (pc' := 45) rfl rfl ?_
  refine r_newp B5 d4_45 (pc' := 47) rfl (ty := .double) (W29 B5.gw) rfl (n31 (by omega)) (nn := cap) (n31c (by omega)) (cap := 2048) hc2 (by decide) (cs' := 2) rfl (ss' := 4096) rfl (by decide) (by decide) (ad := "[D") (by decide) (by decide) nofun (vs := (List.replicate cap (Value.double 0))) rfl ?_
  intro T6 a8 B7
  refine r_put B7 d4_47 (pc' := 50) rfl (host := "") (Or.inl (W30 B7.gw)) Via.refl (i := 2) (j := 2) rfl rfl (Or.inl (W31 B7.gw)) (W14 B7.gw) (ty := (.array .double)) (by decide) rfl rfl (H' := ((a8, .inr (.double, "[D", (List.replicate cap (Value.double 0)))) :: (a3, .inr (.long, "[J", (List.replicate cap (Value.long 0)))) :: o_LeaveFlows o (.long u.toInt64) (.ref a3) (.ref a8) (.int (0 : Int32)) :: H)) rfl ?_
  intro T9 B10
  refine p_aloadN B10 d4_50 (pc' := 51) rfl rfl rfl ?_
  refine r_get B10 d4_51 (pc' := 54) rfl (host := "") (Or.inl (W27 B10.gw)) Via.refl (v := (.ref a3)) (fO (i := 2) (j := 1) rfl rfl) ?_
  intro T11 B12
  refine r_ldcJ B12 d4_54 (pc' := 57) rfl (W32 B12.gw) ?_
  have B13 : RH g D4 M T11 ((a3, .inr (.long, "[J", (List.replicate cap (Value.long 0)))) :: (a8, .inr (.double, "[D", (List.replicate cap (Value.double 0)))) :: o_LeaveFlows o (.long u.toInt64) (.ref a3) (.ref a8) (.int (0 : Int32)) :: H) (Lt) 2 4096 := B12.front (i := 1) rfl rfl
  refine r_static (D' := D6) B13 d4_57 (pc' := 60) rfl (W33 B13.gw) (W34 B13.gw) (W35 B13.gw) (W36 B13.gw) (by decide) (k_fl W a3 (-1 : Int64) cap hc2 _ (by simp) _ _) (argsL := [(.ref a3), (.long (-1 : Int64))]) (rest := []) rfl pd0 rfl rfl rfl (W := 0) rfl (by decide) (by decide) (cs' := 2) rfl (ss' := 4096) rfl (by decide) (by decide) ?_
  intro T14 v15 B16
  replace B16 := Rn.and B16
  obtain ⟨rfl, B16⟩ := B16
  show Fn g D4 M _ (T14.setTop (mkF M.m 60 #[.val (.ref o), .val (.int u), .val (.int e), .val (.int (Int32.ofNat cap))] []))
  have B17 : RH g D4 M T14 ((a8, .inr (.double, "[D", (List.replicate cap (Value.double 0)))) :: (a3, .inr (.long, "[J", (List.replicate cap (Value.long (-1))))) :: o_LeaveFlows o (.long u.toInt64) (.ref a3) (.ref a8) (.int (0 : Int32)) :: H) (Lt) 2 4096 := B16.front (i := 1) rfl rfl
  have B18 : RH g D4 M T14 ((a3, .inr (.long, "[J", (List.replicate cap (Value.long (-1))))) :: (a8, .inr (.double, "[D", (List.replicate cap (Value.double 0)))) :: o_LeaveFlows o (.long u.toInt64) (.ref a3) (.ref a8) (.int (0 : Int32)) :: H) (Lt) 2 4096 := B17.front (i := 1) rfl rfl
  have B19 : RH g D4 M T14 (o_LeaveFlows o (.long u.toInt64) (.ref a3) (.ref a8) (.int (0 : Int32)) :: (a3, .inr (.long, "[J", (List.replicate cap (Value.long (-1))))) :: (a8, .inr (.double, "[D", (List.replicate cap (Value.double 0)))) :: H) (Lt) 2 4096 := B18.front (i := 2) rfl rfl
  exact r_ret B19 d4_60 rfl (by decide) (by decide) (fun vm h P => ⟨cap, k, a3, a8, rfl, hC, by rw [List.map_replicate, List.map_replicate, show dV 0 = Value.double 0 from congrArg Value.double Jvm.RoadKit.l2d_zero]; exact P⟩)
theorem k_li {g : GG} (W : GW g) (o : Addr) (u e : Int32) (he : 0 ≤ e.toInt ∧ e.toInt < 1024) (H : List Ent) (Lt : List SE) : Ct g D4 #[.ref o, .int u, .int e] (o_LeaveFlows o (.long (0 : Int64)) .null .null (.int (0 : Int32)) :: H) Lt (fun v vm h => ∃ (cap : Nat) (k : Int32) (ka va : Addr), v = none ∧ CP cap k ∧ Hp g vm h (o_LeaveFlows o (.long u.toInt64) (.ref ka) (.ref va) (.int (0 : Int32)) :: (ka, .inr (.long, "[J", ((List.replicate cap (-1)).map Value.long))) :: (va, .inr (.double, "[D", ((List.replicate cap 0).map dV))) :: H) Lt) := by
  refine CtW.body W (by decide +kernel) (ef_li o u e) ?_
  intro M T B
  refine p_aloadN B d4_0 (pc' := 1) rfl rfl rfl ?_
  refine r_initO B d4_1 (pc' := 4) rfl (W19 B.gw) (W20 B.gw) (W21 B.gw) rfl (by decide) (W := 0) rfl (by decide) ?_
  intro T1 B2
  refine p_aloadN B2 d4_4 (pc' := 5) rfl rfl rfl ?_
  refine p_iloadN B2 d4_5 (pc' := 6) rfl rfl ?_
  refine p_i2l B2 d4_6 (pc' := 7) rfl ?_
  refine r_put B2 d4_7 (pc' := 10) rfl (host := "") (Or.inl (W22 B2.gw)) Via.refl (i := 0) (j := 0) rfl rfl (Or.inr ⟨(W23 B2.gw), rfl, rfl⟩) (W14 B2.gw) (ty := .long) (by decide) rfl rfl (H' := (o_LeaveFlows o (.long (u).toInt64) .null .null (.int (0 : Int32)) :: H)) rfl ?_
  intro T3 B4
  refine p_bipush B4 d4_10 (pc' := 12) rfl (v := (16 : Int32)) (by decide) ?_
  refine p_istoreN B4 d4_12 (pc' := 13) rfl (Ls' := #[.val (.ref o), .val (.int u), .val (.int e), .val (.int (16 : Int32))]) rfl ?_
  refine r_ldcJ B4 d4_13 (pc' := 16) rfl (W24 B4.gw) ?_
  refine p_iloadN B4 d4_16 (pc' := 17) rfl rfl ?_
  refine p_i2l B4 d4_17 (pc' := 18) rfl ?_
  refine p_lmul B4 d4_18 (pc' := 19) rfl ?_
  refine r_ldcJ B4 d4_19 (pc' := 22) rfl (W25 B4.gw) ?_
  refine p_iloadN B4 d4_22 (pc' := 23) rfl rfl ?_
  refine p_i2l B4 d4_23 (pc' := 24) rfl ?_
  refine p_lmul B4 d4_24 (pc' := 25) rfl ?_
  refine p_lcmp B4 d4_25 (pc' := 26) rfl ?_
  by_cases h16 : (0 : Int32) < (lcmpW ((4 : Int64) * (e).toInt64) ((3 : Int64) * ((16 : Int32)).toInt64))
  · refine b_ifF B4 d4_26 (pc' := 29) rfl h16 ?_
    refine p_iloadN B4 d4_29 (pc' := 30) rfl rfl ?_
    refine p_iconst B4 d4_30 (pc' := 31) rfl (v := (1 : Int32)) (by decide) ?_
    refine p_ishl B4 d4_31 (pc' := 32) rfl (z := (32 : Int32)) (by decide) ?_
    refine p_istoreN B4 d4_32 (pc' := 33) rfl (Ls' := #[.val (.ref o), .val (.int u), .val (.int e), .val (.int (32 : Int32))]) rfl ?_
    refine b_goto B4 d4_33 (pc' := 13) (by decide) (by decide) ?_
    refine r_ldcJ B4 d4_13 (pc' := 16) rfl (W24 B4.gw) ?_
    refine p_iloadN B4 d4_16 (pc' := 17) rfl rfl ?_
    refine p_i2l B4 d4_17 (pc' := 18) rfl ?_
    refine p_lmul B4 d4_18 (pc' := 19) rfl ?_
    refine r_ldcJ B4 d4_19 (pc' := 22) rfl (W25 B4.gw) ?_
    refine p_iloadN B4 d4_22 (pc' := 23) rfl rfl ?_
    refine p_i2l B4 d4_23 (pc' := 24) rfl ?_
    refine p_lmul B4 d4_24 (pc' := 25) rfl ?_
    refine p_lcmp B4 d4_25 (pc' := 26) rfl ?_
    by_cases h32 : (0 : Int32) < (lcmpW ((4 : Int64) * (e).toInt64) ((3 : Int64) * ((32 : Int32)).toInt64))
    · refine b_ifF B4 d4_26 (pc' := 29) rfl h32 ?_
      refine p_iloadN B4 d4_29 (pc' := 30) rfl rfl ?_
      refine p_iconst B4 d4_30 (pc' := 31) rfl (v := (1 : Int32)) (by decide) ?_
      refine p_ishl B4 d4_31 (pc' := 32) rfl (z := (64 : Int32)) (by decide) ?_
      refine p_istoreN B4 d4_32 (pc' := 33) rfl (Ls' := #[.val (.ref o), .val (.int u), .val (.int e), .val (.int (64 : Int32))]) rfl ?_
      refine b_goto B4 d4_33 (pc' := 13) (by decide) (by decide) ?_
      refine r_ldcJ B4 d4_13 (pc' := 16) rfl (W24 B4.gw) ?_
      refine p_iloadN B4 d4_16 (pc' := 17) rfl rfl ?_
      refine p_i2l B4 d4_17 (pc' := 18) rfl ?_
      refine p_lmul B4 d4_18 (pc' := 19) rfl ?_
      refine r_ldcJ B4 d4_19 (pc' := 22) rfl (W25 B4.gw) ?_
      refine p_iloadN B4 d4_22 (pc' := 23) rfl rfl ?_
      refine p_i2l B4 d4_23 (pc' := 24) rfl ?_
      refine p_lmul B4 d4_24 (pc' := 25) rfl ?_
      refine p_lcmp B4 d4_25 (pc' := 26) rfl ?_
      by_cases h64 : (0 : Int32) < (lcmpW ((4 : Int64) * (e).toInt64) ((3 : Int64) * ((64 : Int32)).toInt64))
      · refine b_ifF B4 d4_26 (pc' := 29) rfl h64 ?_
        refine p_iloadN B4 d4_29 (pc' := 30) rfl rfl ?_
        refine p_iconst B4 d4_30 (pc' := 31) rfl (v := (1 : Int32)) (by decide) ?_
        refine p_ishl B4 d4_31 (pc' := 32) rfl (z := (128 : Int32)) (by decide) ?_
        refine p_istoreN B4 d4_32 (pc' := 33) rfl (Ls' := #[.val (.ref o), .val (.int u), .val (.int e), .val (.int (128 : Int32))]) rfl ?_
        refine b_goto B4 d4_33 (pc' := 13) (by decide) (by decide) ?_
        refine r_ldcJ B4 d4_13 (pc' := 16) rfl (W24 B4.gw) ?_
        refine p_iloadN B4 d4_16 (pc' := 17) rfl rfl ?_
        refine p_i2l B4 d4_17 (pc' := 18) rfl ?_
        refine p_lmul B4 d4_18 (pc' := 19) rfl ?_
        refine r_ldcJ B4 d4_19 (pc' := 22) rfl (W25 B4.gw) ?_
        refine p_iloadN B4 d4_22 (pc' := 23) rfl rfl ?_
        refine p_i2l B4 d4_23 (pc' := 24) rfl ?_
        refine p_lmul B4 d4_24 (pc' := 25) rfl ?_
        refine p_lcmp B4 d4_25 (pc' := 26) rfl ?_
        by_cases h128 : (0 : Int32) < (lcmpW ((4 : Int64) * (e).toInt64) ((3 : Int64) * ((128 : Int32)).toInt64))
        · refine b_ifF B4 d4_26 (pc' := 29) rfl h128 ?_
          refine p_iloadN B4 d4_29 (pc' := 30) rfl rfl ?_
          refine p_iconst B4 d4_30 (pc' := 31) rfl (v := (1 : Int32)) (by decide) ?_
          refine p_ishl B4 d4_31 (pc' := 32) rfl (z := (256 : Int32)) (by decide) ?_
          refine p_istoreN B4 d4_32 (pc' := 33) rfl (Ls' := #[.val (.ref o), .val (.int u), .val (.int e), .val (.int (256 : Int32))]) rfl ?_
          refine b_goto B4 d4_33 (pc' := 13) (by decide) (by decide) ?_
          refine r_ldcJ B4 d4_13 (pc' := 16) rfl (W24 B4.gw) ?_
          refine p_iloadN B4 d4_16 (pc' := 17) rfl rfl ?_
          refine p_i2l B4 d4_17 (pc' := 18) rfl ?_
          refine p_lmul B4 d4_18 (pc' := 19) rfl ?_
          refine r_ldcJ B4 d4_19 (pc' := 22) rfl (W25 B4.gw) ?_
          refine p_iloadN B4 d4_22 (pc' := 23) rfl rfl ?_
          refine p_i2l B4 d4_23 (pc' := 24) rfl ?_
          refine p_lmul B4 d4_24 (pc' := 25) rfl ?_
          refine p_lcmp B4 d4_25 (pc' := 26) rfl ?_
          by_cases h256 : (0 : Int32) < (lcmpW ((4 : Int64) * (e).toInt64) ((3 : Int64) * ((256 : Int32)).toInt64))
          · refine b_ifF B4 d4_26 (pc' := 29) rfl h256 ?_
            refine p_iloadN B4 d4_29 (pc' := 30) rfl rfl ?_
            refine p_iconst B4 d4_30 (pc' := 31) rfl (v := (1 : Int32)) (by decide) ?_
            refine p_ishl B4 d4_31 (pc' := 32) rfl (z := (512 : Int32)) (by decide) ?_
            refine p_istoreN B4 d4_32 (pc' := 33) rfl (Ls' := #[.val (.ref o), .val (.int u), .val (.int e), .val (.int (512 : Int32))]) rfl ?_
            refine b_goto B4 d4_33 (pc' := 13) (by decide) (by decide) ?_
            refine r_ldcJ B4 d4_13 (pc' := 16) rfl (W24 B4.gw) ?_
            refine p_iloadN B4 d4_16 (pc' := 17) rfl rfl ?_
            refine p_i2l B4 d4_17 (pc' := 18) rfl ?_
            refine p_lmul B4 d4_18 (pc' := 19) rfl ?_
            refine r_ldcJ B4 d4_19 (pc' := 22) rfl (W25 B4.gw) ?_
            refine p_iloadN B4 d4_22 (pc' := 23) rfl rfl ?_
            refine p_i2l B4 d4_23 (pc' := 24) rfl ?_
            refine p_lmul B4 d4_24 (pc' := 25) rfl ?_
            refine p_lcmp B4 d4_25 (pc' := 26) rfl ?_
            by_cases h512 : (0 : Int32) < (lcmpW ((4 : Int64) * (e).toInt64) ((3 : Int64) * ((512 : Int32)).toInt64))
            · refine b_ifF B4 d4_26 (pc' := 29) rfl h512 ?_
              refine p_iloadN B4 d4_29 (pc' := 30) rfl rfl ?_
              refine p_iconst B4 d4_30 (pc' := 31) rfl (v := (1 : Int32)) (by decide) ?_
              refine p_ishl B4 d4_31 (pc' := 32) rfl (z := (1024 : Int32)) (by decide) ?_
              refine p_istoreN B4 d4_32 (pc' := 33) rfl (Ls' := #[.val (.ref o), .val (.int u), .val (.int e), .val (.int (1024 : Int32))]) rfl ?_
              refine b_goto B4 d4_33 (pc' := 13) (by decide) (by decide) ?_
              refine r_ldcJ B4 d4_13 (pc' := 16) rfl (W24 B4.gw) ?_
              refine p_iloadN B4 d4_16 (pc' := 17) rfl rfl ?_
              refine p_i2l B4 d4_17 (pc' := 18) rfl ?_
              refine p_lmul B4 d4_18 (pc' := 19) rfl ?_
              refine r_ldcJ B4 d4_19 (pc' := 22) rfl (W25 B4.gw) ?_
              refine p_iloadN B4 d4_22 (pc' := 23) rfl rfl ?_
              refine p_i2l B4 d4_23 (pc' := 24) rfl ?_
              refine p_lmul B4 d4_24 (pc' := 25) rfl ?_
              refine p_lcmp B4 d4_25 (pc' := 26) rfl ?_
              by_cases h1024 : (0 : Int32) < (lcmpW ((4 : Int64) * (e).toInt64) ((3 : Int64) * ((1024 : Int32)).toInt64))
              · refine b_ifF B4 d4_26 (pc' := 29) rfl h1024 ?_
                refine p_iloadN B4 d4_29 (pc' := 30) rfl rfl ?_
                refine p_iconst B4 d4_30 (pc' := 31) rfl (v := (1 : Int32)) (by decide) ?_
                refine p_ishl B4 d4_31 (pc' := 32) rfl (z := (2048 : Int32)) (by decide) ?_
                refine p_istoreN B4 d4_32 (pc' := 33) rfl (Ls' := #[.val (.ref o), .val (.int u), .val (.int e), .val (.int (2048 : Int32))]) rfl ?_
                refine b_goto B4 d4_33 (pc' := 13) (by decide) (by decide) ?_
                refine r_ldcJ B4 d4_13 (pc' := 16) rfl (W24 B4.gw) ?_
                refine p_iloadN B4 d4_16 (pc' := 17) rfl rfl ?_
                refine p_i2l B4 d4_17 (pc' := 18) rfl ?_
                refine p_lmul B4 d4_18 (pc' := 19) rfl ?_
                refine r_ldcJ B4 d4_19 (pc' := 22) rfl (W25 B4.gw) ?_
                refine p_iloadN B4 d4_22 (pc' := 23) rfl rfl ?_
                refine p_i2l B4 d4_23 (pc' := 24) rfl ?_
                refine p_lmul B4 d4_24 (pc' := 25) rfl ?_
                refine p_lcmp B4 d4_25 (pc' := 26) rfl ?_
                refine b_ifT B4 d4_26 (pc' := 36) (big he.1 he.2) (by decide) (by decide) ?_
                exact li36 W o u e (show CP 2048 11 from by unfold CP; decide) H Lt B4
              · refine b_ifT B4 d4_26 (pc' := 36) h1024 (by decide) (by decide) ?_
                exact li36 W o u e (show CP 1024 10 from by unfold CP; decide) H Lt B4
            · refine b_ifT B4 d4_26 (pc' := 36) h512 (by decide) (by decide) ?_
              exact li36 W o u e (show CP 512 9 from by unfold CP; decide) H Lt B4
          · refine b_ifT B4 d4_26 (pc' := 36) h256 (by decide) (by decide) ?_
            exact li36 W o u e (show CP 256 8 from by unfold CP; decide) H Lt B4
        · refine b_ifT B4 d4_26 (pc' := 36) h128 (by decide) (by decide) ?_
          exact li36 W o u e (show CP 128 7 from by unfold CP; decide) H Lt B4
      · refine b_ifT B4 d4_26 (pc' := 36) h64 (by decide) (by decide) ?_
        exact li36 W o u e (show CP 64 6 from by unfold CP; decide) H Lt B4
    · refine b_ifT B4 d4_26 (pc' := 36) h32 (by decide) (by decide) ?_
      exact li36 W o u e (show CP 32 5 from by unfold CP; decide) H Lt B4
  · refine b_ifT B4 d4_26 (pc' := 36) h16 (by decide) (by decide) ?_
    exact li36 W o u e (show CP 16 4 from by unfold CP; decide) H Lt B4
theorem ef_so (o : Addr) (key : Int64) (m : MethodId) : entryFrame m #[(.ref o), (.long key)] 5 = mkF m 0 #[.val (.ref o), .val (.long key), .second, .unset, .unset] [] := by first | (simp [entryFrame, mkF, argsToLocals, Value.category]; done) | rfl
abbrev D8 : DD := (⟨"com/example/keys_to_peers/keystopeers/placement/LeaveFlows", "slot", "(J)I"⟩, prog_34_method_4_code, 5, (some .int), { frames := 1, cells := 0, slots := 0, locals := 14 })
theorem so_loop {g : GG} (W : GW g) (o ka va : Addr) (n : Int32) (u key : Int64) (hk : key ≠ -1) {cap : Nat} {k : Int32} (hC : CP cap k) {ks : List Int64} (hl : ks.length = cap) (H : List Ent) (Lt : List SE) (sh : Int32) (nn i : Nat) (Rc : Rch cap k ks key nn i) : ∀ (d m : Nat), m + d = nn → ∀ {M : MM} {T : State}, RH g D8 M T (o_LeaveFlows o (.long u) (.ref ka) (.ref va) (.int n) :: (ka, .inr (.long, "[J", (ks.map Value.long))) :: H) Lt 0 0 → Fn g D8 M (fun v vm h => v = some (.int (Int32.ofNat i)) ∧ Hp g vm h (o_LeaveFlows o (.long u) (.ref ka) (.ref va) (.int n) :: (ka, .inr (.long, "[J", (ks.map Value.long))) :: H) Lt) (T.setTop (mkF M.m 22 #[.val (.ref o), .val (.long key), .second, .val (.int sh), .val (.int (Int32.ofNat ((hN key k + m) % cap)))] [])) := by
  have hlen : (ks.map Value.long).length = cap := by rw [List.length_map, hl]
  intro d
  induction d with
  | zero =>
    intro m hm M T B
    obtain rfl : m = nn := by omega
    obtain ⟨rfl, ⟨kk, e1, e2⟩, -⟩ := Rc
    refine p_aloadN B d8_22 (pc' := 23) rfl rfl rfl ?_
    refine r_get B d8_23 (pc' := 26) rfl (host := "") (Or.inl (W27 B.gw)) Via.refl (v := (.ref ka)) (fO (i := 0) (j := 1) rfl rfl) ?_
    intro T1 B2
    refine p_iload B2 d8_26 (pc' := 28) rfl rfl ?_
    refine r_aget B2 d8_28 rfl (pc' := 29) rfl (aH (i := 1) rfl) (k := ((hN key k + m) % cap)) rfl (v := (.long kk)) (mapL e1) ?_
    refine r_ldcJ B2 d8_29 (pc' := 32) rfl (W32 B2.gw) ?_
    refine p_lcmp B2 d8_32 (pc' := 33) rfl ?_
    rcases e2 with q | q
    · refine b_ifT B2 d8_33 (pc' := 65) ((lw_eq _ _).mpr q) (by decide) (by decide) ?_
      refine p_iload B2 d8_65 (pc' := 67) rfl rfl ?_
      exact r_reti B2 d8_67 rfl (by simp) rfl (by decide) (by decide) (fun vm h P => ⟨rfl, P⟩)
    · refine b_ifF B2 d8_33 (pc' := 36) rfl (fun r => hk (q.symm.trans ((lw_eq _ _).mp r))) ?_
      refine p_aloadN B2 d8_36 (pc' := 37) rfl rfl rfl ?_
      refine r_get B2 d8_37 (pc' := 40) rfl (host := "") (Or.inl (W27 B2.gw)) Via.refl (v := (.ref ka)) (fO (i := 0) (j := 1) rfl rfl) ?_
      intro T3 B4
      refine p_iload B4 d8_40 (pc' := 42) rfl rfl ?_
      refine r_aget B4 d8_42 rfl (pc' := 43) rfl (aH (i := 1) rfl) (k := ((hN key k + m) % cap)) rfl (v := (.long kk)) (mapL e1) ?_
      refine p_lloadN B4 d8_43 (pc' := 44) rfl rfl ?_
      refine p_lcmp B4 d8_44 (pc' := 45) rfl ?_
      refine b_ifT B4 d8_45 (pc' := 65) ((lw_eq _ _).mpr q) (by decide) (by decide) ?_
      refine p_iload B4 d8_65 (pc' := 67) rfl rfl ?_
      exact r_reti B4 d8_67 rfl (by simp) rfl (by decide) (by decide) (fun vm h P => ⟨rfl, P⟩)
  | succ d ih =>
    intro m hm M T B
    obtain ⟨kk, e1, e2, e3⟩ := Rc.2.2 m (by omega)
    refine p_aloadN B d8_22 (pc' := 23) rfl rfl rfl ?_
    refine r_get B d8_23 (pc' := 26) rfl (host := "") (Or.inl (W27 B.gw)) Via.refl (v := (.ref ka)) (fO (i := 0) (j := 1) rfl rfl) ?_
    intro T1 B2
    refine p_iload B2 d8_26 (pc' := 28) rfl rfl ?_
    refine r_aget B2 d8_28 rfl (pc' := 29) rfl (aH (i := 1) rfl) (k := ((hN key k + m) % cap)) rfl (v := (.long kk)) (mapL e1) ?_
    refine r_ldcJ B2 d8_29 (pc' := 32) rfl (W32 B2.gw) ?_
    refine p_lcmp B2 d8_32 (pc' := 33) rfl ?_
    refine b_ifF B2 d8_33 (pc' := 36) rfl (fun r => e2 ((lw_eq _ _).mp r)) ?_
    refine p_aloadN B2 d8_36 (pc' := 37) rfl rfl rfl ?_
    refine r_get B2 d8_37 (pc' := 40) rfl (host := "") (Or.inl (W27 B2.gw)) Via.refl (v := (.ref ka)) (fO (i := 0) (j := 1) rfl rfl) ?_
    intro T3 B4
    refine p_iload B4 d8_40 (pc' := 42) rfl rfl ?_
    refine r_aget B4 d8_42 rfl (pc' := 43) rfl (aH (i := 1) rfl) (k := ((hN key k + m) % cap)) rfl (v := (.long kk)) (mapL e1) ?_
    refine p_lloadN B4 d8_43 (pc' := 44) rfl rfl ?_
    refine p_lcmp B4 d8_44 (pc' := 45) rfl ?_
    refine b_ifF B4 d8_45 (pc' := 48) rfl (fun r => e3 ((lw_eq _ _).mp r)) ?_
    refine p_iload B4 d8_48 (pc' := 50) rfl rfl ?_
    refine p_iconst B4 d8_50 (pc' := 51) rfl (v := (1 : Int32)) (by decide) ?_
    refine p_iadd B4 d8_51 (pc' := 52) rfl rfl ?_
    refine p_aloadN B4 d8_52 (pc' := 53) rfl rfl rfl ?_
    refine r_get B4 d8_53 (pc' := 56) rfl (host := "") (Or.inl (W27 B4.gw)) Via.refl (v := (.ref ka)) (fO (i := 0) (j := 1) rfl rfl) ?_
    intro T5 B6
    refine r_alen B6 d8_56 (pc' := 57) rfl (aH (i := 1) rfl) (z := (Int32.ofNat (ks.map Value.long).length)) rfl ?_
    rw [hlen]
    refine p_iconst B6 d8_57 (pc' := 58) rfl (v := (1 : Int32)) (by decide) ?_
    refine p_isub B6 d8_58 (pc' := 59) rfl rfl ?_
    refine p_iand B6 d8_59 (pc' := 60) rfl rfl ?_
    rw [step_ix hC]
    refine p_istore B6 d8_60 (pc' := 62) rfl (Ls' := #[.val (.ref o), .val (.long key), .second, .val (.int sh), .val (.int (Int32.ofNat ((hN key k + (m + 1)) % cap)))]) rfl ?_
    refine b_goto B6 d8_62 (pc' := 22) (by decide) (by decide) ?_
    exact ih (m + 1) (by omega) B6
theorem k_so {g : GG} (W : GW g) (o ka va : Addr) (n : Int32) (u key : Int64) (hk : key ≠ -1) {cap : Nat} {k : Int32} (hC : CP cap k) {ks : List Int64} (hl : ks.length = cap) (H : List Ent) (Lt : List SE) (nn i : Nat) (Rc : Rch cap k ks key nn i) : Ct g D8 #[.ref o, .long key] (o_LeaveFlows o (.long u) (.ref ka) (.ref va) (.int n) :: (ka, .inr (.long, "[J", (ks.map Value.long))) :: H) Lt (fun v vm h => v = some (.int (Int32.ofNat i)) ∧ Hp g vm h (o_LeaveFlows o (.long u) (.ref ka) (.ref va) (.int n) :: (ka, .inr (.long, "[J", (ks.map Value.long))) :: H) Lt) := by
  have hlen : (ks.map Value.long).length = cap := by rw [List.length_map, hl]
  refine CtW.body W (by decide +kernel) (ef_so o key) ?_
  intro M T B
  refine p_bipush B d8_0 (pc' := 2) rfl (v := (64 : Int32)) (by decide) ?_
  refine p_aloadN B d8_2 (pc' := 3) rfl rfl rfl ?_
  refine r_get B d8_3 (pc' := 6) rfl (host := "") (Or.inl (W27 B.gw)) Via.refl (v := (.ref ka)) (fO (i := 0) (j := 1) rfl rfl) ?_
  intro T1 B2
  refine r_alen B2 d8_6 (pc' := 7) rfl (aH (i := 1) rfl) (z := (Int32.ofNat (ks.map Value.long).length)) rfl ?_
  rw [hlen]
  refine r_static (D' := D9) B2 d8_7 (pc' := 10) rfl (W46 B2.gw) (W47 B2.gw) (W48 B2.gw) (W49 B2.gw) (by decide) (k_nz W hC _ _) (argsL := [(.int (Int32.ofNat cap))]) (rest := [(.int (64 : Int32))]) rfl pd1 rfl rfl rfl (W := 1) rfl (by decide) (by decide) (cs' := 0) rfl (ss' := 0) rfl (by decide) (by decide) ?_
  intro T3 v4 B5
  replace B5 := Rn.and B5
  obtain ⟨rfl, B5⟩ := B5
  show Fn g D8 M _ (T3.setTop (mkF M.m 10 #[.val (.ref o), .val (.long key), .second, .unset, .unset] [(.int k), (.int (64 : Int32))]))
  refine p_isub B5 d8_10 (pc' := 11) rfl rfl ?_
  refine p_istoreN B5 d8_11 (pc' := 12) rfl (Ls' := #[.val (.ref o), .val (.long key), .second, .val (.int ((64 : Int32) - k)), .unset]) rfl ?_
  refine p_lloadN B5 d8_12 (pc' := 13) rfl rfl ?_
  refine r_ldcJ B5 d8_13 (pc' := 16) rfl (W51 B5.gw) ?_
  refine p_lmul B5 d8_16 (pc' := 17) rfl ?_
  refine p_iloadN B5 d8_17 (pc' := 18) rfl rfl ?_
  refine p_lushr B5 d8_18 (pc' := 19) rfl ?_
  refine p_l2i B5 d8_19 (pc' := 20) rfl ?_
  refine p_istore B5 d8_20 (pc' := 22) rfl (Ls' := #[.val (.ref o), .val (.long key), .second, .val (.int ((64 : Int32) - k)), .val (.int (((((key * (-7046029254386353131 : Int64))).toUInt64 >>> (((64 : Int32) - k) &&& 0x3f).toInt64.toUInt64).toInt64)).toInt32)]) rfl ?_
  show Fn g D8 M _ (T3.setTop (mkF M.m 22 #[.val (.ref o), .val (.long key), .second, .val (.int ((64 : Int32) - k)), .val (.int (hI key k))] []))
  rw [hI_0 hC key]
  exact so_loop W o ka va n u key hk hC hl H Lt _ nn i Rc nn 0 (by omega) B5
theorem ef_ad (o : Addr) (f t : Int32) (am : Int64) (m : MethodId) : entryFrame m #[(.ref o), (.int f), (.int t), (.double (FP.l2d am))] 8 = mkF m 0 #[.val (.ref o), .val (.int f), .val (.int t), .val (.double (FP.l2d am)), .second, .unset, .unset, .unset] [] := by first | (simp [entryFrame, mkF, argsToLocals, Value.category]; done) | rfl
abbrev D7 : DD := (⟨"com/example/keys_to_peers/keystopeers/placement/LeaveFlows", "add", "(IID)V"⟩, prog_34_method_3_code, 8, none, { frames := 2, cells := 0, slots := 0, locals := 30 })
theorem ad53 {g : GG} (W : GW g) (o ka va : Addr) (f t : Int32) (am : Int64) (u n n' : Int32) {cap : Nat} {k : Int32} (hC : CP cap k) {ks ks' zs : List Int64} (hl : ks'.length = cap) (lz : zs.length = cap) {i : Nat} {z : Int64} (hz : zs[i]? = some z) (bz : Jvm.RoadKit.B53 z) (ba : Jvm.RoadKit.B53 am) (hi : i < cap) (hi2 : i < 2048) (hks : ks' = ks.set i (ky f t u)) (hn : n' = n ∨ n' = n + 1) (hn0 : 0 ≤ n.toInt) (hn2 : n.toInt ≤ 2) (H : List Ent) (Lt : List SE) {M : MM} {T : State} (B : RH g D7 M T (o_LeaveFlows o (.long u.toInt64) (.ref ka) (.ref va) (.int n') :: (ka, .inr (.long, "[J", (ks'.map Value.long))) :: (va, .inr (.double, "[D", (zs.map dV))) :: H) Lt 0 0) : Fn g D7 M (fun v vm h => ∃ n', v = none ∧ (n' = n ∨ n' = n + 1) ∧ Hp g vm h (o_LeaveFlows o (.long u.toInt64) (.ref ka) (.ref va) (.int n') :: (ka, .inr (.long, "[J", ((ks.set i (ky f t u)).map Value.long))) :: (va, .inr (.double, "[D", ((zs.set i (z + am)).map dV))) :: H) Lt) (T.setTop (mkF M.m 53 #[.val (.ref o), .val (.int f), .val (.int t), .val (.double (FP.l2d am)), .second, .val (.long (ky f t u)), .second, .val (.int (Int32.ofNat i))] [])) := by
  have hlen : (ks'.map Value.long).length = cap := by rw [List.length_map, hl]
  obtain ⟨hn0, hn3⟩ := size1 hn0 hn2 (by decide) hn
  rw [← hks]
  refine p_aloadN B d7_53 (pc' := 54) rfl rfl rfl ?_
  refine r_get B d7_54 (pc' := 57) rfl (host := "") (Or.inl (W30 B.gw)) Via.refl (v := (.ref va)) (fO (i := 0) (j := 2) rfl rfl) ?_
  intro T1 B2
  refine p_iload B2 d7_57 (pc' := 59) rfl rfl ?_
  refine p_dup2 B2 d7_59 (pc' := 60) rfl rfl rfl ?_
  refine r_aget B2 d7_60 rfl (pc' := 61) rfl (aH (i := 2) rfl) (k := i) rfl (v := (.double (FP.l2d z))) (mapD hz) ?_
  refine p_dloadN B2 d7_61 (pc' := 62) rfl rfl ?_
  refine p_dadd B2 d7_62 (pc' := 63) rfl (Jvm.RoadKit.nn_w (Jvm.RoadKit.dadd_w bz ba)) (v := FP.l2d (z + am)) (Jvm.RoadKit.dadd_w bz ba) ?_
  refine r_dastore B2 d7_63 (pc' := 64) rfl (i := 2) rfl (cl_i hi2).1 (k := i) (cl_i hi2).2 (by rw [List.length_map]; omega) (H' := (o_LeaveFlows o (.long u.toInt64) (.ref ka) (.ref va) (.int n') :: (ka, .inr (.long, "[J", (ks'.map Value.long))) :: (va, .inr (.double, "[D", ((zs.set i (z + am)).map dV))) :: H)) (by rw [List.map_set]; rfl) ?_
  intro T3 B4
  refine r_ldcJ B4 d7_64 (pc' := 67) rfl (W24 B4.gw) ?_
  refine p_aloadN B4 d7_67 (pc' := 68) rfl rfl rfl ?_
  refine r_get B4 d7_68 (pc' := 71) rfl (host := "") (Or.inl (W52 B4.gw)) Via.refl (v := (.int n')) (fO (i := 0) (j := 3) rfl rfl) ?_
  intro T5 B6
  refine p_i2l B6 d7_71 (pc' := 72) rfl ?_
  refine p_lmul B6 d7_72 (pc' := 73) rfl ?_
  refine r_ldcJ B6 d7_73 (pc' := 76) rfl (W25 B6.gw) ?_
  refine p_aloadN B6 d7_76 (pc' := 77) rfl rfl rfl ?_
  refine r_get B6 d7_77 (pc' := 80) rfl (host := "") (Or.inl (W27 B6.gw)) Via.refl (v := (.ref ka)) (fO (i := 0) (j := 1) rfl rfl) ?_
  intro T7 B8
  refine r_alen B8 d7_80 (pc' := 81) rfl (aH (i := 1) rfl) (z := (Int32.ofNat (ks'.map Value.long).length)) rfl ?_
  rw [hlen]
  refine p_i2l B8 d7_81 (pc' := 82) rfl ?_
  refine p_lmul B8 d7_82 (pc' := 83) rfl ?_
  refine p_lcmp B8 d7_83 (pc' := 84) rfl ?_
  refine b_ifT B8 d7_84 (pc' := 91) (small hC hn0 hn3) (by decide) (by decide) ?_
  exact r_ret B8 d7_91 rfl (by decide) (by decide) (fun vm h P => ⟨n', rfl, hn, P⟩)
theorem k_ad {g : GG} (W : GW g) (o ka va : Addr) (f t u n : Int32) (am : Int64) (hk : ky f t u ≠ -1) {cap : Nat} {k : Int32} (hC : CP cap k) {ks zs : List Int64} (hl : ks.length = cap) (lz : zs.length = cap) (nn i : Nat) {k0 z : Int64} (Rc : Rch cap k ks (ky f t u) nn i) (h0 : ks[i]? = some k0) (hz : zs[i]? = some z) (hi2 : i < 2048) (bz : Jvm.RoadKit.B53 z) (ba : Jvm.RoadKit.B53 am) (hn0 : 0 ≤ n.toInt) (hn2 : n.toInt ≤ 2) (H : List Ent) (Lt : List SE) : Ct g D7 #[.ref o, .int f, .int t, .double (FP.l2d am)] (o_LeaveFlows o (.long u.toInt64) (.ref ka) (.ref va) (.int n) :: (ka, .inr (.long, "[J", (ks.map Value.long))) :: (va, .inr (.double, "[D", (zs.map dV))) :: H) Lt (fun v vm h => ∃ n', v = none ∧ (n' = n ∨ n' = n + 1) ∧ Hp g vm h (o_LeaveFlows o (.long u.toInt64) (.ref ka) (.ref va) (.int n') :: (ka, .inr (.long, "[J", ((ks.set i (ky f t u)).map Value.long))) :: (va, .inr (.double, "[D", ((zs.set i (z + am)).map dV))) :: H) Lt) := by
  have hlen : (ks.map Value.long).length = cap := by rw [List.length_map, hl]
  have hi : i < cap := by have := (List.getElem?_eq_some_iff.mp h0).1; omega
  refine CtW.body W (by decide +kernel) (ef_ad o f t am) ?_
  intro M T B
  refine p_iloadN B d7_0 (pc' := 1) rfl rfl ?_
  refine p_i2l B d7_1 (pc' := 2) rfl ?_
  refine p_aloadN B d7_2 (pc' := 3) rfl rfl rfl ?_
  refine r_get B d7_3 (pc' := 6) rfl (host := "") (Or.inl (W22 B.gw)) Via.refl (v := (.long u.toInt64)) (fO (i := 0) (j := 0) rfl rfl) ?_
  intro T1 B2
  refine p_lmul B2 d7_6 (pc' := 7) rfl ?_
  refine p_iloadN B2 d7_7 (pc' := 8) rfl rfl ?_
  refine p_i2l B2 d7_8 (pc' := 9) rfl ?_
  refine p_ladd B2 d7_9 (pc' := 10) rfl ?_
  show Fn g D7 M _ (T1.setTop (mkF M.m 10 #[.val (.ref o), .val (.int f), .val (.int t), .val (.double (FP.l2d am)), .second, .unset, .unset, .unset] [(.long (ky f t u))]))
  refine p_lstore B2 d7_10 (pc' := 12) rfl (Ls' := #[.val (.ref o), .val (.int f), .val (.int t), .val (.double (FP.l2d am)), .second, .val (.long (ky f t u)), .second, .unset]) rfl ?_
  refine p_aloadN B2 d7_12 (pc' := 13) rfl rfl rfl ?_
  refine p_lload B2 d7_13 (pc' := 15) rfl rfl ?_
  refine r_private (D' := D8) B2 d7_15 (pc' := 18) rfl (W42 B2.gw) (W44 B2.gw) (W14 B2.gw) (W43 B2.gw) (W15 B2.gw) (W45 B2.gw) (by decide) (fE (i := 0) rfl) (k_so W o ka va _ _ _ hk hC hl _ _ nn i Rc) (argsL := [(.long (ky f t u))]) (rest := []) rfl pd2 rfl rfl rfl (W := 0) rfl (by decide) (by decide) (cs' := 0) rfl (ss' := 0) rfl (by decide) (by decide) ?_
  intro T3 v4 B5
  replace B5 := Rn.and B5
  obtain ⟨rfl, B5⟩ := B5
  show Fn g D7 M _ (T3.setTop (mkF M.m 18 #[.val (.ref o), .val (.int f), .val (.int t), .val (.double (FP.l2d am)), .second, .val (.long (ky f t u)), .second, .unset] [(.int (Int32.ofNat i))]))
  refine p_istore B5 d7_18 (pc' := 20) rfl (Ls' := #[.val (.ref o), .val (.int f), .val (.int t), .val (.double (FP.l2d am)), .second, .val (.long (ky f t u)), .second, .val (.int (Int32.ofNat i))]) rfl ?_
  refine p_aloadN B5 d7_20 (pc' := 21) rfl rfl rfl ?_
  refine r_get B5 d7_21 (pc' := 24) rfl (host := "") (Or.inl (W27 B5.gw)) Via.refl (v := (.ref ka)) (fO (i := 0) (j := 1) rfl rfl) ?_
  intro T6 B7
  refine p_iload B7 d7_24 (pc' := 26) rfl rfl ?_
  refine r_aget B7 d7_26 rfl (pc' := 27) rfl (aH (i := 1) rfl) (k := i) rfl (v := (.long k0)) (mapL h0) ?_
  refine r_ldcJ B7 d7_27 (pc' := 30) rfl (W32 B7.gw) ?_
  refine p_lcmp B7 d7_30 (pc' := 31) rfl ?_
  by_cases q : k0 = -1
  · refine b_ifF B7 d7_31 (pc' := 34) rfl ((lw_eq _ _).mpr q) ?_
    refine p_aloadN B7 d7_34 (pc' := 35) rfl rfl rfl ?_
    refine r_get B7 d7_35 (pc' := 38) rfl (host := "") (Or.inl (W27 B7.gw)) Via.refl (v := (.ref ka)) (fO (i := 0) (j := 1) rfl rfl) ?_
    intro T8 B9
    refine p_iload B9 d7_38 (pc' := 40) rfl rfl ?_
    refine p_lload B9 d7_40 (pc' := 42) rfl rfl ?_
    refine r_lastore B9 d7_42 (pc' := 43) rfl (i := 1) rfl (cl_i hi2).1 (k := i) (cl_i hi2).2 (by rw [hlen]; omega) (H' := (o_LeaveFlows o (.long u.toInt64) (.ref ka) (.ref va) (.int n) :: (ka, .inr (.long, "[J", ((ks.set i (ky f t u)).map Value.long))) :: (va, .inr (.double, "[D", (zs.map dV))) :: H)) (by rw [List.map_set]; rfl) ?_
    intro T10 B11
    refine p_aloadN B11 d7_43 (pc' := 44) rfl rfl rfl ?_
    refine p_dup B11 d7_44 (pc' := 45) rfl rfl ?_
    refine r_get B11 d7_45 (pc' := 48) rfl (host := "") (Or.inl (W52 B11.gw)) Via.refl (v := (.int n)) (fO (i := 0) (j := 3) rfl rfl) ?_
    intro T12 B13
    refine p_iconst B13 d7_48 (pc' := 49) rfl (v := (1 : Int32)) (by decide) ?_
    refine p_iadd B13 d7_49 (pc' := 50) rfl rfl ?_
    refine r_put B13 d7_50 (pc' := 53) rfl (host := "") (Or.inl (W52 B13.gw)) Via.refl (i := 0) (j := 3) rfl rfl (Or.inl (W53 B13.gw)) (W14 B13.gw) (ty := .int) (by decide) rfl rfl (H' := (o_LeaveFlows o (.long u.toInt64) (.ref ka) (.ref va) (.int (n + (1 : Int32))) :: (ka, .inr (.long, "[J", ((ks.set i (ky f t u)).map Value.long))) :: (va, .inr (.double, "[D", (zs.map dV))) :: H)) rfl ?_
    intro T14 B15
    exact ad53 W o ka va f t am u n _ hC (ks := ks) (ks' := ks.set i (ky f t u)) (by rw [List.length_set]; exact hl) lz hz bz ba hi hi2 rfl (Or.inr rfl) hn0 hn2 H Lt B15
  · refine b_ifT B7 d7_31 (pc' := 53) (fun r => q ((lw_eq _ _).mp r)) (by decide) (by decide) ?_
    exact ad53 W o ka va f t am u n n hC (ks := ks) (ks' := ks) hl lz hz bz ba hi hi2 (set_same (by rw [h0, (Rc.or h0).resolve_left q])).symm (Or.inl rfl) hn0 hn2 H Lt B7
theorem ef_ge (o : Addr) (f t : Int32) (m : MethodId) : entryFrame m #[(.ref o), (.int f), (.int t)] 4 = mkF m 0 #[.val (.ref o), .val (.int f), .val (.int t), .unset] [] := by first | (simp [entryFrame, mkF, argsToLocals, Value.category]; done) | rfl
abbrev D10 : DD := (⟨"com/example/keys_to_peers/keystopeers/placement/LeaveFlows", "get", "(II)D"⟩, prog_34_method_2_code, 4, (some .double), { frames := 2, cells := 0, slots := 0, locals := 30 })
theorem k_ge {g : GG} (W : GW g) (o ka va : Addr) (f t u n : Int32) (hk : ky f t u ≠ -1) {cap : Nat} {k : Int32} (hC : CP cap k) {ks zs : List Int64} (hl : ks.length = cap) (nn i : Nat) {k0 r : Int64} (Rc : Rch cap k ks (ky f t u) nn i) (h0 : ks[i]? = some k0) (hr : (k0 = -1 → r = 0) ∧ (k0 ≠ -1 → zs[i]? = some r)) (H : List Ent) (Lt : List SE) : Ct g D10 #[.ref o, .int f, .int t] (o_LeaveFlows o (.long u.toInt64) (.ref ka) (.ref va) (.int n) :: (ka, .inr (.long, "[J", (ks.map Value.long))) :: (va, .inr (.double, "[D", (zs.map dV))) :: H) Lt (fun v vm h => v = some (.double (FP.l2d r)) ∧ Hp g vm h (o_LeaveFlows o (.long u.toInt64) (.ref ka) (.ref va) (.int n) :: (ka, .inr (.long, "[J", (ks.map Value.long))) :: (va, .inr (.double, "[D", (zs.map dV))) :: H) Lt) := by
  refine CtW.body W (by decide +kernel) (ef_ge o f t) ?_
  intro M T B
  refine p_aloadN B d10_0 (pc' := 1) rfl rfl rfl ?_
  refine p_iloadN B d10_1 (pc' := 2) rfl rfl ?_
  refine p_i2l B d10_2 (pc' := 3) rfl ?_
  refine p_aloadN B d10_3 (pc' := 4) rfl rfl rfl ?_
  refine r_get B d10_4 (pc' := 7) rfl (host := "") (Or.inl (W22 B.gw)) Via.refl (v := (.long u.toInt64)) (fO (i := 0) (j := 0) rfl rfl) ?_
  intro T1 B2
  refine p_lmul B2 d10_7 (pc' := 8) rfl ?_
  refine p_iloadN B2 d10_8 (pc' := 9) rfl rfl ?_
  refine p_i2l B2 d10_9 (pc' := 10) rfl ?_
  refine p_ladd B2 d10_10 (pc' := 11) rfl ?_
  show Fn g D10 M _ (T1.setTop (mkF M.m 11 #[.val (.ref o), .val (.int f), .val (.int t), .unset] [(.long (ky f t u)), (.ref o)]))
  refine r_private (D' := D8) B2 d10_11 (pc' := 14) rfl (W42 B2.gw) (W44 B2.gw) (W14 B2.gw) (W43 B2.gw) (W15 B2.gw) (W45 B2.gw) (by decide) (fE (i := 0) rfl) (k_so W o ka va _ _ _ hk hC hl _ _ nn i Rc) (argsL := [(.long (ky f t u))]) (rest := []) rfl pd2 rfl rfl rfl (W := 0) rfl (by decide) (by decide) (cs' := 0) rfl (ss' := 0) rfl (by decide) (by decide) ?_
  intro T3 v4 B5
  replace B5 := Rn.and B5
  obtain ⟨rfl, B5⟩ := B5
  show Fn g D10 M _ (T3.setTop (mkF M.m 14 #[.val (.ref o), .val (.int f), .val (.int t), .unset] [(.int (Int32.ofNat i))]))
  refine p_istoreN B5 d10_14 (pc' := 15) rfl (Ls' := #[.val (.ref o), .val (.int f), .val (.int t), .val (.int (Int32.ofNat i))]) rfl ?_
  refine p_aloadN B5 d10_15 (pc' := 16) rfl rfl rfl ?_
  refine r_get B5 d10_16 (pc' := 19) rfl (host := "") (Or.inl (W27 B5.gw)) Via.refl (v := (.ref ka)) (fO (i := 0) (j := 1) rfl rfl) ?_
  intro T6 B7
  refine p_iloadN B7 d10_19 (pc' := 20) rfl rfl ?_
  refine r_aget B7 d10_20 rfl (pc' := 21) rfl (aH (i := 1) rfl) (k := i) rfl (v := (.long k0)) (mapL h0) ?_
  refine r_ldcJ B7 d10_21 (pc' := 24) rfl (W32 B7.gw) ?_
  refine p_lcmp B7 d10_24 (pc' := 25) rfl ?_
  by_cases q : k0 = -1
  · refine b_ifF B7 d10_25 (pc' := 28) rfl ((lw_eq _ _).mpr q) ?_
    refine p_dconst0 B7 d10_28 (pc' := 29) rfl (v := (FP.l2d 0)) (by decide +kernel) ?_
    refine b_goto B7 d10_29 (pc' := 38) (by decide) (by decide) ?_
    exact r_retd B7 d10_38 rfl (by decide) (by decide) (fun vm h P => ⟨by rw [hr.1 q], P⟩)
  · refine b_ifT B7 d10_25 (pc' := 32) (fun r => q ((lw_eq _ _).mp r)) (by decide) (by decide) ?_
    refine p_aloadN B7 d10_32 (pc' := 33) rfl rfl rfl ?_
    refine r_get B7 d10_33 (pc' := 36) rfl (host := "") (Or.inl (W30 B7.gw)) Via.refl (v := (.ref va)) (fO (i := 0) (j := 2) rfl rfl) ?_
    intro T8 B9
    refine p_iloadN B9 d10_36 (pc' := 37) rfl rfl ?_
    refine r_aget B9 d10_37 rfl (pc' := 38) rfl (aH (i := 2) rfl) (k := i) rfl (v := (.double (FP.l2d r))) (mapD (hr.2 q)) ?_
    exact r_retd B9 d10_38 rfl (by decide) (by decide) (fun vm h P => ⟨rfl, P⟩)
abbrev D0 : DD := (x, code, maxLocals, ret, room_1)
theorem ef_law (p0 : Int32) (p1 p2 p3 p4 : Int64) (p5 : Int32) (m : MethodId) : entryFrame m #[(.int p0), (.long p1), (.long p2), (.long p3), (.long p4), (.int p5)] maxLocals = mkF m 0 #[.val (.int p0), .val (.long p1), .second, .val (.long p2), .second, .val (.long p3), .second, .val (.long p4), .second, .val (.int p5), .unset, .unset, .unset, .unset, .unset, .unset, .unset, .unset, .unset, .unset, .unset, .unset, .unset, .unset, .unset, .unset, .unset, .unset, .unset, .unset, .unset, .unset, .unset, .unset, .unset, .unset, .unset, .unset] [] := by first | (simp [entryFrame, mkF, argsToLocals, Value.category, maxLocals]; done) | rfl
theorem k_law {g : GG} (W : GW g) (p0 : Int32) (p1 p2 p3 p4 : Int64) (p5 : Int32) : CtW g D0 tables_1 #[.int p0, .long p1, .long p2, .long p3, .long p4, .int p5] [] [] (fun v _ _ => v = some (.int 1)) := by
  refine CtW.body W (by decide +kernel) (ef_law p0 p1 p2 p3 p4 p5) ?_
  intro M T B
  refine p_iconst B at_0 (pc' := 1) rfl (v := (1 : Int32)) (by decide) ?_
  refine p_iloadN B at_1 (pc' := 2) rfl rfl ?_
  refine r_ldcI B at_2 (pc' := 4) rfl (W0 B.gw) ?_
  refine p_iand B at_4 (pc' := 5) rfl rfl ?_
  refine r_static (D' := D1) B at_5 (pc' := 8) rfl (W1 B.gw) (W2 B.gw) (W3 B.gw) (W4 B.gw) (by decide) (k_mx W (1 : Int32) (p0 &&& (2147483647 : Int32)) _ _) (argsL := [(.int (1 : Int32)), (.int (p0 &&& (2147483647 : Int32)))]) (rest := []) rfl pd3 rfl rfl rfl (W := 0) rfl (by decide) (by decide) (cs' := 0) rfl (ss' := 0) rfl (by decide) (by decide) ?_
  intro T1 v2 B3
  replace B3 := Rn.and B3
  obtain ⟨rfl, B3⟩ := B3
  obtain ⟨u, eu⟩ : ∃ u, u = (mxI (1 : Int32) (p0 &&& (2147483647 : Int32))) := ⟨_, rfl⟩
  have hu : 1 ≤ u.toInt := eu ▸ mx_1 _
  have hu0 : u.toInt64 ≠ 0 := fun q => by have := c_i2l u; rw [q, show (0 : Int64).toInt = 0 from rfl] at this; omega
  show Fn g D0 M _ (T1.setTop (mkF M.m 8 #[.val (.int p0), .val (.long p1), .second, .val (.long p2), .second, .val (.long p3), .second, .val (.long p4), .second, .val (.int p5), .unset, .unset, .unset, .unset, .unset, .unset, .unset, .unset, .unset, .unset, .unset, .unset, .unset, .unset, .unset, .unset, .unset, .unset, .unset, .unset, .unset, .unset, .unset, .unset, .unset, .unset, .unset, .unset] [(.int (mxI (1 : Int32) (p0 &&& (2147483647 : Int32))))]))
  rw [← eu]
  refine p_istore B3 at_8 (pc' := 10) rfl (Ls' := #[.val (.int p0), .val (.long p1), .second, .val (.long p2), .second, .val (.long p3), .second, .val (.long p4), .second, .val (.int p5), .val (.int u), .unset, .unset, .unset, .unset, .unset, .unset, .unset, .unset, .unset, .unset, .unset, .unset, .unset, .unset, .unset, .unset, .unset, .unset, .unset, .unset, .unset, .unset, .unset, .unset, .unset, .unset, .unset]) rfl ?_
  refine p_lloadN B3 at_10 (pc' := 11) rfl rfl ?_
  refine p_iload B3 at_11 (pc' := 13) rfl rfl ?_
  refine r_static (D' := D2) B3 at_13 (pc' := 16) rfl (W5 B3.gw) (W6 B3.gw) (W7 B3.gw) (W8 B3.gw) (by decide) (k_fr W p1 u hu0 _ _) (argsL := [(.long p1), (.int u)]) (rest := []) rfl pd4 rfl rfl rfl (W := 0) rfl (by decide) (by decide) (cs' := 0) rfl (ss' := 0) rfl (by decide) (by decide) ?_
  intro T4 v5 B6
  replace B6 := Rn.and B6
  obtain ⟨rfl, B6⟩ := B6
  show Fn g D0 M _ (T4.setTop (mkF M.m 16 #[.val (.int p0), .val (.long p1), .second, .val (.long p2), .second, .val (.long p3), .second, .val (.long p4), .second, .val (.int p5), .val (.int u), .unset, .unset, .unset, .unset, .unset, .unset, .unset, .unset, .unset, .unset, .unset, .unset, .unset, .unset, .unset, .unset, .unset, .unset, .unset, .unset, .unset, .unset, .unset, .unset, .unset, .unset, .unset] [(.int (frI p1 u))]))
  obtain ⟨f1, ef1⟩ : ∃ y, y = frI p1 u := ⟨_, rfl⟩
  have hf1 : 0 ≤ f1.toInt ∧ f1.toInt < u.toInt := ef1 ▸ fr_r _ hu
  rw [← ef1]
  refine p_istore B6 at_16 (pc' := 18) rfl (Ls' := #[.val (.int p0), .val (.long p1), .second, .val (.long p2), .second, .val (.long p3), .second, .val (.long p4), .second, .val (.int p5), .val (.int u), .val (.int f1), .unset, .unset, .unset, .unset, .unset, .unset, .unset, .unset, .unset, .unset, .unset, .unset, .unset, .unset, .unset, .unset, .unset, .unset, .unset, .unset, .unset, .unset, .unset, .unset, .unset, .unset]) rfl ?_
  refine p_lloadN B6 at_18 (pc' := 19) rfl rfl ?_
  refine p_iload B6 at_19 (pc' := 21) rfl rfl ?_
  refine r_static (D' := D3) B6 at_21 (pc' := 24) rfl (W10 B6.gw) (W11 B6.gw) (W7 B6.gw) (W12 B6.gw) (by decide) (k_to W p1 u hu0 _ _) (argsL := [(.long p1), (.int u)]) (rest := []) rfl pd4 rfl rfl rfl (W := 0) rfl (by decide) (by decide) (cs' := 0) rfl (ss' := 0) rfl (by decide) (by decide) ?_
  intro T7 v8 B9
  replace B9 := Rn.and B9
  obtain ⟨rfl, B9⟩ := B9
  show Fn g D0 M _ (T7.setTop (mkF M.m 24 #[.val (.int p0), .val (.long p1), .second, .val (.long p2), .second, .val (.long p3), .second, .val (.long p4), .second, .val (.int p5), .val (.int u), .val (.int f1), .unset, .unset, .unset, .unset, .unset, .unset, .unset, .unset, .unset, .unset, .unset, .unset, .unset, .unset, .unset, .unset, .unset, .unset, .unset, .unset, .unset, .unset, .unset, .unset, .unset, .unset] [(.int (toI p1 u))]))
  obtain ⟨t1, et1⟩ : ∃ y, y = toI p1 u := ⟨_, rfl⟩
  have ht1 : 0 ≤ t1.toInt ∧ t1.toInt < u.toInt := et1 ▸ fr_r _ hu
  rw [← et1]
  refine p_istore B9 at_24 (pc' := 26) rfl (Ls' := #[.val (.int p0), .val (.long p1), .second, .val (.long p2), .second, .val (.long p3), .second, .val (.long p4), .second, .val (.int p5), .val (.int u), .val (.int f1), .val (.int t1), .unset, .unset, .unset, .unset, .unset, .unset, .unset, .unset, .unset, .unset, .unset, .unset, .unset, .unset, .unset, .unset, .unset, .unset, .unset, .unset, .unset, .unset, .unset, .unset, .unset]) rfl ?_
  refine p_lloadN B9 at_26 (pc' := 27) rfl rfl ?_
  refine p_iload B9 at_27 (pc' := 29) rfl rfl ?_
  refine r_static (D' := D2) B9 at_29 (pc' := 32) rfl (W5 B9.gw) (W6 B9.gw) (W7 B9.gw) (W8 B9.gw) (by decide) (k_fr W p2 u hu0 _ _) (argsL := [(.long p2), (.int u)]) (rest := []) rfl pd4 rfl rfl rfl (W := 0) rfl (by decide) (by decide) (cs' := 0) rfl (ss' := 0) rfl (by decide) (by decide) ?_
  intro T10 v11 B12
  replace B12 := Rn.and B12
  obtain ⟨rfl, B12⟩ := B12
  show Fn g D0 M _ (T10.setTop (mkF M.m 32 #[.val (.int p0), .val (.long p1), .second, .val (.long p2), .second, .val (.long p3), .second, .val (.long p4), .second, .val (.int p5), .val (.int u), .val (.int f1), .val (.int t1), .unset, .unset, .unset, .unset, .unset, .unset, .unset, .unset, .unset, .unset, .unset, .unset, .unset, .unset, .unset, .unset, .unset, .unset, .unset, .unset, .unset, .unset, .unset, .unset, .unset] [(.int (frI p2 u))]))
  obtain ⟨f2, ef2⟩ : ∃ y, y = frI p2 u := ⟨_, rfl⟩
  have hf2 : 0 ≤ f2.toInt ∧ f2.toInt < u.toInt := ef2 ▸ fr_r _ hu
  rw [← ef2]
  refine p_istore B12 at_32 (pc' := 34) rfl (Ls' := #[.val (.int p0), .val (.long p1), .second, .val (.long p2), .second, .val (.long p3), .second, .val (.long p4), .second, .val (.int p5), .val (.int u), .val (.int f1), .val (.int t1), .val (.int f2), .unset, .unset, .unset, .unset, .unset, .unset, .unset, .unset, .unset, .unset, .unset, .unset, .unset, .unset, .unset, .unset, .unset, .unset, .unset, .unset, .unset, .unset, .unset, .unset]) rfl ?_
  refine p_lloadN B12 at_34 (pc' := 35) rfl rfl ?_
  refine p_iload B12 at_35 (pc' := 37) rfl rfl ?_
  refine r_static (D' := D3) B12 at_37 (pc' := 40) rfl (W10 B12.gw) (W11 B12.gw) (W7 B12.gw) (W12 B12.gw) (by decide) (k_to W p2 u hu0 _ _) (argsL := [(.long p2), (.int u)]) (rest := []) rfl pd4 rfl rfl rfl (W := 0) rfl (by decide) (by decide) (cs' := 0) rfl (ss' := 0) rfl (by decide) (by decide) ?_
  intro T13 v14 B15
  replace B15 := Rn.and B15
  obtain ⟨rfl, B15⟩ := B15
  show Fn g D0 M _ (T13.setTop (mkF M.m 40 #[.val (.int p0), .val (.long p1), .second, .val (.long p2), .second, .val (.long p3), .second, .val (.long p4), .second, .val (.int p5), .val (.int u), .val (.int f1), .val (.int t1), .val (.int f2), .unset, .unset, .unset, .unset, .unset, .unset, .unset, .unset, .unset, .unset, .unset, .unset, .unset, .unset, .unset, .unset, .unset, .unset, .unset, .unset, .unset, .unset, .unset, .unset] [(.int (toI p2 u))]))
  obtain ⟨t2, et2⟩ : ∃ y, y = toI p2 u := ⟨_, rfl⟩
  have ht2 : 0 ≤ t2.toInt ∧ t2.toInt < u.toInt := et2 ▸ fr_r _ hu
  rw [← et2]
  refine p_istore B15 at_40 (pc' := 42) rfl (Ls' := #[.val (.int p0), .val (.long p1), .second, .val (.long p2), .second, .val (.long p3), .second, .val (.long p4), .second, .val (.int p5), .val (.int u), .val (.int f1), .val (.int t1), .val (.int f2), .val (.int t2), .unset, .unset, .unset, .unset, .unset, .unset, .unset, .unset, .unset, .unset, .unset, .unset, .unset, .unset, .unset, .unset, .unset, .unset, .unset, .unset, .unset, .unset, .unset]) rfl ?_
  refine p_lload B15 at_42 (pc' := 44) rfl rfl ?_
  refine p_iload B15 at_44 (pc' := 46) rfl rfl ?_
  refine r_static (D' := D2) B15 at_46 (pc' := 49) rfl (W5 B15.gw) (W6 B15.gw) (W7 B15.gw) (W8 B15.gw) (by decide) (k_fr W p3 u hu0 _ _) (argsL := [(.long p3), (.int u)]) (rest := []) rfl pd4 rfl rfl rfl (W := 0) rfl (by decide) (by decide) (cs' := 0) rfl (ss' := 0) rfl (by decide) (by decide) ?_
  intro T16 v17 B18
  replace B18 := Rn.and B18
  obtain ⟨rfl, B18⟩ := B18
  show Fn g D0 M _ (T16.setTop (mkF M.m 49 #[.val (.int p0), .val (.long p1), .second, .val (.long p2), .second, .val (.long p3), .second, .val (.long p4), .second, .val (.int p5), .val (.int u), .val (.int f1), .val (.int t1), .val (.int f2), .val (.int t2), .unset, .unset, .unset, .unset, .unset, .unset, .unset, .unset, .unset, .unset, .unset, .unset, .unset, .unset, .unset, .unset, .unset, .unset, .unset, .unset, .unset, .unset, .unset] [(.int (frI p3 u))]))
  obtain ⟨f3, ef3⟩ : ∃ y, y = frI p3 u := ⟨_, rfl⟩
  have hf3 : 0 ≤ f3.toInt ∧ f3.toInt < u.toInt := ef3 ▸ fr_r _ hu
  rw [← ef3]
  refine p_istore B18 at_49 (pc' := 51) rfl (Ls' := #[.val (.int p0), .val (.long p1), .second, .val (.long p2), .second, .val (.long p3), .second, .val (.long p4), .second, .val (.int p5), .val (.int u), .val (.int f1), .val (.int t1), .val (.int f2), .val (.int t2), .val (.int f3), .unset, .unset, .unset, .unset, .unset, .unset, .unset, .unset, .unset, .unset, .unset, .unset, .unset, .unset, .unset, .unset, .unset, .unset, .unset, .unset, .unset, .unset]) rfl ?_
  refine p_lload B18 at_51 (pc' := 53) rfl rfl ?_
  refine p_iload B18 at_53 (pc' := 55) rfl rfl ?_
  refine r_static (D' := D3) B18 at_55 (pc' := 58) rfl (W10 B18.gw) (W11 B18.gw) (W7 B18.gw) (W12 B18.gw) (by decide) (k_to W p3 u hu0 _ _) (argsL := [(.long p3), (.int u)]) (rest := []) rfl pd4 rfl rfl rfl (W := 0) rfl (by decide) (by decide) (cs' := 0) rfl (ss' := 0) rfl (by decide) (by decide) ?_
  intro T19 v20 B21
  replace B21 := Rn.and B21
  obtain ⟨rfl, B21⟩ := B21
  show Fn g D0 M _ (T19.setTop (mkF M.m 58 #[.val (.int p0), .val (.long p1), .second, .val (.long p2), .second, .val (.long p3), .second, .val (.long p4), .second, .val (.int p5), .val (.int u), .val (.int f1), .val (.int t1), .val (.int f2), .val (.int t2), .val (.int f3), .unset, .unset, .unset, .unset, .unset, .unset, .unset, .unset, .unset, .unset, .unset, .unset, .unset, .unset, .unset, .unset, .unset, .unset, .unset, .unset, .unset, .unset] [(.int (toI p3 u))]))
  obtain ⟨t3, et3⟩ : ∃ y, y = toI p3 u := ⟨_, rfl⟩
  have ht3 : 0 ≤ t3.toInt ∧ t3.toInt < u.toInt := et3 ▸ fr_r _ hu
  rw [← et3]
  refine p_istore B21 at_58 (pc' := 60) rfl (Ls' := #[.val (.int p0), .val (.long p1), .second, .val (.long p2), .second, .val (.long p3), .second, .val (.long p4), .second, .val (.int p5), .val (.int u), .val (.int f1), .val (.int t1), .val (.int f2), .val (.int t2), .val (.int f3), .val (.int t3), .unset, .unset, .unset, .unset, .unset, .unset, .unset, .unset, .unset, .unset, .unset, .unset, .unset, .unset, .unset, .unset, .unset, .unset, .unset, .unset, .unset]) rfl ?_
  refine p_lload B21 at_60 (pc' := 62) rfl rfl ?_
  refine p_iload B21 at_62 (pc' := 64) rfl rfl ?_
  refine r_static (D' := D2) B21 at_64 (pc' := 67) rfl (W5 B21.gw) (W6 B21.gw) (W7 B21.gw) (W8 B21.gw) (by decide) (k_fr W p4 u hu0 _ _) (argsL := [(.long p4), (.int u)]) (rest := []) rfl pd4 rfl rfl rfl (W := 0) rfl (by decide) (by decide) (cs' := 0) rfl (ss' := 0) rfl (by decide) (by decide) ?_
  intro T22 v23 B24
  replace B24 := Rn.and B24
  obtain ⟨rfl, B24⟩ := B24
  show Fn g D0 M _ (T22.setTop (mkF M.m 67 #[.val (.int p0), .val (.long p1), .second, .val (.long p2), .second, .val (.long p3), .second, .val (.long p4), .second, .val (.int p5), .val (.int u), .val (.int f1), .val (.int t1), .val (.int f2), .val (.int t2), .val (.int f3), .val (.int t3), .unset, .unset, .unset, .unset, .unset, .unset, .unset, .unset, .unset, .unset, .unset, .unset, .unset, .unset, .unset, .unset, .unset, .unset, .unset, .unset, .unset] [(.int (frI p4 u))]))
  obtain ⟨f4, ef4⟩ : ∃ y, y = frI p4 u := ⟨_, rfl⟩
  have hf4 : 0 ≤ f4.toInt ∧ f4.toInt < u.toInt := ef4 ▸ fr_r _ hu
  rw [← ef4]
  refine p_istore B24 at_67 (pc' := 69) rfl (Ls' := #[.val (.int p0), .val (.long p1), .second, .val (.long p2), .second, .val (.long p3), .second, .val (.long p4), .second, .val (.int p5), .val (.int u), .val (.int f1), .val (.int t1), .val (.int f2), .val (.int t2), .val (.int f3), .val (.int t3), .val (.int f4), .unset, .unset, .unset, .unset, .unset, .unset, .unset, .unset, .unset, .unset, .unset, .unset, .unset, .unset, .unset, .unset, .unset, .unset, .unset, .unset]) rfl ?_
  refine p_lload B24 at_69 (pc' := 71) rfl rfl ?_
  refine p_iload B24 at_71 (pc' := 73) rfl rfl ?_
  refine r_static (D' := D3) B24 at_73 (pc' := 76) rfl (W10 B24.gw) (W11 B24.gw) (W7 B24.gw) (W12 B24.gw) (by decide) (k_to W p4 u hu0 _ _) (argsL := [(.long p4), (.int u)]) (rest := []) rfl pd4 rfl rfl rfl (W := 0) rfl (by decide) (by decide) (cs' := 0) rfl (ss' := 0) rfl (by decide) (by decide) ?_
  intro T25 v26 B27
  replace B27 := Rn.and B27
  obtain ⟨rfl, B27⟩ := B27
  show Fn g D0 M _ (T25.setTop (mkF M.m 76 #[.val (.int p0), .val (.long p1), .second, .val (.long p2), .second, .val (.long p3), .second, .val (.long p4), .second, .val (.int p5), .val (.int u), .val (.int f1), .val (.int t1), .val (.int f2), .val (.int t2), .val (.int f3), .val (.int t3), .val (.int f4), .unset, .unset, .unset, .unset, .unset, .unset, .unset, .unset, .unset, .unset, .unset, .unset, .unset, .unset, .unset, .unset, .unset, .unset, .unset, .unset] [(.int (toI p4 u))]))
  obtain ⟨t4, et4⟩ : ∃ y, y = toI p4 u := ⟨_, rfl⟩
  have ht4 : 0 ≤ t4.toInt ∧ t4.toInt < u.toInt := et4 ▸ fr_r _ hu
  rw [← et4]
  refine p_istore B27 at_76 (pc' := 78) rfl (Ls' := #[.val (.int p0), .val (.long p1), .second, .val (.long p2), .second, .val (.long p3), .second, .val (.long p4), .second, .val (.int p5), .val (.int u), .val (.int f1), .val (.int t1), .val (.int f2), .val (.int t2), .val (.int f3), .val (.int t3), .val (.int f4), .val (.int t4), .unset, .unset, .unset, .unset, .unset, .unset, .unset, .unset, .unset, .unset, .unset, .unset, .unset, .unset, .unset, .unset, .unset, .unset, .unset]) rfl ?_
  refine r_new B27 at_78 (pc' := 81) rfl (W13 B27.gw) (W14 B27.gw) (W15 B27.gw) (Ly_o_LeaveFlows B27.gw) (by decide) (cs' := 1) rfl (ss' := 4) rfl (by decide) (by decide) ?_
  intro T28 a30 B29
  refine p_dup B29 at_81 (pc' := 82) rfl rfl ?_
  refine p_iload B29 at_82 (pc' := 84) rfl rfl ?_
  refine p_iload B29 at_84 (pc' := 86) rfl rfl ?_
  refine p_sipush B29 at_86 (pc' := 89) rfl (v := (1023 : Int32)) (by decide) ?_
  refine p_iand B29 at_89 (pc' := 90) rfl rfl ?_
  refine r_special (D' := D4) B29 at_90 (pc' := 93) rfl rfl rfl (W16 B29.gw) (W17 B29.gw) (W15 B29.gw) (W18 B29.gw) (by decide) (k_li W a30 u (p5 &&& (1023 : Int32)) (e_r p5) _ _) (a := a30) (argsL := [(.int u), (.int (p5 &&& (1023 : Int32)))]) (rest := [(.ref a30)]) rfl pd5 rfl rfl rfl (W := 1) rfl (by decide) (by decide) (cs' := 3) rfl (ss' := 4100) rfl (by decide) (by decide) ?_
  intro T31 v32 B33
  replace B33 := Rn.ex B33
  obtain ⟨cap, B33⟩ := B33
  replace B33 := Rn.ex B33
  obtain ⟨k, B33⟩ := B33
  replace B33 := Rn.ex B33
  obtain ⟨ka, B33⟩ := B33
  replace B33 := Rn.ex B33
  obtain ⟨va, B33⟩ := B33
  replace B33 := Rn.and B33
  obtain ⟨rfl, B33⟩ := B33
  replace B33 := Rn.and B33
  obtain ⟨hC, B33⟩ := B33
  have I0 := inv0 cap k
  show Fn g D0 M _ (T31.setTop (mkF M.m 93 #[.val (.int p0), .val (.long p1), .second, .val (.long p2), .second, .val (.long p3), .second, .val (.long p4), .second, .val (.int p5), .val (.int u), .val (.int f1), .val (.int t1), .val (.int f2), .val (.int t2), .val (.int f3), .val (.int t3), .val (.int f4), .val (.int t4), .unset, .unset, .unset, .unset, .unset, .unset, .unset, .unset, .unset, .unset, .unset, .unset, .unset, .unset, .unset, .unset, .unset, .unset, .unset] [(.ref a30)]))
  have hn0 : 0 ≤ (0 : Int32).toInt ∧ (0 : Int32).toInt ≤ 0 := by decide
  have hk1 := ky_ne hu hf1 ht1
  have hk2 := ky_ne hu hf2 ht2
  have hk3 := ky_ne hu hf3 ht3
  have hk4 := ky_ne hu hf4 ht4
  refine p_astore B33 at_93 (pc' := 95) rfl rfl (Ls' := #[.val (.int p0), .val (.long p1), .second, .val (.long p2), .second, .val (.long p3), .second, .val (.long p4), .second, .val (.int p5), .val (.int u), .val (.int f1), .val (.int t1), .val (.int f2), .val (.int t2), .val (.int f3), .val (.int t3), .val (.int f4), .val (.int t4), .val (.ref a30), .unset, .unset, .unset, .unset, .unset, .unset, .unset, .unset, .unset, .unset, .unset, .unset, .unset, .unset, .unset, .unset, .unset, .unset]) rfl ?_
  refine p_aload B33 at_95 (pc' := 97) rfl rfl rfl ?_
  refine p_iload B33 at_97 (pc' := 99) rfl rfl ?_
  refine p_iload B33 at_99 (pc' := 101) rfl rfl ?_
  refine p_dconst1 B33 at_101 (pc' := 102) rfl (v := (FP.l2d 1)) (by decide +kernel) ?_
  obtain ⟨nn1, i1, k01, z1, Rc1, hk01, hz1, hi1⟩ := inv_at hC I0 (by simp) (ky f1 t1 u)
  obtain ⟨zM1, I1⟩ := add_inv I0 1 hk1 Rc1 hk01 hz1
  refine r_virtual (D' := D7) B33 at_102 (pc' := 105) rfl (W37 B33.gw) (W38 B33.gw) (W40 B33.gw) (fun vm0 hZ => notFace_of_selects (args := #[]) (mvT hZ (W40 B33.gw))) (W39 B33.gw) (W15 B33.gw) (W41 B33.gw) (by decide) (fE (i := 0) rfl) (k_ad W a30 ka va f1 t1 u (0 : Int32) 1 hk1 hC I0.1 I0.2.1 nn1 i1 Rc1 hk01 hz1 hi1 (by rw [zM1]; exact b53_0 (ky f1 t1 u)) ⟨by decide, by decide⟩ hn0.1 (by have := hn0.2; omega) _ _) (argsL := [(.int f1), (.int t1), (.double (FP.l2d 1))]) (rest := []) rfl pd6 rfl rfl rfl (W := 0) rfl (by decide) (by decide) (cs' := 3) rfl (ss' := 4100) rfl (by decide) (by decide) ?_
  intro T34 v35 B36
  replace B36 := Rn.ex B36
  obtain ⟨n1, B36⟩ := B36
  replace B36 := Rn.and B36
  obtain ⟨rfl, B36⟩ := B36
  replace B36 := Rn.and B36
  obtain ⟨hs1, B36⟩ := B36
  have hn1 := size1 hn0.1 hn0.2 (by decide) hs1
  show Fn g D0 M _ (T34.setTop (mkF M.m 105 #[.val (.int p0), .val (.long p1), .second, .val (.long p2), .second, .val (.long p3), .second, .val (.long p4), .second, .val (.int p5), .val (.int u), .val (.int f1), .val (.int t1), .val (.int f2), .val (.int t2), .val (.int f3), .val (.int t3), .val (.int f4), .val (.int t4), .val (.ref a30), .unset, .unset, .unset, .unset, .unset, .unset, .unset, .unset, .unset, .unset, .unset, .unset, .unset, .unset, .unset, .unset, .unset, .unset] []))
  refine p_aload B36 at_105 (pc' := 107) rfl rfl rfl ?_
  refine p_iload B36 at_107 (pc' := 109) rfl rfl ?_
  refine p_iload B36 at_109 (pc' := 111) rfl rfl ?_
  refine r_ldcD B36 at_111 (pc' := 114) rfl (W54 B36.gw) ?_
  rw [show (4611686018427387904 : UInt64) = FP.l2d 2 from by decide +kernel]
  obtain ⟨nn2, i2, k02, z2, Rc2, hk02, hz2, hi2⟩ := inv_at hC I1 (by simp) (ky f2 t2 u)
  obtain ⟨zM2, I2⟩ := add_inv I1 2 hk2 Rc2 hk02 hz2
  refine r_virtual (D' := D7) B36 at_114 (pc' := 117) rfl (W37 B36.gw) (W38 B36.gw) (W40 B36.gw) (fun vm0 hZ => notFace_of_selects (args := #[]) (mvT hZ (W40 B36.gw))) (W39 B36.gw) (W15 B36.gw) (W41 B36.gw) (by decide) (fE (i := 0) rfl) (k_ad W a30 ka va f2 t2 u n1 2 hk2 hC I1.1 I1.2.1 nn2 i2 Rc2 hk02 hz2 hi2 (by rw [zM2]; exact b53_1 (ky f1 t1 u) (ky f2 t2 u)) ⟨by decide, by decide⟩ hn1.1 (by have := hn1.2; omega) _ _) (argsL := [(.int f2), (.int t2), (.double (FP.l2d 2))]) (rest := []) rfl pd6 rfl rfl rfl (W := 0) rfl (by decide) (by decide) (cs' := 3) rfl (ss' := 4100) rfl (by decide) (by decide) ?_
  intro T37 v38 B39
  replace B39 := Rn.ex B39
  obtain ⟨n2, B39⟩ := B39
  replace B39 := Rn.and B39
  obtain ⟨rfl, B39⟩ := B39
  replace B39 := Rn.and B39
  obtain ⟨hs2, B39⟩ := B39
  have hn2 := size1 hn1.1 hn1.2 (by decide) hs2
  show Fn g D0 M _ (T37.setTop (mkF M.m 117 #[.val (.int p0), .val (.long p1), .second, .val (.long p2), .second, .val (.long p3), .second, .val (.long p4), .second, .val (.int p5), .val (.int u), .val (.int f1), .val (.int t1), .val (.int f2), .val (.int t2), .val (.int f3), .val (.int t3), .val (.int f4), .val (.int t4), .val (.ref a30), .unset, .unset, .unset, .unset, .unset, .unset, .unset, .unset, .unset, .unset, .unset, .unset, .unset, .unset, .unset, .unset, .unset, .unset] []))
  refine p_aload B39 at_117 (pc' := 119) rfl rfl rfl ?_
  refine p_iload B39 at_119 (pc' := 121) rfl rfl ?_
  refine p_iload B39 at_121 (pc' := 123) rfl rfl ?_
  refine r_ldcD B39 at_123 (pc' := 126) rfl (W55 B39.gw) ?_
  rw [show (4616189618054758400 : UInt64) = FP.l2d 4 from by decide +kernel]
  obtain ⟨nn3, i3, k03, z3, Rc3, hk03, hz3, hi3⟩ := inv_at hC I2 (by simp) (ky f3 t3 u)
  obtain ⟨zM3, I3⟩ := add_inv I2 4 hk3 Rc3 hk03 hz3
  refine r_virtual (D' := D7) B39 at_126 (pc' := 129) rfl (W37 B39.gw) (W38 B39.gw) (W40 B39.gw) (fun vm0 hZ => notFace_of_selects (args := #[]) (mvT hZ (W40 B39.gw))) (W39 B39.gw) (W15 B39.gw) (W41 B39.gw) (by decide) (fE (i := 0) rfl) (k_ad W a30 ka va f3 t3 u n2 4 hk3 hC I2.1 I2.2.1 nn3 i3 Rc3 hk03 hz3 hi3 (by rw [zM3]; exact b53_2 (ky f1 t1 u) (ky f2 t2 u) (ky f3 t3 u)) ⟨by decide, by decide⟩ hn2.1 (by have := hn2.2; omega) _ _) (argsL := [(.int f3), (.int t3), (.double (FP.l2d 4))]) (rest := []) rfl pd6 rfl rfl rfl (W := 0) rfl (by decide) (by decide) (cs' := 3) rfl (ss' := 4100) rfl (by decide) (by decide) ?_
  intro T40 v41 B42
  replace B42 := Rn.ex B42
  obtain ⟨n3, B42⟩ := B42
  replace B42 := Rn.and B42
  obtain ⟨rfl, B42⟩ := B42
  replace B42 := Rn.and B42
  obtain ⟨hs3, B42⟩ := B42
  have hn3 := size1 hn2.1 hn2.2 (by decide) hs3
  show Fn g D0 M _ (T40.setTop (mkF M.m 129 #[.val (.int p0), .val (.long p1), .second, .val (.long p2), .second, .val (.long p3), .second, .val (.long p4), .second, .val (.int p5), .val (.int u), .val (.int f1), .val (.int t1), .val (.int f2), .val (.int t2), .val (.int f3), .val (.int t3), .val (.int f4), .val (.int t4), .val (.ref a30), .unset, .unset, .unset, .unset, .unset, .unset, .unset, .unset, .unset, .unset, .unset, .unset, .unset, .unset, .unset, .unset, .unset, .unset] []))
  obtain ⟨b20, hb20, Kb20⟩ : ∃ b : Int32, Eqv b (ky f1 t1 u) (ky f2 t2 u) ∧ (Fn g D0 M (fun v _ _ => v = some (.int 1)) (T40.setTop (mkF M.m 150 #[.val (.int p0), .val (.long p1), .second, .val (.long p2), .second, .val (.long p3), .second, .val (.long p4), .second, .val (.int p5), .val (.int u), .val (.int f1), .val (.int t1), .val (.int f2), .val (.int t2), .val (.int f3), .val (.int t3), .val (.int f4), .val (.int t4), .val (.ref a30), .val (.int b), .unset, .unset, .unset, .unset, .unset, .unset, .unset, .unset, .unset, .unset, .unset, .unset, .unset, .unset, .unset, .unset, .unset] [])) → Fn g D0 M (fun v _ _ => v = some (.int 1)) (T40.setTop (mkF M.m 129 #[.val (.int p0), .val (.long p1), .second, .val (.long p2), .second, .val (.long p3), .second, .val (.long p4), .second, .val (.int p5), .val (.int u), .val (.int f1), .val (.int t1), .val (.int f2), .val (.int t2), .val (.int f3), .val (.int t3), .val (.int f4), .val (.int t4), .val (.ref a30), .unset, .unset, .unset, .unset, .unset, .unset, .unset, .unset, .unset, .unset, .unset, .unset, .unset, .unset, .unset, .unset, .unset, .unset] []))) := by
    by_cases qf : f1 = f2
    · by_cases qt : t1 = t2
      · refine ⟨1, Or.inl ⟨rfl, by rw [qf, qt]⟩, fun K => ?_⟩
        refine p_iload B42 at_129 (pc' := 131) rfl rfl ?_
        refine p_iload B42 at_131 (pc' := 133) rfl rfl ?_
        refine b_icF B42 at_133 (pc' := 136) rfl qf ?_
        refine p_iload B42 at_136 (pc' := 138) rfl rfl ?_
        refine p_iload B42 at_138 (pc' := 140) rfl rfl ?_
        refine b_icF B42 at_140 (pc' := 143) rfl qt ?_
        refine p_iconst B42 at_143 (pc' := 144) rfl (v := (1 : Int32)) (by decide) ?_
        refine b_goto B42 at_144 (pc' := 148) (by decide) (by decide) ?_
        refine p_istore B42 at_148 (pc' := 150) rfl (Ls' := #[.val (.int p0), .val (.long p1), .second, .val (.long p2), .second, .val (.long p3), .second, .val (.long p4), .second, .val (.int p5), .val (.int u), .val (.int f1), .val (.int t1), .val (.int f2), .val (.int t2), .val (.int f3), .val (.int t3), .val (.int f4), .val (.int t4), .val (.ref a30), .val (.int (1 : Int32)), .unset, .unset, .unset, .unset, .unset, .unset, .unset, .unset, .unset, .unset, .unset, .unset, .unset, .unset, .unset, .unset, .unset]) rfl ?_
        exact K
      · refine ⟨0, Or.inr ⟨rfl, fun r => qt (ky_inj hu hf1 ht1 hf2 ht2 r).2⟩, fun K => ?_⟩
        refine p_iload B42 at_129 (pc' := 131) rfl rfl ?_
        refine p_iload B42 at_131 (pc' := 133) rfl rfl ?_
        refine b_icF B42 at_133 (pc' := 136) rfl qf ?_
        refine p_iload B42 at_136 (pc' := 138) rfl rfl ?_
        refine p_iload B42 at_138 (pc' := 140) rfl rfl ?_
        refine b_icT B42 at_140 (pc' := 147) qt (by decide) (by decide) ?_
        refine p_iconst B42 at_147 (pc' := 148) rfl (v := (0 : Int32)) (by decide) ?_
        refine p_istore B42 at_148 (pc' := 150) rfl (Ls' := #[.val (.int p0), .val (.long p1), .second, .val (.long p2), .second, .val (.long p3), .second, .val (.long p4), .second, .val (.int p5), .val (.int u), .val (.int f1), .val (.int t1), .val (.int f2), .val (.int t2), .val (.int f3), .val (.int t3), .val (.int f4), .val (.int t4), .val (.ref a30), .val (.int (0 : Int32)), .unset, .unset, .unset, .unset, .unset, .unset, .unset, .unset, .unset, .unset, .unset, .unset, .unset, .unset, .unset, .unset, .unset]) rfl ?_
        exact K
    · refine ⟨0, Or.inr ⟨rfl, fun r => qf (ky_inj hu hf1 ht1 hf2 ht2 r).1⟩, fun K => ?_⟩
      refine p_iload B42 at_129 (pc' := 131) rfl rfl ?_
      refine p_iload B42 at_131 (pc' := 133) rfl rfl ?_
      refine b_icT B42 at_133 (pc' := 147) qf (by decide) (by decide) ?_
      refine p_iconst B42 at_147 (pc' := 148) rfl (v := (0 : Int32)) (by decide) ?_
      refine p_istore B42 at_148 (pc' := 150) rfl (Ls' := #[.val (.int p0), .val (.long p1), .second, .val (.long p2), .second, .val (.long p3), .second, .val (.long p4), .second, .val (.int p5), .val (.int u), .val (.int f1), .val (.int t1), .val (.int f2), .val (.int t2), .val (.int f3), .val (.int t3), .val (.int f4), .val (.int t4), .val (.ref a30), .val (.int (0 : Int32)), .unset, .unset, .unset, .unset, .unset, .unset, .unset, .unset, .unset, .unset, .unset, .unset, .unset, .unset, .unset, .unset, .unset]) rfl ?_
      exact K
  refine Kb20 ?_
  obtain ⟨b21, hb21, Kb21⟩ : ∃ b : Int32, Eqv b (ky f1 t1 u) (ky f3 t3 u) ∧ (Fn g D0 M (fun v _ _ => v = some (.int 1)) (T40.setTop (mkF M.m 171 #[.val (.int p0), .val (.long p1), .second, .val (.long p2), .second, .val (.long p3), .second, .val (.long p4), .second, .val (.int p5), .val (.int u), .val (.int f1), .val (.int t1), .val (.int f2), .val (.int t2), .val (.int f3), .val (.int t3), .val (.int f4), .val (.int t4), .val (.ref a30), .val (.int b20), .val (.int b), .unset, .unset, .unset, .unset, .unset, .unset, .unset, .unset, .unset, .unset, .unset, .unset, .unset, .unset, .unset, .unset] [])) → Fn g D0 M (fun v _ _ => v = some (.int 1)) (T40.setTop (mkF M.m 150 #[.val (.int p0), .val (.long p1), .second, .val (.long p2), .second, .val (.long p3), .second, .val (.long p4), .second, .val (.int p5), .val (.int u), .val (.int f1), .val (.int t1), .val (.int f2), .val (.int t2), .val (.int f3), .val (.int t3), .val (.int f4), .val (.int t4), .val (.ref a30), .val (.int b20), .unset, .unset, .unset, .unset, .unset, .unset, .unset, .unset, .unset, .unset, .unset, .unset, .unset, .unset, .unset, .unset, .unset] []))) := by
    by_cases qf : f1 = f3
    · by_cases qt : t1 = t3
      · refine ⟨1, Or.inl ⟨rfl, by rw [qf, qt]⟩, fun K => ?_⟩
        refine p_iload B42 at_150 (pc' := 152) rfl rfl ?_
        refine p_iload B42 at_152 (pc' := 154) rfl rfl ?_
        refine b_icF B42 at_154 (pc' := 157) rfl qf ?_
        refine p_iload B42 at_157 (pc' := 159) rfl rfl ?_
        refine p_iload B42 at_159 (pc' := 161) rfl rfl ?_
        refine b_icF B42 at_161 (pc' := 164) rfl qt ?_
        refine p_iconst B42 at_164 (pc' := 165) rfl (v := (1 : Int32)) (by decide) ?_
        refine b_goto B42 at_165 (pc' := 169) (by decide) (by decide) ?_
        refine p_istore B42 at_169 (pc' := 171) rfl (Ls' := #[.val (.int p0), .val (.long p1), .second, .val (.long p2), .second, .val (.long p3), .second, .val (.long p4), .second, .val (.int p5), .val (.int u), .val (.int f1), .val (.int t1), .val (.int f2), .val (.int t2), .val (.int f3), .val (.int t3), .val (.int f4), .val (.int t4), .val (.ref a30), .val (.int b20), .val (.int (1 : Int32)), .unset, .unset, .unset, .unset, .unset, .unset, .unset, .unset, .unset, .unset, .unset, .unset, .unset, .unset, .unset, .unset]) rfl ?_
        exact K
      · refine ⟨0, Or.inr ⟨rfl, fun r => qt (ky_inj hu hf1 ht1 hf3 ht3 r).2⟩, fun K => ?_⟩
        refine p_iload B42 at_150 (pc' := 152) rfl rfl ?_
        refine p_iload B42 at_152 (pc' := 154) rfl rfl ?_
        refine b_icF B42 at_154 (pc' := 157) rfl qf ?_
        refine p_iload B42 at_157 (pc' := 159) rfl rfl ?_
        refine p_iload B42 at_159 (pc' := 161) rfl rfl ?_
        refine b_icT B42 at_161 (pc' := 168) qt (by decide) (by decide) ?_
        refine p_iconst B42 at_168 (pc' := 169) rfl (v := (0 : Int32)) (by decide) ?_
        refine p_istore B42 at_169 (pc' := 171) rfl (Ls' := #[.val (.int p0), .val (.long p1), .second, .val (.long p2), .second, .val (.long p3), .second, .val (.long p4), .second, .val (.int p5), .val (.int u), .val (.int f1), .val (.int t1), .val (.int f2), .val (.int t2), .val (.int f3), .val (.int t3), .val (.int f4), .val (.int t4), .val (.ref a30), .val (.int b20), .val (.int (0 : Int32)), .unset, .unset, .unset, .unset, .unset, .unset, .unset, .unset, .unset, .unset, .unset, .unset, .unset, .unset, .unset, .unset]) rfl ?_
        exact K
    · refine ⟨0, Or.inr ⟨rfl, fun r => qf (ky_inj hu hf1 ht1 hf3 ht3 r).1⟩, fun K => ?_⟩
      refine p_iload B42 at_150 (pc' := 152) rfl rfl ?_
      refine p_iload B42 at_152 (pc' := 154) rfl rfl ?_
      refine b_icT B42 at_154 (pc' := 168) qf (by decide) (by decide) ?_
      refine p_iconst B42 at_168 (pc' := 169) rfl (v := (0 : Int32)) (by decide) ?_
      refine p_istore B42 at_169 (pc' := 171) rfl (Ls' := #[.val (.int p0), .val (.long p1), .second, .val (.long p2), .second, .val (.long p3), .second, .val (.long p4), .second, .val (.int p5), .val (.int u), .val (.int f1), .val (.int t1), .val (.int f2), .val (.int t2), .val (.int f3), .val (.int t3), .val (.int f4), .val (.int t4), .val (.ref a30), .val (.int b20), .val (.int (0 : Int32)), .unset, .unset, .unset, .unset, .unset, .unset, .unset, .unset, .unset, .unset, .unset, .unset, .unset, .unset, .unset, .unset]) rfl ?_
      exact K
  refine Kb21 ?_
  obtain ⟨b22, hb22, Kb22⟩ : ∃ b : Int32, Eqv b (ky f2 t2 u) (ky f3 t3 u) ∧ (Fn g D0 M (fun v _ _ => v = some (.int 1)) (T40.setTop (mkF M.m 192 #[.val (.int p0), .val (.long p1), .second, .val (.long p2), .second, .val (.long p3), .second, .val (.long p4), .second, .val (.int p5), .val (.int u), .val (.int f1), .val (.int t1), .val (.int f2), .val (.int t2), .val (.int f3), .val (.int t3), .val (.int f4), .val (.int t4), .val (.ref a30), .val (.int b20), .val (.int b21), .val (.int b), .unset, .unset, .unset, .unset, .unset, .unset, .unset, .unset, .unset, .unset, .unset, .unset, .unset, .unset, .unset] [])) → Fn g D0 M (fun v _ _ => v = some (.int 1)) (T40.setTop (mkF M.m 171 #[.val (.int p0), .val (.long p1), .second, .val (.long p2), .second, .val (.long p3), .second, .val (.long p4), .second, .val (.int p5), .val (.int u), .val (.int f1), .val (.int t1), .val (.int f2), .val (.int t2), .val (.int f3), .val (.int t3), .val (.int f4), .val (.int t4), .val (.ref a30), .val (.int b20), .val (.int b21), .unset, .unset, .unset, .unset, .unset, .unset, .unset, .unset, .unset, .unset, .unset, .unset, .unset, .unset, .unset, .unset] []))) := by
    by_cases qf : f2 = f3
    · by_cases qt : t2 = t3
      · refine ⟨1, Or.inl ⟨rfl, by rw [qf, qt]⟩, fun K => ?_⟩
        refine p_iload B42 at_171 (pc' := 173) rfl rfl ?_
        refine p_iload B42 at_173 (pc' := 175) rfl rfl ?_
        refine b_icF B42 at_175 (pc' := 178) rfl qf ?_
        refine p_iload B42 at_178 (pc' := 180) rfl rfl ?_
        refine p_iload B42 at_180 (pc' := 182) rfl rfl ?_
        refine b_icF B42 at_182 (pc' := 185) rfl qt ?_
        refine p_iconst B42 at_185 (pc' := 186) rfl (v := (1 : Int32)) (by decide) ?_
        refine b_goto B42 at_186 (pc' := 190) (by decide) (by decide) ?_
        refine p_istore B42 at_190 (pc' := 192) rfl (Ls' := #[.val (.int p0), .val (.long p1), .second, .val (.long p2), .second, .val (.long p3), .second, .val (.long p4), .second, .val (.int p5), .val (.int u), .val (.int f1), .val (.int t1), .val (.int f2), .val (.int t2), .val (.int f3), .val (.int t3), .val (.int f4), .val (.int t4), .val (.ref a30), .val (.int b20), .val (.int b21), .val (.int (1 : Int32)), .unset, .unset, .unset, .unset, .unset, .unset, .unset, .unset, .unset, .unset, .unset, .unset, .unset, .unset, .unset]) rfl ?_
        exact K
      · refine ⟨0, Or.inr ⟨rfl, fun r => qt (ky_inj hu hf2 ht2 hf3 ht3 r).2⟩, fun K => ?_⟩
        refine p_iload B42 at_171 (pc' := 173) rfl rfl ?_
        refine p_iload B42 at_173 (pc' := 175) rfl rfl ?_
        refine b_icF B42 at_175 (pc' := 178) rfl qf ?_
        refine p_iload B42 at_178 (pc' := 180) rfl rfl ?_
        refine p_iload B42 at_180 (pc' := 182) rfl rfl ?_
        refine b_icT B42 at_182 (pc' := 189) qt (by decide) (by decide) ?_
        refine p_iconst B42 at_189 (pc' := 190) rfl (v := (0 : Int32)) (by decide) ?_
        refine p_istore B42 at_190 (pc' := 192) rfl (Ls' := #[.val (.int p0), .val (.long p1), .second, .val (.long p2), .second, .val (.long p3), .second, .val (.long p4), .second, .val (.int p5), .val (.int u), .val (.int f1), .val (.int t1), .val (.int f2), .val (.int t2), .val (.int f3), .val (.int t3), .val (.int f4), .val (.int t4), .val (.ref a30), .val (.int b20), .val (.int b21), .val (.int (0 : Int32)), .unset, .unset, .unset, .unset, .unset, .unset, .unset, .unset, .unset, .unset, .unset, .unset, .unset, .unset, .unset]) rfl ?_
        exact K
    · refine ⟨0, Or.inr ⟨rfl, fun r => qf (ky_inj hu hf2 ht2 hf3 ht3 r).1⟩, fun K => ?_⟩
      refine p_iload B42 at_171 (pc' := 173) rfl rfl ?_
      refine p_iload B42 at_173 (pc' := 175) rfl rfl ?_
      refine b_icT B42 at_175 (pc' := 189) qf (by decide) (by decide) ?_
      refine p_iconst B42 at_189 (pc' := 190) rfl (v := (0 : Int32)) (by decide) ?_
      refine p_istore B42 at_190 (pc' := 192) rfl (Ls' := #[.val (.int p0), .val (.long p1), .second, .val (.long p2), .second, .val (.long p3), .second, .val (.long p4), .second, .val (.int p5), .val (.int u), .val (.int f1), .val (.int t1), .val (.int f2), .val (.int t2), .val (.int f3), .val (.int t3), .val (.int f4), .val (.int t4), .val (.ref a30), .val (.int b20), .val (.int b21), .val (.int (0 : Int32)), .unset, .unset, .unset, .unset, .unset, .unset, .unset, .unset, .unset, .unset, .unset, .unset, .unset, .unset, .unset]) rfl ?_
      exact K
  refine Kb22 ?_
  obtain ⟨b23, hb23, Kb23⟩ : ∃ b : Int32, Eqv b (ky f1 t1 u) (ky f4 t4 u) ∧ (Fn g D0 M (fun v _ _ => v = some (.int 1)) (T40.setTop (mkF M.m 213 #[.val (.int p0), .val (.long p1), .second, .val (.long p2), .second, .val (.long p3), .second, .val (.long p4), .second, .val (.int p5), .val (.int u), .val (.int f1), .val (.int t1), .val (.int f2), .val (.int t2), .val (.int f3), .val (.int t3), .val (.int f4), .val (.int t4), .val (.ref a30), .val (.int b20), .val (.int b21), .val (.int b22), .val (.int b), .unset, .unset, .unset, .unset, .unset, .unset, .unset, .unset, .unset, .unset, .unset, .unset, .unset, .unset] [])) → Fn g D0 M (fun v _ _ => v = some (.int 1)) (T40.setTop (mkF M.m 192 #[.val (.int p0), .val (.long p1), .second, .val (.long p2), .second, .val (.long p3), .second, .val (.long p4), .second, .val (.int p5), .val (.int u), .val (.int f1), .val (.int t1), .val (.int f2), .val (.int t2), .val (.int f3), .val (.int t3), .val (.int f4), .val (.int t4), .val (.ref a30), .val (.int b20), .val (.int b21), .val (.int b22), .unset, .unset, .unset, .unset, .unset, .unset, .unset, .unset, .unset, .unset, .unset, .unset, .unset, .unset, .unset] []))) := by
    by_cases qf : f1 = f4
    · by_cases qt : t1 = t4
      · refine ⟨1, Or.inl ⟨rfl, by rw [qf, qt]⟩, fun K => ?_⟩
        refine p_iload B42 at_192 (pc' := 194) rfl rfl ?_
        refine p_iload B42 at_194 (pc' := 196) rfl rfl ?_
        refine b_icF B42 at_196 (pc' := 199) rfl qf ?_
        refine p_iload B42 at_199 (pc' := 201) rfl rfl ?_
        refine p_iload B42 at_201 (pc' := 203) rfl rfl ?_
        refine b_icF B42 at_203 (pc' := 206) rfl qt ?_
        refine p_iconst B42 at_206 (pc' := 207) rfl (v := (1 : Int32)) (by decide) ?_
        refine b_goto B42 at_207 (pc' := 211) (by decide) (by decide) ?_
        refine p_istore B42 at_211 (pc' := 213) rfl (Ls' := #[.val (.int p0), .val (.long p1), .second, .val (.long p2), .second, .val (.long p3), .second, .val (.long p4), .second, .val (.int p5), .val (.int u), .val (.int f1), .val (.int t1), .val (.int f2), .val (.int t2), .val (.int f3), .val (.int t3), .val (.int f4), .val (.int t4), .val (.ref a30), .val (.int b20), .val (.int b21), .val (.int b22), .val (.int (1 : Int32)), .unset, .unset, .unset, .unset, .unset, .unset, .unset, .unset, .unset, .unset, .unset, .unset, .unset, .unset]) rfl ?_
        exact K
      · refine ⟨0, Or.inr ⟨rfl, fun r => qt (ky_inj hu hf1 ht1 hf4 ht4 r).2⟩, fun K => ?_⟩
        refine p_iload B42 at_192 (pc' := 194) rfl rfl ?_
        refine p_iload B42 at_194 (pc' := 196) rfl rfl ?_
        refine b_icF B42 at_196 (pc' := 199) rfl qf ?_
        refine p_iload B42 at_199 (pc' := 201) rfl rfl ?_
        refine p_iload B42 at_201 (pc' := 203) rfl rfl ?_
        refine b_icT B42 at_203 (pc' := 210) qt (by decide) (by decide) ?_
        refine p_iconst B42 at_210 (pc' := 211) rfl (v := (0 : Int32)) (by decide) ?_
        refine p_istore B42 at_211 (pc' := 213) rfl (Ls' := #[.val (.int p0), .val (.long p1), .second, .val (.long p2), .second, .val (.long p3), .second, .val (.long p4), .second, .val (.int p5), .val (.int u), .val (.int f1), .val (.int t1), .val (.int f2), .val (.int t2), .val (.int f3), .val (.int t3), .val (.int f4), .val (.int t4), .val (.ref a30), .val (.int b20), .val (.int b21), .val (.int b22), .val (.int (0 : Int32)), .unset, .unset, .unset, .unset, .unset, .unset, .unset, .unset, .unset, .unset, .unset, .unset, .unset, .unset]) rfl ?_
        exact K
    · refine ⟨0, Or.inr ⟨rfl, fun r => qf (ky_inj hu hf1 ht1 hf4 ht4 r).1⟩, fun K => ?_⟩
      refine p_iload B42 at_192 (pc' := 194) rfl rfl ?_
      refine p_iload B42 at_194 (pc' := 196) rfl rfl ?_
      refine b_icT B42 at_196 (pc' := 210) qf (by decide) (by decide) ?_
      refine p_iconst B42 at_210 (pc' := 211) rfl (v := (0 : Int32)) (by decide) ?_
      refine p_istore B42 at_211 (pc' := 213) rfl (Ls' := #[.val (.int p0), .val (.long p1), .second, .val (.long p2), .second, .val (.long p3), .second, .val (.long p4), .second, .val (.int p5), .val (.int u), .val (.int f1), .val (.int t1), .val (.int f2), .val (.int t2), .val (.int f3), .val (.int t3), .val (.int f4), .val (.int t4), .val (.ref a30), .val (.int b20), .val (.int b21), .val (.int b22), .val (.int (0 : Int32)), .unset, .unset, .unset, .unset, .unset, .unset, .unset, .unset, .unset, .unset, .unset, .unset, .unset, .unset]) rfl ?_
      exact K
  refine Kb23 ?_
  obtain ⟨b24, hb24, Kb24⟩ : ∃ b : Int32, Eqv b (ky f2 t2 u) (ky f4 t4 u) ∧ (Fn g D0 M (fun v _ _ => v = some (.int 1)) (T40.setTop (mkF M.m 234 #[.val (.int p0), .val (.long p1), .second, .val (.long p2), .second, .val (.long p3), .second, .val (.long p4), .second, .val (.int p5), .val (.int u), .val (.int f1), .val (.int t1), .val (.int f2), .val (.int t2), .val (.int f3), .val (.int t3), .val (.int f4), .val (.int t4), .val (.ref a30), .val (.int b20), .val (.int b21), .val (.int b22), .val (.int b23), .val (.int b), .unset, .unset, .unset, .unset, .unset, .unset, .unset, .unset, .unset, .unset, .unset, .unset, .unset] [])) → Fn g D0 M (fun v _ _ => v = some (.int 1)) (T40.setTop (mkF M.m 213 #[.val (.int p0), .val (.long p1), .second, .val (.long p2), .second, .val (.long p3), .second, .val (.long p4), .second, .val (.int p5), .val (.int u), .val (.int f1), .val (.int t1), .val (.int f2), .val (.int t2), .val (.int f3), .val (.int t3), .val (.int f4), .val (.int t4), .val (.ref a30), .val (.int b20), .val (.int b21), .val (.int b22), .val (.int b23), .unset, .unset, .unset, .unset, .unset, .unset, .unset, .unset, .unset, .unset, .unset, .unset, .unset, .unset] []))) := by
    by_cases qf : f2 = f4
    · by_cases qt : t2 = t4
      · refine ⟨1, Or.inl ⟨rfl, by rw [qf, qt]⟩, fun K => ?_⟩
        refine p_iload B42 at_213 (pc' := 215) rfl rfl ?_
        refine p_iload B42 at_215 (pc' := 217) rfl rfl ?_
        refine b_icF B42 at_217 (pc' := 220) rfl qf ?_
        refine p_iload B42 at_220 (pc' := 222) rfl rfl ?_
        refine p_iload B42 at_222 (pc' := 224) rfl rfl ?_
        refine b_icF B42 at_224 (pc' := 227) rfl qt ?_
        refine p_iconst B42 at_227 (pc' := 228) rfl (v := (1 : Int32)) (by decide) ?_
        refine b_goto B42 at_228 (pc' := 232) (by decide) (by decide) ?_
        refine p_istore B42 at_232 (pc' := 234) rfl (Ls' := #[.val (.int p0), .val (.long p1), .second, .val (.long p2), .second, .val (.long p3), .second, .val (.long p4), .second, .val (.int p5), .val (.int u), .val (.int f1), .val (.int t1), .val (.int f2), .val (.int t2), .val (.int f3), .val (.int t3), .val (.int f4), .val (.int t4), .val (.ref a30), .val (.int b20), .val (.int b21), .val (.int b22), .val (.int b23), .val (.int (1 : Int32)), .unset, .unset, .unset, .unset, .unset, .unset, .unset, .unset, .unset, .unset, .unset, .unset, .unset]) rfl ?_
        exact K
      · refine ⟨0, Or.inr ⟨rfl, fun r => qt (ky_inj hu hf2 ht2 hf4 ht4 r).2⟩, fun K => ?_⟩
        refine p_iload B42 at_213 (pc' := 215) rfl rfl ?_
        refine p_iload B42 at_215 (pc' := 217) rfl rfl ?_
        refine b_icF B42 at_217 (pc' := 220) rfl qf ?_
        refine p_iload B42 at_220 (pc' := 222) rfl rfl ?_
        refine p_iload B42 at_222 (pc' := 224) rfl rfl ?_
        refine b_icT B42 at_224 (pc' := 231) qt (by decide) (by decide) ?_
        refine p_iconst B42 at_231 (pc' := 232) rfl (v := (0 : Int32)) (by decide) ?_
        refine p_istore B42 at_232 (pc' := 234) rfl (Ls' := #[.val (.int p0), .val (.long p1), .second, .val (.long p2), .second, .val (.long p3), .second, .val (.long p4), .second, .val (.int p5), .val (.int u), .val (.int f1), .val (.int t1), .val (.int f2), .val (.int t2), .val (.int f3), .val (.int t3), .val (.int f4), .val (.int t4), .val (.ref a30), .val (.int b20), .val (.int b21), .val (.int b22), .val (.int b23), .val (.int (0 : Int32)), .unset, .unset, .unset, .unset, .unset, .unset, .unset, .unset, .unset, .unset, .unset, .unset, .unset]) rfl ?_
        exact K
    · refine ⟨0, Or.inr ⟨rfl, fun r => qf (ky_inj hu hf2 ht2 hf4 ht4 r).1⟩, fun K => ?_⟩
      refine p_iload B42 at_213 (pc' := 215) rfl rfl ?_
      refine p_iload B42 at_215 (pc' := 217) rfl rfl ?_
      refine b_icT B42 at_217 (pc' := 231) qf (by decide) (by decide) ?_
      refine p_iconst B42 at_231 (pc' := 232) rfl (v := (0 : Int32)) (by decide) ?_
      refine p_istore B42 at_232 (pc' := 234) rfl (Ls' := #[.val (.int p0), .val (.long p1), .second, .val (.long p2), .second, .val (.long p3), .second, .val (.long p4), .second, .val (.int p5), .val (.int u), .val (.int f1), .val (.int t1), .val (.int f2), .val (.int t2), .val (.int f3), .val (.int t3), .val (.int f4), .val (.int t4), .val (.ref a30), .val (.int b20), .val (.int b21), .val (.int b22), .val (.int b23), .val (.int (0 : Int32)), .unset, .unset, .unset, .unset, .unset, .unset, .unset, .unset, .unset, .unset, .unset, .unset, .unset]) rfl ?_
      exact K
  refine Kb24 ?_
  obtain ⟨b25, hb25, Kb25⟩ : ∃ b : Int32, Eqv b (ky f3 t3 u) (ky f4 t4 u) ∧ (Fn g D0 M (fun v _ _ => v = some (.int 1)) (T40.setTop (mkF M.m 255 #[.val (.int p0), .val (.long p1), .second, .val (.long p2), .second, .val (.long p3), .second, .val (.long p4), .second, .val (.int p5), .val (.int u), .val (.int f1), .val (.int t1), .val (.int f2), .val (.int t2), .val (.int f3), .val (.int t3), .val (.int f4), .val (.int t4), .val (.ref a30), .val (.int b20), .val (.int b21), .val (.int b22), .val (.int b23), .val (.int b24), .val (.int b), .unset, .unset, .unset, .unset, .unset, .unset, .unset, .unset, .unset, .unset, .unset, .unset] [])) → Fn g D0 M (fun v _ _ => v = some (.int 1)) (T40.setTop (mkF M.m 234 #[.val (.int p0), .val (.long p1), .second, .val (.long p2), .second, .val (.long p3), .second, .val (.long p4), .second, .val (.int p5), .val (.int u), .val (.int f1), .val (.int t1), .val (.int f2), .val (.int t2), .val (.int f3), .val (.int t3), .val (.int f4), .val (.int t4), .val (.ref a30), .val (.int b20), .val (.int b21), .val (.int b22), .val (.int b23), .val (.int b24), .unset, .unset, .unset, .unset, .unset, .unset, .unset, .unset, .unset, .unset, .unset, .unset, .unset] []))) := by
    by_cases qf : f3 = f4
    · by_cases qt : t3 = t4
      · refine ⟨1, Or.inl ⟨rfl, by rw [qf, qt]⟩, fun K => ?_⟩
        refine p_iload B42 at_234 (pc' := 236) rfl rfl ?_
        refine p_iload B42 at_236 (pc' := 238) rfl rfl ?_
        refine b_icF B42 at_238 (pc' := 241) rfl qf ?_
        refine p_iload B42 at_241 (pc' := 243) rfl rfl ?_
        refine p_iload B42 at_243 (pc' := 245) rfl rfl ?_
        refine b_icF B42 at_245 (pc' := 248) rfl qt ?_
        refine p_iconst B42 at_248 (pc' := 249) rfl (v := (1 : Int32)) (by decide) ?_
        refine b_goto B42 at_249 (pc' := 253) (by decide) (by decide) ?_
        refine p_istore B42 at_253 (pc' := 255) rfl (Ls' := #[.val (.int p0), .val (.long p1), .second, .val (.long p2), .second, .val (.long p3), .second, .val (.long p4), .second, .val (.int p5), .val (.int u), .val (.int f1), .val (.int t1), .val (.int f2), .val (.int t2), .val (.int f3), .val (.int t3), .val (.int f4), .val (.int t4), .val (.ref a30), .val (.int b20), .val (.int b21), .val (.int b22), .val (.int b23), .val (.int b24), .val (.int (1 : Int32)), .unset, .unset, .unset, .unset, .unset, .unset, .unset, .unset, .unset, .unset, .unset, .unset]) rfl ?_
        exact K
      · refine ⟨0, Or.inr ⟨rfl, fun r => qt (ky_inj hu hf3 ht3 hf4 ht4 r).2⟩, fun K => ?_⟩
        refine p_iload B42 at_234 (pc' := 236) rfl rfl ?_
        refine p_iload B42 at_236 (pc' := 238) rfl rfl ?_
        refine b_icF B42 at_238 (pc' := 241) rfl qf ?_
        refine p_iload B42 at_241 (pc' := 243) rfl rfl ?_
        refine p_iload B42 at_243 (pc' := 245) rfl rfl ?_
        refine b_icT B42 at_245 (pc' := 252) qt (by decide) (by decide) ?_
        refine p_iconst B42 at_252 (pc' := 253) rfl (v := (0 : Int32)) (by decide) ?_
        refine p_istore B42 at_253 (pc' := 255) rfl (Ls' := #[.val (.int p0), .val (.long p1), .second, .val (.long p2), .second, .val (.long p3), .second, .val (.long p4), .second, .val (.int p5), .val (.int u), .val (.int f1), .val (.int t1), .val (.int f2), .val (.int t2), .val (.int f3), .val (.int t3), .val (.int f4), .val (.int t4), .val (.ref a30), .val (.int b20), .val (.int b21), .val (.int b22), .val (.int b23), .val (.int b24), .val (.int (0 : Int32)), .unset, .unset, .unset, .unset, .unset, .unset, .unset, .unset, .unset, .unset, .unset, .unset]) rfl ?_
        exact K
    · refine ⟨0, Or.inr ⟨rfl, fun r => qf (ky_inj hu hf3 ht3 hf4 ht4 r).1⟩, fun K => ?_⟩
      refine p_iload B42 at_234 (pc' := 236) rfl rfl ?_
      refine p_iload B42 at_236 (pc' := 238) rfl rfl ?_
      refine b_icT B42 at_238 (pc' := 252) qf (by decide) (by decide) ?_
      refine p_iconst B42 at_252 (pc' := 253) rfl (v := (0 : Int32)) (by decide) ?_
      refine p_istore B42 at_253 (pc' := 255) rfl (Ls' := #[.val (.int p0), .val (.long p1), .second, .val (.long p2), .second, .val (.long p3), .second, .val (.long p4), .second, .val (.int p5), .val (.int u), .val (.int f1), .val (.int t1), .val (.int f2), .val (.int t2), .val (.int f3), .val (.int t3), .val (.int f4), .val (.int t4), .val (.ref a30), .val (.int b20), .val (.int b21), .val (.int b22), .val (.int b23), .val (.int b24), .val (.int (0 : Int32)), .unset, .unset, .unset, .unset, .unset, .unset, .unset, .unset, .unset, .unset, .unset, .unset]) rfl ?_
      exact K
  refine Kb25 ?_
  refine p_iconst B42 at_255 (pc' := 256) rfl (v := (1 : Int32)) (by decide) ?_
  have K43 : Fn g D0 M (fun v _ _ => v = some (.int 1)) (T40.setTop (mkF M.m 266 #[.val (.int p0), .val (.long p1), .second, .val (.long p2), .second, .val (.long p3), .second, .val (.long p4), .second, .val (.int p5), .val (.int u), .val (.int f1), .val (.int t1), .val (.int f2), .val (.int t2), .val (.int f3), .val (.int t3), .val (.int f4), .val (.int t4), .val (.ref a30), .val (.int b20), .val (.int b21), .val (.int b22), .val (.int b23), .val (.int b24), .val (.int b25), .unset, .unset, .unset, .unset, .unset, .unset, .unset, .unset, .unset, .unset, .unset, .unset] [(.int (tr b20 2)), (.int (1 : Int32))])) → Fn g D0 M (fun v _ _ => v = some (.int 1)) (T40.setTop (mkF M.m 256 #[.val (.int p0), .val (.long p1), .second, .val (.long p2), .second, .val (.long p3), .second, .val (.long p4), .second, .val (.int p5), .val (.int u), .val (.int f1), .val (.int t1), .val (.int f2), .val (.int t2), .val (.int f3), .val (.int t3), .val (.int f4), .val (.int t4), .val (.ref a30), .val (.int b20), .val (.int b21), .val (.int b22), .val (.int b23), .val (.int b24), .val (.int b25), .unset, .unset, .unset, .unset, .unset, .unset, .unset, .unset, .unset, .unset, .unset, .unset] [(.int (1 : Int32))])) := by
    intro K
    by_cases q : b20 = (0 : Int32)
    · rw [show tr b20 2 = (0 : Int32) from if_pos q] at K
      refine p_iload B42 at_256 (pc' := 258) rfl rfl ?_
      refine b_ifT B42 at_258 (pc' := 265) q (by decide) (by decide) ?_
      refine p_iconst B42 at_265 (pc' := 266) rfl (v := (0 : Int32)) (by decide) ?_
      exact K
    · rw [show tr b20 2 = (2 : Int32) from if_neg q] at K
      refine p_iload B42 at_256 (pc' := 258) rfl rfl ?_
      refine b_ifF B42 at_258 (pc' := 261) rfl q ?_
      refine p_iconst B42 at_261 (pc' := 262) rfl (v := (2 : Int32)) (by decide) ?_
      refine b_goto B42 at_262 (pc' := 266) (by decide) (by decide) ?_
      exact K
  refine K43 ?_
  refine p_iadd B42 at_266 (pc' := 267) rfl rfl ?_
  have K44 : Fn g D0 M (fun v _ _ => v = some (.int 1)) (T40.setTop (mkF M.m 277 #[.val (.int p0), .val (.long p1), .second, .val (.long p2), .second, .val (.long p3), .second, .val (.long p4), .second, .val (.int p5), .val (.int u), .val (.int f1), .val (.int t1), .val (.int f2), .val (.int t2), .val (.int f3), .val (.int t3), .val (.int f4), .val (.int t4), .val (.ref a30), .val (.int b20), .val (.int b21), .val (.int b22), .val (.int b23), .val (.int b24), .val (.int b25), .unset, .unset, .unset, .unset, .unset, .unset, .unset, .unset, .unset, .unset, .unset, .unset] [(.int (tr b21 4)), (.int ((1 : Int32) + (tr b20 2)))])) → Fn g D0 M (fun v _ _ => v = some (.int 1)) (T40.setTop (mkF M.m 267 #[.val (.int p0), .val (.long p1), .second, .val (.long p2), .second, .val (.long p3), .second, .val (.long p4), .second, .val (.int p5), .val (.int u), .val (.int f1), .val (.int t1), .val (.int f2), .val (.int t2), .val (.int f3), .val (.int t3), .val (.int f4), .val (.int t4), .val (.ref a30), .val (.int b20), .val (.int b21), .val (.int b22), .val (.int b23), .val (.int b24), .val (.int b25), .unset, .unset, .unset, .unset, .unset, .unset, .unset, .unset, .unset, .unset, .unset, .unset] [(.int ((1 : Int32) + (tr b20 2)))])) := by
    intro K
    by_cases q : b21 = (0 : Int32)
    · rw [show tr b21 4 = (0 : Int32) from if_pos q] at K
      refine p_iload B42 at_267 (pc' := 269) rfl rfl ?_
      refine b_ifT B42 at_269 (pc' := 276) q (by decide) (by decide) ?_
      refine p_iconst B42 at_276 (pc' := 277) rfl (v := (0 : Int32)) (by decide) ?_
      exact K
    · rw [show tr b21 4 = (4 : Int32) from if_neg q] at K
      refine p_iload B42 at_267 (pc' := 269) rfl rfl ?_
      refine b_ifF B42 at_269 (pc' := 272) rfl q ?_
      refine p_iconst B42 at_272 (pc' := 273) rfl (v := (4 : Int32)) (by decide) ?_
      refine b_goto B42 at_273 (pc' := 277) (by decide) (by decide) ?_
      exact K
  refine K44 ?_
  refine p_iadd B42 at_277 (pc' := 278) rfl rfl ?_
  refine p_istore B42 at_278 (pc' := 280) rfl (Ls' := #[.val (.int p0), .val (.long p1), .second, .val (.long p2), .second, .val (.long p3), .second, .val (.long p4), .second, .val (.int p5), .val (.int u), .val (.int f1), .val (.int t1), .val (.int f2), .val (.int t2), .val (.int f3), .val (.int t3), .val (.int f4), .val (.int t4), .val (.ref a30), .val (.int b20), .val (.int b21), .val (.int b22), .val (.int b23), .val (.int b24), .val (.int b25), .val (.int (((1 : Int32) + (tr b20 2)) + (tr b21 4))), .unset, .unset, .unset, .unset, .unset, .unset, .unset, .unset, .unset, .unset, .unset]) rfl ?_
  refine p_iconst B42 at_280 (pc' := 281) rfl (v := (2 : Int32)) (by decide) ?_
  have K45 : Fn g D0 M (fun v _ _ => v = some (.int 1)) (T40.setTop (mkF M.m 291 #[.val (.int p0), .val (.long p1), .second, .val (.long p2), .second, .val (.long p3), .second, .val (.long p4), .second, .val (.int p5), .val (.int u), .val (.int f1), .val (.int t1), .val (.int f2), .val (.int t2), .val (.int f3), .val (.int t3), .val (.int f4), .val (.int t4), .val (.ref a30), .val (.int b20), .val (.int b21), .val (.int b22), .val (.int b23), .val (.int b24), .val (.int b25), .val (.int (((1 : Int32) + (tr b20 2)) + (tr b21 4))), .unset, .unset, .unset, .unset, .unset, .unset, .unset, .unset, .unset, .unset, .unset] [(.int (tr b20 1)), (.int (2 : Int32))])) → Fn g D0 M (fun v _ _ => v = some (.int 1)) (T40.setTop (mkF M.m 281 #[.val (.int p0), .val (.long p1), .second, .val (.long p2), .second, .val (.long p3), .second, .val (.long p4), .second, .val (.int p5), .val (.int u), .val (.int f1), .val (.int t1), .val (.int f2), .val (.int t2), .val (.int f3), .val (.int t3), .val (.int f4), .val (.int t4), .val (.ref a30), .val (.int b20), .val (.int b21), .val (.int b22), .val (.int b23), .val (.int b24), .val (.int b25), .val (.int (((1 : Int32) + (tr b20 2)) + (tr b21 4))), .unset, .unset, .unset, .unset, .unset, .unset, .unset, .unset, .unset, .unset, .unset] [(.int (2 : Int32))])) := by
    intro K
    by_cases q : b20 = (0 : Int32)
    · rw [show tr b20 1 = (0 : Int32) from if_pos q] at K
      refine p_iload B42 at_281 (pc' := 283) rfl rfl ?_
      refine b_ifT B42 at_283 (pc' := 290) q (by decide) (by decide) ?_
      refine p_iconst B42 at_290 (pc' := 291) rfl (v := (0 : Int32)) (by decide) ?_
      exact K
    · rw [show tr b20 1 = (1 : Int32) from if_neg q] at K
      refine p_iload B42 at_281 (pc' := 283) rfl rfl ?_
      refine b_ifF B42 at_283 (pc' := 286) rfl q ?_
      refine p_iconst B42 at_286 (pc' := 287) rfl (v := (1 : Int32)) (by decide) ?_
      refine b_goto B42 at_287 (pc' := 291) (by decide) (by decide) ?_
      exact K
  refine K45 ?_
  refine p_iadd B42 at_291 (pc' := 292) rfl rfl ?_
  have K46 : Fn g D0 M (fun v _ _ => v = some (.int 1)) (T40.setTop (mkF M.m 302 #[.val (.int p0), .val (.long p1), .second, .val (.long p2), .second, .val (.long p3), .second, .val (.long p4), .second, .val (.int p5), .val (.int u), .val (.int f1), .val (.int t1), .val (.int f2), .val (.int t2), .val (.int f3), .val (.int t3), .val (.int f4), .val (.int t4), .val (.ref a30), .val (.int b20), .val (.int b21), .val (.int b22), .val (.int b23), .val (.int b24), .val (.int b25), .val (.int (((1 : Int32) + (tr b20 2)) + (tr b21 4))), .unset, .unset, .unset, .unset, .unset, .unset, .unset, .unset, .unset, .unset, .unset] [(.int (tr b22 4)), (.int ((2 : Int32) + (tr b20 1)))])) → Fn g D0 M (fun v _ _ => v = some (.int 1)) (T40.setTop (mkF M.m 292 #[.val (.int p0), .val (.long p1), .second, .val (.long p2), .second, .val (.long p3), .second, .val (.long p4), .second, .val (.int p5), .val (.int u), .val (.int f1), .val (.int t1), .val (.int f2), .val (.int t2), .val (.int f3), .val (.int t3), .val (.int f4), .val (.int t4), .val (.ref a30), .val (.int b20), .val (.int b21), .val (.int b22), .val (.int b23), .val (.int b24), .val (.int b25), .val (.int (((1 : Int32) + (tr b20 2)) + (tr b21 4))), .unset, .unset, .unset, .unset, .unset, .unset, .unset, .unset, .unset, .unset, .unset] [(.int ((2 : Int32) + (tr b20 1)))])) := by
    intro K
    by_cases q : b22 = (0 : Int32)
    · rw [show tr b22 4 = (0 : Int32) from if_pos q] at K
      refine p_iload B42 at_292 (pc' := 294) rfl rfl ?_
      refine b_ifT B42 at_294 (pc' := 301) q (by decide) (by decide) ?_
      refine p_iconst B42 at_301 (pc' := 302) rfl (v := (0 : Int32)) (by decide) ?_
      exact K
    · rw [show tr b22 4 = (4 : Int32) from if_neg q] at K
      refine p_iload B42 at_292 (pc' := 294) rfl rfl ?_
      refine b_ifF B42 at_294 (pc' := 297) rfl q ?_
      refine p_iconst B42 at_297 (pc' := 298) rfl (v := (4 : Int32)) (by decide) ?_
      refine b_goto B42 at_298 (pc' := 302) (by decide) (by decide) ?_
      exact K
  refine K46 ?_
  refine p_iadd B42 at_302 (pc' := 303) rfl rfl ?_
  refine p_istore B42 at_303 (pc' := 305) rfl (Ls' := #[.val (.int p0), .val (.long p1), .second, .val (.long p2), .second, .val (.long p3), .second, .val (.long p4), .second, .val (.int p5), .val (.int u), .val (.int f1), .val (.int t1), .val (.int f2), .val (.int t2), .val (.int f3), .val (.int t3), .val (.int f4), .val (.int t4), .val (.ref a30), .val (.int b20), .val (.int b21), .val (.int b22), .val (.int b23), .val (.int b24), .val (.int b25), .val (.int (((1 : Int32) + (tr b20 2)) + (tr b21 4))), .val (.int (((2 : Int32) + (tr b20 1)) + (tr b22 4))), .unset, .unset, .unset, .unset, .unset, .unset, .unset, .unset, .unset, .unset]) rfl ?_
  refine p_iconst B42 at_305 (pc' := 306) rfl (v := (4 : Int32)) (by decide) ?_
  have K47 : Fn g D0 M (fun v _ _ => v = some (.int 1)) (T40.setTop (mkF M.m 316 #[.val (.int p0), .val (.long p1), .second, .val (.long p2), .second, .val (.long p3), .second, .val (.long p4), .second, .val (.int p5), .val (.int u), .val (.int f1), .val (.int t1), .val (.int f2), .val (.int t2), .val (.int f3), .val (.int t3), .val (.int f4), .val (.int t4), .val (.ref a30), .val (.int b20), .val (.int b21), .val (.int b22), .val (.int b23), .val (.int b24), .val (.int b25), .val (.int (((1 : Int32) + (tr b20 2)) + (tr b21 4))), .val (.int (((2 : Int32) + (tr b20 1)) + (tr b22 4))), .unset, .unset, .unset, .unset, .unset, .unset, .unset, .unset, .unset, .unset] [(.int (tr b21 1)), (.int (4 : Int32))])) → Fn g D0 M (fun v _ _ => v = some (.int 1)) (T40.setTop (mkF M.m 306 #[.val (.int p0), .val (.long p1), .second, .val (.long p2), .second, .val (.long p3), .second, .val (.long p4), .second, .val (.int p5), .val (.int u), .val (.int f1), .val (.int t1), .val (.int f2), .val (.int t2), .val (.int f3), .val (.int t3), .val (.int f4), .val (.int t4), .val (.ref a30), .val (.int b20), .val (.int b21), .val (.int b22), .val (.int b23), .val (.int b24), .val (.int b25), .val (.int (((1 : Int32) + (tr b20 2)) + (tr b21 4))), .val (.int (((2 : Int32) + (tr b20 1)) + (tr b22 4))), .unset, .unset, .unset, .unset, .unset, .unset, .unset, .unset, .unset, .unset] [(.int (4 : Int32))])) := by
    intro K
    by_cases q : b21 = (0 : Int32)
    · rw [show tr b21 1 = (0 : Int32) from if_pos q] at K
      refine p_iload B42 at_306 (pc' := 308) rfl rfl ?_
      refine b_ifT B42 at_308 (pc' := 315) q (by decide) (by decide) ?_
      refine p_iconst B42 at_315 (pc' := 316) rfl (v := (0 : Int32)) (by decide) ?_
      exact K
    · rw [show tr b21 1 = (1 : Int32) from if_neg q] at K
      refine p_iload B42 at_306 (pc' := 308) rfl rfl ?_
      refine b_ifF B42 at_308 (pc' := 311) rfl q ?_
      refine p_iconst B42 at_311 (pc' := 312) rfl (v := (1 : Int32)) (by decide) ?_
      refine b_goto B42 at_312 (pc' := 316) (by decide) (by decide) ?_
      exact K
  refine K47 ?_
  refine p_iadd B42 at_316 (pc' := 317) rfl rfl ?_
  have K48 : Fn g D0 M (fun v _ _ => v = some (.int 1)) (T40.setTop (mkF M.m 327 #[.val (.int p0), .val (.long p1), .second, .val (.long p2), .second, .val (.long p3), .second, .val (.long p4), .second, .val (.int p5), .val (.int u), .val (.int f1), .val (.int t1), .val (.int f2), .val (.int t2), .val (.int f3), .val (.int t3), .val (.int f4), .val (.int t4), .val (.ref a30), .val (.int b20), .val (.int b21), .val (.int b22), .val (.int b23), .val (.int b24), .val (.int b25), .val (.int (((1 : Int32) + (tr b20 2)) + (tr b21 4))), .val (.int (((2 : Int32) + (tr b20 1)) + (tr b22 4))), .unset, .unset, .unset, .unset, .unset, .unset, .unset, .unset, .unset, .unset] [(.int (tr b22 2)), (.int ((4 : Int32) + (tr b21 1)))])) → Fn g D0 M (fun v _ _ => v = some (.int 1)) (T40.setTop (mkF M.m 317 #[.val (.int p0), .val (.long p1), .second, .val (.long p2), .second, .val (.long p3), .second, .val (.long p4), .second, .val (.int p5), .val (.int u), .val (.int f1), .val (.int t1), .val (.int f2), .val (.int t2), .val (.int f3), .val (.int t3), .val (.int f4), .val (.int t4), .val (.ref a30), .val (.int b20), .val (.int b21), .val (.int b22), .val (.int b23), .val (.int b24), .val (.int b25), .val (.int (((1 : Int32) + (tr b20 2)) + (tr b21 4))), .val (.int (((2 : Int32) + (tr b20 1)) + (tr b22 4))), .unset, .unset, .unset, .unset, .unset, .unset, .unset, .unset, .unset, .unset] [(.int ((4 : Int32) + (tr b21 1)))])) := by
    intro K
    by_cases q : b22 = (0 : Int32)
    · rw [show tr b22 2 = (0 : Int32) from if_pos q] at K
      refine p_iload B42 at_317 (pc' := 319) rfl rfl ?_
      refine b_ifT B42 at_319 (pc' := 326) q (by decide) (by decide) ?_
      refine p_iconst B42 at_326 (pc' := 327) rfl (v := (0 : Int32)) (by decide) ?_
      exact K
    · rw [show tr b22 2 = (2 : Int32) from if_neg q] at K
      refine p_iload B42 at_317 (pc' := 319) rfl rfl ?_
      refine b_ifF B42 at_319 (pc' := 322) rfl q ?_
      refine p_iconst B42 at_322 (pc' := 323) rfl (v := (2 : Int32)) (by decide) ?_
      refine b_goto B42 at_323 (pc' := 327) (by decide) (by decide) ?_
      exact K
  refine K48 ?_
  refine p_iadd B42 at_327 (pc' := 328) rfl rfl ?_
  refine p_istore B42 at_328 (pc' := 330) rfl (Ls' := #[.val (.int p0), .val (.long p1), .second, .val (.long p2), .second, .val (.long p3), .second, .val (.long p4), .second, .val (.int p5), .val (.int u), .val (.int f1), .val (.int t1), .val (.int f2), .val (.int t2), .val (.int f3), .val (.int t3), .val (.int f4), .val (.int t4), .val (.ref a30), .val (.int b20), .val (.int b21), .val (.int b22), .val (.int b23), .val (.int b24), .val (.int b25), .val (.int (((1 : Int32) + (tr b20 2)) + (tr b21 4))), .val (.int (((2 : Int32) + (tr b20 1)) + (tr b22 4))), .val (.int (((4 : Int32) + (tr b21 1)) + (tr b22 2))), .unset, .unset, .unset, .unset, .unset, .unset, .unset, .unset, .unset]) rfl ?_
  have K49 : Fn g D0 M (fun v _ _ => v = some (.int 1)) (T40.setTop (mkF M.m 340 #[.val (.int p0), .val (.long p1), .second, .val (.long p2), .second, .val (.long p3), .second, .val (.long p4), .second, .val (.int p5), .val (.int u), .val (.int f1), .val (.int t1), .val (.int f2), .val (.int t2), .val (.int f3), .val (.int t3), .val (.int f4), .val (.int t4), .val (.ref a30), .val (.int b20), .val (.int b21), .val (.int b22), .val (.int b23), .val (.int b24), .val (.int b25), .val (.int (((1 : Int32) + (tr b20 2)) + (tr b21 4))), .val (.int (((2 : Int32) + (tr b20 1)) + (tr b22 4))), .val (.int (((4 : Int32) + (tr b21 1)) + (tr b22 2))), .unset, .unset, .unset, .unset, .unset, .unset, .unset, .unset, .unset] [(.int (tr b23 1))])) → Fn g D0 M (fun v _ _ => v = some (.int 1)) (T40.setTop (mkF M.m 330 #[.val (.int p0), .val (.long p1), .second, .val (.long p2), .second, .val (.long p3), .second, .val (.long p4), .second, .val (.int p5), .val (.int u), .val (.int f1), .val (.int t1), .val (.int f2), .val (.int t2), .val (.int f3), .val (.int t3), .val (.int f4), .val (.int t4), .val (.ref a30), .val (.int b20), .val (.int b21), .val (.int b22), .val (.int b23), .val (.int b24), .val (.int b25), .val (.int (((1 : Int32) + (tr b20 2)) + (tr b21 4))), .val (.int (((2 : Int32) + (tr b20 1)) + (tr b22 4))), .val (.int (((4 : Int32) + (tr b21 1)) + (tr b22 2))), .unset, .unset, .unset, .unset, .unset, .unset, .unset, .unset, .unset] [])) := by
    intro K
    by_cases q : b23 = (0 : Int32)
    · rw [show tr b23 1 = (0 : Int32) from if_pos q] at K
      refine p_iload B42 at_330 (pc' := 332) rfl rfl ?_
      refine b_ifT B42 at_332 (pc' := 339) q (by decide) (by decide) ?_
      refine p_iconst B42 at_339 (pc' := 340) rfl (v := (0 : Int32)) (by decide) ?_
      exact K
    · rw [show tr b23 1 = (1 : Int32) from if_neg q] at K
      refine p_iload B42 at_330 (pc' := 332) rfl rfl ?_
      refine b_ifF B42 at_332 (pc' := 335) rfl q ?_
      refine p_iconst B42 at_335 (pc' := 336) rfl (v := (1 : Int32)) (by decide) ?_
      refine b_goto B42 at_336 (pc' := 340) (by decide) (by decide) ?_
      exact K
  refine K49 ?_
  have K50 : Fn g D0 M (fun v _ _ => v = some (.int 1)) (T40.setTop (mkF M.m 350 #[.val (.int p0), .val (.long p1), .second, .val (.long p2), .second, .val (.long p3), .second, .val (.long p4), .second, .val (.int p5), .val (.int u), .val (.int f1), .val (.int t1), .val (.int f2), .val (.int t2), .val (.int f3), .val (.int t3), .val (.int f4), .val (.int t4), .val (.ref a30), .val (.int b20), .val (.int b21), .val (.int b22), .val (.int b23), .val (.int b24), .val (.int b25), .val (.int (((1 : Int32) + (tr b20 2)) + (tr b21 4))), .val (.int (((2 : Int32) + (tr b20 1)) + (tr b22 4))), .val (.int (((4 : Int32) + (tr b21 1)) + (tr b22 2))), .unset, .unset, .unset, .unset, .unset, .unset, .unset, .unset, .unset] [(.int (tr b24 2)), (.int (tr b23 1))])) → Fn g D0 M (fun v _ _ => v = some (.int 1)) (T40.setTop (mkF M.m 340 #[.val (.int p0), .val (.long p1), .second, .val (.long p2), .second, .val (.long p3), .second, .val (.long p4), .second, .val (.int p5), .val (.int u), .val (.int f1), .val (.int t1), .val (.int f2), .val (.int t2), .val (.int f3), .val (.int t3), .val (.int f4), .val (.int t4), .val (.ref a30), .val (.int b20), .val (.int b21), .val (.int b22), .val (.int b23), .val (.int b24), .val (.int b25), .val (.int (((1 : Int32) + (tr b20 2)) + (tr b21 4))), .val (.int (((2 : Int32) + (tr b20 1)) + (tr b22 4))), .val (.int (((4 : Int32) + (tr b21 1)) + (tr b22 2))), .unset, .unset, .unset, .unset, .unset, .unset, .unset, .unset, .unset] [(.int (tr b23 1))])) := by
    intro K
    by_cases q : b24 = (0 : Int32)
    · rw [show tr b24 2 = (0 : Int32) from if_pos q] at K
      refine p_iload B42 at_340 (pc' := 342) rfl rfl ?_
      refine b_ifT B42 at_342 (pc' := 349) q (by decide) (by decide) ?_
      refine p_iconst B42 at_349 (pc' := 350) rfl (v := (0 : Int32)) (by decide) ?_
      exact K
    · rw [show tr b24 2 = (2 : Int32) from if_neg q] at K
      refine p_iload B42 at_340 (pc' := 342) rfl rfl ?_
      refine b_ifF B42 at_342 (pc' := 345) rfl q ?_
      refine p_iconst B42 at_345 (pc' := 346) rfl (v := (2 : Int32)) (by decide) ?_
      refine b_goto B42 at_346 (pc' := 350) (by decide) (by decide) ?_
      exact K
  refine K50 ?_
  refine p_iadd B42 at_350 (pc' := 351) rfl rfl ?_
  have K51 : Fn g D0 M (fun v _ _ => v = some (.int 1)) (T40.setTop (mkF M.m 361 #[.val (.int p0), .val (.long p1), .second, .val (.long p2), .second, .val (.long p3), .second, .val (.long p4), .second, .val (.int p5), .val (.int u), .val (.int f1), .val (.int t1), .val (.int f2), .val (.int t2), .val (.int f3), .val (.int t3), .val (.int f4), .val (.int t4), .val (.ref a30), .val (.int b20), .val (.int b21), .val (.int b22), .val (.int b23), .val (.int b24), .val (.int b25), .val (.int (((1 : Int32) + (tr b20 2)) + (tr b21 4))), .val (.int (((2 : Int32) + (tr b20 1)) + (tr b22 4))), .val (.int (((4 : Int32) + (tr b21 1)) + (tr b22 2))), .unset, .unset, .unset, .unset, .unset, .unset, .unset, .unset, .unset] [(.int (tr b25 4)), (.int ((tr b23 1) + (tr b24 2)))])) → Fn g D0 M (fun v _ _ => v = some (.int 1)) (T40.setTop (mkF M.m 351 #[.val (.int p0), .val (.long p1), .second, .val (.long p2), .second, .val (.long p3), .second, .val (.long p4), .second, .val (.int p5), .val (.int u), .val (.int f1), .val (.int t1), .val (.int f2), .val (.int t2), .val (.int f3), .val (.int t3), .val (.int f4), .val (.int t4), .val (.ref a30), .val (.int b20), .val (.int b21), .val (.int b22), .val (.int b23), .val (.int b24), .val (.int b25), .val (.int (((1 : Int32) + (tr b20 2)) + (tr b21 4))), .val (.int (((2 : Int32) + (tr b20 1)) + (tr b22 4))), .val (.int (((4 : Int32) + (tr b21 1)) + (tr b22 2))), .unset, .unset, .unset, .unset, .unset, .unset, .unset, .unset, .unset] [(.int ((tr b23 1) + (tr b24 2)))])) := by
    intro K
    by_cases q : b25 = (0 : Int32)
    · rw [show tr b25 4 = (0 : Int32) from if_pos q] at K
      refine p_iload B42 at_351 (pc' := 353) rfl rfl ?_
      refine b_ifT B42 at_353 (pc' := 360) q (by decide) (by decide) ?_
      refine p_iconst B42 at_360 (pc' := 361) rfl (v := (0 : Int32)) (by decide) ?_
      exact K
    · rw [show tr b25 4 = (4 : Int32) from if_neg q] at K
      refine p_iload B42 at_351 (pc' := 353) rfl rfl ?_
      refine b_ifF B42 at_353 (pc' := 356) rfl q ?_
      refine p_iconst B42 at_356 (pc' := 357) rfl (v := (4 : Int32)) (by decide) ?_
      refine b_goto B42 at_357 (pc' := 361) (by decide) (by decide) ?_
      exact K
  refine K51 ?_
  refine p_iadd B42 at_361 (pc' := 362) rfl rfl ?_
  refine p_istore B42 at_362 (pc' := 364) rfl (Ls' := #[.val (.int p0), .val (.long p1), .second, .val (.long p2), .second, .val (.long p3), .second, .val (.long p4), .second, .val (.int p5), .val (.int u), .val (.int f1), .val (.int t1), .val (.int f2), .val (.int t2), .val (.int f3), .val (.int t3), .val (.int f4), .val (.int t4), .val (.ref a30), .val (.int b20), .val (.int b21), .val (.int b22), .val (.int b23), .val (.int b24), .val (.int b25), .val (.int (((1 : Int32) + (tr b20 2)) + (tr b21 4))), .val (.int (((2 : Int32) + (tr b20 1)) + (tr b22 4))), .val (.int (((4 : Int32) + (tr b21 1)) + (tr b22 2))), .val (.int (((tr b23 1) + (tr b24 2)) + (tr b25 4))), .unset, .unset, .unset, .unset, .unset, .unset, .unset, .unset]) rfl ?_
  refine p_aload B42 at_364 (pc' := 366) rfl rfl rfl ?_
  refine p_iload B42 at_366 (pc' := 368) rfl rfl ?_
  refine p_iload B42 at_368 (pc' := 370) rfl rfl ?_
  obtain ⟨mm1, j1, l01, y1, Rd1, hl01, -, -⟩ := inv_at hC I3 (by simp) (ky f1 t1 u)
  refine r_virtual (D' := D10) B42 at_370 (pc' := 373) rfl (W56 B42.gw) (W57 B42.gw) (W59 B42.gw) (fun vm0 hZ => notFace_of_selects (args := #[]) (mvT hZ (W59 B42.gw))) (W58 B42.gw) (W15 B42.gw) (W60 B42.gw) (by decide) (fE (i := 0) rfl) (k_ge W a30 ka va f1 t1 u n3 hk1 hC I3.1 mm1 j1 Rd1 hl01 (get_inv I3 hk1 Rd1 hl01) _ _) (argsL := [(.int f1), (.int t1)]) (rest := []) rfl pd7 rfl rfl rfl (W := 0) rfl (by decide) (by decide) (cs' := 3) rfl (ss' := 4100) rfl (by decide) (by decide) ?_
  intro T52 v53 B54
  replace B54 := Rn.and B54
  obtain ⟨rfl, B54⟩ := B54
  show Fn g D0 M _ (T52.setTop (mkF M.m 373 #[.val (.int p0), .val (.long p1), .second, .val (.long p2), .second, .val (.long p3), .second, .val (.long p4), .second, .val (.int p5), .val (.int u), .val (.int f1), .val (.int t1), .val (.int f2), .val (.int t2), .val (.int f3), .val (.int t3), .val (.int f4), .val (.int t4), .val (.ref a30), .val (.int b20), .val (.int b21), .val (.int b22), .val (.int b23), .val (.int b24), .val (.int b25), .val (.int (((1 : Int32) + (tr b20 2)) + (tr b21 4))), .val (.int (((2 : Int32) + (tr b20 1)) + (tr b22 4))), .val (.int (((4 : Int32) + (tr b21 1)) + (tr b22 2))), .val (.int (((tr b23 1) + (tr b24 2)) + (tr b25 4))), .unset, .unset, .unset, .unset, .unset, .unset, .unset, .unset] [(.double (FP.l2d (M3 (ky f1 t1 u) (ky f2 t2 u) (ky f3 t3 u) (ky f1 t1 u))))]))
  refine p_dstore B54 at_373 (pc' := 375) rfl (Ls' := #[.val (.int p0), .val (.long p1), .second, .val (.long p2), .second, .val (.long p3), .second, .val (.long p4), .second, .val (.int p5), .val (.int u), .val (.int f1), .val (.int t1), .val (.int f2), .val (.int t2), .val (.int f3), .val (.int t3), .val (.int f4), .val (.int t4), .val (.ref a30), .val (.int b20), .val (.int b21), .val (.int b22), .val (.int b23), .val (.int b24), .val (.int b25), .val (.int (((1 : Int32) + (tr b20 2)) + (tr b21 4))), .val (.int (((2 : Int32) + (tr b20 1)) + (tr b22 4))), .val (.int (((4 : Int32) + (tr b21 1)) + (tr b22 2))), .val (.int (((tr b23 1) + (tr b24 2)) + (tr b25 4))), .val (.double (FP.l2d (M3 (ky f1 t1 u) (ky f2 t2 u) (ky f3 t3 u) (ky f1 t1 u)))), .second, .unset, .unset, .unset, .unset, .unset, .unset]) rfl ?_
  refine p_aload B54 at_375 (pc' := 377) rfl rfl rfl ?_
  refine p_iload B54 at_377 (pc' := 379) rfl rfl ?_
  refine p_iload B54 at_379 (pc' := 381) rfl rfl ?_
  obtain ⟨mm2, j2, l02, y2, Rd2, hl02, -, -⟩ := inv_at hC I3 (by simp) (ky f2 t2 u)
  refine r_virtual (D' := D10) B54 at_381 (pc' := 384) rfl (W56 B54.gw) (W57 B54.gw) (W59 B54.gw) (fun vm0 hZ => notFace_of_selects (args := #[]) (mvT hZ (W59 B54.gw))) (W58 B54.gw) (W15 B54.gw) (W60 B54.gw) (by decide) (fE (i := 0) rfl) (k_ge W a30 ka va f2 t2 u n3 hk2 hC I3.1 mm2 j2 Rd2 hl02 (get_inv I3 hk2 Rd2 hl02) _ _) (argsL := [(.int f2), (.int t2)]) (rest := []) rfl pd7 rfl rfl rfl (W := 0) rfl (by decide) (by decide) (cs' := 3) rfl (ss' := 4100) rfl (by decide) (by decide) ?_
  intro T55 v56 B57
  replace B57 := Rn.and B57
  obtain ⟨rfl, B57⟩ := B57
  show Fn g D0 M _ (T55.setTop (mkF M.m 384 #[.val (.int p0), .val (.long p1), .second, .val (.long p2), .second, .val (.long p3), .second, .val (.long p4), .second, .val (.int p5), .val (.int u), .val (.int f1), .val (.int t1), .val (.int f2), .val (.int t2), .val (.int f3), .val (.int t3), .val (.int f4), .val (.int t4), .val (.ref a30), .val (.int b20), .val (.int b21), .val (.int b22), .val (.int b23), .val (.int b24), .val (.int b25), .val (.int (((1 : Int32) + (tr b20 2)) + (tr b21 4))), .val (.int (((2 : Int32) + (tr b20 1)) + (tr b22 4))), .val (.int (((4 : Int32) + (tr b21 1)) + (tr b22 2))), .val (.int (((tr b23 1) + (tr b24 2)) + (tr b25 4))), .val (.double (FP.l2d (M3 (ky f1 t1 u) (ky f2 t2 u) (ky f3 t3 u) (ky f1 t1 u)))), .second, .unset, .unset, .unset, .unset, .unset, .unset] [(.double (FP.l2d (M3 (ky f1 t1 u) (ky f2 t2 u) (ky f3 t3 u) (ky f2 t2 u))))]))
  refine p_dstore B57 at_384 (pc' := 386) rfl (Ls' := #[.val (.int p0), .val (.long p1), .second, .val (.long p2), .second, .val (.long p3), .second, .val (.long p4), .second, .val (.int p5), .val (.int u), .val (.int f1), .val (.int t1), .val (.int f2), .val (.int t2), .val (.int f3), .val (.int t3), .val (.int f4), .val (.int t4), .val (.ref a30), .val (.int b20), .val (.int b21), .val (.int b22), .val (.int b23), .val (.int b24), .val (.int b25), .val (.int (((1 : Int32) + (tr b20 2)) + (tr b21 4))), .val (.int (((2 : Int32) + (tr b20 1)) + (tr b22 4))), .val (.int (((4 : Int32) + (tr b21 1)) + (tr b22 2))), .val (.int (((tr b23 1) + (tr b24 2)) + (tr b25 4))), .val (.double (FP.l2d (M3 (ky f1 t1 u) (ky f2 t2 u) (ky f3 t3 u) (ky f1 t1 u)))), .second, .val (.double (FP.l2d (M3 (ky f1 t1 u) (ky f2 t2 u) (ky f3 t3 u) (ky f2 t2 u)))), .second, .unset, .unset, .unset, .unset]) rfl ?_
  refine p_aload B57 at_386 (pc' := 388) rfl rfl rfl ?_
  refine p_iload B57 at_388 (pc' := 390) rfl rfl ?_
  refine p_iload B57 at_390 (pc' := 392) rfl rfl ?_
  obtain ⟨mm3, j3, l03, y3, Rd3, hl03, -, -⟩ := inv_at hC I3 (by simp) (ky f3 t3 u)
  refine r_virtual (D' := D10) B57 at_392 (pc' := 395) rfl (W56 B57.gw) (W57 B57.gw) (W59 B57.gw) (fun vm0 hZ => notFace_of_selects (args := #[]) (mvT hZ (W59 B57.gw))) (W58 B57.gw) (W15 B57.gw) (W60 B57.gw) (by decide) (fE (i := 0) rfl) (k_ge W a30 ka va f3 t3 u n3 hk3 hC I3.1 mm3 j3 Rd3 hl03 (get_inv I3 hk3 Rd3 hl03) _ _) (argsL := [(.int f3), (.int t3)]) (rest := []) rfl pd7 rfl rfl rfl (W := 0) rfl (by decide) (by decide) (cs' := 3) rfl (ss' := 4100) rfl (by decide) (by decide) ?_
  intro T58 v59 B60
  replace B60 := Rn.and B60
  obtain ⟨rfl, B60⟩ := B60
  show Fn g D0 M _ (T58.setTop (mkF M.m 395 #[.val (.int p0), .val (.long p1), .second, .val (.long p2), .second, .val (.long p3), .second, .val (.long p4), .second, .val (.int p5), .val (.int u), .val (.int f1), .val (.int t1), .val (.int f2), .val (.int t2), .val (.int f3), .val (.int t3), .val (.int f4), .val (.int t4), .val (.ref a30), .val (.int b20), .val (.int b21), .val (.int b22), .val (.int b23), .val (.int b24), .val (.int b25), .val (.int (((1 : Int32) + (tr b20 2)) + (tr b21 4))), .val (.int (((2 : Int32) + (tr b20 1)) + (tr b22 4))), .val (.int (((4 : Int32) + (tr b21 1)) + (tr b22 2))), .val (.int (((tr b23 1) + (tr b24 2)) + (tr b25 4))), .val (.double (FP.l2d (M3 (ky f1 t1 u) (ky f2 t2 u) (ky f3 t3 u) (ky f1 t1 u)))), .second, .val (.double (FP.l2d (M3 (ky f1 t1 u) (ky f2 t2 u) (ky f3 t3 u) (ky f2 t2 u)))), .second, .unset, .unset, .unset, .unset] [(.double (FP.l2d (M3 (ky f1 t1 u) (ky f2 t2 u) (ky f3 t3 u) (ky f3 t3 u))))]))
  refine p_dstore B60 at_395 (pc' := 397) rfl (Ls' := #[.val (.int p0), .val (.long p1), .second, .val (.long p2), .second, .val (.long p3), .second, .val (.long p4), .second, .val (.int p5), .val (.int u), .val (.int f1), .val (.int t1), .val (.int f2), .val (.int t2), .val (.int f3), .val (.int t3), .val (.int f4), .val (.int t4), .val (.ref a30), .val (.int b20), .val (.int b21), .val (.int b22), .val (.int b23), .val (.int b24), .val (.int b25), .val (.int (((1 : Int32) + (tr b20 2)) + (tr b21 4))), .val (.int (((2 : Int32) + (tr b20 1)) + (tr b22 4))), .val (.int (((4 : Int32) + (tr b21 1)) + (tr b22 2))), .val (.int (((tr b23 1) + (tr b24 2)) + (tr b25 4))), .val (.double (FP.l2d (M3 (ky f1 t1 u) (ky f2 t2 u) (ky f3 t3 u) (ky f1 t1 u)))), .second, .val (.double (FP.l2d (M3 (ky f1 t1 u) (ky f2 t2 u) (ky f3 t3 u) (ky f2 t2 u)))), .second, .val (.double (FP.l2d (M3 (ky f1 t1 u) (ky f2 t2 u) (ky f3 t3 u) (ky f3 t3 u)))), .second, .unset, .unset]) rfl ?_
  refine p_aload B60 at_397 (pc' := 399) rfl rfl rfl ?_
  refine p_iload B60 at_399 (pc' := 401) rfl rfl ?_
  refine p_iload B60 at_401 (pc' := 403) rfl rfl ?_
  obtain ⟨mm4, j4, l04, y4, Rd4, hl04, -, -⟩ := inv_at hC I3 (by simp) (ky f4 t4 u)
  refine r_virtual (D' := D10) B60 at_403 (pc' := 406) rfl (W56 B60.gw) (W57 B60.gw) (W59 B60.gw) (fun vm0 hZ => notFace_of_selects (args := #[]) (mvT hZ (W59 B60.gw))) (W58 B60.gw) (W15 B60.gw) (W60 B60.gw) (by decide) (fE (i := 0) rfl) (k_ge W a30 ka va f4 t4 u n3 hk4 hC I3.1 mm4 j4 Rd4 hl04 (get_inv I3 hk4 Rd4 hl04) _ _) (argsL := [(.int f4), (.int t4)]) (rest := []) rfl pd7 rfl rfl rfl (W := 0) rfl (by decide) (by decide) (cs' := 3) rfl (ss' := 4100) rfl (by decide) (by decide) ?_
  intro T61 v62 B63
  replace B63 := Rn.and B63
  obtain ⟨rfl, B63⟩ := B63
  show Fn g D0 M _ (T61.setTop (mkF M.m 406 #[.val (.int p0), .val (.long p1), .second, .val (.long p2), .second, .val (.long p3), .second, .val (.long p4), .second, .val (.int p5), .val (.int u), .val (.int f1), .val (.int t1), .val (.int f2), .val (.int t2), .val (.int f3), .val (.int t3), .val (.int f4), .val (.int t4), .val (.ref a30), .val (.int b20), .val (.int b21), .val (.int b22), .val (.int b23), .val (.int b24), .val (.int b25), .val (.int (((1 : Int32) + (tr b20 2)) + (tr b21 4))), .val (.int (((2 : Int32) + (tr b20 1)) + (tr b22 4))), .val (.int (((4 : Int32) + (tr b21 1)) + (tr b22 2))), .val (.int (((tr b23 1) + (tr b24 2)) + (tr b25 4))), .val (.double (FP.l2d (M3 (ky f1 t1 u) (ky f2 t2 u) (ky f3 t3 u) (ky f1 t1 u)))), .second, .val (.double (FP.l2d (M3 (ky f1 t1 u) (ky f2 t2 u) (ky f3 t3 u) (ky f2 t2 u)))), .second, .val (.double (FP.l2d (M3 (ky f1 t1 u) (ky f2 t2 u) (ky f3 t3 u) (ky f3 t3 u)))), .second, .unset, .unset] [(.double (FP.l2d (M3 (ky f1 t1 u) (ky f2 t2 u) (ky f3 t3 u) (ky f4 t4 u))))]))
  refine p_dstore B63 at_406 (pc' := 408) rfl (Ls' := #[.val (.int p0), .val (.long p1), .second, .val (.long p2), .second, .val (.long p3), .second, .val (.long p4), .second, .val (.int p5), .val (.int u), .val (.int f1), .val (.int t1), .val (.int f2), .val (.int t2), .val (.int f3), .val (.int t3), .val (.int f4), .val (.int t4), .val (.ref a30), .val (.int b20), .val (.int b21), .val (.int b22), .val (.int b23), .val (.int b24), .val (.int b25), .val (.int (((1 : Int32) + (tr b20 2)) + (tr b21 4))), .val (.int (((2 : Int32) + (tr b20 1)) + (tr b22 4))), .val (.int (((4 : Int32) + (tr b21 1)) + (tr b22 2))), .val (.int (((tr b23 1) + (tr b24 2)) + (tr b25 4))), .val (.double (FP.l2d (M3 (ky f1 t1 u) (ky f2 t2 u) (ky f3 t3 u) (ky f1 t1 u)))), .second, .val (.double (FP.l2d (M3 (ky f1 t1 u) (ky f2 t2 u) (ky f3 t3 u) (ky f2 t2 u)))), .second, .val (.double (FP.l2d (M3 (ky f1 t1 u) (ky f2 t2 u) (ky f3 t3 u) (ky f3 t3 u)))), .second, .val (.double (FP.l2d (M3 (ky f1 t1 u) (ky f2 t2 u) (ky f3 t3 u) (ky f4 t4 u)))), .second]) rfl ?_
  refine p_dload B63 at_408 (pc' := 410) rfl rfl ?_
  refine p_iload B63 at_410 (pc' := 412) rfl rfl ?_
  refine p_i2d B63 at_412 (pc' := 413) rfl rfl ?_
  refine p_dcmp B63 at_413 (pc' := 414) rfl (v := (0 : Int32)) (by rw [Jvm.RoadKit.i2d_w, ← fM1 hb20 hb21]; exact Jvm.RoadKit.dcmpV_self (Jvm.Free.Fl.l2d_fin _).noNaN _) ?_
  refine b_ifF B63 at_414 (pc' := 417) rfl (show (0 : Int32) = (0 : Int32) from by decide) ?_
  refine p_dload B63 at_417 (pc' := 419) rfl rfl ?_
  refine p_iload B63 at_419 (pc' := 421) rfl rfl ?_
  refine p_i2d B63 at_421 (pc' := 422) rfl rfl ?_
  refine p_dcmp B63 at_422 (pc' := 423) rfl (v := (0 : Int32)) (by rw [Jvm.RoadKit.i2d_w, ← fM2 hb20 hb22]; exact Jvm.RoadKit.dcmpV_self (Jvm.Free.Fl.l2d_fin _).noNaN _) ?_
  refine b_ifF B63 at_423 (pc' := 426) rfl (show (0 : Int32) = (0 : Int32) from by decide) ?_
  refine p_dload B63 at_426 (pc' := 428) rfl rfl ?_
  refine p_iload B63 at_428 (pc' := 430) rfl rfl ?_
  refine p_i2d B63 at_430 (pc' := 431) rfl rfl ?_
  refine p_dcmp B63 at_431 (pc' := 432) rfl (v := (0 : Int32)) (by rw [Jvm.RoadKit.i2d_w, ← fM3 hb21 hb22]; exact Jvm.RoadKit.dcmpV_self (Jvm.Free.Fl.l2d_fin _).noNaN _) ?_
  refine b_ifF B63 at_432 (pc' := 435) rfl (show (0 : Int32) = (0 : Int32) from by decide) ?_
  refine p_dload B63 at_435 (pc' := 437) rfl rfl ?_
  refine p_iload B63 at_437 (pc' := 439) rfl rfl ?_
  refine p_i2d B63 at_439 (pc' := 440) rfl rfl ?_
  refine p_dcmp B63 at_440 (pc' := 441) rfl (v := (0 : Int32)) (by rw [Jvm.RoadKit.i2d_w, ← fM4 hb23 hb24 hb25]; exact Jvm.RoadKit.dcmpV_self (Jvm.Free.Fl.l2d_fin _).noNaN _) ?_
  refine b_ifF B63 at_441 (pc' := 444) rfl (show (0 : Int32) = (0 : Int32) from by decide) ?_
  refine p_iconst B63 at_444 (pc' := 445) rfl (v := (1 : Int32)) (by decide) ?_
  refine b_goto B63 at_445 (pc' := 449) (by decide) (by decide) ?_
  exact r_reti B63 at_449 rfl (by simp) rfl (by decide) (by decide) (fun vm h P => rfl)
theorem comes_1 {Post : Tables → Env → Array Value → State → Outcome → State → Prop} (hpost : ∀ tb e args s v u, (limb_1_1.after args s (.returned v) u = true ∧ limb_1_2.after args s (.returned v) u = true ∧ True) → Framed s (.returned v) u (Jvm.fieldLocs frame_1_writes args s ++ Jvm.arrayLocs frame_1_arrays args s ++ Jvm.staticLocs frame_1_statics s) 16 8320 → Post tb e args s (.returned v) u) :
    ArmFor flags0 classFile x code maxLocals ret World_1 tables_1 room_1 Calls_1 rest_1 Pre_1 Post := by
  intro l hfl _ _ p e ha hc hk s m args below hf hA hF happ hP
  obtain ⟨hcalls, hrest, hpre⟩ := hP
  obtain ⟨-, -, -, hnamed, -, -, -, hat⟩ := (Spec.applies_iff hf).mp happ
  obtain ⟨hg, hn⟩ := and_e (Cond.before_iff.mp (show (Jvm.Cond.and given_1 narrow_1).before args s = true from hpre))
  obtain ⟨q0, r0⟩ := and_e hg
  obtain ⟨q1, r1⟩ := and_e r0
  obtain ⟨q2, r2⟩ := and_e r1
  obtain ⟨q3, r3⟩ := and_e r2
  obtain ⟨q4, r4⟩ := and_e r3
  obtain ⟨q5, r5⟩ := and_e r4
  obtain ⟨w0, w1, w2, w3, w4, w5, rfl⟩ : ∃ w0 w1 w2 w3 w4 w5 : Value, args = #[w0, w1, w2, w3, w4, w5] := by
    have hs : args.size = 6 := by simpa [Cond.value, given_1] using q0
    obtain ⟨L⟩ := args
    match L, hs with
    | [w0, w1, w2, w3, w4, w5], _ => exact ⟨w0, w1, w2, w3, w4, w5, rfl⟩
  have hw := fun d (hd : d ∈ tables_1) => atoms_spec (ws := Jvm.Cond.code x code maxLocals ret :: tables_1) hat d (List.mem_cons_of_mem _ hd)
  have hfit : Fit s := fun {y c} hc i hi => by
    obtain ⟨ha, rfl⟩ := Array.getElem?_eq_some_iff.mp hc
    have q := List.all_eq_true.mp ((Array.all_eq_true_iff_forall_mem.mp hF) _ (Array.getElem_mem ha)) i (List.mem_range.mpr hi)
    simpa [Array.getElem?_eq_getElem hi] using q
  obtain ⟨i0, ei0⟩ := is_v q1
  obtain rfl : w0 = (.int i0) := Option.some.inj ei0
  obtain ⟨i1, ei1⟩ := isL_v q2
  obtain rfl : w1 = (.long i1) := Option.some.inj ei1
  obtain ⟨i2, ei2⟩ := isL_v q3
  obtain rfl : w2 = (.long i2) := Option.some.inj ei2
  obtain ⟨i3, ei3⟩ := isL_v q4
  obtain rfl : w3 = (.long i3) := Option.some.inj ei3
  obtain ⟨i4, ei4⟩ := isL_v q5
  obtain rfl : w4 = (.long i4) := Option.some.inj ei4
  obtain ⟨i5, ei5⟩ := is_v r5
  obtain rfl : w5 = (.int i5) := Option.some.inj ei5
  have hEW : EW s #[(.int i0), (.long i1), (.long i2), (.long i3), (.long i4), (.int i5)] [] := EW.nil
  have hCH : CHv s [] s.vm s.heap := nofun
  have W : GW (l, s, #[(.int i0), (.long i1), (.long i2), (.long i3), (.long i4), (.int i5)], []) := ⟨hw, hEW, trivial, hfit, rfl⟩
  obtain ⟨n, o, h1, h2, h3, _, L, rfl, rfl, N, hr⟩ := k_law W i0 i1 i2 i3 i4 i5 p e ha hc hk s m _ below hf ((Spec.applies_iff_loose hf).mp happ).1 ⟨rfl, State.Warmed39.refl s, hCH, ext_rfl _, Hp.nil⟩ trivial
  exact ⟨n, _, h1, h2, h3, hpost _ _ _ _ _ _ ⟨Cond.after_iff.mpr rfl, Cond.after_iff.mpr (eq_i res_at (Term.int_eval (1)) rfl), trivial⟩ ⟨hr.2.2.1, hr.2.2.2.1, (hr.2.2.2.2.sift fun y hy => Or.inr (N y hy)).mono (by decide) (by decide)⟩⟩
theorem main_1_1 : Claimed_1_1 := comes_1 fun _ _ _ _ _ _ h hF => ⟨h.1, hF⟩
theorem main_1_2 : Claimed_1_2 := comes_1 fun _ _ _ _ _ _ h hF => ⟨h.2.1, hF⟩
end Jvm.Pilot.@@N@@
namespace Jvm.Pilot.@@N@@
open Jvm Jvm.ClassFile Sem Op Lib Jvm.Free Jvm.Stand Jvm.Pilot.@@N@@.Jvm.D
/-! MADE BY PROGRAM (witnessworld.py) out of the Statement's table words and the real class files: 20 classes; the members and pool entries that the words name. The judged class is class 1, her method 1. -/
namespace start1
open Jvm.ClassFile
def u (s : String) : CpInfo := .utf8 (stringToUtf16 s)
/-- a pool by its gaps: so many unusable entries, then the entry; so many at the end -/
def gap : Nat → List CpInfo → List CpInfo
  | 0, r => r
  | n + 1, r => .unusable :: gap n r
def poolList (es : List (Nat × CpInfo)) (last : Nat) : List CpInfo := es.foldr (fun e r => gap e.1 (e.2 :: r)) (gap last [])
def pool (es : List (Nat × CpInfo)) (last : Nat) : Array CpInfo := ⟨poolList es last⟩
def fileOf (pool : Array CpInfo) (this : Nat) (attrs : Array Attribute := #[]) (ms : Array MethodInfo := #[]) (fl : Nat := 33) (sup : Nat := 0) (ifs : Array Nat := #[]) (fds : Array FieldInfo := #[]) : ClassFile where
  minorVersion := 0
  majorVersion := 65
  constantPool := pool
  accessFlags := fl
  thisClass := this
  superClass := sup
  interfaces := ifs
  fields := fds
  methods := ms
  attributes := attrs
def plain (name : String) (sup : Option ClassId) : Class where
  name := name
  kind := .ordinary
  loader := none
  accessFlags := 33
  super := sup
  interfaces := #[]
  cf := none
  fields := #[]
  methods := #[]
  instanceTypes := #[]
  staticTypes := #[]
  resolved := #[]
  callSites := []
  init := .initialized
  statics := none
  mirror := none

def pool0 : Array CpInfo := pool [(5, u "<init>"), (0, u "()V"), (1, .class_ 10), (1, u "java/lang/Object")] 113

def k0c0 : Code := { maxStack := 0, maxLocals := 1, code := object_method_1_code, exceptionTable := #[], attributes := #[] }
def k0m0 : Method := { name := "<init>", desc := "()V", sig := { parameters := [], returnType := none }, accessFlags := 1, code := some k0c0 }
/-- java/lang/Object -/
def k0 : Class := { plain "java/lang/Object" none with
  accessFlags := 33
  interfaces := #[]
  cf := some (fileOf pool0 8 #[] #[{ accessFlags := 1, nameIndex := 5, descriptorIndex := 6, attributes := #[] }] 33 0 #[] #[])
  fields := #[]
  methods := #[k0m0]
  instanceTypes := #[]
  staticTypes := #[]
  resolved := Array.replicate 124 none
  statics := none }

def pool1 : Array CpInfo := pool [(2, .class_ 4), (1, u "java/lang/Object"), (0, u "<init>"), (0, u "()V"), (0, .integer 2147483647), (0, .methodref 9 10), (0, .class_ 11), (0, .nameAndType 12 13), (0, u "java/lang/Math"), (0, u "max"), (0, u "(II)I"), (0, .methodref 15 16), (0, .class_ 17), (0, .nameAndType 18 19), (0, u "com/example/keys_to_peers/keystopeers/placement/LeaveFlowsGetPinLaw"), (0, u "from"), (0, u "(JI)I"), (0, .methodref 15 21), (0, .nameAndType 22 19), (0, u "to"), (0, .class_ 24), (0, u "com/example/keys_to_peers/keystopeers/placement/LeaveFlows"), (0, .methodref 23 26), (0, .nameAndType 5 27), (0, u "(II)V"), (0, .methodref 23 29), (0, .nameAndType 30 31), (0, u "add"), (0, u "(IID)V"), (0, .double 4611686018427387904), (1, .double 4616189618054758400), (1, .methodref 23 37), (0, .nameAndType 38 39), (0, u "get"), (0, u "(II)D"), (0, .long 2147483647), (3, u "law"), (0, u "(IJJJJI)Z")] 3

def k1m0 : Method := { name := "<init>", desc := "()V", sig := { parameters := [], returnType := none }, accessFlags := 1, code := none }
def k1c1 : Code := { maxStack := 5, maxLocals := 38, code := code, exceptionTable := #[], attributes := #[] }
def k1m1 : Method := { name := "law", desc := "(IJJJJI)Z", sig := { parameters := [.int, .long, .long, .long, .long, .int], returnType := some .boolean }, accessFlags := 9, code := some k1c1 }
def k1c2 : Code := { maxStack := 4, maxLocals := 3, code := method_3_code, exceptionTable := #[], attributes := #[] }
def k1m2 : Method := { name := "from", desc := "(JI)I", sig := { parameters := [.long, .int], returnType := some .int }, accessFlags := 10, code := some k1c2 }
def k1c3 : Code := { maxStack := 4, maxLocals := 3, code := method_4_code, exceptionTable := #[], attributes := #[] }
def k1m3 : Method := { name := "to", desc := "(JI)I", sig := { parameters := [.long, .int], returnType := some .int }, accessFlags := 10, code := some k1c3 }
/-- com/example/keys_to_peers/keystopeers/placement/LeaveFlowsGetPinLaw -/
def k1 : Class := { plain "com/example/keys_to_peers/keystopeers/placement/LeaveFlowsGetPinLaw" (some 0) with
  accessFlags := 49
  interfaces := #[]
  cf := some (fileOf pool1 15 #[] #[{ accessFlags := 1, nameIndex := 5, descriptorIndex := 6, attributes := #[] }, { accessFlags := 9, nameIndex := 44, descriptorIndex := 45, attributes := #[] }, { accessFlags := 10, nameIndex := 18, descriptorIndex := 19, attributes := #[] }, { accessFlags := 10, nameIndex := 22, descriptorIndex := 19, attributes := #[] }] 49 2 #[] #[])
  fields := #[]
  methods := #[k1m0, k1m1, k1m2, k1m3]
  instanceTypes := #[]
  staticTypes := #[]
  resolved := Array.replicate 49 none
  statics := none }

def pool2 : Array CpInfo := pool [(1, .class_ 2), (0, u "java/lang/Math"), (1, .class_ 6), (1, u "java/lang/Object"), (0, u "<init>"), (0, u "()V"), (89, .class_ 100), (1, u "java/lang/Math$RandomNumberGeneratorHolder"), (71, u "negativeZeroFloatBits"), (0, u "J"), (2, u "negativeZeroDoubleBits"), (21, u "max"), (46, u "$assertionsDisabled"), (0, u "Z"), (88, u "(II)I"), (2, u "twoToTheDoubleScaleDown"), (0, u "D"), (4, u "twoToTheDoubleScaleUp"), (9, u "E"), (3, u "PI"), (2, u "TAU"), (2, u "DEGREES_TO_RADIANS"), (0, u "RADIANS_TO_DEGREES")] 94

def k2m0 : Method := { name := "<init>", desc := "()V", sig := { parameters := [], returnType := none }, accessFlags := 2, code := none }
def k2c1 : Code := { maxStack := 2, maxLocals := 2, code := jdk_29_method_65_code, exceptionTable := #[], attributes := #[] }
def k2m1 : Method := { name := "max", desc := "(II)I", sig := { parameters := [.int, .int], returnType := some .int }, accessFlags := 9, code := some k2c1 }
/-- java/lang/Math -/
def k2 : Class := { plain "java/lang/Math" (some 0) with
  accessFlags := 49
  interfaces := #[]
  cf := some (fileOf pool2 1 #[.nestMembers #[98]] #[{ accessFlags := 2, nameIndex := 7, descriptorIndex := 8, attributes := #[] }, { accessFlags := 9, nameIndex := 198, descriptorIndex := 335, attributes := #[] }] 49 4 #[] #[{ accessFlags := 25, nameIndex := 354, descriptorIndex := 339, attributes := #[] }, { accessFlags := 25, nameIndex := 358, descriptorIndex := 339, attributes := #[] }, { accessFlags := 25, nameIndex := 361, descriptorIndex := 339, attributes := #[] }, { accessFlags := 26, nameIndex := 364, descriptorIndex := 339, attributes := #[] }, { accessFlags := 26, nameIndex := 365, descriptorIndex := 339, attributes := #[] }, { accessFlags := 26, nameIndex := 172, descriptorIndex := 173, attributes := #[] }, { accessFlags := 26, nameIndex := 176, descriptorIndex := 173, attributes := #[] }, { accessFlags := 8, nameIndex := 344, descriptorIndex := 339, attributes := #[] }, { accessFlags := 8, nameIndex := 338, descriptorIndex := 339, attributes := #[] }, { accessFlags := 4120, nameIndex := 245, descriptorIndex := 246, attributes := #[] }])
  fields := #[{ name := "E", type := .double, accessFlags := 25, slot := 0, constantValue := 0 }, { name := "PI", type := .double, accessFlags := 25, slot := 1, constantValue := 0 }, { name := "TAU", type := .double, accessFlags := 25, slot := 2, constantValue := 0 }, { name := "DEGREES_TO_RADIANS", type := .double, accessFlags := 26, slot := 3, constantValue := 0 }, { name := "RADIANS_TO_DEGREES", type := .double, accessFlags := 26, slot := 4, constantValue := 0 }, { name := "negativeZeroFloatBits", type := .long, accessFlags := 26, slot := 5, constantValue := 0 }, { name := "negativeZeroDoubleBits", type := .long, accessFlags := 26, slot := 6, constantValue := 0 }, { name := "twoToTheDoubleScaleUp", type := .double, accessFlags := 8, slot := 7, constantValue := 0 }, { name := "twoToTheDoubleScaleDown", type := .double, accessFlags := 8, slot := 8, constantValue := 0 }, { name := "$assertionsDisabled", type := .boolean, accessFlags := 4120, slot := 9, constantValue := 0 }]
  methods := #[k2m0, k2m1]
  instanceTypes := #[]
  staticTypes := #[.double, .double, .double, .double, .double, .long, .long, .double, .double, .boolean]
  resolved := Array.replicate 460 none
  statics := none }

def pool3 : Array CpInfo := pool [(1, .methodref 2 3), (0, .class_ 4), (0, .nameAndType 5 6), (0, u "java/lang/Object"), (0, u "<init>"), (0, u "()V"), (0, .fieldref 8 9), (0, .class_ 10), (0, .nameAndType 11 12), (0, u "com/example/keys_to_peers/keystopeers/placement/LeaveFlows"), (0, u "units"), (0, u "J"), (0, .long 4), (1, .long 3), (1, .fieldref 8 18), (0, .nameAndType 19 20), (0, u "keys"), (0, u "[J"), (0, .fieldref 8 22), (0, .nameAndType 23 24), (0, u "values"), (0, u "[D"), (0, .long 18446744073709551615), (1, .methodref 28 29), (0, .class_ 30), (0, .nameAndType 31 32), (0, u "java/util/Arrays"), (0, u "fill"), (0, u "([JJ)V"), (0, .methodref 8 34), (0, .nameAndType 35 36), (0, u "slot"), (0, u "(J)I"), (0, .fieldref 8 38), (0, .nameAndType 39 40), (0, u "size"), (0, u "I"), (5, .methodref 47 48), (0, .class_ 49), (0, .nameAndType 50 51), (0, u "java/lang/Integer"), (0, u "numberOfTrailingZeros"), (0, u "(I)I"), (0, .long 11400714819323198485), (1, u "EMPTY"), (1, u "(II)V"), (3, u "get"), (0, u "(II)D"), (0, u "add"), (0, u "(IID)V")] 4

def k3c0 : Code := { maxStack := 6, maxLocals := 4, code := prog_34_method_1_code, exceptionTable := #[], attributes := #[] }
def k3m0 : Method := { name := "<init>", desc := "(II)V", sig := { parameters := [.int, .int], returnType := none }, accessFlags := 0, code := some k3c0 }
def k3c1 : Code := { maxStack := 5, maxLocals := 4, code := prog_34_method_2_code, exceptionTable := #[], attributes := #[] }
def k3m1 : Method := { name := "get", desc := "(II)D", sig := { parameters := [.int, .int], returnType := some .double }, accessFlags := 0, code := some k3c1 }
def k3c2 : Code := { maxStack := 6, maxLocals := 8, code := prog_34_method_3_code, exceptionTable := #[], attributes := #[] }
def k3m2 : Method := { name := "add", desc := "(IID)V", sig := { parameters := [.int, .int, .double], returnType := none }, accessFlags := 0, code := some k3c2 }
def k3c3 : Code := { maxStack := 4, maxLocals := 5, code := prog_34_method_4_code, exceptionTable := #[], attributes := #[] }
def k3m3 : Method := { name := "slot", desc := "(J)I", sig := { parameters := [.long], returnType := some .int }, accessFlags := 2, code := some k3c3 }
/-- com/example/keys_to_peers/keystopeers/placement/LeaveFlows -/
def k3 : Class := { plain "com/example/keys_to_peers/keystopeers/placement/LeaveFlows" (some 0) with
  accessFlags := 32
  interfaces := #[]
  cf := some (fileOf pool3 8 #[] #[{ accessFlags := 0, nameIndex := 5, descriptorIndex := 56, attributes := #[] }, { accessFlags := 0, nameIndex := 60, descriptorIndex := 61, attributes := #[] }, { accessFlags := 0, nameIndex := 62, descriptorIndex := 63, attributes := #[] }, { accessFlags := 2, nameIndex := 35, descriptorIndex := 36, attributes := #[] }] 32 2 #[] #[{ accessFlags := 26, nameIndex := 54, descriptorIndex := 12, attributes := #[] }, { accessFlags := 18, nameIndex := 11, descriptorIndex := 12, attributes := #[] }, { accessFlags := 2, nameIndex := 19, descriptorIndex := 20, attributes := #[] }, { accessFlags := 2, nameIndex := 23, descriptorIndex := 24, attributes := #[] }, { accessFlags := 2, nameIndex := 39, descriptorIndex := 40, attributes := #[] }])
  fields := #[{ name := "EMPTY", type := .long, accessFlags := 26, slot := 0, constantValue := 0 }, { name := "units", type := .long, accessFlags := 18, slot := 0, constantValue := 0 }, { name := "keys", type := (.array .long), accessFlags := 2, slot := 1, constantValue := 0 }, { name := "values", type := (.array .double), accessFlags := 2, slot := 2, constantValue := 0 }, { name := "size", type := .int, accessFlags := 2, slot := 3, constantValue := 0 }]
  methods := #[k3m0, k3m1, k3m2, k3m3]
  instanceTypes := #[.long, (.array .long), (.array .double), .int]
  staticTypes := #[.long]
  resolved := Array.replicate 68 none
  statics := none }

def pool4 : Array CpInfo := pool [(2, .class_ 4), (1, u "java/lang/Object"), (0, u "<init>"), (0, u "()V"), (7, .class_ 16), (1, u "java/util/Arrays"), (57, .class_ 76), (1, u "java/util/Arrays$NaturalOrder"), (36, .class_ 115), (1, u "java/util/Arrays$LegacyMergeSort"), (1, u "Z"), (257, .class_ 376), (0, u "java/util/Arrays$ArrayList"), (68, u "$assertionsDisabled"), (269, u "MIN_ARRAY_SORT_GRAN"), (0, u "I"), (2, u "INSERTIONSORT_THRESHOLD"), (120, u "fill"), (0, u "([JJ)V"), (133, .class_ 976), (0, u "java/util/Arrays$ArrayItr")] 52

def k4m0 : Method := { name := "<init>", desc := "()V", sig := { parameters := [], returnType := none }, accessFlags := 2, code := none }
def k4c1 : Code := { maxStack := 4, maxLocals := 5, code := jdk_65_method_101_code, exceptionTable := #[], attributes := #[] }
def k4m1 : Method := { name := "fill", desc := "([JJ)V", sig := { parameters := [(.array .long), .long], returnType := none }, accessFlags := 9, code := some k4c1 }
/-- java/util/Arrays -/
def k4 : Class := { plain "java/util/Arrays" (some 0) with
  accessFlags := 49
  interfaces := #[]
  cf := some (fileOf pool4 14 #[.nestMembers #[975, 375, 113, 74]] #[{ accessFlags := 2, nameIndex := 5, descriptorIndex := 6, attributes := #[] }, { accessFlags := 9, nameIndex := 840, descriptorIndex := 841, attributes := #[] }] 49 2 #[] #[{ accessFlags := 26, nameIndex := 715, descriptorIndex := 716, attributes := #[] }, { accessFlags := 26, nameIndex := 719, descriptorIndex := 716, attributes := #[] }, { accessFlags := 4120, nameIndex := 445, descriptorIndex := 117, attributes := #[] }])
  fields := #[{ name := "MIN_ARRAY_SORT_GRAN", type := .int, accessFlags := 26, slot := 0, constantValue := 0 }, { name := "INSERTIONSORT_THRESHOLD", type := .int, accessFlags := 26, slot := 1, constantValue := 0 }, { name := "$assertionsDisabled", type := .boolean, accessFlags := 4120, slot := 2, constantValue := 0 }]
  methods := #[k4m0, k4m1]
  instanceTypes := #[]
  staticTypes := #[.int, .int, .boolean]
  resolved := Array.replicate 1029 none
  statics := none }

def pool5 : Array CpInfo := pool [(1, .class_ 2), (0, u "java/io/Serializable"), (0, .class_ 4), (0, u "java/lang/Object")] 2

/-- java/io/Serializable -/
def k5 : Class := { plain "java/io/Serializable" (some 0) with
  accessFlags := 1537
  interfaces := #[]
  cf := some (fileOf pool5 1 #[] #[] 1537 3 #[] #[])
  fields := #[]
  methods := #[]
  instanceTypes := #[]
  staticTypes := #[]
  resolved := Array.replicate 7 none
  statics := none }

def pool6 : Array CpInfo := pool [(2, .class_ 4), (1, u "java/lang/Object"), (0, u "<init>"), (0, u "()V"), (1, .class_ 10), (1, u "java/lang/Number"), (2, .class_ 14), (0, u "java/io/Serializable"), (0, u "serialVersionUID"), (0, u "J")] 20

def k6m0 : Method := { name := "<init>", desc := "()V", sig := { parameters := [], returnType := none }, accessFlags := 1, code := none }
/-- java/lang/Number -/
def k6 : Class := { plain "java/lang/Number" (some 0) with
  accessFlags := 1057
  interfaces := #[5]
  cf := some (fileOf pool6 8 #[] #[{ accessFlags := 1, nameIndex := 5, descriptorIndex := 6, attributes := #[] }] 1057 2 #[13] #[{ accessFlags := 26, nameIndex := 15, descriptorIndex := 16, attributes := #[] }])
  fields := #[{ name := "serialVersionUID", type := .long, accessFlags := 26, slot := 0, constantValue := 0 }]
  methods := #[k6m0]
  instanceTypes := #[]
  staticTypes := #[.long]
  resolved := Array.replicate 37 none
  statics := none }

def pool7 : Array CpInfo := pool [(1, .class_ 2), (0, u "java/lang/Comparable"), (0, .class_ 4), (0, u "java/lang/Object")] 7

/-- java/lang/Comparable -/
def k7 : Class := { plain "java/lang/Comparable" (some 0) with
  accessFlags := 1537
  interfaces := #[]
  cf := some (fileOf pool7 1 #[] #[] 1537 3 #[] #[])
  fields := #[]
  methods := #[]
  instanceTypes := #[]
  staticTypes := #[]
  resolved := Array.replicate 12 none
  statics := none }

def pool8 : Array CpInfo := pool [(1, .class_ 2), (0, u "java/lang/constant/Constable"), (0, .class_ 4), (0, u "java/lang/Object")] 6

/-- java/lang/constant/Constable -/
def k8 : Class := { plain "java/lang/constant/Constable" (some 0) with
  accessFlags := 1537
  interfaces := #[]
  cf := some (fileOf pool8 1 #[] #[] 1537 3 #[] #[])
  fields := #[]
  methods := #[]
  instanceTypes := #[]
  staticTypes := #[]
  resolved := Array.replicate 11 none
  statics := none }

def pool9 : Array CpInfo := pool [(1, .class_ 2), (0, u "java/lang/constant/ConstantDesc"), (0, .class_ 4), (0, u "java/lang/Object")] 32

/-- java/lang/constant/ConstantDesc -/
def k9 : Class := { plain "java/lang/constant/ConstantDesc" (some 0) with
  accessFlags := 1537
  interfaces := #[]
  cf := some (fileOf pool9 1 #[] #[] 1537 3 #[] #[])
  fields := #[]
  methods := #[]
  instanceTypes := #[]
  staticTypes := #[]
  resolved := Array.replicate 37 none
  statics := none }

def pool10 : Array CpInfo := pool [(1, .class_ 2), (0, u "java/lang/Integer"), (16, u "digits"), (0, u "[C"), (33, u "(I)I"), (30, u "DigitOnes"), (0, u "[B"), (2, u "DigitTens"), (99, .class_ 190), (0, u "java/lang/Integer$IntegerCache"), (3, u "I"), (8, .class_ 204), (0, u "java/lang/Number"), (2, u "value"), (56, .integer 65536), (37, u "TYPE"), (0, u "Ljava/lang/Class;"), (0, .class_ 305), (0, u "java/lang/Comparable"), (0, .class_ 307), (0, u "java/lang/constant/Constable"), (0, .class_ 309), (0, u "java/lang/constant/ConstantDesc"), (0, u "MIN_VALUE"), (1, u "MAX_VALUE"), (3, u "SIZE"), (1, u "BYTES"), (1, u "serialVersionUID"), (0, u "J"), (84, u "numberOfTrailingZeros")] 46

def k10c0 : Code := { maxStack := 3, maxLocals := 2, code := jdk_33_method_48_code, exceptionTable := #[], attributes := #[] }
def k10m0 : Method := { name := "numberOfTrailingZeros", desc := "(I)I", sig := { parameters := [.int], returnType := some .int }, accessFlags := 9, code := some k10c0 }
/-- java/lang/Integer -/
def k10 : Class := { plain "java/lang/Integer" (some 6) with
  accessFlags := 49
  interfaces := #[7, 8, 9]
  cf := some (fileOf pool10 1 #[.nestMembers #[189]] #[{ accessFlags := 9, nameIndex := 406, descriptorIndex := 54, attributes := #[] }] 49 203 #[304, 306, 308] #[{ accessFlags := 25, nameIndex := 310, descriptorIndex := 194, attributes := #[] }, { accessFlags := 25, nameIndex := 312, descriptorIndex := 194, attributes := #[] }, { accessFlags := 25, nameIndex := 302, descriptorIndex := 303, attributes := #[] }, { accessFlags := 24, nameIndex := 19, descriptorIndex := 20, attributes := #[] }, { accessFlags := 24, nameIndex := 89, descriptorIndex := 86, attributes := #[] }, { accessFlags := 24, nameIndex := 85, descriptorIndex := 86, attributes := #[] }, { accessFlags := 18, nameIndex := 207, descriptorIndex := 194, attributes := #[] }, { accessFlags := 25, nameIndex := 316, descriptorIndex := 194, attributes := #[] }, { accessFlags := 25, nameIndex := 318, descriptorIndex := 194, attributes := #[] }, { accessFlags := 26, nameIndex := 320, descriptorIndex := 321, attributes := #[] }])
  fields := #[{ name := "MIN_VALUE", type := .int, accessFlags := 25, slot := 0, constantValue := 0 }, { name := "MAX_VALUE", type := .int, accessFlags := 25, slot := 1, constantValue := 0 }, { name := "TYPE", type := (.object "java/lang/Class"), accessFlags := 25, slot := 2, constantValue := 0 }, { name := "digits", type := (.array .char), accessFlags := 24, slot := 3, constantValue := 0 }, { name := "DigitTens", type := (.array .byte), accessFlags := 24, slot := 4, constantValue := 0 }, { name := "DigitOnes", type := (.array .byte), accessFlags := 24, slot := 5, constantValue := 0 }, { name := "value", type := .int, accessFlags := 18, slot := 0, constantValue := 0 }, { name := "SIZE", type := .int, accessFlags := 25, slot := 6, constantValue := 0 }, { name := "BYTES", type := .int, accessFlags := 25, slot := 7, constantValue := 0 }, { name := "serialVersionUID", type := .long, accessFlags := 26, slot := 8, constantValue := 0 }]
  methods := #[k10m0]
  instanceTypes := #[.int]
  staticTypes := #[.int, .int, (.object "java/lang/Class"), (.array .char), (.array .byte), (.array .byte), .int, .int, .long]
  resolved := Array.replicate 453 none
  statics := none }

def pool11 : Array CpInfo := pool [(1, u "java/lang/Cloneable"), (0, .class_ 1), (0, u "java/lang/Object"), (0, .class_ 3)] 3

/-- java/lang/Cloneable -/
def k11 : Class := { plain "java/lang/Cloneable" (some 0) with
  accessFlags := 1537
  interfaces := #[]
  cf := some (fileOf pool11 2 #[] #[] 1537 4 #[] #[])
  fields := #[]
  methods := #[]
  instanceTypes := #[]
  staticTypes := #[]
  resolved := Array.replicate 8 none
  statics := none }

/-- the primitive byte -/
def k12 : Class := { plain "byte" none with kind := .primitive 'B', accessFlags := 0x411 }
/-- [B -/
def k13 : Class := { plain "[B" (some 0) with kind := .array 12 .byte, interfaces := #[11, 5], accessFlags := 1041 }

/-- the primitive double -/
def k14 : Class := { plain "double" none with kind := .primitive 'D', accessFlags := 0x411 }
/-- [D -/
def k15 : Class := { plain "[D" (some 0) with kind := .array 14 .double, interfaces := #[11, 5], accessFlags := 1041 }

/-- the primitive int -/
def k16 : Class := { plain "int" none with kind := .primitive 'I', accessFlags := 0x411 }
/-- [I -/
def k17 : Class := { plain "[I" (some 0) with kind := .array 16 .int, interfaces := #[11, 5], accessFlags := 1041 }

/-- the primitive long -/
def k18 : Class := { plain "long" none with kind := .primitive 'J', accessFlags := 0x411 }
/-- [J -/
def k19 : Class := { plain "[J" (some 0) with kind := .array 18 .long, interfaces := #[11, 5], accessFlags := 1041 }

def heap : Heap := #[]
def classes : Array Class := #[k0, k1, k2, k3, k4, k5, k6, k7, k8, k9, k10, k11, k12, k13, k14, k15, k16, k17, k18, k19]
def interned : List (Array UInt16 × Addr) := []
def slotsUsed : Nat := 0
def theMethod : MethodId := ⟨1, 1⟩
def args0 : Array Value := #[.int 5, .long 5, .long 5, .long 5, .long 5, .int 5]
def aboutOver (below : List Frame) : State where
  vm := { classes := classes, interned := interned.toArray }
  heap := heap
  slotsUsed := slotsUsed
  threads := #[{ frames := .invoking theMethod args0 :: below }]
def below0 : List Frame := [.native { method := ⟨0, 0⟩, args := #[] }]
def about1 : State := aboutOver below0
def p0 : Program := .bare "" "" ""
def e0 : Env := launch0.env 0 0 0
theorem w_frames : about1.frames = Frame.invoking theMethod args0 :: below0 := rfl
set_option maxRecDepth 65536 in
theorem w_args : argsFit about1.vm theMethod args0 = true := by decide +kernel
set_option maxRecDepth 65536 in
theorem w_heap : heapFits about1 = true := by decide +kernel
set_option maxRecDepth 65536 in
theorem w_runnable : about1.curStatus? = some .runnable := by decide +kernel
set_option maxRecDepth 65536 in
theorem w_alone : about1.alone = true := by decide +kernel
set_option maxRecDepth 65536 in
theorem w_named : about1.methodNamed? x = some theMethod := by decide +kernel
set_option maxRecDepth 65536 in
theorem w_hears : about1.hears theMethod below0 = true := by decide +kernel
set_option maxRecDepth 65536 in
theorem w_ripe : about1.ripe theMethod args0 below0 = true := by decide +kernel
theorem w_running : about1.status = .running := rfl
set_option maxRecDepth 65536 in
theorem w_room : about1.hasRoom e0.platform room_1 = true :=
  launch0.hasRoom_least _ room_1 (by decide +kernel) (by decide +kernel) (by decide +kernel) (by decide +kernel) (by decide +kernel) (by decide +kernel)
theorem allAtoms_all (ts : List Jvm.Cond) (a : Array Jvm.Value) (st : Jvm.State) : (allAtoms ts).before a st = ts.all (fun c => c.before a st) := by
  induction ts with
  | nil => rfl
  | cons c t ih =>
    show (Jvm.Cond.and c (allAtoms t)).before a st = _
    rw [Jvm.Cond.before_and, ih, List.all_cons]
def words1 : List Jvm.Cond := Jvm.Cond.code x code maxLocals ret :: tables_1
/-- a 'code' word, met by the world's own term for the bytes: nothing is compared byte by byte -/
theorem code_word {y : MethodName} {bytes : ByteArray} {mx : Nat} {rt : Option FieldType} {a : Array Value} {s : State} {m : MethodId} {meth : Method} {c : Code} (h1 : s.methodNamed? y = some m) (h2 : s.vm.method? m = some meth) (h3 : meth.code = some c) (h4 : c.code = bytes)
    (h5 : (c.maxLocals == mx && c.exceptionTable.isEmpty && decide (c.maxStack ≤ mostOperands) && decide (meth.sig.returnType = rt) && !meth.locks && decide (parseMethodDescriptor y.desc = some meth.sig)) = true) : (Jvm.Cond.code y bytes mx rt).before a s = true := by
  simp only [Bool.and_eq_true, beq_iff_eq, Bool.not_eq_true', decide_eq_true_eq] at h5
  obtain ⟨⟨⟨⟨⟨g1, g2⟩, g3⟩, g4⟩, g5⟩, g6⟩ := h5
  simp [Cond.before, Cond.holds, Cond.value, h1, h2, h3, h4, g1, g2, g3, g4, g5, g6]
def isCode : Jvm.Cond → Bool
  | .code _ _ _ _ => true
  | _ => false
theorem all_split {L : List Jvm.Cond} {P : Jvm.Cond → Bool} (h1 : L.all (fun c => isCode c || P c) = true) (h2 : ∀ c ∈ L.filter isCode, P c = true) : L.all P = true := by
  refine List.all_eq_true.mpr fun c hc => ?_
  have h := List.all_eq_true.mp h1 c hc
  rcases Bool.eq_false_or_eq_true (isCode c) with hi | hi
  · exact h2 c (List.mem_filter.mpr ⟨hc, hi⟩)
  · simpa [hi] using h
set_option maxRecDepth 65536 in
theorem w_c0 : (Jvm.Cond.code x code maxLocals ret).before args0 about1 = true := code_word (m := ⟨1, 1⟩) (meth := k1m1) (c := k1c1) (by decide +kernel) rfl rfl rfl (by decide +kernel)
set_option maxRecDepth 65536 in
theorem w_c1 : (Jvm.Cond.code ({ cls := "java/lang/Math", name := "max", desc := "(II)I" } : Jvm.MethodName) jdk_29_method_65_code (2 : Nat) (Option.some Jvm.ClassFile.FieldType.int)).before args0 about1 = true := code_word (m := ⟨2, 1⟩) (meth := k2m1) (c := k2c1) (by decide +kernel) rfl rfl rfl (by decide +kernel)
set_option maxRecDepth 65536 in
theorem w_c2 : (Jvm.Cond.code ({ cls := "com/example/keys_to_peers/keystopeers/placement/LeaveFlowsGetPinLaw", name := "from", desc := "(JI)I" } : Jvm.MethodName) method_3_code (3 : Nat) (Option.some Jvm.ClassFile.FieldType.int)).before args0 about1 = true := code_word (m := ⟨1, 2⟩) (meth := k1m2) (c := k1c2) (by decide +kernel) rfl rfl rfl (by decide +kernel)
set_option maxRecDepth 65536 in
theorem w_c3 : (Jvm.Cond.code ({ cls := "com/example/keys_to_peers/keystopeers/placement/LeaveFlowsGetPinLaw", name := "to", desc := "(JI)I" } : Jvm.MethodName) method_4_code (3 : Nat) (Option.some Jvm.ClassFile.FieldType.int)).before args0 about1 = true := code_word (m := ⟨1, 3⟩) (meth := k1m3) (c := k1c3) (by decide +kernel) rfl rfl rfl (by decide +kernel)
set_option maxRecDepth 65536 in
theorem w_c4 : (Jvm.Cond.code ({ cls := "com/example/keys_to_peers/keystopeers/placement/LeaveFlows", name := "<init>", desc := "(II)V" } : Jvm.MethodName) prog_34_method_1_code (4 : Nat) (Option.none : Option Jvm.ClassFile.FieldType)).before args0 about1 = true := code_word (m := ⟨3, 0⟩) (meth := k3m0) (c := k3c0) (by decide +kernel) rfl rfl rfl (by decide +kernel)
set_option maxRecDepth 65536 in
theorem w_c5 : (Jvm.Cond.code ({ cls := "java/lang/Object", name := "<init>", desc := "()V" } : Jvm.MethodName) object_method_1_code (1 : Nat) (Option.none : Option Jvm.ClassFile.FieldType)).before args0 about1 = true := code_word (m := ⟨0, 0⟩) (meth := k0m0) (c := k0c0) (by decide +kernel) rfl rfl rfl (by decide +kernel)
set_option maxRecDepth 65536 in
theorem w_c6 : (Jvm.Cond.code ({ cls := "java/util/Arrays", name := "fill", desc := "([JJ)V" } : Jvm.MethodName) jdk_65_method_101_code (5 : Nat) (Option.none : Option Jvm.ClassFile.FieldType)).before args0 about1 = true := code_word (m := ⟨4, 1⟩) (meth := k4m1) (c := k4c1) (by decide +kernel) rfl rfl rfl (by decide +kernel)
set_option maxRecDepth 65536 in
theorem w_c7 : (Jvm.Cond.code ({ cls := "com/example/keys_to_peers/keystopeers/placement/LeaveFlows", name := "add", desc := "(IID)V" } : Jvm.MethodName) prog_34_method_3_code (8 : Nat) (Option.none : Option Jvm.ClassFile.FieldType)).before args0 about1 = true := code_word (m := ⟨3, 2⟩) (meth := k3m2) (c := k3c2) (by decide +kernel) rfl rfl rfl (by decide +kernel)
set_option maxRecDepth 65536 in
theorem w_c8 : (Jvm.Cond.code ({ cls := "com/example/keys_to_peers/keystopeers/placement/LeaveFlows", name := "slot", desc := "(J)I" } : Jvm.MethodName) prog_34_method_4_code (5 : Nat) (Option.some Jvm.ClassFile.FieldType.int)).before args0 about1 = true := code_word (m := ⟨3, 3⟩) (meth := k3m3) (c := k3c3) (by decide +kernel) rfl rfl rfl (by decide +kernel)
set_option maxRecDepth 65536 in
theorem w_c9 : (Jvm.Cond.code ({ cls := "java/lang/Integer", name := "numberOfTrailingZeros", desc := "(I)I" } : Jvm.MethodName) jdk_33_method_48_code (2 : Nat) (Option.some Jvm.ClassFile.FieldType.int)).before args0 about1 = true := code_word (m := ⟨10, 0⟩) (meth := k10m0) (c := k10c0) (by decide +kernel) rfl rfl rfl (by decide +kernel)
set_option maxRecDepth 65536 in
theorem w_c10 : (Jvm.Cond.code ({ cls := "com/example/keys_to_peers/keystopeers/placement/LeaveFlows", name := "get", desc := "(II)D" } : Jvm.MethodName) prog_34_method_2_code (4 : Nat) (Option.some Jvm.ClassFile.FieldType.double)).before args0 about1 = true := code_word (m := ⟨3, 1⟩) (meth := k3m1) (c := k3c1) (by decide +kernel) rfl rfl rfl (by decide +kernel)
def codes1 : List Jvm.Cond := [Jvm.Cond.code x code maxLocals ret, Jvm.Cond.code ({ cls := "java/lang/Math", name := "max", desc := "(II)I" } : Jvm.MethodName) jdk_29_method_65_code (2 : Nat) (Option.some Jvm.ClassFile.FieldType.int), Jvm.Cond.code ({ cls := "com/example/keys_to_peers/keystopeers/placement/LeaveFlowsGetPinLaw", name := "from", desc := "(JI)I" } : Jvm.MethodName) method_3_code (3 : Nat) (Option.some Jvm.ClassFile.FieldType.int), Jvm.Cond.code ({ cls := "com/example/keys_to_peers/keystopeers/placement/LeaveFlowsGetPinLaw", name := "to", desc := "(JI)I" } : Jvm.MethodName) method_4_code (3 : Nat) (Option.some Jvm.ClassFile.FieldType.int), Jvm.Cond.code ({ cls := "com/example/keys_to_peers/keystopeers/placement/LeaveFlows", name := "<init>", desc := "(II)V" } : Jvm.MethodName) prog_34_method_1_code (4 : Nat) (Option.none : Option Jvm.ClassFile.FieldType), Jvm.Cond.code ({ cls := "java/lang/Object", name := "<init>", desc := "()V" } : Jvm.MethodName) object_method_1_code (1 : Nat) (Option.none : Option Jvm.ClassFile.FieldType), Jvm.Cond.code ({ cls := "java/util/Arrays", name := "fill", desc := "([JJ)V" } : Jvm.MethodName) jdk_65_method_101_code (5 : Nat) (Option.none : Option Jvm.ClassFile.FieldType), Jvm.Cond.code ({ cls := "com/example/keys_to_peers/keystopeers/placement/LeaveFlows", name := "add", desc := "(IID)V" } : Jvm.MethodName) prog_34_method_3_code (8 : Nat) (Option.none : Option Jvm.ClassFile.FieldType), Jvm.Cond.code ({ cls := "com/example/keys_to_peers/keystopeers/placement/LeaveFlows", name := "slot", desc := "(J)I" } : Jvm.MethodName) prog_34_method_4_code (5 : Nat) (Option.some Jvm.ClassFile.FieldType.int), Jvm.Cond.code ({ cls := "java/lang/Integer", name := "numberOfTrailingZeros", desc := "(I)I" } : Jvm.MethodName) jdk_33_method_48_code (2 : Nat) (Option.some Jvm.ClassFile.FieldType.int), Jvm.Cond.code ({ cls := "com/example/keys_to_peers/keystopeers/placement/LeaveFlows", name := "get", desc := "(II)D" } : Jvm.MethodName) prog_34_method_2_code (4 : Nat) (Option.some Jvm.ClassFile.FieldType.double)]
set_option maxRecDepth 65536 in
theorem codes_eq : words1.filter isCode = codes1 := rfl
theorem w_codes : ∀ c ∈ words1.filter isCode, c.before args0 about1 = true := by
  rw [codes_eq]
  intro c hc
  simp only [codes1, List.mem_cons, List.not_mem_nil, or_false] at hc
  rcases hc with rfl | rfl | rfl | rfl | rfl | rfl | rfl | rfl | rfl | rfl | rfl
  · exact w_c0
  · exact w_c1
  · exact w_c2
  · exact w_c3
  · exact w_c4
  · exact w_c5
  · exact w_c6
  · exact w_c7
  · exact w_c8
  · exact w_c9
  · exact w_c10
set_option maxRecDepth 65536 in
theorem w_t1 : (words1.take 24).all (fun c => isCode c || c.before args0 about1) = true := by decide +kernel
set_option maxRecDepth 65536 in
theorem w_t2 : ((words1.drop 24).take 24).all (fun c => isCode c || c.before args0 about1) = true := by decide +kernel
set_option maxRecDepth 65536 in
theorem w_t3 : ((words1.drop 24).drop 24).all (fun c => isCode c || c.before args0 about1) = true := by decide +kernel
theorem w_tables : (allAtoms (Jvm.Cond.code x code maxLocals ret :: tables_1)).before args0 about1 = true := by
  rw [allAtoms_all]
  show words1.all (fun c => c.before args0 about1) = true
  refine all_split ?_ w_codes
  rw [← List.take_append_drop 24 words1, List.all_append, w_t1, ← List.take_append_drop 24 (words1.drop 24), List.all_append, w_t2, w_t3]
  rfl
set_option maxRecDepth 65536 in
theorem w_case : (Jvm.Cond.and given_1 narrow_1).before args0 about1 = true := by decide +kernel
theorem w_applies : (headSpec (Jvm.Cond.code x code maxLocals ret :: tables_1) room_1).applies x e0.platform about1 = true :=
  (Spec.applies_iff w_frames).mpr ⟨w_running, w_runnable, w_alone, w_named, w_hears, w_ripe, w_room, w_tables⟩
theorem atStart : AtStart classFile x code maxLocals ret World_1 tables_1 room_1 Calls_1 rest_1 Pre_1 launch0 p0 e0 about1 theMethod args0 below0 :=
  ⟨lists_1, trivial, launch0.admits_env _ _ _, launch0.least_env, fairChoices_fair.cas, fairChoices_fair.clock, w_frames, w_args, w_heap, w_applies, trivial, trivial, w_case⟩
end start1
theorem witness_1 : WitnessClaimed_1 := ⟨start1.p0, start1.e0, start1.about1, start1.theMethod, start1.args0, start1.below0, start1.atStart⟩
end Jvm.Pilot.@@N@@
