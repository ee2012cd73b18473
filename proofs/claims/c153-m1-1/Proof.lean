import JvmDerived
import JvmDerived.Pilot.@@N@@Statement
import JvmDerived.Pilot.@@N@@Code
set_option linter.unusedVariables false
set_option linter.unusedSimpArgs false
set_option maxRecDepth 65536
set_option maxHeartbeats 4000000
namespace Jvm.Pilot.@@N@@
open Jvm Jvm.ClassFile Sem Op Lib Jvm.Free Jvm.Stand Jvm.LawKit Jvm.RoadKit Bundle Jvm.Pilot.@@N@@.Jvm.D

def OwnSets (g : Launch × State × Array Value × List (String × Nat)) : Prop := True ∧ Fit g.2.1 ∧ g.2.2.2 = []
/-! OWN WALKING KIT, part 1: the heap as an explicit list, the running state, the goal, contracts. -/
abbrev GG := Launch × State × Array Value × List (String × Nat)
abbrev GG.l (g : GG) : Launch := g.1
abbrev GG.Z (g : GG) : State := g.2.1
abbrev GG.a0 (g : GG) : Array Value := g.2.2.1
abbrev GG.EL (g : GG) : List (String × Nat) := g.2.2.2
abbrev MM := Program × Env × State × MethodId × Array Value × List Frame × Method × Code
abbrev MM.p (M : MM) : Program := M.1
abbrev MM.e (M : MM) : Env := M.2.1
abbrev MM.s (M : MM) : State := M.2.2.1
abbrev MM.m (M : MM) : MethodId := M.2.2.2.1
abbrev MM.args (M : MM) : Array Value := M.2.2.2.2.1
abbrev MM.below (M : MM) : List Frame := M.2.2.2.2.2.1
abbrev MM.meth (M : MM) : Method := M.2.2.2.2.2.2.1
abbrev MM.c (M : MM) : Code := M.2.2.2.2.2.2.2
abbrev DD := MethodName × ByteArray × Nat × Option FieldType × Room
abbrev DD.y (D : DD) : MethodName := D.1
abbrev DD.cd (D : DD) : ByteArray := D.2.1
abbrev DD.mx (D : DD) : Nat := D.2.2.1
abbrev DD.rt (D : DD) : Option FieldType := D.2.2.2.1
abbrev DD.rm (D : DD) : Room := D.2.2.2.2
/-- the case's words, at its start -/
def GW (g : GG) : Prop := (∀ d ∈ tables_1, d.before g.a0 g.Z = true) ∧ EW g.Z g.a0 g.EL ∧ OwnSets g
theorem GW.w {g : GG} (W : GW g) : ∀ d ∈ tables_1, d.before g.a0 g.Z = true := W.1
abbrev FD := String × String × String × Value
abbrev Ent := Addr × ((String × List FD) ⊕ (FieldType × String × List Value))
abbrev SE := Addr × Addr × Int32 × List Value
def Ary (Z : State) (h : Heap) (a : Addr) (ty : FieldType) (nm : String) (vs : List Value) : Prop :=
  ∃ c : Cell, Jvm.RoadKit.Arr Z h a c ty ∧ c.slots = vs.toArray ∧ vs.length < 2 ^ 31 ∧ (∀ v ∈ vs, fits ty v = true) ∧ (∀ C, ty = .object C → Ovr Z c.cls C) ∧ (nm ≠ "" → Exa Z h a nm)
def Is (Z : State) (h : Heap) : Ent → Prop
  | (a, .inl (C, fs)) => Exa Z h a C ∧ ∀ f ∈ fs, Fld Z h a f.1 f.2.1 f.2.2.1 f.2.2.2
  | (a, .inr (ty, nm, vs)) => Ary Z h a ty nm vs
def Lays (Z : State) (a0 : Array Value) (C : String) (fs : List FD) : Prop :=
  (fs.map fun f => f.2.1).Nodup ∧ ∀ f ∈ fs, Laid Z a0 C f.1 f.2.1 f.2.2.1 ∧ ∃ ty, parseFieldDescriptor f.2.2.1 = some ty
def Ld (Z : State) (a0 : Array Value) : Ent → Prop
  | (_, .inl (C, fs)) => Lays Z a0 C fs
  | (_, .inr _) => True
def IsS (Z : State) (h : Heap) (y : SE) : Prop :=
  Exa Z h y.1 "java/lang/String" ∧ Fld Z h y.1 "java/lang/String" "value" "[B" (.ref y.2.1) ∧ Fld Z h y.1 "java/lang/String" "coder" "B" (.int y.2.2.1) ∧ Ary Z h y.2.1 .byte "" y.2.2.2
def Hp (g : GG) (vm : Vm) (h : Heap) (H : List Ent) (Lt : List SE) : Prop :=
  (∀ x ∈ H, Is g.Z h x ∧ Ld g.Z g.a0 x ∧ g.Z.heap.size ≤ x.1 ∧ Safe g.Z g.EL vm h x.1) ∧ (H.map Prod.fst).Nodup ∧ (∀ y ∈ Lt, IsS g.Z h y) ∧ ∀ x ∈ H, ∀ y ∈ Lt, x.1 ≠ y.1 ∧ x.1 ≠ y.2.1
section Heap
variable {g : GG} {Z : State} {h h' : Heap} {vm vm1 : Vm} {a b : Addr} {ty : FieldType} {nm : String} {vs : List Value} {H H' : List Ent} {Lt Lt' : List SE} {ws : List Addr} {a0 : Array Value}
theorem Ary.ext (A : Ary Z h a ty nm vs) (E : Ext h h') : Ary Z h' a ty nm vs := by
  obtain ⟨c, r1, r2, r3, r4, r5, r6⟩ := A
  exact ⟨c, r1.ext E, r2, r3, r4, r5, fun q => (r6 q).ext E⟩
theorem Ary.keep (A : Ary Z h a ty nm vs) (K : Keep h h' ws) (q : a ∉ ws) : Ary Z h' a ty nm vs := by
  obtain ⟨c, r1, r2, r3, r4, r5, r6⟩ := A
  exact ⟨c, ⟨K.2.1 a c r1.1 q, r1.2⟩, r2, r3, r4, r5, fun q => (r6 q).keep K⟩
theorem Ary.lt (A : Ary Z h a ty nm vs) : a < h.size := by obtain ⟨c, r1, -⟩ := A; exact r1.lt
theorem Is.lt {x : Ent} (I : Is Z h x) : x.1 < h.size := by
  obtain ⟨a, ⟨C, fs⟩ | ⟨ty, nm, vs⟩⟩ := x
  · exact I.1.lt
  · exact Ary.lt I
theorem Is.ext {x : Ent} (I : Is Z h x) (E : Ext h h') : Is Z h' x := by
  obtain ⟨a, ⟨C, fs⟩ | ⟨ty, nm, vs⟩⟩ := x
  · exact ⟨I.1.ext E, fun f hf => (I.2 f hf).ext E⟩
  · exact Ary.ext I E
theorem Is.keep {x : Ent} (I : Is Z h x) (K : Keep h h' ws) (q : x.1 ∉ ws) : Is Z h' x := by
  obtain ⟨a, ⟨C, fs⟩ | ⟨ty, nm, vs⟩⟩ := x
  · exact ⟨I.1.keep K, fun f hf => (I.2 f hf).keep K q⟩
  · exact Ary.keep I K q
theorem IsS.ext {y : SE} (I : IsS Z h y) (E : Ext h h') : IsS Z h' y := ⟨I.1.ext E, I.2.1.ext E, I.2.2.1.ext E, I.2.2.2.ext E⟩
theorem IsS.keep {y : SE} (I : IsS Z h y) (K : Keep h h' ws) (q : y.1 ∉ ws) (r : y.2.1 ∉ ws) : IsS Z h' y := ⟨I.1.keep K, I.2.1.keep K q, I.2.2.1.keep K q, I.2.2.2.keep K r⟩
/-- the tables and the heap go on, the heap at its end -/
theorem Hp.move (P : Hp g vm h H Lt) (C : CHr g.Z g.EL vm h vm1 h') (E : Ext h h') : Hp g vm1 h' H Lt :=
  ⟨fun x hx => ⟨(P.1 x hx).1.ext E, (P.1 x hx).2.1, (P.1 x hx).2.2.1, C.safe (P.1 x hx).1.lt (P.1 x hx).2.2.2⟩, P.2.1, fun y hy => (P.2.2.1 y hy).ext E, P.2.2.2⟩
theorem Hp.perm (P : Hp g vm h H Lt) (q : H.Perm H') : Hp g vm h H' Lt :=
  ⟨fun x hx => P.1 x (q.mem_iff.mpr hx), (q.map Prod.fst).nodup_iff.mp P.2.1, P.2.2.1, fun x hx => P.2.2.2 x (q.mem_iff.mpr hx)⟩
theorem perm_front {α : Type} {x : α} : ∀ {l : List α} {i : Nat}, l[i]? = some x → (x :: l.eraseIdx i).Perm l
  | [], _, h => by simp at h
  | a :: l, 0, h => by
    rw [List.getElem?_cons_zero] at h
    cases h
    exact List.Perm.refl _
  | a :: l, i + 1, h => by
    rw [List.getElem?_cons_succ] at h
    exact (List.Perm.swap a x _).trans ((perm_front h).cons a)
theorem Hp.front (P : Hp g vm h H Lt) {i : Nat} {x : Ent} (hi : H[i]? = some x) : Hp g vm h (x :: H.eraseIdx i) Lt := by
  exact P.perm (perm_front hi).symm
theorem Hp.sub (P : Hp g vm h H Lt) (q : H'.Sublist H) : Hp g vm h H' Lt :=
  ⟨fun x hx => P.1 x (q.subset hx), (q.map Prod.fst).nodup P.2.1, P.2.2.1, fun x hx => P.2.2.2 x (q.subset hx)⟩
theorem Hp.del (P : Hp g vm h H Lt) (i : Nat) : Hp g vm h (H.eraseIdx i) Lt := P.sub (List.eraseIdx_sublist H i)
theorem Hp.lsub (P : Hp g vm h H Lt) (q : ∀ y ∈ Lt', y ∈ Lt) : Hp g vm h H Lt' := ⟨P.1, P.2.1, fun y hy => P.2.2.1 y (q y hy), fun x hx y hy => P.2.2.2 x hx y (q y hy)⟩
theorem Hp.add (P : Hp g vm h H Lt) {x : Ent} (hI : Is g.Z h x) (hL : Ld g.Z g.a0 x) (h0 : g.Z.heap.size ≤ x.1) (hs : Safe g.Z g.EL vm h x.1) (hn : ∀ y ∈ H, y.1 ≠ x.1) (hl : ∀ y ∈ Lt, x.1 ≠ y.1 ∧ x.1 ≠ y.2.1) : Hp g vm h (x :: H) Lt := by
  refine ⟨fun y hy => ?_, ?_, P.2.2.1, fun y hy => ?_⟩
  · rcases List.mem_cons.mp hy with rfl | hy
    · exact ⟨hI, hL, h0, hs⟩
    · exact P.1 y hy
  · rw [List.map_cons, List.nodup_cons]
    refine ⟨fun q => ?_, P.2.1⟩
    obtain ⟨y, hy, e⟩ := List.mem_map.mp q
    exact hn y hy e
  · rcases List.mem_cons.mp hy with rfl | hy
    · exact hl
    · exact P.2.2.2 y hy
/-- a new cell at the heap's end -/
theorem Hp.born (P : Hp g vm h H Lt) (HC : CHv g.Z g.EL vm h) (E0 : Ext g.Z.heap h) (E : Ext h h') {x : Ent} (ha : x.1 = h.size) (hI : Is g.Z h' x) (hL : Ld g.Z g.a0 x) : Hp g vm h' (x :: H) Lt := by
  have C := CHr.ext E HC
  refine (P.move C E).add hI hL (by rw [ha]; exact E0.1) ?_ (fun y hy => ?_) (fun y hy => ?_)
  · intro B
    have B' := (HC.step fun _ _ _ q => E.2 _ _ q).2 _ B
    obtain ⟨cell, q⟩ := B'.there
    have := (Array.getElem?_eq_some_iff.mp q).1
    rw [ha] at this; omega
  · exact fun e => Nat.lt_irrefl _ (Nat.lt_of_lt_of_eq (P.1 y hy).1.lt (e.trans ha).symm)
  · have q1 := (P.2.2.1 y hy).1.lt
    have q2 := (P.2.2.1 y hy).2.2.2.lt
    exact ⟨fun e => Nat.lt_irrefl _ (Nat.lt_of_lt_of_eq q1 (e.symm.trans ha).symm), fun e => Nat.lt_irrefl _ (Nat.lt_of_lt_of_eq q2 (e.symm.trans ha).symm)⟩
theorem Hp.upd (P : Hp g vm h H Lt) (C : CHr g.Z g.EL vm h vm1 h') (K : Keep h h' [a]) {i : Nat} {x x' : Ent} (hi : H[i]? = some x) (ha : x.1 = a) (ha' : x'.1 = a) (hI : Is g.Z h' x') (hL : Ld g.Z g.a0 x') : Hp g vm1 h' (H.set i x') Lt := by
  obtain ⟨hl, hg⟩ := List.getElem?_eq_some_iff.mp hi
  have hmap : (H.set i x').map Prod.fst = H.map Prod.fst := by
    rw [List.map_set, ha']
    apply List.ext_getElem?
    intro j
    rw [List.getElem?_set]
    split
    · rename_i e; subst e
      rw [if_pos (by simpa using hl), List.getElem?_map, hi, ← ha]; rfl
    · rfl
  have hx : x ∈ H := hg ▸ List.getElem_mem hl
  have hmem : ∀ z ∈ H.set i x', z = x' ∨ (z ∈ H ∧ z.1 ≠ a) := fun z hz => by
    obtain ⟨j, hj⟩ := List.mem_iff_getElem?.mp hz
    rw [List.getElem?_set] at hj
    split at hj
    · exact Or.inl (Option.some.inj hj).symm
    · rename_i hne
      refine Or.inr ⟨List.mem_iff_getElem?.mpr ⟨j, hj⟩, fun e => hne ?_⟩
      obtain ⟨hjl, hjg⟩ := List.getElem?_eq_some_iff.mp hj
      have e1 : (H.map Prod.fst)[i]'(by simpa using hl) = (H.map Prod.fst)[j]'(by simpa using hjl) := by
        rw [List.getElem_map, List.getElem_map, hg, hjg, ha, e]
      exact (List.getElem_inj P.2.1).mp e1
  refine ⟨fun z hz => ?_, by rw [hmap]; exact P.2.1, fun y hy => ?_, fun z hz y hy => ?_⟩
  · rcases hmem z hz with rfl | ⟨hz, hne⟩
    · refine ⟨hI, hL, by rw [ha', ← ha]; exact (P.1 x hx).2.2.1, ?_⟩
      have := C.safe (P.1 x hx).1.lt (P.1 x hx).2.2.2
      rw [ha', ← ha]; exact this
    · exact ⟨(P.1 z hz).1.keep K (fun q => hne (List.mem_singleton.mp q)), (P.1 z hz).2.1, (P.1 z hz).2.2.1, C.safe (P.1 z hz).1.lt (P.1 z hz).2.2.2⟩
  · have q := P.2.2.2 x hx y hy
    rw [ha] at q
    exact (P.2.2.1 y hy).keep K (fun r => q.1 (List.mem_singleton.mp r).symm) (fun r => q.2 (List.mem_singleton.mp r).symm)
  · rcases hmem z hz with rfl | ⟨hz, -⟩
    · have q := P.2.2.2 x hx y hy
      rw [ha'] ; rw [ha] at q; exact q
    · exact P.2.2.2 z hz y hy
theorem Hp.lit (P : Hp g vm h H Lt) {y : SE} (I : IsS g.Z h y) (q : ∀ x ∈ H, x.1 ≠ y.1 ∧ x.1 ≠ y.2.1) : Hp g vm h H (y :: Lt) := by
  refine ⟨P.1, P.2.1, fun z hz => ?_, fun x hx z hz => ?_⟩
  · rcases List.mem_cons.mp hz with rfl | hz
    · exact I
    · exact P.2.2.1 z hz
  · rcases List.mem_cons.mp hz with rfl | hz
    · exact q x hx
    · exact P.2.2.2 x hx z hz
/-- a String that is made: it and its bytes are never written again -/
theorem Hp.freeze {cd : Int32} {n : String} {fs : List FD} (P : Hp g vm h ((a, .inl ("java/lang/String", fs)) :: (b, .inr (.byte, n, vs)) :: H) Lt)
    (f1 : ("java/lang/String", "value", "[B", Value.ref b) ∈ fs) (f2 : ("java/lang/String", "coder", "B", Value.int cd) ∈ fs) : Hp g vm h H ((a, b, cd, vs) :: Lt) := by
  have q := P.2.1
  simp only [List.map_cons, List.nodup_cons, List.mem_cons, not_or] at q
  have I1 := (P.1 _ (List.mem_cons_self ..)).1
  have I2 := (P.1 _ (List.mem_cons_of_mem _ (List.mem_cons_self ..))).1
  have I2' : Ary g.Z h b .byte "" vs := by
    obtain ⟨c, r1, r2, r3, r4, r5, r6⟩ := I2
    exact ⟨c, r1, r2, r3, r4, r5, fun q => absurd rfl q⟩
  have P' : Hp g vm h H Lt := P.sub ((List.sublist_cons_self _ _).trans (List.sublist_cons_self _ _))
  refine P'.lit ⟨I1.1, I1.2 _ f1, I1.2 _ f2, I2'⟩ fun x hx => ⟨fun e => ?_, fun e => ?_⟩
  · exact q.1.2 (List.mem_map.mpr ⟨x, hx, e⟩)
  · exact q.2.1 (List.mem_map.mpr ⟨x, hx, e⟩)
/-- .. whose bytes are another String's -/
theorem Hp.freezeL {cd cd' : Int32} {a' : Addr} {fs : List FD} (P : Hp g vm h ((a, .inl ("java/lang/String", fs)) :: H) Lt)
    (f1 : ("java/lang/String", "value", "[B", Value.ref b) ∈ fs) (f2 : ("java/lang/String", "coder", "B", Value.int cd) ∈ fs) (hm : (a', b, cd', vs) ∈ Lt) : Hp g vm h H ((a, b, cd, vs) :: Lt) := by
  have q := P.2.1
  simp only [List.map_cons, List.nodup_cons] at q
  have I1 := (P.1 _ (List.mem_cons_self ..)).1
  refine (P.del 0).lit ⟨I1.1, I1.2 _ f1, I1.2 _ f2, (P.2.2.1 _ hm).2.2.2⟩ fun x hx => ⟨fun e => q.1 (List.mem_map.mpr ⟨x, hx, e⟩), ?_⟩
  exact (P.2.2.2 x (List.mem_cons_of_mem _ hx) _ hm).2
/-- what holds wherever the list holds -/
abbrev Al (g : GG) (H : List Ent) (Lt : List SE) (P : Heap → Prop) : Prop := ∀ vm h, Ext g.Z.heap h → Hp g vm h H Lt → P h
theorem fO {i j : Nat} {C O n d : String} {fs : List FD} {v : Value} (hi : H[i]? = some (a, .inl (C, fs))) (hf : fs[j]? = some (O, n, d, v)) : Al g H Lt fun h => Fld g.Z h a O n d v := fun vm h _ P =>
  (P.1 _ (List.mem_of_getElem? hi)).1.2 _ (List.mem_of_getElem? hf)
theorem fE {i : Nat} {C : String} {fs : List FD} (hi : H[i]? = some (a, .inl (C, fs))) : Al g H Lt fun h => Exa g.Z h a C := fun vm h _ P => (P.1 _ (List.mem_of_getElem? hi)).1.1
theorem aH {i : Nat} (hi : H[i]? = some (a, .inr (ty, nm, vs))) : Al g H Lt fun h => Ary g.Z h a ty nm vs := fun vm h _ P => (P.1 _ (List.mem_of_getElem? hi)).1
theorem sE {cd : Int32} (hm : (a, b, cd, vs) ∈ Lt) : Al g H Lt fun h => Exa g.Z h a "java/lang/String" := fun vm h _ P => (P.2.2.1 _ hm).1
theorem sV {cd : Int32} (hm : (a, b, cd, vs) ∈ Lt) : Al g H Lt fun h => Fld g.Z h a "java/lang/String" "value" "[B" (.ref b) := fun vm h _ P => (P.2.2.1 _ hm).2.1
theorem sC {cd : Int32} (hm : (a, b, cd, vs) ∈ Lt) : Al g H Lt fun h => Fld g.Z h a "java/lang/String" "coder" "B" (.int cd) := fun vm h _ P => (P.2.2.1 _ hm).2.2.1
theorem sA {cd : Int32} (hm : (a, b, cd, vs) ∈ Lt) : Al g H Lt fun h => Ary g.Z h b .byte "" vs := fun vm h _ P => (P.2.2.1 _ hm).2.2.2
theorem Al.old {P : Heap → Prop} (hP : ∀ h, Ext g.Z.heap h → P h) : Al g H Lt P := fun _ h E _ => hP h E
theorem Ary.cell (A : Ary Z h a ty nm vs) : ∃ c : Cell, Jvm.RoadKit.Arr Z h a c ty ∧ c.slots.size = vs.length ∧ ∀ i : Nat, c.slots[i]? = vs[i]? := by
  obtain ⟨c, r1, r2, -⟩ := A
  exact ⟨c, r1, by rw [r2]; simp, fun i => by rw [r2]; simp⟩
end Heap
/-! OWN WALKING KIT, part 2: running, goal, contract, and one rule an instruction. -/
def Rn (g : GG) (D : DD) (M : MM) (T : State) (A : Vm → Heap → Prop) (cs ss : Nat) : Prop :=
  (GW g ∧ M.p.tables.exec = Jvm.exec ∧ M.c.code = D.cd ∧ M.c.maxLocals = D.mx ∧ M.meth.sig.returnType = D.rt ∧ M.meth.locks = false ∧ M.meth.name = D.y.name) ∧
  ∃ (vm0 : Vm) (k0 : Nat) (locs : List Loc), Stand M.p g.l M.e D.rm (M.s.setVm vm0) M.m M.args M.below M.meth M.c T locs cs ss ∧ vm0 = M.s.vm ∧ k0 ≤ T.heap.size ∧ g.Z.Warmed39 vm0 ∧ vm0.findClass D.y.cls = some M.m.cls ∧
    CHr g.Z g.EL g.Z.vm M.s.heap g.Z.vm T.heap ∧ Fr g.Z.heap.size locs ∧ Ext g.Z.heap T.heap ∧ A g.Z.vm T.heap
abbrev RH (g : GG) (D : DD) (M : MM) (T : State) (H : List Ent) (Lt : List SE) (cs ss : Nat) : Prop := Rn g D M T (fun vm h => Hp g vm h H Lt) cs ss
def Fn (g : GG) (D : DD) (M : MM) (Q : Option Value → Vm → Heap → Prop) (U : State) : Prop :=
  ∃ (t : State) (v : Option Value) (L : List Loc), Steps M.p.tables M.e M.below U t ∧ t.status = .running ∧ Ended t M.below (.returned v) ∧ Q v g.Z.vm t.heap ∧ Fr g.Z.heap.size L ∧ CHr g.Z g.EL g.Z.vm M.s.heap g.Z.vm t.heap ∧ Ext g.Z.heap t.heap ∧
    FrameEnd M.s (.returned v) t L D.rm.cells D.rm.slots
def CtW (g : GG) (D : DD) (ws : List Jvm.Cond) (as : Array Value) (H : List Ent) (Lt : List SE) (Q : Option Value → Vm → Heap → Prop) : Prop :=
  MetFree g.l D.y (head1 (Jvm.Cond.code D.y D.cd D.mx D.rt :: ws) D.rm) (fun a U => a = as ∧ g.Z.Warmed39 U.vm ∧ CHv g.Z g.EL g.Z.vm U.heap ∧ Ext g.Z.heap U.heap ∧ Hp g g.Z.vm U.heap H Lt) (fun _ _ _ _ _ => True)
    (fun _ U o U' => ∃ v L, o = .returned v ∧ Q v g.Z.vm U'.heap ∧ Fr g.Z.heap.size L ∧ CHr g.Z g.EL g.Z.vm U.heap g.Z.vm U'.heap ∧ Ext g.Z.heap U'.heap ∧ FrameEnd U o U' L D.rm.cells D.rm.slots)
abbrev Ct (g : GG) (D : DD) (as : Array Value) (H : List Ent) (Lt : List SE) (Q : Option Value → Vm → Heap → Prop) : Prop := CtW g D [] as H Lt Q
section Rules
variable {g : GG} {D D' : DD} {M : MM} {T : State} {A A' : Vm → Heap → Prop} {cs ss : Nat} {Q Q' : Option Value → Vm → Heap → Prop} {pc pc' : Nat} {Ls Ls' : Array Slot} {S : List Value} {H H' : List Ent} {Lt Lt' : List SE} {as : Array Value} {ws : List Jvm.Cond}
theorem ext_rfl (h : Heap) : Ext h h := ⟨Nat.le_refl _, fun _ _ q => q⟩
theorem ext_trans {h h1 h2 : Heap} (E : Ext h h1) (E' : Ext h1 h2) : Ext h h2 := ⟨Nat.le_trans E.1 E'.1, fun a c q => E'.2 a c (E.2 a c q)⟩
theorem Rn.gw (B : Rn g D M T A cs ss) : GW g := B.1.1
theorem Rn.hw (B : Rn g D M T A cs ss) : ∀ d ∈ tables_1, d.before g.a0 g.Z = true := B.1.1.1
theorem Rn.hx (B : Rn g D M T A cs ss) : M.p.tables.exec = Jvm.exec := B.1.2.1
theorem Rn.cd (B : Rn g D M T A cs ss) : M.c.code = D.cd := B.1.2.2.1
theorem Rn.here (B : Rn g D M T A cs ss) : At T M.m M.c M.below := by obtain ⟨-, vm0, k0, locs, X, -⟩ := B; exact X.here
theorem Rn.map (B : Rn g D M T A cs ss) (q : ∀ vm h, Ext g.Z.heap h → A vm h → A' vm h) : Rn g D M T A' cs ss := by
  obtain ⟨st, vm0, k0, locs, X, hS, hk, hZ, hown, hC, N, E0, hH⟩ := B
  exact ⟨st, vm0, k0, locs, X, hS, hk, hZ, hown, hC, N, E0, q _ _ E0 hH⟩
theorem Rn.ex {α : Type} {P : α → Vm → Heap → Prop} (B : Rn g D M T (fun vm h => ∃ x, P x vm h) cs ss) : ∃ x, Rn g D M T (P x) cs ss := by
  obtain ⟨st, vm0, k0, locs, X, hS, hk, hZ, hown, hC, N, E0, x, hH⟩ := B
  exact ⟨x, st, vm0, k0, locs, X, hS, hk, hZ, hown, hC, N, E0, hH⟩
theorem Rn.and {P : Prop} (B : Rn g D M T (fun vm h => P ∧ A vm h) cs ss) : P ∧ Rn g D M T A cs ss := by
  obtain ⟨st, vm0, k0, locs, X, hS, hk, hZ, hown, hC, N, E0, x, hH⟩ := B
  exact ⟨x, st, vm0, k0, locs, X, hS, hk, hZ, hown, hC, N, E0, hH⟩
theorem Rn.or (B : Rn g D M T (fun vm h => A vm h ∨ A' vm h) cs ss) : Rn g D M T A cs ss ∨ Rn g D M T A' cs ss := by
  obtain ⟨st, vm0, k0, locs, X, hS, hk, hZ, hown, hC, N, E0, hH | hH⟩ := B
  · exact Or.inl ⟨st, vm0, k0, locs, X, hS, hk, hZ, hown, hC, N, E0, hH⟩
  · exact Or.inr ⟨st, vm0, k0, locs, X, hS, hk, hZ, hown, hC, N, E0, hH⟩
theorem Rn.front (B : RH g D M T H Lt cs ss) {i : Nat} {x : Ent} (hi : H[i]? = some x) (e : x :: H.eraseIdx i = H') : RH g D M T H' Lt cs ss := B.map fun _ _ _ P => e ▸ P.front hi
theorem Rn.del (B : RH g D M T H Lt cs ss) (i : Nat) (e : H.eraseIdx i = H') : RH g D M T H' Lt cs ss := B.map fun _ _ _ P => e ▸ P.del i
theorem Rn.lsub (B : RH g D M T H Lt cs ss) (q : ∀ y ∈ Lt', y ∈ Lt) : RH g D M T H Lt' cs ss := B.map fun _ _ _ P => P.lsub q
theorem Rn.mono (B : Rn g D M T A cs ss) {cs' ss' : Nat} (h1 : cs ≤ cs') (h2 : ss ≤ ss') : Rn g D M T A cs' ss' := by
  obtain ⟨st, vm0, k0, locs, X, r⟩ := B
  exact ⟨st, vm0, k0, locs, X.mono h1 h2, r⟩
theorem Fn.go {U U' : State} (F : Fn g D M Q U') (st : ∀ t, Steps M.p.tables M.e M.below U' t → Steps M.p.tables M.e M.below U t) : Fn g D M Q U := by
  obtain ⟨t, v, L, h1, r⟩ := F
  exact ⟨t, v, L, st _ h1, r⟩
theorem CtW.body (W : GW g) (hpl : plainFor D.y = true) (ef : ∀ m, entryFrame m as D.mx = mkF m 0 Ls []) (K : ∀ M T, RH g D M T H Lt 0 0 → Fn g D M Q (T.setTop (mkF M.m 0 Ls []))) : CtW g D ws as H Lt Q := by
  refine MetFree.of_bodySF hpl hisR ?_
  intro p e s m args below meth c s₁ Bd hml0 hP hK
  obtain ⟨rfl, hZ, hC, hE, hH⟩ := hP
  have hown : s.vm.findClass D.y.cls = some m.cls := findClass_of_methodNamed Bd.named
  have hnm := (name_of_methodNamed Bd.named Bd.method).1
  have X0 := Stand.of_body Bd
  have e0 : s₁.heap = s.heap := by rw [Bd.state]; rfl
  obtain ⟨t, v, L, h1, h2, h3, h4, h5, h6, h7, h8⟩ := K (p, e, s, m, args, below, meth, c) s₁ ⟨⟨W, Bd.exec, Bd.bytes, hml0, Bd.returns, Bd.notSynchronized, hnm⟩, s.vm, 0, [], X0, rfl, Nat.zero_le _, hZ, hown, by rw [e0]; exact CHr.refl hC, Fr.nil _, by rw [e0]; exact hE, by rw [e0]; exact hH⟩
  exact ⟨t, _, castTop (ef m) h1, h2, h3, v, L, rfl, h4, h5, h6, h7, h8⟩
/-! returns -/

theorem r_ret (B : RH g D M T H Lt cs ss) (hd : decode D.cd pc = .ok (.return_, 1)) (hr : D.rt = none) (hc : cs ≤ D.rm.cells) (hs : ss ≤ D.rm.slots) (hQ : ∀ vm h, Hp g vm h H Lt → Q none vm h) : Fn g D M Q (T.setTop (mkF M.m pc Ls [])) := by
  obtain ⟨⟨W, hx, hcd, hml, hrt, hlk, hnm⟩, vm0, k0, locs, X, hS, hk, hZ, hown, hC, N, E0, hH⟩ := B
  subst hS
  obtain ⟨fs, hl, h1, h2, hW, hsame⟩ := Stand.leave (s := M.s) X (v := none) (fun _ => rfl) hlk
  exact ⟨T.setFrames fs, none, locs, X.returnOut hx (hrt.trans hr) (hb hcd hd) hl, h1, h2, hQ _ _ hH, N, hC, E0, ⟨_, rfl⟩, hW, hsame.mono hc hs⟩
theorem r_retv (B : RH g D M T H Lt cs ss) {i : Instr} {w : Value} {t : FieldType} {rest : List Value} (hd : decode D.cd pc = .ok (i, 1)) (hr : D.rt = some t) (hn : narrow t w = w)
    (hi : (i = .ireturn ∧ (t = .int ∨ t = .boolean ∨ t = .byte ∨ t = .char ∨ t = .short) ∧ ∃ z, w = .int z) ∨ (i = .lreturn ∧ t = .long ∧ ∃ z, w = .long z) ∨ (i = .dreturn ∧ t = .double ∧ ∃ z, w = .double z) ∨ (i = .freturn ∧ t = .float ∧ ∃ z, w = .float z) ∨ (i = .areturn ∧ t.isReference = true ∧ w.isRef = true))
    (hc : cs ≤ D.rm.cells) (hs : ss ≤ D.rm.slots) (hQ : ∀ vm h, Hp g vm h H Lt → Q (some w) vm h) : Fn g D M Q (T.setTop (mkF M.m pc Ls (w :: rest))) := by
  obtain ⟨⟨W, hx, hcd, hml, hrt, hlk, hnm⟩, vm0, k0, locs, X, hS, hk, hZ, hown, hC, N, E0, hH⟩ := B
  subst hS
  obtain ⟨fs, hl, h1, h2, hW, hsame⟩ := Stand.leave (s := M.s) X (v := some w) (fun q => by rw [hrt, hr] at q; cases q) hlk
  exact ⟨T.setFrames fs, some w, locs, retOut X hx (hrt.trans hr) hn hi (hb hcd hd) hl, h1, h2, hQ _ _ hH, N, hC, E0, ⟨_, rfl⟩, hW, hsame.mono hc hs⟩
theorem r_reti (B : RH g D M T H Lt cs ss) {z : Int32} {t : FieldType} {rest : List Value} (hd : decode D.cd pc = .ok (.ireturn, 1)) (hr : D.rt = some t) (ht : t = .int ∨ t = .boolean ∨ t = .byte ∨ t = .char ∨ t = .short) (hn : narrow t (.int z) = .int z)
    (hc : cs ≤ D.rm.cells) (hs : ss ≤ D.rm.slots) (hQ : ∀ vm h, Hp g vm h H Lt → Q (some (.int z)) vm h) : Fn g D M Q (T.setTop (mkF M.m pc Ls (.int z :: rest))) :=
  r_retv B hd hr hn (Or.inl ⟨rfl, ht, z, rfl⟩) hc hs hQ
theorem r_reta (B : RH g D M T H Lt cs ss) {w : Value} {t : FieldType} {rest : List Value} (hd : decode D.cd pc = .ok (.areturn, 1)) (hr : D.rt = some t) (ht : t.isReference = true) (hw : w.isRef = true)
    (hc : cs ≤ D.rm.cells) (hs : ss ≤ D.rm.slots) (hQ : ∀ vm h, Hp g vm h H Lt → Q (some w) vm h) : Fn g D M Q (T.setTop (mkF M.m pc Ls (w :: rest))) :=
  r_retv B hd hr (by cases t <;> first | (cases w <;> first | rfl | cases hw) | cases ht) (Or.inr (Or.inr (Or.inr (Or.inr ⟨rfl, ht, hw⟩)))) hc hs hQ
theorem r_retj (B : RH g D M T H Lt cs ss) {z : Int64} {rest : List Value} (hd : decode D.cd pc = .ok (.lreturn, 1)) (hr : D.rt = some .long)
    (hc : cs ≤ D.rm.cells) (hs : ss ≤ D.rm.slots) (hQ : ∀ vm h, Hp g vm h H Lt → Q (some (.long z)) vm h) : Fn g D M Q (T.setTop (mkF M.m pc Ls (.long z :: rest))) :=
  r_retv B hd hr rfl (Or.inr (Or.inl ⟨rfl, rfl, z, rfl⟩)) hc hs hQ
theorem r_retd (B : RH g D M T H Lt cs ss) {z : UInt64} {rest : List Value} (hd : decode D.cd pc = .ok (.dreturn, 1)) (hr : D.rt = some .double)
    (hc : cs ≤ D.rm.cells) (hs : ss ≤ D.rm.slots) (hQ : ∀ vm h, Hp g vm h H Lt → Q (some (.double z)) vm h) : Fn g D M Q (T.setTop (mkF M.m pc Ls (.double z :: rest))) :=
  r_retv B hd hr rfl (Or.inr (Or.inr (Or.inl ⟨rfl, rfl, z, rfl⟩))) hc hs hQ
/-! fields -/
theorem r_get (B : RH g D M T H Lt cs ss) {ix : Nat} {R0 O n d host : String} {a : Addr} {v : Value} (hd : decode D.cd pc = .ok (.getfield ix, 3)) (hp : pc + 3 = pc')
    (w : (Jvm.Cond.fieldLink D.y.cls ix R0 n d).before g.a0 g.Z = true ∨ (Jvm.Cond.fieldLinkNest D.y.cls ix R0 n d host).before g.a0 g.Z = true) (via : Via g.Z R0 O n d) (F : Al g H Lt fun h => Fld g.Z h a O n d v)
    (K : ∀ T', RH g D M T' H Lt cs ss → Fn g D M Q (T'.setTop (mkF M.m pc' Ls (v :: S)))) : Fn g D M Q (T.setTop (mkF M.m pc Ls (.ref a :: S))) := by
  subst hp
  obtain ⟨st, vm0, k0, locs, X, hS, hk, hZ, hown, hC, N, E0, hH⟩ := B
  obtain ⟨T', X', e', stp⟩ := getF (Z := g.Z) (a0 := g.a0) X st.2.1 hZ hown w via rfl (F _ _ E0 hH) (g := mkF M.m pc Ls (.ref a :: S)) rfl rfl (hb st.2.2.1 hd)
  exact (K T' ⟨st, vm0, k0, locs, X', hS, by rw [e']; exact hk, hZ, hown, by rw [e']; exact hC, N, by rw [e']; exact E0, by rw [e']; exact hH⟩).go stp
theorem r_gets (B : RH g D M T H Lt cs ss) {ix : Nat} {R0 O n d host : String} {v : Value} (hd : decode D.cd pc = .ok (.getstatic ix, 3)) (hp : pc + 3 = pc')
    (w : (Jvm.Cond.fieldLink D.y.cls ix R0 n d).before g.a0 g.Z = true ∨ (Jvm.Cond.fieldLinkNest D.y.cls ix R0 n d host).before g.a0 g.Z = true) (via : Via g.Z R0 O n d) (F : Sta g.Z g.Z.heap O n d v)
    (K : ∀ T', RH g D M T' H Lt cs ss → Fn g D M Q (T'.setTop (mkF M.m pc' Ls (v :: S)))) : Fn g D M Q (T.setTop (mkF M.m pc Ls S)) := by
  subst hp
  obtain ⟨st, vm0, k0, locs, X, hS, hk, hZ, hown, hC, N, E0, hH⟩ := B
  obtain ⟨T', X', e', stp⟩ := getS2 (Z := g.Z) (a0 := g.a0) X st.2.1 hZ hown w via rfl (F.ext E0) (g := mkF M.m pc Ls S) rfl (hb st.2.2.1 hd)
  exact (K T' ⟨st, vm0, k0, locs, X', hS, by rw [e']; exact hk, hZ, hown, by rw [e']; exact hC, N, by rw [e']; exact E0, by rw [e']; exact hH⟩).go stp
theorem is_put {Z : State} {h h' : Heap} {a0 : Array Value} {a : Addr} {C O n d : String} {fs : List FD} {j : Nat} {old v : Value} (I : Is Z h (a, .inl (C, fs))) (L : Lays Z a0 C fs) (hf : fs[j]? = some (O, n, d, old)) (W : Wr h h' a (Jvm.RoadKit.slotOf Z O n d) v) : Is Z h' (a, .inl (C, fs.set j (O, n, d, v))) ∧ Lays Z a0 C (fs.set j (O, n, d, v)) := by
  obtain ⟨hj, hg⟩ := List.getElem?_eq_some_iff.mp hf
  have hmap : (fs.set j (O, n, d, v)).map (fun f => f.2.1) = fs.map fun f => f.2.1 := by
    rw [List.map_set]
    apply List.ext_getElem?
    intro i
    rw [List.getElem?_set]
    split
    · rename_i e; subst e
      rw [if_pos (by simpa using hj), List.getElem?_map, hf]; rfl
    · rfl
  have hmem : ∀ z ∈ fs.set j (O, n, d, v), z = (O, n, d, v) ∨ (z ∈ fs ∧ z.2.1 ≠ n) := fun z hz => by
    obtain ⟨i, hi⟩ := List.mem_iff_getElem?.mp hz
    rw [List.getElem?_set] at hi
    split at hi
    · exact Or.inl (Option.some.inj hi).symm
    · rename_i hne
      refine Or.inr ⟨List.mem_iff_getElem?.mpr ⟨i, hi⟩, fun e => hne ?_⟩
      obtain ⟨hil, hig⟩ := List.getElem?_eq_some_iff.mp hi
      have e1 : (fs.map fun f => f.2.1)[j]'(by simpa using hj) = (fs.map fun f => f.2.1)[i]'(by simpa using hil) := by
        rw [List.getElem_map, List.getElem_map, hg, hig, e]
      exact (List.getElem_inj L.1).mp e1
  have hx : (O, n, d, old) ∈ fs := List.mem_of_getElem? hf
  refine ⟨⟨I.1.wr W, fun z hz => ?_⟩, by rw [hmap]; exact L.1, fun z hz => ?_⟩
  · rcases hmem z hz with rfl | ⟨hz, hne⟩
    · exact (I.2 _ hx).same W
    · obtain ⟨t1, ht1⟩ := (L.2 _ hx).2
      obtain ⟨t2, ht2⟩ := (L.2 _ hz).2
      exact (I.2 _ hz).other W (Or.inr (slot_ne (L.2 _ hz).1 (L.2 _ hx).1 hne ht2 ht1))
  · rcases hmem z hz with rfl | ⟨hz, -⟩
    · exact (show _ from L.2 (O, n, d, old) hx)
    · exact L.2 _ hz
theorem r_put (B : RH g D M T H Lt cs ss) {ix kk i j : Nat} {R0 O n d host C : String} {a : Addr} {v old : Value} {fs : List FD} {ty : FieldType} (hd : decode D.cd pc = .ok (.putfield ix, 3)) (hp : pc + 3 = pc')
    (w : (Jvm.Cond.fieldLink D.y.cls ix R0 n d).before g.a0 g.Z = true ∨ (Jvm.Cond.fieldLinkNest D.y.cls ix R0 n d host).before g.a0 g.Z = true) (via : Via g.Z R0 O n d)
    (hi : H[i]? = some (a, .inl (C, fs))) (hf : fs[j]? = some (O, n, d, old)) (L : (Jvm.Cond.lays C O n d).before g.a0 g.Z = true ∨ ((Jvm.Cond.laysFinal C O n d).before g.a0 g.Z = true ∧ D.y.cls = O ∧ D.y.name = "<init>")) (wi : (Jvm.Cond.instantiable C kk).before g.a0 g.Z = true)
    (hty : parseFieldDescriptor d = some ty) (hn : narrow ty v = v) (hft : fits ty v = true) (e : H.set i (a, .inl (C, fs.set j (O, n, d, v))) = H')
    (K : ∀ T', RH g D M T' H' Lt cs ss → Fn g D M Q (T'.setTop (mkF M.m pc' Ls S))) : Fn g D M Q (T.setTop (mkF M.m pc Ls (v :: .ref a :: S))) := by
  subst hp
  obtain ⟨st, vm0, k0, locs, X, hS, hk, hZ, hown, hC, N, E0, hH⟩ := B
  have I := hH.1 _ (List.mem_of_getElem? hi)
  obtain ⟨T', h', X', e', W, stp⟩ := putF (Z := g.Z) (a0 := g.a0) X st.2.1 hZ hown w via rfl (I.1.2 _ (List.mem_of_getElem? hf)) I.1.1 (L.imp id fun q => ⟨q.1, q.2.1, st.2.2.2.2.2.2.trans q.2.2⟩) wi hty hn hft (g := mkF M.m pc Ls (v :: .ref a :: S)) rfl rfl (hb st.2.2.1 hd)
  have C1 := CHr.wr W I.2.2.2 hC.1
  have hsz := W.size
  obtain ⟨q1, q2⟩ := is_put I.1 I.2.1 hf W
  have P' := hH.upd C1 (Keep.of_wr W) hi rfl rfl q1 q2
  rw [e] at P'
  refine (K T' ⟨st, vm0, k0, _, X', hS, by rw [e', hsz]; exact hk, hZ, hown, by rw [e']; exact hC.trans C1, Fr.snoc X' N I.2.2.1, ?_, by rw [e']; exact P'⟩).go stp
  rw [e']; exact (Old.wr ⟨rfl, E0⟩ W I.2.2.1).2
/-- putfield of an int that the field's kind narrows -/
theorem r_putn (B : RH g D M T H Lt cs ss) {ix kk i j : Nat} {R0 O n d C : String} {a : Addr} {v v' old : Value} {fs : List FD} {ty : FieldType} (hd : decode D.cd pc = .ok (.putfield ix, 3)) (hp : pc + 3 = pc')
    (w : (Jvm.Cond.fieldLink D.y.cls ix R0 n d).before g.a0 g.Z = true) (via : Via g.Z R0 O n d)
    (hi : H[i]? = some (a, .inl (C, fs))) (hf : fs[j]? = some (O, n, d, old)) (L : (Jvm.Cond.lays C O n d).before g.a0 g.Z = true ∨ ((Jvm.Cond.laysFinal C O n d).before g.a0 g.Z = true ∧ D.y.cls = O ∧ D.y.name = "<init>")) (wi : (Jvm.Cond.instantiable C kk).before g.a0 g.Z = true)
    (hty : parseFieldDescriptor d = some ty) (hn : narrow ty v = v') (hft : fits ty v' = true) (e : H.set i (a, .inl (C, fs.set j (O, n, d, v'))) = H')
    (K : ∀ T', RH g D M T' H' Lt cs ss → Fn g D M Q (T'.setTop (mkF M.m pc' Ls S))) : Fn g D M Q (T.setTop (mkF M.m pc Ls (v :: .ref a :: S))) := by
  subst hp
  obtain ⟨st, vm0, k0, locs, X, hS, hk, hZ, hown, hC, N, E0, hH⟩ := B
  have I := hH.1 _ (List.mem_of_getElem? hi)
  obtain ⟨T', h', X', e', W, stp⟩ := putFN (Z := g.Z) (a0 := g.a0) X st.2.1 hZ hown w via rfl (I.1.2 _ (List.mem_of_getElem? hf)) I.1.1 (L.imp id fun q => ⟨q.1, q.2.1, st.2.2.2.2.2.2.trans q.2.2⟩) wi hty hn hft (g := mkF M.m pc Ls (v :: .ref a :: S)) rfl rfl (hb st.2.2.1 hd)
  have C1 := CHr.wr W I.2.2.2 hC.1
  have hsz := W.size
  obtain ⟨q1, q2⟩ := is_put I.1 I.2.1 hf W
  have P' := hH.upd C1 (Keep.of_wr W) hi rfl rfl q1 q2
  rw [e] at P'
  refine (K T' ⟨st, vm0, k0, _, X', hS, by rw [e', hsz]; exact hk, hZ, hown, by rw [e']; exact hC.trans C1, Fr.snoc X' N I.2.2.1, ?_, by rw [e']; exact P'⟩).go stp
  rw [e']; exact (Old.wr ⟨rfl, E0⟩ W I.2.2.1).2
/-! new objects and arrays -/
theorem r_new (B : RH g D M T H Lt cs ss) {ix n cs' ss' : Nat} {C : String} {fs : List FD} (hd : decode D.cd pc = .ok (.new ix, 3)) (hp : pc + 3 = pc')
    (w : (Jvm.Cond.classLink D.y.cls ix C).before g.a0 g.Z = true) (wi : (Jvm.Cond.instantiable C n).before g.a0 g.Z = true) (wz : (Jvm.Cond.initialized C).before g.a0 g.Z = true) (hl : Lays g.Z g.a0 C fs)
    (hv : ∀ f ∈ fs, (parseFieldDescriptor f.2.2.1).map defaultValue = some f.2.2.2) (hc : cs + 1 = cs') (hs : ss + n = ss') (hc' : cs' ≤ D.rm.cells) (hs' : ss' ≤ D.rm.slots)
    (K : ∀ T' a, RH g D M T' ((a, .inl (C, fs)) :: H) Lt cs' ss' → Fn g D M Q (T'.setTop (mkF M.m pc' Ls (.ref a :: S)))) : Fn g D M Q (T.setTop (mkF M.m pc Ls S)) := by
  subst hp hc hs
  obtain ⟨st, vm0, k0, locs, X, hS, hk, hZ, hown, hC, N, E0, hH⟩ := B
  obtain ⟨T', h', X', e', E, A1, D1, -, stp⟩ := newO (Z := g.Z) (a0 := g.a0) X st.2.1 hZ hown w wi wz rfl (g := mkF M.m pc Ls S) rfl (hb st.2.2.1 hd) hc' hs'
  have P' := hH.born (x := (T.heap.size, .inl (C, fs))) hC.1 E0 E rfl ⟨A1, fun f hf => by
    obtain ⟨ty, ht⟩ := (hl.2 f hf).2
    have q := hv f hf
    rw [ht] at q
    rw [← Option.some.inj q]
    exact D1 (hl.2 f hf).1 ht⟩ hl
  exact (K T' _ ⟨st, vm0, k0, locs, X', hS, by rw [e']; exact Nat.le_trans hk E.1, hZ, hown, by rw [e']; exact hC.trans (CHr.ext E hC.1), N, by rw [e']; exact ext_trans E0 E, by rw [e']; exact P'⟩).go stp
theorem ary_new {Z : State} {h : Heap} {a : Addr} {k : ClassId} {ty : FieldType} {n : Int32} {nm : String} {nn : Nat} (A : Jvm.RoadKit.Arr Z h a (newA k ty n) ty) (hn : ¬ n < 0) (hnn : n.toNatClampNeg = nn) (hf : fits ty (defaultValue ty) = true) (hO : ∀ C, ty = .object C → Ovr Z k C) (hE : nm ≠ "" → Exa Z h a nm) : Ary Z h a ty nm (List.replicate nn (defaultValue ty)) := by
  refine ⟨_, A, ?_, ?_, ?_, hO, hE⟩
  · subst hnn; simp [newA]
  · have := (back32 hn).2
    rw [List.length_replicate, ← hnn]; exact this
  · intro v hv
    rw [(List.mem_replicate.mp hv).2]; exact hf
theorem r_newp (B : RH g D M T H Lt cs ss) {aty : ArrayType} {n : Int32} {nn cap cs' ss' : Nat} {ty : FieldType} {vs : List Value} {ad : String} (hd : decode D.cd pc = .ok (.newarray aty, 2)) (hp : pc + 2 = pc')
    (w : (Jvm.Cond.arrayClass ty).before g.a0 g.Z = true) (hty : newarray.typeOf aty = ty) (hn : ¬ n < 0) (hnn : n.toNatClampNeg = nn) (hcap : nn ≤ cap) (hb8 : cap * 8 ≤ 536870912) (hc : cs + 1 = cs') (hs : ss + cap = ss') (hc' : cs' ≤ D.rm.cells) (hs' : ss' ≤ D.rm.slots)
    (had : "[" ++ ty.toString = ad) (hfd : fits ty (defaultValue ty) = true) (hob : ∀ C, ty ≠ .object C) (hvs : List.replicate nn (defaultValue ty) = vs)
    (K : ∀ T' a, RH g D M T' ((a, .inr (ty, ad, vs)) :: H) Lt cs' ss' → Fn g D M Q (T'.setTop (mkF M.m pc' Ls (.ref a :: S)))) : Fn g D M Q (T.setTop (mkF M.m pc Ls (.int n :: S))) := by
  subst hp hty hc hs
  obtain ⟨st, vm0, k0, locs, X, hS, hk, hZ, hown, hC, N, E0, hH⟩ := B
  obtain ⟨T', h', cA, X', e', E, A1, A2, stp⟩ := newPE (Z := g.Z) (a0 := g.a0) X st.2.1 hZ w rfl (g := mkF M.m pc Ls (.int n :: S)) rfl (hb st.2.2.1 hd) rfl hn (cap := cap) (by rw [hnn]; exact hcap) hb8 hc' hs' had
  have P' := hH.born (x := (T.heap.size, .inr (newarray.typeOf aty, ad, vs))) hC.1 E0 E rfl (hvs ▸ ary_new A1 hn hnn hfd (fun C q => absurd q (hob C)) (fun _ => A2)) trivial
  exact (K T' _ ⟨st, vm0, k0, locs, X', hS, by rw [e']; exact Nat.le_trans hk E.1, hZ, hown, by rw [e']; exact hC.trans (CHr.ext E hC.1), N, by rw [e']; exact ext_trans E0 E, by rw [e']; exact P'⟩).go stp
theorem r_newr (B : RH g D M T H Lt cs ss) {ix : Nat} {C : String} {n : Int32} {nn cap cs' ss' : Nat} {vs : List Value} {ad : String} (hd : decode D.cd pc = .ok (.anewarray ix, 3)) (hp : pc + 3 = pc')
    (w1 : (Jvm.Cond.classLink D.y.cls ix C).before g.a0 g.Z = true) (w2 : (Jvm.Cond.arrayOver (.object C)).before g.a0 g.Z = true) (hn : ¬ n < 0) (hnn : n.toNatClampNeg = nn) (hcap : nn ≤ cap) (hb8 : cap * 8 ≤ 536870912) (hc : cs + 1 = cs') (hs : ss + cap = ss') (hc' : cs' ≤ D.rm.cells) (hs' : ss' ≤ D.rm.slots)
    (had : "[" ++ (FieldType.object C).toString = ad) (hvs : List.replicate nn Value.null = vs)
    (K : ∀ T' a, RH g D M T' ((a, .inr (.object C, ad, vs)) :: H) Lt cs' ss' → Fn g D M Q (T'.setTop (mkF M.m pc' Ls (.ref a :: S)))) : Fn g D M Q (T.setTop (mkF M.m pc Ls (.int n :: S))) := by
  subst hp hc hs
  obtain ⟨st, vm0, k0, locs, X, hS, hk, hZ, hown, hC, N, E0, hH⟩ := B
  obtain ⟨T', h', cA, X', e', E, A1, A2, A3, stp⟩ := newRE (Z := g.Z) (a0 := g.a0) X st.2.1 hZ hown w1 w2 rfl (g := mkF M.m pc Ls (.int n :: S)) rfl (hb st.2.2.1 hd) rfl hn (cap := cap) (by rw [hnn]; exact hcap) hb8 hc' hs' had
  have P' := hH.born (x := (T.heap.size, .inr (.object C, ad, vs))) hC.1 E0 E rfl (hvs ▸ ary_new A1 hn hnn rfl (fun C' q => by cases q; exact A3) (fun _ => A2)) trivial
  exact (K T' _ ⟨st, vm0, k0, locs, X', hS, by rw [e']; exact Nat.le_trans hk E.1, hZ, hown, by rw [e']; exact hC.trans (CHr.ext E hC.1), N, by rw [e']; exact ext_trans E0 E, by rw [e']; exact P'⟩).go stp
/-! arrays read and written -/
theorem xarr {Z : State} {h : Heap} {U : State} {a : Addr} {ty : FieldType} {nm : String} {vs : List Value} (hZ : Z.vm.Alike U.vm) (eU : U.heap = h) (A : Ary Z h a ty nm vs) : ∃ c : Cell, Jvm.Free.XT.Arr ty a c U ∧ c.slots.size = vs.length ∧ ∀ i : Nat, c.slots[i]? = vs[i]? := by
  obtain ⟨c, r1, r2, r3, -⟩ := A
  refine ⟨c, ⟨by rw [eU]; exact r1.1, State.isArrayOf_alike hZ r1.2.1, r1.2.2, by rw [r2]; simpa using r3⟩, by rw [r2]; simp, fun i => by rw [r2]; simp⟩
theorem r_alen (B : RH g D M T H Lt cs ss) {a : Addr} {ty : FieldType} {nm : String} {vs : List Value} {z : Int32} (hd : decode D.cd pc = .ok (.arraylength, 1)) (hp : pc + 1 = pc') (F : Al g H Lt fun h => Ary g.Z h a ty nm vs) (hz : Int32.ofNat vs.length = z)
    (K : Fn g D M Q (T.setTop (mkF M.m pc' Ls (.int z :: S)))) : Fn g D M Q (T.setTop (mkF M.m pc Ls (.ref a :: S))) := by
  subst hp; subst hz
  obtain ⟨st, vm0, k0, locs, X, hS, hk, hZ, hown, hC, N, E0, hH⟩ := B
  obtain ⟨c, r1, r2, r3⟩ := xarr (U := T) (hZ.alike.trans X.warmed.alike) rfl (F _ _ E0 hH)
  rw [← r2] at K
  exact K.go fun t => X.alen (g := mkF M.m pc Ls (.ref a :: S)) st.2.1 r1 rfl rfl (hb st.2.2.1 hd)
theorem r_aget (B : RH g D M T H Lt cs ss) {a : Addr} {ty : FieldType} {nm : String} {vs : List Value} {j : Int32} {k : Nat} {v : Value} {i : Instr} (hd : decode D.cd pc = .ok (i, 1)) (hi : i = Jvm.Free.XT.loadOf ty) (hp : pc + 1 = pc') (F : Al g H Lt fun h => Ary g.Z h a ty nm vs) (hj : j = Int32.ofNat k) (hv : vs[k]? = some v)
    (K : Fn g D M Q (T.setTop (mkF M.m pc' Ls (v :: S)))) : Fn g D M Q (T.setTop (mkF M.m pc Ls (.int j :: .ref a :: S))) := by
  subst hp; subst hi
  obtain ⟨st, vm0, k0, locs, X, hS, hk, hZ, hown, hC, N, E0, hH⟩ := B
  obtain ⟨c, r1, r2, r3⟩ := xarr (U := T) (hZ.alike.trans X.warmed.alike) rfl (F _ _ E0 hH)
  exact K.go fun t => X.aget (g := mkF M.m pc Ls (.int j :: .ref a :: S)) st.2.1 r1 hj ((r3 k).trans hv) rfl rfl (hb st.2.2.1 hd)
theorem ary_set {Z : State} {h h' : Heap} {a : Addr} {ty : FieldType} {nm : String} {vs : List Value} {k : Nat} {v : Value} (A : Ary Z h a ty nm vs) (W : Wr h h' a k v) (hf : fits ty v = true) : Ary Z h' a ty nm (vs.set k v) := by
  obtain ⟨c, r1, r2, r3, r4, r5, r6⟩ := A
  refine ⟨_, r1.same W, ?_, by rw [List.length_set]; exact r3, fun w hw => ?_, r5, fun q => (r6 q).wr W⟩
  · simp [Cell.setSlot, r2]
  · rcases List.mem_or_eq_of_mem_set hw with q | rfl
    · exact r4 w q
    · exact hf
theorem r_aputW (B : RH g D M T H Lt cs ss) {i : Nat} {a : Addr} {ty : FieldType} {nm : String} {vs : List Value} {k : Nat} {v : Value} (hi : H[i]? = some (a, .inr (ty, nm, vs))) (hf : fits ty v = true) (e : H.set i (a, .inr (ty, nm, vs.set k v)) = H')
    {U : State} {f : JFrame} (P : ∀ (vm0 : Vm) (locs : List Loc), Stand M.p g.l M.e D.rm (M.s.setVm vm0) M.m M.args M.below M.meth M.c T locs cs ss → g.Z.Warmed39 vm0 → ∀ c, Jvm.RoadKit.Arr g.Z T.heap a c ty → c.slots.size = vs.length → ∃ T' h', Stand M.p g.l M.e D.rm (M.s.setVm vm0) M.m M.args M.below M.meth M.c T' (locs ++ [⟨a, k⟩]) cs ss ∧ T'.heap = h' ∧ Wr T.heap h' a k v ∧ ∀ t, Steps M.p.tables M.e M.below (T'.setTop f) t → Steps M.p.tables M.e M.below U t)
    (K : ∀ T', RH g D M T' H' Lt cs ss → Fn g D M Q (T'.setTop f)) : Fn g D M Q U := by
  obtain ⟨st, vm0, k0, locs, X, hS, hk, hZ, hown, hC, N, E0, hH⟩ := B
  have I := hH.1 _ (List.mem_of_getElem? hi)
  have I1 : Ary g.Z T.heap a ty nm vs := I.1
  have I2 := I1
  obtain ⟨c, r1, r2', -⟩ := I2
  have r2 : c.slots.size = vs.length := by rw [r2']; simp
  obtain ⟨T', h', X', e', W, stp⟩ := P vm0 locs X hZ c r1 r2
  have C1 := CHr.wr W I.2.2.2 hC.1
  have hsz := W.size
  have P' := hH.upd C1 (Keep.of_wr W) hi rfl rfl (show Is g.Z h' (a, .inr (ty, nm, vs.set k v)) from ary_set I1 W hf) trivial
  rw [e] at P'
  refine (K T' ⟨st, vm0, k0, _, X', hS, by rw [e', hsz]; exact hk, hZ, hown, by rw [e']; exact hC.trans C1, Fr.snoc X' N I.2.2.1, ?_, by rw [e']; exact P'⟩).go stp
  rw [e']; exact (Old.wr ⟨rfl, E0⟩ W I.2.2.1).2
theorem inb {j : Int32} {k n : Nat} (hj : ¬ j < 0) (hk : j.toNatClampNeg = k) (hl : k < n) : ¬ (j < 0 ∨ n ≤ j.toNatClampNeg) := fun q => q.elim hj fun r => by rw [hk] at r; omega
theorem r_castore (B : RH g D M T H Lt cs ss) {i : Nat} {a : Addr} {nm : String} {vs : List Value} {j x x' : Int32} {k : Nat} (hd : decode D.cd pc = .ok (.castore, 1)) (hp : pc + 1 = pc') (hi : H[i]? = some (a, .inr (.char, nm, vs))) (hj : ¬ j < 0) (hk : j.toNatClampNeg = k) (hl : k < vs.length) (hx : nar .char x = x')
    (e : H.set i (a, .inr (.char, nm, vs.set k (.int x'))) = H') (K : ∀ T', RH g D M T' H' Lt cs ss → Fn g D M Q (T'.setTop (mkF M.m pc' Ls S))) : Fn g D M Q (T.setTop (mkF M.m pc Ls (.int x :: .int j :: .ref a :: S))) := by
  subst hp; subst hx; subst hk
  exact r_aputW B hi (fits_nar_char x) e (fun vm0 locs X hZ c r1 r2 => stC X B.hx hZ rfl r1 (by rw [r2]; exact inb hj rfl hl) (g := mkF M.m pc Ls (.int x :: .int j :: .ref a :: S)) rfl rfl (hb B.cd hd)) K
theorem r_bastore (B : RH g D M T H Lt cs ss) {i : Nat} {a : Addr} {nm : String} {vs : List Value} {j x x' : Int32} {k : Nat} (hd : decode D.cd pc = .ok (.bastore, 1)) (hp : pc + 1 = pc') (hi : H[i]? = some (a, .inr (.byte, nm, vs))) (hj : ¬ j < 0) (hk : j.toNatClampNeg = k) (hl : k < vs.length) (hx : nar .byte x = x')
    (e : H.set i (a, .inr (.byte, nm, vs.set k (.int x'))) = H') (K : ∀ T', RH g D M T' H' Lt cs ss → Fn g D M Q (T'.setTop (mkF M.m pc' Ls S))) : Fn g D M Q (T.setTop (mkF M.m pc Ls (.int x :: .int j :: .ref a :: S))) := by
  subst hp; subst hx; subst hk
  exact r_aputW B hi (fits_nar_byte x) e (fun vm0 locs X hZ c r1 r2 => stB X B.hx hZ rfl r1 (by rw [r2]; exact inb hj rfl hl) (g := mkF M.m pc Ls (.int x :: .int j :: .ref a :: S)) rfl rfl (hb B.cd hd)) K
theorem r_zastore (B : RH g D M T H Lt cs ss) {i : Nat} {a : Addr} {nm : String} {vs : List Value} {j x x' : Int32} {k : Nat} (hd : decode D.cd pc = .ok (.bastore, 1)) (hp : pc + 1 = pc') (hi : H[i]? = some (a, .inr (.boolean, nm, vs))) (hj : ¬ j < 0) (hk : j.toNatClampNeg = k) (hl : k < vs.length) (hx : nar .boolean x = x')
    (e : H.set i (a, .inr (.boolean, nm, vs.set k (.int x'))) = H') (K : ∀ T', RH g D M T' H' Lt cs ss → Fn g D M Q (T'.setTop (mkF M.m pc' Ls S))) : Fn g D M Q (T.setTop (mkF M.m pc Ls (.int x :: .int j :: .ref a :: S))) := by
  subst hp; subst hx; subst hk
  exact r_aputW B hi (fits_nar_bool x) e (fun vm0 locs X hZ c r1 r2 => stZ X B.hx hZ rfl r1 (by rw [r2]; exact inb hj rfl hl) (g := mkF M.m pc Ls (.int x :: .int j :: .ref a :: S)) rfl rfl (hb B.cd hd)) K
theorem r_iastore (B : RH g D M T H Lt cs ss) {i : Nat} {a : Addr} {nm : String} {vs : List Value} {j x : Int32} {k : Nat} (hd : decode D.cd pc = .ok (.iastore, 1)) (hp : pc + 1 = pc') (hi : H[i]? = some (a, .inr (.int, nm, vs))) (hj : ¬ j < 0) (hk : j.toNatClampNeg = k) (hl : k < vs.length)
    (e : H.set i (a, .inr (.int, nm, vs.set k (.int x))) = H') (K : ∀ T', RH g D M T' H' Lt cs ss → Fn g D M Q (T'.setTop (mkF M.m pc' Ls S))) : Fn g D M Q (T.setTop (mkF M.m pc Ls (.int x :: .int j :: .ref a :: S))) := by
  subst hp; subst hk
  exact r_aputW B hi rfl e (fun vm0 locs X hZ c r1 r2 => stI X B.hx hZ rfl r1 (by rw [r2]; exact inb hj rfl hl) (g := mkF M.m pc Ls (.int x :: .int j :: .ref a :: S)) rfl rfl (hb B.cd hd)) K
theorem r_lastore (B : RH g D M T H Lt cs ss) {i : Nat} {a : Addr} {nm : String} {vs : List Value} {j : Int32} {x : Int64} {k : Nat} (hd : decode D.cd pc = .ok (.lastore, 1)) (hp : pc + 1 = pc') (hi : H[i]? = some (a, .inr (.long, nm, vs))) (hj : ¬ j < 0) (hk : j.toNatClampNeg = k) (hl : k < vs.length)
    (e : H.set i (a, .inr (.long, nm, vs.set k (.long x))) = H') (K : ∀ T', RH g D M T' H' Lt cs ss → Fn g D M Q (T'.setTop (mkF M.m pc' Ls S))) : Fn g D M Q (T.setTop (mkF M.m pc Ls (.long x :: .int j :: .ref a :: S))) := by
  subst hp; subst hk
  exact r_aputW B hi rfl e (fun vm0 locs X hZ c r1 r2 => stJ X B.hx hZ rfl r1 (by rw [r2]; exact inb hj rfl hl) (g := mkF M.m pc Ls (.long x :: .int j :: .ref a :: S)) rfl rfl (hb B.cd hd)) K
/-- aastore: null, or an object that is one of the array's kind -/
theorem r_aastore (B : RH g D M T H Lt cs ss) {i : Nat} {a : Addr} {nm C : String} {vs : List Value} {j : Int32} {v : Value} {k : Nat} (hd : decode D.cd pc = .ok (.aastore, 1)) (hp : pc + 1 = pc') (hi : H[i]? = some (a, .inr (.object C, nm, vs))) (hj : ¬ j < 0) (hk : j.toNatClampNeg = k) (hl : k < vs.length)
    (hv : v = .null ∨ ∃ y, v = .ref y ∧ Al g H Lt fun h => Ins g.Z h y C true)
    (e : H.set i (a, .inr (.object C, nm, vs.set k v)) = H') (K : ∀ T', RH g D M T' H' Lt cs ss → Fn g D M Q (T'.setTop (mkF M.m pc' Ls S))) : Fn g D M Q (T.setTop (mkF M.m pc Ls (v :: .int j :: .ref a :: S))) := by
  subst hp; subst hk
  have hf : fits (.object C) v = true := by rcases hv with rfl | ⟨y, rfl, -⟩ <;> rfl
  refine r_aputW B hi hf e (fun vm0 locs X hZ c r1 r2 => ?_) K
  obtain ⟨st, vm1, k0, locs1, X1, hS, hk, hZ1, hown, hC, N, E0, hH⟩ := B
  have I1 : Ary g.Z T.heap a (.object C) nm vs := (hH.1 _ (List.mem_of_getElem? hi)).1
  obtain ⟨c2, q1, -, -, -, q5, -⟩ := I1
  have hcc : c2 = c := Option.some.inj (q1.1.symm.trans r1.1)
  subst hcc
  have hsto : Sto g.Z T.heap a v := by
    rcases hv with rfl | ⟨y, rfl, I⟩
    · exact Or.inl rfl
    · exact Sto.of r1 (q5 C rfl) (I _ _ E0 hH)
  exact stR X st.2.1 hZ rfl r1 (by rw [r2]; exact inb hj rfl hl) rfl hsto (g := mkF M.m pc Ls (v :: .int j :: .ref a :: S)) rfl rfl (hb st.2.2.1 hd)
/-! OWN WALKING KIT, part 3: plain steps (printed by mkpure.py). -/
theorem p_iload (B : Rn g D M T A cs ss) {k : Nat} {v : Int32} (hd : decode D.cd pc = .ok (.iload k, 2)) (hp : pc + 2 = pc') (hl : Ls[k]? = some (.val (.int v))) (K : Fn g D M Q (T.setTop (mkF M.m pc' Ls (.int v :: S)))) : Fn g D M Q (T.setTop (mkF M.m pc Ls (S))) := by
  subst hp
  exact K.go fun t => XS.iload (g := mkF M.m pc Ls (S)) B.here B.hx rfl (hb B.cd hd) hl
theorem p_iloadN (B : Rn g D M T A cs ss) {k : Fin 4} {v : Int32} (hd : decode D.cd pc = .ok (.iload_n k, 1)) (hp : pc + 1 = pc') (hl : Ls[k.val]? = some (.val (.int v))) (K : Fn g D M Q (T.setTop (mkF M.m pc' Ls (.int v :: S)))) : Fn g D M Q (T.setTop (mkF M.m pc Ls (S))) := by
  subst hp
  exact K.go fun t => XS.iloadN (g := mkF M.m pc Ls (S)) B.here B.hx rfl (hb B.cd hd) hl
theorem p_lload (B : Rn g D M T A cs ss) {k : Nat} {v : Int64} (hd : decode D.cd pc = .ok (.lload k, 2)) (hp : pc + 2 = pc') (hl : Ls[k]? = some (.val (.long v))) (K : Fn g D M Q (T.setTop (mkF M.m pc' Ls (.long v :: S)))) : Fn g D M Q (T.setTop (mkF M.m pc Ls (S))) := by
  subst hp
  exact K.go fun t => XS.lload (g := mkF M.m pc Ls (S)) B.here B.hx rfl (hb B.cd hd) hl
theorem p_lloadN (B : Rn g D M T A cs ss) {k : Fin 4} {v : Int64} (hd : decode D.cd pc = .ok (.lload_n k, 1)) (hp : pc + 1 = pc') (hl : Ls[k.val]? = some (.val (.long v))) (K : Fn g D M Q (T.setTop (mkF M.m pc' Ls (.long v :: S)))) : Fn g D M Q (T.setTop (mkF M.m pc Ls (S))) := by
  subst hp
  exact K.go fun t => XS.lloadN (g := mkF M.m pc Ls (S)) B.here B.hx rfl (hb B.cd hd) hl
theorem p_aload (B : Rn g D M T A cs ss) {k : Nat} {v : Value} (hd : decode D.cd pc = .ok (.aload k, 2)) (hp : pc + 2 = pc') (hl : Ls[k]? = some (.val v)) (hv : v.isRef = true) (K : Fn g D M Q (T.setTop (mkF M.m pc' Ls (v :: S)))) : Fn g D M Q (T.setTop (mkF M.m pc Ls (S))) := by
  subst hp
  exact K.go fun t => XS.aload (g := mkF M.m pc Ls (S)) B.here B.hx rfl (hb B.cd hd) hl hv
theorem p_aloadN (B : Rn g D M T A cs ss) {k : Fin 4} {v : Value} (hd : decode D.cd pc = .ok (.aload_n k, 1)) (hp : pc + 1 = pc') (hl : Ls[k.val]? = some (.val v)) (hv : v.isRef = true) (K : Fn g D M Q (T.setTop (mkF M.m pc' Ls (v :: S)))) : Fn g D M Q (T.setTop (mkF M.m pc Ls (S))) := by
  subst hp
  exact K.go fun t => XS.aloadN (g := mkF M.m pc Ls (S)) B.here B.hx rfl (hb B.cd hd) hl hv
theorem p_istore (B : Rn g D M T A cs ss) {k : Nat} {v : Int32} (hd : decode D.cd pc = .ok (.istore k, 2)) (hp : pc + 2 = pc') (hl : storeLocals Ls k (.int v) = some Ls') (K : Fn g D M Q (T.setTop (mkF M.m pc' Ls' (S)))) : Fn g D M Q (T.setTop (mkF M.m pc Ls (.int v :: S))) := by
  subst hp
  exact K.go fun t => XS.istore (g := mkF M.m pc Ls (.int v :: S)) B.here B.hx rfl (hb B.cd hd) rfl hl
theorem p_istoreN (B : Rn g D M T A cs ss) {k : Fin 4} {v : Int32} (hd : decode D.cd pc = .ok (.istore_n k, 1)) (hp : pc + 1 = pc') (hl : storeLocals Ls k.val (.int v) = some Ls') (K : Fn g D M Q (T.setTop (mkF M.m pc' Ls' (S)))) : Fn g D M Q (T.setTop (mkF M.m pc Ls (.int v :: S))) := by
  subst hp
  exact K.go fun t => XS.istoreN (g := mkF M.m pc Ls (.int v :: S)) B.here B.hx rfl (hb B.cd hd) rfl hl
theorem p_lstore (B : Rn g D M T A cs ss) {k : Nat} {v : Int64} (hd : decode D.cd pc = .ok (.lstore k, 2)) (hp : pc + 2 = pc') (hl : storeLocals Ls k (.long v) = some Ls') (K : Fn g D M Q (T.setTop (mkF M.m pc' Ls' (S)))) : Fn g D M Q (T.setTop (mkF M.m pc Ls (.long v :: S))) := by
  subst hp
  exact K.go fun t => XS.lstore (g := mkF M.m pc Ls (.long v :: S)) B.here B.hx rfl (hb B.cd hd) rfl hl
theorem p_lstoreN (B : Rn g D M T A cs ss) {k : Fin 4} {v : Int64} (hd : decode D.cd pc = .ok (.lstore_n k, 1)) (hp : pc + 1 = pc') (hl : storeLocals Ls k.val (.long v) = some Ls') (K : Fn g D M Q (T.setTop (mkF M.m pc' Ls' (S)))) : Fn g D M Q (T.setTop (mkF M.m pc Ls (.long v :: S))) := by
  subst hp
  exact K.go fun t => XS.lstoreN (g := mkF M.m pc Ls (.long v :: S)) B.here B.hx rfl (hb B.cd hd) rfl hl
theorem p_astore (B : Rn g D M T A cs ss) {k : Nat} {v : Value} (hd : decode D.cd pc = .ok (.astore k, 2)) (hp : pc + 2 = pc') (hv : v.isRef = true) (hl : storeLocals Ls k v = some Ls') (K : Fn g D M Q (T.setTop (mkF M.m pc' Ls' (S)))) : Fn g D M Q (T.setTop (mkF M.m pc Ls (v :: S))) := by
  subst hp
  exact K.go fun t => XS.astore (g := mkF M.m pc Ls (v :: S)) B.here B.hx rfl (hb B.cd hd) rfl hv hl
theorem p_astoreN (B : Rn g D M T A cs ss) {k : Fin 4} {v : Value} (hd : decode D.cd pc = .ok (.astore_n k, 1)) (hp : pc + 1 = pc') (hv : v.isRef = true) (hl : storeLocals Ls k.val v = some Ls') (K : Fn g D M Q (T.setTop (mkF M.m pc' Ls' (S)))) : Fn g D M Q (T.setTop (mkF M.m pc Ls (v :: S))) := by
  subst hp
  exact K.go fun t => XS.astoreN (g := mkF M.m pc Ls (v :: S)) B.here B.hx rfl (hb B.cd hd) rfl hv hl
theorem p_iconst (B : Rn g D M T A cs ss) {i : Int} {v : Int32} (hd : decode D.cd pc = .ok (.iconst i, 1)) (hp : pc + 1 = pc') (hv : Int32.ofInt i = v) (K : Fn g D M Q (T.setTop (mkF M.m pc' Ls (.int v :: S)))) : Fn g D M Q (T.setTop (mkF M.m pc Ls (S))) := by
  subst hp
  exact K.go fun t => Jvm.Free.XT.iconstV (g := mkF M.m pc Ls (S)) B.here B.hx rfl v (hb B.cd hd) hv
theorem p_bipush (B : Rn g D M T A cs ss) {i : Int} {v : Int32} (hd : decode D.cd pc = .ok (.bipush i, 2)) (hp : pc + 2 = pc') (hv : (Int8.ofInt i).toInt32 = v) (K : Fn g D M Q (T.setTop (mkF M.m pc' Ls (.int v :: S)))) : Fn g D M Q (T.setTop (mkF M.m pc Ls (S))) := by
  subst hp
  exact K.go fun t => Jvm.Free.XT.bipushV (g := mkF M.m pc Ls (S)) B.here B.hx rfl v (hb B.cd hd) hv
theorem p_sipush (B : Rn g D M T A cs ss) {i : Int} {v : Int32} (hd : decode D.cd pc = .ok (.sipush i, 3)) (hp : pc + 3 = pc') (hv : (Int16.ofInt i).toInt32 = v) (K : Fn g D M Q (T.setTop (mkF M.m pc' Ls (.int v :: S)))) : Fn g D M Q (T.setTop (mkF M.m pc Ls (S))) := by
  subst hp
  exact K.go fun t => Jvm.Free.XT.sipushV (g := mkF M.m pc Ls (S)) B.here B.hx rfl v (hb B.cd hd) hv
theorem p_lconst (B : Rn g D M T A cs ss) {i : Fin 2} {v : Int64} (hd : decode D.cd pc = .ok (.lconst i, 1)) (hp : pc + 1 = pc') (hv : Int64.ofNat i = v) (K : Fn g D M Q (T.setTop (mkF M.m pc' Ls (.long v :: S)))) : Fn g D M Q (T.setTop (mkF M.m pc Ls (S))) := by
  subst hp
  exact K.go fun t => Jvm.Free.XT.lconstV (g := mkF M.m pc Ls (S)) B.here B.hx rfl v (hb B.cd hd) hv
theorem p_null (B : Rn g D M T A cs ss) (hd : decode D.cd pc = .ok (.aconst_null, 1)) (hp : pc + 1 = pc') (K : Fn g D M Q (T.setTop (mkF M.m pc' Ls (.null :: S)))) : Fn g D M Q (T.setTop (mkF M.m pc Ls (S))) := by
  subst hp
  exact K.go fun t => XS.aconstNull (g := mkF M.m pc Ls (S)) B.here B.hx rfl (hb B.cd hd)
theorem p_iadd (B : Rn g D M T A cs ss) {x y z : Int32} (hd : decode D.cd pc = .ok (.iadd, 1)) (hp : pc + 1 = pc') (hz : x + y = z) (K : Fn g D M Q (T.setTop (mkF M.m pc' Ls (.int z :: S)))) : Fn g D M Q (T.setTop (mkF M.m pc Ls (.int y :: .int x :: S))) := by
  subst hp; subst hz
  exact K.go fun t => XS.iadd (g := mkF M.m pc Ls (.int y :: .int x :: S)) B.here B.hx rfl (hb B.cd hd) rfl
theorem p_isub (B : Rn g D M T A cs ss) {x y z : Int32} (hd : decode D.cd pc = .ok (.isub, 1)) (hp : pc + 1 = pc') (hz : x - y = z) (K : Fn g D M Q (T.setTop (mkF M.m pc' Ls (.int z :: S)))) : Fn g D M Q (T.setTop (mkF M.m pc Ls (.int y :: .int x :: S))) := by
  subst hp; subst hz
  exact K.go fun t => XS.isub (g := mkF M.m pc Ls (.int y :: .int x :: S)) B.here B.hx rfl (hb B.cd hd) rfl
theorem p_imul (B : Rn g D M T A cs ss) {x y z : Int32} (hd : decode D.cd pc = .ok (.imul, 1)) (hp : pc + 1 = pc') (hz : x * y = z) (K : Fn g D M Q (T.setTop (mkF M.m pc' Ls (.int z :: S)))) : Fn g D M Q (T.setTop (mkF M.m pc Ls (.int y :: .int x :: S))) := by
  subst hp; subst hz
  exact K.go fun t => XS.imul (g := mkF M.m pc Ls (.int y :: .int x :: S)) B.here B.hx rfl (hb B.cd hd) rfl
theorem p_iand (B : Rn g D M T A cs ss) {x y z : Int32} (hd : decode D.cd pc = .ok (.iand, 1)) (hp : pc + 1 = pc') (hz : x &&& y = z) (K : Fn g D M Q (T.setTop (mkF M.m pc' Ls (.int z :: S)))) : Fn g D M Q (T.setTop (mkF M.m pc Ls (.int y :: .int x :: S))) := by
  subst hp; subst hz
  exact K.go fun t => XS.iand (g := mkF M.m pc Ls (.int y :: .int x :: S)) B.here B.hx rfl (hb B.cd hd) rfl
theorem p_ior (B : Rn g D M T A cs ss) {x y z : Int32} (hd : decode D.cd pc = .ok (.ior, 1)) (hp : pc + 1 = pc') (hz : x ||| y = z) (K : Fn g D M Q (T.setTop (mkF M.m pc' Ls (.int z :: S)))) : Fn g D M Q (T.setTop (mkF M.m pc Ls (.int y :: .int x :: S))) := by
  subst hp; subst hz
  exact K.go fun t => XS.ior (g := mkF M.m pc Ls (.int y :: .int x :: S)) B.here B.hx rfl (hb B.cd hd) rfl
theorem p_ixor (B : Rn g D M T A cs ss) {x y z : Int32} (hd : decode D.cd pc = .ok (.ixor, 1)) (hp : pc + 1 = pc') (hz : x ^^^ y = z) (K : Fn g D M Q (T.setTop (mkF M.m pc' Ls (.int z :: S)))) : Fn g D M Q (T.setTop (mkF M.m pc Ls (.int y :: .int x :: S))) := by
  subst hp; subst hz
  exact K.go fun t => XS.ixor (g := mkF M.m pc Ls (.int y :: .int x :: S)) B.here B.hx rfl (hb B.cd hd) rfl
theorem p_ishl (B : Rn g D M T A cs ss) {x y z : Int32} (hd : decode D.cd pc = .ok (.ishl, 1)) (hp : pc + 1 = pc') (hz : x <<< (y &&& 31) = z) (K : Fn g D M Q (T.setTop (mkF M.m pc' Ls (.int z :: S)))) : Fn g D M Q (T.setTop (mkF M.m pc Ls (.int y :: .int x :: S))) := by
  subst hp; subst hz
  exact K.go fun t => XS.ishl (g := mkF M.m pc Ls (.int y :: .int x :: S)) B.here B.hx rfl (hb B.cd hd) rfl
theorem p_ishr (B : Rn g D M T A cs ss) {x y z : Int32} (hd : decode D.cd pc = .ok (.ishr, 1)) (hp : pc + 1 = pc') (hz : x >>> (y &&& 31) = z) (K : Fn g D M Q (T.setTop (mkF M.m pc' Ls (.int z :: S)))) : Fn g D M Q (T.setTop (mkF M.m pc Ls (.int y :: .int x :: S))) := by
  subst hp; subst hz
  exact K.go fun t => XS.ishr (g := mkF M.m pc Ls (.int y :: .int x :: S)) B.here B.hx rfl (hb B.cd hd) rfl
theorem p_iushr (B : Rn g D M T A cs ss) {x y z : Int32} (hd : decode D.cd pc = .ok (.iushr, 1)) (hp : pc + 1 = pc') (hz : (x.toUInt32 >>> (y &&& 31).toUInt32).toInt32 = z) (K : Fn g D M Q (T.setTop (mkF M.m pc' Ls (.int z :: S)))) : Fn g D M Q (T.setTop (mkF M.m pc Ls (.int y :: .int x :: S))) := by
  subst hp; subst hz
  exact K.go fun t => XS.iushr (g := mkF M.m pc Ls (.int y :: .int x :: S)) B.here B.hx rfl (hb B.cd hd) rfl
theorem p_idiv (B : Rn g D M T A cs ss) {x y z : Int32} (hd : decode D.cd pc = .ok (.idiv, 1)) (hp : pc + 1 = pc') (hy : y ≠ 0) (hz : x / y = z) (K : Fn g D M Q (T.setTop (mkF M.m pc' Ls (.int z :: S)))) : Fn g D M Q (T.setTop (mkF M.m pc Ls (.int y :: .int x :: S))) := by
  subst hp; subst hz
  exact K.go fun t => XS.idiv (g := mkF M.m pc Ls (.int y :: .int x :: S)) B.here B.hx rfl (hb B.cd hd) rfl hy
theorem p_irem (B : Rn g D M T A cs ss) {x y z : Int32} (hd : decode D.cd pc = .ok (.irem, 1)) (hp : pc + 1 = pc') (hy : y ≠ 0) (hz : x % y = z) (K : Fn g D M Q (T.setTop (mkF M.m pc' Ls (.int z :: S)))) : Fn g D M Q (T.setTop (mkF M.m pc Ls (.int y :: .int x :: S))) := by
  subst hp; subst hz; rw [← Jvm.irem_eq_mod] at K
  exact K.go fun t => XS.irem (g := mkF M.m pc Ls (.int y :: .int x :: S)) B.here B.hx rfl (hb B.cd hd) rfl hy
theorem p_ineg (B : Rn g D M T A cs ss) {x : Int32} (hd : decode D.cd pc = .ok (.ineg, 1)) (hp : pc + 1 = pc') (K : Fn g D M Q (T.setTop (mkF M.m pc' Ls (.int (-x) :: S)))) : Fn g D M Q (T.setTop (mkF M.m pc Ls (.int x :: S))) := by
  subst hp
  exact K.go fun t => XS.ineg (g := mkF M.m pc Ls (.int x :: S)) B.here B.hx rfl (hb B.cd hd) rfl
theorem p_ladd (B : Rn g D M T A cs ss) {x y : Int64} (hd : decode D.cd pc = .ok (.ladd, 1)) (hp : pc + 1 = pc') (K : Fn g D M Q (T.setTop (mkF M.m pc' Ls (.long (x + y) :: S)))) : Fn g D M Q (T.setTop (mkF M.m pc Ls (.long y :: .long x :: S))) := by
  subst hp
  exact K.go fun t => XS.ladd (g := mkF M.m pc Ls (.long y :: .long x :: S)) B.here B.hx rfl (hb B.cd hd) rfl
theorem p_lsub (B : Rn g D M T A cs ss) {x y : Int64} (hd : decode D.cd pc = .ok (.lsub, 1)) (hp : pc + 1 = pc') (K : Fn g D M Q (T.setTop (mkF M.m pc' Ls (.long (x - y) :: S)))) : Fn g D M Q (T.setTop (mkF M.m pc Ls (.long y :: .long x :: S))) := by
  subst hp
  exact K.go fun t => XS.lsub (g := mkF M.m pc Ls (.long y :: .long x :: S)) B.here B.hx rfl (hb B.cd hd) rfl
theorem p_lmul (B : Rn g D M T A cs ss) {x y : Int64} (hd : decode D.cd pc = .ok (.lmul, 1)) (hp : pc + 1 = pc') (K : Fn g D M Q (T.setTop (mkF M.m pc' Ls (.long (x * y) :: S)))) : Fn g D M Q (T.setTop (mkF M.m pc Ls (.long y :: .long x :: S))) := by
  subst hp
  exact K.go fun t => XS.lmul (g := mkF M.m pc Ls (.long y :: .long x :: S)) B.here B.hx rfl (hb B.cd hd) rfl
theorem p_land (B : Rn g D M T A cs ss) {x y : Int64} (hd : decode D.cd pc = .ok (.land, 1)) (hp : pc + 1 = pc') (K : Fn g D M Q (T.setTop (mkF M.m pc' Ls (.long (x &&& y) :: S)))) : Fn g D M Q (T.setTop (mkF M.m pc Ls (.long y :: .long x :: S))) := by
  subst hp
  exact K.go fun t => XS.land (g := mkF M.m pc Ls (.long y :: .long x :: S)) B.here B.hx rfl (hb B.cd hd) rfl
theorem p_lor (B : Rn g D M T A cs ss) {x y : Int64} (hd : decode D.cd pc = .ok (.lor, 1)) (hp : pc + 1 = pc') (K : Fn g D M Q (T.setTop (mkF M.m pc' Ls (.long (x ||| y) :: S)))) : Fn g D M Q (T.setTop (mkF M.m pc Ls (.long y :: .long x :: S))) := by
  subst hp
  exact K.go fun t => XS.lor (g := mkF M.m pc Ls (.long y :: .long x :: S)) B.here B.hx rfl (hb B.cd hd) rfl
theorem p_lxor (B : Rn g D M T A cs ss) {x y : Int64} (hd : decode D.cd pc = .ok (.lxor, 1)) (hp : pc + 1 = pc') (K : Fn g D M Q (T.setTop (mkF M.m pc' Ls (.long (x ^^^ y) :: S)))) : Fn g D M Q (T.setTop (mkF M.m pc Ls (.long y :: .long x :: S))) := by
  subst hp
  exact K.go fun t => XS.lxor (g := mkF M.m pc Ls (.long y :: .long x :: S)) B.here B.hx rfl (hb B.cd hd) rfl
theorem p_lshl (B : Rn g D M T A cs ss) {x : Int64} {y : Int32} (hd : decode D.cd pc = .ok (.lshl, 1)) (hp : pc + 1 = pc') (K : Fn g D M Q (T.setTop (mkF M.m pc' Ls (.long (x <<< (y &&& 0x3f).toInt64) :: S)))) : Fn g D M Q (T.setTop (mkF M.m pc Ls (.int y :: .long x :: S))) := by
  subst hp
  exact K.go fun t => XS.lshl (g := mkF M.m pc Ls (.int y :: .long x :: S)) B.here B.hx rfl (hb B.cd hd) rfl
theorem p_lshr (B : Rn g D M T A cs ss) {x : Int64} {y : Int32} (hd : decode D.cd pc = .ok (.lshr, 1)) (hp : pc + 1 = pc') (K : Fn g D M Q (T.setTop (mkF M.m pc' Ls (.long (x >>> (y &&& 0x3f).toInt64) :: S)))) : Fn g D M Q (T.setTop (mkF M.m pc Ls (.int y :: .long x :: S))) := by
  subst hp
  exact K.go fun t => XS.lshr (g := mkF M.m pc Ls (.int y :: .long x :: S)) B.here B.hx rfl (hb B.cd hd) rfl
theorem p_lushr (B : Rn g D M T A cs ss) {x : Int64} {y : Int32} (hd : decode D.cd pc = .ok (.lushr, 1)) (hp : pc + 1 = pc') (K : Fn g D M Q (T.setTop (mkF M.m pc' Ls (.long ((x.toUInt64 >>> (y &&& 0x3f).toInt64.toUInt64).toInt64) :: S)))) : Fn g D M Q (T.setTop (mkF M.m pc Ls (.int y :: .long x :: S))) := by
  subst hp
  exact K.go fun t => XS.lushr (g := mkF M.m pc Ls (.int y :: .long x :: S)) B.here B.hx rfl (hb B.cd hd) rfl
theorem p_ldiv (B : Rn g D M T A cs ss) {x y : Int64} (hd : decode D.cd pc = .ok (.ldiv, 1)) (hp : pc + 1 = pc') (hy : y ≠ 0) (K : Fn g D M Q (T.setTop (mkF M.m pc' Ls (.long (x / y) :: S)))) : Fn g D M Q (T.setTop (mkF M.m pc Ls (.long y :: .long x :: S))) := by
  subst hp
  exact K.go fun t => XS.ldiv (g := mkF M.m pc Ls (.long y :: .long x :: S)) B.here B.hx rfl (hb B.cd hd) rfl hy
theorem p_lrem (B : Rn g D M T A cs ss) {x y : Int64} (hd : decode D.cd pc = .ok (.lrem, 1)) (hp : pc + 1 = pc') (hy : y ≠ 0) (K : Fn g D M Q (T.setTop (mkF M.m pc' Ls (.long (x - (x / y) * y) :: S)))) : Fn g D M Q (T.setTop (mkF M.m pc Ls (.long y :: .long x :: S))) := by
  subst hp
  exact K.go fun t => XS.lrem (g := mkF M.m pc Ls (.long y :: .long x :: S)) B.here B.hx rfl (hb B.cd hd) rfl hy
theorem p_lcmp (B : Rn g D M T A cs ss) {x y : Int64} (hd : decode D.cd pc = .ok (.lcmp, 1)) (hp : pc + 1 = pc') (K : Fn g D M Q (T.setTop (mkF M.m pc' Ls (.int (lcmpW x y) :: S)))) : Fn g D M Q (T.setTop (mkF M.m pc Ls (.long y :: .long x :: S))) := by
  subst hp
  exact K.go fun t => XS.lcmp (g := mkF M.m pc Ls (.long y :: .long x :: S)) B.here B.hx rfl (hb B.cd hd) rfl
theorem p_i2l (B : Rn g D M T A cs ss) {x : Int32} (hd : decode D.cd pc = .ok (.i2l, 1)) (hp : pc + 1 = pc') (K : Fn g D M Q (T.setTop (mkF M.m pc' Ls (.long x.toInt64 :: S)))) : Fn g D M Q (T.setTop (mkF M.m pc Ls (.int x :: S))) := by
  subst hp
  exact K.go fun t => XS.i2l (g := mkF M.m pc Ls (.int x :: S)) B.here B.hx rfl (hb B.cd hd) rfl
theorem p_l2i (B : Rn g D M T A cs ss) {x : Int64} (hd : decode D.cd pc = .ok (.l2i, 1)) (hp : pc + 1 = pc') (K : Fn g D M Q (T.setTop (mkF M.m pc' Ls (.int x.toInt32 :: S)))) : Fn g D M Q (T.setTop (mkF M.m pc Ls (.long x :: S))) := by
  subst hp
  exact K.go fun t => XS.l2i (g := mkF M.m pc Ls (.long x :: S)) B.here B.hx rfl (hb B.cd hd) rfl
theorem p_i2b (B : Rn g D M T A cs ss) {x : Int32} (hd : decode D.cd pc = .ok (.i2b, 1)) (hp : pc + 1 = pc') (K : Fn g D M Q (T.setTop (mkF M.m pc' Ls (.int x.toInt8.toInt32 :: S)))) : Fn g D M Q (T.setTop (mkF M.m pc Ls (.int x :: S))) := by
  subst hp
  exact K.go fun t => XS.i2b (g := mkF M.m pc Ls (.int x :: S)) B.here B.hx rfl (hb B.cd hd) rfl
theorem p_i2c (B : Rn g D M T A cs ss) {x : Int32} (hd : decode D.cd pc = .ok (.i2c, 1)) (hp : pc + 1 = pc') (K : Fn g D M Q (T.setTop (mkF M.m pc' Ls (.int x.toUInt32.toUInt16.toUInt32.toInt32 :: S)))) : Fn g D M Q (T.setTop (mkF M.m pc Ls (.int x :: S))) := by
  subst hp
  exact K.go fun t => XS.i2c (g := mkF M.m pc Ls (.int x :: S)) B.here B.hx rfl (hb B.cd hd) rfl
theorem p_i2s (B : Rn g D M T A cs ss) {x : Int32} (hd : decode D.cd pc = .ok (.i2s, 1)) (hp : pc + 1 = pc') (K : Fn g D M Q (T.setTop (mkF M.m pc' Ls (.int x.toInt16.toInt32 :: S)))) : Fn g D M Q (T.setTop (mkF M.m pc Ls (.int x :: S))) := by
  subst hp
  exact K.go fun t => XS.i2s (g := mkF M.m pc Ls (.int x :: S)) B.here B.hx rfl (hb B.cd hd) rfl
theorem p_dup (B : Rn g D M T A cs ss) {x : Value} (hd : decode D.cd pc = .ok (.dup, 1)) (hp : pc + 1 = pc') (hc : x.category = 1) (K : Fn g D M Q (T.setTop (mkF M.m pc' Ls (x :: x :: S)))) : Fn g D M Q (T.setTop (mkF M.m pc Ls (x :: S))) := by
  subst hp
  exact K.go fun t => XS.dup (g := mkF M.m pc Ls (x :: S)) B.here B.hx rfl (hb B.cd hd) rfl hc
theorem p_pop (B : Rn g D M T A cs ss) {x : Value} (hd : decode D.cd pc = .ok (.pop, 1)) (hp : pc + 1 = pc') (hc : x.category = 1) (K : Fn g D M Q (T.setTop (mkF M.m pc' Ls (S)))) : Fn g D M Q (T.setTop (mkF M.m pc Ls (x :: S))) := by
  subst hp
  exact K.go fun t => XS.pop (g := mkF M.m pc Ls (x :: S)) B.here B.hx rfl (hb B.cd hd) rfl hc
theorem p_dupx1 (B : Rn g D M T A cs ss) {x y : Value} (hd : decode D.cd pc = .ok (.dup_x1, 1)) (hp : pc + 1 = pc') (hc : x.category = 1) (hc' : y.category = 1) (K : Fn g D M Q (T.setTop (mkF M.m pc' Ls (x :: y :: x :: S)))) : Fn g D M Q (T.setTop (mkF M.m pc Ls (x :: y :: S))) := by
  subst hp
  exact K.go fun t => XS.dupX1 (g := mkF M.m pc Ls (x :: y :: S)) B.here B.hx rfl (hb B.cd hd) rfl hc hc'
theorem p_dup2 (B : Rn g D M T A cs ss) {x y : Value} (hd : decode D.cd pc = .ok (.dup2, 1)) (hp : pc + 1 = pc') (hc : x.category = 1) (hc' : y.category = 1) (K : Fn g D M Q (T.setTop (mkF M.m pc' Ls (x :: y :: x :: y :: S)))) : Fn g D M Q (T.setTop (mkF M.m pc Ls (x :: y :: S))) := by
  subst hp
  exact K.go fun t => Jvm.Free.XT.dup2 (g := mkF M.m pc Ls (x :: y :: S)) B.here B.hx rfl (hb B.cd hd) rfl hc hc'
theorem p_dup2L (B : Rn g D M T A cs ss) {x : Int64} (hd : decode D.cd pc = .ok (.dup2, 1)) (hp : pc + 1 = pc') (K : Fn g D M Q (T.setTop (mkF M.m pc' Ls (.long x :: .long x :: S)))) : Fn g D M Q (T.setTop (mkF M.m pc Ls (.long x :: S))) := by
  subst hp
  exact K.go fun t => Jvm.Free.XT.dup2L (g := mkF M.m pc Ls (.long x :: S)) B.here B.hx rfl (hb B.cd hd) rfl
theorem p_iinc (B : Rn g D M T A cs ss) {k : Nat} {cst : Int} {x v z : Int32} (hd : decode D.cd pc = .ok (.iinc k cst, 3)) (hp : pc + 3 = pc') (hv : Int32.ofInt cst = v) (hl : Ls[k]? = some (.val (.int x))) (hz : x + v = z) (hl' : storeLocals Ls k (.int z) = some Ls') (K : Fn g D M Q (T.setTop (mkF M.m pc' Ls' (S)))) : Fn g D M Q (T.setTop (mkF M.m pc Ls (S))) := by
  subst hp; subst hz
  exact K.go fun t => Jvm.Free.XT.iincV (g := mkF M.m pc Ls (S)) B.here B.hx rfl v (hb B.cd hd) hv hl hl'
def hldT : ClassFile.Cond → Int32 → Int32 → Prop
  | .eq, x, y => x = y
  | .ne, x, y => ¬ x = y
  | .lt, x, y => x < y
  | .ge, x, y => ¬ x < y
  | .gt, x, y => y < x
  | .le, x, y => ¬ y < x
def hldF : ClassFile.Cond → Int32 → Int32 → Prop
  | .eq, x, y => ¬ x = y
  | .ne, x, y => x = y
  | .lt, x, y => ¬ x < y
  | .ge, x, y => x < y
  | .gt, x, y => ¬ y < x
  | .le, x, y => y < x
theorem hldT_ii {cd : ClassFile.Cond} {x y : Int32} (h : hldT cd x y) : if_icmp.holds cd x y = true := by
  cases cd
  · exact Jvm.Free.XT.ii_eq_t h
  · exact Jvm.Free.XT.ii_ne_t h
  · exact Jvm.Free.XT.ii_lt_t h
  · exact Jvm.Free.XT.ii_ge_t h
  · exact Jvm.Free.XT.ii_gt_t h
  · exact Jvm.Free.XT.ii_le_t h
theorem hldF_ii {cd : ClassFile.Cond} {x y : Int32} (h : hldF cd x y) : if_icmp.holds cd x y = false := by
  cases cd
  · exact Jvm.Free.XT.ii_eq_f h
  · exact Jvm.Free.XT.ii_ne_f h
  · exact Jvm.Free.XT.ii_lt_f h
  · exact Jvm.Free.XT.ii_ge_f h
  · exact Jvm.Free.XT.ii_gt_f h
  · exact Jvm.Free.XT.ii_le_f h
theorem b_ifT (B : Rn g D M T A cs ss) {cd : ClassFile.Cond} {x : Int32} {o : Int} (hd : decode D.cd pc = .ok (.ifCond cd o, 3)) (h : hldT cd x 0) (ho : 0 ≤ (pc : Int) + o) (hp : ((pc : Int) + o).toNat = pc') (K : Fn g D M Q (T.setTop (mkF M.m pc' Ls S))) : Fn g D M Q (T.setTop (mkF M.m pc Ls (.int x :: S))) :=
  K.go fun t => XS.ifYes (g := mkF M.m pc Ls (.int x :: S)) B.here B.hx rfl (pc0 := pc) (pc' := pc') rfl (hb B.cd hd) rfl ((if0 cd x).trans (hldT_ii h)) ho hp
theorem b_ifF (B : Rn g D M T A cs ss) {cd : ClassFile.Cond} {x : Int32} {o : Int} (hd : decode D.cd pc = .ok (.ifCond cd o, 3)) (hp : pc + 3 = pc') (h : hldF cd x 0) (K : Fn g D M Q (T.setTop (mkF M.m pc' Ls S))) : Fn g D M Q (T.setTop (mkF M.m pc Ls (.int x :: S))) := by
  subst hp
  exact K.go fun t => XS.ifNo (g := mkF M.m pc Ls (.int x :: S)) B.here B.hx rfl (hb B.cd hd) rfl ((if0 cd x).trans (hldF_ii h))
theorem b_icT (B : Rn g D M T A cs ss) {cd : ClassFile.Cond} {x y : Int32} {o : Int} (hd : decode D.cd pc = .ok (.if_icmp cd o, 3)) (h : hldT cd x y) (ho : 0 ≤ (pc : Int) + o) (hp : ((pc : Int) + o).toNat = pc') (K : Fn g D M Q (T.setTop (mkF M.m pc' Ls S))) : Fn g D M Q (T.setTop (mkF M.m pc Ls (.int y :: .int x :: S))) :=
  K.go fun t => XS.icmpYes (g := mkF M.m pc Ls (.int y :: .int x :: S)) B.here B.hx rfl (pc0 := pc) (pc' := pc') rfl (hb B.cd hd) rfl (hldT_ii h) ho hp
theorem b_icF (B : Rn g D M T A cs ss) {cd : ClassFile.Cond} {x y : Int32} {o : Int} (hd : decode D.cd pc = .ok (.if_icmp cd o, 3)) (hp : pc + 3 = pc') (h : hldF cd x y) (K : Fn g D M Q (T.setTop (mkF M.m pc' Ls S))) : Fn g D M Q (T.setTop (mkF M.m pc Ls (.int y :: .int x :: S))) := by
  subst hp
  exact K.go fun t => XS.icmpNo (g := mkF M.m pc Ls (.int y :: .int x :: S)) B.here B.hx rfl (hb B.cd hd) rfl (hldF_ii h)
theorem b_nuT (B : Rn g D M T A cs ss) {o : Int} (hd : decode D.cd pc = .ok (.ifnull o, 3)) (ho : 0 ≤ (pc : Int) + o) (hp : ((pc : Int) + o).toNat = pc') (K : Fn g D M Q (T.setTop (mkF M.m pc' Ls S))) : Fn g D M Q (T.setTop (mkF M.m pc Ls (.null :: S))) :=
  K.go fun t => XS.ifnullYes (g := mkF M.m pc Ls (.null :: S)) B.here B.hx rfl (pc0 := pc) (pc' := pc') rfl (hb B.cd hd) rfl ho hp
theorem b_nuF (B : Rn g D M T A cs ss) {b : Addr} {o : Int} (hd : decode D.cd pc = .ok (.ifnull o, 3)) (hp : pc + 3 = pc') (K : Fn g D M Q (T.setTop (mkF M.m pc' Ls S))) : Fn g D M Q (T.setTop (mkF M.m pc Ls (.ref b :: S))) := by
  subst hp
  exact K.go fun t => XS.ifnullNo (g := mkF M.m pc Ls (.ref b :: S)) B.here B.hx rfl (hb B.cd hd) rfl
theorem b_nnT (B : Rn g D M T A cs ss) {b : Addr} {o : Int} (hd : decode D.cd pc = .ok (.ifnonnull o, 3)) (ho : 0 ≤ (pc : Int) + o) (hp : ((pc : Int) + o).toNat = pc') (K : Fn g D M Q (T.setTop (mkF M.m pc' Ls S))) : Fn g D M Q (T.setTop (mkF M.m pc Ls (.ref b :: S))) :=
  K.go fun t => XS.ifnonnullYes (g := mkF M.m pc Ls (.ref b :: S)) B.here B.hx rfl (pc0 := pc) (pc' := pc') rfl (hb B.cd hd) rfl ho hp
theorem b_nnF (B : Rn g D M T A cs ss) {o : Int} (hd : decode D.cd pc = .ok (.ifnonnull o, 3)) (hp : pc + 3 = pc') (K : Fn g D M Q (T.setTop (mkF M.m pc' Ls S))) : Fn g D M Q (T.setTop (mkF M.m pc Ls (.null :: S))) := by
  subst hp
  exact K.go fun t => XS.ifnonnullNo (g := mkF M.m pc Ls (.null :: S)) B.here B.hx rfl (hb B.cd hd) rfl
theorem b_nnTV (B : Rn g D M T A cs ss) {v : Value} {o : Int} (hd : decode D.cd pc = .ok (.ifnonnull o, 3)) (hv : v.isRef = true) (h : ¬ v = .null) (ho : 0 ≤ (pc : Int) + o) (hp : ((pc : Int) + o).toNat = pc') (K : Fn g D M Q (T.setTop (mkF M.m pc' Ls S))) : Fn g D M Q (T.setTop (mkF M.m pc Ls (v :: S))) :=
  K.go fun t => Jvm.Free.XT.nonnullYes (g := mkF M.m pc Ls (v :: S)) B.here B.hx rfl (pc0 := pc) (pc' := pc') rfl (hb B.cd hd) rfl hv h ho hp
theorem b_nnFV (B : Rn g D M T A cs ss) {v : Value} {o : Int} (hd : decode D.cd pc = .ok (.ifnonnull o, 3)) (hp : pc + 3 = pc') (h : v = .null) (K : Fn g D M Q (T.setTop (mkF M.m pc' Ls S))) : Fn g D M Q (T.setTop (mkF M.m pc Ls (v :: S))) := by
  subst hp
  exact K.go fun t => Jvm.Free.XT.nonnullNo (g := mkF M.m pc Ls (v :: S)) B.here B.hx rfl (hb B.cd hd) rfl h
theorem b_nuTV (B : Rn g D M T A cs ss) {v : Value} {o : Int} (hd : decode D.cd pc = .ok (.ifnull o, 3)) (h : v = .null) (ho : 0 ≤ (pc : Int) + o) (hp : ((pc : Int) + o).toNat = pc') (K : Fn g D M Q (T.setTop (mkF M.m pc' Ls S))) : Fn g D M Q (T.setTop (mkF M.m pc Ls (v :: S))) :=
  K.go fun t => Jvm.Free.XT.nullYes (g := mkF M.m pc Ls (v :: S)) B.here B.hx rfl (pc0 := pc) (pc' := pc') rfl (hb B.cd hd) rfl h ho hp
theorem b_nuFV (B : Rn g D M T A cs ss) {v : Value} {o : Int} (hd : decode D.cd pc = .ok (.ifnull o, 3)) (hp : pc + 3 = pc') (hv : v.isRef = true) (h : ¬ v = .null) (K : Fn g D M Q (T.setTop (mkF M.m pc' Ls S))) : Fn g D M Q (T.setTop (mkF M.m pc Ls (v :: S))) := by
  subst hp
  exact K.go fun t => Jvm.Free.XT.nullNo (g := mkF M.m pc Ls (v :: S)) B.here B.hx rfl (hb B.cd hd) rfl hv h
theorem b_aeT (B : Rn g D M T A cs ss) {x y : Value} {o : Int} (hd : decode D.cd pc = .ok (.if_acmp .eq o, 3)) (hx : x.isRef = true) (hy : y.isRef = true) (h : x = y) (ho : 0 ≤ (pc : Int) + o) (hp : ((pc : Int) + o).toNat = pc') (K : Fn g D M Q (T.setTop (mkF M.m pc' Ls S))) : Fn g D M Q (T.setTop (mkF M.m pc Ls (y :: x :: S))) :=
  K.go fun t => Jvm.Free.XT.acmpYes (g := mkF M.m pc Ls (y :: x :: S)) B.here B.hx rfl (pc0 := pc) (pc' := pc') rfl (hb B.cd hd) rfl hx hy (Jvm.Free.XT.aa_eq_t h) ho hp
theorem b_aeF (B : Rn g D M T A cs ss) {x y : Value} {o : Int} (hd : decode D.cd pc = .ok (.if_acmp .eq o, 3)) (hp : pc + 3 = pc') (hx : x.isRef = true) (hy : y.isRef = true) (h : ¬ x = y) (K : Fn g D M Q (T.setTop (mkF M.m pc' Ls S))) : Fn g D M Q (T.setTop (mkF M.m pc Ls (y :: x :: S))) := by
  subst hp
  exact K.go fun t => Jvm.Free.XT.acmpNo (g := mkF M.m pc Ls (y :: x :: S)) B.here B.hx rfl (hb B.cd hd) rfl hx hy (Jvm.Free.XT.aa_eq_f h)
theorem b_anT (B : Rn g D M T A cs ss) {x y : Value} {o : Int} (hd : decode D.cd pc = .ok (.if_acmp .ne o, 3)) (hx : x.isRef = true) (hy : y.isRef = true) (h : ¬ x = y) (ho : 0 ≤ (pc : Int) + o) (hp : ((pc : Int) + o).toNat = pc') (K : Fn g D M Q (T.setTop (mkF M.m pc' Ls S))) : Fn g D M Q (T.setTop (mkF M.m pc Ls (y :: x :: S))) :=
  K.go fun t => Jvm.Free.XT.acmpYes (g := mkF M.m pc Ls (y :: x :: S)) B.here B.hx rfl (pc0 := pc) (pc' := pc') rfl (hb B.cd hd) rfl hx hy (Jvm.Free.XT.aa_ne_t h) ho hp
theorem b_anF (B : Rn g D M T A cs ss) {x y : Value} {o : Int} (hd : decode D.cd pc = .ok (.if_acmp .ne o, 3)) (hp : pc + 3 = pc') (hx : x.isRef = true) (hy : y.isRef = true) (h : x = y) (K : Fn g D M Q (T.setTop (mkF M.m pc' Ls S))) : Fn g D M Q (T.setTop (mkF M.m pc Ls (y :: x :: S))) := by
  subst hp
  exact K.go fun t => Jvm.Free.XT.acmpNo (g := mkF M.m pc Ls (y :: x :: S)) B.here B.hx rfl (hb B.cd hd) rfl hx hy (Jvm.Free.XT.aa_ne_f h)
theorem b_goto (B : Rn g D M T A cs ss) {o : Int} (hd : decode D.cd pc = .ok (.goto o, 3)) (ho : 0 ≤ (pc : Int) + o) (hp : ((pc : Int) + o).toNat = pc') (K : Fn g D M Q (T.setTop (mkF M.m pc' Ls S))) : Fn g D M Q (T.setTop (mkF M.m pc Ls S)) :=
  K.go fun t => XS.goto (g := mkF M.m pc Ls S) B.here B.hx rfl (pc0 := pc) (pc' := pc') rfl (hb B.cd hd) ho hp
/-! OWN WALKING KIT, part 4: calls, constants, casts. -/
theorem r_initO (B : RH g D M T H Lt cs ss) {ix W : Nat} {a : Addr} (hd : decode D.cd pc = .ok (.invokespecial ix, 3)) (hp : pc + 3 = pc') (w1 : (Jvm.Cond.methodLink D.y.cls ix Lib.objectInit).before g.a0 g.Z = true) (w2 : (Jvm.Cond.instanceMethod Lib.objectInit).before g.a0 g.Z = true)
    (w3 : (Jvm.Cond.code Lib.objectInit ⟨#[0xb1]⟩ 1 none).before g.a0 g.Z = true) (hsz : Ls.size = D.mx) (hf : 1 ≤ D.rm.frames) (hW : (S.map fun v => v.category).sum = W) (hl : W + 12 ≤ D.rm.locals)
    (K : ∀ T', RH g D M T' H Lt cs ss → Fn g D M Q (T'.setTop (mkF M.m pc' Ls S))) : Fn g D M Q (T.setTop (mkF M.m pc Ls (.ref a :: S))) := by
  subst hp
  obtain ⟨st, vm0, k0, locs, X, hS, hk, hZ, hown, hC, N, E0, hH⟩ := B
  obtain ⟨T', X', e', stp⟩ := initO (Z := g.Z) (a0 := g.a0) X st.2.1 hZ hown w1 w2 w3 rfl (g := mkF M.m pc Ls (.ref a :: S)) rfl (hsz.trans st.2.2.2.1.symm) rfl (hb st.2.2.1 hd) hf (W := W) (by show 2 * 0 + _ ≤ _; rw [hW]; omega) hl
  exact (K T' ⟨st, vm0, k0, locs, X', hS, by rw [e']; exact hk, hZ, hown, by rw [e']; exact hC, N, by rw [e']; exact E0, by rw [e']; exact hH⟩).go stp
theorem Ct.back {R : Room} {p : Program} {e : Env} {below : List Frame} {s : State} {args : Array Value} {vm0 : Vm} {h : Heap} {len Wt : Nat} (K : Ct g D' as H Lt Q') (W : GW g) (hZ : g.Z.Warmed39 vm0) (wc : (Jvm.Cond.code D'.y D'.cd D'.mx D'.rt).before g.a0 g.Z = true) (wz : (Jvm.Cond.initialized D'.y.cls).before g.a0 g.Z = true)
    (hf : D'.rm.frames + 1 ≤ R.frames) (hl : Wt + (D'.mx + 11) + D'.rm.locals ≤ R.locals) (HC : CHv g.Z g.EL g.Z.vm h) (E0 : Ext g.Z.heap h) (P : Hp g g.Z.vm h H Lt) :
    Back g.l R p e below (s.setVm vm0) args D'.y len Wt (fun A a => a = as ∧ A.U.heap = h ∧ A.cells + D'.rm.cells ≤ R.cells ∧ A.slots + D'.rm.slots ≤ R.slots)
      (fun A _ v B => ∃ L, Q' v g.Z.vm B.U.heap ∧ Fr g.Z.heap.size L ∧ Ext g.Z.heap B.U.heap ∧ B.locs = A.locs ++ L ∧ B.cells = A.cells + D'.rm.cells ∧ B.slots = A.slots + D'.rm.slots ∧ CHr g.Z g.EL g.Z.vm h g.Z.vm B.U.heap) :=
  Back.of_free (bytes := D'.cd) (maxL := D'.mx) (ret := D'.rt) (E := fun _ first o t L k n => k = D'.rm.cells ∧ n = D'.rm.slots ∧ (∃ v, o = .returned v ∧ Q' v g.Z.vm t.heap) ∧ Fr g.Z.heap.size L ∧ Ext g.Z.heap t.heap ∧ CHr g.Z g.EL g.Z.vm first.heap g.Z.vm t.heap) K hf hl
    (fun m meth c A a Y hp => have hU : g.Z.Warmed39 A.U.vm := wtrans (s := s.setVm vm0) hZ Y.warmed
      ⟨by show (Jvm.Cond.and _ .tt).before a A.U = true; rw [Cond.before_and, mv hU wc]; rfl, mv hU wc, mv hU wz, hp.2.2.1, hp.2.2.2⟩)
    (fun m meth c A a g' mk Y hp => by
      have e1 : (A.U.calling g' mk a).heap = h := hp.2.1
      refine ⟨hp.1, wtrans (s := s.setVm vm0) hZ Y.warmed, ?_, ?_, ?_⟩
      · rw [e1]; exact HC
      · rw [e1]; exact E0
      · rw [e1]; exact P)
    (fun _ _ _ _ _ _ _ _ _ => trivial)
    (fun _ _ _ _ ⟨v, L, h1, h2, h3, h4, h5, h6⟩ => ⟨L, _, _, h6, rfl, rfl, ⟨v, h1, h2⟩, h3, h5, h4⟩)
    (fun m meth c A a g' mk v t L k n Y hp _ _ ⟨e1, e2, ⟨v', e3, e4⟩, e5, e6, e7⟩ => by
      cases e3; subst e1 e2
      refine ⟨L, e4, e5, e6, rfl, rfl, rfl, ?_⟩
      rw [← hp.2.1]; exact e7)
theorem Rn.after {vm0 : Vm} {locs : List Loc} {B : Pt} {L : List Loc} {v : Option Value} {rc rs : Nat} (st : GW g ∧ M.p.tables.exec = Jvm.exec ∧ M.c.code = D.cd ∧ M.c.maxLocals = D.mx ∧ M.meth.sig.returnType = D.rt ∧ M.meth.locks = false ∧ M.meth.name = D.y.name)
    (hS : vm0 = M.s.vm) (hZ : g.Z.Warmed39 vm0) (hown : vm0.findClass D.y.cls = some M.m.cls) (hC : CHr g.Z g.EL g.Z.vm M.s.heap g.Z.vm T.heap) (N : Fr g.Z.heap.size locs)
    (X' : Stand M.p g.l M.e D.rm (M.s.setVm vm0) M.m M.args M.below M.meth M.c B.U B.locs B.cells B.slots)
    (hQ : Q' v g.Z.vm B.U.heap) (hL : Fr g.Z.heap.size L) (hE : Ext g.Z.heap B.U.heap) (e1 : B.locs = locs ++ L) (e2 : B.cells = cs + rc) (e3 : B.slots = ss + rs) (hC' : CHr g.Z g.EL g.Z.vm T.heap g.Z.vm B.U.heap) : Rn g D M B.U (Q' v) (cs + rc) (ss + rs) := by
  rw [e1, e2, e3] at X'
  exact ⟨st, vm0, 0, _, X', hS, Nat.zero_le _, hZ, hown, hC.trans hC', N.app hL, hE, hQ⟩
theorem r_static (B : RH g D M T H Lt cs ss) {ix W cs' ss' : Nat} {argsL rest : List Value} {ps : List FieldType} {r : Option FieldType} (hd : decode D.cd pc = .ok (.invokestatic ix, 3)) (hp : pc + 3 = pc')
    (w1 : (Jvm.Cond.methodLink D.y.cls ix D'.y).before g.a0 g.Z = true) (w2 : (Jvm.Cond.static D'.y).before g.a0 g.Z = true) (w3 : (Jvm.Cond.initialized D'.y.cls).before g.a0 g.Z = true) (w4 : (Jvm.Cond.code D'.y D'.cd D'.mx D'.rt).before g.a0 g.Z = true)
    (hy : D'.y.cls ≠ "java/lang/invoke/MethodHandle" ∧ D'.y.cls ≠ "java/lang/invoke/VarHandle") (C : Ct g D' as H Lt Q') (has : argsL.toArray = as) (pd : parseMethodDescriptor D'.y.desc = some ⟨ps, r⟩) (hlen : argsL.length = ps.length) (hst : S = argsL.reverse ++ rest)
    (hsz : Ls.size = D.mx) (hW : (rest.map fun v => v.category).sum = W) (hf : D'.rm.frames + 1 ≤ D.rm.frames) (hl : W + (D'.mx + 11) + D'.rm.locals ≤ D.rm.locals) (hc : cs + D'.rm.cells = cs') (hs : ss + D'.rm.slots = ss') (hc' : cs' ≤ D.rm.cells) (hs' : ss' ≤ D.rm.slots)
    (K : ∀ T' v, Rn g D M T' (Q' v) cs' ss' → Fn g D M Q (T'.setTop (mkF M.m pc' Ls (v.toList ++ rest)))) : Fn g D M Q (T.setTop (mkF M.m pc Ls S)) := by
  subst hp hc hs
  obtain ⟨st, vm0, k0, locs, X, hS, hk, hZ, hown, hC, N, E0, hH⟩ := B
  obtain ⟨v, vm1, Bp, -, X', ⟨L, hQ, hL, hE, e1, e2, e3, hC'⟩, stp⟩ := Jvm.LawKit.callS X st.2.1 hown (mvT hZ w1) (mvT hZ w2) (mvT hZ w3) (mvT hZ w4) hy (Ct.back (p := M.p) (e := M.e) (below := M.below) (s := M.s) (args := M.args) (len := 3) (Wt := W) C st.1 hZ w4 w3 hf hl hC.1 E0 hH) (g := mkF M.m pc Ls S) rfl (hsz.trans st.2.2.2.1.symm) (argsL := argsL) (rest := rest) (lenOf pd hlen) hst (by show 2 * 0 + _ ≤ _; rw [hW]; omega) (hb st.2.2.1 hd) (fun _ _ => ⟨has, rfl, hc', hs'⟩)
  exact (K Bp.U v (Rn.after st hS hZ hown hC N X' hQ hL hE e1 e2 e3 hC')).go stp
theorem r_special (B : RH g D M T H Lt cs ss) {ix W cs' ss' : Nat} {a : Addr} {argsL rest : List Value} {ps : List FieldType} {r : Option FieldType} (hd : decode D.cd pc = .ok (.invokespecial ix, 3)) (hp : pc + 3 = pc') (hy1 : D'.y.name = "<init>") (hrt : D'.rt = none)
    (w1 : (Jvm.Cond.methodLink D.y.cls ix D'.y).before g.a0 g.Z = true) (w2 : (Jvm.Cond.instanceMethod D'.y).before g.a0 g.Z = true) (w3 : (Jvm.Cond.initialized D'.y.cls).before g.a0 g.Z = true) (w4 : (Jvm.Cond.code D'.y D'.cd D'.mx D'.rt).before g.a0 g.Z = true)
    (hy : D'.y.cls ≠ "java/lang/invoke/MethodHandle" ∧ D'.y.cls ≠ "java/lang/invoke/VarHandle") (C : Ct g D' as H Lt Q') (has : (.ref a :: argsL).toArray = as) (pd : parseMethodDescriptor D'.y.desc = some ⟨ps, r⟩) (hlen : argsL.length = ps.length) (hst : S = argsL.reverse ++ .ref a :: rest)
    (hsz : Ls.size = D.mx) (hW : (rest.map fun v => v.category).sum = W) (hf : D'.rm.frames + 1 ≤ D.rm.frames) (hl : W + (D'.mx + 11) + D'.rm.locals ≤ D.rm.locals) (hc : cs + D'.rm.cells = cs') (hs : ss + D'.rm.slots = ss') (hc' : cs' ≤ D.rm.cells) (hs' : ss' ≤ D.rm.slots)
    (K : ∀ T' v, Rn g D M T' (Q' v) cs' ss' → Fn g D M Q (T'.setTop (mkF M.m pc' Ls (v.toList ++ rest)))) : Fn g D M Q (T.setTop (mkF M.m pc Ls S)) := by
  subst hp hc hs
  obtain ⟨st, vm0, k0, locs, X, hS, hk, hZ, hown, hC, N, E0, hH⟩ := B
  obtain ⟨v, vm1, Bp, -, X', ⟨L, hQ, hL, hE, e1, e2, e3, hC'⟩, stp⟩ := X.specialBack st.2.1 hy1 hown (mvT hZ w1) (mvT hZ w2) (bytes := D'.cd) (maxL := D'.mx) (by rw [hrt] at w4; exact mvT hZ w4) hy (Ct.back (p := M.p) (e := M.e) (below := M.below) (s := M.s) (args := M.args) (len := 3) (Wt := W) C st.1 hZ w4 w3 hf hl hC.1 E0 hH) (g := mkF M.m pc Ls S) rfl (hsz.trans st.2.2.2.1.symm) (Steps.refl _) (a := a) (argsL := argsL) (rest := rest) (lenOf pd hlen) hst (by show 2 * 0 + _ ≤ _; rw [hW]; omega) (hb st.2.2.1 hd) (fun _ _ => ⟨has, rfl, hc', hs'⟩)
  exact (K Bp.U v (Rn.after st hS hZ hown hC N X' hQ hL hE e1 e2 e3 hC')).go fun t => stp.trans
theorem r_virtual (B : RH g D M T H Lt cs ss) {ix W cs' ss' : Nat} {y : MethodName} {C0 : String} {b : Addr} {argsL rest : List Value} {ps : List FieldType} {r : Option FieldType} (hd : decode D.cd pc = .ok (.invokevirtual ix, 3)) (hp : pc + 3 = pc')
    (w1 : (Jvm.Cond.methodLink D.y.cls ix y).before g.a0 g.Z = true) (wd : (Jvm.Cond.declares y).before g.a0 g.Z = true) (ws : (Jvm.Cond.selects C0 y D'.y).before g.a0 g.Z = true) (nf : ∀ vm0, g.Z.Warmed39 vm0 → NotFace (M.s.setVm vm0) y) (w2 : (Jvm.Cond.instanceMethod D'.y).before g.a0 g.Z = true) (w3 : (Jvm.Cond.initialized D'.y.cls).before g.a0 g.Z = true) (w4 : (Jvm.Cond.code D'.y D'.cd D'.mx D'.rt).before g.a0 g.Z = true)
    (hy : y.cls ≠ "java/lang/invoke/MethodHandle" ∧ y.cls ≠ "java/lang/invoke/VarHandle") (F : Al g H Lt fun h => Exa g.Z h b C0) (C : Ct g D' as H Lt Q') (has : (.ref b :: argsL).toArray = as) (pd : parseMethodDescriptor y.desc = some ⟨ps, r⟩) (hlen : argsL.length = ps.length) (hst : S = argsL.reverse ++ .ref b :: rest)
    (hsz : Ls.size = D.mx) (hW : (rest.map fun v => v.category).sum = W) (hf : D'.rm.frames + 1 ≤ D.rm.frames) (hl : W + (D'.mx + 11) + D'.rm.locals ≤ D.rm.locals) (hc : cs + D'.rm.cells = cs') (hs : ss + D'.rm.slots = ss') (hc' : cs' ≤ D.rm.cells) (hs' : ss' ≤ D.rm.slots)
    (K : ∀ T' v, Rn g D M T' (Q' v) cs' ss' → Fn g D M Q (T'.setTop (mkF M.m pc' Ls (v.toList ++ rest)))) : Fn g D M Q (T.setTop (mkF M.m pc Ls S)) := by
  subst hp hc hs
  obtain ⟨st, vm0, k0, locs, X, hS, hk, hZ, hown, hC, N, E0, hH⟩ := B
  obtain ⟨cB, kB, q1, q2, q3⟩ := isOf (s := M.s.setVm vm0) (T := T) hZ rfl (F _ _ E0 hH)
  obtain ⟨v, vm1, Bp, -, X', ⟨L, hQ, hL, hE, e1, e2, e3, hC'⟩, stp⟩ := X.virtualBack st.2.1 hown (mvT hZ w1) (mvT hZ wd) (nf vm0 hZ) (mvT hZ ws) (mvT hZ w2) hy (Ct.back (p := M.p) (e := M.e) (below := M.below) (s := M.s) (args := M.args) (len := 3) (Wt := W) C st.1 hZ w4 w3 hf hl hC.1 E0 hH) q1 q3 (g := mkF M.m pc Ls S) rfl (hsz.trans st.2.2.2.1.symm) (Steps.refl _) (argsL := argsL) (rest := rest) (lenOf pd hlen) hst (by show 2 * 0 + _ ≤ _; rw [hW]; omega) (hb st.2.2.1 hd) (fun _ _ => ⟨has, rfl, hc', hs'⟩)
  exact (K Bp.U v (Rn.after st hS hZ hown hC N X' hQ hL hE e1 e2 e3 hC')).go fun t => stp.trans
theorem r_iface (B : RH g D M T H Lt cs ss) {ix cnt W cs' ss' : Nat} {y : MethodName} {C0 : String} {b : Addr} {argsL rest : List Value} {ps : List FieldType} {r : Option FieldType} (hd : decode D.cd pc = .ok (.invokeinterface ix cnt, 5)) (hp : pc + 5 = pc')
    (w1 : (Jvm.Cond.methodLink D.y.cls ix y).before g.a0 g.Z = true) (wd : (Jvm.Cond.declares y).before g.a0 g.Z = true) (wf : (Jvm.Cond.interfaceMethod y.cls y.cls y.name y.desc).before g.a0 g.Z = true) (hfa : ((Jvm.Cond.interfaceMethod y.cls y.cls y.name y.desc).onTables && (Jvm.Cond.interfaceMethod y.cls y.cls y.name y.desc).keepsFace) = true) (ws : (Jvm.Cond.selects C0 y D'.y).before g.a0 g.Z = true) (w2 : (Jvm.Cond.instanceMethod D'.y).before g.a0 g.Z = true)
    (wp : (Jvm.Cond.publicMethod D'.y).before g.a0 g.Z = true) (wu : (Jvm.Cond.unhidden C0 y.name y.desc).before g.a0 g.Z = true) (wk : (Jvm.Cond.castable C0 y.cls).before g.a0 g.Z = true)
    (w3 : (Jvm.Cond.initialized D'.y.cls).before g.a0 g.Z = true) (w4 : (Jvm.Cond.code D'.y D'.cd D'.mx D'.rt).before g.a0 g.Z = true)
    (hy : y.cls ≠ "java/lang/invoke/MethodHandle" ∧ y.cls ≠ "java/lang/invoke/VarHandle") (F : Al g H Lt fun h => Exa g.Z h b C0) (C : Ct g D' as H Lt Q') (has : (.ref b :: argsL).toArray = as) (pd : parseMethodDescriptor y.desc = some ⟨ps, r⟩) (hlen : argsL.length = ps.length) (hst : S = argsL.reverse ++ .ref b :: rest)
    (hsz : Ls.size = D.mx) (hW : (rest.map fun v => v.category).sum = W) (hf : D'.rm.frames + 1 ≤ D.rm.frames) (hl : W + (D'.mx + 11) + D'.rm.locals ≤ D.rm.locals) (hc : cs + D'.rm.cells = cs') (hs : ss + D'.rm.slots = ss') (hc' : cs' ≤ D.rm.cells) (hs' : ss' ≤ D.rm.slots)
    (K : ∀ T' v, Rn g D M T' (Q' v) cs' ss' → Fn g D M Q (T'.setTop (mkF M.m pc' Ls (v.toList ++ rest)))) : Fn g D M Q (T.setTop (mkF M.m pc Ls S)) := by
  subst hp hc hs
  obtain ⟨st, vm0, k0, locs, X, hS, hk, hZ, hown, hC, N, E0, hH⟩ := B
  obtain ⟨cB, kB, q1, q2, q3⟩ := isOf (s := M.s.setVm vm0) (T := T) hZ rfl (F _ _ E0 hH)
  obtain ⟨v, vm1, Bp, -, X', ⟨L, hQ, hL, hE, e1, e2, e3, hC'⟩, stp⟩ := X.interfaceBack st.2.1 hown (mvT hZ w1) (mvT hZ wd) (mvT hZ wf hfa) (mvT hZ ws) (mvT hZ w2) (mvT hZ wp) (mvT hZ wu) (mvT hZ wk) hy (Ct.back (p := M.p) (e := M.e) (below := M.below) (s := M.s) (args := M.args) (len := 5) (Wt := W) C st.1 hZ w4 w3 hf hl hC.1 E0 hH) q1 q2 q3 (g := mkF M.m pc Ls S) rfl (hsz.trans st.2.2.2.1.symm) (Steps.refl _) (argsL := argsL) (rest := rest) (lenOf pd hlen) hst (by show 2 * 0 + _ ≤ _; rw [hW]; omega) (hb st.2.2.1 hd) (fun _ _ => ⟨has, rfl, hc', hs'⟩)
  exact (K Bp.U v (Rn.after st hS hZ hown hC N X' hQ hL hE e1 e2 e3 hC')).go fun t => stp.trans
/-! constants -/
theorem ary_of {Z : State} {h : Heap} {b : Addr} {k : ClassId} {z : Int32} {vs : List Value} {dv : Value} (A : Arv Z h b k .byte z vs dv) (hl : z.toNatClampNeg = vs.length) : Ary Z h b .byte "" vs := by
  obtain ⟨c, r1, r2, r3, r4, r5, r6⟩ := A
  have hs : c.slots.size = vs.length := r3.trans hl
  refine ⟨c, r1, ?_, ?_, fun v hv => ?_, nofun, fun q => absurd rfl q⟩
  · apply Array.ext_getElem?
    intro i
    by_cases hi : i < c.slots.size
    · rw [r5 i hi]
      have : i < vs.length := hs ▸ hi
      simp [this]
    · rw [Array.getElem?_eq_none (by omega), List.getElem?_toArray, List.getElem?_eq_none (by omega)]
  · have := (back32 r4).2
    omega
  · obtain ⟨i, hi, rfl⟩ := List.getElem_of_mem hv
    have := r6 i (by omega)
    simpa [hi] using this
theorem r_ldcI (B : RH g D M T H Lt cs ss) {ix : Nat} {v : Int32} (hd : decode D.cd pc = .ok (.ldc ix, 2)) (hp : pc + 2 = pc') (w : (Jvm.Cond.constant D.y.cls ix v).before g.a0 g.Z = true) (K : Fn g D M Q (T.setTop (mkF M.m pc' Ls (.int v :: S)))) : Fn g D M Q (T.setTop (mkF M.m pc Ls S)) := by
  subst hp
  obtain ⟨st, vm0, k0, locs, X, hS, hk, hZ, hown, hC, N, E0, hH⟩ := B
  exact K.go fun t => X.ldcI (g := mkF M.m pc Ls S) st.2.1 hown (mvT hZ w) rfl (hb st.2.2.1 hd)
theorem r_ldcwI (B : RH g D M T H Lt cs ss) {ix : Nat} {v : Int32} (hd : decode D.cd pc = .ok (.ldc_w ix, 3)) (hp : pc + 3 = pc') (w : (Jvm.Cond.constant D.y.cls ix v).before g.a0 g.Z = true) (K : Fn g D M Q (T.setTop (mkF M.m pc' Ls (.int v :: S)))) : Fn g D M Q (T.setTop (mkF M.m pc Ls S)) := by
  subst hp
  obtain ⟨st, vm0, k0, locs, X, hS, hk, hZ, hown, hC, N, E0, hH⟩ := B
  exact K.go fun t => X.ldcWI (g := mkF M.m pc Ls S) st.2.1 hown (mvT hZ w) rfl (hb st.2.2.1 hd)
theorem r_ldcJ (B : RH g D M T H Lt cs ss) {ix : Nat} {v : Int64} (hd : decode D.cd pc = .ok (.ldc2_w ix, 3)) (hp : pc + 3 = pc') (w : (Jvm.Cond.constantLong D.y.cls ix v).before g.a0 g.Z = true) (K : Fn g D M Q (T.setTop (mkF M.m pc' Ls (.long v :: S)))) : Fn g D M Q (T.setTop (mkF M.m pc Ls S)) := by
  subst hp
  obtain ⟨st, vm0, k0, locs, X, hS, hk, hZ, hown, hC, N, E0, hH⟩ := B
  exact K.go fun t => X.ldc2J (g := mkF M.m pc Ls S) st.2.1 hown (mvT hZ w) rfl (hb st.2.2.1 hd)
/-! casts -/
theorem r_cast (B : RH g D M T H Lt cs ss) {ix : Nat} {C : String} {a : Addr} (hd : decode D.cd pc = .ok (.checkcast ix, 3)) (hp : pc + 3 = pc') (w : (Jvm.Cond.classLink D.y.cls ix C).before g.a0 g.Z = true) (F : Al g H Lt fun h => Ins g.Z h a C true)
    (K : ∀ T', RH g D M T' H Lt cs ss → Fn g D M Q (T'.setTop (mkF M.m pc' Ls (.ref a :: S)))) : Fn g D M Q (T.setTop (mkF M.m pc Ls (.ref a :: S))) := by
  subst hp
  obtain ⟨st, vm0, k0, locs, X, hS, hk, hZ, hown, hC, N, E0, hH⟩ := B
  obtain ⟨T', X', e', stp⟩ := castY (Z := g.Z) (a0 := g.a0) X st.2.1 hZ hown w rfl (F _ _ E0 hH) (g := mkF M.m pc Ls (.ref a :: S)) rfl rfl (hb st.2.2.1 hd)
  exact (K T' ⟨st, vm0, k0, locs, X', hS, by rw [e']; exact hk, hZ, hown, by rw [e']; exact hC, N, by rw [e']; exact E0, by rw [e']; exact hH⟩).go stp
theorem r_inst1 (B : RH g D M T H Lt cs ss) {ix : Nat} {C : String} {a : Addr} (hd : decode D.cd pc = .ok (.instanceof ix, 3)) (hp : pc + 3 = pc') (w : (Jvm.Cond.classLink D.y.cls ix C).before g.a0 g.Z = true) (F : Al g H Lt fun h => Ins g.Z h a C true)
    (K : ∀ T', RH g D M T' H Lt cs ss → Fn g D M Q (T'.setTop (mkF M.m pc' Ls (.int 1 :: S)))) : Fn g D M Q (T.setTop (mkF M.m pc Ls (.ref a :: S))) := by
  subst hp
  obtain ⟨st, vm0, k0, locs, X, hS, hk, hZ, hown, hC, N, E0, hH⟩ := B
  obtain ⟨T', X', e', stp⟩ := instY (Z := g.Z) (a0 := g.a0) X st.2.1 hZ hown w rfl (F _ _ E0 hH) (g := mkF M.m pc Ls (.ref a :: S)) rfl rfl (hb st.2.2.1 hd)
  exact (K T' ⟨st, vm0, k0, locs, X', hS, by rw [e']; exact hk, hZ, hown, by rw [e']; exact hC, N, by rw [e']; exact E0, by rw [e']; exact hH⟩).go stp
theorem r_inst0 (B : RH g D M T H Lt cs ss) {ix : Nat} {C C1 : String} {a : Addr} (hd : decode D.cd pc = .ok (.instanceof ix, 3)) (hp : pc + 3 = pc') (w : (Jvm.Cond.classLink D.y.cls ix C).before g.a0 g.Z = true) (F : Al g H Lt fun h => Ins g.Z h a C false) (F1 : Al g H Lt fun h => Exa g.Z h a C1)
    (K : ∀ T', RH g D M T' H Lt cs ss → Fn g D M Q (T'.setTop (mkF M.m pc' Ls (.int 0 :: S)))) : Fn g D M Q (T.setTop (mkF M.m pc Ls (.ref a :: S))) := by
  subst hp
  obtain ⟨st, vm0, k0, locs, X, hS, hk, hZ, hown, hC, N, E0, hH⟩ := B
  obtain ⟨cell, cT, h1, h2, h3⟩ := F _ _ E0 hH
  obtain ⟨cell', k, e1, -, e3, e4, -⟩ := F1 _ _ E0 hH
  cases h1.symm.trans e1
  obtain ⟨k', q, -⟩ := hZ.alike.2.2 _ _ e3
  obtain ⟨vm', X', stp⟩ := Jvm.Sym.instanceofNoAt X st.2.1 hown (mvT hZ w) h1 e4 q (by show vm0.findClass C = some cT; rw [hZ.alike.findClass]; exact h2) (by show vm0.assignable cell.cls cT = false; rw [hZ.alike.assignable]; simpa [e4] using h3) (g := mkF M.m pc Ls (.ref a :: S)) rfl rfl (hb st.2.2.1 hd)
  exact (K _ ⟨st, vm0, k0, locs, X', hS, hk, hZ, hown, hC, N, E0, hH⟩).go stp
theorem r_castN (B : RH g D M T H Lt cs ss) {ix : Nat} (hd : decode D.cd pc = .ok (.checkcast ix, 3)) (hp : pc + 3 = pc') (K : Fn g D M Q (T.setTop (mkF M.m pc' Ls (.null :: S)))) : Fn g D M Q (T.setTop (mkF M.m pc Ls (.null :: S))) := by
  subst hp
  obtain ⟨st, vm0, k0, locs, X, hS, hk, hZ, hown, hC, N, E0, hH⟩ := B
  exact K.go fun t => X.checkcastNull st.2.1 (g := mkF M.m pc Ls (.null :: S)) rfl rfl (hb st.2.2.1 hd) t
theorem r_instN (B : RH g D M T H Lt cs ss) {ix : Nat} (hd : decode D.cd pc = .ok (.instanceof ix, 3)) (hp : pc + 3 = pc') (K : Fn g D M Q (T.setTop (mkF M.m pc' Ls (.int 0 :: S)))) : Fn g D M Q (T.setTop (mkF M.m pc Ls (.null :: S))) := by
  subst hp
  obtain ⟨st, vm0, k0, locs, X, hS, hk, hZ, hown, hC, N, E0, hH⟩ := B
  exact K.go fun t => X.instanceofNull st.2.1 (g := mkF M.m pc Ls (.null :: S)) rfl rfl (hb st.2.2.1 hd) t
end Rules
theorem nar_ref {t : FieldType} {v : Value} (h : v.isRef = true) (ht : t.isReference = true) : narrow t v = v := by cases t <;> first | (cases v <;> first | rfl | (cases h; done)) | (cases ht; done)
theorem fit_ref {t : FieldType} {v : Value} (h : v.isRef = true) (ht : t.isReference = true) : fits t v = true := by cases t <;> first | (cases v <;> first | rfl | (cases h; done)) | (cases ht; done)
theorem cat_ref {v : Value} (h : v.isRef = true) : v.category = 1 := Jvm.Free.XT.cat1 h
theorem ins_no {Z : State} {h : Heap} {a : Addr} {a0 : Array Value} {C S K : String} {n : Nat} (E : Exa Z h a C) (w : (Jvm.Cond.superclass C S).before a0 Z = true) (w0 : (Jvm.Cond.noSuperclass S).before a0 Z = true) (wi : (Jvm.Cond.instantiable K n).before a0 Z = true) (h1 : C ≠ K) (h2 : S ≠ K) : Ins Z h a K false := by
  obtain ⟨cell, k, e1, e2, e3, e4, -⟩ := E
  obtain ⟨t, kt, t1, t2, t3, t4, -⟩ := Cond.instantiable_spec wi
  obtain ⟨p, kc, kp, q1, q2, q3, q4, q5, q6, q7⟩ := Cond.superclass_spec e2 w
  obtain ⟨p', kp', r1, r2, r3, r4, r5⟩ := Cond.noSuperclass_spec w0
  cases q1.symm.trans r1
  have n1 := ids_ne e2 t1 h1
  have n2 := ids_ne r1 t1 h2
  have hi : kt.isInterface = false := (Bool.or_eq_false_iff.mp t4).1
  have hs0 : ∀ fuel, Z.vm.isSubclassAux fuel p t = false := fun fuel => by
    cases fuel with
    | zero => rfl
    | succ f => simp [Vm.isSubclassAux, n2, r2, r3]
  have hs : ∀ fuel, Z.vm.isSubclassAux fuel cell.cls t = false := fun fuel => by
    cases fuel with
    | zero => rfl
    | succ f => simp [Vm.isSubclassAux, n1, q2, q4, hs0]
  have hA : Z.vm.assignable cell.cls t = false := by
    show Z.vm.assignableAux (255 + 1) cell.cls t = false
    simp [Vm.assignableAux, n1, q2, t2, q5, t3, hi, Vm.isSubclass, hs]
  exact ⟨cell, t, e1, t1, by simp [hA]⟩
theorem tl1 {α : Type} {a : α} {l : List α} : ∀ y ∈ l, y ∈ a :: l := fun _ h => List.mem_cons_of_mem _ h
theorem tl2 {α : Type} {a b : α} {l : List α} : ∀ y ∈ l, y ∈ a :: b :: l := fun _ h => List.mem_cons_of_mem _ (tl1 _ h)
theorem tl3 {α : Type} {a b c : α} {l : List α} : ∀ y ∈ l, y ∈ a :: b :: c :: l := fun _ h => List.mem_cons_of_mem _ (tl2 _ h)
theorem tl4 {α : Type} {a b c d : α} {l : List α} : ∀ y ∈ l, y ∈ a :: b :: c :: d :: l := fun _ h => List.mem_cons_of_mem _ (tl3 _ h)
theorem tlm {α : Type} {a b : α} {l : List α} : ∀ y ∈ a :: l, y ∈ a :: b :: l := fun _ h => (List.mem_cons.mp h).elim (fun e => e ▸ List.mem_cons_self ..) fun h => List.mem_cons_of_mem _ (tl1 _ h)
theorem tlh {α : Type} {a : α} {l : List α} (m : a ∈ l) : ∀ y ∈ a :: l, y ∈ l := fun _ h => (List.mem_cons.mp h).elim (fun e => e ▸ m) id
theorem Hp.nil {g : GG} {vm : Vm} {h : Heap} : Hp g vm h [] [] := ⟨nofun, List.nodup_nil, nofun, nofun⟩
/-! OWN WALKING KIT, part 5: doubles. -/
section Doubles
variable {g : GG} {D D' : DD} {M : MM} {T : State} {A A' : Vm → Heap → Prop} {cs ss : Nat} {Q Q' : Option Value → Vm → Heap → Prop} {pc pc' : Nat} {Ls Ls' : Array Slot} {S : List Value} {H H' : List Ent} {Lt Lt' : List SE}
theorem p_dload (B : Rn g D M T A cs ss) {k : Nat} {v : UInt64} (hd : decode D.cd pc = .ok (.dload k, 2)) (hp : pc + 2 = pc') (hl : Ls[k]? = some (.val (.double v))) (K : Fn g D M Q (T.setTop (mkF M.m pc' Ls (.double v :: S)))) : Fn g D M Q (T.setTop (mkF M.m pc Ls S)) := by
  subst hp
  exact K.go fun t => Jvm.Free.XS.dload (g := mkF M.m pc Ls S) B.here B.hx rfl (hb B.cd hd) hl
theorem p_dloadN (B : Rn g D M T A cs ss) {k : Fin 4} {v : UInt64} (hd : decode D.cd pc = .ok (.dload_n k, 1)) (hp : pc + 1 = pc') (hl : Ls[k.val]? = some (.val (.double v))) (K : Fn g D M Q (T.setTop (mkF M.m pc' Ls (.double v :: S)))) : Fn g D M Q (T.setTop (mkF M.m pc Ls S)) := by
  subst hp
  exact K.go fun t => Jvm.Free.XS.dloadN (g := mkF M.m pc Ls S) B.here B.hx rfl (hb B.cd hd) hl
theorem p_dstore (B : Rn g D M T A cs ss) {k : Nat} {v : UInt64} (hd : decode D.cd pc = .ok (.dstore k, 2)) (hp : pc + 2 = pc') (hl : storeLocals Ls k (.double v) = some Ls') (K : Fn g D M Q (T.setTop (mkF M.m pc' Ls' S))) : Fn g D M Q (T.setTop (mkF M.m pc Ls (.double v :: S))) := by
  subst hp
  exact K.go fun t => Jvm.Free.XS.dstore (g := mkF M.m pc Ls (.double v :: S)) B.here B.hx rfl (hb B.cd hd) rfl hl
theorem p_dstoreN (B : Rn g D M T A cs ss) {k : Fin 4} {v : UInt64} (hd : decode D.cd pc = .ok (.dstore_n k, 1)) (hp : pc + 1 = pc') (hl : storeLocals Ls k.val (.double v) = some Ls') (K : Fn g D M Q (T.setTop (mkF M.m pc' Ls' S))) : Fn g D M Q (T.setTop (mkF M.m pc Ls (.double v :: S))) := by
  subst hp
  exact K.go fun t => Jvm.Free.XS.dstoreN (g := mkF M.m pc Ls (.double v :: S)) B.here B.hx rfl (hb B.cd hd) rfl hl
theorem p_dconst0 (B : Rn g D M T A cs ss) {v : UInt64} (hd : decode D.cd pc = .ok (.dconst 0, 1)) (hp : pc + 1 = pc') (hv : FP.dconst0 = v) (K : Fn g D M Q (T.setTop (mkF M.m pc' Ls (.double v :: S)))) : Fn g D M Q (T.setTop (mkF M.m pc Ls S)) := by
  subst hp
  exact K.go fun t => Jvm.Free.XS.dconst0 (g := mkF M.m pc Ls S) B.here B.hx rfl (hb B.cd hd) hv
theorem p_dconst1 (B : Rn g D M T A cs ss) {v : UInt64} (hd : decode D.cd pc = .ok (.dconst 1, 1)) (hp : pc + 1 = pc') (hv : FP.dconst1 = v) (K : Fn g D M Q (T.setTop (mkF M.m pc' Ls (.double v :: S)))) : Fn g D M Q (T.setTop (mkF M.m pc Ls S)) := by
  subst hp
  exact K.go fun t => Jvm.Free.XS.dconst1 (g := mkF M.m pc Ls S) B.here B.hx rfl (hb B.cd hd) hv
theorem p_i2d (B : Rn g D M T A cs ss) {x : Int32} {v : UInt64} (hd : decode D.cd pc = .ok (.i2d, 1)) (hp : pc + 1 = pc') (hv : FP.i2d x = v) (K : Fn g D M Q (T.setTop (mkF M.m pc' Ls (.double v :: S)))) : Fn g D M Q (T.setTop (mkF M.m pc Ls (.int x :: S))) := by
  subst hp
  exact K.go fun t => Jvm.Free.XS.i2dS (g := mkF M.m pc Ls (.int x :: S)) B.here B.hx rfl (hb B.cd hd) rfl hv
theorem p_l2d (B : Rn g D M T A cs ss) {x : Int64} {v : UInt64} (hd : decode D.cd pc = .ok (.l2d, 1)) (hp : pc + 1 = pc') (hv : FP.l2d x = v) (K : Fn g D M Q (T.setTop (mkF M.m pc' Ls (.double v :: S)))) : Fn g D M Q (T.setTop (mkF M.m pc Ls (.long x :: S))) := by
  subst hp
  exact K.go fun t => Jvm.Free.XS.l2dS (g := mkF M.m pc Ls (.long x :: S)) B.here B.hx rfl (hb B.cd hd) rfl hv
theorem p_ddiv (B : Rn g D M T A cs ss) {x y v : UInt64} (hd : decode D.cd pc = .ok (.ddiv, 1)) (hp : pc + 1 = pc') (hn : Jvm.Free.Fl.NoNaN64 (FP.ddiv x y)) (hv : FP.ddiv x y = v) (K : Fn g D M Q (T.setTop (mkF M.m pc' Ls (.double v :: S)))) : Fn g D M Q (T.setTop (mkF M.m pc Ls (.double y :: .double x :: S))) := by
  subst hp
  exact K.go fun t => Jvm.Free.XS.ddivS (g := mkF M.m pc Ls (.double y :: .double x :: S)) B.here B.hx rfl (hb B.cd hd) rfl hn hv
theorem p_dadd (B : Rn g D M T A cs ss) {x y v : UInt64} (hd : decode D.cd pc = .ok (.dadd, 1)) (hp : pc + 1 = pc') (hn : Jvm.Free.Fl.NoNaN64 (FP.dadd x y)) (hv : FP.dadd x y = v) (K : Fn g D M Q (T.setTop (mkF M.m pc' Ls (.double v :: S)))) : Fn g D M Q (T.setTop (mkF M.m pc Ls (.double y :: .double x :: S))) := by
  subst hp
  exact K.go fun t => Jvm.Free.XS.daddS (g := mkF M.m pc Ls (.double y :: .double x :: S)) B.here B.hx rfl (hb B.cd hd) rfl hn hv
theorem p_dcmp (B : Rn g D M T A cs ss) {o : CmpOp} {x y : UInt64} {v : Int32} (hd : decode D.cd pc = .ok (.dcmp o, 1)) (hp : pc + 1 = pc') (hv : cmpValue (FP.dcmp x y) o = v) (K : Fn g D M Q (T.setTop (mkF M.m pc' Ls (.int v :: S)))) : Fn g D M Q (T.setTop (mkF M.m pc Ls (.double y :: .double x :: S))) := by
  subst hp
  exact K.go fun t => Jvm.Free.XS.dcmpS (g := mkF M.m pc Ls (.double y :: .double x :: S)) B.here B.hx rfl (hb B.cd hd) rfl hv
theorem r_ldcD (B : RH g D M T H Lt cs ss) {ix : Nat} {v : UInt64} (hd : decode D.cd pc = .ok (.ldc2_w ix, 3)) (hp : pc + 3 = pc') (w : (Jvm.Cond.constantDouble D.y.cls ix v).before g.a0 g.Z = true) (K : Fn g D M Q (T.setTop (mkF M.m pc' Ls (.double v :: S)))) : Fn g D M Q (T.setTop (mkF M.m pc Ls S)) := by
  subst hp
  obtain ⟨st, vm0, k0, locs, X, hS, hk, hZ, hown, hC, N, E0, hH⟩ := B
  exact K.go fun t => X.ldc2DoubleC st.2.1 hown (mvT hZ w) (g := mkF M.m pc Ls S) rfl (hb st.2.2.1 hd) t
theorem r_dastore (B : RH g D M T H Lt cs ss) {i : Nat} {a : Addr} {nm : String} {vs : List Value} {j : Int32} {x : UInt64} {k : Nat} (hd : decode D.cd pc = .ok (.dastore, 1)) (hp : pc + 1 = pc') (hi : H[i]? = some (a, .inr (.double, nm, vs))) (hj : ¬ j < 0) (hk : j.toNatClampNeg = k) (hl : k < vs.length)
    (e : H.set i (a, .inr (.double, nm, vs.set k (.double x))) = H') (K : ∀ T', RH g D M T' H' Lt cs ss → Fn g D M Q (T'.setTop (mkF M.m pc' Ls S))) : Fn g D M Q (T.setTop (mkF M.m pc Ls (.double x :: .int j :: .ref a :: S))) := by
  subst hp; subst hk
  exact r_aputW B hi rfl e (fun vm0 locs X hZ c r1 r2 => stD X B.hx hZ rfl r1 (by rw [r2]; exact inb hj rfl hl) (g := mkF M.m pc Ls (.double x :: .int j :: .ref a :: S)) rfl rfl (hb B.cd hd)) K
end Doubles

theorem W0 {g : GG} (W : GW g) : (Jvm.Cond.constant "com/example/postings/postings/search/VectorFrequenciesMeanPinLaw" (7 : Nat) (2147483647 : Int32)).before g.a0 g.Z = true := W.1 _ (List.mem_of_getElem? (i := 0) rfl)
theorem W1 {g : GG} (W : GW g) : (Jvm.Cond.methodLink "com/example/postings/postings/search/VectorFrequenciesMeanPinLaw" (14 : Nat) ({ cls := "com/example/postings/postings/search/VectorFrequenciesMeanPinLaw", name := "freq", desc := "(I)I" } : Jvm.MethodName)).before g.a0 g.Z = true := W.1 _ (List.mem_of_getElem? (i := 1) rfl)
theorem W2 {g : GG} (W : GW g) : (Jvm.Cond.static ({ cls := "com/example/postings/postings/search/VectorFrequenciesMeanPinLaw", name := "freq", desc := "(I)I" } : Jvm.MethodName)).before g.a0 g.Z = true := W.1 _ (List.mem_of_getElem? (i := 2) rfl)
theorem W3 {g : GG} (W : GW g) : (Jvm.Cond.initialized "com/example/postings/postings/search/VectorFrequenciesMeanPinLaw").before g.a0 g.Z = true := W.1 _ (List.mem_of_getElem? (i := 3) rfl)
theorem W4 {g : GG} (W : GW g) : (Jvm.Cond.code ({ cls := "com/example/postings/postings/search/VectorFrequenciesMeanPinLaw", name := "freq", desc := "(I)I" } : Jvm.MethodName) method_2_code (1 : Nat) (Option.some Jvm.ClassFile.FieldType.int)).before g.a0 g.Z = true := W.1 _ (List.mem_of_getElem? (i := 4) rfl)
theorem W5 {g : GG} (W : GW g) : (Jvm.Cond.methodLink "com/example/postings/postings/search/VectorFrequenciesMeanPinLaw" (8 : Nat) ({ cls := "java/lang/Math", name := "max", desc := "(II)I" } : Jvm.MethodName)).before g.a0 g.Z = true := W.1 _ (List.mem_of_getElem? (i := 5) rfl)
theorem W6 {g : GG} (W : GW g) : (Jvm.Cond.static ({ cls := "java/lang/Math", name := "max", desc := "(II)I" } : Jvm.MethodName)).before g.a0 g.Z = true := W.1 _ (List.mem_of_getElem? (i := 6) rfl)
theorem W7 {g : GG} (W : GW g) : (Jvm.Cond.initialized "java/lang/Math").before g.a0 g.Z = true := W.1 _ (List.mem_of_getElem? (i := 7) rfl)
theorem W8 {g : GG} (W : GW g) : (Jvm.Cond.code ({ cls := "java/lang/Math", name := "max", desc := "(II)I" } : Jvm.MethodName) jdk_29_method_65_code (2 : Nat) (Option.some Jvm.ClassFile.FieldType.int)).before g.a0 g.Z = true := W.1 _ (List.mem_of_getElem? (i := 8) rfl)
theorem W9 {g : GG} (W : GW g) : (Jvm.Cond.classLink "com/example/postings/postings/search/VectorFrequenciesMeanPinLaw" (20 : Nat) "com/example/postings/postings/search/VectorFrequencies").before g.a0 g.Z = true := W.1 _ (List.mem_of_getElem? (i := 9) rfl)
theorem W10 {g : GG} (W : GW g) : (Jvm.Cond.instantiable "com/example/postings/postings/search/VectorFrequencies" (3 : Nat)).before g.a0 g.Z = true := W.1 _ (List.mem_of_getElem? (i := 10) rfl)
theorem W11 {g : GG} (W : GW g) : (Jvm.Cond.initialized "com/example/postings/postings/search/VectorFrequencies").before g.a0 g.Z = true := W.1 _ (List.mem_of_getElem? (i := 11) rfl)
theorem W12 {g : GG} (W : GW g) : (Jvm.Cond.methodLink "com/example/postings/postings/search/VectorFrequenciesMeanPinLaw" (22 : Nat) ({ cls := "com/example/postings/postings/search/VectorFrequencies", name := "<init>", desc := "()V" } : Jvm.MethodName)).before g.a0 g.Z = true := W.1 _ (List.mem_of_getElem? (i := 12) rfl)
theorem W13 {g : GG} (W : GW g) : (Jvm.Cond.instanceMethod ({ cls := "com/example/postings/postings/search/VectorFrequencies", name := "<init>", desc := "()V" } : Jvm.MethodName)).before g.a0 g.Z = true := W.1 _ (List.mem_of_getElem? (i := 13) rfl)
theorem W14 {g : GG} (W : GW g) : (Jvm.Cond.code ({ cls := "com/example/postings/postings/search/VectorFrequencies", name := "<init>", desc := "()V" } : Jvm.MethodName) prog_56_method_1_code (1 : Nat) (Option.none : Option Jvm.ClassFile.FieldType)).before g.a0 g.Z = true := W.1 _ (List.mem_of_getElem? (i := 14) rfl)
theorem W15 {g : GG} (W : GW g) : (Jvm.Cond.methodLink "com/example/postings/postings/search/VectorFrequencies" (1 : Nat) ({ cls := "java/lang/Object", name := "<init>", desc := "()V" } : Jvm.MethodName)).before g.a0 g.Z = true := W.1 _ (List.mem_of_getElem? (i := 15) rfl)
theorem W16 {g : GG} (W : GW g) : (Jvm.Cond.instanceMethod ({ cls := "java/lang/Object", name := "<init>", desc := "()V" } : Jvm.MethodName)).before g.a0 g.Z = true := W.1 _ (List.mem_of_getElem? (i := 16) rfl)
theorem W17 {g : GG} (W : GW g) : (Jvm.Cond.code ({ cls := "java/lang/Object", name := "<init>", desc := "()V" } : Jvm.MethodName) object_method_1_code (1 : Nat) (Option.none : Option Jvm.ClassFile.FieldType)).before g.a0 g.Z = true := W.1 _ (List.mem_of_getElem? (i := 17) rfl)
theorem W18 {g : GG} (W : GW g) : (Jvm.Cond.methodLink "com/example/postings/postings/search/VectorFrequenciesMeanPinLaw" (27 : Nat) ({ cls := "com/example/postings/postings/search/VectorFrequencies", name := "mean", desc := "()D" } : Jvm.MethodName)).before g.a0 g.Z = true := W.1 _ (List.mem_of_getElem? (i := 18) rfl)
theorem W19 {g : GG} (W : GW g) : (Jvm.Cond.declares ({ cls := "com/example/postings/postings/search/VectorFrequencies", name := "mean", desc := "()D" } : Jvm.MethodName)).before g.a0 g.Z = true := W.1 _ (List.mem_of_getElem? (i := 19) rfl)
theorem W20 {g : GG} (W : GW g) : (Jvm.Cond.instanceMethod ({ cls := "com/example/postings/postings/search/VectorFrequencies", name := "mean", desc := "()D" } : Jvm.MethodName)).before g.a0 g.Z = true := W.1 _ (List.mem_of_getElem? (i := 20) rfl)
theorem W21 {g : GG} (W : GW g) : (Jvm.Cond.selects "com/example/postings/postings/search/VectorFrequencies" ({ cls := "com/example/postings/postings/search/VectorFrequencies", name := "mean", desc := "()D" } : Jvm.MethodName) ({ cls := "com/example/postings/postings/search/VectorFrequencies", name := "mean", desc := "()D" } : Jvm.MethodName)).before g.a0 g.Z = true := W.1 _ (List.mem_of_getElem? (i := 21) rfl)
theorem W22 {g : GG} (W : GW g) : (Jvm.Cond.code ({ cls := "com/example/postings/postings/search/VectorFrequencies", name := "mean", desc := "()D" } : Jvm.MethodName) prog_56_method_4_code (1 : Nat) (Option.some Jvm.ClassFile.FieldType.double)).before g.a0 g.Z = true := W.1 _ (List.mem_of_getElem? (i := 22) rfl)
theorem W23 {g : GG} (W : GW g) : (Jvm.Cond.fieldLink "com/example/postings/postings/search/VectorFrequencies" (23 : Nat) "com/example/postings/postings/search/VectorFrequencies" "distinctTerms" "I").before g.a0 g.Z = true := W.1 _ (List.mem_of_getElem? (i := 23) rfl)
theorem W24 {g : GG} (W : GW g) : (Jvm.Cond.lays "com/example/postings/postings/search/VectorFrequencies" "com/example/postings/postings/search/VectorFrequencies" "distinctTerms" "I").before g.a0 g.Z = true := W.1 _ (List.mem_of_getElem? (i := 24) rfl)
theorem W25 {g : GG} (W : GW g) : (Jvm.Cond.methodLink "com/example/postings/postings/search/VectorFrequenciesMeanPinLaw" (23 : Nat) ({ cls := "com/example/postings/postings/search/VectorFrequencies", name := "add", desc := "(I)V" } : Jvm.MethodName)).before g.a0 g.Z = true := W.1 _ (List.mem_of_getElem? (i := 25) rfl)
theorem W26 {g : GG} (W : GW g) : (Jvm.Cond.declares ({ cls := "com/example/postings/postings/search/VectorFrequencies", name := "add", desc := "(I)V" } : Jvm.MethodName)).before g.a0 g.Z = true := W.1 _ (List.mem_of_getElem? (i := 26) rfl)
theorem W27 {g : GG} (W : GW g) : (Jvm.Cond.instanceMethod ({ cls := "com/example/postings/postings/search/VectorFrequencies", name := "add", desc := "(I)V" } : Jvm.MethodName)).before g.a0 g.Z = true := W.1 _ (List.mem_of_getElem? (i := 27) rfl)
theorem W28 {g : GG} (W : GW g) : (Jvm.Cond.selects "com/example/postings/postings/search/VectorFrequencies" ({ cls := "com/example/postings/postings/search/VectorFrequencies", name := "add", desc := "(I)V" } : Jvm.MethodName) ({ cls := "com/example/postings/postings/search/VectorFrequencies", name := "add", desc := "(I)V" } : Jvm.MethodName)).before g.a0 g.Z = true := W.1 _ (List.mem_of_getElem? (i := 28) rfl)
theorem W29 {g : GG} (W : GW g) : (Jvm.Cond.code ({ cls := "com/example/postings/postings/search/VectorFrequencies", name := "add", desc := "(I)V" } : Jvm.MethodName) prog_56_method_2_code (2 : Nat) (Option.none : Option Jvm.ClassFile.FieldType)).before g.a0 g.Z = true := W.1 _ (List.mem_of_getElem? (i := 29) rfl)
theorem W30 {g : GG} (W : GW g) : (Jvm.Cond.fieldLink "com/example/postings/postings/search/VectorFrequencies" (7 : Nat) "com/example/postings/postings/search/VectorFrequencies" "largest" "I").before g.a0 g.Z = true := W.1 _ (List.mem_of_getElem? (i := 30) rfl)
theorem W31 {g : GG} (W : GW g) : (Jvm.Cond.lays "com/example/postings/postings/search/VectorFrequencies" "com/example/postings/postings/search/VectorFrequencies" "largest" "I").before g.a0 g.Z = true := W.1 _ (List.mem_of_getElem? (i := 31) rfl)
theorem W32 {g : GG} (W : GW g) : (Jvm.Cond.methodLink "com/example/postings/postings/search/VectorFrequencies" (13 : Nat) ({ cls := "java/lang/Math", name := "max", desc := "(II)I" } : Jvm.MethodName)).before g.a0 g.Z = true := W.1 _ (List.mem_of_getElem? (i := 32) rfl)
theorem W33 {g : GG} (W : GW g) : (Jvm.Cond.fieldLink "com/example/postings/postings/search/VectorFrequencies" (19 : Nat) "com/example/postings/postings/search/VectorFrequencies" "total" "J").before g.a0 g.Z = true := W.1 _ (List.mem_of_getElem? (i := 33) rfl)
theorem W34 {g : GG} (W : GW g) : (Jvm.Cond.lays "com/example/postings/postings/search/VectorFrequencies" "com/example/postings/postings/search/VectorFrequencies" "total" "J").before g.a0 g.Z = true := W.1 _ (List.mem_of_getElem? (i := 34) rfl)
theorem d1_0 : decode method_2_code 0 = .ok (.iconst 1, 1) := by decide +kernel
theorem d1_1 : decode method_2_code 1 = .ok (.iload_n 0, 1) := by decide +kernel
theorem d1_2 : decode method_2_code 2 = .ok (.ldc 7, 2) := by decide +kernel
theorem d1_4 : decode method_2_code 4 = .ok (.iand, 1) := by decide +kernel
theorem d1_5 : decode method_2_code 5 = .ok (.invokestatic 8, 3) := by decide +kernel
theorem d1_8 : decode method_2_code 8 = .ok (.ireturn, 1) := by decide +kernel
theorem d2_0 : decode jdk_29_method_65_code 0 = .ok (.iload_n 0, 1) := by decide +kernel
theorem d2_1 : decode jdk_29_method_65_code 1 = .ok (.iload_n 1, 1) := by decide +kernel
theorem d2_2 : decode jdk_29_method_65_code 2 = .ok (.if_icmp .lt 7, 3) := by decide +kernel
theorem d2_5 : decode jdk_29_method_65_code 5 = .ok (.iload_n 0, 1) := by decide +kernel
theorem d2_6 : decode jdk_29_method_65_code 6 = .ok (.goto 4, 3) := by decide +kernel
theorem d2_9 : decode jdk_29_method_65_code 9 = .ok (.iload_n 1, 1) := by decide +kernel
theorem d2_10 : decode jdk_29_method_65_code 10 = .ok (.ireturn, 1) := by decide +kernel
theorem d3_0 : decode prog_56_method_1_code 0 = .ok (.aload_n 0, 1) := by decide +kernel
theorem d3_1 : decode prog_56_method_1_code 1 = .ok (.invokespecial 1, 3) := by decide +kernel
theorem d3_4 : decode prog_56_method_1_code 4 = .ok (.return_, 1) := by decide +kernel
theorem d5_0 : decode prog_56_method_4_code 0 = .ok (.aload_n 0, 1) := by decide +kernel
theorem d5_1 : decode prog_56_method_4_code 1 = .ok (.getfield 23, 3) := by decide +kernel
theorem d5_4 : decode prog_56_method_4_code 4 = .ok (.ifCond .le 17, 3) := by decide +kernel
theorem d5_7 : decode prog_56_method_4_code 7 = .ok (.aload_n 0, 1) := by decide +kernel
theorem d5_8 : decode prog_56_method_4_code 8 = .ok (.getfield 19, 3) := by decide +kernel
theorem d5_11 : decode prog_56_method_4_code 11 = .ok (.l2d, 1) := by decide +kernel
theorem d5_12 : decode prog_56_method_4_code 12 = .ok (.aload_n 0, 1) := by decide +kernel
theorem d5_13 : decode prog_56_method_4_code 13 = .ok (.getfield 23, 3) := by decide +kernel
theorem d5_16 : decode prog_56_method_4_code 16 = .ok (.i2d, 1) := by decide +kernel
theorem d5_17 : decode prog_56_method_4_code 17 = .ok (.ddiv, 1) := by decide +kernel
theorem d5_18 : decode prog_56_method_4_code 18 = .ok (.goto 4, 3) := by decide +kernel
theorem d5_21 : decode prog_56_method_4_code 21 = .ok (.dconst 0, 1) := by decide +kernel
theorem d5_22 : decode prog_56_method_4_code 22 = .ok (.dreturn, 1) := by decide +kernel
theorem d6_0 : decode prog_56_method_2_code 0 = .ok (.aload_n 0, 1) := by decide +kernel
theorem d6_1 : decode prog_56_method_2_code 1 = .ok (.aload_n 0, 1) := by decide +kernel
theorem d6_2 : decode prog_56_method_2_code 2 = .ok (.getfield 7, 3) := by decide +kernel
theorem d6_5 : decode prog_56_method_2_code 5 = .ok (.iload_n 1, 1) := by decide +kernel
theorem d6_6 : decode prog_56_method_2_code 6 = .ok (.invokestatic 13, 3) := by decide +kernel
theorem d6_9 : decode prog_56_method_2_code 9 = .ok (.putfield 7, 3) := by decide +kernel
theorem d6_12 : decode prog_56_method_2_code 12 = .ok (.aload_n 0, 1) := by decide +kernel
theorem d6_13 : decode prog_56_method_2_code 13 = .ok (.dup, 1) := by decide +kernel
theorem d6_14 : decode prog_56_method_2_code 14 = .ok (.getfield 19, 3) := by decide +kernel
theorem d6_17 : decode prog_56_method_2_code 17 = .ok (.iload_n 1, 1) := by decide +kernel
theorem d6_18 : decode prog_56_method_2_code 18 = .ok (.i2l, 1) := by decide +kernel
theorem d6_19 : decode prog_56_method_2_code 19 = .ok (.ladd, 1) := by decide +kernel
theorem d6_20 : decode prog_56_method_2_code 20 = .ok (.putfield 19, 3) := by decide +kernel
theorem d6_23 : decode prog_56_method_2_code 23 = .ok (.aload_n 0, 1) := by decide +kernel
theorem d6_24 : decode prog_56_method_2_code 24 = .ok (.dup, 1) := by decide +kernel
theorem d6_25 : decode prog_56_method_2_code 25 = .ok (.getfield 23, 3) := by decide +kernel
theorem d6_28 : decode prog_56_method_2_code 28 = .ok (.iconst 1, 1) := by decide +kernel
theorem d6_29 : decode prog_56_method_2_code 29 = .ok (.iadd, 1) := by decide +kernel
theorem d6_30 : decode prog_56_method_2_code 30 = .ok (.putfield 23, 3) := by decide +kernel
theorem d6_33 : decode prog_56_method_2_code 33 = .ok (.return_, 1) := by decide +kernel
theorem pd0 : parseMethodDescriptor "(II)I" = some ⟨[.int, .int], some .int⟩ := by decide +kernel
theorem pd1 : parseMethodDescriptor "(I)I" = some ⟨[.int], some .int⟩ := by decide +kernel
theorem pd2 : parseMethodDescriptor "()V" = some ⟨[], none⟩ := by decide +kernel
theorem pd3 : parseMethodDescriptor "()D" = some ⟨[], some .double⟩ := by decide +kernel
theorem pd4 : parseMethodDescriptor "(I)V" = some ⟨[.int], none⟩ := by decide +kernel
abbrev o_VectorFrequencies (a : Addr) (v0 v1 v2 : Value) : Ent := (a, .inl ("com/example/postings/postings/search/VectorFrequencies", [("com/example/postings/postings/search/VectorFrequencies", "distinctTerms", "I", v0), ("com/example/postings/postings/search/VectorFrequencies", "largest", "I", v1), ("com/example/postings/postings/search/VectorFrequencies", "total", "J", v2)]))
theorem Ly_o_VectorFrequencies {g : GG} (W : GW g) : Lays g.Z g.a0 "com/example/postings/postings/search/VectorFrequencies" [("com/example/postings/postings/search/VectorFrequencies", "distinctTerms", "I", (.int (0 : Int32))), ("com/example/postings/postings/search/VectorFrequencies", "largest", "I", (.int (0 : Int32))), ("com/example/postings/postings/search/VectorFrequencies", "total", "J", (.long (0 : Int64)))] := by
  refine ⟨by decide, fun f hf => ?_⟩
  simp only [List.mem_cons, List.not_mem_nil, or_false] at hf
  rcases hf with rfl | rfl | rfl
  · exact ⟨Or.inl (W24 W), .int, by decide⟩
  · exact ⟨Or.inl (W31 W), .int, by decide⟩
  · exact ⟨Or.inl (W34 W), .long, by decide⟩
def mxI (x y : Int32) : Int32 := if x < y then y else x
def fq (x : Int32) : Int32 := mxI (1 : Int32) (x &&& (2147483647 : Int32))
theorem mxT {x y : Int32} (h : x < y) : mxI x y = y := if_pos h
theorem mxF {x y : Int32} (h : ¬ x < y) : mxI x y = x := if_neg h
theorem mx_r (x y : Int32) : (mxI x y).toInt = x.toInt ∧ y.toInt ≤ x.toInt ∨ (mxI x y).toInt = y.toInt ∧ x.toInt < y.toInt := by
  by_cases h : x < y
  · rw [mxT h]; exact Or.inr ⟨rfl, Int32.lt_iff_toInt_lt.mp h⟩
  · rw [mxF h]; rw [Int32.lt_iff_toInt_lt] at h; exact Or.inl ⟨rfl, by omega⟩
theorem fq_r (x : Int32) : 1 ≤ (fq x).toInt ∧ (fq x).toInt < 2147483648 := by
  have a := mx_r (1 : Int32) (x &&& (2147483647 : Int32))
  have b := rng32 (fq x)
  have c : (1 : Int32).toInt = 1 := rfl
  unfold fq at b ⊢
  omega
theorem n5 (x : Int32) : (x &&& (2147483647 : Int32)) % (5 : Int32) = (0 : Int32) ∨ (x &&& (2147483647 : Int32)) % (5 : Int32) = (1 : Int32) ∨ (x &&& (2147483647 : Int32)) % (5 : Int32) = (2 : Int32) ∨ (x &&& (2147483647 : Int32)) % (5 : Int32) = (3 : Int32) ∨ (x &&& (2147483647 : Int32)) % (5 : Int32) = (4 : Int32) := by
  have a := c_mask x 2147483647 31 (by decide) rfl
  have b := (c_irem (x &&& (2147483647 : Int32)) 5 5 rfl).1
  simp only [Nat.reducePow, Int.cast_ofNat_Int] at a
  simp only [← Int32.toInt_inj, show (0 : Int32).toInt = 0 from rfl, show (1 : Int32).toInt = 1 from rfl, show (2 : Int32).toInt = 2 from rfl, show (3 : Int32).toInt = 3 from rfl, show (4 : Int32).toInt = 4 from rfl]
  have c := b (by omega)
  omega
section Means
open Jvm.FP.Core
theorem zm {i : Int} {a : UInt64} (hi : 0 < i) (h : DInt i a) : ∃ c q, val64 a = .fin false c q ∧ 0 < c ∧ FP.Core.fits b64 (.fin false c q) ∧ (zmag b64 (.fin false c q) : Int) = i * ((2 ^ (-b64.qmin).toNat : Nat) : Int) := by
  have hf := val64_fits a
  have h : Whole i (val64 a) := h
  rcases hv : val64 a with _ | s | ⟨s, c, q⟩
  · rw [hv] at h; exact h.elim
  · rw [hv] at h; exact h.elim
  · rw [hv] at h hf
    have hs : s = false := (whole_sign h (by omega)).trans (decide_eq_false (by omega))
    subst hs
    have hz := whole_zval good_b64 hf h
    have hc := whole_zero h
    exact ⟨c, q, rfl, by omega, hf, hz⟩
theorem quo {S n V : Int} {a b v : UInt64} (hS : 0 < S) (hn : 0 < n) (hV : 0 < V) (ha : DInt S a) (hb : DInt n b) (hv : DInt V v) :
    (S ≤ V * n → FP.Core.dcmp (FP.Core.ddiv a b) v = some .lt ∨ FP.Core.dcmp (FP.Core.ddiv a b) v = some .eq) ∧ (V * n ≤ S → FP.Core.dcmp (FP.Core.ddiv a b) v = some .gt ∨ FP.Core.dcmp (FP.Core.ddiv a b) v = some .eq) := by
  obtain ⟨c, q, a1, a2, a3, a4⟩ := zm hS ha
  obtain ⟨d, r, b1, b2, b3, b4⟩ := zm hn hb
  obtain ⟨w, u, v1, v2, v3, v4⟩ := zm hV hv
  have hd : val64 (FP.Core.ddiv a b) = roundRatio b64 false c d (q - r) := by
    rw [val64_ddiv, a1, b1]
    show (if d = 0 then _ else roundRatio b64 (false != false) c d (q - r)) = _
    rw [if_neg (by omega)]; rfl
  have q0 : b64.qmin ≤ q := a3.2.1
  have r0 : b64.qmin ≤ r := b3.2.1
  have m0 : b64.qmin ≤ 0 := by decide
  generalize hK : 2 ^ (-b64.qmin).toNat = K at a4 b4 v4
  have e1 : inUnits c (q - r) (2 * b64.qmin - r) = zmag b64 (.fin false c q) * K := by
    rw [← hK]
    show c * 2 ^ (q - r - (2 * b64.qmin - r)).toNat = c * 2 ^ (q - b64.qmin).toNat * 2 ^ (-b64.qmin).toNat
    rw [Nat.mul_assoc, ← Nat.pow_add]
    congr 2
    omega
  have e2 : 2 ^ (b64.qmin - (2 * b64.qmin - r)).toNat * d = zmag b64 (.fin false d r) := by
    show 2 ^ (b64.qmin - (2 * b64.qmin - r)).toNat * d = d * 2 ^ (r - b64.qmin).toNat
    rw [Nat.mul_comm]
    congr 2
    omega
  have nn : roundRatio b64 false c d (q - r) ≠ .nan ∧ zval b64 (roundRatio b64 false c d (q - r)) = (zmag b64 (roundRatio b64 false c d (q - r)) : Int) := by
    rcases roundRatio_cases b64 false c d (q - r) with ⟨x, y, h⟩ | h
    · rw [h]; exact ⟨Datum.noConfusion, rfl⟩
    · rw [h]; exact ⟨Datum.noConfusion, rfl⟩
  have zv : zval b64 (.fin false w u) = (zmag b64 (.fin false w u) : Int) := rfl
  constructor
  · intro h
    refine dcmp_le.mpr ⟨by rw [hd]; exact nn.1, by rw [v1]; exact Datum.noConfusion, ?_⟩
    rw [hd, v1, nn.2, zv]
    refine Int.ofNat_le.mpr (zmag_roundRatio_le good_b64 (e0 := 2 * b64.qmin - r) b2 v3 Datum.noConfusion (by omega) (by omega) ?_)
    rw [e1, Nat.mul_assoc, e2]
    apply Int.ofNat_le.mp
    rw [Int.natCast_mul, Int.natCast_mul, a4, b4, v4]
    calc S * (K : Int) * K ≤ V * n * (K : Int) * K := Int.mul_le_mul_of_nonneg_right (Int.mul_le_mul_of_nonneg_right h (by omega)) (by omega)
      _ = V * K * (n * K) := by ac_rfl
  · intro h
    refine dcmp_ge.mpr ⟨by rw [hd]; exact nn.1, by rw [v1]; exact Datum.noConfusion, ?_⟩
    rw [hd, v1, nn.2, zv]
    refine Int.ofNat_le.mpr (zmag_roundRatio_ge good_b64 (e0 := 2 * b64.qmin - r) b2 v3 (by omega) (by omega) ?_)
    rw [e1, Nat.mul_assoc, e2]
    apply Int.ofNat_le.mp
    rw [Int.natCast_mul, Int.natCast_mul, a4, b4, v4]
    calc V * K * (n * K) = V * n * (K : Int) * K := by ac_rfl
      _ ≤ S * (K : Int) * K := Int.mul_le_mul_of_nonneg_right (Int.mul_le_mul_of_nonneg_right h (by omega)) (by omega)
end Means
theorem di64 {t : Int64} (h0 : 0 ≤ t.toInt) (h : t.toInt < 9007199254740992) : FP.Core.DInt t.toInt (FP.l2d t) := FP.Core.l2d_int (by omega)
theorem di32 (t : Int32) : FP.Core.DInt t.toInt (FP.i2d t) := FP.Core.i2d_int _
theorem q_lo {t : Int64} {n : Int32} (hn : 0 < n.toInt) (h : n.toInt ≤ t.toInt) (ht : t.toInt < 9007199254740992) : ¬ cmpValue (FP.dcmp (FP.ddiv (FP.l2d t) (FP.i2d n)) (FP.l2d 1)) .l < (0 : Int32) := by
  rcases (quo (V := 1) (by omega) hn (by decide) (di64 (by omega) ht) (di32 n) (di64 (t := (1 : Int64)) (by decide) (by decide))).2 (by omega) with e | e
  · rw [show FP.dcmp (FP.ddiv (FP.l2d t) (FP.i2d n)) (FP.l2d 1) = _ from e]; decide
  · rw [show FP.dcmp (FP.ddiv (FP.l2d t) (FP.i2d n)) (FP.l2d 1) = _ from e]; decide
theorem q_hi {t : Int64} {n k : Int32} (hn : 0 < n.toInt) (h0 : 0 < t.toInt) (hk : 0 < k.toInt) (h : t.toInt ≤ k.toInt * n.toInt) (ht : t.toInt < 9007199254740992) : ¬ (0 : Int32) < cmpValue (FP.dcmp (FP.ddiv (FP.l2d t) (FP.i2d n)) (FP.i2d k)) .g := by
  rcases (quo h0 hn hk (di64 (by omega) ht) (di32 n) (di32 k)).1 h with e | e
  · rw [show FP.dcmp (FP.ddiv (FP.l2d t) (FP.i2d n)) (FP.i2d k) = _ from e]; decide
  · rw [show FP.dcmp (FP.ddiv (FP.l2d t) (FP.i2d n)) (FP.i2d k) = _ from e]; decide
theorem nnq {t : Int64} {n : Int32} (h : (0 : Int32) < n) : Jvm.Free.Fl.NoNaN64 (FP.ddiv (FP.l2d t) (FP.i2d n)) := Jvm.Free.Fl.ddiv_out (Jvm.Free.Fl.l2d_fin _).noNaN (Jvm.Free.Fl.i2d_fin _) (Jvm.Free.Fl.i2d_nz fun e => by rw [e] at h; exact absurd h (by decide))

theorem ef_mx (x y : Int32) (m : MethodId) : entryFrame m #[(.int x), (.int y)] 2 = mkF m 0 #[.val (.int x), .val (.int y)] [] := by first | (simp [entryFrame, mkF, argsToLocals, Value.category]; done) | rfl
abbrev D2 : DD := (⟨"java/lang/Math", "max", "(II)I"⟩, jdk_29_method_65_code, 2, (some .int), { frames := 0, cells := 0, slots := 0, locals := 0 })
theorem k_mx {g : GG} (W : GW g) (x y : Int32) (H : List Ent) (Lt : List SE) : Ct g D2 #[.int x, .int y] H Lt (fun v vm h => v = some (.int (mxI x y)) ∧ Hp g vm h H Lt) := by
  refine CtW.body W (Jvm.Free.JP.mathPlain rfl (by decide +kernel)) (ef_mx x y) ?_
  intro M T B
  refine p_iloadN B d2_0 (pc' := 1) rfl rfl ?_
  refine p_iloadN B d2_1 (pc' := 2) rfl rfl ?_
  by_cases hx : x < y
  · refine b_icT B d2_2 (pc' := 9) hx (by decide) (by decide) ?_
    refine p_iloadN B d2_9 (pc' := 10) rfl rfl ?_
    exact r_reti B d2_10 rfl (by simp) rfl (by decide) (by decide) (fun vm h P => ⟨by rw [mxT hx], P⟩)
  · refine b_icF B d2_2 (pc' := 5) rfl hx ?_
    refine p_iloadN B d2_5 (pc' := 6) rfl rfl ?_
    refine b_goto B d2_6 (pc' := 10) (by decide) (by decide) ?_
    exact r_reti B d2_10 rfl (by simp) rfl (by decide) (by decide) (fun vm h P => ⟨by rw [mxF hx], P⟩)
theorem ef_fq (x : Int32) (m : MethodId) : entryFrame m #[(.int x)] 1 = mkF m 0 #[.val (.int x)] [] := by first | (simp [entryFrame, mkF, argsToLocals, Value.category]; done) | rfl
abbrev D1 : DD := (⟨"com/example/postings/postings/search/VectorFrequenciesMeanPinLaw", "freq", "(I)I"⟩, method_2_code, 1, (some .int), { frames := 1, cells := 0, slots := 0, locals := 13 })
theorem k_fq {g : GG} (W : GW g) (x : Int32) (H : List Ent) (Lt : List SE) : Ct g D1 #[.int x] H Lt (fun v vm h => v = some (.int (fq x)) ∧ Hp g vm h H Lt) := by
  refine CtW.body W (by decide +kernel) (ef_fq x) ?_
  intro M T B
  refine p_iconst B d1_0 (pc' := 1) rfl (v := (1 : Int32)) (by decide) ?_
  refine p_iloadN B d1_1 (pc' := 2) rfl rfl ?_
  refine r_ldcI B d1_2 (pc' := 4) rfl (W0 B.gw) ?_
  refine p_iand B d1_4 (pc' := 5) rfl rfl ?_
  refine r_static (D' := D2) B d1_5 (pc' := 8) rfl (W5 B.gw) (W6 B.gw) (W7 B.gw) (W8 B.gw) (by decide) (k_mx W (1 : Int32) (x &&& (2147483647 : Int32)) _ _) (argsL := [(.int (1 : Int32)), (.int (x &&& (2147483647 : Int32)))]) (rest := []) rfl pd0 rfl rfl rfl (W := 0) rfl (by decide) (by decide) (cs' := 0) rfl (ss' := 0) rfl (by decide) (by decide) ?_
  intro T1 v2 B3
  replace B3 := Rn.and B3
  obtain ⟨rfl, B3⟩ := B3
  show Fn g D1 M _ (T1.setTop (mkF M.m 8 #[.val (.int x)] [(.int (mxI (1 : Int32) (x &&& (2147483647 : Int32))))]))
  exact r_reti B3 d1_8 rfl (by simp) rfl (by decide) (by decide) (fun vm h P => ⟨rfl, P⟩)
theorem ef_vi (o : Addr) (m : MethodId) : entryFrame m #[(.ref o)] 1 = mkF m 0 #[.val (.ref o)] [] := by first | (simp [entryFrame, mkF, argsToLocals, Value.category]; done) | rfl
abbrev D3 : DD := (⟨"com/example/postings/postings/search/VectorFrequencies", "<init>", "()V"⟩, prog_56_method_1_code, 1, none, { frames := 1, cells := 0, slots := 0, locals := 12 })
theorem k_vi {g : GG} (W : GW g) (o : Addr) (H : List Ent) (Lt : List SE) : Ct g D3 #[.ref o] H Lt (fun v vm h => v = none ∧ Hp g vm h H Lt) := by
  refine CtW.body W (by decide +kernel) (ef_vi o) ?_
  intro M T B
  refine p_aloadN B d3_0 (pc' := 1) rfl rfl rfl ?_
  refine r_initO B d3_1 (pc' := 4) rfl (W15 B.gw) (W16 B.gw) (W17 B.gw) rfl (by decide) (W := 0) rfl (by decide) ?_
  intro T1 B2
  exact r_ret B2 d3_4 rfl (by decide) (by decide) (fun vm h P => ⟨rfl, P⟩)
theorem ef_ad (o : Addr) (x : Int32) (m : MethodId) : entryFrame m #[(.ref o), (.int x)] 2 = mkF m 0 #[.val (.ref o), .val (.int x)] [] := by first | (simp [entryFrame, mkF, argsToLocals, Value.category]; done) | rfl
abbrev D6 : DD := (⟨"com/example/postings/postings/search/VectorFrequencies", "add", "(I)V"⟩, prog_56_method_2_code, 2, none, { frames := 1, cells := 0, slots := 0, locals := 14 })
theorem k_ad {g : GG} (W : GW g) (o : Addr) (x n n' l : Int32) (t : Int64) (hn : n + (1 : Int32) = n') (H : List Ent) (Lt : List SE) : Ct g D6 #[.ref o, .int x] (o_VectorFrequencies o (.int n) (.int l) (.long t) :: H) Lt (fun v vm h => v = none ∧ Hp g vm h (o_VectorFrequencies o (.int n') (.int (mxI l x)) (.long (t + (x).toInt64)) :: H) Lt) := by
  refine CtW.body W (by decide +kernel) (ef_ad o x) ?_
  intro M T B
  refine p_aloadN B d6_0 (pc' := 1) rfl rfl rfl ?_
  refine p_aloadN B d6_1 (pc' := 2) rfl rfl rfl ?_
  refine r_get B d6_2 (pc' := 5) rfl (host := "") (Or.inl (W30 B.gw)) Via.refl (v := (.int l)) (fO (i := 0) (j := 1) rfl rfl) ?_
  intro T1 B2
  refine p_iloadN B2 d6_5 (pc' := 6) rfl rfl ?_
  refine r_static (D' := D2) B2 d6_6 (pc' := 9) rfl (W32 B2.gw) (W6 B2.gw) (W7 B2.gw) (W8 B2.gw) (by decide) (k_mx W l x _ _) (argsL := [(.int l), (.int x)]) (rest := [(.ref o)]) rfl pd0 rfl rfl rfl (W := 1) rfl (by decide) (by decide) (cs' := 0) rfl (ss' := 0) rfl (by decide) (by decide) ?_
  intro T3 v4 B5
  replace B5 := Rn.and B5
  obtain ⟨rfl, B5⟩ := B5
  show Fn g D6 M _ (T3.setTop (mkF M.m 9 #[.val (.ref o), .val (.int x)] [(.int (mxI l x)), (.ref o)]))
  refine r_put B5 d6_9 (pc' := 12) rfl (host := "") (Or.inl (W30 B5.gw)) Via.refl (i := 0) (j := 1) rfl rfl (Or.inl (W31 B5.gw)) (W10 B5.gw) (ty := .int) (by decide) rfl rfl (H' := (o_VectorFrequencies o (.int n) (.int (mxI l x)) (.long t) :: H)) rfl ?_
  intro T6 B7
  refine p_aloadN B7 d6_12 (pc' := 13) rfl rfl rfl ?_
  refine p_dup B7 d6_13 (pc' := 14) rfl rfl ?_
  refine r_get B7 d6_14 (pc' := 17) rfl (host := "") (Or.inl (W33 B7.gw)) Via.refl (v := (.long t)) (fO (i := 0) (j := 2) rfl rfl) ?_
  intro T8 B9
  refine p_iloadN B9 d6_17 (pc' := 18) rfl rfl ?_
  refine p_i2l B9 d6_18 (pc' := 19) rfl ?_
  refine p_ladd B9 d6_19 (pc' := 20) rfl ?_
  refine r_put B9 d6_20 (pc' := 23) rfl (host := "") (Or.inl (W33 B9.gw)) Via.refl (i := 0) (j := 2) rfl rfl (Or.inl (W34 B9.gw)) (W10 B9.gw) (ty := .long) (by decide) rfl rfl (H' := (o_VectorFrequencies o (.int n) (.int (mxI l x)) (.long (t + (x).toInt64)) :: H)) rfl ?_
  intro T10 B11
  refine p_aloadN B11 d6_23 (pc' := 24) rfl rfl rfl ?_
  refine p_dup B11 d6_24 (pc' := 25) rfl rfl ?_
  refine r_get B11 d6_25 (pc' := 28) rfl (host := "") (Or.inl (W23 B11.gw)) Via.refl (v := (.int n)) (fO (i := 0) (j := 0) rfl rfl) ?_
  intro T12 B13
  refine p_iconst B13 d6_28 (pc' := 29) rfl (v := (1 : Int32)) (by decide) ?_
  refine p_iadd B13 d6_29 (pc' := 30) rfl rfl ?_
  rw [hn]
  refine r_put B13 d6_30 (pc' := 33) rfl (host := "") (Or.inl (W23 B13.gw)) Via.refl (i := 0) (j := 0) rfl rfl (Or.inl (W24 B13.gw)) (W10 B13.gw) (ty := .int) (by decide) rfl rfl (H' := (o_VectorFrequencies o (.int n') (.int (mxI l x)) (.long (t + (x).toInt64)) :: H)) rfl ?_
  intro T14 B15
  exact r_ret B15 d6_33 rfl (by decide) (by decide) (fun vm h P => ⟨rfl, P⟩)
theorem ef_me (o : Addr) (m : MethodId) : entryFrame m #[(.ref o)] 1 = mkF m 0 #[.val (.ref o)] [] := by first | (simp [entryFrame, mkF, argsToLocals, Value.category]; done) | rfl
abbrev D5 : DD := (⟨"com/example/postings/postings/search/VectorFrequencies", "mean", "()D"⟩, prog_56_method_4_code, 1, (some .double), { frames := 0, cells := 0, slots := 0, locals := 0 })
theorem k_me0 {g : GG} (W : GW g) (o : Addr) (l : Int32) (t : Int64) (H : List Ent) (Lt : List SE) : Ct g D5 #[.ref o] (o_VectorFrequencies o (.int (0 : Int32)) (.int l) (.long t) :: H) Lt (fun v vm h => v = some (.double (FP.l2d 0)) ∧ Hp g vm h (o_VectorFrequencies o (.int (0 : Int32)) (.int l) (.long t) :: H) Lt) := by
  refine CtW.body W (by decide +kernel) (ef_me o) ?_
  intro M T B
  refine p_aloadN B d5_0 (pc' := 1) rfl rfl rfl ?_
  refine r_get B d5_1 (pc' := 4) rfl (host := "") (Or.inl (W23 B.gw)) Via.refl (v := (.int (0 : Int32))) (fO (i := 0) (j := 0) rfl rfl) ?_
  intro T1 B2
  refine b_ifT B2 d5_4 (pc' := 21) (show ¬ (0 : Int32) < (0 : Int32) from by decide) (by decide) (by decide) ?_
  refine p_dconst0 B2 d5_21 (pc' := 22) rfl (v := (FP.l2d 0)) (by decide +kernel) ?_
  exact r_retd B2 d5_22 rfl (by decide) (by decide) (fun vm h P => ⟨rfl, P⟩)
theorem k_me {g : GG} (W : GW g) (o : Addr) (n l : Int32) (t : Int64) (hn : (0 : Int32) < n) (H : List Ent) (Lt : List SE) : Ct g D5 #[.ref o] (o_VectorFrequencies o (.int n) (.int l) (.long t) :: H) Lt (fun v vm h => v = some (.double (FP.ddiv (FP.l2d t) (FP.i2d n))) ∧ Hp g vm h (o_VectorFrequencies o (.int n) (.int l) (.long t) :: H) Lt) := by
  refine CtW.body W (by decide +kernel) (ef_me o) ?_
  intro M T B
  refine p_aloadN B d5_0 (pc' := 1) rfl rfl rfl ?_
  refine r_get B d5_1 (pc' := 4) rfl (host := "") (Or.inl (W23 B.gw)) Via.refl (v := (.int n)) (fO (i := 0) (j := 0) rfl rfl) ?_
  intro T1 B2
  refine b_ifF B2 d5_4 (pc' := 7) rfl hn ?_
  refine p_aloadN B2 d5_7 (pc' := 8) rfl rfl rfl ?_
  refine r_get B2 d5_8 (pc' := 11) rfl (host := "") (Or.inl (W33 B2.gw)) Via.refl (v := (.long t)) (fO (i := 0) (j := 2) rfl rfl) ?_
  intro T3 B4
  refine p_l2d B4 d5_11 (pc' := 12) rfl rfl ?_
  refine p_aloadN B4 d5_12 (pc' := 13) rfl rfl rfl ?_
  refine r_get B4 d5_13 (pc' := 16) rfl (host := "") (Or.inl (W23 B4.gw)) Via.refl (v := (.int n)) (fO (i := 0) (j := 0) rfl rfl) ?_
  intro T5 B6
  refine p_i2d B6 d5_16 (pc' := 17) rfl rfl ?_
  refine p_ddiv B6 d5_17 (pc' := 18) rfl (nnq hn) rfl ?_
  refine b_goto B6 d5_18 (pc' := 22) (by decide) (by decide) ?_
  exact r_retd B6 d5_22 rfl (by decide) (by decide) (fun vm h P => ⟨rfl, P⟩)
abbrev D0 : DD := (x, code, maxLocals, ret, room_1)
theorem ef_law (p0 p1 p2 p3 p4 : Int32) (m : MethodId) : entryFrame m #[(.int p0), (.int p1), (.int p2), (.int p3), (.int p4)] maxLocals = mkF m 0 #[.val (.int p0), .val (.int p1), .val (.int p2), .val (.int p3), .val (.int p4), .unset, .unset, .unset, .unset, .unset, .unset, .unset, .unset, .unset, .unset, .unset, .unset, .unset] [] := by first | (simp [entryFrame, mkF, argsToLocals, Value.category, maxLocals]; done) | rfl
theorem k_law {g : GG} (W : GW g) (p0 p1 p2 p3 p4 : Int32) : CtW g D0 tables_1 #[.int p0, .int p1, .int p2, .int p3, .int p4] [] [] (fun v _ _ => v = some (.int 1)) := by
  refine CtW.body W (by decide +kernel) (ef_law p0 p1 p2 p3 p4) ?_
  intro M T B
  refine p_iload B at_0 (pc' := 2) rfl rfl ?_
  refine r_ldcI B at_2 (pc' := 4) rfl (W0 B.gw) ?_
  refine p_iand B at_4 (pc' := 5) rfl rfl ?_
  refine p_iconst B at_5 (pc' := 6) rfl (v := (5 : Int32)) (by decide) ?_
  refine p_irem B at_6 (pc' := 7) rfl (by decide) rfl ?_
  rcases n5 p4 with e | e | e | e | e
  · rw [e]
    refine p_istore B at_7 (pc' := 9) rfl (Ls' := #[.val (.int p0), .val (.int p1), .val (.int p2), .val (.int p3), .val (.int p4), .val (.int (0 : Int32)), .unset, .unset, .unset, .unset, .unset, .unset, .unset, .unset, .unset, .unset, .unset, .unset]) rfl ?_
    refine p_iloadN B at_9 (pc' := 10) rfl rfl ?_
    refine r_static (D' := D1) B at_10 (pc' := 13) rfl (W1 B.gw) (W2 B.gw) (W3 B.gw) (W4 B.gw) (by decide) (k_fq W p0 _ _) (argsL := [(.int p0)]) (rest := []) rfl pd1 rfl rfl rfl (W := 0) rfl (by decide) (by decide) (cs' := 0) rfl (ss' := 0) rfl (by decide) (by decide) ?_
    intro T1 v2 B3
    replace B3 := Rn.and B3
    obtain ⟨rfl, B3⟩ := B3
    show Fn g D0 M _ (T1.setTop (mkF M.m 13 #[.val (.int p0), .val (.int p1), .val (.int p2), .val (.int p3), .val (.int p4), .val (.int (0 : Int32)), .unset, .unset, .unset, .unset, .unset, .unset, .unset, .unset, .unset, .unset, .unset, .unset] [(.int (fq p0))]))
    refine p_istore B3 at_13 (pc' := 15) rfl (Ls' := #[.val (.int p0), .val (.int p1), .val (.int p2), .val (.int p3), .val (.int p4), .val (.int (0 : Int32)), .val (.int (fq p0)), .unset, .unset, .unset, .unset, .unset, .unset, .unset, .unset, .unset, .unset, .unset]) rfl ?_
    refine p_iloadN B3 at_15 (pc' := 16) rfl rfl ?_
    refine r_static (D' := D1) B3 at_16 (pc' := 19) rfl (W1 B3.gw) (W2 B3.gw) (W3 B3.gw) (W4 B3.gw) (by decide) (k_fq W p1 _ _) (argsL := [(.int p1)]) (rest := []) rfl pd1 rfl rfl rfl (W := 0) rfl (by decide) (by decide) (cs' := 0) rfl (ss' := 0) rfl (by decide) (by decide) ?_
    intro T4 v5 B6
    replace B6 := Rn.and B6
    obtain ⟨rfl, B6⟩ := B6
    show Fn g D0 M _ (T4.setTop (mkF M.m 19 #[.val (.int p0), .val (.int p1), .val (.int p2), .val (.int p3), .val (.int p4), .val (.int (0 : Int32)), .val (.int (fq p0)), .unset, .unset, .unset, .unset, .unset, .unset, .unset, .unset, .unset, .unset, .unset] [(.int (fq p1))]))
    refine p_istore B6 at_19 (pc' := 21) rfl (Ls' := #[.val (.int p0), .val (.int p1), .val (.int p2), .val (.int p3), .val (.int p4), .val (.int (0 : Int32)), .val (.int (fq p0)), .val (.int (fq p1)), .unset, .unset, .unset, .unset, .unset, .unset, .unset, .unset, .unset, .unset]) rfl ?_
    refine p_iloadN B6 at_21 (pc' := 22) rfl rfl ?_
    refine r_static (D' := D1) B6 at_22 (pc' := 25) rfl (W1 B6.gw) (W2 B6.gw) (W3 B6.gw) (W4 B6.gw) (by decide) (k_fq W p2 _ _) (argsL := [(.int p2)]) (rest := []) rfl pd1 rfl rfl rfl (W := 0) rfl (by decide) (by decide) (cs' := 0) rfl (ss' := 0) rfl (by decide) (by decide) ?_
    intro T7 v8 B9
    replace B9 := Rn.and B9
    obtain ⟨rfl, B9⟩ := B9
    show Fn g D0 M _ (T7.setTop (mkF M.m 25 #[.val (.int p0), .val (.int p1), .val (.int p2), .val (.int p3), .val (.int p4), .val (.int (0 : Int32)), .val (.int (fq p0)), .val (.int (fq p1)), .unset, .unset, .unset, .unset, .unset, .unset, .unset, .unset, .unset, .unset] [(.int (fq p2))]))
    refine p_istore B9 at_25 (pc' := 27) rfl (Ls' := #[.val (.int p0), .val (.int p1), .val (.int p2), .val (.int p3), .val (.int p4), .val (.int (0 : Int32)), .val (.int (fq p0)), .val (.int (fq p1)), .val (.int (fq p2)), .unset, .unset, .unset, .unset, .unset, .unset, .unset, .unset, .unset]) rfl ?_
    refine p_iloadN B9 at_27 (pc' := 28) rfl rfl ?_
    refine r_static (D' := D1) B9 at_28 (pc' := 31) rfl (W1 B9.gw) (W2 B9.gw) (W3 B9.gw) (W4 B9.gw) (by decide) (k_fq W p3 _ _) (argsL := [(.int p3)]) (rest := []) rfl pd1 rfl rfl rfl (W := 0) rfl (by decide) (by decide) (cs' := 0) rfl (ss' := 0) rfl (by decide) (by decide) ?_
    intro T10 v11 B12
    replace B12 := Rn.and B12
    obtain ⟨rfl, B12⟩ := B12
    show Fn g D0 M _ (T10.setTop (mkF M.m 31 #[.val (.int p0), .val (.int p1), .val (.int p2), .val (.int p3), .val (.int p4), .val (.int (0 : Int32)), .val (.int (fq p0)), .val (.int (fq p1)), .val (.int (fq p2)), .unset, .unset, .unset, .unset, .unset, .unset, .unset, .unset, .unset] [(.int (fq p3))]))
    refine p_istore B12 at_31 (pc' := 33) rfl (Ls' := #[.val (.int p0), .val (.int p1), .val (.int p2), .val (.int p3), .val (.int p4), .val (.int (0 : Int32)), .val (.int (fq p0)), .val (.int (fq p1)), .val (.int (fq p2)), .val (.int (fq p3)), .unset, .unset, .unset, .unset, .unset, .unset, .unset, .unset]) rfl ?_
    refine r_new B12 at_33 (pc' := 36) rfl (W9 B12.gw) (W10 B12.gw) (W11 B12.gw) (Ly_o_VectorFrequencies B12.gw) (by decide) (cs' := 1) rfl (ss' := 3) rfl (by decide) (by decide) ?_
    intro T13 a15 B14
    refine p_dup B14 at_36 (pc' := 37) rfl rfl ?_
    refine r_special (D' := D3) B14 at_37 (pc' := 40) rfl rfl rfl (W12 B14.gw) (W13 B14.gw) (W11 B14.gw) (W14 B14.gw) (by decide) (k_vi W a15 _ _) (a := a15) (argsL := []) (rest := [(.ref a15)]) rfl pd2 rfl rfl rfl (W := 1) rfl (by decide) (by decide) (cs' := 1) rfl (ss' := 3) rfl (by decide) (by decide) ?_
    intro T16 v17 B18
    replace B18 := Rn.and B18
    obtain ⟨rfl, B18⟩ := B18
    show Fn g D0 M _ (T16.setTop (mkF M.m 40 #[.val (.int p0), .val (.int p1), .val (.int p2), .val (.int p3), .val (.int p4), .val (.int (0 : Int32)), .val (.int (fq p0)), .val (.int (fq p1)), .val (.int (fq p2)), .val (.int (fq p3)), .unset, .unset, .unset, .unset, .unset, .unset, .unset, .unset] [(.ref a15)]))
    refine p_astore B18 at_40 (pc' := 42) rfl rfl (Ls' := #[.val (.int p0), .val (.int p1), .val (.int p2), .val (.int p3), .val (.int p4), .val (.int (0 : Int32)), .val (.int (fq p0)), .val (.int (fq p1)), .val (.int (fq p2)), .val (.int (fq p3)), .val (.ref a15), .unset, .unset, .unset, .unset, .unset, .unset, .unset]) rfl ?_
    refine p_lconst B18 at_42 (pc' := 43) rfl (v := (0 : Int64)) (by decide) ?_
    refine p_lstore B18 at_43 (pc' := 45) rfl (Ls' := #[.val (.int p0), .val (.int p1), .val (.int p2), .val (.int p3), .val (.int p4), .val (.int (0 : Int32)), .val (.int (fq p0)), .val (.int (fq p1)), .val (.int (fq p2)), .val (.int (fq p3)), .val (.ref a15), .val (.long (0 : Int64)), .second, .unset, .unset, .unset, .unset, .unset]) rfl ?_
    refine p_iconst B18 at_45 (pc' := 46) rfl (v := (0 : Int32)) (by decide) ?_
    refine p_istore B18 at_46 (pc' := 48) rfl (Ls' := #[.val (.int p0), .val (.int p1), .val (.int p2), .val (.int p3), .val (.int p4), .val (.int (0 : Int32)), .val (.int (fq p0)), .val (.int (fq p1)), .val (.int (fq p2)), .val (.int (fq p3)), .val (.ref a15), .val (.long (0 : Int64)), .second, .val (.int (0 : Int32)), .unset, .unset, .unset, .unset]) rfl ?_
    refine p_iload B18 at_48 (pc' := 50) rfl rfl ?_
    refine p_iconst B18 at_50 (pc' := 51) rfl (v := (1 : Int32)) (by decide) ?_
    refine b_icT B18 at_51 (pc' := 78) (show (0 : Int32) < (1 : Int32) from by decide) (by decide) (by decide) ?_
    refine p_iload B18 at_78 (pc' := 80) rfl rfl ?_
    refine p_iconst B18 at_80 (pc' := 81) rfl (v := (2 : Int32)) (by decide) ?_
    refine b_icT B18 at_81 (pc' := 108) (show (0 : Int32) < (2 : Int32) from by decide) (by decide) (by decide) ?_
    refine p_iload B18 at_108 (pc' := 110) rfl rfl ?_
    refine p_iconst B18 at_110 (pc' := 111) rfl (v := (3 : Int32)) (by decide) ?_
    refine b_icT B18 at_111 (pc' := 138) (show (0 : Int32) < (3 : Int32) from by decide) (by decide) (by decide) ?_
    refine p_iload B18 at_138 (pc' := 140) rfl rfl ?_
    refine p_iconst B18 at_140 (pc' := 141) rfl (v := (4 : Int32)) (by decide) ?_
    refine b_icT B18 at_141 (pc' := 168) (show (0 : Int32) < (4 : Int32) from by decide) (by decide) (by decide) ?_
    refine p_aload B18 at_168 (pc' := 170) rfl rfl rfl ?_
    refine r_virtual (D' := D5) B18 at_170 (pc' := 173) rfl (W18 B18.gw) (W19 B18.gw) (W21 B18.gw) (fun vm0 hZ => notFace_of_selects (args := #[]) (mvT hZ (W21 B18.gw))) (W20 B18.gw) (W11 B18.gw) (W22 B18.gw) (by decide) (fE (i := 0) rfl) (k_me0 W a15 (0 : Int32) (0 : Int64) _ _) (argsL := []) (rest := []) rfl pd3 rfl rfl rfl (W := 0) rfl (by decide) (by decide) (cs' := 1) rfl (ss' := 3) rfl (by decide) (by decide) ?_
    intro T19 v20 B21
    replace B21 := Rn.and B21
    obtain ⟨rfl, B21⟩ := B21
    show Fn g D0 M _ (T19.setTop (mkF M.m 173 #[.val (.int p0), .val (.int p1), .val (.int p2), .val (.int p3), .val (.int p4), .val (.int (0 : Int32)), .val (.int (fq p0)), .val (.int (fq p1)), .val (.int (fq p2)), .val (.int (fq p3)), .val (.ref a15), .val (.long (0 : Int64)), .second, .val (.int (0 : Int32)), .unset, .unset, .unset, .unset] [(.double (FP.l2d 0))]))
    refine p_dstore B21 at_173 (pc' := 175) rfl (Ls' := #[.val (.int p0), .val (.int p1), .val (.int p2), .val (.int p3), .val (.int p4), .val (.int (0 : Int32)), .val (.int (fq p0)), .val (.int (fq p1)), .val (.int (fq p2)), .val (.int (fq p3)), .val (.ref a15), .val (.long (0 : Int64)), .second, .val (.int (0 : Int32)), .val (.double (FP.l2d 0)), .second, .unset, .unset]) rfl ?_
    refine p_iload B21 at_175 (pc' := 177) rfl rfl ?_
    refine b_ifF B21 at_177 (pc' := 180) rfl (show (0 : Int32) = (0 : Int32) from by decide) ?_
    refine p_dload B21 at_180 (pc' := 182) rfl rfl ?_
    refine p_dconst0 B21 at_182 (pc' := 183) rfl (v := (FP.l2d 0)) (by decide +kernel) ?_
    refine p_dcmp B21 at_183 (pc' := 184) rfl (v := (0 : Int32)) (Jvm.RoadKit.dcmpV_self (Jvm.Free.Fl.l2d_fin _).noNaN _) ?_
    refine b_ifF B21 at_184 (pc' := 187) rfl (show (0 : Int32) = (0 : Int32) from by decide) ?_
    refine p_iconst B21 at_187 (pc' := 188) rfl (v := (1 : Int32)) (by decide) ?_
    refine b_goto B21 at_188 (pc' := 192) (by decide) (by decide) ?_
    exact r_reti B21 at_192 rfl (by simp) rfl (by decide) (by decide) (fun vm h P => rfl)
  · rw [e]
    refine p_istore B at_7 (pc' := 9) rfl (Ls' := #[.val (.int p0), .val (.int p1), .val (.int p2), .val (.int p3), .val (.int p4), .val (.int (1 : Int32)), .unset, .unset, .unset, .unset, .unset, .unset, .unset, .unset, .unset, .unset, .unset, .unset]) rfl ?_
    refine p_iloadN B at_9 (pc' := 10) rfl rfl ?_
    refine r_static (D' := D1) B at_10 (pc' := 13) rfl (W1 B.gw) (W2 B.gw) (W3 B.gw) (W4 B.gw) (by decide) (k_fq W p0 _ _) (argsL := [(.int p0)]) (rest := []) rfl pd1 rfl rfl rfl (W := 0) rfl (by decide) (by decide) (cs' := 0) rfl (ss' := 0) rfl (by decide) (by decide) ?_
    intro T22 v23 B24
    replace B24 := Rn.and B24
    obtain ⟨rfl, B24⟩ := B24
    show Fn g D0 M _ (T22.setTop (mkF M.m 13 #[.val (.int p0), .val (.int p1), .val (.int p2), .val (.int p3), .val (.int p4), .val (.int (1 : Int32)), .unset, .unset, .unset, .unset, .unset, .unset, .unset, .unset, .unset, .unset, .unset, .unset] [(.int (fq p0))]))
    refine p_istore B24 at_13 (pc' := 15) rfl (Ls' := #[.val (.int p0), .val (.int p1), .val (.int p2), .val (.int p3), .val (.int p4), .val (.int (1 : Int32)), .val (.int (fq p0)), .unset, .unset, .unset, .unset, .unset, .unset, .unset, .unset, .unset, .unset, .unset]) rfl ?_
    refine p_iloadN B24 at_15 (pc' := 16) rfl rfl ?_
    refine r_static (D' := D1) B24 at_16 (pc' := 19) rfl (W1 B24.gw) (W2 B24.gw) (W3 B24.gw) (W4 B24.gw) (by decide) (k_fq W p1 _ _) (argsL := [(.int p1)]) (rest := []) rfl pd1 rfl rfl rfl (W := 0) rfl (by decide) (by decide) (cs' := 0) rfl (ss' := 0) rfl (by decide) (by decide) ?_
    intro T25 v26 B27
    replace B27 := Rn.and B27
    obtain ⟨rfl, B27⟩ := B27
    show Fn g D0 M _ (T25.setTop (mkF M.m 19 #[.val (.int p0), .val (.int p1), .val (.int p2), .val (.int p3), .val (.int p4), .val (.int (1 : Int32)), .val (.int (fq p0)), .unset, .unset, .unset, .unset, .unset, .unset, .unset, .unset, .unset, .unset, .unset] [(.int (fq p1))]))
    refine p_istore B27 at_19 (pc' := 21) rfl (Ls' := #[.val (.int p0), .val (.int p1), .val (.int p2), .val (.int p3), .val (.int p4), .val (.int (1 : Int32)), .val (.int (fq p0)), .val (.int (fq p1)), .unset, .unset, .unset, .unset, .unset, .unset, .unset, .unset, .unset, .unset]) rfl ?_
    refine p_iloadN B27 at_21 (pc' := 22) rfl rfl ?_
    refine r_static (D' := D1) B27 at_22 (pc' := 25) rfl (W1 B27.gw) (W2 B27.gw) (W3 B27.gw) (W4 B27.gw) (by decide) (k_fq W p2 _ _) (argsL := [(.int p2)]) (rest := []) rfl pd1 rfl rfl rfl (W := 0) rfl (by decide) (by decide) (cs' := 0) rfl (ss' := 0) rfl (by decide) (by decide) ?_
    intro T28 v29 B30
    replace B30 := Rn.and B30
    obtain ⟨rfl, B30⟩ := B30
    show Fn g D0 M _ (T28.setTop (mkF M.m 25 #[.val (.int p0), .val (.int p1), .val (.int p2), .val (.int p3), .val (.int p4), .val (.int (1 : Int32)), .val (.int (fq p0)), .val (.int (fq p1)), .unset, .unset, .unset, .unset, .unset, .unset, .unset, .unset, .unset, .unset] [(.int (fq p2))]))
    refine p_istore B30 at_25 (pc' := 27) rfl (Ls' := #[.val (.int p0), .val (.int p1), .val (.int p2), .val (.int p3), .val (.int p4), .val (.int (1 : Int32)), .val (.int (fq p0)), .val (.int (fq p1)), .val (.int (fq p2)), .unset, .unset, .unset, .unset, .unset, .unset, .unset, .unset, .unset]) rfl ?_
    refine p_iloadN B30 at_27 (pc' := 28) rfl rfl ?_
    refine r_static (D' := D1) B30 at_28 (pc' := 31) rfl (W1 B30.gw) (W2 B30.gw) (W3 B30.gw) (W4 B30.gw) (by decide) (k_fq W p3 _ _) (argsL := [(.int p3)]) (rest := []) rfl pd1 rfl rfl rfl (W := 0) rfl (by decide) (by decide) (cs' := 0) rfl (ss' := 0) rfl (by decide) (by decide) ?_
    intro T31 v32 B33
    replace B33 := Rn.and B33
    obtain ⟨rfl, B33⟩ := B33
    show Fn g D0 M _ (T31.setTop (mkF M.m 31 #[.val (.int p0), .val (.int p1), .val (.int p2), .val (.int p3), .val (.int p4), .val (.int (1 : Int32)), .val (.int (fq p0)), .val (.int (fq p1)), .val (.int (fq p2)), .unset, .unset, .unset, .unset, .unset, .unset, .unset, .unset, .unset] [(.int (fq p3))]))
    refine p_istore B33 at_31 (pc' := 33) rfl (Ls' := #[.val (.int p0), .val (.int p1), .val (.int p2), .val (.int p3), .val (.int p4), .val (.int (1 : Int32)), .val (.int (fq p0)), .val (.int (fq p1)), .val (.int (fq p2)), .val (.int (fq p3)), .unset, .unset, .unset, .unset, .unset, .unset, .unset, .unset]) rfl ?_
    refine r_new B33 at_33 (pc' := 36) rfl (W9 B33.gw) (W10 B33.gw) (W11 B33.gw) (Ly_o_VectorFrequencies B33.gw) (by decide) (cs' := 1) rfl (ss' := 3) rfl (by decide) (by decide) ?_
    intro T34 a36 B35
    refine p_dup B35 at_36 (pc' := 37) rfl rfl ?_
    refine r_special (D' := D3) B35 at_37 (pc' := 40) rfl rfl rfl (W12 B35.gw) (W13 B35.gw) (W11 B35.gw) (W14 B35.gw) (by decide) (k_vi W a36 _ _) (a := a36) (argsL := []) (rest := [(.ref a36)]) rfl pd2 rfl rfl rfl (W := 1) rfl (by decide) (by decide) (cs' := 1) rfl (ss' := 3) rfl (by decide) (by decide) ?_
    intro T37 v38 B39
    replace B39 := Rn.and B39
    obtain ⟨rfl, B39⟩ := B39
    show Fn g D0 M _ (T37.setTop (mkF M.m 40 #[.val (.int p0), .val (.int p1), .val (.int p2), .val (.int p3), .val (.int p4), .val (.int (1 : Int32)), .val (.int (fq p0)), .val (.int (fq p1)), .val (.int (fq p2)), .val (.int (fq p3)), .unset, .unset, .unset, .unset, .unset, .unset, .unset, .unset] [(.ref a36)]))
    refine p_astore B39 at_40 (pc' := 42) rfl rfl (Ls' := #[.val (.int p0), .val (.int p1), .val (.int p2), .val (.int p3), .val (.int p4), .val (.int (1 : Int32)), .val (.int (fq p0)), .val (.int (fq p1)), .val (.int (fq p2)), .val (.int (fq p3)), .val (.ref a36), .unset, .unset, .unset, .unset, .unset, .unset, .unset]) rfl ?_
    refine p_lconst B39 at_42 (pc' := 43) rfl (v := (0 : Int64)) (by decide) ?_
    refine p_lstore B39 at_43 (pc' := 45) rfl (Ls' := #[.val (.int p0), .val (.int p1), .val (.int p2), .val (.int p3), .val (.int p4), .val (.int (1 : Int32)), .val (.int (fq p0)), .val (.int (fq p1)), .val (.int (fq p2)), .val (.int (fq p3)), .val (.ref a36), .val (.long (0 : Int64)), .second, .unset, .unset, .unset, .unset, .unset]) rfl ?_
    refine p_iconst B39 at_45 (pc' := 46) rfl (v := (0 : Int32)) (by decide) ?_
    refine p_istore B39 at_46 (pc' := 48) rfl (Ls' := #[.val (.int p0), .val (.int p1), .val (.int p2), .val (.int p3), .val (.int p4), .val (.int (1 : Int32)), .val (.int (fq p0)), .val (.int (fq p1)), .val (.int (fq p2)), .val (.int (fq p3)), .val (.ref a36), .val (.long (0 : Int64)), .second, .val (.int (0 : Int32)), .unset, .unset, .unset, .unset]) rfl ?_
    refine p_iload B39 at_48 (pc' := 50) rfl rfl ?_
    refine p_iconst B39 at_50 (pc' := 51) rfl (v := (1 : Int32)) (by decide) ?_
    refine b_icF B39 at_51 (pc' := 54) rfl (show ¬ (1 : Int32) < (1 : Int32) from by decide) ?_
    refine p_aload B39 at_54 (pc' := 56) rfl rfl rfl ?_
    refine p_iload B39 at_56 (pc' := 58) rfl rfl ?_
    refine r_virtual (D' := D6) B39 at_58 (pc' := 61) rfl (W25 B39.gw) (W26 B39.gw) (W28 B39.gw) (fun vm0 hZ => notFace_of_selects (args := #[]) (mvT hZ (W28 B39.gw))) (W27 B39.gw) (W11 B39.gw) (W29 B39.gw) (by decide) (fE (i := 0) rfl) (k_ad W a36 (fq p0) (0 : Int32) (1 : Int32) (0 : Int32) (0 : Int64) (by decide) _ _) (argsL := [(.int (fq p0))]) (rest := []) rfl pd4 rfl rfl rfl (W := 0) rfl (by decide) (by decide) (cs' := 1) rfl (ss' := 3) rfl (by decide) (by decide) ?_
    intro T40 v41 B42
    replace B42 := Rn.and B42
    obtain ⟨rfl, B42⟩ := B42
    show Fn g D0 M _ (T40.setTop (mkF M.m 61 #[.val (.int p0), .val (.int p1), .val (.int p2), .val (.int p3), .val (.int p4), .val (.int (1 : Int32)), .val (.int (fq p0)), .val (.int (fq p1)), .val (.int (fq p2)), .val (.int (fq p3)), .val (.ref a36), .val (.long (0 : Int64)), .second, .val (.int (0 : Int32)), .unset, .unset, .unset, .unset] []))
    refine p_lload B42 at_61 (pc' := 63) rfl rfl ?_
    refine p_iload B42 at_63 (pc' := 65) rfl rfl ?_
    refine p_i2l B42 at_65 (pc' := 66) rfl ?_
    refine p_ladd B42 at_66 (pc' := 67) rfl ?_
    refine p_lstore B42 at_67 (pc' := 69) rfl (Ls' := #[.val (.int p0), .val (.int p1), .val (.int p2), .val (.int p3), .val (.int p4), .val (.int (1 : Int32)), .val (.int (fq p0)), .val (.int (fq p1)), .val (.int (fq p2)), .val (.int (fq p3)), .val (.ref a36), .val (.long ((0 : Int64) + ((fq p0)).toInt64)), .second, .val (.int (0 : Int32)), .unset, .unset, .unset, .unset]) rfl ?_
    refine p_iload B42 at_69 (pc' := 71) rfl rfl ?_
    refine p_iload B42 at_71 (pc' := 73) rfl rfl ?_
    refine r_static (D' := D2) B42 at_73 (pc' := 76) rfl (W5 B42.gw) (W6 B42.gw) (W7 B42.gw) (W8 B42.gw) (by decide) (k_mx W (0 : Int32) (fq p0) _ _) (argsL := [(.int (0 : Int32)), (.int (fq p0))]) (rest := []) rfl pd0 rfl rfl rfl (W := 0) rfl (by decide) (by decide) (cs' := 1) rfl (ss' := 3) rfl (by decide) (by decide) ?_
    intro T43 v44 B45
    replace B45 := Rn.and B45
    obtain ⟨rfl, B45⟩ := B45
    show Fn g D0 M _ (T43.setTop (mkF M.m 76 #[.val (.int p0), .val (.int p1), .val (.int p2), .val (.int p3), .val (.int p4), .val (.int (1 : Int32)), .val (.int (fq p0)), .val (.int (fq p1)), .val (.int (fq p2)), .val (.int (fq p3)), .val (.ref a36), .val (.long ((0 : Int64) + ((fq p0)).toInt64)), .second, .val (.int (0 : Int32)), .unset, .unset, .unset, .unset] [(.int (mxI (0 : Int32) (fq p0)))]))
    refine p_istore B45 at_76 (pc' := 78) rfl (Ls' := #[.val (.int p0), .val (.int p1), .val (.int p2), .val (.int p3), .val (.int p4), .val (.int (1 : Int32)), .val (.int (fq p0)), .val (.int (fq p1)), .val (.int (fq p2)), .val (.int (fq p3)), .val (.ref a36), .val (.long ((0 : Int64) + ((fq p0)).toInt64)), .second, .val (.int (mxI (0 : Int32) (fq p0))), .unset, .unset, .unset, .unset]) rfl ?_
    refine p_iload B45 at_78 (pc' := 80) rfl rfl ?_
    refine p_iconst B45 at_80 (pc' := 81) rfl (v := (2 : Int32)) (by decide) ?_
    refine b_icT B45 at_81 (pc' := 108) (show (1 : Int32) < (2 : Int32) from by decide) (by decide) (by decide) ?_
    refine p_iload B45 at_108 (pc' := 110) rfl rfl ?_
    refine p_iconst B45 at_110 (pc' := 111) rfl (v := (3 : Int32)) (by decide) ?_
    refine b_icT B45 at_111 (pc' := 138) (show (1 : Int32) < (3 : Int32) from by decide) (by decide) (by decide) ?_
    refine p_iload B45 at_138 (pc' := 140) rfl rfl ?_
    refine p_iconst B45 at_140 (pc' := 141) rfl (v := (4 : Int32)) (by decide) ?_
    refine b_icT B45 at_141 (pc' := 168) (show (1 : Int32) < (4 : Int32) from by decide) (by decide) (by decide) ?_
    refine p_aload B45 at_168 (pc' := 170) rfl rfl rfl ?_
    refine r_virtual (D' := D5) B45 at_170 (pc' := 173) rfl (W18 B45.gw) (W19 B45.gw) (W21 B45.gw) (fun vm0 hZ => notFace_of_selects (args := #[]) (mvT hZ (W21 B45.gw))) (W20 B45.gw) (W11 B45.gw) (W22 B45.gw) (by decide) (fE (i := 0) rfl) (k_me W a36 (1 : Int32) (mxI (0 : Int32) (fq p0)) ((0 : Int64) + ((fq p0)).toInt64) (by decide) _ _) (argsL := []) (rest := []) rfl pd3 rfl rfl rfl (W := 0) rfl (by decide) (by decide) (cs' := 1) rfl (ss' := 3) rfl (by decide) (by decide) ?_
    intro T46 v47 B48
    replace B48 := Rn.and B48
    obtain ⟨rfl, B48⟩ := B48
    show Fn g D0 M _ (T46.setTop (mkF M.m 173 #[.val (.int p0), .val (.int p1), .val (.int p2), .val (.int p3), .val (.int p4), .val (.int (1 : Int32)), .val (.int (fq p0)), .val (.int (fq p1)), .val (.int (fq p2)), .val (.int (fq p3)), .val (.ref a36), .val (.long ((0 : Int64) + ((fq p0)).toInt64)), .second, .val (.int (mxI (0 : Int32) (fq p0))), .unset, .unset, .unset, .unset] [(.double (FP.ddiv (FP.l2d ((0 : Int64) + ((fq p0)).toInt64)) (FP.i2d (1 : Int32))))]))
    refine p_dstore B48 at_173 (pc' := 175) rfl (Ls' := #[.val (.int p0), .val (.int p1), .val (.int p2), .val (.int p3), .val (.int p4), .val (.int (1 : Int32)), .val (.int (fq p0)), .val (.int (fq p1)), .val (.int (fq p2)), .val (.int (fq p3)), .val (.ref a36), .val (.long ((0 : Int64) + ((fq p0)).toInt64)), .second, .val (.int (mxI (0 : Int32) (fq p0))), .val (.double (FP.ddiv (FP.l2d ((0 : Int64) + ((fq p0)).toInt64)) (FP.i2d (1 : Int32)))), .second, .unset, .unset]) rfl ?_
    refine p_iload B48 at_175 (pc' := 177) rfl rfl ?_
    refine b_ifT B48 at_177 (pc' := 193) (show ¬ (1 : Int32) = (0 : Int32) from by decide) (by decide) (by decide) ?_
    refine p_lload B48 at_193 (pc' := 195) rfl rfl ?_
    refine p_l2d B48 at_195 (pc' := 196) rfl rfl ?_
    refine p_iload B48 at_196 (pc' := 198) rfl rfl ?_
    refine p_i2d B48 at_198 (pc' := 199) rfl rfl ?_
    refine p_ddiv B48 at_199 (pc' := 200) rfl (nnq (by decide)) rfl ?_
    refine p_dstore B48 at_200 (pc' := 202) rfl (Ls' := #[.val (.int p0), .val (.int p1), .val (.int p2), .val (.int p3), .val (.int p4), .val (.int (1 : Int32)), .val (.int (fq p0)), .val (.int (fq p1)), .val (.int (fq p2)), .val (.int (fq p3)), .val (.ref a36), .val (.long ((0 : Int64) + ((fq p0)).toInt64)), .second, .val (.int (mxI (0 : Int32) (fq p0))), .val (.double (FP.ddiv (FP.l2d ((0 : Int64) + ((fq p0)).toInt64)) (FP.i2d (1 : Int32)))), .second, .val (.double (FP.ddiv (FP.l2d ((0 : Int64) + ((fq p0)).toInt64)) (FP.i2d (1 : Int32)))), .second]) rfl ?_
    refine p_dload B48 at_202 (pc' := 204) rfl rfl ?_
    refine p_dload B48 at_204 (pc' := 206) rfl rfl ?_
    refine p_dcmp B48 at_206 (pc' := 207) rfl (v := (0 : Int32)) (Jvm.RoadKit.dcmpV_self (nnq (by decide)) _) ?_
    refine b_ifF B48 at_207 (pc' := 210) rfl (show (0 : Int32) = (0 : Int32) from by decide) ?_
    refine p_dload B48 at_210 (pc' := 212) rfl rfl ?_
    refine p_dconst1 B48 at_212 (pc' := 213) rfl (v := (FP.l2d 1)) (by decide +kernel) ?_
    refine p_dcmp B48 at_213 (pc' := 214) rfl (v := (cmpValue (FP.dcmp (FP.ddiv (FP.l2d ((0 : Int64) + ((fq p0)).toInt64)) (FP.i2d (1 : Int32))) (FP.l2d 1)) .l)) rfl ?_
    have f0 := fq_r p0
    have g0 := mx_r (0 : Int32) (fq p0)
    have l0 := c_ladd (0 : Int64) (fq p0).toInt64
    have r0 := rng64 ((0 : Int64) + (fq p0).toInt64)
    rw [c_i2l] at l0
    have z0 : (0 : Int32).toInt = 0 := rfl
    have z1 : (0 : Int64).toInt = 0 := rfl
    have z2 : (1 : Int32).toInt = 1 := rfl
    have ts : ((0 : Int64) + ((fq p0)).toInt64).toInt = (fq p0).toInt := by omega
    refine b_ifF B48 at_214 (pc' := 217) rfl (q_lo (by omega) (by omega) (by omega)) ?_
    refine p_dload B48 at_217 (pc' := 219) rfl rfl ?_
    refine p_iload B48 at_219 (pc' := 221) rfl rfl ?_
    refine p_i2d B48 at_221 (pc' := 222) rfl rfl ?_
    refine p_dcmp B48 at_222 (pc' := 223) rfl (v := (cmpValue (FP.dcmp (FP.ddiv (FP.l2d ((0 : Int64) + ((fq p0)).toInt64)) (FP.i2d (1 : Int32))) (FP.i2d (mxI (0 : Int32) (fq p0)))) .g)) rfl ?_
    refine b_ifF B48 at_223 (pc' := 226) rfl (q_hi (by omega) (by omega) (by omega) (by rw [z2]; omega) (by omega)) ?_
    refine p_iconst B48 at_226 (pc' := 227) rfl (v := (1 : Int32)) (by decide) ?_
    refine b_goto B48 at_227 (pc' := 231) (by decide) (by decide) ?_
    exact r_reti B48 at_231 rfl (by simp) rfl (by decide) (by decide) (fun vm h P => rfl)
  · rw [e]
    refine p_istore B at_7 (pc' := 9) rfl (Ls' := #[.val (.int p0), .val (.int p1), .val (.int p2), .val (.int p3), .val (.int p4), .val (.int (2 : Int32)), .unset, .unset, .unset, .unset, .unset, .unset, .unset, .unset, .unset, .unset, .unset, .unset]) rfl ?_
    refine p_iloadN B at_9 (pc' := 10) rfl rfl ?_
    refine r_static (D' := D1) B at_10 (pc' := 13) rfl (W1 B.gw) (W2 B.gw) (W3 B.gw) (W4 B.gw) (by decide) (k_fq W p0 _ _) (argsL := [(.int p0)]) (rest := []) rfl pd1 rfl rfl rfl (W := 0) rfl (by decide) (by decide) (cs' := 0) rfl (ss' := 0) rfl (by decide) (by decide) ?_
    intro T49 v50 B51
    replace B51 := Rn.and B51
    obtain ⟨rfl, B51⟩ := B51
    show Fn g D0 M _ (T49.setTop (mkF M.m 13 #[.val (.int p0), .val (.int p1), .val (.int p2), .val (.int p3), .val (.int p4), .val (.int (2 : Int32)), .unset, .unset, .unset, .unset, .unset, .unset, .unset, .unset, .unset, .unset, .unset, .unset] [(.int (fq p0))]))
    refine p_istore B51 at_13 (pc' := 15) rfl (Ls' := #[.val (.int p0), .val (.int p1), .val (.int p2), .val (.int p3), .val (.int p4), .val (.int (2 : Int32)), .val (.int (fq p0)), .unset, .unset, .unset, .unset, .unset, .unset, .unset, .unset, .unset, .unset, .unset]) rfl ?_
    refine p_iloadN B51 at_15 (pc' := 16) rfl rfl ?_
    refine r_static (D' := D1) B51 at_16 (pc' := 19) rfl (W1 B51.gw) (W2 B51.gw) (W3 B51.gw) (W4 B51.gw) (by decide) (k_fq W p1 _ _) (argsL := [(.int p1)]) (rest := []) rfl pd1 rfl rfl rfl (W := 0) rfl (by decide) (by decide) (cs' := 0) rfl (ss' := 0) rfl (by decide) (by decide) ?_
    intro T52 v53 B54
    replace B54 := Rn.and B54
    obtain ⟨rfl, B54⟩ := B54
    show Fn g D0 M _ (T52.setTop (mkF M.m 19 #[.val (.int p0), .val (.int p1), .val (.int p2), .val (.int p3), .val (.int p4), .val (.int (2 : Int32)), .val (.int (fq p0)), .unset, .unset, .unset, .unset, .unset, .unset, .unset, .unset, .unset, .unset, .unset] [(.int (fq p1))]))
    refine p_istore B54 at_19 (pc' := 21) rfl (Ls' := #[.val (.int p0), .val (.int p1), .val (.int p2), .val (.int p3), .val (.int p4), .val (.int (2 : Int32)), .val (.int (fq p0)), .val (.int (fq p1)), .unset, .unset, .unset, .unset, .unset, .unset, .unset, .unset, .unset, .unset]) rfl ?_
    refine p_iloadN B54 at_21 (pc' := 22) rfl rfl ?_
    refine r_static (D' := D1) B54 at_22 (pc' := 25) rfl (W1 B54.gw) (W2 B54.gw) (W3 B54.gw) (W4 B54.gw) (by decide) (k_fq W p2 _ _) (argsL := [(.int p2)]) (rest := []) rfl pd1 rfl rfl rfl (W := 0) rfl (by decide) (by decide) (cs' := 0) rfl (ss' := 0) rfl (by decide) (by decide) ?_
    intro T55 v56 B57
    replace B57 := Rn.and B57
    obtain ⟨rfl, B57⟩ := B57
    show Fn g D0 M _ (T55.setTop (mkF M.m 25 #[.val (.int p0), .val (.int p1), .val (.int p2), .val (.int p3), .val (.int p4), .val (.int (2 : Int32)), .val (.int (fq p0)), .val (.int (fq p1)), .unset, .unset, .unset, .unset, .unset, .unset, .unset, .unset, .unset, .unset] [(.int (fq p2))]))
    refine p_istore B57 at_25 (pc' := 27) rfl (Ls' := #[.val (.int p0), .val (.int p1), .val (.int p2), .val (.int p3), .val (.int p4), .val (.int (2 : Int32)), .val (.int (fq p0)), .val (.int (fq p1)), .val (.int (fq p2)), .unset, .unset, .unset, .unset, .unset, .unset, .unset, .unset, .unset]) rfl ?_
    refine p_iloadN B57 at_27 (pc' := 28) rfl rfl ?_
    refine r_static (D' := D1) B57 at_28 (pc' := 31) rfl (W1 B57.gw) (W2 B57.gw) (W3 B57.gw) (W4 B57.gw) (by decide) (k_fq W p3 _ _) (argsL := [(.int p3)]) (rest := []) rfl pd1 rfl rfl rfl (W := 0) rfl (by decide) (by decide) (cs' := 0) rfl (ss' := 0) rfl (by decide) (by decide) ?_
    intro T58 v59 B60
    replace B60 := Rn.and B60
    obtain ⟨rfl, B60⟩ := B60
    show Fn g D0 M _ (T58.setTop (mkF M.m 31 #[.val (.int p0), .val (.int p1), .val (.int p2), .val (.int p3), .val (.int p4), .val (.int (2 : Int32)), .val (.int (fq p0)), .val (.int (fq p1)), .val (.int (fq p2)), .unset, .unset, .unset, .unset, .unset, .unset, .unset, .unset, .unset] [(.int (fq p3))]))
    refine p_istore B60 at_31 (pc' := 33) rfl (Ls' := #[.val (.int p0), .val (.int p1), .val (.int p2), .val (.int p3), .val (.int p4), .val (.int (2 : Int32)), .val (.int (fq p0)), .val (.int (fq p1)), .val (.int (fq p2)), .val (.int (fq p3)), .unset, .unset, .unset, .unset, .unset, .unset, .unset, .unset]) rfl ?_
    refine r_new B60 at_33 (pc' := 36) rfl (W9 B60.gw) (W10 B60.gw) (W11 B60.gw) (Ly_o_VectorFrequencies B60.gw) (by decide) (cs' := 1) rfl (ss' := 3) rfl (by decide) (by decide) ?_
    intro T61 a63 B62
    refine p_dup B62 at_36 (pc' := 37) rfl rfl ?_
    refine r_special (D' := D3) B62 at_37 (pc' := 40) rfl rfl rfl (W12 B62.gw) (W13 B62.gw) (W11 B62.gw) (W14 B62.gw) (by decide) (k_vi W a63 _ _) (a := a63) (argsL := []) (rest := [(.ref a63)]) rfl pd2 rfl rfl rfl (W := 1) rfl (by decide) (by decide) (cs' := 1) rfl (ss' := 3) rfl (by decide) (by decide) ?_
    intro T64 v65 B66
    replace B66 := Rn.and B66
    obtain ⟨rfl, B66⟩ := B66
    show Fn g D0 M _ (T64.setTop (mkF M.m 40 #[.val (.int p0), .val (.int p1), .val (.int p2), .val (.int p3), .val (.int p4), .val (.int (2 : Int32)), .val (.int (fq p0)), .val (.int (fq p1)), .val (.int (fq p2)), .val (.int (fq p3)), .unset, .unset, .unset, .unset, .unset, .unset, .unset, .unset] [(.ref a63)]))
    refine p_astore B66 at_40 (pc' := 42) rfl rfl (Ls' := #[.val (.int p0), .val (.int p1), .val (.int p2), .val (.int p3), .val (.int p4), .val (.int (2 : Int32)), .val (.int (fq p0)), .val (.int (fq p1)), .val (.int (fq p2)), .val (.int (fq p3)), .val (.ref a63), .unset, .unset, .unset, .unset, .unset, .unset, .unset]) rfl ?_
    refine p_lconst B66 at_42 (pc' := 43) rfl (v := (0 : Int64)) (by decide) ?_
    refine p_lstore B66 at_43 (pc' := 45) rfl (Ls' := #[.val (.int p0), .val (.int p1), .val (.int p2), .val (.int p3), .val (.int p4), .val (.int (2 : Int32)), .val (.int (fq p0)), .val (.int (fq p1)), .val (.int (fq p2)), .val (.int (fq p3)), .val (.ref a63), .val (.long (0 : Int64)), .second, .unset, .unset, .unset, .unset, .unset]) rfl ?_
    refine p_iconst B66 at_45 (pc' := 46) rfl (v := (0 : Int32)) (by decide) ?_
    refine p_istore B66 at_46 (pc' := 48) rfl (Ls' := #[.val (.int p0), .val (.int p1), .val (.int p2), .val (.int p3), .val (.int p4), .val (.int (2 : Int32)), .val (.int (fq p0)), .val (.int (fq p1)), .val (.int (fq p2)), .val (.int (fq p3)), .val (.ref a63), .val (.long (0 : Int64)), .second, .val (.int (0 : Int32)), .unset, .unset, .unset, .unset]) rfl ?_
    refine p_iload B66 at_48 (pc' := 50) rfl rfl ?_
    refine p_iconst B66 at_50 (pc' := 51) rfl (v := (1 : Int32)) (by decide) ?_
    refine b_icF B66 at_51 (pc' := 54) rfl (show ¬ (2 : Int32) < (1 : Int32) from by decide) ?_
    refine p_aload B66 at_54 (pc' := 56) rfl rfl rfl ?_
    refine p_iload B66 at_56 (pc' := 58) rfl rfl ?_
    refine r_virtual (D' := D6) B66 at_58 (pc' := 61) rfl (W25 B66.gw) (W26 B66.gw) (W28 B66.gw) (fun vm0 hZ => notFace_of_selects (args := #[]) (mvT hZ (W28 B66.gw))) (W27 B66.gw) (W11 B66.gw) (W29 B66.gw) (by decide) (fE (i := 0) rfl) (k_ad W a63 (fq p0) (0 : Int32) (1 : Int32) (0 : Int32) (0 : Int64) (by decide) _ _) (argsL := [(.int (fq p0))]) (rest := []) rfl pd4 rfl rfl rfl (W := 0) rfl (by decide) (by decide) (cs' := 1) rfl (ss' := 3) rfl (by decide) (by decide) ?_
    intro T67 v68 B69
    replace B69 := Rn.and B69
    obtain ⟨rfl, B69⟩ := B69
    show Fn g D0 M _ (T67.setTop (mkF M.m 61 #[.val (.int p0), .val (.int p1), .val (.int p2), .val (.int p3), .val (.int p4), .val (.int (2 : Int32)), .val (.int (fq p0)), .val (.int (fq p1)), .val (.int (fq p2)), .val (.int (fq p3)), .val (.ref a63), .val (.long (0 : Int64)), .second, .val (.int (0 : Int32)), .unset, .unset, .unset, .unset] []))
    refine p_lload B69 at_61 (pc' := 63) rfl rfl ?_
    refine p_iload B69 at_63 (pc' := 65) rfl rfl ?_
    refine p_i2l B69 at_65 (pc' := 66) rfl ?_
    refine p_ladd B69 at_66 (pc' := 67) rfl ?_
    refine p_lstore B69 at_67 (pc' := 69) rfl (Ls' := #[.val (.int p0), .val (.int p1), .val (.int p2), .val (.int p3), .val (.int p4), .val (.int (2 : Int32)), .val (.int (fq p0)), .val (.int (fq p1)), .val (.int (fq p2)), .val (.int (fq p3)), .val (.ref a63), .val (.long ((0 : Int64) + ((fq p0)).toInt64)), .second, .val (.int (0 : Int32)), .unset, .unset, .unset, .unset]) rfl ?_
    refine p_iload B69 at_69 (pc' := 71) rfl rfl ?_
    refine p_iload B69 at_71 (pc' := 73) rfl rfl ?_
    refine r_static (D' := D2) B69 at_73 (pc' := 76) rfl (W5 B69.gw) (W6 B69.gw) (W7 B69.gw) (W8 B69.gw) (by decide) (k_mx W (0 : Int32) (fq p0) _ _) (argsL := [(.int (0 : Int32)), (.int (fq p0))]) (rest := []) rfl pd0 rfl rfl rfl (W := 0) rfl (by decide) (by decide) (cs' := 1) rfl (ss' := 3) rfl (by decide) (by decide) ?_
    intro T70 v71 B72
    replace B72 := Rn.and B72
    obtain ⟨rfl, B72⟩ := B72
    show Fn g D0 M _ (T70.setTop (mkF M.m 76 #[.val (.int p0), .val (.int p1), .val (.int p2), .val (.int p3), .val (.int p4), .val (.int (2 : Int32)), .val (.int (fq p0)), .val (.int (fq p1)), .val (.int (fq p2)), .val (.int (fq p3)), .val (.ref a63), .val (.long ((0 : Int64) + ((fq p0)).toInt64)), .second, .val (.int (0 : Int32)), .unset, .unset, .unset, .unset] [(.int (mxI (0 : Int32) (fq p0)))]))
    refine p_istore B72 at_76 (pc' := 78) rfl (Ls' := #[.val (.int p0), .val (.int p1), .val (.int p2), .val (.int p3), .val (.int p4), .val (.int (2 : Int32)), .val (.int (fq p0)), .val (.int (fq p1)), .val (.int (fq p2)), .val (.int (fq p3)), .val (.ref a63), .val (.long ((0 : Int64) + ((fq p0)).toInt64)), .second, .val (.int (mxI (0 : Int32) (fq p0))), .unset, .unset, .unset, .unset]) rfl ?_
    refine p_iload B72 at_78 (pc' := 80) rfl rfl ?_
    refine p_iconst B72 at_80 (pc' := 81) rfl (v := (2 : Int32)) (by decide) ?_
    refine b_icF B72 at_81 (pc' := 84) rfl (show ¬ (2 : Int32) < (2 : Int32) from by decide) ?_
    refine p_aload B72 at_84 (pc' := 86) rfl rfl rfl ?_
    refine p_iload B72 at_86 (pc' := 88) rfl rfl ?_
    refine r_virtual (D' := D6) B72 at_88 (pc' := 91) rfl (W25 B72.gw) (W26 B72.gw) (W28 B72.gw) (fun vm0 hZ => notFace_of_selects (args := #[]) (mvT hZ (W28 B72.gw))) (W27 B72.gw) (W11 B72.gw) (W29 B72.gw) (by decide) (fE (i := 0) rfl) (k_ad W a63 (fq p1) (1 : Int32) (2 : Int32) (mxI (0 : Int32) (fq p0)) ((0 : Int64) + ((fq p0)).toInt64) (by decide) _ _) (argsL := [(.int (fq p1))]) (rest := []) rfl pd4 rfl rfl rfl (W := 0) rfl (by decide) (by decide) (cs' := 1) rfl (ss' := 3) rfl (by decide) (by decide) ?_
    intro T73 v74 B75
    replace B75 := Rn.and B75
    obtain ⟨rfl, B75⟩ := B75
    show Fn g D0 M _ (T73.setTop (mkF M.m 91 #[.val (.int p0), .val (.int p1), .val (.int p2), .val (.int p3), .val (.int p4), .val (.int (2 : Int32)), .val (.int (fq p0)), .val (.int (fq p1)), .val (.int (fq p2)), .val (.int (fq p3)), .val (.ref a63), .val (.long ((0 : Int64) + ((fq p0)).toInt64)), .second, .val (.int (mxI (0 : Int32) (fq p0))), .unset, .unset, .unset, .unset] []))
    refine p_lload B75 at_91 (pc' := 93) rfl rfl ?_
    refine p_iload B75 at_93 (pc' := 95) rfl rfl ?_
    refine p_i2l B75 at_95 (pc' := 96) rfl ?_
    refine p_ladd B75 at_96 (pc' := 97) rfl ?_
    refine p_lstore B75 at_97 (pc' := 99) rfl (Ls' := #[.val (.int p0), .val (.int p1), .val (.int p2), .val (.int p3), .val (.int p4), .val (.int (2 : Int32)), .val (.int (fq p0)), .val (.int (fq p1)), .val (.int (fq p2)), .val (.int (fq p3)), .val (.ref a63), .val (.long (((0 : Int64) + ((fq p0)).toInt64) + ((fq p1)).toInt64)), .second, .val (.int (mxI (0 : Int32) (fq p0))), .unset, .unset, .unset, .unset]) rfl ?_
    refine p_iload B75 at_99 (pc' := 101) rfl rfl ?_
    refine p_iload B75 at_101 (pc' := 103) rfl rfl ?_
    refine r_static (D' := D2) B75 at_103 (pc' := 106) rfl (W5 B75.gw) (W6 B75.gw) (W7 B75.gw) (W8 B75.gw) (by decide) (k_mx W (mxI (0 : Int32) (fq p0)) (fq p1) _ _) (argsL := [(.int (mxI (0 : Int32) (fq p0))), (.int (fq p1))]) (rest := []) rfl pd0 rfl rfl rfl (W := 0) rfl (by decide) (by decide) (cs' := 1) rfl (ss' := 3) rfl (by decide) (by decide) ?_
    intro T76 v77 B78
    replace B78 := Rn.and B78
    obtain ⟨rfl, B78⟩ := B78
    show Fn g D0 M _ (T76.setTop (mkF M.m 106 #[.val (.int p0), .val (.int p1), .val (.int p2), .val (.int p3), .val (.int p4), .val (.int (2 : Int32)), .val (.int (fq p0)), .val (.int (fq p1)), .val (.int (fq p2)), .val (.int (fq p3)), .val (.ref a63), .val (.long (((0 : Int64) + ((fq p0)).toInt64) + ((fq p1)).toInt64)), .second, .val (.int (mxI (0 : Int32) (fq p0))), .unset, .unset, .unset, .unset] [(.int (mxI (mxI (0 : Int32) (fq p0)) (fq p1)))]))
    refine p_istore B78 at_106 (pc' := 108) rfl (Ls' := #[.val (.int p0), .val (.int p1), .val (.int p2), .val (.int p3), .val (.int p4), .val (.int (2 : Int32)), .val (.int (fq p0)), .val (.int (fq p1)), .val (.int (fq p2)), .val (.int (fq p3)), .val (.ref a63), .val (.long (((0 : Int64) + ((fq p0)).toInt64) + ((fq p1)).toInt64)), .second, .val (.int (mxI (mxI (0 : Int32) (fq p0)) (fq p1))), .unset, .unset, .unset, .unset]) rfl ?_
    refine p_iload B78 at_108 (pc' := 110) rfl rfl ?_
    refine p_iconst B78 at_110 (pc' := 111) rfl (v := (3 : Int32)) (by decide) ?_
    refine b_icT B78 at_111 (pc' := 138) (show (2 : Int32) < (3 : Int32) from by decide) (by decide) (by decide) ?_
    refine p_iload B78 at_138 (pc' := 140) rfl rfl ?_
    refine p_iconst B78 at_140 (pc' := 141) rfl (v := (4 : Int32)) (by decide) ?_
    refine b_icT B78 at_141 (pc' := 168) (show (2 : Int32) < (4 : Int32) from by decide) (by decide) (by decide) ?_
    refine p_aload B78 at_168 (pc' := 170) rfl rfl rfl ?_
    refine r_virtual (D' := D5) B78 at_170 (pc' := 173) rfl (W18 B78.gw) (W19 B78.gw) (W21 B78.gw) (fun vm0 hZ => notFace_of_selects (args := #[]) (mvT hZ (W21 B78.gw))) (W20 B78.gw) (W11 B78.gw) (W22 B78.gw) (by decide) (fE (i := 0) rfl) (k_me W a63 (2 : Int32) (mxI (mxI (0 : Int32) (fq p0)) (fq p1)) (((0 : Int64) + ((fq p0)).toInt64) + ((fq p1)).toInt64) (by decide) _ _) (argsL := []) (rest := []) rfl pd3 rfl rfl rfl (W := 0) rfl (by decide) (by decide) (cs' := 1) rfl (ss' := 3) rfl (by decide) (by decide) ?_
    intro T79 v80 B81
    replace B81 := Rn.and B81
    obtain ⟨rfl, B81⟩ := B81
    show Fn g D0 M _ (T79.setTop (mkF M.m 173 #[.val (.int p0), .val (.int p1), .val (.int p2), .val (.int p3), .val (.int p4), .val (.int (2 : Int32)), .val (.int (fq p0)), .val (.int (fq p1)), .val (.int (fq p2)), .val (.int (fq p3)), .val (.ref a63), .val (.long (((0 : Int64) + ((fq p0)).toInt64) + ((fq p1)).toInt64)), .second, .val (.int (mxI (mxI (0 : Int32) (fq p0)) (fq p1))), .unset, .unset, .unset, .unset] [(.double (FP.ddiv (FP.l2d (((0 : Int64) + ((fq p0)).toInt64) + ((fq p1)).toInt64)) (FP.i2d (2 : Int32))))]))
    refine p_dstore B81 at_173 (pc' := 175) rfl (Ls' := #[.val (.int p0), .val (.int p1), .val (.int p2), .val (.int p3), .val (.int p4), .val (.int (2 : Int32)), .val (.int (fq p0)), .val (.int (fq p1)), .val (.int (fq p2)), .val (.int (fq p3)), .val (.ref a63), .val (.long (((0 : Int64) + ((fq p0)).toInt64) + ((fq p1)).toInt64)), .second, .val (.int (mxI (mxI (0 : Int32) (fq p0)) (fq p1))), .val (.double (FP.ddiv (FP.l2d (((0 : Int64) + ((fq p0)).toInt64) + ((fq p1)).toInt64)) (FP.i2d (2 : Int32)))), .second, .unset, .unset]) rfl ?_
    refine p_iload B81 at_175 (pc' := 177) rfl rfl ?_
    refine b_ifT B81 at_177 (pc' := 193) (show ¬ (2 : Int32) = (0 : Int32) from by decide) (by decide) (by decide) ?_
    refine p_lload B81 at_193 (pc' := 195) rfl rfl ?_
    refine p_l2d B81 at_195 (pc' := 196) rfl rfl ?_
    refine p_iload B81 at_196 (pc' := 198) rfl rfl ?_
    refine p_i2d B81 at_198 (pc' := 199) rfl rfl ?_
    refine p_ddiv B81 at_199 (pc' := 200) rfl (nnq (by decide)) rfl ?_
    refine p_dstore B81 at_200 (pc' := 202) rfl (Ls' := #[.val (.int p0), .val (.int p1), .val (.int p2), .val (.int p3), .val (.int p4), .val (.int (2 : Int32)), .val (.int (fq p0)), .val (.int (fq p1)), .val (.int (fq p2)), .val (.int (fq p3)), .val (.ref a63), .val (.long (((0 : Int64) + ((fq p0)).toInt64) + ((fq p1)).toInt64)), .second, .val (.int (mxI (mxI (0 : Int32) (fq p0)) (fq p1))), .val (.double (FP.ddiv (FP.l2d (((0 : Int64) + ((fq p0)).toInt64) + ((fq p1)).toInt64)) (FP.i2d (2 : Int32)))), .second, .val (.double (FP.ddiv (FP.l2d (((0 : Int64) + ((fq p0)).toInt64) + ((fq p1)).toInt64)) (FP.i2d (2 : Int32)))), .second]) rfl ?_
    refine p_dload B81 at_202 (pc' := 204) rfl rfl ?_
    refine p_dload B81 at_204 (pc' := 206) rfl rfl ?_
    refine p_dcmp B81 at_206 (pc' := 207) rfl (v := (0 : Int32)) (Jvm.RoadKit.dcmpV_self (nnq (by decide)) _) ?_
    refine b_ifF B81 at_207 (pc' := 210) rfl (show (0 : Int32) = (0 : Int32) from by decide) ?_
    refine p_dload B81 at_210 (pc' := 212) rfl rfl ?_
    refine p_dconst1 B81 at_212 (pc' := 213) rfl (v := (FP.l2d 1)) (by decide +kernel) ?_
    refine p_dcmp B81 at_213 (pc' := 214) rfl (v := (cmpValue (FP.dcmp (FP.ddiv (FP.l2d (((0 : Int64) + ((fq p0)).toInt64) + ((fq p1)).toInt64)) (FP.i2d (2 : Int32))) (FP.l2d 1)) .l)) rfl ?_
    have f0 := fq_r p0
    have g0 := mx_r (0 : Int32) (fq p0)
    have f1 := fq_r p1
    have g1 := mx_r (mxI (0 : Int32) (fq p0)) (fq p1)
    have l0 := c_ladd (0 : Int64) (fq p0).toInt64
    have r0 := rng64 ((0 : Int64) + (fq p0).toInt64)
    rw [c_i2l] at l0
    have l1 := c_ladd ((0 : Int64) + (fq p0).toInt64) (fq p1).toInt64
    have r1 := rng64 (((0 : Int64) + (fq p0).toInt64) + (fq p1).toInt64)
    rw [c_i2l] at l1
    have z0 : (0 : Int32).toInt = 0 := rfl
    have z1 : (0 : Int64).toInt = 0 := rfl
    have z2 : (2 : Int32).toInt = 2 := rfl
    have ts : (((0 : Int64) + ((fq p0)).toInt64) + ((fq p1)).toInt64).toInt = (fq p0).toInt + (fq p1).toInt := by omega
    refine b_ifF B81 at_214 (pc' := 217) rfl (q_lo (by omega) (by omega) (by omega)) ?_
    refine p_dload B81 at_217 (pc' := 219) rfl rfl ?_
    refine p_iload B81 at_219 (pc' := 221) rfl rfl ?_
    refine p_i2d B81 at_221 (pc' := 222) rfl rfl ?_
    refine p_dcmp B81 at_222 (pc' := 223) rfl (v := (cmpValue (FP.dcmp (FP.ddiv (FP.l2d (((0 : Int64) + ((fq p0)).toInt64) + ((fq p1)).toInt64)) (FP.i2d (2 : Int32))) (FP.i2d (mxI (mxI (0 : Int32) (fq p0)) (fq p1)))) .g)) rfl ?_
    refine b_ifF B81 at_223 (pc' := 226) rfl (q_hi (by omega) (by omega) (by omega) (by rw [z2]; omega) (by omega)) ?_
    refine p_iconst B81 at_226 (pc' := 227) rfl (v := (1 : Int32)) (by decide) ?_
    refine b_goto B81 at_227 (pc' := 231) (by decide) (by decide) ?_
    exact r_reti B81 at_231 rfl (by simp) rfl (by decide) (by decide) (fun vm h P => rfl)
  · rw [e]
    refine p_istore B at_7 (pc' := 9) rfl (Ls' := #[.val (.int p0), .val (.int p1), .val (.int p2), .val (.int p3), .val (.int p4), .val (.int (3 : Int32)), .unset, .unset, .unset, .unset, .unset, .unset, .unset, .unset, .unset, .unset, .unset, .unset]) rfl ?_
    refine p_iloadN B at_9 (pc' := 10) rfl rfl ?_
    refine r_static (D' := D1) B at_10 (pc' := 13) rfl (W1 B.gw) (W2 B.gw) (W3 B.gw) (W4 B.gw) (by decide) (k_fq W p0 _ _) (argsL := [(.int p0)]) (rest := []) rfl pd1 rfl rfl rfl (W := 0) rfl (by decide) (by decide) (cs' := 0) rfl (ss' := 0) rfl (by decide) (by decide) ?_
    intro T82 v83 B84
    replace B84 := Rn.and B84
    obtain ⟨rfl, B84⟩ := B84
    show Fn g D0 M _ (T82.setTop (mkF M.m 13 #[.val (.int p0), .val (.int p1), .val (.int p2), .val (.int p3), .val (.int p4), .val (.int (3 : Int32)), .unset, .unset, .unset, .unset, .unset, .unset, .unset, .unset, .unset, .unset, .unset, .unset] [(.int (fq p0))]))
    refine p_istore B84 at_13 (pc' := 15) rfl (Ls' := #[.val (.int p0), .val (.int p1), .val (.int p2), .val (.int p3), .val (.int p4), .val (.int (3 : Int32)), .val (.int (fq p0)), .unset, .unset, .unset, .unset, .unset, .unset, .unset, .unset, .unset, .unset, .unset]) rfl ?_
    refine p_iloadN B84 at_15 (pc' := 16) rfl rfl ?_
    refine r_static (D' := D1) B84 at_16 (pc' := 19) rfl (W1 B84.gw) (W2 B84.gw) (W3 B84.gw) (W4 B84.gw) (by decide) (k_fq W p1 _ _) (argsL := [(.int p1)]) (rest := []) rfl pd1 rfl rfl rfl (W := 0) rfl (by decide) (by decide) (cs' := 0) rfl (ss' := 0) rfl (by decide) (by decide) ?_
    intro T85 v86 B87
    replace B87 := Rn.and B87
    obtain ⟨rfl, B87⟩ := B87
    show Fn g D0 M _ (T85.setTop (mkF M.m 19 #[.val (.int p0), .val (.int p1), .val (.int p2), .val (.int p3), .val (.int p4), .val (.int (3 : Int32)), .val (.int (fq p0)), .unset, .unset, .unset, .unset, .unset, .unset, .unset, .unset, .unset, .unset, .unset] [(.int (fq p1))]))
    refine p_istore B87 at_19 (pc' := 21) rfl (Ls' := #[.val (.int p0), .val (.int p1), .val (.int p2), .val (.int p3), .val (.int p4), .val (.int (3 : Int32)), .val (.int (fq p0)), .val (.int (fq p1)), .unset, .unset, .unset, .unset, .unset, .unset, .unset, .unset, .unset, .unset]) rfl ?_
    refine p_iloadN B87 at_21 (pc' := 22) rfl rfl ?_
    refine r_static (D' := D1) B87 at_22 (pc' := 25) rfl (W1 B87.gw) (W2 B87.gw) (W3 B87.gw) (W4 B87.gw) (by decide) (k_fq W p2 _ _) (argsL := [(.int p2)]) (rest := []) rfl pd1 rfl rfl rfl (W := 0) rfl (by decide) (by decide) (cs' := 0) rfl (ss' := 0) rfl (by decide) (by decide) ?_
    intro T88 v89 B90
    replace B90 := Rn.and B90
    obtain ⟨rfl, B90⟩ := B90
    show Fn g D0 M _ (T88.setTop (mkF M.m 25 #[.val (.int p0), .val (.int p1), .val (.int p2), .val (.int p3), .val (.int p4), .val (.int (3 : Int32)), .val (.int (fq p0)), .val (.int (fq p1)), .unset, .unset, .unset, .unset, .unset, .unset, .unset, .unset, .unset, .unset] [(.int (fq p2))]))
    refine p_istore B90 at_25 (pc' := 27) rfl (Ls' := #[.val (.int p0), .val (.int p1), .val (.int p2), .val (.int p3), .val (.int p4), .val (.int (3 : Int32)), .val (.int (fq p0)), .val (.int (fq p1)), .val (.int (fq p2)), .unset, .unset, .unset, .unset, .unset, .unset, .unset, .unset, .unset]) rfl ?_
    refine p_iloadN B90 at_27 (pc' := 28) rfl rfl ?_
    refine r_static (D' := D1) B90 at_28 (pc' := 31) rfl (W1 B90.gw) (W2 B90.gw) (W3 B90.gw) (W4 B90.gw) (by decide) (k_fq W p3 _ _) (argsL := [(.int p3)]) (rest := []) rfl pd1 rfl rfl rfl (W := 0) rfl (by decide) (by decide) (cs' := 0) rfl (ss' := 0) rfl (by decide) (by decide) ?_
    intro T91 v92 B93
    replace B93 := Rn.and B93
    obtain ⟨rfl, B93⟩ := B93
    show Fn g D0 M _ (T91.setTop (mkF M.m 31 #[.val (.int p0), .val (.int p1), .val (.int p2), .val (.int p3), .val (.int p4), .val (.int (3 : Int32)), .val (.int (fq p0)), .val (.int (fq p1)), .val (.int (fq p2)), .unset, .unset, .unset, .unset, .unset, .unset, .unset, .unset, .unset] [(.int (fq p3))]))
    refine p_istore B93 at_31 (pc' := 33) rfl (Ls' := #[.val (.int p0), .val (.int p1), .val (.int p2), .val (.int p3), .val (.int p4), .val (.int (3 : Int32)), .val (.int (fq p0)), .val (.int (fq p1)), .val (.int (fq p2)), .val (.int (fq p3)), .unset, .unset, .unset, .unset, .unset, .unset, .unset, .unset]) rfl ?_
    refine r_new B93 at_33 (pc' := 36) rfl (W9 B93.gw) (W10 B93.gw) (W11 B93.gw) (Ly_o_VectorFrequencies B93.gw) (by decide) (cs' := 1) rfl (ss' := 3) rfl (by decide) (by decide) ?_
    intro T94 a96 B95
    refine p_dup B95 at_36 (pc' := 37) rfl rfl ?_
    refine r_special (D' := D3) B95 at_37 (pc' := 40) rfl rfl rfl (W12 B95.gw) (W13 B95.gw) (W11 B95.gw) (W14 B95.gw) (by decide) (k_vi W a96 _ _) (a := a96) (argsL := []) (rest := [(.ref a96)]) rfl pd2 rfl rfl rfl (W := 1) rfl (by decide) (by decide) (cs' := 1) rfl (ss' := 3) rfl (by decide) (by decide) ?_
    intro T97 v98 B99
    replace B99 := Rn.and B99
    obtain ⟨rfl, B99⟩ := B99
    show Fn g D0 M _ (T97.setTop (mkF M.m 40 #[.val (.int p0), .val (.int p1), .val (.int p2), .val (.int p3), .val (.int p4), .val (.int (3 : Int32)), .val (.int (fq p0)), .val (.int (fq p1)), .val (.int (fq p2)), .val (.int (fq p3)), .unset, .unset, .unset, .unset, .unset, .unset, .unset, .unset] [(.ref a96)]))
    refine p_astore B99 at_40 (pc' := 42) rfl rfl (Ls' := #[.val (.int p0), .val (.int p1), .val (.int p2), .val (.int p3), .val (.int p4), .val (.int (3 : Int32)), .val (.int (fq p0)), .val (.int (fq p1)), .val (.int (fq p2)), .val (.int (fq p3)), .val (.ref a96), .unset, .unset, .unset, .unset, .unset, .unset, .unset]) rfl ?_
    refine p_lconst B99 at_42 (pc' := 43) rfl (v := (0 : Int64)) (by decide) ?_
    refine p_lstore B99 at_43 (pc' := 45) rfl (Ls' := #[.val (.int p0), .val (.int p1), .val (.int p2), .val (.int p3), .val (.int p4), .val (.int (3 : Int32)), .val (.int (fq p0)), .val (.int (fq p1)), .val (.int (fq p2)), .val (.int (fq p3)), .val (.ref a96), .val (.long (0 : Int64)), .second, .unset, .unset, .unset, .unset, .unset]) rfl ?_
    refine p_iconst B99 at_45 (pc' := 46) rfl (v := (0 : Int32)) (by decide) ?_
    refine p_istore B99 at_46 (pc' := 48) rfl (Ls' := #[.val (.int p0), .val (.int p1), .val (.int p2), .val (.int p3), .val (.int p4), .val (.int (3 : Int32)), .val (.int (fq p0)), .val (.int (fq p1)), .val (.int (fq p2)), .val (.int (fq p3)), .val (.ref a96), .val (.long (0 : Int64)), .second, .val (.int (0 : Int32)), .unset, .unset, .unset, .unset]) rfl ?_
    refine p_iload B99 at_48 (pc' := 50) rfl rfl ?_
    refine p_iconst B99 at_50 (pc' := 51) rfl (v := (1 : Int32)) (by decide) ?_
    refine b_icF B99 at_51 (pc' := 54) rfl (show ¬ (3 : Int32) < (1 : Int32) from by decide) ?_
    refine p_aload B99 at_54 (pc' := 56) rfl rfl rfl ?_
    refine p_iload B99 at_56 (pc' := 58) rfl rfl ?_
    refine r_virtual (D' := D6) B99 at_58 (pc' := 61) rfl (W25 B99.gw) (W26 B99.gw) (W28 B99.gw) (fun vm0 hZ => notFace_of_selects (args := #[]) (mvT hZ (W28 B99.gw))) (W27 B99.gw) (W11 B99.gw) (W29 B99.gw) (by decide) (fE (i := 0) rfl) (k_ad W a96 (fq p0) (0 : Int32) (1 : Int32) (0 : Int32) (0 : Int64) (by decide) _ _) (argsL := [(.int (fq p0))]) (rest := []) rfl pd4 rfl rfl rfl (W := 0) rfl (by decide) (by decide) (cs' := 1) rfl (ss' := 3) rfl (by decide) (by decide) ?_
    intro T100 v101 B102
    replace B102 := Rn.and B102
    obtain ⟨rfl, B102⟩ := B102
    show Fn g D0 M _ (T100.setTop (mkF M.m 61 #[.val (.int p0), .val (.int p1), .val (.int p2), .val (.int p3), .val (.int p4), .val (.int (3 : Int32)), .val (.int (fq p0)), .val (.int (fq p1)), .val (.int (fq p2)), .val (.int (fq p3)), .val (.ref a96), .val (.long (0 : Int64)), .second, .val (.int (0 : Int32)), .unset, .unset, .unset, .unset] []))
    refine p_lload B102 at_61 (pc' := 63) rfl rfl ?_
    refine p_iload B102 at_63 (pc' := 65) rfl rfl ?_
    refine p_i2l B102 at_65 (pc' := 66) rfl ?_
    refine p_ladd B102 at_66 (pc' := 67) rfl ?_
    refine p_lstore B102 at_67 (pc' := 69) rfl (Ls' := #[.val (.int p0), .val (.int p1), .val (.int p2), .val (.int p3), .val (.int p4), .val (.int (3 : Int32)), .val (.int (fq p0)), .val (.int (fq p1)), .val (.int (fq p2)), .val (.int (fq p3)), .val (.ref a96), .val (.long ((0 : Int64) + ((fq p0)).toInt64)), .second, .val (.int (0 : Int32)), .unset, .unset, .unset, .unset]) rfl ?_
    refine p_iload B102 at_69 (pc' := 71) rfl rfl ?_
    refine p_iload B102 at_71 (pc' := 73) rfl rfl ?_
    refine r_static (D' := D2) B102 at_73 (pc' := 76) rfl (W5 B102.gw) (W6 B102.gw) (W7 B102.gw) (W8 B102.gw) (by decide) (k_mx W (0 : Int32) (fq p0) _ _) (argsL := [(.int (0 : Int32)), (.int (fq p0))]) (rest := []) rfl pd0 rfl rfl rfl (W := 0) rfl (by decide) (by decide) (cs' := 1) rfl (ss' := 3) rfl (by decide) (by decide) ?_
    intro T103 v104 B105
    replace B105 := Rn.and B105
    obtain ⟨rfl, B105⟩ := B105
    show Fn g D0 M _ (T103.setTop (mkF M.m 76 #[.val (.int p0), .val (.int p1), .val (.int p2), .val (.int p3), .val (.int p4), .val (.int (3 : Int32)), .val (.int (fq p0)), .val (.int (fq p1)), .val (.int (fq p2)), .val (.int (fq p3)), .val (.ref a96), .val (.long ((0 : Int64) + ((fq p0)).toInt64)), .second, .val (.int (0 : Int32)), .unset, .unset, .unset, .unset] [(.int (mxI (0 : Int32) (fq p0)))]))
    refine p_istore B105 at_76 (pc' := 78) rfl (Ls' := #[.val (.int p0), .val (.int p1), .val (.int p2), .val (.int p3), .val (.int p4), .val (.int (3 : Int32)), .val (.int (fq p0)), .val (.int (fq p1)), .val (.int (fq p2)), .val (.int (fq p3)), .val (.ref a96), .val (.long ((0 : Int64) + ((fq p0)).toInt64)), .second, .val (.int (mxI (0 : Int32) (fq p0))), .unset, .unset, .unset, .unset]) rfl ?_
    refine p_iload B105 at_78 (pc' := 80) rfl rfl ?_
    refine p_iconst B105 at_80 (pc' := 81) rfl (v := (2 : Int32)) (by decide) ?_
    refine b_icF B105 at_81 (pc' := 84) rfl (show ¬ (3 : Int32) < (2 : Int32) from by decide) ?_
    refine p_aload B105 at_84 (pc' := 86) rfl rfl rfl ?_
    refine p_iload B105 at_86 (pc' := 88) rfl rfl ?_
    refine r_virtual (D' := D6) B105 at_88 (pc' := 91) rfl (W25 B105.gw) (W26 B105.gw) (W28 B105.gw) (fun vm0 hZ => notFace_of_selects (args := #[]) (mvT hZ (W28 B105.gw))) (W27 B105.gw) (W11 B105.gw) (W29 B105.gw) (by decide) (fE (i := 0) rfl) (k_ad W a96 (fq p1) (1 : Int32) (2 : Int32) (mxI (0 : Int32) (fq p0)) ((0 : Int64) + ((fq p0)).toInt64) (by decide) _ _) (argsL := [(.int (fq p1))]) (rest := []) rfl pd4 rfl rfl rfl (W := 0) rfl (by decide) (by decide) (cs' := 1) rfl (ss' := 3) rfl (by decide) (by decide) ?_
    intro T106 v107 B108
    replace B108 := Rn.and B108
    obtain ⟨rfl, B108⟩ := B108
    show Fn g D0 M _ (T106.setTop (mkF M.m 91 #[.val (.int p0), .val (.int p1), .val (.int p2), .val (.int p3), .val (.int p4), .val (.int (3 : Int32)), .val (.int (fq p0)), .val (.int (fq p1)), .val (.int (fq p2)), .val (.int (fq p3)), .val (.ref a96), .val (.long ((0 : Int64) + ((fq p0)).toInt64)), .second, .val (.int (mxI (0 : Int32) (fq p0))), .unset, .unset, .unset, .unset] []))
    refine p_lload B108 at_91 (pc' := 93) rfl rfl ?_
    refine p_iload B108 at_93 (pc' := 95) rfl rfl ?_
    refine p_i2l B108 at_95 (pc' := 96) rfl ?_
    refine p_ladd B108 at_96 (pc' := 97) rfl ?_
    refine p_lstore B108 at_97 (pc' := 99) rfl (Ls' := #[.val (.int p0), .val (.int p1), .val (.int p2), .val (.int p3), .val (.int p4), .val (.int (3 : Int32)), .val (.int (fq p0)), .val (.int (fq p1)), .val (.int (fq p2)), .val (.int (fq p3)), .val (.ref a96), .val (.long (((0 : Int64) + ((fq p0)).toInt64) + ((fq p1)).toInt64)), .second, .val (.int (mxI (0 : Int32) (fq p0))), .unset, .unset, .unset, .unset]) rfl ?_
    refine p_iload B108 at_99 (pc' := 101) rfl rfl ?_
    refine p_iload B108 at_101 (pc' := 103) rfl rfl ?_
    refine r_static (D' := D2) B108 at_103 (pc' := 106) rfl (W5 B108.gw) (W6 B108.gw) (W7 B108.gw) (W8 B108.gw) (by decide) (k_mx W (mxI (0 : Int32) (fq p0)) (fq p1) _ _) (argsL := [(.int (mxI (0 : Int32) (fq p0))), (.int (fq p1))]) (rest := []) rfl pd0 rfl rfl rfl (W := 0) rfl (by decide) (by decide) (cs' := 1) rfl (ss' := 3) rfl (by decide) (by decide) ?_
    intro T109 v110 B111
    replace B111 := Rn.and B111
    obtain ⟨rfl, B111⟩ := B111
    show Fn g D0 M _ (T109.setTop (mkF M.m 106 #[.val (.int p0), .val (.int p1), .val (.int p2), .val (.int p3), .val (.int p4), .val (.int (3 : Int32)), .val (.int (fq p0)), .val (.int (fq p1)), .val (.int (fq p2)), .val (.int (fq p3)), .val (.ref a96), .val (.long (((0 : Int64) + ((fq p0)).toInt64) + ((fq p1)).toInt64)), .second, .val (.int (mxI (0 : Int32) (fq p0))), .unset, .unset, .unset, .unset] [(.int (mxI (mxI (0 : Int32) (fq p0)) (fq p1)))]))
    refine p_istore B111 at_106 (pc' := 108) rfl (Ls' := #[.val (.int p0), .val (.int p1), .val (.int p2), .val (.int p3), .val (.int p4), .val (.int (3 : Int32)), .val (.int (fq p0)), .val (.int (fq p1)), .val (.int (fq p2)), .val (.int (fq p3)), .val (.ref a96), .val (.long (((0 : Int64) + ((fq p0)).toInt64) + ((fq p1)).toInt64)), .second, .val (.int (mxI (mxI (0 : Int32) (fq p0)) (fq p1))), .unset, .unset, .unset, .unset]) rfl ?_
    refine p_iload B111 at_108 (pc' := 110) rfl rfl ?_
    refine p_iconst B111 at_110 (pc' := 111) rfl (v := (3 : Int32)) (by decide) ?_
    refine b_icF B111 at_111 (pc' := 114) rfl (show ¬ (3 : Int32) < (3 : Int32) from by decide) ?_
    refine p_aload B111 at_114 (pc' := 116) rfl rfl rfl ?_
    refine p_iload B111 at_116 (pc' := 118) rfl rfl ?_
    refine r_virtual (D' := D6) B111 at_118 (pc' := 121) rfl (W25 B111.gw) (W26 B111.gw) (W28 B111.gw) (fun vm0 hZ => notFace_of_selects (args := #[]) (mvT hZ (W28 B111.gw))) (W27 B111.gw) (W11 B111.gw) (W29 B111.gw) (by decide) (fE (i := 0) rfl) (k_ad W a96 (fq p2) (2 : Int32) (3 : Int32) (mxI (mxI (0 : Int32) (fq p0)) (fq p1)) (((0 : Int64) + ((fq p0)).toInt64) + ((fq p1)).toInt64) (by decide) _ _) (argsL := [(.int (fq p2))]) (rest := []) rfl pd4 rfl rfl rfl (W := 0) rfl (by decide) (by decide) (cs' := 1) rfl (ss' := 3) rfl (by decide) (by decide) ?_
    intro T112 v113 B114
    replace B114 := Rn.and B114
    obtain ⟨rfl, B114⟩ := B114
    show Fn g D0 M _ (T112.setTop (mkF M.m 121 #[.val (.int p0), .val (.int p1), .val (.int p2), .val (.int p3), .val (.int p4), .val (.int (3 : Int32)), .val (.int (fq p0)), .val (.int (fq p1)), .val (.int (fq p2)), .val (.int (fq p3)), .val (.ref a96), .val (.long (((0 : Int64) + ((fq p0)).toInt64) + ((fq p1)).toInt64)), .second, .val (.int (mxI (mxI (0 : Int32) (fq p0)) (fq p1))), .unset, .unset, .unset, .unset] []))
    refine p_lload B114 at_121 (pc' := 123) rfl rfl ?_
    refine p_iload B114 at_123 (pc' := 125) rfl rfl ?_
    refine p_i2l B114 at_125 (pc' := 126) rfl ?_
    refine p_ladd B114 at_126 (pc' := 127) rfl ?_
    refine p_lstore B114 at_127 (pc' := 129) rfl (Ls' := #[.val (.int p0), .val (.int p1), .val (.int p2), .val (.int p3), .val (.int p4), .val (.int (3 : Int32)), .val (.int (fq p0)), .val (.int (fq p1)), .val (.int (fq p2)), .val (.int (fq p3)), .val (.ref a96), .val (.long ((((0 : Int64) + ((fq p0)).toInt64) + ((fq p1)).toInt64) + ((fq p2)).toInt64)), .second, .val (.int (mxI (mxI (0 : Int32) (fq p0)) (fq p1))), .unset, .unset, .unset, .unset]) rfl ?_
    refine p_iload B114 at_129 (pc' := 131) rfl rfl ?_
    refine p_iload B114 at_131 (pc' := 133) rfl rfl ?_
    refine r_static (D' := D2) B114 at_133 (pc' := 136) rfl (W5 B114.gw) (W6 B114.gw) (W7 B114.gw) (W8 B114.gw) (by decide) (k_mx W (mxI (mxI (0 : Int32) (fq p0)) (fq p1)) (fq p2) _ _) (argsL := [(.int (mxI (mxI (0 : Int32) (fq p0)) (fq p1))), (.int (fq p2))]) (rest := []) rfl pd0 rfl rfl rfl (W := 0) rfl (by decide) (by decide) (cs' := 1) rfl (ss' := 3) rfl (by decide) (by decide) ?_
    intro T115 v116 B117
    replace B117 := Rn.and B117
    obtain ⟨rfl, B117⟩ := B117
    show Fn g D0 M _ (T115.setTop (mkF M.m 136 #[.val (.int p0), .val (.int p1), .val (.int p2), .val (.int p3), .val (.int p4), .val (.int (3 : Int32)), .val (.int (fq p0)), .val (.int (fq p1)), .val (.int (fq p2)), .val (.int (fq p3)), .val (.ref a96), .val (.long ((((0 : Int64) + ((fq p0)).toInt64) + ((fq p1)).toInt64) + ((fq p2)).toInt64)), .second, .val (.int (mxI (mxI (0 : Int32) (fq p0)) (fq p1))), .unset, .unset, .unset, .unset] [(.int (mxI (mxI (mxI (0 : Int32) (fq p0)) (fq p1)) (fq p2)))]))
    refine p_istore B117 at_136 (pc' := 138) rfl (Ls' := #[.val (.int p0), .val (.int p1), .val (.int p2), .val (.int p3), .val (.int p4), .val (.int (3 : Int32)), .val (.int (fq p0)), .val (.int (fq p1)), .val (.int (fq p2)), .val (.int (fq p3)), .val (.ref a96), .val (.long ((((0 : Int64) + ((fq p0)).toInt64) + ((fq p1)).toInt64) + ((fq p2)).toInt64)), .second, .val (.int (mxI (mxI (mxI (0 : Int32) (fq p0)) (fq p1)) (fq p2))), .unset, .unset, .unset, .unset]) rfl ?_
    refine p_iload B117 at_138 (pc' := 140) rfl rfl ?_
    refine p_iconst B117 at_140 (pc' := 141) rfl (v := (4 : Int32)) (by decide) ?_
    refine b_icT B117 at_141 (pc' := 168) (show (3 : Int32) < (4 : Int32) from by decide) (by decide) (by decide) ?_
    refine p_aload B117 at_168 (pc' := 170) rfl rfl rfl ?_
    refine r_virtual (D' := D5) B117 at_170 (pc' := 173) rfl (W18 B117.gw) (W19 B117.gw) (W21 B117.gw) (fun vm0 hZ => notFace_of_selects (args := #[]) (mvT hZ (W21 B117.gw))) (W20 B117.gw) (W11 B117.gw) (W22 B117.gw) (by decide) (fE (i := 0) rfl) (k_me W a96 (3 : Int32) (mxI (mxI (mxI (0 : Int32) (fq p0)) (fq p1)) (fq p2)) ((((0 : Int64) + ((fq p0)).toInt64) + ((fq p1)).toInt64) + ((fq p2)).toInt64) (by decide) _ _) (argsL := []) (rest := []) rfl pd3 rfl rfl rfl (W := 0) rfl (by decide) (by decide) (cs' := 1) rfl (ss' := 3) rfl (by decide) (by decide) ?_
    intro T118 v119 B120
    replace B120 := Rn.and B120
    obtain ⟨rfl, B120⟩ := B120
    show Fn g D0 M _ (T118.setTop (mkF M.m 173 #[.val (.int p0), .val (.int p1), .val (.int p2), .val (.int p3), .val (.int p4), .val (.int (3 : Int32)), .val (.int (fq p0)), .val (.int (fq p1)), .val (.int (fq p2)), .val (.int (fq p3)), .val (.ref a96), .val (.long ((((0 : Int64) + ((fq p0)).toInt64) + ((fq p1)).toInt64) + ((fq p2)).toInt64)), .second, .val (.int (mxI (mxI (mxI (0 : Int32) (fq p0)) (fq p1)) (fq p2))), .unset, .unset, .unset, .unset] [(.double (FP.ddiv (FP.l2d ((((0 : Int64) + ((fq p0)).toInt64) + ((fq p1)).toInt64) + ((fq p2)).toInt64)) (FP.i2d (3 : Int32))))]))
    refine p_dstore B120 at_173 (pc' := 175) rfl (Ls' := #[.val (.int p0), .val (.int p1), .val (.int p2), .val (.int p3), .val (.int p4), .val (.int (3 : Int32)), .val (.int (fq p0)), .val (.int (fq p1)), .val (.int (fq p2)), .val (.int (fq p3)), .val (.ref a96), .val (.long ((((0 : Int64) + ((fq p0)).toInt64) + ((fq p1)).toInt64) + ((fq p2)).toInt64)), .second, .val (.int (mxI (mxI (mxI (0 : Int32) (fq p0)) (fq p1)) (fq p2))), .val (.double (FP.ddiv (FP.l2d ((((0 : Int64) + ((fq p0)).toInt64) + ((fq p1)).toInt64) + ((fq p2)).toInt64)) (FP.i2d (3 : Int32)))), .second, .unset, .unset]) rfl ?_
    refine p_iload B120 at_175 (pc' := 177) rfl rfl ?_
    refine b_ifT B120 at_177 (pc' := 193) (show ¬ (3 : Int32) = (0 : Int32) from by decide) (by decide) (by decide) ?_
    refine p_lload B120 at_193 (pc' := 195) rfl rfl ?_
    refine p_l2d B120 at_195 (pc' := 196) rfl rfl ?_
    refine p_iload B120 at_196 (pc' := 198) rfl rfl ?_
    refine p_i2d B120 at_198 (pc' := 199) rfl rfl ?_
    refine p_ddiv B120 at_199 (pc' := 200) rfl (nnq (by decide)) rfl ?_
    refine p_dstore B120 at_200 (pc' := 202) rfl (Ls' := #[.val (.int p0), .val (.int p1), .val (.int p2), .val (.int p3), .val (.int p4), .val (.int (3 : Int32)), .val (.int (fq p0)), .val (.int (fq p1)), .val (.int (fq p2)), .val (.int (fq p3)), .val (.ref a96), .val (.long ((((0 : Int64) + ((fq p0)).toInt64) + ((fq p1)).toInt64) + ((fq p2)).toInt64)), .second, .val (.int (mxI (mxI (mxI (0 : Int32) (fq p0)) (fq p1)) (fq p2))), .val (.double (FP.ddiv (FP.l2d ((((0 : Int64) + ((fq p0)).toInt64) + ((fq p1)).toInt64) + ((fq p2)).toInt64)) (FP.i2d (3 : Int32)))), .second, .val (.double (FP.ddiv (FP.l2d ((((0 : Int64) + ((fq p0)).toInt64) + ((fq p1)).toInt64) + ((fq p2)).toInt64)) (FP.i2d (3 : Int32)))), .second]) rfl ?_
    refine p_dload B120 at_202 (pc' := 204) rfl rfl ?_
    refine p_dload B120 at_204 (pc' := 206) rfl rfl ?_
    refine p_dcmp B120 at_206 (pc' := 207) rfl (v := (0 : Int32)) (Jvm.RoadKit.dcmpV_self (nnq (by decide)) _) ?_
    refine b_ifF B120 at_207 (pc' := 210) rfl (show (0 : Int32) = (0 : Int32) from by decide) ?_
    refine p_dload B120 at_210 (pc' := 212) rfl rfl ?_
    refine p_dconst1 B120 at_212 (pc' := 213) rfl (v := (FP.l2d 1)) (by decide +kernel) ?_
    refine p_dcmp B120 at_213 (pc' := 214) rfl (v := (cmpValue (FP.dcmp (FP.ddiv (FP.l2d ((((0 : Int64) + ((fq p0)).toInt64) + ((fq p1)).toInt64) + ((fq p2)).toInt64)) (FP.i2d (3 : Int32))) (FP.l2d 1)) .l)) rfl ?_
    have f0 := fq_r p0
    have g0 := mx_r (0 : Int32) (fq p0)
    have f1 := fq_r p1
    have g1 := mx_r (mxI (0 : Int32) (fq p0)) (fq p1)
    have f2 := fq_r p2
    have g2 := mx_r (mxI (mxI (0 : Int32) (fq p0)) (fq p1)) (fq p2)
    have l0 := c_ladd (0 : Int64) (fq p0).toInt64
    have r0 := rng64 ((0 : Int64) + (fq p0).toInt64)
    rw [c_i2l] at l0
    have l1 := c_ladd ((0 : Int64) + (fq p0).toInt64) (fq p1).toInt64
    have r1 := rng64 (((0 : Int64) + (fq p0).toInt64) + (fq p1).toInt64)
    rw [c_i2l] at l1
    have l2 := c_ladd (((0 : Int64) + (fq p0).toInt64) + (fq p1).toInt64) (fq p2).toInt64
    have r2 := rng64 ((((0 : Int64) + (fq p0).toInt64) + (fq p1).toInt64) + (fq p2).toInt64)
    rw [c_i2l] at l2
    have z0 : (0 : Int32).toInt = 0 := rfl
    have z1 : (0 : Int64).toInt = 0 := rfl
    have z2 : (3 : Int32).toInt = 3 := rfl
    have ts : ((((0 : Int64) + ((fq p0)).toInt64) + ((fq p1)).toInt64) + ((fq p2)).toInt64).toInt = (fq p0).toInt + (fq p1).toInt + (fq p2).toInt := by omega
    refine b_ifF B120 at_214 (pc' := 217) rfl (q_lo (by omega) (by omega) (by omega)) ?_
    refine p_dload B120 at_217 (pc' := 219) rfl rfl ?_
    refine p_iload B120 at_219 (pc' := 221) rfl rfl ?_
    refine p_i2d B120 at_221 (pc' := 222) rfl rfl ?_
    refine p_dcmp B120 at_222 (pc' := 223) rfl (v := (cmpValue (FP.dcmp (FP.ddiv (FP.l2d ((((0 : Int64) + ((fq p0)).toInt64) + ((fq p1)).toInt64) + ((fq p2)).toInt64)) (FP.i2d (3 : Int32))) (FP.i2d (mxI (mxI (mxI (0 : Int32) (fq p0)) (fq p1)) (fq p2)))) .g)) rfl ?_
    refine b_ifF B120 at_223 (pc' := 226) rfl (q_hi (by omega) (by omega) (by omega) (by rw [z2]; omega) (by omega)) ?_
    refine p_iconst B120 at_226 (pc' := 227) rfl (v := (1 : Int32)) (by decide) ?_
    refine b_goto B120 at_227 (pc' := 231) (by decide) (by decide) ?_
    exact r_reti B120 at_231 rfl (by simp) rfl (by decide) (by decide) (fun vm h P => rfl)
  · rw [e]
    refine p_istore B at_7 (pc' := 9) rfl (Ls' := #[.val (.int p0), .val (.int p1), .val (.int p2), .val (.int p3), .val (.int p4), .val (.int (4 : Int32)), .unset, .unset, .unset, .unset, .unset, .unset, .unset, .unset, .unset, .unset, .unset, .unset]) rfl ?_
    refine p_iloadN B at_9 (pc' := 10) rfl rfl ?_
    refine r_static (D' := D1) B at_10 (pc' := 13) rfl (W1 B.gw) (W2 B.gw) (W3 B.gw) (W4 B.gw) (by decide) (k_fq W p0 _ _) (argsL := [(.int p0)]) (rest := []) rfl pd1 rfl rfl rfl (W := 0) rfl (by decide) (by decide) (cs' := 0) rfl (ss' := 0) rfl (by decide) (by decide) ?_
    intro T121 v122 B123
    replace B123 := Rn.and B123
    obtain ⟨rfl, B123⟩ := B123
    show Fn g D0 M _ (T121.setTop (mkF M.m 13 #[.val (.int p0), .val (.int p1), .val (.int p2), .val (.int p3), .val (.int p4), .val (.int (4 : Int32)), .unset, .unset, .unset, .unset, .unset, .unset, .unset, .unset, .unset, .unset, .unset, .unset] [(.int (fq p0))]))
    refine p_istore B123 at_13 (pc' := 15) rfl (Ls' := #[.val (.int p0), .val (.int p1), .val (.int p2), .val (.int p3), .val (.int p4), .val (.int (4 : Int32)), .val (.int (fq p0)), .unset, .unset, .unset, .unset, .unset, .unset, .unset, .unset, .unset, .unset, .unset]) rfl ?_
    refine p_iloadN B123 at_15 (pc' := 16) rfl rfl ?_
    refine r_static (D' := D1) B123 at_16 (pc' := 19) rfl (W1 B123.gw) (W2 B123.gw) (W3 B123.gw) (W4 B123.gw) (by decide) (k_fq W p1 _ _) (argsL := [(.int p1)]) (rest := []) rfl pd1 rfl rfl rfl (W := 0) rfl (by decide) (by decide) (cs' := 0) rfl (ss' := 0) rfl (by decide) (by decide) ?_
    intro T124 v125 B126
    replace B126 := Rn.and B126
    obtain ⟨rfl, B126⟩ := B126
    show Fn g D0 M _ (T124.setTop (mkF M.m 19 #[.val (.int p0), .val (.int p1), .val (.int p2), .val (.int p3), .val (.int p4), .val (.int (4 : Int32)), .val (.int (fq p0)), .unset, .unset, .unset, .unset, .unset, .unset, .unset, .unset, .unset, .unset, .unset] [(.int (fq p1))]))
    refine p_istore B126 at_19 (pc' := 21) rfl (Ls' := #[.val (.int p0), .val (.int p1), .val (.int p2), .val (.int p3), .val (.int p4), .val (.int (4 : Int32)), .val (.int (fq p0)), .val (.int (fq p1)), .unset, .unset, .unset, .unset, .unset, .unset, .unset, .unset, .unset, .unset]) rfl ?_
    refine p_iloadN B126 at_21 (pc' := 22) rfl rfl ?_
    refine r_static (D' := D1) B126 at_22 (pc' := 25) rfl (W1 B126.gw) (W2 B126.gw) (W3 B126.gw) (W4 B126.gw) (by decide) (k_fq W p2 _ _) (argsL := [(.int p2)]) (rest := []) rfl pd1 rfl rfl rfl (W := 0) rfl (by decide) (by decide) (cs' := 0) rfl (ss' := 0) rfl (by decide) (by decide) ?_
    intro T127 v128 B129
    replace B129 := Rn.and B129
    obtain ⟨rfl, B129⟩ := B129
    show Fn g D0 M _ (T127.setTop (mkF M.m 25 #[.val (.int p0), .val (.int p1), .val (.int p2), .val (.int p3), .val (.int p4), .val (.int (4 : Int32)), .val (.int (fq p0)), .val (.int (fq p1)), .unset, .unset, .unset, .unset, .unset, .unset, .unset, .unset, .unset, .unset] [(.int (fq p2))]))
    refine p_istore B129 at_25 (pc' := 27) rfl (Ls' := #[.val (.int p0), .val (.int p1), .val (.int p2), .val (.int p3), .val (.int p4), .val (.int (4 : Int32)), .val (.int (fq p0)), .val (.int (fq p1)), .val (.int (fq p2)), .unset, .unset, .unset, .unset, .unset, .unset, .unset, .unset, .unset]) rfl ?_
    refine p_iloadN B129 at_27 (pc' := 28) rfl rfl ?_
    refine r_static (D' := D1) B129 at_28 (pc' := 31) rfl (W1 B129.gw) (W2 B129.gw) (W3 B129.gw) (W4 B129.gw) (by decide) (k_fq W p3 _ _) (argsL := [(.int p3)]) (rest := []) rfl pd1 rfl rfl rfl (W := 0) rfl (by decide) (by decide) (cs' := 0) rfl (ss' := 0) rfl (by decide) (by decide) ?_
    intro T130 v131 B132
    replace B132 := Rn.and B132
    obtain ⟨rfl, B132⟩ := B132
    show Fn g D0 M _ (T130.setTop (mkF M.m 31 #[.val (.int p0), .val (.int p1), .val (.int p2), .val (.int p3), .val (.int p4), .val (.int (4 : Int32)), .val (.int (fq p0)), .val (.int (fq p1)), .val (.int (fq p2)), .unset, .unset, .unset, .unset, .unset, .unset, .unset, .unset, .unset] [(.int (fq p3))]))
    refine p_istore B132 at_31 (pc' := 33) rfl (Ls' := #[.val (.int p0), .val (.int p1), .val (.int p2), .val (.int p3), .val (.int p4), .val (.int (4 : Int32)), .val (.int (fq p0)), .val (.int (fq p1)), .val (.int (fq p2)), .val (.int (fq p3)), .unset, .unset, .unset, .unset, .unset, .unset, .unset, .unset]) rfl ?_
    refine r_new B132 at_33 (pc' := 36) rfl (W9 B132.gw) (W10 B132.gw) (W11 B132.gw) (Ly_o_VectorFrequencies B132.gw) (by decide) (cs' := 1) rfl (ss' := 3) rfl (by decide) (by decide) ?_
    intro T133 a135 B134
    refine p_dup B134 at_36 (pc' := 37) rfl rfl ?_
    refine r_special (D' := D3) B134 at_37 (pc' := 40) rfl rfl rfl (W12 B134.gw) (W13 B134.gw) (W11 B134.gw) (W14 B134.gw) (by decide) (k_vi W a135 _ _) (a := a135) (argsL := []) (rest := [(.ref a135)]) rfl pd2 rfl rfl rfl (W := 1) rfl (by decide) (by decide) (cs' := 1) rfl (ss' := 3) rfl (by decide) (by decide) ?_
    intro T136 v137 B138
    replace B138 := Rn.and B138
    obtain ⟨rfl, B138⟩ := B138
    show Fn g D0 M _ (T136.setTop (mkF M.m 40 #[.val (.int p0), .val (.int p1), .val (.int p2), .val (.int p3), .val (.int p4), .val (.int (4 : Int32)), .val (.int (fq p0)), .val (.int (fq p1)), .val (.int (fq p2)), .val (.int (fq p3)), .unset, .unset, .unset, .unset, .unset, .unset, .unset, .unset] [(.ref a135)]))
    refine p_astore B138 at_40 (pc' := 42) rfl rfl (Ls' := #[.val (.int p0), .val (.int p1), .val (.int p2), .val (.int p3), .val (.int p4), .val (.int (4 : Int32)), .val (.int (fq p0)), .val (.int (fq p1)), .val (.int (fq p2)), .val (.int (fq p3)), .val (.ref a135), .unset, .unset, .unset, .unset, .unset, .unset, .unset]) rfl ?_
    refine p_lconst B138 at_42 (pc' := 43) rfl (v := (0 : Int64)) (by decide) ?_
    refine p_lstore B138 at_43 (pc' := 45) rfl (Ls' := #[.val (.int p0), .val (.int p1), .val (.int p2), .val (.int p3), .val (.int p4), .val (.int (4 : Int32)), .val (.int (fq p0)), .val (.int (fq p1)), .val (.int (fq p2)), .val (.int (fq p3)), .val (.ref a135), .val (.long (0 : Int64)), .second, .unset, .unset, .unset, .unset, .unset]) rfl ?_
    refine p_iconst B138 at_45 (pc' := 46) rfl (v := (0 : Int32)) (by decide) ?_
    refine p_istore B138 at_46 (pc' := 48) rfl (Ls' := #[.val (.int p0), .val (.int p1), .val (.int p2), .val (.int p3), .val (.int p4), .val (.int (4 : Int32)), .val (.int (fq p0)), .val (.int (fq p1)), .val (.int (fq p2)), .val (.int (fq p3)), .val (.ref a135), .val (.long (0 : Int64)), .second, .val (.int (0 : Int32)), .unset, .unset, .unset, .unset]) rfl ?_
    refine p_iload B138 at_48 (pc' := 50) rfl rfl ?_
    refine p_iconst B138 at_50 (pc' := 51) rfl (v := (1 : Int32)) (by decide) ?_
    refine b_icF B138 at_51 (pc' := 54) rfl (show ¬ (4 : Int32) < (1 : Int32) from by decide) ?_
    refine p_aload B138 at_54 (pc' := 56) rfl rfl rfl ?_
    refine p_iload B138 at_56 (pc' := 58) rfl rfl ?_
    refine r_virtual (D' := D6) B138 at_58 (pc' := 61) rfl (W25 B138.gw) (W26 B138.gw) (W28 B138.gw) (fun vm0 hZ => notFace_of_selects (args := #[]) (mvT hZ (W28 B138.gw))) (W27 B138.gw) (W11 B138.gw) (W29 B138.gw) (by decide) (fE (i := 0) rfl) (k_ad W a135 (fq p0) (0 : Int32) (1 : Int32) (0 : Int32) (0 : Int64) (by decide) _ _) (argsL := [(.int (fq p0))]) (rest := []) rfl pd4 rfl rfl rfl (W := 0) rfl (by decide) (by decide) (cs' := 1) rfl (ss' := 3) rfl (by decide) (by decide) ?_
    intro T139 v140 B141
    replace B141 := Rn.and B141
    obtain ⟨rfl, B141⟩ := B141
    show Fn g D0 M _ (T139.setTop (mkF M.m 61 #[.val (.int p0), .val (.int p1), .val (.int p2), .val (.int p3), .val (.int p4), .val (.int (4 : Int32)), .val (.int (fq p0)), .val (.int (fq p1)), .val (.int (fq p2)), .val (.int (fq p3)), .val (.ref a135), .val (.long (0 : Int64)), .second, .val (.int (0 : Int32)), .unset, .unset, .unset, .unset] []))
    refine p_lload B141 at_61 (pc' := 63) rfl rfl ?_
    refine p_iload B141 at_63 (pc' := 65) rfl rfl ?_
    refine p_i2l B141 at_65 (pc' := 66) rfl ?_
    refine p_ladd B141 at_66 (pc' := 67) rfl ?_
    refine p_lstore B141 at_67 (pc' := 69) rfl (Ls' := #[.val (.int p0), .val (.int p1), .val (.int p2), .val (.int p3), .val (.int p4), .val (.int (4 : Int32)), .val (.int (fq p0)), .val (.int (fq p1)), .val (.int (fq p2)), .val (.int (fq p3)), .val (.ref a135), .val (.long ((0 : Int64) + ((fq p0)).toInt64)), .second, .val (.int (0 : Int32)), .unset, .unset, .unset, .unset]) rfl ?_
    refine p_iload B141 at_69 (pc' := 71) rfl rfl ?_
    refine p_iload B141 at_71 (pc' := 73) rfl rfl ?_
    refine r_static (D' := D2) B141 at_73 (pc' := 76) rfl (W5 B141.gw) (W6 B141.gw) (W7 B141.gw) (W8 B141.gw) (by decide) (k_mx W (0 : Int32) (fq p0) _ _) (argsL := [(.int (0 : Int32)), (.int (fq p0))]) (rest := []) rfl pd0 rfl rfl rfl (W := 0) rfl (by decide) (by decide) (cs' := 1) rfl (ss' := 3) rfl (by decide) (by decide) ?_
    intro T142 v143 B144
    replace B144 := Rn.and B144
    obtain ⟨rfl, B144⟩ := B144
    show Fn g D0 M _ (T142.setTop (mkF M.m 76 #[.val (.int p0), .val (.int p1), .val (.int p2), .val (.int p3), .val (.int p4), .val (.int (4 : Int32)), .val (.int (fq p0)), .val (.int (fq p1)), .val (.int (fq p2)), .val (.int (fq p3)), .val (.ref a135), .val (.long ((0 : Int64) + ((fq p0)).toInt64)), .second, .val (.int (0 : Int32)), .unset, .unset, .unset, .unset] [(.int (mxI (0 : Int32) (fq p0)))]))
    refine p_istore B144 at_76 (pc' := 78) rfl (Ls' := #[.val (.int p0), .val (.int p1), .val (.int p2), .val (.int p3), .val (.int p4), .val (.int (4 : Int32)), .val (.int (fq p0)), .val (.int (fq p1)), .val (.int (fq p2)), .val (.int (fq p3)), .val (.ref a135), .val (.long ((0 : Int64) + ((fq p0)).toInt64)), .second, .val (.int (mxI (0 : Int32) (fq p0))), .unset, .unset, .unset, .unset]) rfl ?_
    refine p_iload B144 at_78 (pc' := 80) rfl rfl ?_
    refine p_iconst B144 at_80 (pc' := 81) rfl (v := (2 : Int32)) (by decide) ?_
    refine b_icF B144 at_81 (pc' := 84) rfl (show ¬ (4 : Int32) < (2 : Int32) from by decide) ?_
    refine p_aload B144 at_84 (pc' := 86) rfl rfl rfl ?_
    refine p_iload B144 at_86 (pc' := 88) rfl rfl ?_
    refine r_virtual (D' := D6) B144 at_88 (pc' := 91) rfl (W25 B144.gw) (W26 B144.gw) (W28 B144.gw) (fun vm0 hZ => notFace_of_selects (args := #[]) (mvT hZ (W28 B144.gw))) (W27 B144.gw) (W11 B144.gw) (W29 B144.gw) (by decide) (fE (i := 0) rfl) (k_ad W a135 (fq p1) (1 : Int32) (2 : Int32) (mxI (0 : Int32) (fq p0)) ((0 : Int64) + ((fq p0)).toInt64) (by decide) _ _) (argsL := [(.int (fq p1))]) (rest := []) rfl pd4 rfl rfl rfl (W := 0) rfl (by decide) (by decide) (cs' := 1) rfl (ss' := 3) rfl (by decide) (by decide) ?_
    intro T145 v146 B147
    replace B147 := Rn.and B147
    obtain ⟨rfl, B147⟩ := B147
    show Fn g D0 M _ (T145.setTop (mkF M.m 91 #[.val (.int p0), .val (.int p1), .val (.int p2), .val (.int p3), .val (.int p4), .val (.int (4 : Int32)), .val (.int (fq p0)), .val (.int (fq p1)), .val (.int (fq p2)), .val (.int (fq p3)), .val (.ref a135), .val (.long ((0 : Int64) + ((fq p0)).toInt64)), .second, .val (.int (mxI (0 : Int32) (fq p0))), .unset, .unset, .unset, .unset] []))
    refine p_lload B147 at_91 (pc' := 93) rfl rfl ?_
    refine p_iload B147 at_93 (pc' := 95) rfl rfl ?_
    refine p_i2l B147 at_95 (pc' := 96) rfl ?_
    refine p_ladd B147 at_96 (pc' := 97) rfl ?_
    refine p_lstore B147 at_97 (pc' := 99) rfl (Ls' := #[.val (.int p0), .val (.int p1), .val (.int p2), .val (.int p3), .val (.int p4), .val (.int (4 : Int32)), .val (.int (fq p0)), .val (.int (fq p1)), .val (.int (fq p2)), .val (.int (fq p3)), .val (.ref a135), .val (.long (((0 : Int64) + ((fq p0)).toInt64) + ((fq p1)).toInt64)), .second, .val (.int (mxI (0 : Int32) (fq p0))), .unset, .unset, .unset, .unset]) rfl ?_
    refine p_iload B147 at_99 (pc' := 101) rfl rfl ?_
    refine p_iload B147 at_101 (pc' := 103) rfl rfl ?_
    refine r_static (D' := D2) B147 at_103 (pc' := 106) rfl (W5 B147.gw) (W6 B147.gw) (W7 B147.gw) (W8 B147.gw) (by decide) (k_mx W (mxI (0 : Int32) (fq p0)) (fq p1) _ _) (argsL := [(.int (mxI (0 : Int32) (fq p0))), (.int (fq p1))]) (rest := []) rfl pd0 rfl rfl rfl (W := 0) rfl (by decide) (by decide) (cs' := 1) rfl (ss' := 3) rfl (by decide) (by decide) ?_
    intro T148 v149 B150
    replace B150 := Rn.and B150
    obtain ⟨rfl, B150⟩ := B150
    show Fn g D0 M _ (T148.setTop (mkF M.m 106 #[.val (.int p0), .val (.int p1), .val (.int p2), .val (.int p3), .val (.int p4), .val (.int (4 : Int32)), .val (.int (fq p0)), .val (.int (fq p1)), .val (.int (fq p2)), .val (.int (fq p3)), .val (.ref a135), .val (.long (((0 : Int64) + ((fq p0)).toInt64) + ((fq p1)).toInt64)), .second, .val (.int (mxI (0 : Int32) (fq p0))), .unset, .unset, .unset, .unset] [(.int (mxI (mxI (0 : Int32) (fq p0)) (fq p1)))]))
    refine p_istore B150 at_106 (pc' := 108) rfl (Ls' := #[.val (.int p0), .val (.int p1), .val (.int p2), .val (.int p3), .val (.int p4), .val (.int (4 : Int32)), .val (.int (fq p0)), .val (.int (fq p1)), .val (.int (fq p2)), .val (.int (fq p3)), .val (.ref a135), .val (.long (((0 : Int64) + ((fq p0)).toInt64) + ((fq p1)).toInt64)), .second, .val (.int (mxI (mxI (0 : Int32) (fq p0)) (fq p1))), .unset, .unset, .unset, .unset]) rfl ?_
    refine p_iload B150 at_108 (pc' := 110) rfl rfl ?_
    refine p_iconst B150 at_110 (pc' := 111) rfl (v := (3 : Int32)) (by decide) ?_
    refine b_icF B150 at_111 (pc' := 114) rfl (show ¬ (4 : Int32) < (3 : Int32) from by decide) ?_
    refine p_aload B150 at_114 (pc' := 116) rfl rfl rfl ?_
    refine p_iload B150 at_116 (pc' := 118) rfl rfl ?_
    refine r_virtual (D' := D6) B150 at_118 (pc' := 121) rfl (W25 B150.gw) (W26 B150.gw) (W28 B150.gw) (fun vm0 hZ => notFace_of_selects (args := #[]) (mvT hZ (W28 B150.gw))) (W27 B150.gw) (W11 B150.gw) (W29 B150.gw) (by decide) (fE (i := 0) rfl) (k_ad W a135 (fq p2) (2 : Int32) (3 : Int32) (mxI (mxI (0 : Int32) (fq p0)) (fq p1)) (((0 : Int64) + ((fq p0)).toInt64) + ((fq p1)).toInt64) (by decide) _ _) (argsL := [(.int (fq p2))]) (rest := []) rfl pd4 rfl rfl rfl (W := 0) rfl (by decide) (by decide) (cs' := 1) rfl (ss' := 3) rfl (by decide) (by decide) ?_
    intro T151 v152 B153
    replace B153 := Rn.and B153
    obtain ⟨rfl, B153⟩ := B153
    show Fn g D0 M _ (T151.setTop (mkF M.m 121 #[.val (.int p0), .val (.int p1), .val (.int p2), .val (.int p3), .val (.int p4), .val (.int (4 : Int32)), .val (.int (fq p0)), .val (.int (fq p1)), .val (.int (fq p2)), .val (.int (fq p3)), .val (.ref a135), .val (.long (((0 : Int64) + ((fq p0)).toInt64) + ((fq p1)).toInt64)), .second, .val (.int (mxI (mxI (0 : Int32) (fq p0)) (fq p1))), .unset, .unset, .unset, .unset] []))
    refine p_lload B153 at_121 (pc' := 123) rfl rfl ?_
    refine p_iload B153 at_123 (pc' := 125) rfl rfl ?_
    refine p_i2l B153 at_125 (pc' := 126) rfl ?_
    refine p_ladd B153 at_126 (pc' := 127) rfl ?_
    refine p_lstore B153 at_127 (pc' := 129) rfl (Ls' := #[.val (.int p0), .val (.int p1), .val (.int p2), .val (.int p3), .val (.int p4), .val (.int (4 : Int32)), .val (.int (fq p0)), .val (.int (fq p1)), .val (.int (fq p2)), .val (.int (fq p3)), .val (.ref a135), .val (.long ((((0 : Int64) + ((fq p0)).toInt64) + ((fq p1)).toInt64) + ((fq p2)).toInt64)), .second, .val (.int (mxI (mxI (0 : Int32) (fq p0)) (fq p1))), .unset, .unset, .unset, .unset]) rfl ?_
    refine p_iload B153 at_129 (pc' := 131) rfl rfl ?_
    refine p_iload B153 at_131 (pc' := 133) rfl rfl ?_
    refine r_static (D' := D2) B153 at_133 (pc' := 136) rfl (W5 B153.gw) (W6 B153.gw) (W7 B153.gw) (W8 B153.gw) (by decide) (k_mx W (mxI (mxI (0 : Int32) (fq p0)) (fq p1)) (fq p2) _ _) (argsL := [(.int (mxI (mxI (0 : Int32) (fq p0)) (fq p1))), (.int (fq p2))]) (rest := []) rfl pd0 rfl rfl rfl (W := 0) rfl (by decide) (by decide) (cs' := 1) rfl (ss' := 3) rfl (by decide) (by decide) ?_
    intro T154 v155 B156
    replace B156 := Rn.and B156
    obtain ⟨rfl, B156⟩ := B156
    show Fn g D0 M _ (T154.setTop (mkF M.m 136 #[.val (.int p0), .val (.int p1), .val (.int p2), .val (.int p3), .val (.int p4), .val (.int (4 : Int32)), .val (.int (fq p0)), .val (.int (fq p1)), .val (.int (fq p2)), .val (.int (fq p3)), .val (.ref a135), .val (.long ((((0 : Int64) + ((fq p0)).toInt64) + ((fq p1)).toInt64) + ((fq p2)).toInt64)), .second, .val (.int (mxI (mxI (0 : Int32) (fq p0)) (fq p1))), .unset, .unset, .unset, .unset] [(.int (mxI (mxI (mxI (0 : Int32) (fq p0)) (fq p1)) (fq p2)))]))
    refine p_istore B156 at_136 (pc' := 138) rfl (Ls' := #[.val (.int p0), .val (.int p1), .val (.int p2), .val (.int p3), .val (.int p4), .val (.int (4 : Int32)), .val (.int (fq p0)), .val (.int (fq p1)), .val (.int (fq p2)), .val (.int (fq p3)), .val (.ref a135), .val (.long ((((0 : Int64) + ((fq p0)).toInt64) + ((fq p1)).toInt64) + ((fq p2)).toInt64)), .second, .val (.int (mxI (mxI (mxI (0 : Int32) (fq p0)) (fq p1)) (fq p2))), .unset, .unset, .unset, .unset]) rfl ?_
    refine p_iload B156 at_138 (pc' := 140) rfl rfl ?_
    refine p_iconst B156 at_140 (pc' := 141) rfl (v := (4 : Int32)) (by decide) ?_
    refine b_icF B156 at_141 (pc' := 144) rfl (show ¬ (4 : Int32) < (4 : Int32) from by decide) ?_
    refine p_aload B156 at_144 (pc' := 146) rfl rfl rfl ?_
    refine p_iload B156 at_146 (pc' := 148) rfl rfl ?_
    refine r_virtual (D' := D6) B156 at_148 (pc' := 151) rfl (W25 B156.gw) (W26 B156.gw) (W28 B156.gw) (fun vm0 hZ => notFace_of_selects (args := #[]) (mvT hZ (W28 B156.gw))) (W27 B156.gw) (W11 B156.gw) (W29 B156.gw) (by decide) (fE (i := 0) rfl) (k_ad W a135 (fq p3) (3 : Int32) (4 : Int32) (mxI (mxI (mxI (0 : Int32) (fq p0)) (fq p1)) (fq p2)) ((((0 : Int64) + ((fq p0)).toInt64) + ((fq p1)).toInt64) + ((fq p2)).toInt64) (by decide) _ _) (argsL := [(.int (fq p3))]) (rest := []) rfl pd4 rfl rfl rfl (W := 0) rfl (by decide) (by decide) (cs' := 1) rfl (ss' := 3) rfl (by decide) (by decide) ?_
    intro T157 v158 B159
    replace B159 := Rn.and B159
    obtain ⟨rfl, B159⟩ := B159
    show Fn g D0 M _ (T157.setTop (mkF M.m 151 #[.val (.int p0), .val (.int p1), .val (.int p2), .val (.int p3), .val (.int p4), .val (.int (4 : Int32)), .val (.int (fq p0)), .val (.int (fq p1)), .val (.int (fq p2)), .val (.int (fq p3)), .val (.ref a135), .val (.long ((((0 : Int64) + ((fq p0)).toInt64) + ((fq p1)).toInt64) + ((fq p2)).toInt64)), .second, .val (.int (mxI (mxI (mxI (0 : Int32) (fq p0)) (fq p1)) (fq p2))), .unset, .unset, .unset, .unset] []))
    refine p_lload B159 at_151 (pc' := 153) rfl rfl ?_
    refine p_iload B159 at_153 (pc' := 155) rfl rfl ?_
    refine p_i2l B159 at_155 (pc' := 156) rfl ?_
    refine p_ladd B159 at_156 (pc' := 157) rfl ?_
    refine p_lstore B159 at_157 (pc' := 159) rfl (Ls' := #[.val (.int p0), .val (.int p1), .val (.int p2), .val (.int p3), .val (.int p4), .val (.int (4 : Int32)), .val (.int (fq p0)), .val (.int (fq p1)), .val (.int (fq p2)), .val (.int (fq p3)), .val (.ref a135), .val (.long (((((0 : Int64) + ((fq p0)).toInt64) + ((fq p1)).toInt64) + ((fq p2)).toInt64) + ((fq p3)).toInt64)), .second, .val (.int (mxI (mxI (mxI (0 : Int32) (fq p0)) (fq p1)) (fq p2))), .unset, .unset, .unset, .unset]) rfl ?_
    refine p_iload B159 at_159 (pc' := 161) rfl rfl ?_
    refine p_iload B159 at_161 (pc' := 163) rfl rfl ?_
    refine r_static (D' := D2) B159 at_163 (pc' := 166) rfl (W5 B159.gw) (W6 B159.gw) (W7 B159.gw) (W8 B159.gw) (by decide) (k_mx W (mxI (mxI (mxI (0 : Int32) (fq p0)) (fq p1)) (fq p2)) (fq p3) _ _) (argsL := [(.int (mxI (mxI (mxI (0 : Int32) (fq p0)) (fq p1)) (fq p2))), (.int (fq p3))]) (rest := []) rfl pd0 rfl rfl rfl (W := 0) rfl (by decide) (by decide) (cs' := 1) rfl (ss' := 3) rfl (by decide) (by decide) ?_
    intro T160 v161 B162
    replace B162 := Rn.and B162
    obtain ⟨rfl, B162⟩ := B162
    show Fn g D0 M _ (T160.setTop (mkF M.m 166 #[.val (.int p0), .val (.int p1), .val (.int p2), .val (.int p3), .val (.int p4), .val (.int (4 : Int32)), .val (.int (fq p0)), .val (.int (fq p1)), .val (.int (fq p2)), .val (.int (fq p3)), .val (.ref a135), .val (.long (((((0 : Int64) + ((fq p0)).toInt64) + ((fq p1)).toInt64) + ((fq p2)).toInt64) + ((fq p3)).toInt64)), .second, .val (.int (mxI (mxI (mxI (0 : Int32) (fq p0)) (fq p1)) (fq p2))), .unset, .unset, .unset, .unset] [(.int (mxI (mxI (mxI (mxI (0 : Int32) (fq p0)) (fq p1)) (fq p2)) (fq p3)))]))
    refine p_istore B162 at_166 (pc' := 168) rfl (Ls' := #[.val (.int p0), .val (.int p1), .val (.int p2), .val (.int p3), .val (.int p4), .val (.int (4 : Int32)), .val (.int (fq p0)), .val (.int (fq p1)), .val (.int (fq p2)), .val (.int (fq p3)), .val (.ref a135), .val (.long (((((0 : Int64) + ((fq p0)).toInt64) + ((fq p1)).toInt64) + ((fq p2)).toInt64) + ((fq p3)).toInt64)), .second, .val (.int (mxI (mxI (mxI (mxI (0 : Int32) (fq p0)) (fq p1)) (fq p2)) (fq p3))), .unset, .unset, .unset, .unset]) rfl ?_
    refine p_aload B162 at_168 (pc' := 170) rfl rfl rfl ?_
    refine r_virtual (D' := D5) B162 at_170 (pc' := 173) rfl (W18 B162.gw) (W19 B162.gw) (W21 B162.gw) (fun vm0 hZ => notFace_of_selects (args := #[]) (mvT hZ (W21 B162.gw))) (W20 B162.gw) (W11 B162.gw) (W22 B162.gw) (by decide) (fE (i := 0) rfl) (k_me W a135 (4 : Int32) (mxI (mxI (mxI (mxI (0 : Int32) (fq p0)) (fq p1)) (fq p2)) (fq p3)) (((((0 : Int64) + ((fq p0)).toInt64) + ((fq p1)).toInt64) + ((fq p2)).toInt64) + ((fq p3)).toInt64) (by decide) _ _) (argsL := []) (rest := []) rfl pd3 rfl rfl rfl (W := 0) rfl (by decide) (by decide) (cs' := 1) rfl (ss' := 3) rfl (by decide) (by decide) ?_
    intro T163 v164 B165
    replace B165 := Rn.and B165
    obtain ⟨rfl, B165⟩ := B165
    show Fn g D0 M _ (T163.setTop (mkF M.m 173 #[.val (.int p0), .val (.int p1), .val (.int p2), .val (.int p3), .val (.int p4), .val (.int (4 : Int32)), .val (.int (fq p0)), .val (.int (fq p1)), .val (.int (fq p2)), .val (.int (fq p3)), .val (.ref a135), .val (.long (((((0 : Int64) + ((fq p0)).toInt64) + ((fq p1)).toInt64) + ((fq p2)).toInt64) + ((fq p3)).toInt64)), .second, .val (.int (mxI (mxI (mxI (mxI (0 : Int32) (fq p0)) (fq p1)) (fq p2)) (fq p3))), .unset, .unset, .unset, .unset] [(.double (FP.ddiv (FP.l2d (((((0 : Int64) + ((fq p0)).toInt64) + ((fq p1)).toInt64) + ((fq p2)).toInt64) + ((fq p3)).toInt64)) (FP.i2d (4 : Int32))))]))
    refine p_dstore B165 at_173 (pc' := 175) rfl (Ls' := #[.val (.int p0), .val (.int p1), .val (.int p2), .val (.int p3), .val (.int p4), .val (.int (4 : Int32)), .val (.int (fq p0)), .val (.int (fq p1)), .val (.int (fq p2)), .val (.int (fq p3)), .val (.ref a135), .val (.long (((((0 : Int64) + ((fq p0)).toInt64) + ((fq p1)).toInt64) + ((fq p2)).toInt64) + ((fq p3)).toInt64)), .second, .val (.int (mxI (mxI (mxI (mxI (0 : Int32) (fq p0)) (fq p1)) (fq p2)) (fq p3))), .val (.double (FP.ddiv (FP.l2d (((((0 : Int64) + ((fq p0)).toInt64) + ((fq p1)).toInt64) + ((fq p2)).toInt64) + ((fq p3)).toInt64)) (FP.i2d (4 : Int32)))), .second, .unset, .unset]) rfl ?_
    refine p_iload B165 at_175 (pc' := 177) rfl rfl ?_
    refine b_ifT B165 at_177 (pc' := 193) (show ¬ (4 : Int32) = (0 : Int32) from by decide) (by decide) (by decide) ?_
    refine p_lload B165 at_193 (pc' := 195) rfl rfl ?_
    refine p_l2d B165 at_195 (pc' := 196) rfl rfl ?_
    refine p_iload B165 at_196 (pc' := 198) rfl rfl ?_
    refine p_i2d B165 at_198 (pc' := 199) rfl rfl ?_
    refine p_ddiv B165 at_199 (pc' := 200) rfl (nnq (by decide)) rfl ?_
    refine p_dstore B165 at_200 (pc' := 202) rfl (Ls' := #[.val (.int p0), .val (.int p1), .val (.int p2), .val (.int p3), .val (.int p4), .val (.int (4 : Int32)), .val (.int (fq p0)), .val (.int (fq p1)), .val (.int (fq p2)), .val (.int (fq p3)), .val (.ref a135), .val (.long (((((0 : Int64) + ((fq p0)).toInt64) + ((fq p1)).toInt64) + ((fq p2)).toInt64) + ((fq p3)).toInt64)), .second, .val (.int (mxI (mxI (mxI (mxI (0 : Int32) (fq p0)) (fq p1)) (fq p2)) (fq p3))), .val (.double (FP.ddiv (FP.l2d (((((0 : Int64) + ((fq p0)).toInt64) + ((fq p1)).toInt64) + ((fq p2)).toInt64) + ((fq p3)).toInt64)) (FP.i2d (4 : Int32)))), .second, .val (.double (FP.ddiv (FP.l2d (((((0 : Int64) + ((fq p0)).toInt64) + ((fq p1)).toInt64) + ((fq p2)).toInt64) + ((fq p3)).toInt64)) (FP.i2d (4 : Int32)))), .second]) rfl ?_
    refine p_dload B165 at_202 (pc' := 204) rfl rfl ?_
    refine p_dload B165 at_204 (pc' := 206) rfl rfl ?_
    refine p_dcmp B165 at_206 (pc' := 207) rfl (v := (0 : Int32)) (Jvm.RoadKit.dcmpV_self (nnq (by decide)) _) ?_
    refine b_ifF B165 at_207 (pc' := 210) rfl (show (0 : Int32) = (0 : Int32) from by decide) ?_
    refine p_dload B165 at_210 (pc' := 212) rfl rfl ?_
    refine p_dconst1 B165 at_212 (pc' := 213) rfl (v := (FP.l2d 1)) (by decide +kernel) ?_
    refine p_dcmp B165 at_213 (pc' := 214) rfl (v := (cmpValue (FP.dcmp (FP.ddiv (FP.l2d (((((0 : Int64) + ((fq p0)).toInt64) + ((fq p1)).toInt64) + ((fq p2)).toInt64) + ((fq p3)).toInt64)) (FP.i2d (4 : Int32))) (FP.l2d 1)) .l)) rfl ?_
    have f0 := fq_r p0
    have g0 := mx_r (0 : Int32) (fq p0)
    have f1 := fq_r p1
    have g1 := mx_r (mxI (0 : Int32) (fq p0)) (fq p1)
    have f2 := fq_r p2
    have g2 := mx_r (mxI (mxI (0 : Int32) (fq p0)) (fq p1)) (fq p2)
    have f3 := fq_r p3
    have g3 := mx_r (mxI (mxI (mxI (0 : Int32) (fq p0)) (fq p1)) (fq p2)) (fq p3)
    have l0 := c_ladd (0 : Int64) (fq p0).toInt64
    have r0 := rng64 ((0 : Int64) + (fq p0).toInt64)
    rw [c_i2l] at l0
    have l1 := c_ladd ((0 : Int64) + (fq p0).toInt64) (fq p1).toInt64
    have r1 := rng64 (((0 : Int64) + (fq p0).toInt64) + (fq p1).toInt64)
    rw [c_i2l] at l1
    have l2 := c_ladd (((0 : Int64) + (fq p0).toInt64) + (fq p1).toInt64) (fq p2).toInt64
    have r2 := rng64 ((((0 : Int64) + (fq p0).toInt64) + (fq p1).toInt64) + (fq p2).toInt64)
    rw [c_i2l] at l2
    have l3 := c_ladd ((((0 : Int64) + (fq p0).toInt64) + (fq p1).toInt64) + (fq p2).toInt64) (fq p3).toInt64
    have r3 := rng64 (((((0 : Int64) + (fq p0).toInt64) + (fq p1).toInt64) + (fq p2).toInt64) + (fq p3).toInt64)
    rw [c_i2l] at l3
    have z0 : (0 : Int32).toInt = 0 := rfl
    have z1 : (0 : Int64).toInt = 0 := rfl
    have z2 : (4 : Int32).toInt = 4 := rfl
    have ts : (((((0 : Int64) + ((fq p0)).toInt64) + ((fq p1)).toInt64) + ((fq p2)).toInt64) + ((fq p3)).toInt64).toInt = (fq p0).toInt + (fq p1).toInt + (fq p2).toInt + (fq p3).toInt := by omega
    refine b_ifF B165 at_214 (pc' := 217) rfl (q_lo (by omega) (by omega) (by omega)) ?_
    refine p_dload B165 at_217 (pc' := 219) rfl rfl ?_
    refine p_iload B165 at_219 (pc' := 221) rfl rfl ?_
    refine p_i2d B165 at_221 (pc' := 222) rfl rfl ?_
    refine p_dcmp B165 at_222 (pc' := 223) rfl (v := (cmpValue (FP.dcmp (FP.ddiv (FP.l2d (((((0 : Int64) + ((fq p0)).toInt64) + ((fq p1)).toInt64) + ((fq p2)).toInt64) + ((fq p3)).toInt64)) (FP.i2d (4 : Int32))) (FP.i2d (mxI (mxI (mxI (mxI (0 : Int32) (fq p0)) (fq p1)) (fq p2)) (fq p3)))) .g)) rfl ?_
    refine b_ifF B165 at_223 (pc' := 226) rfl (q_hi (by omega) (by omega) (by omega) (by rw [z2]; omega) (by omega)) ?_
    refine p_iconst B165 at_226 (pc' := 227) rfl (v := (1 : Int32)) (by decide) ?_
    refine b_goto B165 at_227 (pc' := 231) (by decide) (by decide) ?_
    exact r_reti B165 at_231 rfl (by simp) rfl (by decide) (by decide) (fun vm h P => rfl)
theorem comes_1 {Post : Tables → Env → Array Value → State → Outcome → State → Prop} (hpost : ∀ tb e args s v u, (limb_1_1.after args s (.returned v) u = true ∧ limb_1_2.after args s (.returned v) u = true ∧ True) → Framed s (.returned v) u (Jvm.fieldLocs frame_1_writes args s ++ Jvm.arrayLocs frame_1_arrays args s ++ Jvm.staticLocs frame_1_statics s) 16 128 → Post tb e args s (.returned v) u) :
    ArmFor flags0 classFile x code maxLocals ret World_1 tables_1 room_1 Calls_1 rest_1 Pre_1 Post := by
  intro l hfl _ _ p e ha hc hk s m args below hf hA hF happ hP
  obtain ⟨hcalls, hrest, hpre⟩ := hP
  obtain ⟨-, -, -, hnamed, -, -, -, hat⟩ := (Spec.applies_iff hf).mp happ
  obtain ⟨hg, hn⟩ := and_e (Cond.before_iff.mp (show (Jvm.Cond.and given_1 narrow_1).before args s = true from hpre))
  obtain ⟨q0, r0⟩ := and_e hg
  obtain ⟨q1, r1⟩ := and_e r0
  obtain ⟨q2, r2⟩ := and_e r1
  obtain ⟨q3, r3⟩ := and_e r2
  obtain ⟨q4, r4⟩ := and_e r3
  obtain ⟨w0, w1, w2, w3, w4, rfl⟩ : ∃ w0 w1 w2 w3 w4 : Value, args = #[w0, w1, w2, w3, w4] := by
    have hs : args.size = 5 := by simpa [Cond.value, given_1] using q0
    obtain ⟨L⟩ := args
    match L, hs with
    | [w0, w1, w2, w3, w4], _ => exact ⟨w0, w1, w2, w3, w4, rfl⟩
  have hw := fun d (hd : d ∈ tables_1) => atoms_spec (ws := Jvm.Cond.code x code maxLocals ret :: tables_1) hat d (List.mem_cons_of_mem _ hd)
  have hfit : Fit s := fun {y c} hc i hi => by
    obtain ⟨ha, rfl⟩ := Array.getElem?_eq_some_iff.mp hc
    have q := List.all_eq_true.mp ((Array.all_eq_true_iff_forall_mem.mp hF) _ (Array.getElem_mem ha)) i (List.mem_range.mpr hi)
    simpa [Array.getElem?_eq_getElem hi] using q
  obtain ⟨i0, ei0⟩ := is_v q1
  obtain rfl : w0 = (.int i0) := Option.some.inj ei0
  obtain ⟨i1, ei1⟩ := is_v q2
  obtain rfl : w1 = (.int i1) := Option.some.inj ei1
  obtain ⟨i2, ei2⟩ := is_v q3
  obtain rfl : w2 = (.int i2) := Option.some.inj ei2
  obtain ⟨i3, ei3⟩ := is_v q4
  obtain rfl : w3 = (.int i3) := Option.some.inj ei3
  obtain ⟨i4, ei4⟩ := is_v r4
  obtain rfl : w4 = (.int i4) := Option.some.inj ei4
  have hEW : EW s #[(.int i0), (.int i1), (.int i2), (.int i3), (.int i4)] [] := EW.nil
  have hCH : CHv s [] s.vm s.heap := nofun
  have W : GW (l, s, #[(.int i0), (.int i1), (.int i2), (.int i3), (.int i4)], []) := ⟨hw, hEW, trivial, hfit, rfl⟩
  obtain ⟨n, o, h1, h2, h3, _, L, rfl, rfl, N, hr⟩ := k_law W i0 i1 i2 i3 i4 p e ha hc hk s m _ below hf ((Spec.applies_iff_loose hf).mp happ).1 ⟨rfl, State.Warmed39.refl s, hCH, ext_rfl _, Hp.nil⟩ trivial
  exact ⟨n, _, h1, h2, h3, hpost _ _ _ _ _ _ ⟨Cond.after_iff.mpr rfl, Cond.after_iff.mpr (eq_i res_at (Term.int_eval (1)) rfl), trivial⟩ ⟨hr.2.2.1, hr.2.2.2.1, (hr.2.2.2.2.sift fun y hy => Or.inr (N y hy)).mono (by decide) (by decide)⟩⟩
theorem main_1_1 : Claimed_1_1 := comes_1 fun _ _ _ _ _ _ h hF => ⟨h.1, hF⟩
theorem main_1_2 : Claimed_1_2 := comes_1 fun _ _ _ _ _ _ h hF => ⟨h.2.1, hF⟩
end Jvm.Pilot.@@N@@
namespace Jvm.Pilot.@@N@@
open Jvm Jvm.ClassFile Sem Op Lib Jvm.Free Jvm.Stand Jvm.Pilot.@@N@@.Jvm.D
/-! MADE BY PROGRAM (witnessworld.py) out of the Statement's table words and the real class files: 10 classes; the members and pool entries that the words name. The judged class is class 1, her method 2. -/
namespace start1
open Jvm.ClassFile
def u (s : String) : CpInfo := .utf8 (stringToUtf16 s)
/-- a pool by its gaps: so many unusable entries, then the entry; so many at the end -/
def gap : Nat → List CpInfo → List CpInfo
  | 0, r => r
  | n + 1, r => .unusable :: gap n r
def poolList (es : List (Nat × CpInfo)) (last : Nat) : List CpInfo := es.foldr (fun e r => gap e.1 (e.2 :: r)) (gap last [])
def pool (es : List (Nat × CpInfo)) (last : Nat) : Array CpInfo := ⟨poolList es last⟩
def fileOf (pool : Array CpInfo) (this : Nat) (attrs : Array Attribute := #[]) (ms : Array MethodInfo := #[]) (fl : Nat := 33) (sup : Nat := 0) (ifs : Array Nat := #[]) (fds : Array FieldInfo := #[]) : ClassFile where
  minorVersion := 0
  majorVersion := 65
  constantPool := pool
  accessFlags := fl
  thisClass := this
  superClass := sup
  interfaces := ifs
  fields := fds
  methods := ms
  attributes := attrs
def plain (name : String) (sup : Option ClassId) : Class where
  name := name
  kind := .ordinary
  loader := none
  accessFlags := 33
  super := sup
  interfaces := #[]
  cf := none
  fields := #[]
  methods := #[]
  instanceTypes := #[]
  staticTypes := #[]
  resolved := #[]
  callSites := []
  init := .initialized
  statics := none
  mirror := none

def pool0 : Array CpInfo := pool [(5, u "<init>"), (0, u "()V"), (1, .class_ 10), (1, u "java/lang/Object")] 113

def k0c0 : Code := { maxStack := 0, maxLocals := 1, code := object_method_1_code, exceptionTable := #[], attributes := #[] }
def k0m0 : Method := { name := "<init>", desc := "()V", sig := { parameters := [], returnType := none }, accessFlags := 1, code := some k0c0 }
/-- java/lang/Object -/
def k0 : Class := { plain "java/lang/Object" none with
  accessFlags := 33
  interfaces := #[]
  cf := some (fileOf pool0 8 #[] #[{ accessFlags := 1, nameIndex := 5, descriptorIndex := 6, attributes := #[] }] 33 0 #[] #[])
  fields := #[]
  methods := #[k0m0]
  instanceTypes := #[]
  staticTypes := #[]
  resolved := Array.replicate 124 none
  statics := none }

def pool1 : Array CpInfo := pool [(2, .class_ 4), (0, .nameAndType 5 6), (0, u "java/lang/Object"), (0, u "<init>"), (0, u "()V"), (0, .integer 2147483647), (0, .methodref 9 10), (0, .class_ 11), (0, .nameAndType 12 13), (0, u "java/lang/Math"), (0, u "max"), (0, u "(II)I"), (0, .methodref 15 16), (0, .class_ 17), (0, .nameAndType 18 19), (0, u "com/example/postings/postings/search/VectorFrequenciesMeanPinLaw"), (0, u "freq"), (0, u "(I)I"), (0, .class_ 21), (0, u "com/example/postings/postings/search/VectorFrequencies"), (0, .methodref 20 3), (0, .methodref 20 24), (0, .nameAndType 25 26), (0, u "add"), (0, u "(I)V"), (0, .methodref 20 28), (0, .nameAndType 29 30), (0, u "mean"), (0, u "()D"), (2, u "law"), (0, u "(IIIII)Z")] 3

def k1m0 : Method := { name := "<init>", desc := "()V", sig := { parameters := [], returnType := none }, accessFlags := 1, code := none }
def k1c1 : Code := { maxStack := 3, maxLocals := 1, code := method_2_code, exceptionTable := #[], attributes := #[] }
def k1m1 : Method := { name := "freq", desc := "(I)I", sig := { parameters := [.int], returnType := some .int }, accessFlags := 10, code := some k1c1 }
def k1c2 : Code := { maxStack := 4, maxLocals := 18, code := code, exceptionTable := #[], attributes := #[] }
def k1m2 : Method := { name := "law", desc := "(IIIII)Z", sig := { parameters := [.int, .int, .int, .int, .int], returnType := some .boolean }, accessFlags := 9, code := some k1c2 }
/-- com/example/postings/postings/search/VectorFrequenciesMeanPinLaw -/
def k1 : Class := { plain "com/example/postings/postings/search/VectorFrequenciesMeanPinLaw" (some 0) with
  accessFlags := 49
  interfaces := #[]
  cf := some (fileOf pool1 15 #[] #[{ accessFlags := 1, nameIndex := 5, descriptorIndex := 6, attributes := #[] }, { accessFlags := 10, nameIndex := 18, descriptorIndex := 19, attributes := #[] }, { accessFlags := 9, nameIndex := 33, descriptorIndex := 34, attributes := #[] }] 49 2 #[] #[])
  fields := #[]
  methods := #[k1m0, k1m1, k1m2]
  instanceTypes := #[]
  staticTypes := #[]
  resolved := Array.replicate 38 none
  statics := none }

def pool2 : Array CpInfo := pool [(1, .class_ 2), (0, u "java/lang/Math"), (1, .class_ 6), (1, u "java/lang/Object"), (0, u "<init>"), (0, u "()V"), (89, .class_ 100), (1, u "java/lang/Math$RandomNumberGeneratorHolder"), (71, u "negativeZeroFloatBits"), (0, u "J"), (2, u "negativeZeroDoubleBits"), (21, u "max"), (46, u "$assertionsDisabled"), (0, u "Z"), (88, u "(II)I"), (2, u "twoToTheDoubleScaleDown"), (0, u "D"), (4, u "twoToTheDoubleScaleUp"), (9, u "E"), (3, u "PI"), (2, u "TAU"), (2, u "DEGREES_TO_RADIANS"), (0, u "RADIANS_TO_DEGREES")] 94

def k2m0 : Method := { name := "<init>", desc := "()V", sig := { parameters := [], returnType := none }, accessFlags := 2, code := none }
def k2c1 : Code := { maxStack := 2, maxLocals := 2, code := jdk_29_method_65_code, exceptionTable := #[], attributes := #[] }
def k2m1 : Method := { name := "max", desc := "(II)I", sig := { parameters := [.int, .int], returnType := some .int }, accessFlags := 9, code := some k2c1 }
/-- java/lang/Math -/
def k2 : Class := { plain "java/lang/Math" (some 0) with
  accessFlags := 49
  interfaces := #[]
  cf := some (fileOf pool2 1 #[.nestMembers #[98]] #[{ accessFlags := 2, nameIndex := 7, descriptorIndex := 8, attributes := #[] }, { accessFlags := 9, nameIndex := 198, descriptorIndex := 335, attributes := #[] }] 49 4 #[] #[{ accessFlags := 25, nameIndex := 354, descriptorIndex := 339, attributes := #[] }, { accessFlags := 25, nameIndex := 358, descriptorIndex := 339, attributes := #[] }, { accessFlags := 25, nameIndex := 361, descriptorIndex := 339, attributes := #[] }, { accessFlags := 26, nameIndex := 364, descriptorIndex := 339, attributes := #[] }, { accessFlags := 26, nameIndex := 365, descriptorIndex := 339, attributes := #[] }, { accessFlags := 26, nameIndex := 172, descriptorIndex := 173, attributes := #[] }, { accessFlags := 26, nameIndex := 176, descriptorIndex := 173, attributes := #[] }, { accessFlags := 8, nameIndex := 344, descriptorIndex := 339, attributes := #[] }, { accessFlags := 8, nameIndex := 338, descriptorIndex := 339, attributes := #[] }, { accessFlags := 4120, nameIndex := 245, descriptorIndex := 246, attributes := #[] }])
  fields := #[{ name := "E", type := .double, accessFlags := 25, slot := 0, constantValue := 0 }, { name := "PI", type := .double, accessFlags := 25, slot := 1, constantValue := 0 }, { name := "TAU", type := .double, accessFlags := 25, slot := 2, constantValue := 0 }, { name := "DEGREES_TO_RADIANS", type := .double, accessFlags := 26, slot := 3, constantValue := 0 }, { name := "RADIANS_TO_DEGREES", type := .double, accessFlags := 26, slot := 4, constantValue := 0 }, { name := "negativeZeroFloatBits", type := .long, accessFlags := 26, slot := 5, constantValue := 0 }, { name := "negativeZeroDoubleBits", type := .long, accessFlags := 26, slot := 6, constantValue := 0 }, { name := "twoToTheDoubleScaleUp", type := .double, accessFlags := 8, slot := 7, constantValue := 0 }, { name := "twoToTheDoubleScaleDown", type := .double, accessFlags := 8, slot := 8, constantValue := 0 }, { name := "$assertionsDisabled", type := .boolean, accessFlags := 4120, slot := 9, constantValue := 0 }]
  methods := #[k2m0, k2m1]
  instanceTypes := #[]
  staticTypes := #[.double, .double, .double, .double, .double, .long, .long, .double, .double, .boolean]
  resolved := Array.replicate 460 none
  statics := none }

def pool3 : Array CpInfo := pool [(1, .methodref 2 3), (0, .class_ 4), (0, .nameAndType 5 6), (0, u "java/lang/Object"), (0, u "<init>"), (0, u "()V"), (0, .fieldref 8 9), (0, .class_ 10), (0, .nameAndType 11 12), (0, u "com/example/postings/postings/search/VectorFrequencies"), (0, u "largest"), (0, u "I"), (0, .methodref 14 15), (0, .class_ 16), (0, .nameAndType 17 18), (0, u "java/lang/Math"), (0, u "max"), (0, u "(II)I"), (0, .fieldref 8 20), (0, .nameAndType 21 22), (0, u "total"), (0, u "J"), (0, .fieldref 8 24), (0, .nameAndType 25 12), (0, u "distinctTerms"), (2, u "add"), (0, u "(I)V"), (1, u "mean"), (0, u "()D")] 3

def k3c0 : Code := { maxStack := 1, maxLocals := 1, code := prog_56_method_1_code, exceptionTable := #[], attributes := #[] }
def k3m0 : Method := { name := "<init>", desc := "()V", sig := { parameters := [], returnType := none }, accessFlags := 1, code := some k3c0 }
def k3c1 : Code := { maxStack := 5, maxLocals := 2, code := prog_56_method_2_code, exceptionTable := #[], attributes := #[] }
def k3m1 : Method := { name := "add", desc := "(I)V", sig := { parameters := [.int], returnType := none }, accessFlags := 1, code := some k3c1 }
def k3c2 : Code := { maxStack := 4, maxLocals := 1, code := prog_56_method_4_code, exceptionTable := #[], attributes := #[] }
def k3m2 : Method := { name := "mean", desc := "()D", sig := { parameters := [], returnType := some .double }, accessFlags := 1, code := some k3c2 }
/-- com/example/postings/postings/search/VectorFrequencies -/
def k3 : Class := { plain "com/example/postings/postings/search/VectorFrequencies" (some 0) with
  accessFlags := 49
  interfaces := #[]
  cf := some (fileOf pool3 8 #[] #[{ accessFlags := 1, nameIndex := 5, descriptorIndex := 6, attributes := #[] }, { accessFlags := 1, nameIndex := 28, descriptorIndex := 29, attributes := #[] }, { accessFlags := 1, nameIndex := 31, descriptorIndex := 32, attributes := #[] }] 49 2 #[] #[{ accessFlags := 2, nameIndex := 11, descriptorIndex := 12, attributes := #[] }, { accessFlags := 2, nameIndex := 21, descriptorIndex := 22, attributes := #[] }, { accessFlags := 2, nameIndex := 25, descriptorIndex := 12, attributes := #[] }])
  fields := #[{ name := "largest", type := .int, accessFlags := 2, slot := 0, constantValue := 0 }, { name := "total", type := .long, accessFlags := 2, slot := 1, constantValue := 0 }, { name := "distinctTerms", type := .int, accessFlags := 2, slot := 2, constantValue := 0 }]
  methods := #[k3m0, k3m1, k3m2]
  instanceTypes := #[.int, .long, .int]
  staticTypes := #[]
  resolved := Array.replicate 36 none
  statics := none }

def pool4 : Array CpInfo := pool [(1, u "java/lang/Cloneable"), (0, .class_ 1), (0, u "java/lang/Object"), (0, .class_ 3)] 3

/-- java/lang/Cloneable -/
def k4 : Class := { plain "java/lang/Cloneable" (some 0) with
  accessFlags := 1537
  interfaces := #[]
  cf := some (fileOf pool4 2 #[] #[] 1537 4 #[] #[])
  fields := #[]
  methods := #[]
  instanceTypes := #[]
  staticTypes := #[]
  resolved := Array.replicate 8 none
  statics := none }

def pool5 : Array CpInfo := pool [(1, u "java/io/Serializable"), (0, .class_ 1), (0, u "java/lang/Object"), (0, .class_ 3)] 3

/-- java/io/Serializable -/
def k5 : Class := { plain "java/io/Serializable" (some 0) with
  accessFlags := 1537
  interfaces := #[]
  cf := some (fileOf pool5 2 #[] #[] 1537 4 #[] #[])
  fields := #[]
  methods := #[]
  instanceTypes := #[]
  staticTypes := #[]
  resolved := Array.replicate 8 none
  statics := none }

/-- the primitive byte -/
def k6 : Class := { plain "byte" none with kind := .primitive 'B', accessFlags := 0x411 }
/-- [B -/
def k7 : Class := { plain "[B" (some 0) with kind := .array 6 .byte, interfaces := #[4, 5], accessFlags := 1041 }

/-- the primitive int -/
def k8 : Class := { plain "int" none with kind := .primitive 'I', accessFlags := 0x411 }
/-- [I -/
def k9 : Class := { plain "[I" (some 0) with kind := .array 8 .int, interfaces := #[4, 5], accessFlags := 1041 }

def heap : Heap := #[]
def classes : Array Class := #[k0, k1, k2, k3, k4, k5, k6, k7, k8, k9]
def interned : List (Array UInt16 × Addr) := []
def slotsUsed : Nat := 0
def theMethod : MethodId := ⟨1, 2⟩
def args0 : Array Value := #[.int 5, .int 5, .int 5, .int 5, .int 5]
def aboutOver (below : List Frame) : State where
  vm := { classes := classes, interned := interned.toArray }
  heap := heap
  slotsUsed := slotsUsed
  threads := #[{ frames := .invoking theMethod args0 :: below }]
def below0 : List Frame := [.native { method := ⟨0, 0⟩, args := #[] }]
def about1 : State := aboutOver below0
def p0 : Program := .bare "" "" ""
def e0 : Env := launch0.env 0 0 0
theorem w_frames : about1.frames = Frame.invoking theMethod args0 :: below0 := rfl
set_option maxRecDepth 65536 in
theorem w_args : argsFit about1.vm theMethod args0 = true := by decide +kernel
set_option maxRecDepth 65536 in
theorem w_heap : heapFits about1 = true := by decide +kernel
set_option maxRecDepth 65536 in
theorem w_runnable : about1.curStatus? = some .runnable := by decide +kernel
set_option maxRecDepth 65536 in
theorem w_alone : about1.alone = true := by decide +kernel
set_option maxRecDepth 65536 in
theorem w_named : about1.methodNamed? x = some theMethod := by decide +kernel
set_option maxRecDepth 65536 in
theorem w_hears : about1.hears theMethod below0 = true := by decide +kernel
set_option maxRecDepth 65536 in
theorem w_ripe : about1.ripe theMethod args0 below0 = true := by decide +kernel
theorem w_running : about1.status = .running := rfl
set_option maxRecDepth 65536 in
theorem w_room : about1.hasRoom e0.platform room_1 = true :=
  launch0.hasRoom_least _ room_1 (by decide +kernel) (by decide +kernel) (by decide +kernel) (by decide +kernel) (by decide +kernel) (by decide +kernel)
theorem allAtoms_all (ts : List Jvm.Cond) (a : Array Jvm.Value) (st : Jvm.State) : (allAtoms ts).before a st = ts.all (fun c => c.before a st) := by
  induction ts with
  | nil => rfl
  | cons c t ih =>
    show (Jvm.Cond.and c (allAtoms t)).before a st = _
    rw [Jvm.Cond.before_and, ih, List.all_cons]
def words1 : List Jvm.Cond := Jvm.Cond.code x code maxLocals ret :: tables_1
/-- a 'code' word, met by the world's own term for the bytes: nothing is compared byte by byte -/
theorem code_word {y : MethodName} {bytes : ByteArray} {mx : Nat} {rt : Option FieldType} {a : Array Value} {s : State} {m : MethodId} {meth : Method} {c : Code} (h1 : s.methodNamed? y = some m) (h2 : s.vm.method? m = some meth) (h3 : meth.code = some c) (h4 : c.code = bytes)
    (h5 : (c.maxLocals == mx && c.exceptionTable.isEmpty && decide (c.maxStack ≤ mostOperands) && decide (meth.sig.returnType = rt) && !meth.locks && decide (parseMethodDescriptor y.desc = some meth.sig)) = true) : (Jvm.Cond.code y bytes mx rt).before a s = true := by
  simp only [Bool.and_eq_true, beq_iff_eq, Bool.not_eq_true', decide_eq_true_eq] at h5
  obtain ⟨⟨⟨⟨⟨g1, g2⟩, g3⟩, g4⟩, g5⟩, g6⟩ := h5
  simp [Cond.before, Cond.holds, Cond.value, h1, h2, h3, h4, g1, g2, g3, g4, g5, g6]
def isCode : Jvm.Cond → Bool
  | .code _ _ _ _ => true
  | _ => false
theorem all_split {L : List Jvm.Cond} {P : Jvm.Cond → Bool} (h1 : L.all (fun c => isCode c || P c) = true) (h2 : ∀ c ∈ L.filter isCode, P c = true) : L.all P = true := by
  refine List.all_eq_true.mpr fun c hc => ?_
  have h := List.all_eq_true.mp h1 c hc
  rcases Bool.eq_false_or_eq_true (isCode c) with hi | hi
  · exact h2 c (List.mem_filter.mpr ⟨hc, hi⟩)
  · simpa [hi] using h
set_option maxRecDepth 65536 in
theorem w_c0 : (Jvm.Cond.code x code maxLocals ret).before args0 about1 = true := code_word (m := ⟨1, 2⟩) (meth := k1m2) (c := k1c2) (by decide +kernel) rfl rfl rfl (by decide +kernel)
set_option maxRecDepth 65536 in
theorem w_c1 : (Jvm.Cond.code ({ cls := "com/example/postings/postings/search/VectorFrequenciesMeanPinLaw", name := "freq", desc := "(I)I" } : Jvm.MethodName) method_2_code (1 : Nat) (Option.some Jvm.ClassFile.FieldType.int)).before args0 about1 = true := code_word (m := ⟨1, 1⟩) (meth := k1m1) (c := k1c1) (by decide +kernel) rfl rfl rfl (by decide +kernel)
set_option maxRecDepth 65536 in
theorem w_c2 : (Jvm.Cond.code ({ cls := "java/lang/Math", name := "max", desc := "(II)I" } : Jvm.MethodName) jdk_29_method_65_code (2 : Nat) (Option.some Jvm.ClassFile.FieldType.int)).before args0 about1 = true := code_word (m := ⟨2, 1⟩) (meth := k2m1) (c := k2c1) (by decide +kernel) rfl rfl rfl (by decide +kernel)
set_option maxRecDepth 65536 in
theorem w_c3 : (Jvm.Cond.code ({ cls := "com/example/postings/postings/search/VectorFrequencies", name := "<init>", desc := "()V" } : Jvm.MethodName) prog_56_method_1_code (1 : Nat) (Option.none : Option Jvm.ClassFile.FieldType)).before args0 about1 = true := code_word (m := ⟨3, 0⟩) (meth := k3m0) (c := k3c0) (by decide +kernel) rfl rfl rfl (by decide +kernel)
set_option maxRecDepth 65536 in
theorem w_c4 : (Jvm.Cond.code ({ cls := "java/lang/Object", name := "<init>", desc := "()V" } : Jvm.MethodName) object_method_1_code (1 : Nat) (Option.none : Option Jvm.ClassFile.FieldType)).before args0 about1 = true := code_word (m := ⟨0, 0⟩) (meth := k0m0) (c := k0c0) (by decide +kernel) rfl rfl rfl (by decide +kernel)
set_option maxRecDepth 65536 in
theorem w_c5 : (Jvm.Cond.code ({ cls := "com/example/postings/postings/search/VectorFrequencies", name := "mean", desc := "()D" } : Jvm.MethodName) prog_56_method_4_code (1 : Nat) (Option.some Jvm.ClassFile.FieldType.double)).before args0 about1 = true := code_word (m := ⟨3, 2⟩) (meth := k3m2) (c := k3c2) (by decide +kernel) rfl rfl rfl (by decide +kernel)
set_option maxRecDepth 65536 in
theorem w_c6 : (Jvm.Cond.code ({ cls := "com/example/postings/postings/search/VectorFrequencies", name := "add", desc := "(I)V" } : Jvm.MethodName) prog_56_method_2_code (2 : Nat) (Option.none : Option Jvm.ClassFile.FieldType)).before args0 about1 = true := code_word (m := ⟨3, 1⟩) (meth := k3m1) (c := k3c1) (by decide +kernel) rfl rfl rfl (by decide +kernel)
def codes1 : List Jvm.Cond := [Jvm.Cond.code x code maxLocals ret, Jvm.Cond.code ({ cls := "com/example/postings/postings/search/VectorFrequenciesMeanPinLaw", name := "freq", desc := "(I)I" } : Jvm.MethodName) method_2_code (1 : Nat) (Option.some Jvm.ClassFile.FieldType.int), Jvm.Cond.code ({ cls := "java/lang/Math", name := "max", desc := "(II)I" } : Jvm.MethodName) jdk_29_method_65_code (2 : Nat) (Option.some Jvm.ClassFile.FieldType.int), Jvm.Cond.code ({ cls := "com/example/postings/postings/search/VectorFrequencies", name := "<init>", desc := "()V" } : Jvm.MethodName) prog_56_method_1_code (1 : Nat) (Option.none : Option Jvm.ClassFile.FieldType), Jvm.Cond.code ({ cls := "java/lang/Object", name := "<init>", desc := "()V" } : Jvm.MethodName) object_method_1_code (1 : Nat) (Option.none : Option Jvm.ClassFile.FieldType), Jvm.Cond.code ({ cls := "com/example/postings/postings/search/VectorFrequencies", name := "mean", desc := "()D" } : Jvm.MethodName) prog_56_method_4_code (1 : Nat) (Option.some Jvm.ClassFile.FieldType.double), Jvm.Cond.code ({ cls := "com/example/postings/postings/search/VectorFrequencies", name := "add", desc := "(I)V" } : Jvm.MethodName) prog_56_method_2_code (2 : Nat) (Option.none : Option Jvm.ClassFile.FieldType)]
set_option maxRecDepth 65536 in
theorem codes_eq : words1.filter isCode = codes1 := rfl
theorem w_codes : ∀ c ∈ words1.filter isCode, c.before args0 about1 = true := by
  rw [codes_eq]
  intro c hc
  simp only [codes1, List.mem_cons, List.not_mem_nil, or_false] at hc
  rcases hc with rfl | rfl | rfl | rfl | rfl | rfl | rfl
  · exact w_c0
  · exact w_c1
  · exact w_c2
  · exact w_c3
  · exact w_c4
  · exact w_c5
  · exact w_c6
set_option maxRecDepth 65536 in
theorem w_t1 : (words1.take 24).all (fun c => isCode c || c.before args0 about1) = true := by decide +kernel
set_option maxRecDepth 65536 in
theorem w_t2 : (words1.drop 24).all (fun c => isCode c || c.before args0 about1) = true := by decide +kernel
theorem w_tables : (allAtoms (Jvm.Cond.code x code maxLocals ret :: tables_1)).before args0 about1 = true := by
  rw [allAtoms_all]
  show words1.all (fun c => c.before args0 about1) = true
  refine all_split ?_ w_codes
  rw [← List.take_append_drop 24 words1, List.all_append, w_t1, w_t2]
  rfl
set_option maxRecDepth 65536 in
theorem w_case : (Jvm.Cond.and given_1 narrow_1).before args0 about1 = true := by decide +kernel
theorem w_applies : (headSpec (Jvm.Cond.code x code maxLocals ret :: tables_1) room_1).applies x e0.platform about1 = true :=
  (Spec.applies_iff w_frames).mpr ⟨w_running, w_runnable, w_alone, w_named, w_hears, w_ripe, w_room, w_tables⟩
theorem atStart : AtStart classFile x code maxLocals ret World_1 tables_1 room_1 Calls_1 rest_1 Pre_1 launch0 p0 e0 about1 theMethod args0 below0 :=
  ⟨lists_1, trivial, launch0.admits_env _ _ _, launch0.least_env, fairChoices_fair.cas, fairChoices_fair.clock, w_frames, w_args, w_heap, w_applies, trivial, trivial, w_case⟩
end start1
theorem witness_1 : WitnessClaimed_1 := ⟨start1.p0, start1.e0, start1.about1, start1.theMethod, start1.args0, start1.below0, start1.atStart⟩
end Jvm.Pilot.@@N@@
