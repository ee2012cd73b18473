import JvmDerived
import JvmDerived.Pilot.@@N@@Statement
import JvmDerived.Pilot.@@N@@Code
set_option linter.unusedVariables false
set_option linter.unusedSimpArgs false
set_option maxRecDepth 65536
set_option maxHeartbeats 4000000
namespace Jvm.Pilot.@@N@@
open Jvm Jvm.ClassFile Sem Op Lib Jvm.Free Jvm.Stand Jvm.LawKit Jvm.RoadKit Bundle Jvm.Pilot.@@N@@.Jvm.D

def OwnSets (g : Launch × State × Array Value × List (String × Nat)) : Prop := (∀ d ∈ jdkStatics_1, d.before g.2.2.1 g.2.1 = true) ∧ Fit g.2.1 ∧ g.2.2.2 = consts_1
/-! OWN WALKING KIT, part 1: the heap as an explicit list, the running state, the goal, contracts. -/
abbrev GG := Launch × State × Array Value × List (String × Nat)
abbrev GG.l (g : GG) : Launch := g.1
abbrev GG.Z (g : GG) : State := g.2.1
abbrev GG.a0 (g : GG) : Array Value := g.2.2.1
abbrev GG.EL (g : GG) : List (String × Nat) := g.2.2.2
abbrev MM := Program × Env × State × MethodId × Array Value × List Frame × Method × Code
abbrev MM.p (M : MM) : Program := M.1
abbrev MM.e (M : MM) : Env := M.2.1
abbrev MM.s (M : MM) : State := M.2.2.1
abbrev MM.m (M : MM) : MethodId := M.2.2.2.1
abbrev MM.args (M : MM) : Array Value := M.2.2.2.2.1
abbrev MM.below (M : MM) : List Frame := M.2.2.2.2.2.1
abbrev MM.meth (M : MM) : Method := M.2.2.2.2.2.2.1
abbrev MM.c (M : MM) : Code := M.2.2.2.2.2.2.2
abbrev DD := MethodName × ByteArray × Nat × Option FieldType × Room
abbrev DD.y (D : DD) : MethodName := D.1
abbrev DD.cd (D : DD) : ByteArray := D.2.1
abbrev DD.mx (D : DD) : Nat := D.2.2.1
abbrev DD.rt (D : DD) : Option FieldType := D.2.2.2.1
abbrev DD.rm (D : DD) : Room := D.2.2.2.2
/-- the case's words, at its start -/
def GW (g : GG) : Prop := (∀ d ∈ tables_1, d.before g.a0 g.Z = true) ∧ EW g.Z g.a0 g.EL ∧ OwnSets g
theorem GW.w {g : GG} (W : GW g) : ∀ d ∈ tables_1, d.before g.a0 g.Z = true := W.1
abbrev FD := String × String × String × Value
abbrev Ent := Addr × ((String × List FD) ⊕ (FieldType × String × List Value))
abbrev SE := Addr × Addr × Int32 × List Value
def Ary (Z : State) (h : Heap) (a : Addr) (ty : FieldType) (nm : String) (vs : List Value) : Prop :=
  ∃ c : Cell, Jvm.RoadKit.Arr Z h a c ty ∧ c.slots = vs.toArray ∧ vs.length < 2 ^ 31 ∧ (∀ v ∈ vs, fits ty v = true) ∧ (∀ C, ty = .object C → Ovr Z c.cls C) ∧ (nm ≠ "" → Exa Z h a nm)
def Is (Z : State) (h : Heap) : Ent → Prop
  | (a, .inl (C, fs)) => Exa Z h a C ∧ ∀ f ∈ fs, Fld Z h a f.1 f.2.1 f.2.2.1 f.2.2.2
  | (a, .inr (ty, nm, vs)) => Ary Z h a ty nm vs
def Lays (Z : State) (a0 : Array Value) (C : String) (fs : List FD) : Prop :=
  (fs.map fun f => f.2.1).Nodup ∧ ∀ f ∈ fs, Laid Z a0 C f.1 f.2.1 f.2.2.1 ∧ ∃ ty, parseFieldDescriptor f.2.2.1 = some ty
def Ld (Z : State) (a0 : Array Value) : Ent → Prop
  | (_, .inl (C, fs)) => Lays Z a0 C fs
  | (_, .inr _) => True
def IsS (Z : State) (h : Heap) (y : SE) : Prop :=
  Exa Z h y.1 "java/lang/String" ∧ Fld Z h y.1 "java/lang/String" "value" "[B" (.ref y.2.1) ∧ Fld Z h y.1 "java/lang/String" "coder" "B" (.int y.2.2.1) ∧ Ary Z h y.2.1 .byte "" y.2.2.2
def Hp (g : GG) (vm : Vm) (h : Heap) (H : List Ent) (Lt : List SE) : Prop :=
  (∀ x ∈ H, Is g.Z h x ∧ Ld g.Z g.a0 x ∧ g.Z.heap.size ≤ x.1 ∧ Safe g.Z g.EL vm h x.1) ∧ (H.map Prod.fst).Nodup ∧ (∀ y ∈ Lt, IsS g.Z h y) ∧ ∀ x ∈ H, ∀ y ∈ Lt, x.1 ≠ y.1 ∧ x.1 ≠ y.2.1
section Heap
variable {g : GG} {Z : State} {h h' : Heap} {vm vm1 : Vm} {a b : Addr} {ty : FieldType} {nm : String} {vs : List Value} {H H' : List Ent} {Lt Lt' : List SE} {ws : List Addr} {a0 : Array Value}
theorem Ary.ext (A : Ary Z h a ty nm vs) (E : Ext h h') : Ary Z h' a ty nm vs := by
  obtain ⟨c, r1, r2, r3, r4, r5, r6⟩ := A
  exact ⟨c, r1.ext E, r2, r3, r4, r5, fun q => (r6 q).ext E⟩
theorem Ary.keep (A : Ary Z h a ty nm vs) (K : Keep h h' ws) (q : a ∉ ws) : Ary Z h' a ty nm vs := by
  obtain ⟨c, r1, r2, r3, r4, r5, r6⟩ := A
  exact ⟨c, ⟨K.2.1 a c r1.1 q, r1.2⟩, r2, r3, r4, r5, fun q => (r6 q).keep K⟩
theorem Ary.lt (A : Ary Z h a ty nm vs) : a < h.size := by obtain ⟨c, r1, -⟩ := A; exact r1.lt
theorem Is.lt {x : Ent} (I : Is Z h x) : x.1 < h.size := by
  obtain ⟨a, ⟨C, fs⟩ | ⟨ty, nm, vs⟩⟩ := x
  · exact I.1.lt
  · exact Ary.lt I
theorem Is.ext {x : Ent} (I : Is Z h x) (E : Ext h h') : Is Z h' x := by
  obtain ⟨a, ⟨C, fs⟩ | ⟨ty, nm, vs⟩⟩ := x
  · exact ⟨I.1.ext E, fun f hf => (I.2 f hf).ext E⟩
  · exact Ary.ext I E
theorem Is.keep {x : Ent} (I : Is Z h x) (K : Keep h h' ws) (q : x.1 ∉ ws) : Is Z h' x := by
  obtain ⟨a, ⟨C, fs⟩ | ⟨ty, nm, vs⟩⟩ := x
  · exact ⟨I.1.keep K, fun f hf => (I.2 f hf).keep K q⟩
  · exact Ary.keep I K q
theorem IsS.ext {y : SE} (I : IsS Z h y) (E : Ext h h') : IsS Z h' y := ⟨I.1.ext E, I.2.1.ext E, I.2.2.1.ext E, I.2.2.2.ext E⟩
theorem IsS.keep {y : SE} (I : IsS Z h y) (K : Keep h h' ws) (q : y.1 ∉ ws) (r : y.2.1 ∉ ws) : IsS Z h' y := ⟨I.1.keep K, I.2.1.keep K q, I.2.2.1.keep K q, I.2.2.2.keep K r⟩
/-- the tables and the heap go on, the heap at its end -/
theorem Hp.move (P : Hp g vm h H Lt) (C : CHr g.Z g.EL vm h vm1 h') (E : Ext h h') : Hp g vm1 h' H Lt :=
  ⟨fun x hx => ⟨(P.1 x hx).1.ext E, (P.1 x hx).2.1, (P.1 x hx).2.2.1, C.safe (P.1 x hx).1.lt (P.1 x hx).2.2.2⟩, P.2.1, fun y hy => (P.2.2.1 y hy).ext E, P.2.2.2⟩
theorem Hp.perm (P : Hp g vm h H Lt) (q : H.Perm H') : Hp g vm h H' Lt :=
  ⟨fun x hx => P.1 x (q.mem_iff.mpr hx), (q.map Prod.fst).nodup_iff.mp P.2.1, P.2.2.1, fun x hx => P.2.2.2 x (q.mem_iff.mpr hx)⟩
theorem perm_front {α : Type} {x : α} : ∀ {l : List α} {i : Nat}, l[i]? = some x → (x :: l.eraseIdx i).Perm l
  | [], _, h => by simp at h
  | a :: l, 0, h => by
    rw [List.getElem?_cons_zero] at h
    cases h
    exact List.Perm.refl _
  | a :: l, i + 1, h => by
    rw [List.getElem?_cons_succ] at h
    exact (List.Perm.swap a x _).trans ((perm_front h).cons a)
theorem Hp.front (P : Hp g vm h H Lt) {i : Nat} {x : Ent} (hi : H[i]? = some x) : Hp g vm h (x :: H.eraseIdx i) Lt := by
  exact P.perm (perm_front hi).symm
theorem Hp.sub (P : Hp g vm h H Lt) (q : H'.Sublist H) : Hp g vm h H' Lt :=
  ⟨fun x hx => P.1 x (q.subset hx), (q.map Prod.fst).nodup P.2.1, P.2.2.1, fun x hx => P.2.2.2 x (q.subset hx)⟩
theorem Hp.del (P : Hp g vm h H Lt) (i : Nat) : Hp g vm h (H.eraseIdx i) Lt := P.sub (List.eraseIdx_sublist H i)
theorem Hp.lsub (P : Hp g vm h H Lt) (q : ∀ y ∈ Lt', y ∈ Lt) : Hp g vm h H Lt' := ⟨P.1, P.2.1, fun y hy => P.2.2.1 y (q y hy), fun x hx y hy => P.2.2.2 x hx y (q y hy)⟩
theorem Hp.add (P : Hp g vm h H Lt) {x : Ent} (hI : Is g.Z h x) (hL : Ld g.Z g.a0 x) (h0 : g.Z.heap.size ≤ x.1) (hs : Safe g.Z g.EL vm h x.1) (hn : ∀ y ∈ H, y.1 ≠ x.1) (hl : ∀ y ∈ Lt, x.1 ≠ y.1 ∧ x.1 ≠ y.2.1) : Hp g vm h (x :: H) Lt := by
  refine ⟨fun y hy => ?_, ?_, P.2.2.1, fun y hy => ?_⟩
  · rcases List.mem_cons.mp hy with rfl | hy
    · exact ⟨hI, hL, h0, hs⟩
    · exact P.1 y hy
  · rw [List.map_cons, List.nodup_cons]
    refine ⟨fun q => ?_, P.2.1⟩
    obtain ⟨y, hy, e⟩ := List.mem_map.mp q
    exact hn y hy e
  · rcases List.mem_cons.mp hy with rfl | hy
    · exact hl
    · exact P.2.2.2 y hy
/-- a new cell at the heap's end -/
theorem Hp.born (P : Hp g vm h H Lt) (HC : CHv g.Z g.EL vm h) (E0 : Ext g.Z.heap h) (E : Ext h h') {x : Ent} (ha : x.1 = h.size) (hI : Is g.Z h' x) (hL : Ld g.Z g.a0 x) : Hp g vm h' (x :: H) Lt := by
  have C := CHr.ext E HC
  refine (P.move C E).add hI hL (by rw [ha]; exact E0.1) ?_ (fun y hy => ?_) (fun y hy => ?_)
  · intro B
    have B' := (HC.step fun _ _ _ q => E.2 _ _ q).2 _ B
    obtain ⟨cell, q⟩ := B'.there
    have := (Array.getElem?_eq_some_iff.mp q).1
    rw [ha] at this; omega
  · exact fun e => Nat.lt_irrefl _ (Nat.lt_of_lt_of_eq (P.1 y hy).1.lt (e.trans ha).symm)
  · have q1 := (P.2.2.1 y hy).1.lt
    have q2 := (P.2.2.1 y hy).2.2.2.lt
    exact ⟨fun e => Nat.lt_irrefl _ (Nat.lt_of_lt_of_eq q1 (e.symm.trans ha).symm), fun e => Nat.lt_irrefl _ (Nat.lt_of_lt_of_eq q2 (e.symm.trans ha).symm)⟩
theorem Hp.upd (P : Hp g vm h H Lt) (C : CHr g.Z g.EL vm h vm1 h') (K : Keep h h' [a]) {i : Nat} {x x' : Ent} (hi : H[i]? = some x) (ha : x.1 = a) (ha' : x'.1 = a) (hI : Is g.Z h' x') (hL : Ld g.Z g.a0 x') : Hp g vm1 h' (H.set i x') Lt := by
  obtain ⟨hl, hg⟩ := List.getElem?_eq_some_iff.mp hi
  have hmap : (H.set i x').map Prod.fst = H.map Prod.fst := by
    rw [List.map_set, ha']
    apply List.ext_getElem?
    intro j
    rw [List.getElem?_set]
    split
    · rename_i e; subst e
      rw [if_pos (by simpa using hl), List.getElem?_map, hi, ← ha]; rfl
    · rfl
  have hx : x ∈ H := hg ▸ List.getElem_mem hl
  have hmem : ∀ z ∈ H.set i x', z = x' ∨ (z ∈ H ∧ z.1 ≠ a) := fun z hz => by
    obtain ⟨j, hj⟩ := List.mem_iff_getElem?.mp hz
    rw [List.getElem?_set] at hj
    split at hj
    · exact Or.inl (Option.some.inj hj).symm
    · rename_i hne
      refine Or.inr ⟨List.mem_iff_getElem?.mpr ⟨j, hj⟩, fun e => hne ?_⟩
      obtain ⟨hjl, hjg⟩ := List.getElem?_eq_some_iff.mp hj
      have e1 : (H.map Prod.fst)[i]'(by simpa using hl) = (H.map Prod.fst)[j]'(by simpa using hjl) := by
        rw [List.getElem_map, List.getElem_map, hg, hjg, ha, e]
      exact (List.getElem_inj P.2.1).mp e1
  refine ⟨fun z hz => ?_, by rw [hmap]; exact P.2.1, fun y hy => ?_, fun z hz y hy => ?_⟩
  · rcases hmem z hz with rfl | ⟨hz, hne⟩
    · refine ⟨hI, hL, by rw [ha', ← ha]; exact (P.1 x hx).2.2.1, ?_⟩
      have := C.safe (P.1 x hx).1.lt (P.1 x hx).2.2.2
      rw [ha', ← ha]; exact this
    · exact ⟨(P.1 z hz).1.keep K (fun q => hne (List.mem_singleton.mp q)), (P.1 z hz).2.1, (P.1 z hz).2.2.1, C.safe (P.1 z hz).1.lt (P.1 z hz).2.2.2⟩
  · have q := P.2.2.2 x hx y hy
    rw [ha] at q
    exact (P.2.2.1 y hy).keep K (fun r => q.1 (List.mem_singleton.mp r).symm) (fun r => q.2 (List.mem_singleton.mp r).symm)
  · rcases hmem z hz with rfl | ⟨hz, -⟩
    · have q := P.2.2.2 x hx y hy
      rw [ha'] ; rw [ha] at q; exact q
    · exact P.2.2.2 z hz y hy
theorem Hp.lit (P : Hp g vm h H Lt) {y : SE} (I : IsS g.Z h y) (q : ∀ x ∈ H, x.1 ≠ y.1 ∧ x.1 ≠ y.2.1) : Hp g vm h H (y :: Lt) := by
  refine ⟨P.1, P.2.1, fun z hz => ?_, fun x hx z hz => ?_⟩
  · rcases List.mem_cons.mp hz with rfl | hz
    · exact I
    · exact P.2.2.1 z hz
  · rcases List.mem_cons.mp hz with rfl | hz
    · exact q x hx
    · exact P.2.2.2 x hx z hz
/-- a String that is made: it and its bytes are never written again -/
theorem Hp.freeze {cd : Int32} {n : String} {fs : List FD} (P : Hp g vm h ((a, .inl ("java/lang/String", fs)) :: (b, .inr (.byte, n, vs)) :: H) Lt)
    (f1 : ("java/lang/String", "value", "[B", Value.ref b) ∈ fs) (f2 : ("java/lang/String", "coder", "B", Value.int cd) ∈ fs) : Hp g vm h H ((a, b, cd, vs) :: Lt) := by
  have q := P.2.1
  simp only [List.map_cons, List.nodup_cons, List.mem_cons, not_or] at q
  have I1 := (P.1 _ (List.mem_cons_self ..)).1
  have I2 := (P.1 _ (List.mem_cons_of_mem _ (List.mem_cons_self ..))).1
  have I2' : Ary g.Z h b .byte "" vs := by
    obtain ⟨c, r1, r2, r3, r4, r5, r6⟩ := I2
    exact ⟨c, r1, r2, r3, r4, r5, fun q => absurd rfl q⟩
  have P' : Hp g vm h H Lt := P.sub ((List.sublist_cons_self _ _).trans (List.sublist_cons_self _ _))
  refine P'.lit ⟨I1.1, I1.2 _ f1, I1.2 _ f2, I2'⟩ fun x hx => ⟨fun e => ?_, fun e => ?_⟩
  · exact q.1.2 (List.mem_map.mpr ⟨x, hx, e⟩)
  · exact q.2.1 (List.mem_map.mpr ⟨x, hx, e⟩)
/-- .. whose bytes are another String's -/
theorem Hp.freezeL {cd cd' : Int32} {a' : Addr} {fs : List FD} (P : Hp g vm h ((a, .inl ("java/lang/String", fs)) :: H) Lt)
    (f1 : ("java/lang/String", "value", "[B", Value.ref b) ∈ fs) (f2 : ("java/lang/String", "coder", "B", Value.int cd) ∈ fs) (hm : (a', b, cd', vs) ∈ Lt) : Hp g vm h H ((a, b, cd, vs) :: Lt) := by
  have q := P.2.1
  simp only [List.map_cons, List.nodup_cons] at q
  have I1 := (P.1 _ (List.mem_cons_self ..)).1
  refine (P.del 0).lit ⟨I1.1, I1.2 _ f1, I1.2 _ f2, (P.2.2.1 _ hm).2.2.2⟩ fun x hx => ⟨fun e => q.1 (List.mem_map.mpr ⟨x, hx, e⟩), ?_⟩
  exact (P.2.2.2 x (List.mem_cons_of_mem _ hx) _ hm).2
/-- what holds wherever the list holds -/
abbrev Al (g : GG) (H : List Ent) (Lt : List SE) (P : Heap → Prop) : Prop := ∀ vm h, Ext g.Z.heap h → Hp g vm h H Lt → P h
theorem fO {i j : Nat} {C O n d : String} {fs : List FD} {v : Value} (hi : H[i]? = some (a, .inl (C, fs))) (hf : fs[j]? = some (O, n, d, v)) : Al g H Lt fun h => Fld g.Z h a O n d v := fun vm h _ P =>
  (P.1 _ (List.mem_of_getElem? hi)).1.2 _ (List.mem_of_getElem? hf)
theorem fE {i : Nat} {C : String} {fs : List FD} (hi : H[i]? = some (a, .inl (C, fs))) : Al g H Lt fun h => Exa g.Z h a C := fun vm h _ P => (P.1 _ (List.mem_of_getElem? hi)).1.1
theorem aH {i : Nat} (hi : H[i]? = some (a, .inr (ty, nm, vs))) : Al g H Lt fun h => Ary g.Z h a ty nm vs := fun vm h _ P => (P.1 _ (List.mem_of_getElem? hi)).1
theorem sE {cd : Int32} (hm : (a, b, cd, vs) ∈ Lt) : Al g H Lt fun h => Exa g.Z h a "java/lang/String" := fun vm h _ P => (P.2.2.1 _ hm).1
theorem sV {cd : Int32} (hm : (a, b, cd, vs) ∈ Lt) : Al g H Lt fun h => Fld g.Z h a "java/lang/String" "value" "[B" (.ref b) := fun vm h _ P => (P.2.2.1 _ hm).2.1
theorem sC {cd : Int32} (hm : (a, b, cd, vs) ∈ Lt) : Al g H Lt fun h => Fld g.Z h a "java/lang/String" "coder" "B" (.int cd) := fun vm h _ P => (P.2.2.1 _ hm).2.2.1
theorem sA {cd : Int32} (hm : (a, b, cd, vs) ∈ Lt) : Al g H Lt fun h => Ary g.Z h b .byte "" vs := fun vm h _ P => (P.2.2.1 _ hm).2.2.2
theorem Al.old {P : Heap → Prop} (hP : ∀ h, Ext g.Z.heap h → P h) : Al g H Lt P := fun _ h E _ => hP h E
theorem Ary.cell (A : Ary Z h a ty nm vs) : ∃ c : Cell, Jvm.RoadKit.Arr Z h a c ty ∧ c.slots.size = vs.length ∧ ∀ i : Nat, c.slots[i]? = vs[i]? := by
  obtain ⟨c, r1, r2, -⟩ := A
  exact ⟨c, r1, by rw [r2]; simp, fun i => by rw [r2]; simp⟩
end Heap
/-! OWN WALKING KIT, part 2: running, goal, contract, and one rule an instruction. -/
def Rn (g : GG) (D : DD) (M : MM) (T : State) (A : Vm → Heap → Prop) (cs ss : Nat) : Prop :=
  (GW g ∧ M.p.tables.exec = Jvm.exec ∧ M.c.code = D.cd ∧ M.c.maxLocals = D.mx ∧ M.meth.sig.returnType = D.rt ∧ M.meth.locks = false ∧ M.meth.name = D.y.name) ∧
  ∃ (vm0 : Vm) (k0 : Nat) (locs : List Loc), Stand M.p g.l M.e D.rm (M.s.setVm vm0) M.m M.args M.below M.meth M.c T locs cs ss ∧ M.s.Since vm0 k0 ∧ k0 ≤ T.heap.size ∧ g.Z.Warmed39 vm0 ∧ vm0.findClass D.y.cls = some M.m.cls ∧
    CHr g.Z g.EL M.s.vm M.s.heap vm0 T.heap ∧ Fr g.Z.heap.size locs ∧ Ext g.Z.heap T.heap ∧ A vm0 T.heap
abbrev RH (g : GG) (D : DD) (M : MM) (T : State) (H : List Ent) (Lt : List SE) (cs ss : Nat) : Prop := Rn g D M T (fun vm h => Hp g vm h H Lt) cs ss
def Fn (g : GG) (D : DD) (M : MM) (Q : Option Value → Vm → Heap → Prop) (U : State) : Prop :=
  ∃ (t : State) (v : Option Value) (L : List Loc), Steps M.p.tables M.e M.below U t ∧ t.status = .running ∧ Ended t M.below (.returned v) ∧ Q v t.vm t.heap ∧ Fr g.Z.heap.size L ∧ CHr g.Z g.EL M.s.vm M.s.heap t.vm t.heap ∧ Ext g.Z.heap t.heap ∧
    ReturnedEndW M.s (.returned v) t L D.rm.cells D.rm.slots
def CtW (g : GG) (D : DD) (ws : List Jvm.Cond) (as : Array Value) (H : List Ent) (Lt : List SE) (Q : Option Value → Vm → Heap → Prop) : Prop :=
  MetFree g.l D.y (head1 (Jvm.Cond.code D.y D.cd D.mx D.rt :: ws) D.rm) (fun a U => a = as ∧ g.Z.Warmed39 U.vm ∧ CHv g.Z g.EL U.vm U.heap ∧ Ext g.Z.heap U.heap ∧ Hp g U.vm U.heap H Lt) (fun _ _ _ _ _ => True)
    (fun _ U o U' => ∃ v L, o = .returned v ∧ Q v U'.vm U'.heap ∧ Fr g.Z.heap.size L ∧ CHr g.Z g.EL U.vm U.heap U'.vm U'.heap ∧ Ext g.Z.heap U'.heap ∧ ReturnedEndW U o U' L D.rm.cells D.rm.slots)
abbrev Ct (g : GG) (D : DD) (as : Array Value) (H : List Ent) (Lt : List SE) (Q : Option Value → Vm → Heap → Prop) : Prop := CtW g D [] as H Lt Q
section Rules
variable {g : GG} {D D' : DD} {M : MM} {T : State} {A A' : Vm → Heap → Prop} {cs ss : Nat} {Q Q' : Option Value → Vm → Heap → Prop} {pc pc' : Nat} {Ls Ls' : Array Slot} {S : List Value} {H H' : List Ent} {Lt Lt' : List SE} {as : Array Value} {ws : List Jvm.Cond}
theorem ext_rfl (h : Heap) : Ext h h := ⟨Nat.le_refl _, fun _ _ q => q⟩
theorem ext_trans {h h1 h2 : Heap} (E : Ext h h1) (E' : Ext h1 h2) : Ext h h2 := ⟨Nat.le_trans E.1 E'.1, fun a c q => E'.2 a c (E.2 a c q)⟩
theorem Rn.gw (B : Rn g D M T A cs ss) : GW g := B.1.1
theorem Rn.hw (B : Rn g D M T A cs ss) : ∀ d ∈ tables_1, d.before g.a0 g.Z = true := B.1.1.1
theorem Rn.hx (B : Rn g D M T A cs ss) : M.p.tables.exec = Jvm.exec := B.1.2.1
theorem Rn.cd (B : Rn g D M T A cs ss) : M.c.code = D.cd := B.1.2.2.1
theorem Rn.here (B : Rn g D M T A cs ss) : At T M.m M.c M.below := by obtain ⟨-, vm0, k0, locs, X, -⟩ := B; exact X.here
theorem Rn.map (B : Rn g D M T A cs ss) (q : ∀ vm h, Ext g.Z.heap h → A vm h → A' vm h) : Rn g D M T A' cs ss := by
  obtain ⟨st, vm0, k0, locs, X, hS, hk, hZ, hown, hC, N, E0, hH⟩ := B
  exact ⟨st, vm0, k0, locs, X, hS, hk, hZ, hown, hC, N, E0, q _ _ E0 hH⟩
theorem Rn.ex {α : Type} {P : α → Vm → Heap → Prop} (B : Rn g D M T (fun vm h => ∃ x, P x vm h) cs ss) : ∃ x, Rn g D M T (P x) cs ss := by
  obtain ⟨st, vm0, k0, locs, X, hS, hk, hZ, hown, hC, N, E0, x, hH⟩ := B
  exact ⟨x, st, vm0, k0, locs, X, hS, hk, hZ, hown, hC, N, E0, hH⟩
theorem Rn.and {P : Prop} (B : Rn g D M T (fun vm h => P ∧ A vm h) cs ss) : P ∧ Rn g D M T A cs ss := by
  obtain ⟨st, vm0, k0, locs, X, hS, hk, hZ, hown, hC, N, E0, x, hH⟩ := B
  exact ⟨x, st, vm0, k0, locs, X, hS, hk, hZ, hown, hC, N, E0, hH⟩
theorem Rn.or (B : Rn g D M T (fun vm h => A vm h ∨ A' vm h) cs ss) : Rn g D M T A cs ss ∨ Rn g D M T A' cs ss := by
  obtain ⟨st, vm0, k0, locs, X, hS, hk, hZ, hown, hC, N, E0, hH | hH⟩ := B
  · exact Or.inl ⟨st, vm0, k0, locs, X, hS, hk, hZ, hown, hC, N, E0, hH⟩
  · exact Or.inr ⟨st, vm0, k0, locs, X, hS, hk, hZ, hown, hC, N, E0, hH⟩
theorem Rn.front (B : RH g D M T H Lt cs ss) {i : Nat} {x : Ent} (hi : H[i]? = some x) (e : x :: H.eraseIdx i = H') : RH g D M T H' Lt cs ss := B.map fun _ _ _ P => e ▸ P.front hi
theorem Rn.del (B : RH g D M T H Lt cs ss) (i : Nat) (e : H.eraseIdx i = H') : RH g D M T H' Lt cs ss := B.map fun _ _ _ P => e ▸ P.del i
theorem Rn.lsub (B : RH g D M T H Lt cs ss) (q : ∀ y ∈ Lt', y ∈ Lt) : RH g D M T H Lt' cs ss := B.map fun _ _ _ P => P.lsub q
theorem Rn.mono (B : Rn g D M T A cs ss) {cs' ss' : Nat} (h1 : cs ≤ cs') (h2 : ss ≤ ss') : Rn g D M T A cs' ss' := by
  obtain ⟨st, vm0, k0, locs, X, r⟩ := B
  exact ⟨st, vm0, k0, locs, X.mono h1 h2, r⟩
theorem Fn.go {U U' : State} (F : Fn g D M Q U') (st : ∀ t, Steps M.p.tables M.e M.below U' t → Steps M.p.tables M.e M.below U t) : Fn g D M Q U := by
  obtain ⟨t, v, L, h1, r⟩ := F
  exact ⟨t, v, L, st _ h1, r⟩
theorem CtW.body (W : GW g) (hpl : plainFor D.y = true) (ef : ∀ m, entryFrame m as D.mx = mkF m 0 Ls []) (K : ∀ M T, RH g D M T H Lt 0 0 → Fn g D M Q (T.setTop (mkF M.m 0 Ls []))) : CtW g D ws as H Lt Q := by
  refine MetFree.of_bodySF hpl hisR ?_
  intro p e s m args below meth c s₁ Bd hml0 hP hK
  obtain ⟨rfl, hZ, hC, hE, hH⟩ := hP
  have hown : s.vm.findClass D.y.cls = some m.cls := findClass_of_methodNamed Bd.named
  have hnm := (name_of_methodNamed Bd.named Bd.method).1
  have X0 := Stand.of_body Bd
  have e0 : s₁.heap = s.heap := by rw [Bd.state]; rfl
  obtain ⟨t, v, L, h1, h2, h3, h4, h5, h6, h7, h8⟩ := K (p, e, s, m, args, below, meth, c) s₁ ⟨⟨W, Bd.exec, Bd.bytes, hml0, Bd.returns, Bd.notSynchronized, hnm⟩, s.vm, 0, [], X0, (State.WarmedH.refl s).since 0, Nat.zero_le _, hZ, hown, by rw [e0]; exact CHr.refl hC, Fr.nil _, by rw [e0]; exact hE, by rw [e0]; exact hH⟩
  exact ⟨t, _, castTop (ef m) h1, h2, h3, v, L, rfl, h4, h5, h6, h7, h8⟩
/-! returns -/
theorem endW {s t : State} {o : Outcome} {L : List Loc} {k n k' n' : Nat} (h : ReturnedEndW s o t L k n) (h1 : k ≤ k') (h2 : n ≤ n') : ReturnedEndW s o t L k' n' := ⟨h.1, h.2.1, h.2.2.1, h.2.2.2.mono h1 h2⟩
theorem r_ret (B : RH g D M T H Lt cs ss) (hd : decode D.cd pc = .ok (.return_, 1)) (hr : D.rt = none) (hc : cs ≤ D.rm.cells) (hs : ss ≤ D.rm.slots) (hQ : ∀ vm h, Hp g vm h H Lt → Q none vm h) : Fn g D M Q (T.setTop (mkF M.m pc Ls [])) := by
  obtain ⟨⟨W, hx, hcd, hml, hrt, hlk, hnm⟩, vm0, k0, locs, X, hS, hk, hZ, hown, hC, N, E0, hH⟩ := B
  obtain ⟨fs, hl, h1, h2, h3⟩ := X.leaveW hS hk (v := none) (fun _ => rfl) hlk
  have hat := CHv.at X hZ W.2.1 hC.1
  exact ⟨T.setFrames fs, none, locs, X.returnOut hx (hrt.trans hr) (hb hcd hd) hl, h1, h2, hQ _ _ (hH.move hat (ext_rfl _)), N, hC.trans hat, E0, endW h3 hc hs⟩
theorem r_retv (B : RH g D M T H Lt cs ss) {i : Instr} {w : Value} {t : FieldType} {rest : List Value} (hd : decode D.cd pc = .ok (i, 1)) (hr : D.rt = some t) (hn : narrow t w = w)
    (hi : (i = .ireturn ∧ (t = .int ∨ t = .boolean ∨ t = .byte ∨ t = .char ∨ t = .short) ∧ ∃ z, w = .int z) ∨ (i = .lreturn ∧ t = .long ∧ ∃ z, w = .long z) ∨ (i = .dreturn ∧ t = .double ∧ ∃ z, w = .double z) ∨ (i = .freturn ∧ t = .float ∧ ∃ z, w = .float z) ∨ (i = .areturn ∧ t.isReference = true ∧ w.isRef = true))
    (hc : cs ≤ D.rm.cells) (hs : ss ≤ D.rm.slots) (hQ : ∀ vm h, Hp g vm h H Lt → Q (some w) vm h) : Fn g D M Q (T.setTop (mkF M.m pc Ls (w :: rest))) := by
  obtain ⟨⟨W, hx, hcd, hml, hrt, hlk, hnm⟩, vm0, k0, locs, X, hS, hk, hZ, hown, hC, N, E0, hH⟩ := B
  obtain ⟨fs, hl, h1, h2, h3⟩ := X.leaveW hS hk (v := some w) (fun q => by rw [hrt, hr] at q; cases q) hlk
  have hat := CHv.at X hZ W.2.1 hC.1
  exact ⟨T.setFrames fs, some w, locs, retOut X hx (hrt.trans hr) hn hi (hb hcd hd) hl, h1, h2, hQ _ _ (hH.move hat (ext_rfl _)), N, hC.trans hat, E0, endW h3 hc hs⟩
theorem r_reti (B : RH g D M T H Lt cs ss) {z : Int32} {t : FieldType} {rest : List Value} (hd : decode D.cd pc = .ok (.ireturn, 1)) (hr : D.rt = some t) (ht : t = .int ∨ t = .boolean ∨ t = .byte ∨ t = .char ∨ t = .short) (hn : narrow t (.int z) = .int z)
    (hc : cs ≤ D.rm.cells) (hs : ss ≤ D.rm.slots) (hQ : ∀ vm h, Hp g vm h H Lt → Q (some (.int z)) vm h) : Fn g D M Q (T.setTop (mkF M.m pc Ls (.int z :: rest))) :=
  r_retv B hd hr hn (Or.inl ⟨rfl, ht, z, rfl⟩) hc hs hQ
theorem r_reta (B : RH g D M T H Lt cs ss) {w : Value} {t : FieldType} {rest : List Value} (hd : decode D.cd pc = .ok (.areturn, 1)) (hr : D.rt = some t) (ht : t.isReference = true) (hw : w.isRef = true)
    (hc : cs ≤ D.rm.cells) (hs : ss ≤ D.rm.slots) (hQ : ∀ vm h, Hp g vm h H Lt → Q (some w) vm h) : Fn g D M Q (T.setTop (mkF M.m pc Ls (w :: rest))) :=
  r_retv B hd hr (by cases t <;> first | (cases w <;> first | rfl | cases hw) | cases ht) (Or.inr (Or.inr (Or.inr (Or.inr ⟨rfl, ht, hw⟩)))) hc hs hQ
theorem r_retj (B : RH g D M T H Lt cs ss) {z : Int64} {rest : List Value} (hd : decode D.cd pc = .ok (.lreturn, 1)) (hr : D.rt = some .long)
    (hc : cs ≤ D.rm.cells) (hs : ss ≤ D.rm.slots) (hQ : ∀ vm h, Hp g vm h H Lt → Q (some (.long z)) vm h) : Fn g D M Q (T.setTop (mkF M.m pc Ls (.long z :: rest))) :=
  r_retv B hd hr rfl (Or.inr (Or.inl ⟨rfl, rfl, z, rfl⟩)) hc hs hQ
theorem r_retd (B : RH g D M T H Lt cs ss) {z : UInt64} {rest : List Value} (hd : decode D.cd pc = .ok (.dreturn, 1)) (hr : D.rt = some .double)
    (hc : cs ≤ D.rm.cells) (hs : ss ≤ D.rm.slots) (hQ : ∀ vm h, Hp g vm h H Lt → Q (some (.double z)) vm h) : Fn g D M Q (T.setTop (mkF M.m pc Ls (.double z :: rest))) :=
  r_retv B hd hr rfl (Or.inr (Or.inr (Or.inl ⟨rfl, rfl, z, rfl⟩))) hc hs hQ
/-! fields -/
theorem r_get (B : RH g D M T H Lt cs ss) {ix : Nat} {R0 O n d host : String} {a : Addr} {v : Value} (hd : decode D.cd pc = .ok (.getfield ix, 3)) (hp : pc + 3 = pc')
    (w : (Jvm.Cond.fieldLink D.y.cls ix R0 n d).before g.a0 g.Z = true ∨ (Jvm.Cond.fieldLinkNest D.y.cls ix R0 n d host).before g.a0 g.Z = true) (via : Via g.Z R0 O n d) (F : Al g H Lt fun h => Fld g.Z h a O n d v)
    (K : ∀ T', RH g D M T' H Lt cs ss → Fn g D M Q (T'.setTop (mkF M.m pc' Ls (v :: S)))) : Fn g D M Q (T.setTop (mkF M.m pc Ls (.ref a :: S))) := by
  subst hp
  obtain ⟨st, vm0, k0, locs, X, hS, hk, hZ, hown, hC, N, E0, hH⟩ := B
  obtain ⟨T', X', e', stp⟩ := getF (Z := g.Z) (a0 := g.a0) X st.2.1 hZ hown w via rfl (F _ _ E0 hH) (g := mkF M.m pc Ls (.ref a :: S)) rfl rfl (hb st.2.2.1 hd)
  exact (K T' ⟨st, vm0, k0, locs, X', hS, by rw [e']; exact hk, hZ, hown, by rw [e']; exact hC, N, by rw [e']; exact E0, by rw [e']; exact hH⟩).go stp
theorem r_gets (B : RH g D M T H Lt cs ss) {ix : Nat} {R0 O n d host : String} {v : Value} (hd : decode D.cd pc = .ok (.getstatic ix, 3)) (hp : pc + 3 = pc')
    (w : (Jvm.Cond.fieldLink D.y.cls ix R0 n d).before g.a0 g.Z = true ∨ (Jvm.Cond.fieldLinkNest D.y.cls ix R0 n d host).before g.a0 g.Z = true) (via : Via g.Z R0 O n d) (F : Sta g.Z g.Z.heap O n d v)
    (K : ∀ T', RH g D M T' H Lt cs ss → Fn g D M Q (T'.setTop (mkF M.m pc' Ls (v :: S)))) : Fn g D M Q (T.setTop (mkF M.m pc Ls S)) := by
  subst hp
  obtain ⟨st, vm0, k0, locs, X, hS, hk, hZ, hown, hC, N, E0, hH⟩ := B
  obtain ⟨T', X', e', stp⟩ := getS2 (Z := g.Z) (a0 := g.a0) X st.2.1 hZ hown w via rfl (F.ext E0) (g := mkF M.m pc Ls S) rfl (hb st.2.2.1 hd)
  exact (K T' ⟨st, vm0, k0, locs, X', hS, by rw [e']; exact hk, hZ, hown, by rw [e']; exact hC, N, by rw [e']; exact E0, by rw [e']; exact hH⟩).go stp
theorem is_put {Z : State} {h h' : Heap} {a0 : Array Value} {a : Addr} {C O n d : String} {fs : List FD} {j : Nat} {old v : Value} (I : Is Z h (a, .inl (C, fs))) (L : Lays Z a0 C fs) (hf : fs[j]? = some (O, n, d, old)) (W : Wr h h' a (Jvm.RoadKit.slotOf Z O n d) v) : Is Z h' (a, .inl (C, fs.set j (O, n, d, v))) ∧ Lays Z a0 C (fs.set j (O, n, d, v)) := by
  obtain ⟨hj, hg⟩ := List.getElem?_eq_some_iff.mp hf
  have hmap : (fs.set j (O, n, d, v)).map (fun f => f.2.1) = fs.map fun f => f.2.1 := by
    rw [List.map_set]
    apply List.ext_getElem?
    intro i
    rw [List.getElem?_set]
    split
    · rename_i e; subst e
      rw [if_pos (by simpa using hj), List.getElem?_map, hf]; rfl
    · rfl
  have hmem : ∀ z ∈ fs.set j (O, n, d, v), z = (O, n, d, v) ∨ (z ∈ fs ∧ z.2.1 ≠ n) := fun z hz => by
    obtain ⟨i, hi⟩ := List.mem_iff_getElem?.mp hz
    rw [List.getElem?_set] at hi
    split at hi
    · exact Or.inl (Option.some.inj hi).symm
    · rename_i hne
      refine Or.inr ⟨List.mem_iff_getElem?.mpr ⟨i, hi⟩, fun e => hne ?_⟩
      obtain ⟨hil, hig⟩ := List.getElem?_eq_some_iff.mp hi
      have e1 : (fs.map fun f => f.2.1)[j]'(by simpa using hj) = (fs.map fun f => f.2.1)[i]'(by simpa using hil) := by
        rw [List.getElem_map, List.getElem_map, hg, hig, e]
      exact (List.getElem_inj L.1).mp e1
  have hx : (O, n, d, old) ∈ fs := List.mem_of_getElem? hf
  refine ⟨⟨I.1.wr W, fun z hz => ?_⟩, by rw [hmap]; exact L.1, fun z hz => ?_⟩
  · rcases hmem z hz with rfl | ⟨hz, hne⟩
    · exact (I.2 _ hx).same W
    · obtain ⟨t1, ht1⟩ := (L.2 _ hx).2
      obtain ⟨t2, ht2⟩ := (L.2 _ hz).2
      exact (I.2 _ hz).other W (Or.inr (slot_ne (L.2 _ hz).1 (L.2 _ hx).1 hne ht2 ht1))
  · rcases hmem z hz with rfl | ⟨hz, -⟩
    · exact (show _ from L.2 (O, n, d, old) hx)
    · exact L.2 _ hz
theorem r_put (B : RH g D M T H Lt cs ss) {ix kk i j : Nat} {R0 O n d host C : String} {a : Addr} {v old : Value} {fs : List FD} {ty : FieldType} (hd : decode D.cd pc = .ok (.putfield ix, 3)) (hp : pc + 3 = pc')
    (w : (Jvm.Cond.fieldLink D.y.cls ix R0 n d).before g.a0 g.Z = true ∨ (Jvm.Cond.fieldLinkNest D.y.cls ix R0 n d host).before g.a0 g.Z = true) (via : Via g.Z R0 O n d)
    (hi : H[i]? = some (a, .inl (C, fs))) (hf : fs[j]? = some (O, n, d, old)) (L : (Jvm.Cond.lays C O n d).before g.a0 g.Z = true ∨ ((Jvm.Cond.laysFinal C O n d).before g.a0 g.Z = true ∧ D.y.cls = O ∧ D.y.name = "<init>")) (wi : (Jvm.Cond.instantiable C kk).before g.a0 g.Z = true)
    (hty : parseFieldDescriptor d = some ty) (hn : narrow ty v = v) (hft : fits ty v = true) (e : H.set i (a, .inl (C, fs.set j (O, n, d, v))) = H')
    (K : ∀ T', RH g D M T' H' Lt cs ss → Fn g D M Q (T'.setTop (mkF M.m pc' Ls S))) : Fn g D M Q (T.setTop (mkF M.m pc Ls (v :: .ref a :: S))) := by
  subst hp
  obtain ⟨st, vm0, k0, locs, X, hS, hk, hZ, hown, hC, N, E0, hH⟩ := B
  have I := hH.1 _ (List.mem_of_getElem? hi)
  obtain ⟨T', h', X', e', W, stp⟩ := putF (Z := g.Z) (a0 := g.a0) X st.2.1 hZ hown w via rfl (I.1.2 _ (List.mem_of_getElem? hf)) I.1.1 (L.imp id fun q => ⟨q.1, q.2.1, st.2.2.2.2.2.2.trans q.2.2⟩) wi hty hn hft (g := mkF M.m pc Ls (v :: .ref a :: S)) rfl rfl (hb st.2.2.1 hd)
  have C1 := CHr.wr W I.2.2.2 hC.1
  have hsz := W.size
  obtain ⟨q1, q2⟩ := is_put I.1 I.2.1 hf W
  have P' := hH.upd C1 (Keep.of_wr W) hi rfl rfl q1 q2
  rw [e] at P'
  refine (K T' ⟨st, vm0, k0, _, X', hS, by rw [e', hsz]; exact hk, hZ, hown, by rw [e']; exact hC.trans C1, Fr.snoc X' N I.2.2.1, ?_, by rw [e']; exact P'⟩).go stp
  rw [e']; exact (Old.wr ⟨rfl, E0⟩ W I.2.2.1).2
/-- putfield of an int that the field's kind narrows -/
theorem r_putn (B : RH g D M T H Lt cs ss) {ix kk i j : Nat} {R0 O n d C : String} {a : Addr} {v v' old : Value} {fs : List FD} {ty : FieldType} (hd : decode D.cd pc = .ok (.putfield ix, 3)) (hp : pc + 3 = pc')
    (w : (Jvm.Cond.fieldLink D.y.cls ix R0 n d).before g.a0 g.Z = true) (via : Via g.Z R0 O n d)
    (hi : H[i]? = some (a, .inl (C, fs))) (hf : fs[j]? = some (O, n, d, old)) (L : (Jvm.Cond.lays C O n d).before g.a0 g.Z = true ∨ ((Jvm.Cond.laysFinal C O n d).before g.a0 g.Z = true ∧ D.y.cls = O ∧ D.y.name = "<init>")) (wi : (Jvm.Cond.instantiable C kk).before g.a0 g.Z = true)
    (hty : parseFieldDescriptor d = some ty) (hn : narrow ty v = v') (hft : fits ty v' = true) (e : H.set i (a, .inl (C, fs.set j (O, n, d, v'))) = H')
    (K : ∀ T', RH g D M T' H' Lt cs ss → Fn g D M Q (T'.setTop (mkF M.m pc' Ls S))) : Fn g D M Q (T.setTop (mkF M.m pc Ls (v :: .ref a :: S))) := by
  subst hp
  obtain ⟨st, vm0, k0, locs, X, hS, hk, hZ, hown, hC, N, E0, hH⟩ := B
  have I := hH.1 _ (List.mem_of_getElem? hi)
  obtain ⟨T', h', X', e', W, stp⟩ := putFN (Z := g.Z) (a0 := g.a0) X st.2.1 hZ hown w via rfl (I.1.2 _ (List.mem_of_getElem? hf)) I.1.1 (L.imp id fun q => ⟨q.1, q.2.1, st.2.2.2.2.2.2.trans q.2.2⟩) wi hty hn hft (g := mkF M.m pc Ls (v :: .ref a :: S)) rfl rfl (hb st.2.2.1 hd)
  have C1 := CHr.wr W I.2.2.2 hC.1
  have hsz := W.size
  obtain ⟨q1, q2⟩ := is_put I.1 I.2.1 hf W
  have P' := hH.upd C1 (Keep.of_wr W) hi rfl rfl q1 q2
  rw [e] at P'
  refine (K T' ⟨st, vm0, k0, _, X', hS, by rw [e', hsz]; exact hk, hZ, hown, by rw [e']; exact hC.trans C1, Fr.snoc X' N I.2.2.1, ?_, by rw [e']; exact P'⟩).go stp
  rw [e']; exact (Old.wr ⟨rfl, E0⟩ W I.2.2.1).2
/-! new objects and arrays -/
theorem r_new (B : RH g D M T H Lt cs ss) {ix n cs' ss' : Nat} {C : String} {fs : List FD} (hd : decode D.cd pc = .ok (.new ix, 3)) (hp : pc + 3 = pc')
    (w : (Jvm.Cond.classLink D.y.cls ix C).before g.a0 g.Z = true) (wi : (Jvm.Cond.instantiable C n).before g.a0 g.Z = true) (wz : (Jvm.Cond.initialized C).before g.a0 g.Z = true) (hl : Lays g.Z g.a0 C fs)
    (hv : ∀ f ∈ fs, (parseFieldDescriptor f.2.2.1).map defaultValue = some f.2.2.2) (hc : cs + 1 = cs') (hs : ss + n = ss') (hc' : cs' ≤ D.rm.cells) (hs' : ss' ≤ D.rm.slots)
    (K : ∀ T' a, RH g D M T' ((a, .inl (C, fs)) :: H) Lt cs' ss' → Fn g D M Q (T'.setTop (mkF M.m pc' Ls (.ref a :: S)))) : Fn g D M Q (T.setTop (mkF M.m pc Ls S)) := by
  subst hp hc hs
  obtain ⟨st, vm0, k0, locs, X, hS, hk, hZ, hown, hC, N, E0, hH⟩ := B
  obtain ⟨T', h', X', e', E, A1, D1, -, stp⟩ := newO (Z := g.Z) (a0 := g.a0) X st.2.1 hZ hown w wi wz rfl (g := mkF M.m pc Ls S) rfl (hb st.2.2.1 hd) hc' hs'
  have P' := hH.born (x := (T.heap.size, .inl (C, fs))) hC.1 E0 E rfl ⟨A1, fun f hf => by
    obtain ⟨ty, ht⟩ := (hl.2 f hf).2
    have q := hv f hf
    rw [ht] at q
    rw [← Option.some.inj q]
    exact D1 (hl.2 f hf).1 ht⟩ hl
  exact (K T' _ ⟨st, vm0, k0, locs, X', hS, by rw [e']; exact Nat.le_trans hk E.1, hZ, hown, by rw [e']; exact hC.trans (CHr.ext E hC.1), N, by rw [e']; exact ext_trans E0 E, by rw [e']; exact P'⟩).go stp
theorem ary_new {Z : State} {h : Heap} {a : Addr} {k : ClassId} {ty : FieldType} {n : Int32} {nm : String} {nn : Nat} (A : Jvm.RoadKit.Arr Z h a (newA k ty n) ty) (hn : ¬ n < 0) (hnn : n.toNatClampNeg = nn) (hf : fits ty (defaultValue ty) = true) (hO : ∀ C, ty = .object C → Ovr Z k C) (hE : nm ≠ "" → Exa Z h a nm) : Ary Z h a ty nm (List.replicate nn (defaultValue ty)) := by
  refine ⟨_, A, ?_, ?_, ?_, hO, hE⟩
  · subst hnn; simp [newA]
  · have := (back32 hn).2
    rw [List.length_replicate, ← hnn]; exact this
  · intro v hv
    rw [(List.mem_replicate.mp hv).2]; exact hf
theorem r_newp (B : RH g D M T H Lt cs ss) {aty : ArrayType} {n : Int32} {nn cap cs' ss' : Nat} {ty : FieldType} {vs : List Value} {ad : String} (hd : decode D.cd pc = .ok (.newarray aty, 2)) (hp : pc + 2 = pc')
    (w : (Jvm.Cond.arrayClass ty).before g.a0 g.Z = true) (hty : newarray.typeOf aty = ty) (hn : ¬ n < 0) (hnn : n.toNatClampNeg = nn) (hcap : nn ≤ cap) (hb8 : cap * 8 ≤ 536870912) (hc : cs + 1 = cs') (hs : ss + cap = ss') (hc' : cs' ≤ D.rm.cells) (hs' : ss' ≤ D.rm.slots)
    (had : "[" ++ ty.toString = ad) (hfd : fits ty (defaultValue ty) = true) (hob : ∀ C, ty ≠ .object C) (hvs : List.replicate nn (defaultValue ty) = vs)
    (K : ∀ T' a, RH g D M T' ((a, .inr (ty, ad, vs)) :: H) Lt cs' ss' → Fn g D M Q (T'.setTop (mkF M.m pc' Ls (.ref a :: S)))) : Fn g D M Q (T.setTop (mkF M.m pc Ls (.int n :: S))) := by
  subst hp hty hc hs
  obtain ⟨st, vm0, k0, locs, X, hS, hk, hZ, hown, hC, N, E0, hH⟩ := B
  obtain ⟨T', h', cA, X', e', E, A1, A2, stp⟩ := newPE (Z := g.Z) (a0 := g.a0) X st.2.1 hZ w rfl (g := mkF M.m pc Ls (.int n :: S)) rfl (hb st.2.2.1 hd) rfl hn (cap := cap) (by rw [hnn]; exact hcap) hb8 hc' hs' had
  have P' := hH.born (x := (T.heap.size, .inr (newarray.typeOf aty, ad, vs))) hC.1 E0 E rfl (hvs ▸ ary_new A1 hn hnn hfd (fun C q => absurd q (hob C)) (fun _ => A2)) trivial
  exact (K T' _ ⟨st, vm0, k0, locs, X', hS, by rw [e']; exact Nat.le_trans hk E.1, hZ, hown, by rw [e']; exact hC.trans (CHr.ext E hC.1), N, by rw [e']; exact ext_trans E0 E, by rw [e']; exact P'⟩).go stp
theorem r_newr (B : RH g D M T H Lt cs ss) {ix : Nat} {C : String} {n : Int32} {nn cap cs' ss' : Nat} {vs : List Value} {ad : String} (hd : decode D.cd pc = .ok (.anewarray ix, 3)) (hp : pc + 3 = pc')
    (w1 : (Jvm.Cond.classLink D.y.cls ix C).before g.a0 g.Z = true) (w2 : (Jvm.Cond.arrayOver (.object C)).before g.a0 g.Z = true) (hn : ¬ n < 0) (hnn : n.toNatClampNeg = nn) (hcap : nn ≤ cap) (hb8 : cap * 8 ≤ 536870912) (hc : cs + 1 = cs') (hs : ss + cap = ss') (hc' : cs' ≤ D.rm.cells) (hs' : ss' ≤ D.rm.slots)
    (had : "[" ++ (FieldType.object C).toString = ad) (hvs : List.replicate nn Value.null = vs)
    (K : ∀ T' a, RH g D M T' ((a, .inr (.object C, ad, vs)) :: H) Lt cs' ss' → Fn g D M Q (T'.setTop (mkF M.m pc' Ls (.ref a :: S)))) : Fn g D M Q (T.setTop (mkF M.m pc Ls (.int n :: S))) := by
  subst hp hc hs
  obtain ⟨st, vm0, k0, locs, X, hS, hk, hZ, hown, hC, N, E0, hH⟩ := B
  obtain ⟨T', h', cA, X', e', E, A1, A2, A3, stp⟩ := newRE (Z := g.Z) (a0 := g.a0) X st.2.1 hZ hown w1 w2 rfl (g := mkF M.m pc Ls (.int n :: S)) rfl (hb st.2.2.1 hd) rfl hn (cap := cap) (by rw [hnn]; exact hcap) hb8 hc' hs' had
  have P' := hH.born (x := (T.heap.size, .inr (.object C, ad, vs))) hC.1 E0 E rfl (hvs ▸ ary_new A1 hn hnn rfl (fun C' q => by cases q; exact A3) (fun _ => A2)) trivial
  exact (K T' _ ⟨st, vm0, k0, locs, X', hS, by rw [e']; exact Nat.le_trans hk E.1, hZ, hown, by rw [e']; exact hC.trans (CHr.ext E hC.1), N, by rw [e']; exact ext_trans E0 E, by rw [e']; exact P'⟩).go stp
/-! arrays read and written -/
theorem xarr {Z : State} {h : Heap} {U : State} {a : Addr} {ty : FieldType} {nm : String} {vs : List Value} (hZ : Z.vm.Alike U.vm) (eU : U.heap = h) (A : Ary Z h a ty nm vs) : ∃ c : Cell, Jvm.Free.XT.Arr ty a c U ∧ c.slots.size = vs.length ∧ ∀ i : Nat, c.slots[i]? = vs[i]? := by
  obtain ⟨c, r1, r2, r3, -⟩ := A
  refine ⟨c, ⟨by rw [eU]; exact r1.1, State.isArrayOf_alike hZ r1.2.1, r1.2.2, by rw [r2]; simpa using r3⟩, by rw [r2]; simp, fun i => by rw [r2]; simp⟩
theorem r_alen (B : RH g D M T H Lt cs ss) {a : Addr} {ty : FieldType} {nm : String} {vs : List Value} {z : Int32} (hd : decode D.cd pc = .ok (.arraylength, 1)) (hp : pc + 1 = pc') (F : Al g H Lt fun h => Ary g.Z h a ty nm vs) (hz : Int32.ofNat vs.length = z)
    (K : Fn g D M Q (T.setTop (mkF M.m pc' Ls (.int z :: S)))) : Fn g D M Q (T.setTop (mkF M.m pc Ls (.ref a :: S))) := by
  subst hp; subst hz
  obtain ⟨st, vm0, k0, locs, X, hS, hk, hZ, hown, hC, N, E0, hH⟩ := B
  obtain ⟨c, r1, r2, r3⟩ := xarr (U := T) (hZ.alike.trans X.warmed.alike) rfl (F _ _ E0 hH)
  rw [← r2] at K
  exact K.go fun t => X.alen (g := mkF M.m pc Ls (.ref a :: S)) st.2.1 r1 rfl rfl (hb st.2.2.1 hd)
theorem r_aget (B : RH g D M T H Lt cs ss) {a : Addr} {ty : FieldType} {nm : String} {vs : List Value} {j : Int32} {k : Nat} {v : Value} {i : Instr} (hd : decode D.cd pc = .ok (i, 1)) (hi : i = Jvm.Free.XT.loadOf ty) (hp : pc + 1 = pc') (F : Al g H Lt fun h => Ary g.Z h a ty nm vs) (hj : j = Int32.ofNat k) (hv : vs[k]? = some v)
    (K : Fn g D M Q (T.setTop (mkF M.m pc' Ls (v :: S)))) : Fn g D M Q (T.setTop (mkF M.m pc Ls (.int j :: .ref a :: S))) := by
  subst hp; subst hi
  obtain ⟨st, vm0, k0, locs, X, hS, hk, hZ, hown, hC, N, E0, hH⟩ := B
  obtain ⟨c, r1, r2, r3⟩ := xarr (U := T) (hZ.alike.trans X.warmed.alike) rfl (F _ _ E0 hH)
  exact K.go fun t => X.aget (g := mkF M.m pc Ls (.int j :: .ref a :: S)) st.2.1 r1 hj ((r3 k).trans hv) rfl rfl (hb st.2.2.1 hd)
theorem ary_set {Z : State} {h h' : Heap} {a : Addr} {ty : FieldType} {nm : String} {vs : List Value} {k : Nat} {v : Value} (A : Ary Z h a ty nm vs) (W : Wr h h' a k v) (hf : fits ty v = true) : Ary Z h' a ty nm (vs.set k v) := by
  obtain ⟨c, r1, r2, r3, r4, r5, r6⟩ := A
  refine ⟨_, r1.same W, ?_, by rw [List.length_set]; exact r3, fun w hw => ?_, r5, fun q => (r6 q).wr W⟩
  · simp [Cell.setSlot, r2]
  · rcases List.mem_or_eq_of_mem_set hw with q | rfl
    · exact r4 w q
    · exact hf
theorem r_aputW (B : RH g D M T H Lt cs ss) {i : Nat} {a : Addr} {ty : FieldType} {nm : String} {vs : List Value} {k : Nat} {v : Value} (hi : H[i]? = some (a, .inr (ty, nm, vs))) (hf : fits ty v = true) (e : H.set i (a, .inr (ty, nm, vs.set k v)) = H')
    {U : State} {f : JFrame} (P : ∀ (vm0 : Vm) (locs : List Loc), Stand M.p g.l M.e D.rm (M.s.setVm vm0) M.m M.args M.below M.meth M.c T locs cs ss → g.Z.Warmed39 vm0 → ∀ c, Jvm.RoadKit.Arr g.Z T.heap a c ty → c.slots.size = vs.length → ∃ T' h', Stand M.p g.l M.e D.rm (M.s.setVm vm0) M.m M.args M.below M.meth M.c T' (locs ++ [⟨a, k⟩]) cs ss ∧ T'.heap = h' ∧ Wr T.heap h' a k v ∧ ∀ t, Steps M.p.tables M.e M.below (T'.setTop f) t → Steps M.p.tables M.e M.below U t)
    (K : ∀ T', RH g D M T' H' Lt cs ss → Fn g D M Q (T'.setTop f)) : Fn g D M Q U := by
  obtain ⟨st, vm0, k0, locs, X, hS, hk, hZ, hown, hC, N, E0, hH⟩ := B
  have I := hH.1 _ (List.mem_of_getElem? hi)
  have I1 : Ary g.Z T.heap a ty nm vs := I.1
  have I2 := I1
  obtain ⟨c, r1, r2', -⟩ := I2
  have r2 : c.slots.size = vs.length := by rw [r2']; simp
  obtain ⟨T', h', X', e', W, stp⟩ := P vm0 locs X hZ c r1 r2
  have C1 := CHr.wr W I.2.2.2 hC.1
  have hsz := W.size
  have P' := hH.upd C1 (Keep.of_wr W) hi rfl rfl (show Is g.Z h' (a, .inr (ty, nm, vs.set k v)) from ary_set I1 W hf) trivial
  rw [e] at P'
  refine (K T' ⟨st, vm0, k0, _, X', hS, by rw [e', hsz]; exact hk, hZ, hown, by rw [e']; exact hC.trans C1, Fr.snoc X' N I.2.2.1, ?_, by rw [e']; exact P'⟩).go stp
  rw [e']; exact (Old.wr ⟨rfl, E0⟩ W I.2.2.1).2
theorem inb {j : Int32} {k n : Nat} (hj : ¬ j < 0) (hk : j.toNatClampNeg = k) (hl : k < n) : ¬ (j < 0 ∨ n ≤ j.toNatClampNeg) := fun q => q.elim hj fun r => by rw [hk] at r; omega
theorem r_castore (B : RH g D M T H Lt cs ss) {i : Nat} {a : Addr} {nm : String} {vs : List Value} {j x x' : Int32} {k : Nat} (hd : decode D.cd pc = .ok (.castore, 1)) (hp : pc + 1 = pc') (hi : H[i]? = some (a, .inr (.char, nm, vs))) (hj : ¬ j < 0) (hk : j.toNatClampNeg = k) (hl : k < vs.length) (hx : nar .char x = x')
    (e : H.set i (a, .inr (.char, nm, vs.set k (.int x'))) = H') (K : ∀ T', RH g D M T' H' Lt cs ss → Fn g D M Q (T'.setTop (mkF M.m pc' Ls S))) : Fn g D M Q (T.setTop (mkF M.m pc Ls (.int x :: .int j :: .ref a :: S))) := by
  subst hp; subst hx; subst hk
  exact r_aputW B hi (fits_nar_char x) e (fun vm0 locs X hZ c r1 r2 => stC X B.hx hZ rfl r1 (by rw [r2]; exact inb hj rfl hl) (g := mkF M.m pc Ls (.int x :: .int j :: .ref a :: S)) rfl rfl (hb B.cd hd)) K
theorem r_bastore (B : RH g D M T H Lt cs ss) {i : Nat} {a : Addr} {nm : String} {vs : List Value} {j x x' : Int32} {k : Nat} (hd : decode D.cd pc = .ok (.bastore, 1)) (hp : pc + 1 = pc') (hi : H[i]? = some (a, .inr (.byte, nm, vs))) (hj : ¬ j < 0) (hk : j.toNatClampNeg = k) (hl : k < vs.length) (hx : nar .byte x = x')
    (e : H.set i (a, .inr (.byte, nm, vs.set k (.int x'))) = H') (K : ∀ T', RH g D M T' H' Lt cs ss → Fn g D M Q (T'.setTop (mkF M.m pc' Ls S))) : Fn g D M Q (T.setTop (mkF M.m pc Ls (.int x :: .int j :: .ref a :: S))) := by
  subst hp; subst hx; subst hk
  exact r_aputW B hi (fits_nar_byte x) e (fun vm0 locs X hZ c r1 r2 => stB X B.hx hZ rfl r1 (by rw [r2]; exact inb hj rfl hl) (g := mkF M.m pc Ls (.int x :: .int j :: .ref a :: S)) rfl rfl (hb B.cd hd)) K
theorem r_zastore (B : RH g D M T H Lt cs ss) {i : Nat} {a : Addr} {nm : String} {vs : List Value} {j x x' : Int32} {k : Nat} (hd : decode D.cd pc = .ok (.bastore, 1)) (hp : pc + 1 = pc') (hi : H[i]? = some (a, .inr (.boolean, nm, vs))) (hj : ¬ j < 0) (hk : j.toNatClampNeg = k) (hl : k < vs.length) (hx : nar .boolean x = x')
    (e : H.set i (a, .inr (.boolean, nm, vs.set k (.int x'))) = H') (K : ∀ T', RH g D M T' H' Lt cs ss → Fn g D M Q (T'.setTop (mkF M.m pc' Ls S))) : Fn g D M Q (T.setTop (mkF M.m pc Ls (.int x :: .int j :: .ref a :: S))) := by
  subst hp; subst hx; subst hk
  exact r_aputW B hi (fits_nar_bool x) e (fun vm0 locs X hZ c r1 r2 => stZ X B.hx hZ rfl r1 (by rw [r2]; exact inb hj rfl hl) (g := mkF M.m pc Ls (.int x :: .int j :: .ref a :: S)) rfl rfl (hb B.cd hd)) K
theorem r_iastore (B : RH g D M T H Lt cs ss) {i : Nat} {a : Addr} {nm : String} {vs : List Value} {j x : Int32} {k : Nat} (hd : decode D.cd pc = .ok (.iastore, 1)) (hp : pc + 1 = pc') (hi : H[i]? = some (a, .inr (.int, nm, vs))) (hj : ¬ j < 0) (hk : j.toNatClampNeg = k) (hl : k < vs.length)
    (e : H.set i (a, .inr (.int, nm, vs.set k (.int x))) = H') (K : ∀ T', RH g D M T' H' Lt cs ss → Fn g D M Q (T'.setTop (mkF M.m pc' Ls S))) : Fn g D M Q (T.setTop (mkF M.m pc Ls (.int x :: .int j :: .ref a :: S))) := by
  subst hp; subst hk
  exact r_aputW B hi rfl e (fun vm0 locs X hZ c r1 r2 => stI X B.hx hZ rfl r1 (by rw [r2]; exact inb hj rfl hl) (g := mkF M.m pc Ls (.int x :: .int j :: .ref a :: S)) rfl rfl (hb B.cd hd)) K
theorem r_lastore (B : RH g D M T H Lt cs ss) {i : Nat} {a : Addr} {nm : String} {vs : List Value} {j : Int32} {x : Int64} {k : Nat} (hd : decode D.cd pc = .ok (.lastore, 1)) (hp : pc + 1 = pc') (hi : H[i]? = some (a, .inr (.long, nm, vs))) (hj : ¬ j < 0) (hk : j.toNatClampNeg = k) (hl : k < vs.length)
    (e : H.set i (a, .inr (.long, nm, vs.set k (.long x))) = H') (K : ∀ T', RH g D M T' H' Lt cs ss → Fn g D M Q (T'.setTop (mkF M.m pc' Ls S))) : Fn g D M Q (T.setTop (mkF M.m pc Ls (.long x :: .int j :: .ref a :: S))) := by
  subst hp; subst hk
  exact r_aputW B hi rfl e (fun vm0 locs X hZ c r1 r2 => stJ X B.hx hZ rfl r1 (by rw [r2]; exact inb hj rfl hl) (g := mkF M.m pc Ls (.long x :: .int j :: .ref a :: S)) rfl rfl (hb B.cd hd)) K
/-- aastore: null, or an object that is one of the array's kind -/
theorem r_aastore (B : RH g D M T H Lt cs ss) {i : Nat} {a : Addr} {nm C : String} {vs : List Value} {j : Int32} {v : Value} {k : Nat} (hd : decode D.cd pc = .ok (.aastore, 1)) (hp : pc + 1 = pc') (hi : H[i]? = some (a, .inr (.object C, nm, vs))) (hj : ¬ j < 0) (hk : j.toNatClampNeg = k) (hl : k < vs.length)
    (hv : v = .null ∨ ∃ y, v = .ref y ∧ Al g H Lt fun h => Ins g.Z h y C true)
    (e : H.set i (a, .inr (.object C, nm, vs.set k v)) = H') (K : ∀ T', RH g D M T' H' Lt cs ss → Fn g D M Q (T'.setTop (mkF M.m pc' Ls S))) : Fn g D M Q (T.setTop (mkF M.m pc Ls (v :: .int j :: .ref a :: S))) := by
  subst hp; subst hk
  have hf : fits (.object C) v = true := by rcases hv with rfl | ⟨y, rfl, -⟩ <;> rfl
  refine r_aputW B hi hf e (fun vm0 locs X hZ c r1 r2 => ?_) K
  obtain ⟨st, vm1, k0, locs1, X1, hS, hk, hZ1, hown, hC, N, E0, hH⟩ := B
  have I1 : Ary g.Z T.heap a (.object C) nm vs := (hH.1 _ (List.mem_of_getElem? hi)).1
  obtain ⟨c2, q1, -, -, -, q5, -⟩ := I1
  have hcc : c2 = c := Option.some.inj (q1.1.symm.trans r1.1)
  subst hcc
  have hsto : Sto g.Z T.heap a v := by
    rcases hv with rfl | ⟨y, rfl, I⟩
    · exact Or.inl rfl
    · exact Sto.of r1 (q5 C rfl) (I _ _ E0 hH)
  exact stR X st.2.1 hZ rfl r1 (by rw [r2]; exact inb hj rfl hl) rfl hsto (g := mkF M.m pc Ls (v :: .int j :: .ref a :: S)) rfl rfl (hb st.2.2.1 hd)
/-! OWN WALKING KIT, part 3: plain steps (printed by mkpure.py). -/
theorem p_iload (B : Rn g D M T A cs ss) {k : Nat} {v : Int32} (hd : decode D.cd pc = .ok (.iload k, 2)) (hp : pc + 2 = pc') (hl : Ls[k]? = some (.val (.int v))) (K : Fn g D M Q (T.setTop (mkF M.m pc' Ls (.int v :: S)))) : Fn g D M Q (T.setTop (mkF M.m pc Ls (S))) := by
  subst hp
  exact K.go fun t => XS.iload (g := mkF M.m pc Ls (S)) B.here B.hx rfl (hb B.cd hd) hl
theorem p_iloadN (B : Rn g D M T A cs ss) {k : Fin 4} {v : Int32} (hd : decode D.cd pc = .ok (.iload_n k, 1)) (hp : pc + 1 = pc') (hl : Ls[k.val]? = some (.val (.int v))) (K : Fn g D M Q (T.setTop (mkF M.m pc' Ls (.int v :: S)))) : Fn g D M Q (T.setTop (mkF M.m pc Ls (S))) := by
  subst hp
  exact K.go fun t => XS.iloadN (g := mkF M.m pc Ls (S)) B.here B.hx rfl (hb B.cd hd) hl
theorem p_lload (B : Rn g D M T A cs ss) {k : Nat} {v : Int64} (hd : decode D.cd pc = .ok (.lload k, 2)) (hp : pc + 2 = pc') (hl : Ls[k]? = some (.val (.long v))) (K : Fn g D M Q (T.setTop (mkF M.m pc' Ls (.long v :: S)))) : Fn g D M Q (T.setTop (mkF M.m pc Ls (S))) := by
  subst hp
  exact K.go fun t => XS.lload (g := mkF M.m pc Ls (S)) B.here B.hx rfl (hb B.cd hd) hl
theorem p_lloadN (B : Rn g D M T A cs ss) {k : Fin 4} {v : Int64} (hd : decode D.cd pc = .ok (.lload_n k, 1)) (hp : pc + 1 = pc') (hl : Ls[k.val]? = some (.val (.long v))) (K : Fn g D M Q (T.setTop (mkF M.m pc' Ls (.long v :: S)))) : Fn g D M Q (T.setTop (mkF M.m pc Ls (S))) := by
  subst hp
  exact K.go fun t => XS.lloadN (g := mkF M.m pc Ls (S)) B.here B.hx rfl (hb B.cd hd) hl
theorem p_aload (B : Rn g D M T A cs ss) {k : Nat} {v : Value} (hd : decode D.cd pc = .ok (.aload k, 2)) (hp : pc + 2 = pc') (hl : Ls[k]? = some (.val v)) (hv : v.isRef = true) (K : Fn g D M Q (T.setTop (mkF M.m pc' Ls (v :: S)))) : Fn g D M Q (T.setTop (mkF M.m pc Ls (S))) := by
  subst hp
  exact K.go fun t => XS.aload (g := mkF M.m pc Ls (S)) B.here B.hx rfl (hb B.cd hd) hl hv
theorem p_aloadN (B : Rn g D M T A cs ss) {k : Fin 4} {v : Value} (hd : decode D.cd pc = .ok (.aload_n k, 1)) (hp : pc + 1 = pc') (hl : Ls[k.val]? = some (.val v)) (hv : v.isRef = true) (K : Fn g D M Q (T.setTop (mkF M.m pc' Ls (v :: S)))) : Fn g D M Q (T.setTop (mkF M.m pc Ls (S))) := by
  subst hp
  exact K.go fun t => XS.aloadN (g := mkF M.m pc Ls (S)) B.here B.hx rfl (hb B.cd hd) hl hv
theorem p_istore (B : Rn g D M T A cs ss) {k : Nat} {v : Int32} (hd : decode D.cd pc = .ok (.istore k, 2)) (hp : pc + 2 = pc') (hl : storeLocals Ls k (.int v) = some Ls') (K : Fn g D M Q (T.setTop (mkF M.m pc' Ls' (S)))) : Fn g D M Q (T.setTop (mkF M.m pc Ls (.int v :: S))) := by
  subst hp
  exact K.go fun t => XS.istore (g := mkF M.m pc Ls (.int v :: S)) B.here B.hx rfl (hb B.cd hd) rfl hl
theorem p_istoreN (B : Rn g D M T A cs ss) {k : Fin 4} {v : Int32} (hd : decode D.cd pc = .ok (.istore_n k, 1)) (hp : pc + 1 = pc') (hl : storeLocals Ls k.val (.int v) = some Ls') (K : Fn g D M Q (T.setTop (mkF M.m pc' Ls' (S)))) : Fn g D M Q (T.setTop (mkF M.m pc Ls (.int v :: S))) := by
  subst hp
  exact K.go fun t => XS.istoreN (g := mkF M.m pc Ls (.int v :: S)) B.here B.hx rfl (hb B.cd hd) rfl hl
theorem p_lstore (B : Rn g D M T A cs ss) {k : Nat} {v : Int64} (hd : decode D.cd pc = .ok (.lstore k, 2)) (hp : pc + 2 = pc') (hl : storeLocals Ls k (.long v) = some Ls') (K : Fn g D M Q (T.setTop (mkF M.m pc' Ls' (S)))) : Fn g D M Q (T.setTop (mkF M.m pc Ls (.long v :: S))) := by
  subst hp
  exact K.go fun t => XS.lstore (g := mkF M.m pc Ls (.long v :: S)) B.here B.hx rfl (hb B.cd hd) rfl hl
theorem p_lstoreN (B : Rn g D M T A cs ss) {k : Fin 4} {v : Int64} (hd : decode D.cd pc = .ok (.lstore_n k, 1)) (hp : pc + 1 = pc') (hl : storeLocals Ls k.val (.long v) = some Ls') (K : Fn g D M Q (T.setTop (mkF M.m pc' Ls' (S)))) : Fn g D M Q (T.setTop (mkF M.m pc Ls (.long v :: S))) := by
  subst hp
  exact K.go fun t => XS.lstoreN (g := mkF M.m pc Ls (.long v :: S)) B.here B.hx rfl (hb B.cd hd) rfl hl
theorem p_astore (B : Rn g D M T A cs ss) {k : Nat} {v : Value} (hd : decode D.cd pc = .ok (.astore k, 2)) (hp : pc + 2 = pc') (hv : v.isRef = true) (hl : storeLocals Ls k v = some Ls') (K : Fn g D M Q (T.setTop (mkF M.m pc' Ls' (S)))) : Fn g D M Q (T.setTop (mkF M.m pc Ls (v :: S))) := by
  subst hp
  exact K.go fun t => XS.astore (g := mkF M.m pc Ls (v :: S)) B.here B.hx rfl (hb B.cd hd) rfl hv hl
theorem p_astoreN (B : Rn g D M T A cs ss) {k : Fin 4} {v : Value} (hd : decode D.cd pc = .ok (.astore_n k, 1)) (hp : pc + 1 = pc') (hv : v.isRef = true) (hl : storeLocals Ls k.val v = some Ls') (K : Fn g D M Q (T.setTop (mkF M.m pc' Ls' (S)))) : Fn g D M Q (T.setTop (mkF M.m pc Ls (v :: S))) := by
  subst hp
  exact K.go fun t => XS.astoreN (g := mkF M.m pc Ls (v :: S)) B.here B.hx rfl (hb B.cd hd) rfl hv hl
theorem p_iconst (B : Rn g D M T A cs ss) {i : Int} {v : Int32} (hd : decode D.cd pc = .ok (.iconst i, 1)) (hp : pc + 1 = pc') (hv : Int32.ofInt i = v) (K : Fn g D M Q (T.setTop (mkF M.m pc' Ls (.int v :: S)))) : Fn g D M Q (T.setTop (mkF M.m pc Ls (S))) := by
  subst hp
  exact K.go fun t => Jvm.Free.XT.iconstV (g := mkF M.m pc Ls (S)) B.here B.hx rfl v (hb B.cd hd) hv
theorem p_bipush (B : Rn g D M T A cs ss) {i : Int} {v : Int32} (hd : decode D.cd pc = .ok (.bipush i, 2)) (hp : pc + 2 = pc') (hv : (Int8.ofInt i).toInt32 = v) (K : Fn g D M Q (T.setTop (mkF M.m pc' Ls (.int v :: S)))) : Fn g D M Q (T.setTop (mkF M.m pc Ls (S))) := by
  subst hp
  exact K.go fun t => Jvm.Free.XT.bipushV (g := mkF M.m pc Ls (S)) B.here B.hx rfl v (hb B.cd hd) hv
theorem p_sipush (B : Rn g D M T A cs ss) {i : Int} {v : Int32} (hd : decode D.cd pc = .ok (.sipush i, 3)) (hp : pc + 3 = pc') (hv : (Int16.ofInt i).toInt32 = v) (K : Fn g D M Q (T.setTop (mkF M.m pc' Ls (.int v :: S)))) : Fn g D M Q (T.setTop (mkF M.m pc Ls (S))) := by
  subst hp
  exact K.go fun t => Jvm.Free.XT.sipushV (g := mkF M.m pc Ls (S)) B.here B.hx rfl v (hb B.cd hd) hv
theorem p_lconst (B : Rn g D M T A cs ss) {i : Fin 2} {v : Int64} (hd : decode D.cd pc = .ok (.lconst i, 1)) (hp : pc + 1 = pc') (hv : Int64.ofNat i = v) (K : Fn g D M Q (T.setTop (mkF M.m pc' Ls (.long v :: S)))) : Fn g D M Q (T.setTop (mkF M.m pc Ls (S))) := by
  subst hp
  exact K.go fun t => Jvm.Free.XT.lconstV (g := mkF M.m pc Ls (S)) B.here B.hx rfl v (hb B.cd hd) hv
theorem p_null (B : Rn g D M T A cs ss) (hd : decode D.cd pc = .ok (.aconst_null, 1)) (hp : pc + 1 = pc') (K : Fn g D M Q (T.setTop (mkF M.m pc' Ls (.null :: S)))) : Fn g D M Q (T.setTop (mkF M.m pc Ls (S))) := by
  subst hp
  exact K.go fun t => XS.aconstNull (g := mkF M.m pc Ls (S)) B.here B.hx rfl (hb B.cd hd)
theorem p_iadd (B : Rn g D M T A cs ss) {x y z : Int32} (hd : decode D.cd pc = .ok (.iadd, 1)) (hp : pc + 1 = pc') (hz : x + y = z) (K : Fn g D M Q (T.setTop (mkF M.m pc' Ls (.int z :: S)))) : Fn g D M Q (T.setTop (mkF M.m pc Ls (.int y :: .int x :: S))) := by
  subst hp; subst hz
  exact K.go fun t => XS.iadd (g := mkF M.m pc Ls (.int y :: .int x :: S)) B.here B.hx rfl (hb B.cd hd) rfl
theorem p_isub (B : Rn g D M T A cs ss) {x y z : Int32} (hd : decode D.cd pc = .ok (.isub, 1)) (hp : pc + 1 = pc') (hz : x - y = z) (K : Fn g D M Q (T.setTop (mkF M.m pc' Ls (.int z :: S)))) : Fn g D M Q (T.setTop (mkF M.m pc Ls (.int y :: .int x :: S))) := by
  subst hp; subst hz
  exact K.go fun t => XS.isub (g := mkF M.m pc Ls (.int y :: .int x :: S)) B.here B.hx rfl (hb B.cd hd) rfl
theorem p_imul (B : Rn g D M T A cs ss) {x y z : Int32} (hd : decode D.cd pc = .ok (.imul, 1)) (hp : pc + 1 = pc') (hz : x * y = z) (K : Fn g D M Q (T.setTop (mkF M.m pc' Ls (.int z :: S)))) : Fn g D M Q (T.setTop (mkF M.m pc Ls (.int y :: .int x :: S))) := by
  subst hp; subst hz
  exact K.go fun t => XS.imul (g := mkF M.m pc Ls (.int y :: .int x :: S)) B.here B.hx rfl (hb B.cd hd) rfl
theorem p_iand (B : Rn g D M T A cs ss) {x y z : Int32} (hd : decode D.cd pc = .ok (.iand, 1)) (hp : pc + 1 = pc') (hz : x &&& y = z) (K : Fn g D M Q (T.setTop (mkF M.m pc' Ls (.int z :: S)))) : Fn g D M Q (T.setTop (mkF M.m pc Ls (.int y :: .int x :: S))) := by
  subst hp; subst hz
  exact K.go fun t => XS.iand (g := mkF M.m pc Ls (.int y :: .int x :: S)) B.here B.hx rfl (hb B.cd hd) rfl
theorem p_ior (B : Rn g D M T A cs ss) {x y z : Int32} (hd : decode D.cd pc = .ok (.ior, 1)) (hp : pc + 1 = pc') (hz : x ||| y = z) (K : Fn g D M Q (T.setTop (mkF M.m pc' Ls (.int z :: S)))) : Fn g D M Q (T.setTop (mkF M.m pc Ls (.int y :: .int x :: S))) := by
  subst hp; subst hz
  exact K.go fun t => XS.ior (g := mkF M.m pc Ls (.int y :: .int x :: S)) B.here B.hx rfl (hb B.cd hd) rfl
theorem p_ixor (B : Rn g D M T A cs ss) {x y z : Int32} (hd : decode D.cd pc = .ok (.ixor, 1)) (hp : pc + 1 = pc') (hz : x ^^^ y = z) (K : Fn g D M Q (T.setTop (mkF M.m pc' Ls (.int z :: S)))) : Fn g D M Q (T.setTop (mkF M.m pc Ls (.int y :: .int x :: S))) := by
  subst hp; subst hz
  exact K.go fun t => XS.ixor (g := mkF M.m pc Ls (.int y :: .int x :: S)) B.here B.hx rfl (hb B.cd hd) rfl
theorem p_ishl (B : Rn g D M T A cs ss) {x y z : Int32} (hd : decode D.cd pc = .ok (.ishl, 1)) (hp : pc + 1 = pc') (hz : x <<< (y &&& 31) = z) (K : Fn g D M Q (T.setTop (mkF M.m pc' Ls (.int z :: S)))) : Fn g D M Q (T.setTop (mkF M.m pc Ls (.int y :: .int x :: S))) := by
  subst hp; subst hz
  exact K.go fun t => XS.ishl (g := mkF M.m pc Ls (.int y :: .int x :: S)) B.here B.hx rfl (hb B.cd hd) rfl
theorem p_ishr (B : Rn g D M T A cs ss) {x y z : Int32} (hd : decode D.cd pc = .ok (.ishr, 1)) (hp : pc + 1 = pc') (hz : x >>> (y &&& 31) = z) (K : Fn g D M Q (T.setTop (mkF M.m pc' Ls (.int z :: S)))) : Fn g D M Q (T.setTop (mkF M.m pc Ls (.int y :: .int x :: S))) := by
  subst hp; subst hz
  exact K.go fun t => XS.ishr (g := mkF M.m pc Ls (.int y :: .int x :: S)) B.here B.hx rfl (hb B.cd hd) rfl
theorem p_iushr (B : Rn g D M T A cs ss) {x y z : Int32} (hd : decode D.cd pc = .ok (.iushr, 1)) (hp : pc + 1 = pc') (hz : (x.toUInt32 >>> (y &&& 31).toUInt32).toInt32 = z) (K : Fn g D M Q (T.setTop (mkF M.m pc' Ls (.int z :: S)))) : Fn g D M Q (T.setTop (mkF M.m pc Ls (.int y :: .int x :: S))) := by
  subst hp; subst hz
  exact K.go fun t => XS.iushr (g := mkF M.m pc Ls (.int y :: .int x :: S)) B.here B.hx rfl (hb B.cd hd) rfl
theorem p_idiv (B : Rn g D M T A cs ss) {x y z : Int32} (hd : decode D.cd pc = .ok (.idiv, 1)) (hp : pc + 1 = pc') (hy : y ≠ 0) (hz : x / y = z) (K : Fn g D M Q (T.setTop (mkF M.m pc' Ls (.int z :: S)))) : Fn g D M Q (T.setTop (mkF M.m pc Ls (.int y :: .int x :: S))) := by
  subst hp; subst hz
  exact K.go fun t => XS.idiv (g := mkF M.m pc Ls (.int y :: .int x :: S)) B.here B.hx rfl (hb B.cd hd) rfl hy
theorem p_irem (B : Rn g D M T A cs ss) {x y z : Int32} (hd : decode D.cd pc = .ok (.irem, 1)) (hp : pc + 1 = pc') (hy : y ≠ 0) (hz : x % y = z) (K : Fn g D M Q (T.setTop (mkF M.m pc' Ls (.int z :: S)))) : Fn g D M Q (T.setTop (mkF M.m pc Ls (.int y :: .int x :: S))) := by
  subst hp; subst hz; rw [← Jvm.irem_eq_mod] at K
  exact K.go fun t => XS.irem (g := mkF M.m pc Ls (.int y :: .int x :: S)) B.here B.hx rfl (hb B.cd hd) rfl hy
theorem p_ineg (B : Rn g D M T A cs ss) {x : Int32} (hd : decode D.cd pc = .ok (.ineg, 1)) (hp : pc + 1 = pc') (K : Fn g D M Q (T.setTop (mkF M.m pc' Ls (.int (-x) :: S)))) : Fn g D M Q (T.setTop (mkF M.m pc Ls (.int x :: S))) := by
  subst hp
  exact K.go fun t => XS.ineg (g := mkF M.m pc Ls (.int x :: S)) B.here B.hx rfl (hb B.cd hd) rfl
theorem p_ladd (B : Rn g D M T A cs ss) {x y : Int64} (hd : decode D.cd pc = .ok (.ladd, 1)) (hp : pc + 1 = pc') (K : Fn g D M Q (T.setTop (mkF M.m pc' Ls (.long (x + y) :: S)))) : Fn g D M Q (T.setTop (mkF M.m pc Ls (.long y :: .long x :: S))) := by
  subst hp
  exact K.go fun t => XS.ladd (g := mkF M.m pc Ls (.long y :: .long x :: S)) B.here B.hx rfl (hb B.cd hd) rfl
theorem p_lsub (B : Rn g D M T A cs ss) {x y : Int64} (hd : decode D.cd pc = .ok (.lsub, 1)) (hp : pc + 1 = pc') (K : Fn g D M Q (T.setTop (mkF M.m pc' Ls (.long (x - y) :: S)))) : Fn g D M Q (T.setTop (mkF M.m pc Ls (.long y :: .long x :: S))) := by
  subst hp
  exact K.go fun t => XS.lsub (g := mkF M.m pc Ls (.long y :: .long x :: S)) B.here B.hx rfl (hb B.cd hd) rfl
theorem p_lmul (B : Rn g D M T A cs ss) {x y : Int64} (hd : decode D.cd pc = .ok (.lmul, 1)) (hp : pc + 1 = pc') (K : Fn g D M Q (T.setTop (mkF M.m pc' Ls (.long (x * y) :: S)))) : Fn g D M Q (T.setTop (mkF M.m pc Ls (.long y :: .long x :: S))) := by
  subst hp
  exact K.go fun t => XS.lmul (g := mkF M.m pc Ls (.long y :: .long x :: S)) B.here B.hx rfl (hb B.cd hd) rfl
theorem p_land (B : Rn g D M T A cs ss) {x y : Int64} (hd : decode D.cd pc = .ok (.land, 1)) (hp : pc + 1 = pc') (K : Fn g D M Q (T.setTop (mkF M.m pc' Ls (.long (x &&& y) :: S)))) : Fn g D M Q (T.setTop (mkF M.m pc Ls (.long y :: .long x :: S))) := by
  subst hp
  exact K.go fun t => XS.land (g := mkF M.m pc Ls (.long y :: .long x :: S)) B.here B.hx rfl (hb B.cd hd) rfl
theorem p_lor (B : Rn g D M T A cs ss) {x y : Int64} (hd : decode D.cd pc = .ok (.lor, 1)) (hp : pc + 1 = pc') (K : Fn g D M Q (T.setTop (mkF M.m pc' Ls (.long (x ||| y) :: S)))) : Fn g D M Q (T.setTop (mkF M.m pc Ls (.long y :: .long x :: S))) := by
  subst hp
  exact K.go fun t => XS.lor (g := mkF M.m pc Ls (.long y :: .long x :: S)) B.here B.hx rfl (hb B.cd hd) rfl
theorem p_lxor (B : Rn g D M T A cs ss) {x y : Int64} (hd : decode D.cd pc = .ok (.lxor, 1)) (hp : pc + 1 = pc') (K : Fn g D M Q (T.setTop (mkF M.m pc' Ls (.long (x ^^^ y) :: S)))) : Fn g D M Q (T.setTop (mkF M.m pc Ls (.long y :: .long x :: S))) := by
  subst hp
  exact K.go fun t => XS.lxor (g := mkF M.m pc Ls (.long y :: .long x :: S)) B.here B.hx rfl (hb B.cd hd) rfl
theorem p_lshl (B : Rn g D M T A cs ss) {x : Int64} {y : Int32} (hd : decode D.cd pc = .ok (.lshl, 1)) (hp : pc + 1 = pc') (K : Fn g D M Q (T.setTop (mkF M.m pc' Ls (.long (x <<< (y &&& 0x3f).toInt64) :: S)))) : Fn g D M Q (T.setTop (mkF M.m pc Ls (.int y :: .long x :: S))) := by
  subst hp
  exact K.go fun t => XS.lshl (g := mkF M.m pc Ls (.int y :: .long x :: S)) B.here B.hx rfl (hb B.cd hd) rfl
theorem p_lshr (B : Rn g D M T A cs ss) {x : Int64} {y : Int32} (hd : decode D.cd pc = .ok (.lshr, 1)) (hp : pc + 1 = pc') (K : Fn g D M Q (T.setTop (mkF M.m pc' Ls (.long (x >>> (y &&& 0x3f).toInt64) :: S)))) : Fn g D M Q (T.setTop (mkF M.m pc Ls (.int y :: .long x :: S))) := by
  subst hp
  exact K.go fun t => XS.lshr (g := mkF M.m pc Ls (.int y :: .long x :: S)) B.here B.hx rfl (hb B.cd hd) rfl
theorem p_lushr (B : Rn g D M T A cs ss) {x : Int64} {y : Int32} (hd : decode D.cd pc = .ok (.lushr, 1)) (hp : pc + 1 = pc') (K : Fn g D M Q (T.setTop (mkF M.m pc' Ls (.long ((x.toUInt64 >>> (y &&& 0x3f).toInt64.toUInt64).toInt64) :: S)))) : Fn g D M Q (T.setTop (mkF M.m pc Ls (.int y :: .long x :: S))) := by
  subst hp
  exact K.go fun t => XS.lushr (g := mkF M.m pc Ls (.int y :: .long x :: S)) B.here B.hx rfl (hb B.cd hd) rfl
theorem p_ldiv (B : Rn g D M T A cs ss) {x y : Int64} (hd : decode D.cd pc = .ok (.ldiv, 1)) (hp : pc + 1 = pc') (hy : y ≠ 0) (K : Fn g D M Q (T.setTop (mkF M.m pc' Ls (.long (x / y) :: S)))) : Fn g D M Q (T.setTop (mkF M.m pc Ls (.long y :: .long x :: S))) := by
  subst hp
  exact K.go fun t => XS.ldiv (g := mkF M.m pc Ls (.long y :: .long x :: S)) B.here B.hx rfl (hb B.cd hd) rfl hy
theorem p_lrem (B : Rn g D M T A cs ss) {x y : Int64} (hd : decode D.cd pc = .ok (.lrem, 1)) (hp : pc + 1 = pc') (hy : y ≠ 0) (K : Fn g D M Q (T.setTop (mkF M.m pc' Ls (.long (x - (x / y) * y) :: S)))) : Fn g D M Q (T.setTop (mkF M.m pc Ls (.long y :: .long x :: S))) := by
  subst hp
  exact K.go fun t => XS.lrem (g := mkF M.m pc Ls (.long y :: .long x :: S)) B.here B.hx rfl (hb B.cd hd) rfl hy
theorem p_lcmp (B : Rn g D M T A cs ss) {x y : Int64} (hd : decode D.cd pc = .ok (.lcmp, 1)) (hp : pc + 1 = pc') (K : Fn g D M Q (T.setTop (mkF M.m pc' Ls (.int (lcmpW x y) :: S)))) : Fn g D M Q (T.setTop (mkF M.m pc Ls (.long y :: .long x :: S))) := by
  subst hp
  exact K.go fun t => XS.lcmp (g := mkF M.m pc Ls (.long y :: .long x :: S)) B.here B.hx rfl (hb B.cd hd) rfl
theorem p_i2l (B : Rn g D M T A cs ss) {x : Int32} (hd : decode D.cd pc = .ok (.i2l, 1)) (hp : pc + 1 = pc') (K : Fn g D M Q (T.setTop (mkF M.m pc' Ls (.long x.toInt64 :: S)))) : Fn g D M Q (T.setTop (mkF M.m pc Ls (.int x :: S))) := by
  subst hp
  exact K.go fun t => XS.i2l (g := mkF M.m pc Ls (.int x :: S)) B.here B.hx rfl (hb B.cd hd) rfl
theorem p_l2i (B : Rn g D M T A cs ss) {x : Int64} (hd : decode D.cd pc = .ok (.l2i, 1)) (hp : pc + 1 = pc') (K : Fn g D M Q (T.setTop (mkF M.m pc' Ls (.int x.toInt32 :: S)))) : Fn g D M Q (T.setTop (mkF M.m pc Ls (.long x :: S))) := by
  subst hp
  exact K.go fun t => XS.l2i (g := mkF M.m pc Ls (.long x :: S)) B.here B.hx rfl (hb B.cd hd) rfl
theorem p_i2b (B : Rn g D M T A cs ss) {x : Int32} (hd : decode D.cd pc = .ok (.i2b, 1)) (hp : pc + 1 = pc') (K : Fn g D M Q (T.setTop (mkF M.m pc' Ls (.int x.toInt8.toInt32 :: S)))) : Fn g D M Q (T.setTop (mkF M.m pc Ls (.int x :: S))) := by
  subst hp
  exact K.go fun t => XS.i2b (g := mkF M.m pc Ls (.int x :: S)) B.here B.hx rfl (hb B.cd hd) rfl
theorem p_i2c (B : Rn g D M T A cs ss) {x : Int32} (hd : decode D.cd pc = .ok (.i2c, 1)) (hp : pc + 1 = pc') (K : Fn g D M Q (T.setTop (mkF M.m pc' Ls (.int x.toUInt32.toUInt16.toUInt32.toInt32 :: S)))) : Fn g D M Q (T.setTop (mkF M.m pc Ls (.int x :: S))) := by
  subst hp
  exact K.go fun t => XS.i2c (g := mkF M.m pc Ls (.int x :: S)) B.here B.hx rfl (hb B.cd hd) rfl
theorem p_i2s (B : Rn g D M T A cs ss) {x : Int32} (hd : decode D.cd pc = .ok (.i2s, 1)) (hp : pc + 1 = pc') (K : Fn g D M Q (T.setTop (mkF M.m pc' Ls (.int x.toInt16.toInt32 :: S)))) : Fn g D M Q (T.setTop (mkF M.m pc Ls (.int x :: S))) := by
  subst hp
  exact K.go fun t => XS.i2s (g := mkF M.m pc Ls (.int x :: S)) B.here B.hx rfl (hb B.cd hd) rfl
theorem p_dup (B : Rn g D M T A cs ss) {x : Value} (hd : decode D.cd pc = .ok (.dup, 1)) (hp : pc + 1 = pc') (hc : x.category = 1) (K : Fn g D M Q (T.setTop (mkF M.m pc' Ls (x :: x :: S)))) : Fn g D M Q (T.setTop (mkF M.m pc Ls (x :: S))) := by
  subst hp
  exact K.go fun t => XS.dup (g := mkF M.m pc Ls (x :: S)) B.here B.hx rfl (hb B.cd hd) rfl hc
theorem p_pop (B : Rn g D M T A cs ss) {x : Value} (hd : decode D.cd pc = .ok (.pop, 1)) (hp : pc + 1 = pc') (hc : x.category = 1) (K : Fn g D M Q (T.setTop (mkF M.m pc' Ls (S)))) : Fn g D M Q (T.setTop (mkF M.m pc Ls (x :: S))) := by
  subst hp
  exact K.go fun t => XS.pop (g := mkF M.m pc Ls (x :: S)) B.here B.hx rfl (hb B.cd hd) rfl hc
theorem p_dupx1 (B : Rn g D M T A cs ss) {x y : Value} (hd : decode D.cd pc = .ok (.dup_x1, 1)) (hp : pc + 1 = pc') (hc : x.category = 1) (hc' : y.category = 1) (K : Fn g D M Q (T.setTop (mkF M.m pc' Ls (x :: y :: x :: S)))) : Fn g D M Q (T.setTop (mkF M.m pc Ls (x :: y :: S))) := by
  subst hp
  exact K.go fun t => XS.dupX1 (g := mkF M.m pc Ls (x :: y :: S)) B.here B.hx rfl (hb B.cd hd) rfl hc hc'
theorem p_dup2 (B : Rn g D M T A cs ss) {x y : Value} (hd : decode D.cd pc = .ok (.dup2, 1)) (hp : pc + 1 = pc') (hc : x.category = 1) (hc' : y.category = 1) (K : Fn g D M Q (T.setTop (mkF M.m pc' Ls (x :: y :: x :: y :: S)))) : Fn g D M Q (T.setTop (mkF M.m pc Ls (x :: y :: S))) := by
  subst hp
  exact K.go fun t => Jvm.Free.XT.dup2 (g := mkF M.m pc Ls (x :: y :: S)) B.here B.hx rfl (hb B.cd hd) rfl hc hc'
theorem p_dup2L (B : Rn g D M T A cs ss) {x : Int64} (hd : decode D.cd pc = .ok (.dup2, 1)) (hp : pc + 1 = pc') (K : Fn g D M Q (T.setTop (mkF M.m pc' Ls (.long x :: .long x :: S)))) : Fn g D M Q (T.setTop (mkF M.m pc Ls (.long x :: S))) := by
  subst hp
  exact K.go fun t => Jvm.Free.XT.dup2L (g := mkF M.m pc Ls (.long x :: S)) B.here B.hx rfl (hb B.cd hd) rfl
theorem p_iinc (B : Rn g D M T A cs ss) {k : Nat} {cst : Int} {x v z : Int32} (hd : decode D.cd pc = .ok (.iinc k cst, 3)) (hp : pc + 3 = pc') (hv : Int32.ofInt cst = v) (hl : Ls[k]? = some (.val (.int x))) (hz : x + v = z) (hl' : storeLocals Ls k (.int z) = some Ls') (K : Fn g D M Q (T.setTop (mkF M.m pc' Ls' (S)))) : Fn g D M Q (T.setTop (mkF M.m pc Ls (S))) := by
  subst hp; subst hz
  exact K.go fun t => Jvm.Free.XT.iincV (g := mkF M.m pc Ls (S)) B.here B.hx rfl v (hb B.cd hd) hv hl hl'
def hldT : ClassFile.Cond → Int32 → Int32 → Prop
  | .eq, x, y => x = y
  | .ne, x, y => ¬ x = y
  | .lt, x, y => x < y
  | .ge, x, y => ¬ x < y
  | .gt, x, y => y < x
  | .le, x, y => ¬ y < x
def hldF : ClassFile.Cond → Int32 → Int32 → Prop
  | .eq, x, y => ¬ x = y
  | .ne, x, y => x = y
  | .lt, x, y => ¬ x < y
  | .ge, x, y => x < y
  | .gt, x, y => ¬ y < x
  | .le, x, y => y < x
theorem hldT_ii {cd : ClassFile.Cond} {x y : Int32} (h : hldT cd x y) : if_icmp.holds cd x y = true := by
  cases cd
  · exact Jvm.Free.XT.ii_eq_t h
  · exact Jvm.Free.XT.ii_ne_t h
  · exact Jvm.Free.XT.ii_lt_t h
  · exact Jvm.Free.XT.ii_ge_t h
  · exact Jvm.Free.XT.ii_gt_t h
  · exact Jvm.Free.XT.ii_le_t h
theorem hldF_ii {cd : ClassFile.Cond} {x y : Int32} (h : hldF cd x y) : if_icmp.holds cd x y = false := by
  cases cd
  · exact Jvm.Free.XT.ii_eq_f h
  · exact Jvm.Free.XT.ii_ne_f h
  · exact Jvm.Free.XT.ii_lt_f h
  · exact Jvm.Free.XT.ii_ge_f h
  · exact Jvm.Free.XT.ii_gt_f h
  · exact Jvm.Free.XT.ii_le_f h
theorem b_ifT (B : Rn g D M T A cs ss) {cd : ClassFile.Cond} {x : Int32} {o : Int} (hd : decode D.cd pc = .ok (.ifCond cd o, 3)) (h : hldT cd x 0) (ho : 0 ≤ (pc : Int) + o) (hp : ((pc : Int) + o).toNat = pc') (K : Fn g D M Q (T.setTop (mkF M.m pc' Ls S))) : Fn g D M Q (T.setTop (mkF M.m pc Ls (.int x :: S))) :=
  K.go fun t => XS.ifYes (g := mkF M.m pc Ls (.int x :: S)) B.here B.hx rfl (pc0 := pc) (pc' := pc') rfl (hb B.cd hd) rfl ((if0 cd x).trans (hldT_ii h)) ho hp
theorem b_ifF (B : Rn g D M T A cs ss) {cd : ClassFile.Cond} {x : Int32} {o : Int} (hd : decode D.cd pc = .ok (.ifCond cd o, 3)) (hp : pc + 3 = pc') (h : hldF cd x 0) (K : Fn g D M Q (T.setTop (mkF M.m pc' Ls S))) : Fn g D M Q (T.setTop (mkF M.m pc Ls (.int x :: S))) := by
  subst hp
  exact K.go fun t => XS.ifNo (g := mkF M.m pc Ls (.int x :: S)) B.here B.hx rfl (hb B.cd hd) rfl ((if0 cd x).trans (hldF_ii h))
theorem b_icT (B : Rn g D M T A cs ss) {cd : ClassFile.Cond} {x y : Int32} {o : Int} (hd : decode D.cd pc = .ok (.if_icmp cd o, 3)) (h : hldT cd x y) (ho : 0 ≤ (pc : Int) + o) (hp : ((pc : Int) + o).toNat = pc') (K : Fn g D M Q (T.setTop (mkF M.m pc' Ls S))) : Fn g D M Q (T.setTop (mkF M.m pc Ls (.int y :: .int x :: S))) :=
  K.go fun t => XS.icmpYes (g := mkF M.m pc Ls (.int y :: .int x :: S)) B.here B.hx rfl (pc0 := pc) (pc' := pc') rfl (hb B.cd hd) rfl (hldT_ii h) ho hp
theorem b_icF (B : Rn g D M T A cs ss) {cd : ClassFile.Cond} {x y : Int32} {o : Int} (hd : decode D.cd pc = .ok (.if_icmp cd o, 3)) (hp : pc + 3 = pc') (h : hldF cd x y) (K : Fn g D M Q (T.setTop (mkF M.m pc' Ls S))) : Fn g D M Q (T.setTop (mkF M.m pc Ls (.int y :: .int x :: S))) := by
  subst hp
  exact K.go fun t => XS.icmpNo (g := mkF M.m pc Ls (.int y :: .int x :: S)) B.here B.hx rfl (hb B.cd hd) rfl (hldF_ii h)
theorem b_nuT (B : Rn g D M T A cs ss) {o : Int} (hd : decode D.cd pc = .ok (.ifnull o, 3)) (ho : 0 ≤ (pc : Int) + o) (hp : ((pc : Int) + o).toNat = pc') (K : Fn g D M Q (T.setTop (mkF M.m pc' Ls S))) : Fn g D M Q (T.setTop (mkF M.m pc Ls (.null :: S))) :=
  K.go fun t => XS.ifnullYes (g := mkF M.m pc Ls (.null :: S)) B.here B.hx rfl (pc0 := pc) (pc' := pc') rfl (hb B.cd hd) rfl ho hp
theorem b_nuF (B : Rn g D M T A cs ss) {b : Addr} {o : Int} (hd : decode D.cd pc = .ok (.ifnull o, 3)) (hp : pc + 3 = pc') (K : Fn g D M Q (T.setTop (mkF M.m pc' Ls S))) : Fn g D M Q (T.setTop (mkF M.m pc Ls (.ref b :: S))) := by
  subst hp
  exact K.go fun t => XS.ifnullNo (g := mkF M.m pc Ls (.ref b :: S)) B.here B.hx rfl (hb B.cd hd) rfl
theorem b_nnT (B : Rn g D M T A cs ss) {b : Addr} {o : Int} (hd : decode D.cd pc = .ok (.ifnonnull o, 3)) (ho : 0 ≤ (pc : Int) + o) (hp : ((pc : Int) + o).toNat = pc') (K : Fn g D M Q (T.setTop (mkF M.m pc' Ls S))) : Fn g D M Q (T.setTop (mkF M.m pc Ls (.ref b :: S))) :=
  K.go fun t => XS.ifnonnullYes (g := mkF M.m pc Ls (.ref b :: S)) B.here B.hx rfl (pc0 := pc) (pc' := pc') rfl (hb B.cd hd) rfl ho hp
theorem b_nnF (B : Rn g D M T A cs ss) {o : Int} (hd : decode D.cd pc = .ok (.ifnonnull o, 3)) (hp : pc + 3 = pc') (K : Fn g D M Q (T.setTop (mkF M.m pc' Ls S))) : Fn g D M Q (T.setTop (mkF M.m pc Ls (.null :: S))) := by
  subst hp
  exact K.go fun t => XS.ifnonnullNo (g := mkF M.m pc Ls (.null :: S)) B.here B.hx rfl (hb B.cd hd) rfl
theorem b_nnTV (B : Rn g D M T A cs ss) {v : Value} {o : Int} (hd : decode D.cd pc = .ok (.ifnonnull o, 3)) (hv : v.isRef = true) (h : ¬ v = .null) (ho : 0 ≤ (pc : Int) + o) (hp : ((pc : Int) + o).toNat = pc') (K : Fn g D M Q (T.setTop (mkF M.m pc' Ls S))) : Fn g D M Q (T.setTop (mkF M.m pc Ls (v :: S))) :=
  K.go fun t => Jvm.Free.XT.nonnullYes (g := mkF M.m pc Ls (v :: S)) B.here B.hx rfl (pc0 := pc) (pc' := pc') rfl (hb B.cd hd) rfl hv h ho hp
theorem b_nnFV (B : Rn g D M T A cs ss) {v : Value} {o : Int} (hd : decode D.cd pc = .ok (.ifnonnull o, 3)) (hp : pc + 3 = pc') (h : v = .null) (K : Fn g D M Q (T.setTop (mkF M.m pc' Ls S))) : Fn g D M Q (T.setTop (mkF M.m pc Ls (v :: S))) := by
  subst hp
  exact K.go fun t => Jvm.Free.XT.nonnullNo (g := mkF M.m pc Ls (v :: S)) B.here B.hx rfl (hb B.cd hd) rfl h
theorem b_nuTV (B : Rn g D M T A cs ss) {v : Value} {o : Int} (hd : decode D.cd pc = .ok (.ifnull o, 3)) (h : v = .null) (ho : 0 ≤ (pc : Int) + o) (hp : ((pc : Int) + o).toNat = pc') (K : Fn g D M Q (T.setTop (mkF M.m pc' Ls S))) : Fn g D M Q (T.setTop (mkF M.m pc Ls (v :: S))) :=
  K.go fun t => Jvm.Free.XT.nullYes (g := mkF M.m pc Ls (v :: S)) B.here B.hx rfl (pc0 := pc) (pc' := pc') rfl (hb B.cd hd) rfl h ho hp
theorem b_nuFV (B : Rn g D M T A cs ss) {v : Value} {o : Int} (hd : decode D.cd pc = .ok (.ifnull o, 3)) (hp : pc + 3 = pc') (hv : v.isRef = true) (h : ¬ v = .null) (K : Fn g D M Q (T.setTop (mkF M.m pc' Ls S))) : Fn g D M Q (T.setTop (mkF M.m pc Ls (v :: S))) := by
  subst hp
  exact K.go fun t => Jvm.Free.XT.nullNo (g := mkF M.m pc Ls (v :: S)) B.here B.hx rfl (hb B.cd hd) rfl hv h
theorem b_aeT (B : Rn g D M T A cs ss) {x y : Value} {o : Int} (hd : decode D.cd pc = .ok (.if_acmp .eq o, 3)) (hx : x.isRef = true) (hy : y.isRef = true) (h : x = y) (ho : 0 ≤ (pc : Int) + o) (hp : ((pc : Int) + o).toNat = pc') (K : Fn g D M Q (T.setTop (mkF M.m pc' Ls S))) : Fn g D M Q (T.setTop (mkF M.m pc Ls (y :: x :: S))) :=
  K.go fun t => Jvm.Free.XT.acmpYes (g := mkF M.m pc Ls (y :: x :: S)) B.here B.hx rfl (pc0 := pc) (pc' := pc') rfl (hb B.cd hd) rfl hx hy (Jvm.Free.XT.aa_eq_t h) ho hp
theorem b_aeF (B : Rn g D M T A cs ss) {x y : Value} {o : Int} (hd : decode D.cd pc = .ok (.if_acmp .eq o, 3)) (hp : pc + 3 = pc') (hx : x.isRef = true) (hy : y.isRef = true) (h : ¬ x = y) (K : Fn g D M Q (T.setTop (mkF M.m pc' Ls S))) : Fn g D M Q (T.setTop (mkF M.m pc Ls (y :: x :: S))) := by
  subst hp
  exact K.go fun t => Jvm.Free.XT.acmpNo (g := mkF M.m pc Ls (y :: x :: S)) B.here B.hx rfl (hb B.cd hd) rfl hx hy (Jvm.Free.XT.aa_eq_f h)
theorem b_anT (B : Rn g D M T A cs ss) {x y : Value} {o : Int} (hd : decode D.cd pc = .ok (.if_acmp .ne o, 3)) (hx : x.isRef = true) (hy : y.isRef = true) (h : ¬ x = y) (ho : 0 ≤ (pc : Int) + o) (hp : ((pc : Int) + o).toNat = pc') (K : Fn g D M Q (T.setTop (mkF M.m pc' Ls S))) : Fn g D M Q (T.setTop (mkF M.m pc Ls (y :: x :: S))) :=
  K.go fun t => Jvm.Free.XT.acmpYes (g := mkF M.m pc Ls (y :: x :: S)) B.here B.hx rfl (pc0 := pc) (pc' := pc') rfl (hb B.cd hd) rfl hx hy (Jvm.Free.XT.aa_ne_t h) ho hp
theorem b_anF (B : Rn g D M T A cs ss) {x y : Value} {o : Int} (hd : decode D.cd pc = .ok (.if_acmp .ne o, 3)) (hp : pc + 3 = pc') (hx : x.isRef = true) (hy : y.isRef = true) (h : x = y) (K : Fn g D M Q (T.setTop (mkF M.m pc' Ls S))) : Fn g D M Q (T.setTop (mkF M.m pc Ls (y :: x :: S))) := by
  subst hp
  exact K.go fun t => Jvm.Free.XT.acmpNo (g := mkF M.m pc Ls (y :: x :: S)) B.here B.hx rfl (hb B.cd hd) rfl hx hy (Jvm.Free.XT.aa_ne_f h)
theorem b_goto (B : Rn g D M T A cs ss) {o : Int} (hd : decode D.cd pc = .ok (.goto o, 3)) (ho : 0 ≤ (pc : Int) + o) (hp : ((pc : Int) + o).toNat = pc') (K : Fn g D M Q (T.setTop (mkF M.m pc' Ls S))) : Fn g D M Q (T.setTop (mkF M.m pc Ls S)) :=
  K.go fun t => XS.goto (g := mkF M.m pc Ls S) B.here B.hx rfl (pc0 := pc) (pc' := pc') rfl (hb B.cd hd) ho hp
/-! OWN WALKING KIT, part 4: calls, constants, casts. -/
theorem r_initO (B : RH g D M T H Lt cs ss) {ix W : Nat} {a : Addr} (hd : decode D.cd pc = .ok (.invokespecial ix, 3)) (hp : pc + 3 = pc') (w1 : (Jvm.Cond.methodLink D.y.cls ix Lib.objectInit).before g.a0 g.Z = true) (w2 : (Jvm.Cond.instanceMethod Lib.objectInit).before g.a0 g.Z = true)
    (w3 : (Jvm.Cond.code Lib.objectInit ⟨#[0xb1]⟩ 1 none).before g.a0 g.Z = true) (hsz : Ls.size = D.mx) (hf : 1 ≤ D.rm.frames) (hW : (S.map fun v => v.category).sum = W) (hl : W + 12 ≤ D.rm.locals)
    (K : ∀ T', RH g D M T' H Lt cs ss → Fn g D M Q (T'.setTop (mkF M.m pc' Ls S))) : Fn g D M Q (T.setTop (mkF M.m pc Ls (.ref a :: S))) := by
  subst hp
  obtain ⟨st, vm0, k0, locs, X, hS, hk, hZ, hown, hC, N, E0, hH⟩ := B
  obtain ⟨T', X', e', stp⟩ := initO (Z := g.Z) (a0 := g.a0) X st.2.1 hZ hown w1 w2 w3 rfl (g := mkF M.m pc Ls (.ref a :: S)) rfl (hsz.trans st.2.2.2.1.symm) rfl (hb st.2.2.1 hd) hf (W := W) (by show 2 * 0 + _ ≤ _; rw [hW]; omega) hl
  exact (K T' ⟨st, vm0, k0, locs, X', hS, by rw [e']; exact hk, hZ, hown, by rw [e']; exact hC, N, by rw [e']; exact E0, by rw [e']; exact hH⟩).go stp
theorem Ct.back {R : Room} {p : Program} {e : Env} {below : List Frame} {s : State} {args : Array Value} {vm0 : Vm} {h : Heap} {len Wt : Nat} (K : Ct g D' as H Lt Q') (W : GW g) (hZ : g.Z.Warmed39 vm0) (wc : (Jvm.Cond.code D'.y D'.cd D'.mx D'.rt).before g.a0 g.Z = true) (wz : (Jvm.Cond.initialized D'.y.cls).before g.a0 g.Z = true)
    (hf : D'.rm.frames + 1 ≤ R.frames) (hl : Wt + (D'.mx + 11) + D'.rm.locals ≤ R.locals) (HC : CHv g.Z g.EL vm0 h) (E0 : Ext g.Z.heap h) (P : Hp g vm0 h H Lt) :
    BackS g.l R p e below (s.setVm vm0) args D'.y len Wt (fun A a => a = as ∧ A.U.heap = h ∧ A.cells + D'.rm.cells ≤ R.cells ∧ A.slots + D'.rm.slots ≤ R.slots)
      (fun A _ v B => ∃ L, Q' v B.U.vm B.U.heap ∧ Fr g.Z.heap.size L ∧ Ext g.Z.heap B.U.heap ∧ B.locs = A.locs ++ L ∧ B.cells = A.cells + D'.rm.cells ∧ B.slots = A.slots + D'.rm.slots ∧ CHr g.Z g.EL vm0 h B.U.vm B.U.heap) :=
  BackS.of_freeW (bytes := D'.cd) (maxL := D'.mx) (ret := D'.rt) (E := fun _ first o t L k n => k = D'.rm.cells ∧ n = D'.rm.slots ∧ (∃ v, o = .returned v ∧ Q' v t.vm t.heap) ∧ Fr g.Z.heap.size L ∧ Ext g.Z.heap t.heap ∧ CHr g.Z g.EL first.vm first.heap t.vm t.heap) K hf hl
    (fun m meth c A a Y hp => have hU : g.Z.Warmed39 A.U.vm := wtrans (s := s.setVm vm0) hZ Y.warmed
      ⟨by show (Jvm.Cond.and _ .tt).before a A.U = true; rw [Cond.before_and, mv hU wc]; rfl, mv hU wc, mv hU wz, hp.2.2.1, hp.2.2.2⟩)
    (fun m meth c A a g' mk Y hp => by
      have hat := CHv.at Y hZ W.2.1 HC
      have e1 : (A.U.calling g' mk a).heap = h := hp.2.1
      have e2 : (A.U.calling g' mk a).vm = A.U.vm := rfl
      refine ⟨hp.1, wtrans (s := s.setVm vm0) hZ Y.warmed, ?_, ?_, ?_⟩
      · rw [e1, e2]; exact hat.1
      · rw [e1]; exact E0
      · rw [e1, e2]; exact P.move hat (ext_rfl _))
    (fun _ _ _ _ _ _ _ _ _ => trivial)
    (fun _ _ _ _ ⟨v, L, h1, h2, h3, h4, h5, h6⟩ => ⟨L, _, _, h6, rfl, rfl, ⟨v, h1, h2⟩, h3, h5, h4⟩)
    (fun m meth c A a g' mk v t L k n Y hp _ _ ⟨e1, e2, ⟨v', e3, e4⟩, e5, e6, e7⟩ => by
      cases e3; subst e1 e2
      refine ⟨L, e4, e5, e6, rfl, rfl, rfl, (CHv.at Y hZ W.2.1 HC).trans ?_⟩
      rw [← hp.2.1]; exact e7)
theorem Rn.after {vm0 : Vm} {k0 : Nat} {locs : List Loc} {B : Pt} {L : List Loc} {v : Option Value} {rc rs : Nat} (st : GW g ∧ M.p.tables.exec = Jvm.exec ∧ M.c.code = D.cd ∧ M.c.maxLocals = D.mx ∧ M.meth.sig.returnType = D.rt ∧ M.meth.locks = false ∧ M.meth.name = D.y.name)
    (hS : M.s.Since vm0 k0) (hk : k0 ≤ T.heap.size) (hZ : g.Z.Warmed39 vm0) (hown : vm0.findClass D.y.cls = some M.m.cls) (hC : CHr g.Z g.EL M.s.vm M.s.heap vm0 T.heap) (N : Fr g.Z.heap.size locs)
    (X' : Stand M.p g.l M.e D.rm ((M.s.setVm vm0).setVm B.U.vm) M.m M.args M.below M.meth M.c B.U B.locs B.cells B.slots) (hS' : (M.s.setVm vm0).Since B.U.vm B.U.heap.size) (hg' : T.heap.size ≤ B.U.heap.size)
    (hQ : Q' v B.U.vm B.U.heap) (hL : Fr g.Z.heap.size L) (hE : Ext g.Z.heap B.U.heap) (e1 : B.locs = locs ++ L) (e2 : B.cells = cs + rc) (e3 : B.slots = ss + rs) (hC' : CHr g.Z g.EL vm0 T.heap B.U.vm B.U.heap) : Rn g D M B.U (Q' v) (cs + rc) (ss + rs) := by
  obtain ⟨r1, r2, r3, r4⟩ := rebS (Z := g.Z) hS hk X' hS' hg' hZ hown
  rw [e1, e2, e3] at r1
  exact ⟨st, B.U.vm, B.U.heap.size, _, r1, r2, Nat.le_refl _, r3, r4, hC.trans hC', N.app hL, hE, hQ⟩
theorem r_static (B : RH g D M T H Lt cs ss) {ix W cs' ss' : Nat} {argsL rest : List Value} {ps : List FieldType} {r : Option FieldType} (hd : decode D.cd pc = .ok (.invokestatic ix, 3)) (hp : pc + 3 = pc')
    (w1 : (Jvm.Cond.methodLink D.y.cls ix D'.y).before g.a0 g.Z = true) (w2 : (Jvm.Cond.static D'.y).before g.a0 g.Z = true) (w3 : (Jvm.Cond.initialized D'.y.cls).before g.a0 g.Z = true) (w4 : (Jvm.Cond.code D'.y D'.cd D'.mx D'.rt).before g.a0 g.Z = true)
    (hy : D'.y.cls ≠ "java/lang/invoke/MethodHandle" ∧ D'.y.cls ≠ "java/lang/invoke/VarHandle") (C : Ct g D' as H Lt Q') (has : argsL.toArray = as) (pd : parseMethodDescriptor D'.y.desc = some ⟨ps, r⟩) (hlen : argsL.length = ps.length) (hst : S = argsL.reverse ++ rest)
    (hsz : Ls.size = D.mx) (hW : (rest.map fun v => v.category).sum = W) (hf : D'.rm.frames + 1 ≤ D.rm.frames) (hl : W + (D'.mx + 11) + D'.rm.locals ≤ D.rm.locals) (hc : cs + D'.rm.cells = cs') (hs : ss + D'.rm.slots = ss') (hc' : cs' ≤ D.rm.cells) (hs' : ss' ≤ D.rm.slots)
    (K : ∀ T' v, Rn g D M T' (Q' v) cs' ss' → Fn g D M Q (T'.setTop (mkF M.m pc' Ls (v.toList ++ rest)))) : Fn g D M Q (T.setTop (mkF M.m pc Ls S)) := by
  subst hp hc hs
  obtain ⟨st, vm0, k0, locs, X, hS, hk, hZ, hown, hC, N, E0, hH⟩ := B
  obtain ⟨v, vm1, Bp, -, X', hS', hg', ⟨L, hQ, hL, hE, e1, e2, e3, hC'⟩, stp⟩ := callSS X st.2.1 hown (mvT hZ w1) (mvT hZ w2) (mvT hZ w3) (mvT hZ w4) hy (Ct.back (p := M.p) (e := M.e) (below := M.below) (s := M.s) (args := M.args) (len := 3) (Wt := W) C st.1 hZ w4 w3 hf hl hC.1 E0 hH) (g := mkF M.m pc Ls S) rfl (hsz.trans st.2.2.2.1.symm) (argsL := argsL) (rest := rest) (lenOf pd hlen) hst (by show 2 * 0 + _ ≤ _; rw [hW]; omega) (hb st.2.2.1 hd) (fun _ _ => ⟨has, rfl, hc', hs'⟩)
  exact (K Bp.U v (Rn.after st hS hk hZ hown hC N X' hS' hg' hQ hL hE e1 e2 e3 hC')).go fun t => stp.trans
theorem r_special (B : RH g D M T H Lt cs ss) {ix W cs' ss' : Nat} {a : Addr} {argsL rest : List Value} {ps : List FieldType} {r : Option FieldType} (hd : decode D.cd pc = .ok (.invokespecial ix, 3)) (hp : pc + 3 = pc') (hy1 : D'.y.name = "<init>") (hrt : D'.rt = none)
    (w1 : (Jvm.Cond.methodLink D.y.cls ix D'.y).before g.a0 g.Z = true) (w2 : (Jvm.Cond.instanceMethod D'.y).before g.a0 g.Z = true) (w3 : (Jvm.Cond.initialized D'.y.cls).before g.a0 g.Z = true) (w4 : (Jvm.Cond.code D'.y D'.cd D'.mx D'.rt).before g.a0 g.Z = true)
    (hy : D'.y.cls ≠ "java/lang/invoke/MethodHandle" ∧ D'.y.cls ≠ "java/lang/invoke/VarHandle") (C : Ct g D' as H Lt Q') (has : (.ref a :: argsL).toArray = as) (pd : parseMethodDescriptor D'.y.desc = some ⟨ps, r⟩) (hlen : argsL.length = ps.length) (hst : S = argsL.reverse ++ .ref a :: rest)
    (hsz : Ls.size = D.mx) (hW : (rest.map fun v => v.category).sum = W) (hf : D'.rm.frames + 1 ≤ D.rm.frames) (hl : W + (D'.mx + 11) + D'.rm.locals ≤ D.rm.locals) (hc : cs + D'.rm.cells = cs') (hs : ss + D'.rm.slots = ss') (hc' : cs' ≤ D.rm.cells) (hs' : ss' ≤ D.rm.slots)
    (K : ∀ T' v, Rn g D M T' (Q' v) cs' ss' → Fn g D M Q (T'.setTop (mkF M.m pc' Ls (v.toList ++ rest)))) : Fn g D M Q (T.setTop (mkF M.m pc Ls S)) := by
  subst hp hc hs
  obtain ⟨st, vm0, k0, locs, X, hS, hk, hZ, hown, hC, N, E0, hH⟩ := B
  obtain ⟨v, vm1, Bp, -, X', hS', hg', ⟨L, hQ, hL, hE, e1, e2, e3, hC'⟩, stp⟩ := X.specialBackS st.2.1 hy1 hown (mvT hZ w1) (mvT hZ w2) (bytes := D'.cd) (maxL := D'.mx) (by rw [hrt] at w4; exact mvT hZ w4) hy (Ct.back (p := M.p) (e := M.e) (below := M.below) (s := M.s) (args := M.args) (len := 3) (Wt := W) C st.1 hZ w4 w3 hf hl hC.1 E0 hH) (g := mkF M.m pc Ls S) rfl (hsz.trans st.2.2.2.1.symm) (Steps.refl _) (a := a) (argsL := argsL) (rest := rest) (lenOf pd hlen) hst (by show 2 * 0 + _ ≤ _; rw [hW]; omega) (hb st.2.2.1 hd) (fun _ _ => ⟨has, rfl, hc', hs'⟩)
  exact (K Bp.U v (Rn.after st hS hk hZ hown hC N X' hS' hg' hQ hL hE e1 e2 e3 hC')).go fun t => stp.trans
theorem r_virtual (B : RH g D M T H Lt cs ss) {ix W cs' ss' : Nat} {y : MethodName} {C0 : String} {b : Addr} {argsL rest : List Value} {ps : List FieldType} {r : Option FieldType} (hd : decode D.cd pc = .ok (.invokevirtual ix, 3)) (hp : pc + 3 = pc')
    (w1 : (Jvm.Cond.methodLink D.y.cls ix y).before g.a0 g.Z = true) (wd : (Jvm.Cond.declares y).before g.a0 g.Z = true) (ws : (Jvm.Cond.selects C0 y D'.y).before g.a0 g.Z = true) (nf : ∀ vm0, g.Z.Warmed39 vm0 → NotFace (M.s.setVm vm0) y) (w2 : (Jvm.Cond.instanceMethod D'.y).before g.a0 g.Z = true) (w3 : (Jvm.Cond.initialized D'.y.cls).before g.a0 g.Z = true) (w4 : (Jvm.Cond.code D'.y D'.cd D'.mx D'.rt).before g.a0 g.Z = true)
    (hy : y.cls ≠ "java/lang/invoke/MethodHandle" ∧ y.cls ≠ "java/lang/invoke/VarHandle") (F : Al g H Lt fun h => Exa g.Z h b C0) (C : Ct g D' as H Lt Q') (has : (.ref b :: argsL).toArray = as) (pd : parseMethodDescriptor y.desc = some ⟨ps, r⟩) (hlen : argsL.length = ps.length) (hst : S = argsL.reverse ++ .ref b :: rest)
    (hsz : Ls.size = D.mx) (hW : (rest.map fun v => v.category).sum = W) (hf : D'.rm.frames + 1 ≤ D.rm.frames) (hl : W + (D'.mx + 11) + D'.rm.locals ≤ D.rm.locals) (hc : cs + D'.rm.cells = cs') (hs : ss + D'.rm.slots = ss') (hc' : cs' ≤ D.rm.cells) (hs' : ss' ≤ D.rm.slots)
    (K : ∀ T' v, Rn g D M T' (Q' v) cs' ss' → Fn g D M Q (T'.setTop (mkF M.m pc' Ls (v.toList ++ rest)))) : Fn g D M Q (T.setTop (mkF M.m pc Ls S)) := by
  subst hp hc hs
  obtain ⟨st, vm0, k0, locs, X, hS, hk, hZ, hown, hC, N, E0, hH⟩ := B
  obtain ⟨cB, kB, q1, q2, q3⟩ := isOf (s := M.s.setVm vm0) (T := T) hZ rfl (F _ _ E0 hH)
  obtain ⟨v, vm1, Bp, -, X', hS', hg', ⟨L, hQ, hL, hE, e1, e2, e3, hC'⟩, stp⟩ := X.virtualBackS st.2.1 hown (mvT hZ w1) (mvT hZ wd) (nf vm0 hZ) (mvT hZ ws) (mvT hZ w2) hy (Ct.back (p := M.p) (e := M.e) (below := M.below) (s := M.s) (args := M.args) (len := 3) (Wt := W) C st.1 hZ w4 w3 hf hl hC.1 E0 hH) q1 q3 (g := mkF M.m pc Ls S) rfl (hsz.trans st.2.2.2.1.symm) (Steps.refl _) (argsL := argsL) (rest := rest) (lenOf pd hlen) hst (by show 2 * 0 + _ ≤ _; rw [hW]; omega) (hb st.2.2.1 hd) (fun _ _ => ⟨has, rfl, hc', hs'⟩)
  exact (K Bp.U v (Rn.after st hS hk hZ hown hC N X' hS' hg' hQ hL hE e1 e2 e3 hC')).go fun t => stp.trans
theorem r_iface (B : RH g D M T H Lt cs ss) {ix cnt W cs' ss' : Nat} {y : MethodName} {C0 : String} {b : Addr} {argsL rest : List Value} {ps : List FieldType} {r : Option FieldType} (hd : decode D.cd pc = .ok (.invokeinterface ix cnt, 5)) (hp : pc + 5 = pc')
    (w1 : (Jvm.Cond.methodLink D.y.cls ix y).before g.a0 g.Z = true) (wd : (Jvm.Cond.declares y).before g.a0 g.Z = true) (wf : (Jvm.Cond.interfaceMethod y.cls y.cls y.name y.desc).before g.a0 g.Z = true) (hfa : ((Jvm.Cond.interfaceMethod y.cls y.cls y.name y.desc).onTables && (Jvm.Cond.interfaceMethod y.cls y.cls y.name y.desc).keepsFace) = true) (ws : (Jvm.Cond.selects C0 y D'.y).before g.a0 g.Z = true) (w2 : (Jvm.Cond.instanceMethod D'.y).before g.a0 g.Z = true)
    (wp : (Jvm.Cond.publicMethod D'.y).before g.a0 g.Z = true) (wu : (Jvm.Cond.unhidden C0 y.name y.desc).before g.a0 g.Z = true) (wk : (Jvm.Cond.castable C0 y.cls).before g.a0 g.Z = true)
    (w3 : (Jvm.Cond.initialized D'.y.cls).before g.a0 g.Z = true) (w4 : (Jvm.Cond.code D'.y D'.cd D'.mx D'.rt).before g.a0 g.Z = true)
    (hy : y.cls ≠ "java/lang/invoke/MethodHandle" ∧ y.cls ≠ "java/lang/invoke/VarHandle") (F : Al g H Lt fun h => Exa g.Z h b C0) (C : Ct g D' as H Lt Q') (has : (.ref b :: argsL).toArray = as) (pd : parseMethodDescriptor y.desc = some ⟨ps, r⟩) (hlen : argsL.length = ps.length) (hst : S = argsL.reverse ++ .ref b :: rest)
    (hsz : Ls.size = D.mx) (hW : (rest.map fun v => v.category).sum = W) (hf : D'.rm.frames + 1 ≤ D.rm.frames) (hl : W + (D'.mx + 11) + D'.rm.locals ≤ D.rm.locals) (hc : cs + D'.rm.cells = cs') (hs : ss + D'.rm.slots = ss') (hc' : cs' ≤ D.rm.cells) (hs' : ss' ≤ D.rm.slots)
    (K : ∀ T' v, Rn g D M T' (Q' v) cs' ss' → Fn g D M Q (T'.setTop (mkF M.m pc' Ls (v.toList ++ rest)))) : Fn g D M Q (T.setTop (mkF M.m pc Ls S)) := by
  subst hp hc hs
  obtain ⟨st, vm0, k0, locs, X, hS, hk, hZ, hown, hC, N, E0, hH⟩ := B
  obtain ⟨cB, kB, q1, q2, q3⟩ := isOf (s := M.s.setVm vm0) (T := T) hZ rfl (F _ _ E0 hH)
  obtain ⟨v, vm1, Bp, -, X', hS', hg', ⟨L, hQ, hL, hE, e1, e2, e3, hC'⟩, stp⟩ := X.interfaceBackS st.2.1 hown (mvT hZ w1) (mvT hZ wd) (mvT hZ wf hfa) (mvT hZ ws) (mvT hZ w2) (mvT hZ wp) (mvT hZ wu) (mvT hZ wk) hy (Ct.back (p := M.p) (e := M.e) (below := M.below) (s := M.s) (args := M.args) (len := 5) (Wt := W) C st.1 hZ w4 w3 hf hl hC.1 E0 hH) q1 q2 q3 (g := mkF M.m pc Ls S) rfl (hsz.trans st.2.2.2.1.symm) (Steps.refl _) (argsL := argsL) (rest := rest) (lenOf pd hlen) hst (by show 2 * 0 + _ ≤ _; rw [hW]; omega) (hb st.2.2.1 hd) (fun _ _ => ⟨has, rfl, hc', hs'⟩)
  exact (K Bp.U v (Rn.after st hS hk hZ hown hC N X' hS' hg' hQ hL hE e1 e2 e3 hC')).go fun t => stp.trans
/-! constants -/
theorem ary_of {Z : State} {h : Heap} {b : Addr} {k : ClassId} {z : Int32} {vs : List Value} {dv : Value} (A : Arv Z h b k .byte z vs dv) (hl : z.toNatClampNeg = vs.length) : Ary Z h b .byte "" vs := by
  obtain ⟨c, r1, r2, r3, r4, r5, r6⟩ := A
  have hs : c.slots.size = vs.length := r3.trans hl
  refine ⟨c, r1, ?_, ?_, fun v hv => ?_, nofun, fun q => absurd rfl q⟩
  · apply Array.ext_getElem?
    intro i
    by_cases hi : i < c.slots.size
    · rw [r5 i hi]
      have : i < vs.length := hs ▸ hi
      simp [this]
    · rw [Array.getElem?_eq_none (by omega), List.getElem?_toArray, List.getElem?_eq_none (by omega)]
  · have := (back32 r4).2
    omega
  · obtain ⟨i, hi, rfl⟩ := List.getElem_of_mem hv
    have := r6 i (by omega)
    simpa [hi] using this
theorem r_ldc (B : RH g D M T H Lt cs ss) {ix n cs' ss' : Nat} {text : String} {bs : List Value} {z : Int32} (hd : decode D.cd pc = .ok (.ldc ix, 2)) (hp : pc + 2 = pc') (w : (Jvm.Cond.stringLink D.y.cls ix text).before g.a0 g.Z = true) (wS : ∀ a ∈ Bundle.stringAtoms, a.before g.a0 g.Z = true) (hm : (D.y.cls, ix) ∈ g.EL)
    (ht : (∀ c ∈ text.toList, c.toNat < 256) ∧ text.toList.map (fun c => Value.int (Jvm.Lit.byteI c.toNat.toUInt16)) = bs) (hz : ¬ z < 0) (hzl : z.toNatClampNeg = bs.length) (hn : 4 * text.toList.length ≤ n) (hbig : n ≤ 536870912) (hc : cs + 2 = cs') (hs : ss + (n + 4) = ss') (hc' : cs' ≤ D.rm.cells) (hs' : ss' ≤ D.rm.slots)
    (K : ∀ T' a b, RH g D M T' H ((a, b, 0, bs) :: Lt) cs' ss' → Fn g D M Q (T'.setTop (mkF M.m pc' Ls (.ref a :: S)))) : Fn g D M Q (T.setTop (mkF M.m pc Ls S)) := by
  subst hp hc hs
  obtain ⟨st, vm0, k0, locs, X, hS, hk, hZ, hown, hC, N, E0, hH⟩ := B
  obtain ⟨a, T', h', k1, b, kk, X', e', E, hS', hk', hZ', hown', F1, F2, F3, F4, -, -, hC', -, hsafe, stp⟩ := ldcCH (Z := g.Z) (a0 := g.a0) (EL := g.EL) X st.2.1 hZ hown w wS rfl hS hk st.1.2.1 hm hC.1 ht hz hzl (g := mkF M.m pc Ls S) rfl (hb st.2.2.1 hd) hn hbig hc' hs'
  have P1 := hH.move hC' E
  have P' := P1.lit (y := (a, b, 0, bs)) ⟨F1, F3, F2, ary_of F4 hzl⟩ (fun x hx => hsafe x.1 (P1.1 x hx).2.2.2)
  subst e'
  exact (K T' a b ⟨st, T'.vm, k1, locs, X', hS', hk', hZ', hown', hC.trans hC', N, ext_trans E0 E, P'⟩).go stp
theorem r_ldcO (B : RH g D M T H Lt cs ss) {ix n cs' ss' : Nat} {text : String} (hd : decode D.cd pc = .ok (.ldc ix, 2)) (hp : pc + 2 = pc') (w : (Jvm.Cond.stringLink D.y.cls ix text).before g.a0 g.Z = true) (wS : ∀ a ∈ Bundle.stringAtoms, a.before g.a0 g.Z = true)
    (hn : 4 * text.toList.length ≤ n) (hbig : n ≤ 536870912) (hc : cs + 2 = cs') (hs : ss + (n + 4) = ss') (hc' : cs' ≤ D.rm.cells) (hs' : ss' ≤ D.rm.slots)
    (K : ∀ T' a, RH g D M T' H Lt cs' ss' → Fn g D M Q (T'.setTop (mkF M.m pc' Ls (.ref a :: S)))) : Fn g D M Q (T.setTop (mkF M.m pc Ls S)) := by
  subst hp hc hs
  obtain ⟨st, vm0, k0, locs, X, hS, hk, hZ, hown, hC, N, E0, hH⟩ := B
  obtain ⟨a, T', h', k1, X', e', E, hS', hk', hZ', hown', hC', -, stp⟩ := ldcOH (Z := g.Z) (a0 := g.a0) (EL := g.EL) X st.2.1 hZ hown w wS rfl hS hk st.1.2.1 hC.1 (g := mkF M.m pc Ls S) rfl (hb st.2.2.1 hd) hn hbig hc' hs'
  subst e'
  exact (K T' a ⟨st, T'.vm, k1, locs, X', hS', hk', hZ', hown', hC.trans hC', N, ext_trans E0 E, hH.move hC' E⟩).go stp
theorem r_ldcI (B : RH g D M T H Lt cs ss) {ix : Nat} {v : Int32} (hd : decode D.cd pc = .ok (.ldc ix, 2)) (hp : pc + 2 = pc') (w : (Jvm.Cond.constant D.y.cls ix v).before g.a0 g.Z = true) (K : Fn g D M Q (T.setTop (mkF M.m pc' Ls (.int v :: S)))) : Fn g D M Q (T.setTop (mkF M.m pc Ls S)) := by
  subst hp
  obtain ⟨st, vm0, k0, locs, X, hS, hk, hZ, hown, hC, N, E0, hH⟩ := B
  exact K.go fun t => X.ldcI (g := mkF M.m pc Ls S) st.2.1 hown (mvT hZ w) rfl (hb st.2.2.1 hd)
theorem r_ldcwI (B : RH g D M T H Lt cs ss) {ix : Nat} {v : Int32} (hd : decode D.cd pc = .ok (.ldc_w ix, 3)) (hp : pc + 3 = pc') (w : (Jvm.Cond.constant D.y.cls ix v).before g.a0 g.Z = true) (K : Fn g D M Q (T.setTop (mkF M.m pc' Ls (.int v :: S)))) : Fn g D M Q (T.setTop (mkF M.m pc Ls S)) := by
  subst hp
  obtain ⟨st, vm0, k0, locs, X, hS, hk, hZ, hown, hC, N, E0, hH⟩ := B
  exact K.go fun t => X.ldcWI (g := mkF M.m pc Ls S) st.2.1 hown (mvT hZ w) rfl (hb st.2.2.1 hd)
theorem r_ldcJ (B : RH g D M T H Lt cs ss) {ix : Nat} {v : Int64} (hd : decode D.cd pc = .ok (.ldc2_w ix, 3)) (hp : pc + 3 = pc') (w : (Jvm.Cond.constantLong D.y.cls ix v).before g.a0 g.Z = true) (K : Fn g D M Q (T.setTop (mkF M.m pc' Ls (.long v :: S)))) : Fn g D M Q (T.setTop (mkF M.m pc Ls S)) := by
  subst hp
  obtain ⟨st, vm0, k0, locs, X, hS, hk, hZ, hown, hC, N, E0, hH⟩ := B
  exact K.go fun t => X.ldc2J (g := mkF M.m pc Ls S) st.2.1 hown (mvT hZ w) rfl (hb st.2.2.1 hd)
/-! casts -/
theorem r_cast (B : RH g D M T H Lt cs ss) {ix : Nat} {C : String} {a : Addr} (hd : decode D.cd pc = .ok (.checkcast ix, 3)) (hp : pc + 3 = pc') (w : (Jvm.Cond.classLink D.y.cls ix C).before g.a0 g.Z = true) (F : Al g H Lt fun h => Ins g.Z h a C true)
    (K : ∀ T', RH g D M T' H Lt cs ss → Fn g D M Q (T'.setTop (mkF M.m pc' Ls (.ref a :: S)))) : Fn g D M Q (T.setTop (mkF M.m pc Ls (.ref a :: S))) := by
  subst hp
  obtain ⟨st, vm0, k0, locs, X, hS, hk, hZ, hown, hC, N, E0, hH⟩ := B
  obtain ⟨T', X', e', stp⟩ := castY (Z := g.Z) (a0 := g.a0) X st.2.1 hZ hown w rfl (F _ _ E0 hH) (g := mkF M.m pc Ls (.ref a :: S)) rfl rfl (hb st.2.2.1 hd)
  exact (K T' ⟨st, vm0, k0, locs, X', hS, by rw [e']; exact hk, hZ, hown, by rw [e']; exact hC, N, by rw [e']; exact E0, by rw [e']; exact hH⟩).go stp
theorem r_inst1 (B : RH g D M T H Lt cs ss) {ix : Nat} {C : String} {a : Addr} (hd : decode D.cd pc = .ok (.instanceof ix, 3)) (hp : pc + 3 = pc') (w : (Jvm.Cond.classLink D.y.cls ix C).before g.a0 g.Z = true) (F : Al g H Lt fun h => Ins g.Z h a C true)
    (K : ∀ T', RH g D M T' H Lt cs ss → Fn g D M Q (T'.setTop (mkF M.m pc' Ls (.int 1 :: S)))) : Fn g D M Q (T.setTop (mkF M.m pc Ls (.ref a :: S))) := by
  subst hp
  obtain ⟨st, vm0, k0, locs, X, hS, hk, hZ, hown, hC, N, E0, hH⟩ := B
  obtain ⟨T', X', e', stp⟩ := instY (Z := g.Z) (a0 := g.a0) X st.2.1 hZ hown w rfl (F _ _ E0 hH) (g := mkF M.m pc Ls (.ref a :: S)) rfl rfl (hb st.2.2.1 hd)
  exact (K T' ⟨st, vm0, k0, locs, X', hS, by rw [e']; exact hk, hZ, hown, by rw [e']; exact hC, N, by rw [e']; exact E0, by rw [e']; exact hH⟩).go stp
theorem r_inst0 (B : RH g D M T H Lt cs ss) {ix : Nat} {C C1 : String} {a : Addr} (hd : decode D.cd pc = .ok (.instanceof ix, 3)) (hp : pc + 3 = pc') (w : (Jvm.Cond.classLink D.y.cls ix C).before g.a0 g.Z = true) (F : Al g H Lt fun h => Ins g.Z h a C false) (F1 : Al g H Lt fun h => Exa g.Z h a C1)
    (K : ∀ T', RH g D M T' H Lt cs ss → Fn g D M Q (T'.setTop (mkF M.m pc' Ls (.int 0 :: S)))) : Fn g D M Q (T.setTop (mkF M.m pc Ls (.ref a :: S))) := by
  subst hp
  obtain ⟨st, vm0, k0, locs, X, hS, hk, hZ, hown, hC, N, E0, hH⟩ := B
  obtain ⟨cell, cT, h1, h2, h3⟩ := F _ _ E0 hH
  obtain ⟨cell', k, e1, -, e3, e4, -⟩ := F1 _ _ E0 hH
  cases h1.symm.trans e1
  obtain ⟨k', q, -⟩ := hZ.alike.2.2 _ _ e3
  obtain ⟨vm', X', stp⟩ := Jvm.Sym.instanceofNoAt X st.2.1 hown (mvT hZ w) h1 e4 q (by show vm0.findClass C = some cT; rw [hZ.alike.findClass]; exact h2) (by show vm0.assignable cell.cls cT = false; rw [hZ.alike.assignable]; simpa [e4] using h3) (g := mkF M.m pc Ls (.ref a :: S)) rfl rfl (hb st.2.2.1 hd)
  exact (K _ ⟨st, vm0, k0, locs, X', hS, hk, hZ, hown, hC, N, E0, hH⟩).go stp
theorem r_castN (B : RH g D M T H Lt cs ss) {ix : Nat} (hd : decode D.cd pc = .ok (.checkcast ix, 3)) (hp : pc + 3 = pc') (K : Fn g D M Q (T.setTop (mkF M.m pc' Ls (.null :: S)))) : Fn g D M Q (T.setTop (mkF M.m pc Ls (.null :: S))) := by
  subst hp
  obtain ⟨st, vm0, k0, locs, X, hS, hk, hZ, hown, hC, N, E0, hH⟩ := B
  exact K.go fun t => X.checkcastNull st.2.1 (g := mkF M.m pc Ls (.null :: S)) rfl rfl (hb st.2.2.1 hd) t
theorem r_instN (B : RH g D M T H Lt cs ss) {ix : Nat} (hd : decode D.cd pc = .ok (.instanceof ix, 3)) (hp : pc + 3 = pc') (K : Fn g D M Q (T.setTop (mkF M.m pc' Ls (.int 0 :: S)))) : Fn g D M Q (T.setTop (mkF M.m pc Ls (.null :: S))) := by
  subst hp
  obtain ⟨st, vm0, k0, locs, X, hS, hk, hZ, hown, hC, N, E0, hH⟩ := B
  exact K.go fun t => X.instanceofNull st.2.1 (g := mkF M.m pc Ls (.null :: S)) rfl rfl (hb st.2.2.1 hd) t
end Rules
theorem nar_ref {t : FieldType} {v : Value} (h : v.isRef = true) (ht : t.isReference = true) : narrow t v = v := by cases t <;> first | (cases v <;> first | rfl | (cases h; done)) | (cases ht; done)
theorem fit_ref {t : FieldType} {v : Value} (h : v.isRef = true) (ht : t.isReference = true) : fits t v = true := by cases t <;> first | (cases v <;> first | rfl | (cases h; done)) | (cases ht; done)
theorem cat_ref {v : Value} (h : v.isRef = true) : v.category = 1 := Jvm.Free.XT.cat1 h
theorem ins_no {Z : State} {h : Heap} {a : Addr} {a0 : Array Value} {C S K : String} {n : Nat} (E : Exa Z h a C) (w : (Jvm.Cond.superclass C S).before a0 Z = true) (w0 : (Jvm.Cond.noSuperclass S).before a0 Z = true) (wi : (Jvm.Cond.instantiable K n).before a0 Z = true) (h1 : C ≠ K) (h2 : S ≠ K) : Ins Z h a K false := by
  obtain ⟨cell, k, e1, e2, e3, e4, -⟩ := E
  obtain ⟨t, kt, t1, t2, t3, t4, -⟩ := Cond.instantiable_spec wi
  obtain ⟨p, kc, kp, q1, q2, q3, q4, q5, q6, q7⟩ := Cond.superclass_spec e2 w
  obtain ⟨p', kp', r1, r2, r3, r4, r5⟩ := Cond.noSuperclass_spec w0
  cases q1.symm.trans r1
  have n1 := ids_ne e2 t1 h1
  have n2 := ids_ne r1 t1 h2
  have hi : kt.isInterface = false := (Bool.or_eq_false_iff.mp t4).1
  have hs0 : ∀ fuel, Z.vm.isSubclassAux fuel p t = false := fun fuel => by
    cases fuel with
    | zero => rfl
    | succ f => simp [Vm.isSubclassAux, n2, r2, r3]
  have hs : ∀ fuel, Z.vm.isSubclassAux fuel cell.cls t = false := fun fuel => by
    cases fuel with
    | zero => rfl
    | succ f => simp [Vm.isSubclassAux, n1, q2, q4, hs0]
  have hA : Z.vm.assignable cell.cls t = false := by
    show Z.vm.assignableAux (255 + 1) cell.cls t = false
    simp [Vm.assignableAux, n1, q2, t2, q5, t3, hi, Vm.isSubclass, hs]
  exact ⟨cell, t, e1, t1, by simp [hA]⟩
theorem tl1 {α : Type} {a : α} {l : List α} : ∀ y ∈ l, y ∈ a :: l := fun _ h => List.mem_cons_of_mem _ h
theorem tl2 {α : Type} {a b : α} {l : List α} : ∀ y ∈ l, y ∈ a :: b :: l := fun _ h => List.mem_cons_of_mem _ (tl1 _ h)
theorem tl3 {α : Type} {a b c : α} {l : List α} : ∀ y ∈ l, y ∈ a :: b :: c :: l := fun _ h => List.mem_cons_of_mem _ (tl2 _ h)
theorem tl4 {α : Type} {a b c d : α} {l : List α} : ∀ y ∈ l, y ∈ a :: b :: c :: d :: l := fun _ h => List.mem_cons_of_mem _ (tl3 _ h)
theorem tlm {α : Type} {a b : α} {l : List α} : ∀ y ∈ a :: l, y ∈ a :: b :: l := fun _ h => (List.mem_cons.mp h).elim (fun e => e ▸ List.mem_cons_self ..) fun h => List.mem_cons_of_mem _ (tl1 _ h)
theorem tlh {α : Type} {a : α} {l : List α} (m : a ∈ l) : ∀ y ∈ a :: l, y ∈ l := fun _ h => (List.mem_cons.mp h).elim (fun e => e ▸ m) id
theorem Hp.nil {g : GG} {vm : Vm} {h : Heap} : Hp g vm h [] [] := ⟨nofun, List.nodup_nil, nofun, nofun⟩

theorem W0 {g : GG} (W : GW g) : (Jvm.Cond.arrayClass Jvm.ClassFile.FieldType.char).before g.a0 g.Z = true := W.1 _ (List.mem_of_getElem? (i := 0) rfl)
theorem W1 {g : GG} (W : GW g) : (Jvm.Cond.classLink "com/example/keys_to_peers/keystopeers/move/MoveMovedPinLaw" (7 : Nat) "java/lang/String").before g.a0 g.Z = true := W.1 _ (List.mem_of_getElem? (i := 1) rfl)
theorem W2 {g : GG} (W : GW g) : (Jvm.Cond.instantiable "java/lang/String" (4 : Nat)).before g.a0 g.Z = true := W.1 _ (List.mem_of_getElem? (i := 2) rfl)
theorem W3 {g : GG} (W : GW g) : (Jvm.Cond.initialized "java/lang/String").before g.a0 g.Z = true := W.1 _ (List.mem_of_getElem? (i := 3) rfl)
theorem W4 {g : GG} (W : GW g) : (Jvm.Cond.methodLink "com/example/keys_to_peers/keystopeers/move/MoveMovedPinLaw" (9 : Nat) ({ cls := "java/lang/String", name := "<init>", desc := "([C)V" } : Jvm.MethodName)).before g.a0 g.Z = true := W.1 _ (List.mem_of_getElem? (i := 4) rfl)
theorem W5 {g : GG} (W : GW g) : (Jvm.Cond.instanceMethod ({ cls := "java/lang/String", name := "<init>", desc := "([C)V" } : Jvm.MethodName)).before g.a0 g.Z = true := W.1 _ (List.mem_of_getElem? (i := 5) rfl)
theorem W6 {g : GG} (W : GW g) : (Jvm.Cond.code ({ cls := "java/lang/String", name := "<init>", desc := "([C)V" } : Jvm.MethodName) jdk_42_method_3_code (2 : Nat) (Option.none : Option Jvm.ClassFile.FieldType)).before g.a0 g.Z = true := W.1 _ (List.mem_of_getElem? (i := 6) rfl)
theorem W7 {g : GG} (W : GW g) : (Jvm.Cond.methodLink "java/lang/String" (27 : Nat) ({ cls := "java/lang/String", name := "<init>", desc := "([CIILjava/lang/Void;)V" } : Jvm.MethodName)).before g.a0 g.Z = true := W.1 _ (List.mem_of_getElem? (i := 7) rfl)
theorem W8 {g : GG} (W : GW g) : (Jvm.Cond.instanceMethod ({ cls := "java/lang/String", name := "<init>", desc := "([CIILjava/lang/Void;)V" } : Jvm.MethodName)).before g.a0 g.Z = true := W.1 _ (List.mem_of_getElem? (i := 8) rfl)
theorem W10 {g : GG} (W : GW g) : (Jvm.Cond.code ({ cls := "java/lang/String", name := "<init>", desc := "([CIILjava/lang/Void;)V" } : Jvm.MethodName) jdk_42_method_149_code (6 : Nat) (Option.none : Option Jvm.ClassFile.FieldType)).before g.a0 g.Z = true := W.1 _ (List.mem_of_getElem? (i := 10) rfl)
theorem W11 {g : GG} (W : GW g) : (Jvm.Cond.methodLink "java/lang/String" (1 : Nat) ({ cls := "java/lang/Object", name := "<init>", desc := "()V" } : Jvm.MethodName)).before g.a0 g.Z = true := W.1 _ (List.mem_of_getElem? (i := 11) rfl)
theorem W12 {g : GG} (W : GW g) : (Jvm.Cond.instanceMethod ({ cls := "java/lang/Object", name := "<init>", desc := "()V" } : Jvm.MethodName)).before g.a0 g.Z = true := W.1 _ (List.mem_of_getElem? (i := 12) rfl)
theorem W13 {g : GG} (W : GW g) : (Jvm.Cond.code ({ cls := "java/lang/Object", name := "<init>", desc := "()V" } : Jvm.MethodName) object_method_1_code (1 : Nat) (Option.none : Option Jvm.ClassFile.FieldType)).before g.a0 g.Z = true := W.1 _ (List.mem_of_getElem? (i := 13) rfl)
theorem W14 {g : GG} (W : GW g) : (Jvm.Cond.fieldLink "java/lang/String" (38 : Nat) "java/lang/String" "COMPACT_STRINGS" "Z").before g.a0 g.Z = true := W.1 _ (List.mem_of_getElem? (i := 14) rfl)
theorem W15 {g : GG} (W : GW g) : (Jvm.Cond.methodLink "java/lang/String" (177 : Nat) ({ cls := "java/lang/StringUTF16", name := "compress", desc := "([CII)[B" } : Jvm.MethodName)).before g.a0 g.Z = true := W.1 _ (List.mem_of_getElem? (i := 15) rfl)
theorem W16 {g : GG} (W : GW g) : (Jvm.Cond.static ({ cls := "java/lang/StringUTF16", name := "compress", desc := "([CII)[B" } : Jvm.MethodName)).before g.a0 g.Z = true := W.1 _ (List.mem_of_getElem? (i := 16) rfl)
theorem W17 {g : GG} (W : GW g) : (Jvm.Cond.initialized "java/lang/StringUTF16").before g.a0 g.Z = true := W.1 _ (List.mem_of_getElem? (i := 17) rfl)
theorem W18 {g : GG} (W : GW g) : (Jvm.Cond.code ({ cls := "java/lang/StringUTF16", name := "compress", desc := "([CII)[B" } : Jvm.MethodName) jdk_52_method_16_code (6 : Nat) (Option.some (Jvm.ClassFile.FieldType.array Jvm.ClassFile.FieldType.byte))).before g.a0 g.Z = true := W.1 _ (List.mem_of_getElem? (i := 18) rfl)
theorem W19 {g : GG} (W : GW g) : (Jvm.Cond.arrayClass Jvm.ClassFile.FieldType.byte).before g.a0 g.Z = true := W.1 _ (List.mem_of_getElem? (i := 19) rfl)
theorem W20 {g : GG} (W : GW g) : (Jvm.Cond.methodLink "java/lang/StringUTF16" (115 : Nat) ({ cls := "java/lang/StringUTF16", name := "compress", desc := "([CI[BII)I" } : Jvm.MethodName)).before g.a0 g.Z = true := W.1 _ (List.mem_of_getElem? (i := 20) rfl)
theorem W21 {g : GG} (W : GW g) : (Jvm.Cond.static ({ cls := "java/lang/StringUTF16", name := "compress", desc := "([CI[BII)I" } : Jvm.MethodName)).before g.a0 g.Z = true := W.1 _ (List.mem_of_getElem? (i := 21) rfl)
theorem W22 {g : GG} (W : GW g) : (Jvm.Cond.code ({ cls := "java/lang/StringUTF16", name := "compress", desc := "([CI[BII)I" } : Jvm.MethodName) jdk_52_method_21_code (7 : Nat) (Option.some Jvm.ClassFile.FieldType.int)).before g.a0 g.Z = true := W.1 _ (List.mem_of_getElem? (i := 22) rfl)
theorem W23 {g : GG} (W : GW g) : (Jvm.Cond.methodLink "java/lang/String" (47 : Nat) ({ cls := "java/lang/StringUTF16", name := "coderFromArrayLen", desc := "([BI)B" } : Jvm.MethodName)).before g.a0 g.Z = true := W.1 _ (List.mem_of_getElem? (i := 23) rfl)
theorem W24 {g : GG} (W : GW g) : (Jvm.Cond.static ({ cls := "java/lang/StringUTF16", name := "coderFromArrayLen", desc := "([BI)B" } : Jvm.MethodName)).before g.a0 g.Z = true := W.1 _ (List.mem_of_getElem? (i := 24) rfl)
theorem W25 {g : GG} (W : GW g) : (Jvm.Cond.code ({ cls := "java/lang/StringUTF16", name := "coderFromArrayLen", desc := "([BI)B" } : Jvm.MethodName) jdk_52_method_15_code (2 : Nat) (Option.some Jvm.ClassFile.FieldType.byte)).before g.a0 g.Z = true := W.1 _ (List.mem_of_getElem? (i := 25) rfl)
theorem W26 {g : GG} (W : GW g) : (Jvm.Cond.fieldLink "java/lang/String" (15 : Nat) "java/lang/String" "coder" "B").before g.a0 g.Z = true := W.1 _ (List.mem_of_getElem? (i := 26) rfl)
theorem W27 {g : GG} (W : GW g) : (Jvm.Cond.laysFinal "java/lang/String" "java/lang/String" "coder" "B").before g.a0 g.Z = true := W.1 _ (List.mem_of_getElem? (i := 27) rfl)
theorem W28 {g : GG} (W : GW g) : (Jvm.Cond.fieldLink "java/lang/String" (9 : Nat) "java/lang/String" "value" "[B").before g.a0 g.Z = true := W.1 _ (List.mem_of_getElem? (i := 28) rfl)
theorem W29 {g : GG} (W : GW g) : (Jvm.Cond.laysFinal "java/lang/String" "java/lang/String" "value" "[B").before g.a0 g.Z = true := W.1 _ (List.mem_of_getElem? (i := 29) rfl)
theorem W30 {g : GG} (W : GW g) : (Jvm.Cond.stringLink "java/lang/String" (7 : Nat) "").before g.a0 g.Z = true := W.1 _ (List.mem_of_getElem? (i := 30) rfl)
theorem W31 {g : GG} (W : GW g) : (Jvm.Cond.soleField "java/lang/String" "value").before g.a0 g.Z = true := W.1 _ (List.mem_of_getElem? (i := 31) rfl)
theorem W32 {g : GG} (W : GW g) : (Jvm.Cond.soleField "java/lang/String" "coder").before g.a0 g.Z = true := W.1 _ (List.mem_of_getElem? (i := 32) rfl)
theorem W33 {g : GG} (W : GW g) : (Jvm.Cond.classLink "com/example/keys_to_peers/keystopeers/move/MoveMovedPinLaw" (12 : Nat) "com/example/keys_to_peers/keystopeers/move/Move").before g.a0 g.Z = true := W.1 _ (List.mem_of_getElem? (i := 33) rfl)
theorem W34 {g : GG} (W : GW g) : (Jvm.Cond.instantiable "com/example/keys_to_peers/keystopeers/move/Move" (2 : Nat)).before g.a0 g.Z = true := W.1 _ (List.mem_of_getElem? (i := 34) rfl)
theorem W35 {g : GG} (W : GW g) : (Jvm.Cond.initialized "com/example/keys_to_peers/keystopeers/move/Move").before g.a0 g.Z = true := W.1 _ (List.mem_of_getElem? (i := 35) rfl)
theorem W36 {g : GG} (W : GW g) : (Jvm.Cond.methodLink "com/example/keys_to_peers/keystopeers/move/MoveMovedPinLaw" (14 : Nat) ({ cls := "com/example/keys_to_peers/keystopeers/move/Move", name := "<init>", desc := "(Ljava/lang/String;Ljava/lang/String;)V" } : Jvm.MethodName)).before g.a0 g.Z = true := W.1 _ (List.mem_of_getElem? (i := 36) rfl)
theorem W37 {g : GG} (W : GW g) : (Jvm.Cond.instanceMethod ({ cls := "com/example/keys_to_peers/keystopeers/move/Move", name := "<init>", desc := "(Ljava/lang/String;Ljava/lang/String;)V" } : Jvm.MethodName)).before g.a0 g.Z = true := W.1 _ (List.mem_of_getElem? (i := 37) rfl)
theorem W38 {g : GG} (W : GW g) : (Jvm.Cond.code ({ cls := "com/example/keys_to_peers/keystopeers/move/Move", name := "<init>", desc := "(Ljava/lang/String;Ljava/lang/String;)V" } : Jvm.MethodName) prog_19_method_1_code (3 : Nat) (Option.none : Option Jvm.ClassFile.FieldType)).before g.a0 g.Z = true := W.1 _ (List.mem_of_getElem? (i := 38) rfl)
theorem W39 {g : GG} (W : GW g) : (Jvm.Cond.methodLink "com/example/keys_to_peers/keystopeers/move/Move" (1 : Nat) ({ cls := "java/lang/Record", name := "<init>", desc := "()V" } : Jvm.MethodName)).before g.a0 g.Z = true := W.1 _ (List.mem_of_getElem? (i := 39) rfl)
theorem W40 {g : GG} (W : GW g) : (Jvm.Cond.instanceMethod ({ cls := "java/lang/Record", name := "<init>", desc := "()V" } : Jvm.MethodName)).before g.a0 g.Z = true := W.1 _ (List.mem_of_getElem? (i := 40) rfl)
theorem W42 {g : GG} (W : GW g) : (Jvm.Cond.initialized "java/lang/Record").before g.a0 g.Z = true := W.1 _ (List.mem_of_getElem? (i := 42) rfl)
theorem W43 {g : GG} (W : GW g) : (Jvm.Cond.code ({ cls := "java/lang/Record", name := "<init>", desc := "()V" } : Jvm.MethodName) jdk_30_method_1_code (1 : Nat) (Option.none : Option Jvm.ClassFile.FieldType)).before g.a0 g.Z = true := W.1 _ (List.mem_of_getElem? (i := 43) rfl)
theorem W44 {g : GG} (W : GW g) : (Jvm.Cond.methodLink "java/lang/Record" (1 : Nat) ({ cls := "java/lang/Object", name := "<init>", desc := "()V" } : Jvm.MethodName)).before g.a0 g.Z = true := W.1 _ (List.mem_of_getElem? (i := 44) rfl)
theorem W45 {g : GG} (W : GW g) : (Jvm.Cond.stringLink "com/example/keys_to_peers/keystopeers/move/Move" (7 : Nat) "from").before g.a0 g.Z = true := W.1 _ (List.mem_of_getElem? (i := 45) rfl)
theorem W46 {g : GG} (W : GW g) : (Jvm.Cond.methodLink "com/example/keys_to_peers/keystopeers/move/Move" (9 : Nat) ({ cls := "java/util/Objects", name := "requireNonNull", desc := "(Ljava/lang/Object;Ljava/lang/String;)Ljava/lang/Object;" } : Jvm.MethodName)).before g.a0 g.Z = true := W.1 _ (List.mem_of_getElem? (i := 46) rfl)
theorem W47 {g : GG} (W : GW g) : (Jvm.Cond.static ({ cls := "java/util/Objects", name := "requireNonNull", desc := "(Ljava/lang/Object;Ljava/lang/String;)Ljava/lang/Object;" } : Jvm.MethodName)).before g.a0 g.Z = true := W.1 _ (List.mem_of_getElem? (i := 47) rfl)
theorem W48 {g : GG} (W : GW g) : (Jvm.Cond.initialized "java/util/Objects").before g.a0 g.Z = true := W.1 _ (List.mem_of_getElem? (i := 48) rfl)
theorem W49 {g : GG} (W : GW g) : (Jvm.Cond.code ({ cls := "java/util/Objects", name := "requireNonNull", desc := "(Ljava/lang/Object;Ljava/lang/String;)Ljava/lang/Object;" } : Jvm.MethodName) jdk_31_method_11_code (2 : Nat) (Option.some (Jvm.ClassFile.FieldType.object "java/lang/Object"))).before g.a0 g.Z = true := W.1 _ (List.mem_of_getElem? (i := 49) rfl)
theorem W50 {g : GG} (W : GW g) : (Jvm.Cond.stringLink "com/example/keys_to_peers/keystopeers/move/Move" (15 : Nat) "to").before g.a0 g.Z = true := W.1 _ (List.mem_of_getElem? (i := 50) rfl)
theorem W51 {g : GG} (W : GW g) : (Jvm.Cond.fieldLink "com/example/keys_to_peers/keystopeers/move/Move" (17 : Nat) "com/example/keys_to_peers/keystopeers/move/Move" "from" "Ljava/lang/String;").before g.a0 g.Z = true := W.1 _ (List.mem_of_getElem? (i := 51) rfl)
theorem W52 {g : GG} (W : GW g) : (Jvm.Cond.laysFinal "com/example/keys_to_peers/keystopeers/move/Move" "com/example/keys_to_peers/keystopeers/move/Move" "from" "Ljava/lang/String;").before g.a0 g.Z = true := W.1 _ (List.mem_of_getElem? (i := 52) rfl)
theorem W53 {g : GG} (W : GW g) : (Jvm.Cond.fieldLink "com/example/keys_to_peers/keystopeers/move/Move" (22 : Nat) "com/example/keys_to_peers/keystopeers/move/Move" "to" "Ljava/lang/String;").before g.a0 g.Z = true := W.1 _ (List.mem_of_getElem? (i := 53) rfl)
theorem W54 {g : GG} (W : GW g) : (Jvm.Cond.laysFinal "com/example/keys_to_peers/keystopeers/move/Move" "com/example/keys_to_peers/keystopeers/move/Move" "to" "Ljava/lang/String;").before g.a0 g.Z = true := W.1 _ (List.mem_of_getElem? (i := 54) rfl)
theorem W55 {g : GG} (W : GW g) : (Jvm.Cond.methodLink "com/example/keys_to_peers/keystopeers/move/MoveMovedPinLaw" (17 : Nat) ({ cls := "com/example/keys_to_peers/keystopeers/move/Move", name := "moved", desc := "()Z" } : Jvm.MethodName)).before g.a0 g.Z = true := W.1 _ (List.mem_of_getElem? (i := 55) rfl)
theorem W56 {g : GG} (W : GW g) : (Jvm.Cond.declares ({ cls := "com/example/keys_to_peers/keystopeers/move/Move", name := "moved", desc := "()Z" } : Jvm.MethodName)).before g.a0 g.Z = true := W.1 _ (List.mem_of_getElem? (i := 56) rfl)
theorem W57 {g : GG} (W : GW g) : (Jvm.Cond.instanceMethod ({ cls := "com/example/keys_to_peers/keystopeers/move/Move", name := "moved", desc := "()Z" } : Jvm.MethodName)).before g.a0 g.Z = true := W.1 _ (List.mem_of_getElem? (i := 57) rfl)
theorem W58 {g : GG} (W : GW g) : (Jvm.Cond.selects "com/example/keys_to_peers/keystopeers/move/Move" ({ cls := "com/example/keys_to_peers/keystopeers/move/Move", name := "moved", desc := "()Z" } : Jvm.MethodName) ({ cls := "com/example/keys_to_peers/keystopeers/move/Move", name := "moved", desc := "()Z" } : Jvm.MethodName)).before g.a0 g.Z = true := W.1 _ (List.mem_of_getElem? (i := 58) rfl)
theorem W59 {g : GG} (W : GW g) : (Jvm.Cond.code ({ cls := "com/example/keys_to_peers/keystopeers/move/Move", name := "moved", desc := "()Z" } : Jvm.MethodName) prog_19_method_2_code (1 : Nat) (Option.some Jvm.ClassFile.FieldType.boolean)).before g.a0 g.Z = true := W.1 _ (List.mem_of_getElem? (i := 59) rfl)
theorem W60 {g : GG} (W : GW g) : (Jvm.Cond.methodLink "com/example/keys_to_peers/keystopeers/move/Move" (24 : Nat) ({ cls := "java/lang/String", name := "equals", desc := "(Ljava/lang/Object;)Z" } : Jvm.MethodName)).before g.a0 g.Z = true := W.1 _ (List.mem_of_getElem? (i := 60) rfl)
theorem W61 {g : GG} (W : GW g) : (Jvm.Cond.declares ({ cls := "java/lang/String", name := "equals", desc := "(Ljava/lang/Object;)Z" } : Jvm.MethodName)).before g.a0 g.Z = true := W.1 _ (List.mem_of_getElem? (i := 61) rfl)
theorem W62 {g : GG} (W : GW g) : (Jvm.Cond.instanceMethod ({ cls := "java/lang/String", name := "equals", desc := "(Ljava/lang/Object;)Z" } : Jvm.MethodName)).before g.a0 g.Z = true := W.1 _ (List.mem_of_getElem? (i := 62) rfl)
theorem W63 {g : GG} (W : GW g) : (Jvm.Cond.selects "java/lang/String" ({ cls := "java/lang/String", name := "equals", desc := "(Ljava/lang/Object;)Z" } : Jvm.MethodName) ({ cls := "java/lang/String", name := "equals", desc := "(Ljava/lang/Object;)Z" } : Jvm.MethodName)).before g.a0 g.Z = true := W.1 _ (List.mem_of_getElem? (i := 63) rfl)
theorem W64 {g : GG} (W : GW g) : (Jvm.Cond.code ({ cls := "java/lang/String", name := "equals", desc := "(Ljava/lang/Object;)Z" } : Jvm.MethodName) jdk_42_method_66_code (3 : Nat) (Option.some Jvm.ClassFile.FieldType.boolean)).before g.a0 g.Z = true := W.1 _ (List.mem_of_getElem? (i := 64) rfl)
theorem W65 {g : GG} (W : GW g) : (Jvm.Cond.classLink "java/lang/String" (10 : Nat) "java/lang/String").before g.a0 g.Z = true := W.1 _ (List.mem_of_getElem? (i := 65) rfl)
theorem W66 {g : GG} (W : GW g) : (Jvm.Cond.methodLink "java/lang/String" (541 : Nat) ({ cls := "java/lang/StringLatin1", name := "equals", desc := "([B[B)Z" } : Jvm.MethodName)).before g.a0 g.Z = true := W.1 _ (List.mem_of_getElem? (i := 66) rfl)
theorem W67 {g : GG} (W : GW g) : (Jvm.Cond.static ({ cls := "java/lang/StringLatin1", name := "equals", desc := "([B[B)Z" } : Jvm.MethodName)).before g.a0 g.Z = true := W.1 _ (List.mem_of_getElem? (i := 67) rfl)
theorem W68 {g : GG} (W : GW g) : (Jvm.Cond.initialized "java/lang/StringLatin1").before g.a0 g.Z = true := W.1 _ (List.mem_of_getElem? (i := 68) rfl)
theorem W69 {g : GG} (W : GW g) : (Jvm.Cond.code ({ cls := "java/lang/StringLatin1", name := "equals", desc := "([B[B)Z" } : Jvm.MethodName) jdk_43_method_13_code (3 : Nat) (Option.some Jvm.ClassFile.FieldType.boolean)).before g.a0 g.Z = true := W.1 _ (List.mem_of_getElem? (i := 69) rfl)
theorem d1_0 : decode jdk_42_method_3_code 0 = .ok (.aload_n 0, 1) := by decide +kernel
theorem d1_1 : decode jdk_42_method_3_code 1 = .ok (.aload_n 1, 1) := by decide +kernel
theorem d1_2 : decode jdk_42_method_3_code 2 = .ok (.iconst 0, 1) := by decide +kernel
theorem d1_3 : decode jdk_42_method_3_code 3 = .ok (.aload_n 1, 1) := by decide +kernel
theorem d1_4 : decode jdk_42_method_3_code 4 = .ok (.arraylength, 1) := by decide +kernel
theorem d1_5 : decode jdk_42_method_3_code 5 = .ok (.aconst_null, 1) := by decide +kernel
theorem d1_6 : decode jdk_42_method_3_code 6 = .ok (.invokespecial 27, 3) := by decide +kernel
theorem d1_9 : decode jdk_42_method_3_code 9 = .ok (.return_, 1) := by decide +kernel
theorem d2_0 : decode jdk_42_method_149_code 0 = .ok (.aload_n 0, 1) := by decide +kernel
theorem d2_1 : decode jdk_42_method_149_code 1 = .ok (.invokespecial 1, 3) := by decide +kernel
theorem d2_4 : decode jdk_42_method_149_code 4 = .ok (.iload_n 3, 1) := by decide +kernel
theorem d2_5 : decode jdk_42_method_149_code 5 = .ok (.ifCond .ne 22, 3) := by decide +kernel
theorem d2_8 : decode jdk_42_method_149_code 8 = .ok (.aload_n 0, 1) := by decide +kernel
theorem d2_9 : decode jdk_42_method_149_code 9 = .ok (.ldc 7, 2) := by decide +kernel
theorem d2_11 : decode jdk_42_method_149_code 11 = .ok (.getfield 9, 3) := by decide +kernel
theorem d2_14 : decode jdk_42_method_149_code 14 = .ok (.putfield 9, 3) := by decide +kernel
theorem d2_17 : decode jdk_42_method_149_code 17 = .ok (.aload_n 0, 1) := by decide +kernel
theorem d2_18 : decode jdk_42_method_149_code 18 = .ok (.ldc 7, 2) := by decide +kernel
theorem d2_20 : decode jdk_42_method_149_code 20 = .ok (.getfield 15, 3) := by decide +kernel
theorem d2_23 : decode jdk_42_method_149_code 23 = .ok (.putfield 15, 3) := by decide +kernel
theorem d2_26 : decode jdk_42_method_149_code 26 = .ok (.return_, 1) := by decide +kernel
theorem d2_27 : decode jdk_42_method_149_code 27 = .ok (.getstatic 38, 3) := by decide +kernel
theorem d2_30 : decode jdk_42_method_149_code 30 = .ok (.ifCond .eq 28, 3) := by decide +kernel
theorem d2_33 : decode jdk_42_method_149_code 33 = .ok (.aload_n 1, 1) := by decide +kernel
theorem d2_34 : decode jdk_42_method_149_code 34 = .ok (.iload_n 2, 1) := by decide +kernel
theorem d2_35 : decode jdk_42_method_149_code 35 = .ok (.iload_n 3, 1) := by decide +kernel
theorem d2_36 : decode jdk_42_method_149_code 36 = .ok (.invokestatic 177, 3) := by decide +kernel
theorem d2_39 : decode jdk_42_method_149_code 39 = .ok (.astore 5, 2) := by decide +kernel
theorem d2_41 : decode jdk_42_method_149_code 41 = .ok (.aload_n 0, 1) := by decide +kernel
theorem d2_42 : decode jdk_42_method_149_code 42 = .ok (.aload 5, 2) := by decide +kernel
theorem d2_44 : decode jdk_42_method_149_code 44 = .ok (.iload_n 3, 1) := by decide +kernel
theorem d2_45 : decode jdk_42_method_149_code 45 = .ok (.invokestatic 47, 3) := by decide +kernel
theorem d2_48 : decode jdk_42_method_149_code 48 = .ok (.putfield 15, 3) := by decide +kernel
theorem d2_51 : decode jdk_42_method_149_code 51 = .ok (.aload_n 0, 1) := by decide +kernel
theorem d2_52 : decode jdk_42_method_149_code 52 = .ok (.aload 5, 2) := by decide +kernel
theorem d2_54 : decode jdk_42_method_149_code 54 = .ok (.putfield 9, 3) := by decide +kernel
theorem d2_57 : decode jdk_42_method_149_code 57 = .ok (.return_, 1) := by decide +kernel
theorem d4_0 : decode jdk_52_method_16_code 0 = .ok (.iload_n 2, 1) := by decide +kernel
theorem d4_1 : decode jdk_52_method_16_code 1 = .ok (.newarray .byte, 2) := by decide +kernel
theorem d4_3 : decode jdk_52_method_16_code 3 = .ok (.astore_n 3, 1) := by decide +kernel
theorem d4_4 : decode jdk_52_method_16_code 4 = .ok (.aload_n 0, 1) := by decide +kernel
theorem d4_5 : decode jdk_52_method_16_code 5 = .ok (.iload_n 1, 1) := by decide +kernel
theorem d4_6 : decode jdk_52_method_16_code 6 = .ok (.aload_n 3, 1) := by decide +kernel
theorem d4_7 : decode jdk_52_method_16_code 7 = .ok (.iconst 0, 1) := by decide +kernel
theorem d4_8 : decode jdk_52_method_16_code 8 = .ok (.iload_n 2, 1) := by decide +kernel
theorem d4_9 : decode jdk_52_method_16_code 9 = .ok (.invokestatic 115, 3) := by decide +kernel
theorem d4_12 : decode jdk_52_method_16_code 12 = .ok (.istore 4, 2) := by decide +kernel
theorem d4_14 : decode jdk_52_method_16_code 14 = .ok (.iload 4, 2) := by decide +kernel
theorem d4_16 : decode jdk_52_method_16_code 16 = .ok (.iload_n 2, 1) := by decide +kernel
theorem d4_17 : decode jdk_52_method_16_code 17 = .ok (.if_icmp .eq 40, 3) := by decide +kernel
theorem d4_57 : decode jdk_52_method_16_code 57 = .ok (.aload_n 3, 1) := by decide +kernel
theorem d4_58 : decode jdk_52_method_16_code 58 = .ok (.areturn, 1) := by decide +kernel
theorem d5_0 : decode jdk_52_method_21_code 0 = .ok (.iconst 0, 1) := by decide +kernel
theorem d5_1 : decode jdk_52_method_21_code 1 = .ok (.istore 5, 2) := by decide +kernel
theorem d5_3 : decode jdk_52_method_21_code 3 = .ok (.iload 5, 2) := by decide +kernel
theorem d5_5 : decode jdk_52_method_21_code 5 = .ok (.iload 4, 2) := by decide +kernel
theorem d5_7 : decode jdk_52_method_21_code 7 = .ok (.if_icmp .ge 37, 3) := by decide +kernel
theorem d5_10 : decode jdk_52_method_21_code 10 = .ok (.aload_n 0, 1) := by decide +kernel
theorem d5_11 : decode jdk_52_method_21_code 11 = .ok (.iload_n 1, 1) := by decide +kernel
theorem d5_12 : decode jdk_52_method_21_code 12 = .ok (.caload, 1) := by decide +kernel
theorem d5_13 : decode jdk_52_method_21_code 13 = .ok (.istore 6, 2) := by decide +kernel
theorem d5_15 : decode jdk_52_method_21_code 15 = .ok (.iload 6, 2) := by decide +kernel
theorem d5_17 : decode jdk_52_method_21_code 17 = .ok (.sipush 255, 3) := by decide +kernel
theorem d5_20 : decode jdk_52_method_21_code 20 = .ok (.if_icmp .le 6, 3) := by decide +kernel
theorem d5_26 : decode jdk_52_method_21_code 26 = .ok (.aload_n 2, 1) := by decide +kernel
theorem d5_27 : decode jdk_52_method_21_code 27 = .ok (.iload_n 3, 1) := by decide +kernel
theorem d5_28 : decode jdk_52_method_21_code 28 = .ok (.iload 6, 2) := by decide +kernel
theorem d5_30 : decode jdk_52_method_21_code 30 = .ok (.i2b, 1) := by decide +kernel
theorem d5_31 : decode jdk_52_method_21_code 31 = .ok (.bastore, 1) := by decide +kernel
theorem d5_32 : decode jdk_52_method_21_code 32 = .ok (.iinc 1 1, 3) := by decide +kernel
theorem d5_35 : decode jdk_52_method_21_code 35 = .ok (.iinc 3 1, 3) := by decide +kernel
theorem d5_38 : decode jdk_52_method_21_code 38 = .ok (.iinc 5 1, 3) := by decide +kernel
theorem d5_41 : decode jdk_52_method_21_code 41 = .ok (.goto (-38), 3) := by decide +kernel
theorem d5_44 : decode jdk_52_method_21_code 44 = .ok (.iload 4, 2) := by decide +kernel
theorem d5_46 : decode jdk_52_method_21_code 46 = .ok (.ireturn, 1) := by decide +kernel
theorem d6_0 : decode jdk_52_method_15_code 0 = .ok (.iload_n 1, 1) := by decide +kernel
theorem d6_1 : decode jdk_52_method_15_code 1 = .ok (.aload_n 0, 1) := by decide +kernel
theorem d6_2 : decode jdk_52_method_15_code 2 = .ok (.arraylength, 1) := by decide +kernel
theorem d6_3 : decode jdk_52_method_15_code 3 = .ok (.isub, 1) := by decide +kernel
theorem d6_4 : decode jdk_52_method_15_code 4 = .ok (.bipush 31, 2) := by decide +kernel
theorem d6_6 : decode jdk_52_method_15_code 6 = .ok (.iushr, 1) := by decide +kernel
theorem d6_7 : decode jdk_52_method_15_code 7 = .ok (.i2b, 1) := by decide +kernel
theorem d6_8 : decode jdk_52_method_15_code 8 = .ok (.ireturn, 1) := by decide +kernel
theorem d7_0 : decode prog_19_method_1_code 0 = .ok (.aload_n 0, 1) := by decide +kernel
theorem d7_1 : decode prog_19_method_1_code 1 = .ok (.invokespecial 1, 3) := by decide +kernel
theorem d7_4 : decode prog_19_method_1_code 4 = .ok (.aload_n 1, 1) := by decide +kernel
theorem d7_5 : decode prog_19_method_1_code 5 = .ok (.ldc 7, 2) := by decide +kernel
theorem d7_7 : decode prog_19_method_1_code 7 = .ok (.invokestatic 9, 3) := by decide +kernel
theorem d7_10 : decode prog_19_method_1_code 10 = .ok (.pop, 1) := by decide +kernel
theorem d7_11 : decode prog_19_method_1_code 11 = .ok (.aload_n 2, 1) := by decide +kernel
theorem d7_12 : decode prog_19_method_1_code 12 = .ok (.ldc 15, 2) := by decide +kernel
theorem d7_14 : decode prog_19_method_1_code 14 = .ok (.invokestatic 9, 3) := by decide +kernel
theorem d7_17 : decode prog_19_method_1_code 17 = .ok (.pop, 1) := by decide +kernel
theorem d7_18 : decode prog_19_method_1_code 18 = .ok (.aload_n 0, 1) := by decide +kernel
theorem d7_19 : decode prog_19_method_1_code 19 = .ok (.aload_n 1, 1) := by decide +kernel
theorem d7_20 : decode prog_19_method_1_code 20 = .ok (.putfield 17, 3) := by decide +kernel
theorem d7_23 : decode prog_19_method_1_code 23 = .ok (.aload_n 0, 1) := by decide +kernel
theorem d7_24 : decode prog_19_method_1_code 24 = .ok (.aload_n 2, 1) := by decide +kernel
theorem d7_25 : decode prog_19_method_1_code 25 = .ok (.putfield 22, 3) := by decide +kernel
theorem d7_28 : decode prog_19_method_1_code 28 = .ok (.return_, 1) := by decide +kernel
theorem d8_0 : decode jdk_30_method_1_code 0 = .ok (.aload_n 0, 1) := by decide +kernel
theorem d8_1 : decode jdk_30_method_1_code 1 = .ok (.invokespecial 1, 3) := by decide +kernel
theorem d8_4 : decode jdk_30_method_1_code 4 = .ok (.return_, 1) := by decide +kernel
theorem d9_0 : decode jdk_31_method_11_code 0 = .ok (.aload_n 0, 1) := by decide +kernel
theorem d9_1 : decode jdk_31_method_11_code 1 = .ok (.ifnonnull 12, 3) := by decide +kernel
theorem d9_13 : decode jdk_31_method_11_code 13 = .ok (.aload_n 0, 1) := by decide +kernel
theorem d9_14 : decode jdk_31_method_11_code 14 = .ok (.areturn, 1) := by decide +kernel
theorem d10_0 : decode prog_19_method_2_code 0 = .ok (.aload_n 0, 1) := by decide +kernel
theorem d10_1 : decode prog_19_method_2_code 1 = .ok (.getfield 17, 3) := by decide +kernel
theorem d10_4 : decode prog_19_method_2_code 4 = .ok (.aload_n 0, 1) := by decide +kernel
theorem d10_5 : decode prog_19_method_2_code 5 = .ok (.getfield 22, 3) := by decide +kernel
theorem d10_8 : decode prog_19_method_2_code 8 = .ok (.invokevirtual 24, 3) := by decide +kernel
theorem d10_11 : decode prog_19_method_2_code 11 = .ok (.ifCond .ne 7, 3) := by decide +kernel
theorem d10_14 : decode prog_19_method_2_code 14 = .ok (.iconst 1, 1) := by decide +kernel
theorem d10_15 : decode prog_19_method_2_code 15 = .ok (.goto 4, 3) := by decide +kernel
theorem d10_18 : decode prog_19_method_2_code 18 = .ok (.iconst 0, 1) := by decide +kernel
theorem d10_19 : decode prog_19_method_2_code 19 = .ok (.ireturn, 1) := by decide +kernel
theorem d11_0 : decode jdk_42_method_66_code 0 = .ok (.aload_n 0, 1) := by decide +kernel
theorem d11_1 : decode jdk_42_method_66_code 1 = .ok (.aload_n 1, 1) := by decide +kernel
theorem d11_2 : decode jdk_42_method_66_code 2 = .ok (.if_acmp .ne 5, 3) := by decide +kernel
theorem d11_5 : decode jdk_42_method_66_code 5 = .ok (.iconst 1, 1) := by decide +kernel
theorem d11_6 : decode jdk_42_method_66_code 6 = .ok (.ireturn, 1) := by decide +kernel
theorem d11_7 : decode jdk_42_method_66_code 7 = .ok (.aload_n 1, 1) := by decide +kernel
theorem d11_8 : decode jdk_42_method_66_code 8 = .ok (.instanceof 10, 3) := by decide +kernel
theorem d11_11 : decode jdk_42_method_66_code 11 = .ok (.ifCond .eq 43, 3) := by decide +kernel
theorem d11_14 : decode jdk_42_method_66_code 14 = .ok (.aload_n 1, 1) := by decide +kernel
theorem d11_15 : decode jdk_42_method_66_code 15 = .ok (.checkcast 10, 3) := by decide +kernel
theorem d11_18 : decode jdk_42_method_66_code 18 = .ok (.astore_n 2, 1) := by decide +kernel
theorem d11_19 : decode jdk_42_method_66_code 19 = .ok (.getstatic 38, 3) := by decide +kernel
theorem d11_22 : decode jdk_42_method_66_code 22 = .ok (.ifCond .eq 14, 3) := by decide +kernel
theorem d11_25 : decode jdk_42_method_66_code 25 = .ok (.aload_n 0, 1) := by decide +kernel
theorem d11_26 : decode jdk_42_method_66_code 26 = .ok (.getfield 15, 3) := by decide +kernel
theorem d11_29 : decode jdk_42_method_66_code 29 = .ok (.aload_n 2, 1) := by decide +kernel
theorem d11_30 : decode jdk_42_method_66_code 30 = .ok (.getfield 15, 3) := by decide +kernel
theorem d11_33 : decode jdk_42_method_66_code 33 = .ok (.if_icmp .ne 21, 3) := by decide +kernel
theorem d11_36 : decode jdk_42_method_66_code 36 = .ok (.aload_n 0, 1) := by decide +kernel
theorem d11_37 : decode jdk_42_method_66_code 37 = .ok (.getfield 9, 3) := by decide +kernel
theorem d11_40 : decode jdk_42_method_66_code 40 = .ok (.aload_n 2, 1) := by decide +kernel
theorem d11_41 : decode jdk_42_method_66_code 41 = .ok (.getfield 9, 3) := by decide +kernel
theorem d11_44 : decode jdk_42_method_66_code 44 = .ok (.invokestatic 541, 3) := by decide +kernel
theorem d11_47 : decode jdk_42_method_66_code 47 = .ok (.ifCond .eq 7, 3) := by decide +kernel
theorem d11_50 : decode jdk_42_method_66_code 50 = .ok (.iconst 1, 1) := by decide +kernel
theorem d11_51 : decode jdk_42_method_66_code 51 = .ok (.goto 4, 3) := by decide +kernel
theorem d11_54 : decode jdk_42_method_66_code 54 = .ok (.iconst 0, 1) := by decide +kernel
theorem d11_55 : decode jdk_42_method_66_code 55 = .ok (.ireturn, 1) := by decide +kernel
theorem d12_0 : decode jdk_43_method_13_code 0 = .ok (.aload_n 0, 1) := by decide +kernel
theorem d12_1 : decode jdk_43_method_13_code 1 = .ok (.arraylength, 1) := by decide +kernel
theorem d12_2 : decode jdk_43_method_13_code 2 = .ok (.aload_n 1, 1) := by decide +kernel
theorem d12_3 : decode jdk_43_method_13_code 3 = .ok (.arraylength, 1) := by decide +kernel
theorem d12_4 : decode jdk_43_method_13_code 4 = .ok (.if_icmp .ne 30, 3) := by decide +kernel
theorem d12_7 : decode jdk_43_method_13_code 7 = .ok (.iconst 0, 1) := by decide +kernel
theorem d12_8 : decode jdk_43_method_13_code 8 = .ok (.istore_n 2, 1) := by decide +kernel
theorem d12_9 : decode jdk_43_method_13_code 9 = .ok (.iload_n 2, 1) := by decide +kernel
theorem d12_10 : decode jdk_43_method_13_code 10 = .ok (.aload_n 0, 1) := by decide +kernel
theorem d12_11 : decode jdk_43_method_13_code 11 = .ok (.arraylength, 1) := by decide +kernel
theorem d12_12 : decode jdk_43_method_13_code 12 = .ok (.if_icmp .ge 20, 3) := by decide +kernel
theorem d12_15 : decode jdk_43_method_13_code 15 = .ok (.aload_n 0, 1) := by decide +kernel
theorem d12_16 : decode jdk_43_method_13_code 16 = .ok (.iload_n 2, 1) := by decide +kernel
theorem d12_17 : decode jdk_43_method_13_code 17 = .ok (.baload, 1) := by decide +kernel
theorem d12_18 : decode jdk_43_method_13_code 18 = .ok (.aload_n 1, 1) := by decide +kernel
theorem d12_19 : decode jdk_43_method_13_code 19 = .ok (.iload_n 2, 1) := by decide +kernel
theorem d12_20 : decode jdk_43_method_13_code 20 = .ok (.baload, 1) := by decide +kernel
theorem d12_21 : decode jdk_43_method_13_code 21 = .ok (.if_icmp .eq 5, 3) := by decide +kernel
theorem d12_24 : decode jdk_43_method_13_code 24 = .ok (.iconst 0, 1) := by decide +kernel
theorem d12_25 : decode jdk_43_method_13_code 25 = .ok (.ireturn, 1) := by decide +kernel
theorem d12_26 : decode jdk_43_method_13_code 26 = .ok (.iinc 2 1, 3) := by decide +kernel
theorem d12_29 : decode jdk_43_method_13_code 29 = .ok (.goto (-20), 3) := by decide +kernel
theorem d12_32 : decode jdk_43_method_13_code 32 = .ok (.iconst 1, 1) := by decide +kernel
theorem d12_33 : decode jdk_43_method_13_code 33 = .ok (.ireturn, 1) := by decide +kernel
theorem d12_34 : decode jdk_43_method_13_code 34 = .ok (.iconst 0, 1) := by decide +kernel
theorem d12_35 : decode jdk_43_method_13_code 35 = .ok (.ireturn, 1) := by decide +kernel
theorem pd0 : parseMethodDescriptor "([CI[BII)I" = some ⟨[(.array .char), .int, (.array .byte), .int, .int], some .int⟩ := by decide +kernel
theorem pd1 : parseMethodDescriptor "([CII)[B" = some ⟨[(.array .char), .int, .int], some (.array .byte)⟩ := by decide +kernel
theorem pd2 : parseMethodDescriptor "([BI)B" = some ⟨[(.array .byte), .int], some .byte⟩ := by decide +kernel
theorem pd3 : parseMethodDescriptor "([CIILjava/lang/Void;)V" = some ⟨[(.array .char), .int, .int, (.object "java/lang/Void")], none⟩ := by decide +kernel
theorem pd4 : parseMethodDescriptor "([B[B)Z" = some ⟨[(.array .byte), (.array .byte)], some .boolean⟩ := by decide +kernel
theorem pd5 : parseMethodDescriptor "()V" = some ⟨[], none⟩ := by decide +kernel
theorem pd6 : parseMethodDescriptor "(Ljava/lang/Object;Ljava/lang/String;)Ljava/lang/Object;" = some ⟨[(.object "java/lang/Object"), (.object "java/lang/String")], some (.object "java/lang/Object")⟩ := by decide +kernel
theorem pd7 : parseMethodDescriptor "(Ljava/lang/Object;)Z" = some ⟨[(.object "java/lang/Object")], some .boolean⟩ := by decide +kernel
theorem pd8 : parseMethodDescriptor "([C)V" = some ⟨[(.array .char)], none⟩ := by decide +kernel
theorem pd9 : parseMethodDescriptor "(Ljava/lang/String;Ljava/lang/String;)V" = some ⟨[(.object "java/lang/String"), (.object "java/lang/String")], none⟩ := by decide +kernel
theorem pd10 : parseMethodDescriptor "()Z" = some ⟨[], some .boolean⟩ := by decide +kernel
abbrev o_String (a : Addr) (v0 v1 : Value) : Ent := (a, .inl ("java/lang/String", [("java/lang/String", "coder", "B", v0), ("java/lang/String", "value", "[B", v1)]))
theorem Ly_o_String {g : GG} (W : GW g) : Lays g.Z g.a0 "java/lang/String" [("java/lang/String", "coder", "B", (.int (0 : Int32))), ("java/lang/String", "value", "[B", .null)] := by
  refine ⟨by decide, fun f hf => ?_⟩
  simp only [List.mem_cons, List.not_mem_nil, or_false] at hf
  rcases hf with rfl | rfl
  · exact ⟨Or.inr (W27 W), .byte, by decide⟩
  · exact ⟨Or.inr (W29 W), (.array .byte), by decide⟩
abbrev o_Move (a : Addr) (v0 v1 : Value) : Ent := (a, .inl ("com/example/keys_to_peers/keystopeers/move/Move", [("com/example/keys_to_peers/keystopeers/move/Move", "from", "Ljava/lang/String;", v0), ("com/example/keys_to_peers/keystopeers/move/Move", "to", "Ljava/lang/String;", v1)]))
theorem Ly_o_Move {g : GG} (W : GW g) : Lays g.Z g.a0 "com/example/keys_to_peers/keystopeers/move/Move" [("com/example/keys_to_peers/keystopeers/move/Move", "from", "Ljava/lang/String;", .null), ("com/example/keys_to_peers/keystopeers/move/Move", "to", "Ljava/lang/String;", .null)] := by
  refine ⟨by decide, fun f hf => ?_⟩
  simp only [List.mem_cons, List.not_mem_nil, or_false] at hf
  rcases hf with rfl | rfl
  · exact ⟨Or.inr (W52 W), (.object "java/lang/String"), by decide⟩
  · exact ⟨Or.inr (W54 W), (.object "java/lang/String"), by decide⟩
theorem strW {g : GG} (W : GW g) : ∀ a ∈ Bundle.stringAtoms, a.before g.a0 g.Z = true := by
  intro a ha
  simp only [Bundle.stringAtoms, List.mem_cons, List.not_mem_nil, or_false] at ha
  rcases ha with rfl | rfl | rfl | rfl | rfl | rfl | rfl
  · exact W3 W
  · exact W2 W
  · exact W19 W
  · exact W29 W
  · exact W27 W
  · exact W31 W
  · exact W32 W
theorem inEL {g : GG} (W : GW g) {p : String × Nat} (h : p ∈ consts_1) : p ∈ g.EL := by
  show p ∈ g.2.2.2
  rw [W.2.2.2.2]
  exact h
/-! String's making: plain facts -/
abbrev bV (x : Int32) : Value := .int x.toInt8.toInt32
def bpre (cs : List Int32) (i : Nat) : List Value := (cs.take i).map bV ++ List.replicate (cs.length - i) (.int 0)
theorem ch_ch (x : Int32) : nar .char x.toUInt32.toUInt16.toUInt32.toInt32 = x.toUInt32.toUInt16.toUInt32.toInt32 := by simp only [nar, UInt32.toUInt32_toInt32, UInt16.toUInt16_toUInt32]
theorem by_by (x : Int32) : nar .byte x.toInt8.toInt32 = x.toInt8.toInt32 := by simp [nar]
theorem bpre0 (cs : List Int32) : bpre cs 0 = List.replicate cs.length (.int 0) := by simp [bpre]
theorem bpreN (cs : List Int32) : bpre cs cs.length = cs.map bV := by simp [bpre]
theorem bpre_len {cs : List Int32} {i : Nat} (h : i ≤ cs.length) : (bpre cs i).length = cs.length := by simp [bpre]; omega
theorem bpre_set {cs : List Int32} {i : Nat} {x : Int32} (h : cs[i]? = some x) : (bpre cs i).set i (bV x) = bpre cs (i + 1) := by
  obtain ⟨hl, rfl⟩ := List.getElem?_eq_some_iff.mp h
  have e : cs.length - i = (cs.length - (i + 1)) + 1 := by omega
  have ht : ((cs.take i).map bV).length = i := by simp; omega
  unfold bpre
  rw [e, List.replicate_succ, List.set_append_right _ _ (by omega), ht, Nat.sub_self, List.set_cons_zero, List.take_succ_eq_append_getElem hl, List.map_append, List.append_assoc]
  rfl
theorem n31 {n : Nat} (h : n < 2147483648) : ¬ Int32.ofNat n < 0 := Int32.ofNat_not_neg (by omega)
theorem n31c {n : Nat} (h : n < 2147483648) : (Int32.ofNat n).toNatClampNeg = n := Jvm.Free.XT.n32 (by omega)
theorem ltN {i n : Nat} (h : i < n) (hn : n < 2147483648) : Int32.ofNat i < Int32.ofNat n := by
  rw [Int32.lt_iff_toInt_lt, Int32.toInt_ofNat_small (by omega), Int32.toInt_ofNat_small (by omega)]; omega
theorem neN {n : Nat} (h : 0 < n) (hn : n < 2147483648) : ¬ Int32.ofNat n = 0 := fun e => by
  have := congrArg Int32.toInt e
  rw [Int32.toInt_ofNat_small (by omega)] at this
  have h0 : (0 : Int32).toInt = 0 := rfl
  omega
theorem injN {n k : Nat} (hn : n < 2147483648) (hk : k < 2147483648) (e : Int32.ofNat n = Int32.ofNat k) : n = k := by
  have := congrArg Int32.toInt e
  rw [Int32.toInt_ofNat_small (by omega), Int32.toInt_ofNat_small (by omega)] at this
  omega
theorem sucN (i : Nat) : Int32.ofNat i + (1 : Int32) = Int32.ofNat (i + 1) := by simp
theorem cdr0 (x : Int32) : (((x - x).toUInt32 >>> ((31 : Int32) &&& 31).toUInt32).toInt32).toInt8.toInt32 = 0 := by
  rw [Int32.sub_self]; decide

theorem le255 (x : Int32) : ¬ (255 : Int32) < (x &&& (255 : Int32)).toUInt32.toUInt16.toUInt32.toInt32 := by
  rw [i2c_mask]
  have h := c_mask x 255 8 (by decide) rfl
  rw [Int32.lt_iff_toInt_lt, h, show (255 : Int32).toInt = 255 from rfl]
  simp only [Nat.reducePow, Int.cast_ofNat_Int]
  omega

theorem compact {g : GG} (W : GW g) : ∃ z : Int32, Sta g.Z g.Z.heap "java/lang/String" "COMPACT_STRINGS" "Z" (.int z) ∧ ¬ z = 0 := by
  obtain ⟨z, e⟩ := is_v (Cond.before_iff.mp (W.2.2.1 _ (List.mem_of_getElem? (i := 1) rfl)))
  refine ⟨z, Sta.start e (Or.inl (W.2.2.1 _ (List.mem_of_getElem? (i := 0) rfl))), fun q => ?_⟩
  have n := not_v (Cond.before_iff.mp (W.2.2.1 _ (List.mem_of_getElem? (i := 2) rfl)))
  rw [eq_i e (Term.int_eval 0) (by rw [q])] at n
  cases n

theorem ef_c5 (c d : Addr) (n : Nat) (m : MethodId) : entryFrame m #[(.ref c), (.int (0 : Int32)), (.ref d), (.int (0 : Int32)), (.int (Int32.ofNat n))] 7 = mkF m 0 #[.val (.ref c), .val (.int (0 : Int32)), .val (.ref d), .val (.int (0 : Int32)), .val (.int (Int32.ofNat n)), .unset, .unset] [] := by first | (simp [entryFrame, mkF, argsToLocals, Value.category]; done) | rfl
abbrev D5 : DD := (⟨"java/lang/StringUTF16", "compress", "([CI[BII)I"⟩, jdk_52_method_21_code, 7, (some .int), { frames := 0, cells := 0, slots := 0, locals := 0 })
theorem lp_c5 {g : GG} (W : GW g) (c : Addr) (nm : String) (cs : List Int32) (hcs : ∀ x ∈ cs, ¬ (255 : Int32) < x) (hn : cs.length ≤ 8) {H0 : List Ent} {Lt : List SE} {M : MM} {d : Addr} : ∀ (k i : Nat), i + k = cs.length → ∀ (o : Slot), (o = .unset ∨ ∃ w, o = .val w ∧ w.category = 1) → ∀ {T : State}, RH g D5 M T ((d, .inr (.byte, "[B", bpre cs i)) :: (c, .inr (.char, nm, cs.map Value.int)) :: H0) Lt 0 0 →
    Fn g D5 M (fun v vm h => v = some (.int (Int32.ofNat cs.length)) ∧ Hp g vm h ((d, .inr (.byte, "[B", cs.map bV)) :: (c, .inr (.char, nm, cs.map Value.int)) :: H0) Lt) (T.setTop (mkF M.m 3 #[.val (.ref c), .val (.int (Int32.ofNat i)), .val (.ref d), .val (.int (Int32.ofNat i)), .val (.int (Int32.ofNat cs.length)), .val (.int (Int32.ofNat i)), o] [])) := by
  intro k
  induction k with
  | zero =>
    intro i hi o ho T B
    have hi' : i = cs.length := by omega
    refine p_iload B d5_3 (pc' := 5) rfl rfl ?_
    refine p_iload B d5_5 (pc' := 7) rfl rfl ?_
    refine b_icT B d5_7 (pc' := 44) (by subst hi'; exact Int32.lt_irrefl) (by decide) (by decide) ?_
    refine p_iload B d5_44 (pc' := 46) rfl rfl ?_
    exact r_reti B d5_46 rfl (by simp) rfl (by decide) (by decide) (fun vm h P => ⟨rfl, by subst hi'; rw [← bpreN cs]; exact P⟩)
  | succ k ih =>
    intro i hi o ho T B
    have hlt : i < cs.length := by omega
    obtain ⟨x, hx⟩ : ∃ x, cs[i]? = some x := ⟨_, List.getElem?_eq_getElem hlt⟩
    have hx2 : (cs.map Value.int)[i]? = some (.int x) := by rw [List.getElem?_map, hx]; rfl
    refine p_iload B d5_3 (pc' := 5) rfl rfl ?_
    refine p_iload B d5_5 (pc' := 7) rfl rfl ?_
    refine b_icF B d5_7 (pc' := 10) rfl (ltN hlt (by omega)) ?_
    refine p_aloadN B d5_10 (pc' := 11) rfl rfl rfl ?_
    refine p_iloadN B d5_11 (pc' := 12) rfl rfl ?_
    refine r_aget B d5_12 rfl (pc' := 13) rfl (aH (i := 1) rfl) (k := i) rfl hx2 ?_
    refine p_istore B d5_13 (pc' := 15) rfl (Ls' := #[.val (.ref c), .val (.int (Int32.ofNat i)), .val (.ref d), .val (.int (Int32.ofNat i)), .val (.int (Int32.ofNat cs.length)), .val (.int (Int32.ofNat i)), .val (.int x)]) (XS.store1 (o := o) rfl ho rfl) ?_
    refine p_iload B d5_15 (pc' := 17) rfl rfl ?_
    refine p_sipush B d5_17 (pc' := 20) rfl (v := (255 : Int32)) (by decide) ?_
    refine b_icT B d5_20 (pc' := 26) (hcs x (List.mem_of_getElem? hx)) (by decide) (by decide) ?_
    refine p_aloadN B d5_26 (pc' := 27) rfl rfl rfl ?_
    refine p_iloadN B d5_27 (pc' := 28) rfl rfl ?_
    refine p_iload B d5_28 (pc' := 30) rfl rfl ?_
    refine p_i2b B d5_30 (pc' := 31) rfl ?_
    refine r_bastore B d5_31 (pc' := 32) rfl (i := 0) rfl (n31 (by omega)) (k := i) (n31c (by omega)) (by rw [bpre_len (by omega)]; exact hlt) (by_by x) (H' := ((d, .inr (.byte, "[B", bpre cs (i + 1))) :: (c, .inr (.char, nm, cs.map Value.int)) :: H0)) (by rw [List.set_cons_zero, bpre_set hx]) ?_
    intro T2 B2
    refine p_iinc B2 d5_32 (pc' := 35) rfl (v := (1 : Int32)) (by decide) rfl (z := ((Int32.ofNat i) + (1 : Int32))) rfl (Ls' := #[.val (.ref c), .val (.int ((Int32.ofNat i) + (1 : Int32))), .val (.ref d), .val (.int (Int32.ofNat i)), .val (.int (Int32.ofNat cs.length)), .val (.int (Int32.ofNat i)), .val (.int x)]) rfl ?_
    refine p_iinc B2 d5_35 (pc' := 38) rfl (v := (1 : Int32)) (by decide) rfl (z := ((Int32.ofNat i) + (1 : Int32))) rfl (Ls' := #[.val (.ref c), .val (.int ((Int32.ofNat i) + (1 : Int32))), .val (.ref d), .val (.int ((Int32.ofNat i) + (1 : Int32))), .val (.int (Int32.ofNat cs.length)), .val (.int (Int32.ofNat i)), .val (.int x)]) rfl ?_
    refine p_iinc B2 d5_38 (pc' := 41) rfl (v := (1 : Int32)) (by decide) rfl (z := ((Int32.ofNat i) + (1 : Int32))) rfl (Ls' := #[.val (.ref c), .val (.int ((Int32.ofNat i) + (1 : Int32))), .val (.ref d), .val (.int ((Int32.ofNat i) + (1 : Int32))), .val (.int (Int32.ofNat cs.length)), .val (.int ((Int32.ofNat i) + (1 : Int32))), .val (.int x)]) rfl ?_
    refine b_goto B2 d5_41 (pc' := 3) (by decide) (by decide) ?_
    rw [sucN i]
    exact ih (i + 1) (by omega) _ (Or.inr ⟨_, rfl, rfl⟩) B2
theorem k_c5 {g : GG} (W : GW g) (c : Addr) (nm : String) (cs : List Int32) (hcs : ∀ x ∈ cs, ¬ (255 : Int32) < x) (hn : cs.length ≤ 8) (d : Addr) (H0 : List Ent) (Lt : List SE) : Ct g D5 #[.ref c, .int (0 : Int32), .ref d, .int (0 : Int32), .int (Int32.ofNat cs.length)] ((d, .inr (.byte, "[B", bpre cs 0)) :: (c, .inr (.char, nm, cs.map Value.int)) :: H0) Lt (fun v vm h => v = some (.int (Int32.ofNat cs.length)) ∧ Hp g vm h ((d, .inr (.byte, "[B", cs.map bV)) :: (c, .inr (.char, nm, cs.map Value.int)) :: H0) Lt) := by
  refine CtW.body W (by decide +kernel) (ef_c5 c d cs.length) ?_
  intro M T B
  refine p_iconst B d5_0 (pc' := 1) rfl (v := (0 : Int32)) (by decide) ?_
  refine p_istore B d5_1 (pc' := 3) rfl (Ls' := #[.val (.ref c), .val (.int (0 : Int32)), .val (.ref d), .val (.int (0 : Int32)), .val (.int (Int32.ofNat cs.length)), .val (.int (0 : Int32)), .unset]) rfl ?_
  exact lp_c5 W c nm cs hcs hn cs.length 0 (by omega) _ (Or.inl rfl) B
theorem ef_cf (d : Addr) (n : Nat) (m : MethodId) : entryFrame m #[(.ref d), (.int (Int32.ofNat n))] 2 = mkF m 0 #[.val (.ref d), .val (.int (Int32.ofNat n))] [] := by first | (simp [entryFrame, mkF, argsToLocals, Value.category]; done) | rfl
abbrev D6 : DD := (⟨"java/lang/StringUTF16", "coderFromArrayLen", "([BI)B"⟩, jdk_52_method_15_code, 2, (some .byte), { frames := 0, cells := 0, slots := 0, locals := 0 })
theorem k_cf {g : GG} (W : GW g) (d : Addr) (nm : String) (vs : List Value) (n : Nat) (hn : vs.length = n) (H0 : List Ent) (Lt : List SE) : Ct g D6 #[.ref d, .int (Int32.ofNat n)] ((d, .inr (.byte, nm, vs)) :: H0) Lt (fun v vm h => v = some (.int (0 : Int32)) ∧ Hp g vm h ((d, .inr (.byte, nm, vs)) :: H0) Lt) := by
  subst hn
  refine CtW.body W (by decide +kernel) (ef_cf d vs.length) ?_
  intro M T B
  refine p_iloadN B d6_0 (pc' := 1) rfl rfl ?_
  refine p_aloadN B d6_1 (pc' := 2) rfl rfl rfl ?_
  refine r_alen B d6_2 (pc' := 3) rfl (aH (i := 0) rfl) (z := (Int32.ofNat vs.length)) rfl ?_
  refine p_isub B d6_3 (pc' := 4) rfl rfl ?_
  refine p_bipush B d6_4 (pc' := 6) rfl (v := (31 : Int32)) (by decide) ?_
  refine p_iushr B d6_6 (pc' := 7) rfl rfl ?_
  refine p_i2b B d6_7 (pc' := 8) rfl ?_
  rw [cdr0]
  exact r_reti B d6_8 rfl (by simp) rfl (by decide) (by decide) (fun vm h P => ⟨rfl, P⟩)
theorem ef_c3 (c : Addr) (n : Nat) (m : MethodId) : entryFrame m #[(.ref c), (.int (0 : Int32)), (.int (Int32.ofNat n))] 6 = mkF m 0 #[.val (.ref c), .val (.int (0 : Int32)), .val (.int (Int32.ofNat n)), .unset, .unset, .unset] [] := by first | (simp [entryFrame, mkF, argsToLocals, Value.category]; done) | rfl
abbrev D4 : DD := (⟨"java/lang/StringUTF16", "compress", "([CII)[B"⟩, jdk_52_method_16_code, 6, (some (.array .byte)), { frames := 1, cells := 1, slots := 8, locals := 18 })
theorem k_c3 {g : GG} (W : GW g) (c : Addr) (nm : String) (cs : List Int32) (hcs : ∀ x ∈ cs, ¬ (255 : Int32) < x) (hn : cs.length ≤ 8) (H0 : List Ent) (Lt : List SE) : Ct g D4 #[.ref c, .int (0 : Int32), .int (Int32.ofNat cs.length)] ((c, .inr (.char, nm, cs.map Value.int)) :: H0) Lt (fun v vm h => ∃ d, v = some (.ref d) ∧ Hp g vm h ((d, .inr (.byte, "[B", cs.map bV)) :: (c, .inr (.char, nm, cs.map Value.int)) :: H0) Lt) := by
  refine CtW.body W (by decide +kernel) (ef_c3 c cs.length) ?_
  intro M T B
  refine p_iloadN B d4_0 (pc' := 1) rfl rfl ?_
  refine r_newp B d4_1 (pc' := 3) rfl (ty := .byte) (W19 B.gw) rfl (n31 (by omega)) (nn := cs.length) (n31c (by omega)) (cap := 8) hn (by decide) (cs' := 1) rfl (ss' := 8) rfl (by decide) (by decide) (ad := "[B") (by decide) (by decide) nofun (vs := bpre cs 0) (bpre0 cs).symm ?_
  intro T1 d B1
  refine p_astoreN B1 d4_3 (pc' := 4) rfl rfl (Ls' := #[.val (.ref c), .val (.int (0 : Int32)), .val (.int (Int32.ofNat cs.length)), .val (.ref d), .unset, .unset]) rfl ?_
  refine p_aloadN B1 d4_4 (pc' := 5) rfl rfl rfl ?_
  refine p_iloadN B1 d4_5 (pc' := 6) rfl rfl ?_
  refine p_aloadN B1 d4_6 (pc' := 7) rfl rfl rfl ?_
  refine p_iconst B1 d4_7 (pc' := 8) rfl (v := (0 : Int32)) (by decide) ?_
  refine p_iloadN B1 d4_8 (pc' := 9) rfl rfl ?_
  refine r_static (D' := D5) B1 d4_9 (pc' := 12) rfl (W20 B1.gw) (W21 B1.gw) (W17 B1.gw) (W22 B1.gw) (by decide) (k_c5 W c nm cs hcs hn d H0 Lt) (argsL := [(.ref c), (.int (0 : Int32)), (.ref d), (.int (0 : Int32)), (.int (Int32.ofNat cs.length))]) (rest := []) rfl pd0 rfl rfl rfl (W := 0) rfl (by decide) (by decide) (cs' := 1) rfl (ss' := 8) rfl (by decide) (by decide) ?_
  intro T1 v2 B3
  replace B3 := Rn.and B3
  obtain ⟨rfl, B3⟩ := B3
  show Fn g D4 M _ (T1.setTop (mkF M.m 12 #[.val (.ref c), .val (.int (0 : Int32)), .val (.int (Int32.ofNat cs.length)), .val (.ref d), .unset, .unset] [(.int (Int32.ofNat cs.length))]))
  refine p_istore B3 d4_12 (pc' := 14) rfl (Ls' := #[.val (.ref c), .val (.int (0 : Int32)), .val (.int (Int32.ofNat cs.length)), .val (.ref d), .val (.int (Int32.ofNat cs.length)), .unset]) rfl ?_
  refine p_iload B3 d4_14 (pc' := 16) rfl rfl ?_
  refine p_iloadN B3 d4_16 (pc' := 17) rfl rfl ?_
  refine b_icT B3 d4_17 (pc' := 57) rfl (by decide) (by decide) ?_
  refine p_aloadN B3 d4_57 (pc' := 58) rfl rfl rfl ?_
  exact r_reta B3 d4_58 rfl rfl rfl (by decide) (by decide) (fun vm h P => ⟨d, rfl, P⟩)
theorem ef_i4 (a c : Addr) (n : Nat) (m : MethodId) : entryFrame m #[(.ref a), (.ref c), (.int (0 : Int32)), (.int (Int32.ofNat n)), .null] 6 = mkF m 0 #[.val (.ref a), .val (.ref c), .val (.int (0 : Int32)), .val (.int (Int32.ofNat n)), .val .null, .unset] [] := by first | (simp [entryFrame, mkF, argsToLocals, Value.category]; done) | rfl
abbrev D2 : DD := (⟨"java/lang/String", "<init>", "([CIILjava/lang/Void;)V"⟩, jdk_42_method_149_code, 6, none, { frames := 2, cells := 4, slots := 8, locals := 35 })
theorem k_i4 {g : GG} (W : GW g) (a : Addr) (c : Addr) (nm : String) (cs : List Int32) (hcs : ∀ x ∈ cs, ¬ (255 : Int32) < x) (hn : cs.length ≤ 8) (H0 : List Ent) (Lt : List SE) : Ct g D2 #[.ref a, .ref c, .int (0 : Int32), .int (Int32.ofNat cs.length), .null] (o_String a (.int (0 : Int32)) .null :: (c, .inr (.char, nm, cs.map Value.int)) :: H0) Lt (fun v vm h => v = none ∧ ∃ d, Hp g vm h ((c, .inr (.char, nm, cs.map Value.int)) :: H0) ((a, d, 0, cs.map bV) :: Lt)) := by
  refine CtW.body W (by decide +kernel) (ef_i4 a c cs.length) ?_
  intro M T B
  refine p_aloadN B d2_0 (pc' := 1) rfl rfl rfl ?_
  refine r_initO B d2_1 (pc' := 4) rfl (W11 B.gw) (W12 B.gw) (W13 B.gw) rfl (by decide) (W := 0) rfl (by decide) ?_
  intro T1 B2
  refine p_iloadN B2 d2_4 (pc' := 5) rfl rfl ?_
  by_cases h0 : 0 < cs.length
  · refine b_ifT B2 d2_5 (pc' := 27) (neN h0 (by omega)) (by decide) (by decide) ?_
    obtain ⟨z, hz, hz0⟩ := compact W
    refine r_gets B2 d2_27 (pc' := 30) rfl (host := "") (Or.inl (W14 B2.gw)) Via.refl (v := (.int z)) hz ?_
    intro T3 B4
    refine b_ifF B4 d2_30 (pc' := 33) rfl hz0 ?_
    refine p_aloadN B4 d2_33 (pc' := 34) rfl rfl rfl ?_
    refine p_iloadN B4 d2_34 (pc' := 35) rfl rfl ?_
    refine p_iloadN B4 d2_35 (pc' := 36) rfl rfl ?_
    have B5 : RH g D2 M T3 ((c, .inr (.char, nm, (cs.map Value.int))) :: o_String a (.int (0 : Int32)) .null :: H0) (Lt) 0 0 := B4.front (i := 1) rfl rfl
    refine r_static (D' := D4) B5 d2_36 (pc' := 39) rfl (W15 B5.gw) (W16 B5.gw) (W17 B5.gw) (W18 B5.gw) (by decide) (k_c3 W c nm cs hcs hn (o_String a (.int (0 : Int32)) .null :: H0) Lt) (argsL := [(.ref c), (.int (0 : Int32)), (.int (Int32.ofNat cs.length))]) (rest := []) rfl pd1 rfl rfl rfl (W := 0) rfl (by decide) (by decide) (cs' := 1) rfl (ss' := 8) rfl (by decide) (by decide) ?_
    intro T6 v7 B8
    replace B8 := Rn.ex B8
    obtain ⟨d, B8⟩ := B8
    replace B8 := Rn.and B8
    obtain ⟨rfl, B8⟩ := B8
    show Fn g D2 M _ (T6.setTop (mkF M.m 39 #[.val (.ref a), .val (.ref c), .val (.int (0 : Int32)), .val (.int (Int32.ofNat cs.length)), .val .null, .unset] [(.ref d)]))
    refine p_astore B8 d2_39 (pc' := 41) rfl rfl (Ls' := #[.val (.ref a), .val (.ref c), .val (.int (0 : Int32)), .val (.int (Int32.ofNat cs.length)), .val .null, .val (.ref d)]) rfl ?_
    refine p_aloadN B8 d2_41 (pc' := 42) rfl rfl rfl ?_
    refine p_aload B8 d2_42 (pc' := 44) rfl rfl rfl ?_
    refine p_iloadN B8 d2_44 (pc' := 45) rfl rfl ?_
    refine r_static (D' := D6) B8 d2_45 (pc' := 48) rfl (W23 B8.gw) (W24 B8.gw) (W17 B8.gw) (W25 B8.gw) (by decide) (k_cf W d "[B" (cs.map bV) cs.length (List.length_map ..) _ Lt) (argsL := [(.ref d), (.int (Int32.ofNat cs.length))]) (rest := [(.ref a)]) rfl pd2 rfl rfl rfl (W := 1) rfl (by decide) (by decide) (cs' := 1) rfl (ss' := 8) rfl (by decide) (by decide) ?_
    intro T9 v10 B11
    replace B11 := Rn.and B11
    obtain ⟨rfl, B11⟩ := B11
    show Fn g D2 M _ (T9.setTop (mkF M.m 48 #[.val (.ref a), .val (.ref c), .val (.int (0 : Int32)), .val (.int (Int32.ofNat cs.length)), .val .null, .val (.ref d)] [(.int (0 : Int32)), (.ref a)]))
    refine r_put B11 d2_48 (pc' := 51) rfl (host := "") (Or.inl (W26 B11.gw)) Via.refl (i := 2) (j := 0) rfl rfl (Or.inr ⟨(W27 B11.gw), rfl, rfl⟩) (W2 B11.gw) (ty := .byte) (by decide) (by decide) (by decide) (H' := ((d, .inr (.byte, "[B", (cs.map bV))) :: (c, .inr (.char, nm, (cs.map Value.int))) :: o_String a (.int (0 : Int32)) .null :: H0)) rfl ?_
    intro T12 B13
    refine p_aloadN B13 d2_51 (pc' := 52) rfl rfl rfl ?_
    refine p_aload B13 d2_52 (pc' := 54) rfl rfl rfl ?_
    refine r_put B13 d2_54 (pc' := 57) rfl (host := "") (Or.inl (W28 B13.gw)) Via.refl (i := 2) (j := 1) rfl rfl (Or.inr ⟨(W29 B13.gw), rfl, rfl⟩) (W2 B13.gw) (ty := (.array .byte)) (by decide) rfl rfl (H' := ((d, .inr (.byte, "[B", (cs.map bV))) :: (c, .inr (.char, nm, (cs.map Value.int))) :: o_String a (.int (0 : Int32)) (.ref d) :: H0)) rfl ?_
    intro T14 B15
    have B16 : RH g D2 M T14 (o_String a (.int (0 : Int32)) (.ref d) :: (d, .inr (.byte, "[B", (cs.map bV))) :: (c, .inr (.char, nm, (cs.map Value.int))) :: H0) (Lt) 1 8 := B15.front (i := 2) rfl rfl
    exact r_ret B16 d2_57 rfl (by decide) (by decide) (fun vm h P => ⟨rfl, d, P.freeze (by simp) (by simp)⟩)
  · have e0 : cs = [] := List.eq_nil_of_length_eq_zero (by omega)
    refine b_ifF B2 d2_5 (pc' := 8) rfl (show Int32.ofNat cs.length = 0 from by rw [e0]; rfl) ?_
    refine p_aloadN B2 d2_8 (pc' := 9) rfl rfl rfl ?_
    refine r_ldc B2 d2_9 (pc' := 11) rfl (W30 B2.gw) (strW B2.gw) (inEL B2.gw (by decide)) (bs := []) ⟨by decide, by decide⟩ (z := (0 : Int32)) (by decide) (by decide) (n := 0) (by decide) (by decide) (cs' := 2) rfl (ss' := 4) rfl (by decide) (by decide) ?_
    intro T17 a19 b20 B18
    refine r_get B18 d2_11 (pc' := 14) rfl (host := "") (Or.inl (W28 B18.gw)) Via.refl (v := (.ref b20)) (sV (List.mem_of_getElem? (i := 0) rfl)) ?_
    intro T21 B22
    refine r_put B22 d2_14 (pc' := 17) rfl (host := "") (Or.inl (W28 B22.gw)) Via.refl (i := 0) (j := 1) rfl rfl (Or.inr ⟨(W29 B22.gw), rfl, rfl⟩) (W2 B22.gw) (ty := (.array .byte)) (by decide) rfl rfl (H' := (o_String a (.int (0 : Int32)) (.ref b20) :: (c, .inr (.char, nm, (cs.map Value.int))) :: H0)) rfl ?_
    intro T23 B24
    refine p_aloadN B24 d2_17 (pc' := 18) rfl rfl rfl ?_
    refine r_ldc B24 d2_18 (pc' := 20) rfl (W30 B24.gw) (strW B24.gw) (inEL B24.gw (by decide)) (bs := []) ⟨by decide, by decide⟩ (z := (0 : Int32)) (by decide) (by decide) (n := 0) (by decide) (by decide) (cs' := 4) rfl (ss' := 8) rfl (by decide) (by decide) ?_
    intro T25 a27 b28 B26
    refine r_get B26 d2_20 (pc' := 23) rfl (host := "") (Or.inl (W26 B26.gw)) Via.refl (v := (.int (0 : Int32))) (sC (List.mem_of_getElem? (i := 0) rfl)) ?_
    intro T29 B30
    refine r_put B30 d2_23 (pc' := 26) rfl (host := "") (Or.inl (W26 B30.gw)) Via.refl (i := 0) (j := 0) rfl rfl (Or.inr ⟨(W27 B30.gw), rfl, rfl⟩) (W2 B30.gw) (ty := .byte) (by decide) (by decide) (by decide) (H' := (o_String a (.int (0 : Int32)) (.ref b20) :: (c, .inr (.char, nm, (cs.map Value.int))) :: H0)) rfl ?_
    intro T31 B32
    exact r_ret B32 d2_26 rfl (by decide) (by decide) (fun vm h P => ⟨rfl, _, by rw [show cs.map bV = [] from by rw [e0]; rfl]; exact ((P.lsub (Lt' := (a19, b20, 0, []) :: Lt) tl1).freezeL (by simp) (by simp) (List.mem_cons_self ..)).lsub tlm⟩)
theorem ef_i1 (a c : Addr) (m : MethodId) : entryFrame m #[(.ref a), (.ref c)] 2 = mkF m 0 #[.val (.ref a), .val (.ref c)] [] := by first | (simp [entryFrame, mkF, argsToLocals, Value.category]; done) | rfl
abbrev D1 : DD := (⟨"java/lang/String", "<init>", "([C)V"⟩, jdk_42_method_3_code, 2, none, { frames := 3, cells := 4, slots := 8, locals := 52 })
theorem k_i1 {g : GG} (W : GW g) (a : Addr) (c : Addr) (nm : String) (cs : List Int32) (hcs : ∀ x ∈ cs, ¬ (255 : Int32) < x) (hn : cs.length ≤ 8) (H0 : List Ent) (Lt : List SE) : Ct g D1 #[.ref a, .ref c] (o_String a (.int (0 : Int32)) .null :: (c, .inr (.char, nm, cs.map Value.int)) :: H0) Lt (fun v vm h => v = none ∧ ∃ d, Hp g vm h ((c, .inr (.char, nm, cs.map Value.int)) :: H0) ((a, d, 0, cs.map bV) :: Lt)) := by
  refine CtW.body W (by decide +kernel) (ef_i1 a c) ?_
  intro M T B
  refine p_aloadN B d1_0 (pc' := 1) rfl rfl rfl ?_
  refine p_aloadN B d1_1 (pc' := 2) rfl rfl rfl ?_
  refine p_iconst B d1_2 (pc' := 3) rfl (v := (0 : Int32)) (by decide) ?_
  refine p_aloadN B d1_3 (pc' := 4) rfl rfl rfl ?_
  refine r_alen B d1_4 (pc' := 5) rfl (aH (i := 1) rfl) (z := Int32.ofNat cs.length) (by rw [List.length_map]) ?_
  refine p_null B d1_5 (pc' := 6) rfl ?_
  refine r_special (D' := D2) B d1_6 (pc' := 9) rfl rfl rfl (W7 B.gw) (W8 B.gw) (W3 B.gw) (W10 B.gw) (by decide) (k_i4 W a c nm cs hcs hn H0 Lt) (a := a) (argsL := [(.ref c), (.int (0 : Int32)), (.int (Int32.ofNat cs.length)), .null]) (rest := []) rfl pd3 rfl rfl rfl (W := 0) rfl (by decide) (by decide) (cs' := 4) rfl (ss' := 8) rfl (by decide) (by decide) ?_
  intro T1 v2 B3
  replace B3 := Rn.and B3
  obtain ⟨rfl, B3⟩ := B3
  replace B3 := Rn.ex B3
  obtain ⟨d, B3⟩ := B3
  show Fn g D1 M _ (T1.setTop (mkF M.m 9 #[.val (.ref a), .val (.ref c)] []))
  exact r_ret B3 d1_9 rfl (by decide) (by decide) (fun vm h P => ⟨rfl, d, P⟩)
theorem fld_one {Z : State} {h : Heap} {a : Addr} {C n d : String} {v w : Value} (F : Fld Z h a C n d v) (G : Fld Z h a C n d w) : v = w := by
  obtain ⟨c1, f1, k1, i1, q1, h1, h2, -, -, -, -, h7⟩ := F
  obtain ⟨c2, f2, k2, i2, q2, g1, g2, -, -, -, -, g7⟩ := G
  cases h1.symm.trans g1
  cases h2.symm.trans g2
  exact Option.some.inj (h7.symm.trans g7)
theorem Ary.one {Z : State} {h : Heap} {a : Addr} {t1 t2 : FieldType} {n1 n2 : String} {vs ws : List Value} (A : Ary Z h a t1 n1 vs) (B : Ary Z h a t2 n2 ws) : vs = ws := by
  obtain ⟨c1, r1, r2, -⟩ := A
  obtain ⟨c2, s1, s2, -⟩ := B
  cases r1.1.symm.trans s1.1
  have e := r2.symm.trans s2
  exact congrArg Array.toList e
theorem str_one {g : GG} {vm : Vm} {h : Heap} {H : List Ent} {Lt : List SE} (P : Hp g vm h H Lt) {a b b' : Addr} {c c' : Int32} {vs ws : List Value} (m1 : (a, b, c, vs) ∈ Lt) (m2 : (a, b', c', ws) ∈ Lt) : vs = ws := by
  have I := P.2.2.1 _ m1
  have J := P.2.2.1 _ m2
  have e : Value.ref b = Value.ref b' := fld_one I.2.1 J.2.1
  cases e
  exact I.2.2.2.one J.2.2.2
theorem map_int_inj {xs ys : List Int32} (h : xs.map Value.int = ys.map Value.int) : xs = ys := List.map_inj_right (fun a b q => by cases q; rfl) |>.mp h
theorem take_same {xs ys : List Int32} {i : Nat} {x : Int32} (h : xs.take i = ys.take i) (hx : xs[i]? = some x) (hy : ys[i]? = some x) : xs.take (i + 1) = ys.take (i + 1) := by
  rw [List.take_add_one, List.take_add_one, h, hx, hy]

theorem ef_le (b b' : Addr) (m : MethodId) : entryFrame m #[(.ref b), (.ref b')] 3 = mkF m 0 #[.val (.ref b), .val (.ref b'), .unset] [] := by first | (simp [entryFrame, mkF, argsToLocals, Value.category]; done) | rfl
abbrev D12 : DD := (⟨"java/lang/StringLatin1", "equals", "([B[B)Z"⟩, jdk_43_method_13_code, 3, (some .boolean), { frames := 0, cells := 0, slots := 0, locals := 0 })
theorem lp_le {g : GG} (W : GW g) {a a' b b' : Addr} {xs ys : List Int32} {H : List Ent} {Lt : List SE} (m1 : (a, b, 0, xs.map Value.int) ∈ Lt) (m2 : (a', b', 0, ys.map Value.int) ∈ Lt) (hx : xs.length < 2147483648) (hy : ys.length < 2147483648) {M : MM} (hl : xs.length = ys.length) : ∀ (k i : Nat), i + k = xs.length → xs.take i = ys.take i → ∀ {T : State}, RH g D12 M T H Lt 0 0 →
    Fn g D12 M (fun v vm h => ∃ z : Int32, v = some (.int z) ∧ (z = 1 ∧ xs = ys ∨ z = 0 ∧ ¬ xs = ys) ∧ Hp g vm h H Lt) (T.setTop (mkF M.m 9 #[.val (.ref b), .val (.ref b'), .val (.int (Int32.ofNat i))] [])) := by
  intro k
  induction k with
  | zero =>
    intro i hi ht T B
    refine p_iloadN B d12_9 (pc' := 10) rfl rfl ?_
    refine p_aloadN B d12_10 (pc' := 11) rfl rfl rfl ?_
    refine r_alen B d12_11 (pc' := 12) rfl (sA m1) (z := Int32.ofNat xs.length) (by rw [List.length_map]) ?_
    have hi' : i = xs.length := by omega
    refine b_icT B d12_12 (pc' := 32) (by subst hi'; exact Int32.lt_irrefl) (by decide) (by decide) ?_
    refine p_iconst B d12_32 (pc' := 33) rfl (v := (1 : Int32)) (by decide) ?_
    exact r_reti B d12_33 rfl (by simp) rfl (by decide) (by decide) (fun vm h P => ⟨_, rfl, Or.inl ⟨rfl, by rw [hi', List.take_length, hl, List.take_length] at ht; exact ht⟩, P⟩)
  | succ k ih =>
    intro i hi ht T B
    refine p_iloadN B d12_9 (pc' := 10) rfl rfl ?_
    refine p_aloadN B d12_10 (pc' := 11) rfl rfl rfl ?_
    refine r_alen B d12_11 (pc' := 12) rfl (sA m1) (z := Int32.ofNat xs.length) (by rw [List.length_map]) ?_
    have hlt : i < xs.length := by omega
    refine b_icF B d12_12 (pc' := 15) rfl (ltN hlt hx) ?_
    obtain ⟨x, ex⟩ : ∃ x, xs[i]? = some x := ⟨_, List.getElem?_eq_getElem hlt⟩
    obtain ⟨y, ey⟩ : ∃ y, ys[i]? = some y := ⟨_, List.getElem?_eq_getElem (by omega)⟩
    refine p_aloadN B d12_15 (pc' := 16) rfl rfl rfl ?_
    refine p_iloadN B d12_16 (pc' := 17) rfl rfl ?_
    refine r_aget B d12_17 rfl (pc' := 18) rfl (sA m1) (k := i) rfl (v := .int x) (by rw [List.getElem?_map, ex]; rfl) ?_
    refine p_aloadN B d12_18 (pc' := 19) rfl rfl rfl ?_
    refine p_iloadN B d12_19 (pc' := 20) rfl rfl ?_
    refine r_aget B d12_20 rfl (pc' := 21) rfl (sA m2) (k := i) rfl (v := .int y) (by rw [List.getElem?_map, ey]; rfl) ?_
    by_cases hxy : x = y
    · refine b_icT B d12_21 (pc' := 26) hxy (by decide) (by decide) ?_
      refine p_iinc B d12_26 (pc' := 29) rfl (v := (1 : Int32)) (by decide) rfl (z := ((Int32.ofNat i) + (1 : Int32))) rfl (Ls' := #[.val (.ref b), .val (.ref b'), .val (.int ((Int32.ofNat i) + (1 : Int32)))]) rfl ?_
      refine b_goto B d12_29 (pc' := 9) (by decide) (by decide) ?_
      subst hxy
      rw [sucN i]
      exact ih (i + 1) (by omega) (take_same ht ex ey) B
    · refine b_icF B d12_21 (pc' := 24) rfl hxy ?_
      refine p_iconst B d12_24 (pc' := 25) rfl (v := (0 : Int32)) (by decide) ?_
      exact r_reti B d12_25 rfl (by simp) rfl (by decide) (by decide) (fun vm h P => ⟨_, rfl, Or.inr ⟨rfl, fun q => hxy (by subst q; exact Option.some.inj (ex.symm.trans ey))⟩, P⟩)
theorem k_le {g : GG} (W : GW g) {a a' b b' : Addr} {xs ys : List Int32} {H : List Ent} {Lt : List SE} (m1 : (a, b, 0, xs.map Value.int) ∈ Lt) (m2 : (a', b', 0, ys.map Value.int) ∈ Lt) (hx : xs.length < 2147483648) (hy : ys.length < 2147483648) : Ct g D12 #[.ref b, .ref b'] H Lt (fun v vm h => ∃ z : Int32, v = some (.int z) ∧ (z = 1 ∧ xs = ys ∨ z = 0 ∧ ¬ xs = ys) ∧ Hp g vm h H Lt) := by
  refine CtW.body W (by decide +kernel) (ef_le b b') ?_
  intro M T B
  refine p_aloadN B d12_0 (pc' := 1) rfl rfl rfl ?_
  refine r_alen B d12_1 (pc' := 2) rfl (sA m1) (z := Int32.ofNat xs.length) (by rw [List.length_map]) ?_
  refine p_aloadN B d12_2 (pc' := 3) rfl rfl rfl ?_
  refine r_alen B d12_3 (pc' := 4) rfl (sA m2) (z := Int32.ofNat ys.length) (by rw [List.length_map]) ?_
  by_cases hn : (Int32.ofNat xs.length) = (Int32.ofNat ys.length)
  · refine b_icF B d12_4 (pc' := 7) rfl hn ?_
    refine p_iconst B d12_7 (pc' := 8) rfl (v := (0 : Int32)) (by decide) ?_
    refine p_istoreN B d12_8 (pc' := 9) rfl (Ls' := #[.val (.ref b), .val (.ref b'), .val (.int (0 : Int32))]) rfl ?_
    exact lp_le W m1 m2 hx hy (injN hx hy hn) xs.length 0 (by omega) rfl B
  · refine b_icT B d12_4 (pc' := 34) hn (by decide) (by decide) ?_
    refine p_iconst B d12_34 (pc' := 35) rfl (v := (0 : Int32)) (by decide) ?_
    exact r_reti B d12_35 rfl (by simp) rfl (by decide) (by decide) (fun vm h P => ⟨_, rfl, Or.inr ⟨rfl, fun q => hn (by rw [q])⟩, P⟩)
theorem ef_se (a a' : Addr) (m : MethodId) : entryFrame m #[(.ref a), (.ref a')] 3 = mkF m 0 #[.val (.ref a), .val (.ref a'), .unset] [] := by first | (simp [entryFrame, mkF, argsToLocals, Value.category]; done) | rfl
abbrev D11 : DD := (⟨"java/lang/String", "equals", "(Ljava/lang/Object;)Z"⟩, jdk_42_method_66_code, 3, (some .boolean), { frames := 1, cells := 0, slots := 0, locals := 14 })
theorem k_se {g : GG} (W : GW g) {a a' b b' : Addr} {xs ys : List Int32} {H : List Ent} {Lt : List SE} (m1 : (a, b, 0, xs.map Value.int) ∈ Lt) (m2 : (a', b', 0, ys.map Value.int) ∈ Lt) (hx : xs.length < 2147483648) (hy : ys.length < 2147483648) : Ct g D11 #[.ref a, .ref a'] H Lt (fun v vm h => ∃ z : Int32, v = some (.int z) ∧ (z = 1 ∧ xs = ys ∨ z = 0 ∧ ¬ xs = ys) ∧ Hp g vm h H Lt) := by
  refine CtW.body W (by decide +kernel) (ef_se a a') ?_
  intro M T B
  refine p_aloadN B d11_0 (pc' := 1) rfl rfl rfl ?_
  refine p_aloadN B d11_1 (pc' := 2) rfl rfl rfl ?_
  by_cases ha : (Value.ref a) = (Value.ref a')
  · refine b_anF B d11_2 (pc' := 5) rfl rfl rfl ha ?_
    refine p_iconst B d11_5 (pc' := 6) rfl (v := (1 : Int32)) (by decide) ?_
    exact r_reti B d11_6 rfl (by simp) rfl (by decide) (by decide) (fun vm h P => ⟨_, rfl, Or.inl ⟨rfl, map_int_inj (str_one P m1 (by cases ha; exact m2))⟩, P⟩)
  · refine b_anT B d11_2 (pc' := 7) rfl rfl ha (by decide) (by decide) ?_
    refine p_aloadN B d11_7 (pc' := 8) rfl rfl rfl ?_
    refine r_inst1 B d11_8 (pc' := 11) rfl (W65 B.gw) (fun vm h E P => Ins.self (sE m2 vm h E P)) ?_
    intro T1 B2
    refine b_ifF B2 d11_11 (pc' := 14) rfl (show ¬ (1 : Int32) = (0 : Int32) from by decide) ?_
    refine p_aloadN B2 d11_14 (pc' := 15) rfl rfl rfl ?_
    refine r_cast B2 d11_15 (pc' := 18) rfl (W65 B2.gw) (fun vm h E P => Ins.self (sE m2 vm h E P)) ?_
    intro T3 B4
    refine p_astoreN B4 d11_18 (pc' := 19) rfl rfl (Ls' := #[.val (.ref a), .val (.ref a'), .val (.ref a')]) rfl ?_
    obtain ⟨z, hz, hz0⟩ := compact W
    refine r_gets B4 d11_19 (pc' := 22) rfl (host := "") (Or.inl (W14 B4.gw)) Via.refl (v := (.int z)) hz ?_
    intro T5 B6
    refine b_ifF B6 d11_22 (pc' := 25) rfl hz0 ?_
    refine p_aloadN B6 d11_25 (pc' := 26) rfl rfl rfl ?_
    refine r_get B6 d11_26 (pc' := 29) rfl (host := "") (Or.inl (W26 B6.gw)) Via.refl (v := (.int (0 : Int32))) (sC m1) ?_
    intro T7 B8
    refine p_aloadN B8 d11_29 (pc' := 30) rfl rfl rfl ?_
    refine r_get B8 d11_30 (pc' := 33) rfl (host := "") (Or.inl (W26 B8.gw)) Via.refl (v := (.int (0 : Int32))) (sC m2) ?_
    intro T9 B10
    refine b_icF B10 d11_33 (pc' := 36) rfl (show (0 : Int32) = (0 : Int32) from by decide) ?_
    refine p_aloadN B10 d11_36 (pc' := 37) rfl rfl rfl ?_
    refine r_get B10 d11_37 (pc' := 40) rfl (host := "") (Or.inl (W28 B10.gw)) Via.refl (v := (.ref b)) (sV m1) ?_
    intro T11 B12
    refine p_aloadN B12 d11_40 (pc' := 41) rfl rfl rfl ?_
    refine r_get B12 d11_41 (pc' := 44) rfl (host := "") (Or.inl (W28 B12.gw)) Via.refl (v := (.ref b')) (sV m2) ?_
    intro T13 B14
    refine r_static (D' := D12) B14 d11_44 (pc' := 47) rfl (W66 B14.gw) (W67 B14.gw) (W68 B14.gw) (W69 B14.gw) (by decide) (k_le W m1 m2 hx hy) (argsL := [(.ref b), (.ref b')]) (rest := []) rfl pd4 rfl rfl rfl (W := 0) rfl (by decide) (by decide) (cs' := 0) rfl (ss' := 0) rfl (by decide) (by decide) ?_
    intro T15 v16 B17
    replace B17 := Rn.ex B17
    obtain ⟨z, B17⟩ := B17
    replace B17 := Rn.and B17
    obtain ⟨rfl, B17⟩ := B17
    replace B17 := Rn.and B17
    obtain ⟨hz, B17⟩ := B17
    show Fn g D11 M _ (T15.setTop (mkF M.m 47 #[.val (.ref a), .val (.ref a'), .val (.ref a')] [(.int z)]))
    rcases hz with ⟨rfl, hz⟩ | ⟨rfl, hz⟩
    · refine b_ifF B17 d11_47 (pc' := 50) rfl (show ¬ (1 : Int32) = (0 : Int32) from by decide) ?_
      refine p_iconst B17 d11_50 (pc' := 51) rfl (v := (1 : Int32)) (by decide) ?_
      refine b_goto B17 d11_51 (pc' := 55) (by decide) (by decide) ?_
      exact r_reti B17 d11_55 rfl (by simp) rfl (by decide) (by decide) (fun vm h P => ⟨_, rfl, Or.inl ⟨rfl, hz⟩, P⟩)
    · refine b_ifT B17 d11_47 (pc' := 54) (show (0 : Int32) = (0 : Int32) from by decide) (by decide) (by decide) ?_
      refine p_iconst B17 d11_54 (pc' := 55) rfl (v := (0 : Int32)) (by decide) ?_
      exact r_reti B17 d11_55 rfl (by simp) rfl (by decide) (by decide) (fun vm h P => ⟨_, rfl, Or.inr ⟨rfl, hz⟩, P⟩)
def isB (x : Int32) : Prop := ∃ u : Int32, x = (u &&& (255 : Int32)).toUInt32.toUInt16.toUInt32.toInt32
theorem isB.le {x : Int32} (h : isB x) : ¬ (255 : Int32) < x := by obtain ⟨u, rfl⟩ := h; exact le255 u
theorem isB.nar {x : Int32} (h : isB x) : Jvm.RoadKit.nar .char x = x := by obtain ⟨u, rfl⟩ := h; exact ch_ch _
theorem isB.inj {x y : Int32} (hx : isB x) (hy : isB y) (h : x.toInt8.toInt32 = y.toInt8.toInt32) : x = y := by
  obtain ⟨u, rfl⟩ := hx
  obtain ⟨v, rfl⟩ := hy
  simp only [i2c_mask] at h ⊢
  have a := c_mask u 255 8 (by decide) rfl
  have b := c_mask v 255 8 (by decide) rfl
  have c := (c_i2b (u &&& (255 : Int32))).1
  have d := (c_i2b (v &&& (255 : Int32))).1
  have e := congrArg Int32.toInt h
  simp only [Nat.reducePow, Int.cast_ofNat_Int] at a b
  rw [← Int32.toInt_inj]
  omega
theorem r3 (x : Int32) : (x &&& (3 : Int32)) % (3 : Int32) = (0 : Int32) ∨ (x &&& (3 : Int32)) % (3 : Int32) = (1 : Int32) ∨ (x &&& (3 : Int32)) % (3 : Int32) = (2 : Int32) := by
  have a := c_mask x 3 2 (by decide) rfl
  have b := c_irem (x &&& (3 : Int32)) (3 : Int32) 3 rfl
  simp only [Nat.reducePow, Int.cast_ofNat_Int] at a
  simp only [← Int32.toInt_inj, show (0 : Int32).toInt = 0 from rfl, show (1 : Int32).toInt = 1 from rfl, show (2 : Int32).toInt = 2 from rfl]
  omega

theorem ef_rec (a : Addr) (m : MethodId) : entryFrame m #[(.ref a)] 1 = mkF m 0 #[.val (.ref a)] [] := by first | (simp [entryFrame, mkF, argsToLocals, Value.category]; done) | rfl
abbrev D8 : DD := (⟨"java/lang/Record", "<init>", "()V"⟩, jdk_30_method_1_code, 1, none, { frames := 1, cells := 0, slots := 0, locals := 12 })
theorem k_rec {g : GG} (W : GW g) (a : Addr) (H : List Ent) (Lt : List SE) : Ct g D8 #[.ref a] H Lt (fun v vm h => v = none ∧ Hp g vm h H Lt) := by
  refine CtW.body W (by decide +kernel) (ef_rec a) ?_
  intro M T B
  refine p_aloadN B d8_0 (pc' := 1) rfl rfl rfl ?_
  refine r_initO B d8_1 (pc' := 4) rfl (W44 B.gw) (W12 B.gw) (W13 B.gw) rfl (by decide) (W := 0) rfl (by decide) ?_
  intro T1 B2
  exact r_ret B2 d8_4 rfl (by decide) (by decide) (fun vm h P => ⟨rfl, P⟩)
theorem ef_rnn (a b : Addr) (m : MethodId) : entryFrame m #[(.ref a), (.ref b)] 2 = mkF m 0 #[.val (.ref a), .val (.ref b)] [] := by first | (simp [entryFrame, mkF, argsToLocals, Value.category]; done) | rfl
abbrev D9 : DD := (⟨"java/util/Objects", "requireNonNull", "(Ljava/lang/Object;Ljava/lang/String;)Ljava/lang/Object;"⟩, jdk_31_method_11_code, 2, (some (.object "java/lang/Object")), { frames := 0, cells := 0, slots := 0, locals := 0 })
theorem k_rnn {g : GG} (W : GW g) (a b : Addr) (H : List Ent) (Lt : List SE) : Ct g D9 #[.ref a, .ref b] H Lt (fun v vm h => v = some (.ref a) ∧ Hp g vm h H Lt) := by
  refine CtW.body W (by decide +kernel) (ef_rnn a b) ?_
  intro M T B
  refine p_aloadN B d9_0 (pc' := 1) rfl rfl rfl ?_
  refine b_nnT B d9_1 (pc' := 13) (by decide) (by decide) ?_
  refine p_aloadN B d9_13 (pc' := 14) rfl rfl rfl ?_
  exact r_reta B d9_14 rfl rfl rfl (by decide) (by decide) (fun vm h P => ⟨rfl, P⟩)
theorem ef_mi (d s1 s2 : Addr) (m : MethodId) : entryFrame m #[(.ref d), (.ref s1), (.ref s2)] 3 = mkF m 0 #[.val (.ref d), .val (.ref s1), .val (.ref s2)] [] := by first | (simp [entryFrame, mkF, argsToLocals, Value.category]; done) | rfl
abbrev D7 : DD := (⟨"com/example/keys_to_peers/keystopeers/move/Move", "<init>", "(Ljava/lang/String;Ljava/lang/String;)V"⟩, prog_19_method_1_code, 3, none, { frames := 2, cells := 4, slots := 32, locals := 24 })
theorem k_mi {g : GG} (W : GW g) (d s1 s2 : Addr) (H : List Ent) (Lt : List SE) : Ct g D7 #[.ref d, .ref s1, .ref s2] (o_Move d .null .null :: H) Lt (fun v vm h => v = none ∧ Hp g vm h (o_Move d (.ref s1) (.ref s2) :: H) Lt) := by
  refine CtW.body W (by decide +kernel) (ef_mi d s1 s2) ?_
  intro M T B
  refine p_aloadN B d7_0 (pc' := 1) rfl rfl rfl ?_
  refine r_special (D' := D8) B d7_1 (pc' := 4) rfl rfl rfl (W39 B.gw) (W40 B.gw) (W42 B.gw) (W43 B.gw) (by decide) (k_rec W d _ _) (a := d) (argsL := []) (rest := []) rfl pd5 rfl rfl rfl (W := 0) rfl (by decide) (by decide) (cs' := 0) rfl (ss' := 0) rfl (by decide) (by decide) ?_
  intro T1 v2 B3
  replace B3 := Rn.and B3
  obtain ⟨rfl, B3⟩ := B3
  show Fn g D7 M _ (T1.setTop (mkF M.m 4 #[.val (.ref d), .val (.ref s1), .val (.ref s2)] []))
  refine p_aloadN B3 d7_4 (pc' := 5) rfl rfl rfl ?_
  refine r_ldc B3 d7_5 (pc' := 7) rfl (W45 B3.gw) (strW B3.gw) (inEL B3.gw (by decide)) (bs := [(.int (102 : Int32)), (.int (114 : Int32)), (.int (111 : Int32)), (.int (109 : Int32))]) ⟨by decide, by decide⟩ (z := (4 : Int32)) (by decide) (by decide) (n := 16) (by decide) (by decide) (cs' := 2) rfl (ss' := 20) rfl (by decide) (by decide) ?_
  intro T4 a6 b7 B5
  refine r_static (D' := D9) B5 d7_7 (pc' := 10) rfl (W46 B5.gw) (W47 B5.gw) (W48 B5.gw) (W49 B5.gw) (by decide) (k_rnn W s1 a6 _ _) (argsL := [(.ref s1), (.ref a6)]) (rest := []) rfl pd6 rfl rfl rfl (W := 0) rfl (by decide) (by decide) (cs' := 2) rfl (ss' := 20) rfl (by decide) (by decide) ?_
  intro T8 v9 B10
  replace B10 := Rn.and B10
  obtain ⟨rfl, B10⟩ := B10
  show Fn g D7 M _ (T8.setTop (mkF M.m 10 #[.val (.ref d), .val (.ref s1), .val (.ref s2)] [(.ref s1)]))
  refine p_pop B10 d7_10 (pc' := 11) rfl rfl ?_
  refine p_aloadN B10 d7_11 (pc' := 12) rfl rfl rfl ?_
  refine r_ldc B10 d7_12 (pc' := 14) rfl (W50 B10.gw) (strW B10.gw) (inEL B10.gw (by decide)) (bs := [(.int (116 : Int32)), (.int (111 : Int32))]) ⟨by decide, by decide⟩ (z := (2 : Int32)) (by decide) (by decide) (n := 8) (by decide) (by decide) (cs' := 4) rfl (ss' := 32) rfl (by decide) (by decide) ?_
  intro T11 a13 b14 B12
  refine r_static (D' := D9) B12 d7_14 (pc' := 17) rfl (W46 B12.gw) (W47 B12.gw) (W48 B12.gw) (W49 B12.gw) (by decide) (k_rnn W s2 a13 _ _) (argsL := [(.ref s2), (.ref a13)]) (rest := []) rfl pd6 rfl rfl rfl (W := 0) rfl (by decide) (by decide) (cs' := 4) rfl (ss' := 32) rfl (by decide) (by decide) ?_
  intro T15 v16 B17
  replace B17 := Rn.and B17
  obtain ⟨rfl, B17⟩ := B17
  show Fn g D7 M _ (T15.setTop (mkF M.m 17 #[.val (.ref d), .val (.ref s1), .val (.ref s2)] [(.ref s2)]))
  refine p_pop B17 d7_17 (pc' := 18) rfl rfl ?_
  refine p_aloadN B17 d7_18 (pc' := 19) rfl rfl rfl ?_
  refine p_aloadN B17 d7_19 (pc' := 20) rfl rfl rfl ?_
  refine r_put B17 d7_20 (pc' := 23) rfl (host := "") (Or.inl (W51 B17.gw)) Via.refl (i := 0) (j := 0) rfl rfl (Or.inr ⟨(W52 B17.gw), rfl, rfl⟩) (W34 B17.gw) (ty := (.object "java/lang/String")) (by decide) rfl rfl (H' := (o_Move d (.ref s1) .null :: H)) rfl ?_
  intro T18 B19
  refine p_aloadN B19 d7_23 (pc' := 24) rfl rfl rfl ?_
  refine p_aloadN B19 d7_24 (pc' := 25) rfl rfl rfl ?_
  refine r_put B19 d7_25 (pc' := 28) rfl (host := "") (Or.inl (W53 B19.gw)) Via.refl (i := 0) (j := 1) rfl rfl (Or.inr ⟨(W54 B19.gw), rfl, rfl⟩) (W34 B19.gw) (ty := (.object "java/lang/String")) (by decide) rfl rfl (H' := (o_Move d (.ref s1) (.ref s2) :: H)) rfl ?_
  intro T20 B21
  exact r_ret B21 d7_28 rfl (by decide) (by decide) (fun vm h P => ⟨rfl, (P.lsub tl2)⟩)
theorem ef_mv (d : Addr) (m : MethodId) : entryFrame m #[(.ref d)] 1 = mkF m 0 #[.val (.ref d)] [] := by first | (simp [entryFrame, mkF, argsToLocals, Value.category]; done) | rfl
abbrev D10 : DD := (⟨"com/example/keys_to_peers/keystopeers/move/Move", "moved", "()Z"⟩, prog_19_method_2_code, 1, (some .boolean), { frames := 2, cells := 0, slots := 0, locals := 28 })
theorem k_mv {g : GG} (W : GW g) (d : Addr) {s1 s2 b1 b2 : Addr} {xs ys : List Int32} {Lt : List SE} (m1 : (s1, b1, 0, xs.map Value.int) ∈ Lt) (m2 : (s2, b2, 0, ys.map Value.int) ∈ Lt) (hx : xs.length < 2147483648) (hy : ys.length < 2147483648) (H : List Ent) : Ct g D10 #[.ref d] (o_Move d (.ref s1) (.ref s2) :: H) Lt (fun v vm h => ∃ z : Int32, v = some (.int z) ∧ (z = 1 ∧ ¬ xs = ys ∨ z = 0 ∧ xs = ys) ∧ Hp g vm h (o_Move d (.ref s1) (.ref s2) :: H) Lt) := by
  refine CtW.body W (by decide +kernel) (ef_mv d) ?_
  intro M T B
  refine p_aloadN B d10_0 (pc' := 1) rfl rfl rfl ?_
  refine r_get B d10_1 (pc' := 4) rfl (host := "") (Or.inl (W51 B.gw)) Via.refl (v := (.ref s1)) (fO (i := 0) (j := 0) rfl rfl) ?_
  intro T1 B2
  refine p_aloadN B2 d10_4 (pc' := 5) rfl rfl rfl ?_
  refine r_get B2 d10_5 (pc' := 8) rfl (host := "") (Or.inl (W53 B2.gw)) Via.refl (v := (.ref s2)) (fO (i := 0) (j := 1) rfl rfl) ?_
  intro T3 B4
  refine r_virtual (D' := D11) B4 d10_8 (pc' := 11) rfl (W60 B4.gw) (W61 B4.gw) (W63 B4.gw) (fun vm0 hZ => notFace_of_selects (args := #[]) (mvT hZ (W63 B4.gw))) (W62 B4.gw) (W3 B4.gw) (W64 B4.gw) (by decide) (sE m1) (k_se W m1 m2 hx hy) (argsL := [(.ref s2)]) (rest := []) rfl pd7 rfl rfl rfl (W := 0) rfl (by decide) (by decide) (cs' := 0) rfl (ss' := 0) rfl (by decide) (by decide) ?_
  intro T5 v6 B7
  replace B7 := Rn.ex B7
  obtain ⟨z, B7⟩ := B7
  replace B7 := Rn.and B7
  obtain ⟨rfl, B7⟩ := B7
  replace B7 := Rn.and B7
  obtain ⟨hz, B7⟩ := B7
  show Fn g D10 M _ (T5.setTop (mkF M.m 11 #[.val (.ref d)] [(.int z)]))
  rcases hz with ⟨rfl, hz⟩ | ⟨rfl, hz⟩
  · refine b_ifT B7 d10_11 (pc' := 18) (show ¬ (1 : Int32) = (0 : Int32) from by decide) (by decide) (by decide) ?_
    refine p_iconst B7 d10_18 (pc' := 19) rfl (v := (0 : Int32)) (by decide) ?_
    exact r_reti B7 d10_19 rfl (by simp) rfl (by decide) (by decide) (fun vm h P => ⟨_, rfl, Or.inr ⟨rfl, hz⟩, P⟩)
  · refine b_ifF B7 d10_11 (pc' := 14) rfl (show (0 : Int32) = (0 : Int32) from by decide) ?_
    refine p_iconst B7 d10_14 (pc' := 15) rfl (v := (1 : Int32)) (by decide) ?_
    refine b_goto B7 d10_15 (pc' := 19) (by decide) (by decide) ?_
    exact r_reti B7 d10_19 rfl (by simp) rfl (by decide) (by decide) (fun vm h P => ⟨_, rfl, Or.inl ⟨rfl, hz⟩, P⟩)
abbrev D0 : DD := (x, code, maxLocals, ret, room_1)
theorem ef_law (p0 p1 p2 : Int32) (m : MethodId) : entryFrame m #[(.int p0), (.int p1), (.int p2)] maxLocals = mkF m 0 #[.val (.int p0), .val (.int p1), .val (.int p2), .unset, .unset, .unset, .unset, .unset, .unset, .unset, .unset, .unset, .unset, .unset, .unset, .unset] [] := by first | (simp [entryFrame, mkF, argsToLocals, Value.category, maxLocals]; done) | rfl
theorem law161 {g : GG} (W : GW g) (p0 p1 p2 la lb sm f0 f1 t0 t1 : Int32) (u1 u2 s1 s2 b1 b2 : Addr) {xs ys : List Int32} (hx : xs.length < 2147483648) (hy : ys.length < 2147483648) (d1 : ¬ la = lb → ¬ xs = ys) (d2 : la = lb → (0 : Int32) < la → ¬ f0 = t0 → ¬ xs = ys) (d3 : la = lb → (1 : Int32) < la → ¬ f1 = t1 → ¬ xs = ys) (d4 : la = lb → (¬ (0 : Int32) < la ∨ f0 = t0) → (¬ (1 : Int32) < la ∨ f1 = t1) → xs = ys) {M : MM} {T : State} (B : RH g D0 M T [] [(s2, b2, 0, ys.map Value.int), (s1, b1, 0, xs.map Value.int)] 12 28) : Fn g D0 M (fun v _ _ => v = some (.int 1)) (T.setTop (mkF M.m 161 #[.val (.int p0), .val (.int p1), .val (.int p2), .val (.int la), .val (.int lb), .val (.int sm), .val (.int f0), .val (.int f1), .val (.int t0), .val (.int t1), .val (.ref u1), .val (.ref u2), .val (.ref s1), .val (.ref s2), .unset, .unset] [])) := by
  refine p_iloadN B at_161 (pc' := 162) rfl rfl ?_
  refine p_iload B at_162 (pc' := 164) rfl rfl ?_
  by_cases g1 : la = lb
  · refine b_icF B at_164 (pc' := 167) rfl g1 ?_
    refine p_iloadN B at_167 (pc' := 168) rfl rfl ?_
    by_cases g2 : (0 : Int32) < la
    · refine b_ifF B at_168 (pc' := 171) rfl g2 ?_
      refine p_iload B at_171 (pc' := 173) rfl rfl ?_
      refine p_iload B at_173 (pc' := 175) rfl rfl ?_
      by_cases g3 : f0 = t0
      · refine b_icF B at_175 (pc' := 178) rfl g3 ?_
        refine p_iloadN B at_178 (pc' := 179) rfl rfl ?_
        refine p_iconst B at_179 (pc' := 180) rfl (v := (1 : Int32)) (by decide) ?_
        by_cases g4 : (1 : Int32) < la
        · refine b_icF B at_180 (pc' := 183) rfl g4 ?_
          refine p_iload B at_183 (pc' := 185) rfl rfl ?_
          refine p_iload B at_185 (pc' := 187) rfl rfl ?_
          by_cases g5 : f1 = t1
          · refine b_icT B at_187 (pc' := 194) g5 (by decide) (by decide) ?_
            refine p_iconst B at_194 (pc' := 195) rfl (v := (0 : Int32)) (by decide) ?_
            refine p_istore B at_195 (pc' := 197) rfl (Ls' := #[.val (.int p0), .val (.int p1), .val (.int p2), .val (.int la), .val (.int lb), .val (.int sm), .val (.int f0), .val (.int f1), .val (.int t0), .val (.int t1), .val (.ref u1), .val (.ref u2), .val (.ref s1), .val (.ref s2), .val (.int (0 : Int32)), .unset]) rfl ?_
            refine r_new B at_197 (pc' := 200) rfl (W33 B.gw) (W34 B.gw) (W35 B.gw) (Ly_o_Move B.gw) (by decide) (cs' := 13) rfl (ss' := 30) rfl (by decide) (by decide) ?_
            intro T1 a3 B2
            refine p_dup B2 at_200 (pc' := 201) rfl rfl ?_
            refine p_aload B2 at_201 (pc' := 203) rfl rfl rfl ?_
            refine p_aload B2 at_203 (pc' := 205) rfl rfl rfl ?_
            refine r_special (D' := D7) B2 at_205 (pc' := 208) rfl rfl rfl (W36 B2.gw) (W37 B2.gw) (W35 B2.gw) (W38 B2.gw) (by decide) (k_mi W a3 s1 s2 [] _) (a := a3) (argsL := [(.ref s1), (.ref s2)]) (rest := [(.ref a3)]) rfl pd9 rfl rfl rfl (W := 1) rfl (by decide) (by decide) (cs' := 17) rfl (ss' := 62) rfl (by decide) (by decide) ?_
            intro T4 v5 B6
            replace B6 := Rn.and B6
            obtain ⟨rfl, B6⟩ := B6
            show Fn g D0 M _ (T4.setTop (mkF M.m 208 #[.val (.int p0), .val (.int p1), .val (.int p2), .val (.int la), .val (.int lb), .val (.int sm), .val (.int f0), .val (.int f1), .val (.int t0), .val (.int t1), .val (.ref u1), .val (.ref u2), .val (.ref s1), .val (.ref s2), .val (.int (0 : Int32)), .unset] [(.ref a3)]))
            refine p_astore B6 at_208 (pc' := 210) rfl rfl (Ls' := #[.val (.int p0), .val (.int p1), .val (.int p2), .val (.int la), .val (.int lb), .val (.int sm), .val (.int f0), .val (.int f1), .val (.int t0), .val (.int t1), .val (.ref u1), .val (.ref u2), .val (.ref s1), .val (.ref s2), .val (.int (0 : Int32)), .val (.ref a3)]) rfl ?_
            refine p_aload B6 at_210 (pc' := 212) rfl rfl rfl ?_
            refine r_virtual (D' := D10) B6 at_212 (pc' := 215) rfl (W55 B6.gw) (W56 B6.gw) (W58 B6.gw) (fun vm0 hZ => notFace_of_selects (args := #[]) (mvT hZ (W58 B6.gw))) (W57 B6.gw) (W35 B6.gw) (W59 B6.gw) (by decide) (fE (i := 0) rfl) (k_mv W a3 (List.mem_of_getElem? (i := 1) rfl) (List.mem_of_getElem? (i := 0) rfl) hx hy []) (argsL := []) (rest := []) rfl pd10 rfl rfl rfl (W := 0) rfl (by decide) (by decide) (cs' := 17) rfl (ss' := 62) rfl (by decide) (by decide) ?_
            intro T7 v8 B9
            replace B9 := Rn.ex B9
            obtain ⟨z, B9⟩ := B9
            replace B9 := Rn.and B9
            obtain ⟨rfl, B9⟩ := B9
            replace B9 := Rn.and B9
            obtain ⟨hz, B9⟩ := B9
            show Fn g D0 M _ (T7.setTop (mkF M.m 215 #[.val (.int p0), .val (.int p1), .val (.int p2), .val (.int la), .val (.int lb), .val (.int sm), .val (.int f0), .val (.int f1), .val (.int t0), .val (.int t1), .val (.ref u1), .val (.ref u2), .val (.ref s1), .val (.ref s2), .val (.int (0 : Int32)), .val (.ref a3)] [(.int z)]))
            have hz1 : z = (0 : Int32) := by
              rcases hz with ⟨q, r⟩ | ⟨q, r⟩
              · exact absurd (d4 g1 (Or.inr g3) (Or.inr g5)) r
              · exact q
            refine p_iload B9 at_215 (pc' := 217) rfl rfl ?_
            refine b_icF B9 at_217 (pc' := 220) rfl hz1 ?_
            refine p_iconst B9 at_220 (pc' := 221) rfl (v := (1 : Int32)) (by decide) ?_
            refine b_goto B9 at_221 (pc' := 225) (by decide) (by decide) ?_
            exact r_reti B9 at_225 rfl (by simp) rfl (by decide) (by decide) (fun vm h P => rfl)
          · refine b_icF B at_187 (pc' := 190) rfl g5 ?_
            refine p_iconst B at_190 (pc' := 191) rfl (v := (1 : Int32)) (by decide) ?_
            refine b_goto B at_191 (pc' := 195) (by decide) (by decide) ?_
            refine p_istore B at_195 (pc' := 197) rfl (Ls' := #[.val (.int p0), .val (.int p1), .val (.int p2), .val (.int la), .val (.int lb), .val (.int sm), .val (.int f0), .val (.int f1), .val (.int t0), .val (.int t1), .val (.ref u1), .val (.ref u2), .val (.ref s1), .val (.ref s2), .val (.int (1 : Int32)), .unset]) rfl ?_
            refine r_new B at_197 (pc' := 200) rfl (W33 B.gw) (W34 B.gw) (W35 B.gw) (Ly_o_Move B.gw) (by decide) (cs' := 13) rfl (ss' := 30) rfl (by decide) (by decide) ?_
            intro T10 a12 B11
            refine p_dup B11 at_200 (pc' := 201) rfl rfl ?_
            refine p_aload B11 at_201 (pc' := 203) rfl rfl rfl ?_
            refine p_aload B11 at_203 (pc' := 205) rfl rfl rfl ?_
            refine r_special (D' := D7) B11 at_205 (pc' := 208) rfl rfl rfl (W36 B11.gw) (W37 B11.gw) (W35 B11.gw) (W38 B11.gw) (by decide) (k_mi W a12 s1 s2 [] _) (a := a12) (argsL := [(.ref s1), (.ref s2)]) (rest := [(.ref a12)]) rfl pd9 rfl rfl rfl (W := 1) rfl (by decide) (by decide) (cs' := 17) rfl (ss' := 62) rfl (by decide) (by decide) ?_
            intro T13 v14 B15
            replace B15 := Rn.and B15
            obtain ⟨rfl, B15⟩ := B15
            show Fn g D0 M _ (T13.setTop (mkF M.m 208 #[.val (.int p0), .val (.int p1), .val (.int p2), .val (.int la), .val (.int lb), .val (.int sm), .val (.int f0), .val (.int f1), .val (.int t0), .val (.int t1), .val (.ref u1), .val (.ref u2), .val (.ref s1), .val (.ref s2), .val (.int (1 : Int32)), .unset] [(.ref a12)]))
            refine p_astore B15 at_208 (pc' := 210) rfl rfl (Ls' := #[.val (.int p0), .val (.int p1), .val (.int p2), .val (.int la), .val (.int lb), .val (.int sm), .val (.int f0), .val (.int f1), .val (.int t0), .val (.int t1), .val (.ref u1), .val (.ref u2), .val (.ref s1), .val (.ref s2), .val (.int (1 : Int32)), .val (.ref a12)]) rfl ?_
            refine p_aload B15 at_210 (pc' := 212) rfl rfl rfl ?_
            refine r_virtual (D' := D10) B15 at_212 (pc' := 215) rfl (W55 B15.gw) (W56 B15.gw) (W58 B15.gw) (fun vm0 hZ => notFace_of_selects (args := #[]) (mvT hZ (W58 B15.gw))) (W57 B15.gw) (W35 B15.gw) (W59 B15.gw) (by decide) (fE (i := 0) rfl) (k_mv W a12 (List.mem_of_getElem? (i := 1) rfl) (List.mem_of_getElem? (i := 0) rfl) hx hy []) (argsL := []) (rest := []) rfl pd10 rfl rfl rfl (W := 0) rfl (by decide) (by decide) (cs' := 17) rfl (ss' := 62) rfl (by decide) (by decide) ?_
            intro T16 v17 B18
            replace B18 := Rn.ex B18
            obtain ⟨z, B18⟩ := B18
            replace B18 := Rn.and B18
            obtain ⟨rfl, B18⟩ := B18
            replace B18 := Rn.and B18
            obtain ⟨hz, B18⟩ := B18
            show Fn g D0 M _ (T16.setTop (mkF M.m 215 #[.val (.int p0), .val (.int p1), .val (.int p2), .val (.int la), .val (.int lb), .val (.int sm), .val (.int f0), .val (.int f1), .val (.int t0), .val (.int t1), .val (.ref u1), .val (.ref u2), .val (.ref s1), .val (.ref s2), .val (.int (1 : Int32)), .val (.ref a12)] [(.int z)]))
            have hz1 : z = (1 : Int32) := by
              rcases hz with ⟨q, r⟩ | ⟨q, r⟩
              · exact q
              · exact absurd r (d3 g1 g4 g5)
            refine p_iload B18 at_215 (pc' := 217) rfl rfl ?_
            refine b_icF B18 at_217 (pc' := 220) rfl hz1 ?_
            refine p_iconst B18 at_220 (pc' := 221) rfl (v := (1 : Int32)) (by decide) ?_
            refine b_goto B18 at_221 (pc' := 225) (by decide) (by decide) ?_
            exact r_reti B18 at_225 rfl (by simp) rfl (by decide) (by decide) (fun vm h P => rfl)
        · refine b_icT B at_180 (pc' := 194) g4 (by decide) (by decide) ?_
          refine p_iconst B at_194 (pc' := 195) rfl (v := (0 : Int32)) (by decide) ?_
          refine p_istore B at_195 (pc' := 197) rfl (Ls' := #[.val (.int p0), .val (.int p1), .val (.int p2), .val (.int la), .val (.int lb), .val (.int sm), .val (.int f0), .val (.int f1), .val (.int t0), .val (.int t1), .val (.ref u1), .val (.ref u2), .val (.ref s1), .val (.ref s2), .val (.int (0 : Int32)), .unset]) rfl ?_
          refine r_new B at_197 (pc' := 200) rfl (W33 B.gw) (W34 B.gw) (W35 B.gw) (Ly_o_Move B.gw) (by decide) (cs' := 13) rfl (ss' := 30) rfl (by decide) (by decide) ?_
          intro T19 a21 B20
          refine p_dup B20 at_200 (pc' := 201) rfl rfl ?_
          refine p_aload B20 at_201 (pc' := 203) rfl rfl rfl ?_
          refine p_aload B20 at_203 (pc' := 205) rfl rfl rfl ?_
          refine r_special (D' := D7) B20 at_205 (pc' := 208) rfl rfl rfl (W36 B20.gw) (W37 B20.gw) (W35 B20.gw) (W38 B20.gw) (by decide) (k_mi W a21 s1 s2 [] _) (a := a21) (argsL := [(.ref s1), (.ref s2)]) (rest := [(.ref a21)]) rfl pd9 rfl rfl rfl (W := 1) rfl (by decide) (by decide) (cs' := 17) rfl (ss' := 62) rfl (by decide) (by decide) ?_
          intro T22 v23 B24
          replace B24 := Rn.and B24
          obtain ⟨rfl, B24⟩ := B24
          show Fn g D0 M _ (T22.setTop (mkF M.m 208 #[.val (.int p0), .val (.int p1), .val (.int p2), .val (.int la), .val (.int lb), .val (.int sm), .val (.int f0), .val (.int f1), .val (.int t0), .val (.int t1), .val (.ref u1), .val (.ref u2), .val (.ref s1), .val (.ref s2), .val (.int (0 : Int32)), .unset] [(.ref a21)]))
          refine p_astore B24 at_208 (pc' := 210) rfl rfl (Ls' := #[.val (.int p0), .val (.int p1), .val (.int p2), .val (.int la), .val (.int lb), .val (.int sm), .val (.int f0), .val (.int f1), .val (.int t0), .val (.int t1), .val (.ref u1), .val (.ref u2), .val (.ref s1), .val (.ref s2), .val (.int (0 : Int32)), .val (.ref a21)]) rfl ?_
          refine p_aload B24 at_210 (pc' := 212) rfl rfl rfl ?_
          refine r_virtual (D' := D10) B24 at_212 (pc' := 215) rfl (W55 B24.gw) (W56 B24.gw) (W58 B24.gw) (fun vm0 hZ => notFace_of_selects (args := #[]) (mvT hZ (W58 B24.gw))) (W57 B24.gw) (W35 B24.gw) (W59 B24.gw) (by decide) (fE (i := 0) rfl) (k_mv W a21 (List.mem_of_getElem? (i := 1) rfl) (List.mem_of_getElem? (i := 0) rfl) hx hy []) (argsL := []) (rest := []) rfl pd10 rfl rfl rfl (W := 0) rfl (by decide) (by decide) (cs' := 17) rfl (ss' := 62) rfl (by decide) (by decide) ?_
          intro T25 v26 B27
          replace B27 := Rn.ex B27
          obtain ⟨z, B27⟩ := B27
          replace B27 := Rn.and B27
          obtain ⟨rfl, B27⟩ := B27
          replace B27 := Rn.and B27
          obtain ⟨hz, B27⟩ := B27
          show Fn g D0 M _ (T25.setTop (mkF M.m 215 #[.val (.int p0), .val (.int p1), .val (.int p2), .val (.int la), .val (.int lb), .val (.int sm), .val (.int f0), .val (.int f1), .val (.int t0), .val (.int t1), .val (.ref u1), .val (.ref u2), .val (.ref s1), .val (.ref s2), .val (.int (0 : Int32)), .val (.ref a21)] [(.int z)]))
          have hz1 : z = (0 : Int32) := by
            rcases hz with ⟨q, r⟩ | ⟨q, r⟩
            · exact absurd (d4 g1 (Or.inr g3) (Or.inl g4)) r
            · exact q
          refine p_iload B27 at_215 (pc' := 217) rfl rfl ?_
          refine b_icF B27 at_217 (pc' := 220) rfl hz1 ?_
          refine p_iconst B27 at_220 (pc' := 221) rfl (v := (1 : Int32)) (by decide) ?_
          refine b_goto B27 at_221 (pc' := 225) (by decide) (by decide) ?_
          exact r_reti B27 at_225 rfl (by simp) rfl (by decide) (by decide) (fun vm h P => rfl)
      · refine b_icT B at_175 (pc' := 190) g3 (by decide) (by decide) ?_
        refine p_iconst B at_190 (pc' := 191) rfl (v := (1 : Int32)) (by decide) ?_
        refine b_goto B at_191 (pc' := 195) (by decide) (by decide) ?_
        refine p_istore B at_195 (pc' := 197) rfl (Ls' := #[.val (.int p0), .val (.int p1), .val (.int p2), .val (.int la), .val (.int lb), .val (.int sm), .val (.int f0), .val (.int f1), .val (.int t0), .val (.int t1), .val (.ref u1), .val (.ref u2), .val (.ref s1), .val (.ref s2), .val (.int (1 : Int32)), .unset]) rfl ?_
        refine r_new B at_197 (pc' := 200) rfl (W33 B.gw) (W34 B.gw) (W35 B.gw) (Ly_o_Move B.gw) (by decide) (cs' := 13) rfl (ss' := 30) rfl (by decide) (by decide) ?_
        intro T28 a30 B29
        refine p_dup B29 at_200 (pc' := 201) rfl rfl ?_
        refine p_aload B29 at_201 (pc' := 203) rfl rfl rfl ?_
        refine p_aload B29 at_203 (pc' := 205) rfl rfl rfl ?_
        refine r_special (D' := D7) B29 at_205 (pc' := 208) rfl rfl rfl (W36 B29.gw) (W37 B29.gw) (W35 B29.gw) (W38 B29.gw) (by decide) (k_mi W a30 s1 s2 [] _) (a := a30) (argsL := [(.ref s1), (.ref s2)]) (rest := [(.ref a30)]) rfl pd9 rfl rfl rfl (W := 1) rfl (by decide) (by decide) (cs' := 17) rfl (ss' := 62) rfl (by decide) (by decide) ?_
        intro T31 v32 B33
        replace B33 := Rn.and B33
        obtain ⟨rfl, B33⟩ := B33
        show Fn g D0 M _ (T31.setTop (mkF M.m 208 #[.val (.int p0), .val (.int p1), .val (.int p2), .val (.int la), .val (.int lb), .val (.int sm), .val (.int f0), .val (.int f1), .val (.int t0), .val (.int t1), .val (.ref u1), .val (.ref u2), .val (.ref s1), .val (.ref s2), .val (.int (1 : Int32)), .unset] [(.ref a30)]))
        refine p_astore B33 at_208 (pc' := 210) rfl rfl (Ls' := #[.val (.int p0), .val (.int p1), .val (.int p2), .val (.int la), .val (.int lb), .val (.int sm), .val (.int f0), .val (.int f1), .val (.int t0), .val (.int t1), .val (.ref u1), .val (.ref u2), .val (.ref s1), .val (.ref s2), .val (.int (1 : Int32)), .val (.ref a30)]) rfl ?_
        refine p_aload B33 at_210 (pc' := 212) rfl rfl rfl ?_
        refine r_virtual (D' := D10) B33 at_212 (pc' := 215) rfl (W55 B33.gw) (W56 B33.gw) (W58 B33.gw) (fun vm0 hZ => notFace_of_selects (args := #[]) (mvT hZ (W58 B33.gw))) (W57 B33.gw) (W35 B33.gw) (W59 B33.gw) (by decide) (fE (i := 0) rfl) (k_mv W a30 (List.mem_of_getElem? (i := 1) rfl) (List.mem_of_getElem? (i := 0) rfl) hx hy []) (argsL := []) (rest := []) rfl pd10 rfl rfl rfl (W := 0) rfl (by decide) (by decide) (cs' := 17) rfl (ss' := 62) rfl (by decide) (by decide) ?_
        intro T34 v35 B36
        replace B36 := Rn.ex B36
        obtain ⟨z, B36⟩ := B36
        replace B36 := Rn.and B36
        obtain ⟨rfl, B36⟩ := B36
        replace B36 := Rn.and B36
        obtain ⟨hz, B36⟩ := B36
        show Fn g D0 M _ (T34.setTop (mkF M.m 215 #[.val (.int p0), .val (.int p1), .val (.int p2), .val (.int la), .val (.int lb), .val (.int sm), .val (.int f0), .val (.int f1), .val (.int t0), .val (.int t1), .val (.ref u1), .val (.ref u2), .val (.ref s1), .val (.ref s2), .val (.int (1 : Int32)), .val (.ref a30)] [(.int z)]))
        have hz1 : z = (1 : Int32) := by
          rcases hz with ⟨q, r⟩ | ⟨q, r⟩
          · exact q
          · exact absurd r (d2 g1 g2 g3)
        refine p_iload B36 at_215 (pc' := 217) rfl rfl ?_
        refine b_icF B36 at_217 (pc' := 220) rfl hz1 ?_
        refine p_iconst B36 at_220 (pc' := 221) rfl (v := (1 : Int32)) (by decide) ?_
        refine b_goto B36 at_221 (pc' := 225) (by decide) (by decide) ?_
        exact r_reti B36 at_225 rfl (by simp) rfl (by decide) (by decide) (fun vm h P => rfl)
    · refine b_ifT B at_168 (pc' := 178) g2 (by decide) (by decide) ?_
      refine p_iloadN B at_178 (pc' := 179) rfl rfl ?_
      refine p_iconst B at_179 (pc' := 180) rfl (v := (1 : Int32)) (by decide) ?_
      by_cases g4 : (1 : Int32) < la
      · refine b_icF B at_180 (pc' := 183) rfl g4 ?_
        refine p_iload B at_183 (pc' := 185) rfl rfl ?_
        refine p_iload B at_185 (pc' := 187) rfl rfl ?_
        by_cases g5 : f1 = t1
        · refine b_icT B at_187 (pc' := 194) g5 (by decide) (by decide) ?_
          refine p_iconst B at_194 (pc' := 195) rfl (v := (0 : Int32)) (by decide) ?_
          refine p_istore B at_195 (pc' := 197) rfl (Ls' := #[.val (.int p0), .val (.int p1), .val (.int p2), .val (.int la), .val (.int lb), .val (.int sm), .val (.int f0), .val (.int f1), .val (.int t0), .val (.int t1), .val (.ref u1), .val (.ref u2), .val (.ref s1), .val (.ref s2), .val (.int (0 : Int32)), .unset]) rfl ?_
          refine r_new B at_197 (pc' := 200) rfl (W33 B.gw) (W34 B.gw) (W35 B.gw) (Ly_o_Move B.gw) (by decide) (cs' := 13) rfl (ss' := 30) rfl (by decide) (by decide) ?_
          intro T37 a39 B38
          refine p_dup B38 at_200 (pc' := 201) rfl rfl ?_
          refine p_aload B38 at_201 (pc' := 203) rfl rfl rfl ?_
          refine p_aload B38 at_203 (pc' := 205) rfl rfl rfl ?_
          refine r_special (D' := D7) B38 at_205 (pc' := 208) rfl rfl rfl (W36 B38.gw) (W37 B38.gw) (W35 B38.gw) (W38 B38.gw) (by decide) (k_mi W a39 s1 s2 [] _) (a := a39) (argsL := [(.ref s1), (.ref s2)]) (rest := [(.ref a39)]) rfl pd9 rfl rfl rfl (W := 1) rfl (by decide) (by decide) (cs' := 17) rfl (ss' := 62) rfl (by decide) (by decide) ?_
          intro T40 v41 B42
          replace B42 := Rn.and B42
          obtain ⟨rfl, B42⟩ := B42
          show Fn g D0 M _ (T40.setTop (mkF M.m 208 #[.val (.int p0), .val (.int p1), .val (.int p2), .val (.int la), .val (.int lb), .val (.int sm), .val (.int f0), .val (.int f1), .val (.int t0), .val (.int t1), .val (.ref u1), .val (.ref u2), .val (.ref s1), .val (.ref s2), .val (.int (0 : Int32)), .unset] [(.ref a39)]))
          refine p_astore B42 at_208 (pc' := 210) rfl rfl (Ls' := #[.val (.int p0), .val (.int p1), .val (.int p2), .val (.int la), .val (.int lb), .val (.int sm), .val (.int f0), .val (.int f1), .val (.int t0), .val (.int t1), .val (.ref u1), .val (.ref u2), .val (.ref s1), .val (.ref s2), .val (.int (0 : Int32)), .val (.ref a39)]) rfl ?_
          refine p_aload B42 at_210 (pc' := 212) rfl rfl rfl ?_
          refine r_virtual (D' := D10) B42 at_212 (pc' := 215) rfl (W55 B42.gw) (W56 B42.gw) (W58 B42.gw) (fun vm0 hZ => notFace_of_selects (args := #[]) (mvT hZ (W58 B42.gw))) (W57 B42.gw) (W35 B42.gw) (W59 B42.gw) (by decide) (fE (i := 0) rfl) (k_mv W a39 (List.mem_of_getElem? (i := 1) rfl) (List.mem_of_getElem? (i := 0) rfl) hx hy []) (argsL := []) (rest := []) rfl pd10 rfl rfl rfl (W := 0) rfl (by decide) (by decide) (cs' := 17) rfl (ss' := 62) rfl (by decide) (by decide) ?_
          intro T43 v44 B45
          replace B45 := Rn.ex B45
          obtain ⟨z, B45⟩ := B45
          replace B45 := Rn.and B45
          obtain ⟨rfl, B45⟩ := B45
          replace B45 := Rn.and B45
          obtain ⟨hz, B45⟩ := B45
          show Fn g D0 M _ (T43.setTop (mkF M.m 215 #[.val (.int p0), .val (.int p1), .val (.int p2), .val (.int la), .val (.int lb), .val (.int sm), .val (.int f0), .val (.int f1), .val (.int t0), .val (.int t1), .val (.ref u1), .val (.ref u2), .val (.ref s1), .val (.ref s2), .val (.int (0 : Int32)), .val (.ref a39)] [(.int z)]))
          have hz1 : z = (0 : Int32) := by
            rcases hz with ⟨q, r⟩ | ⟨q, r⟩
            · exact absurd (d4 g1 (Or.inl g2) (Or.inr g5)) r
            · exact q
          refine p_iload B45 at_215 (pc' := 217) rfl rfl ?_
          refine b_icF B45 at_217 (pc' := 220) rfl hz1 ?_
          refine p_iconst B45 at_220 (pc' := 221) rfl (v := (1 : Int32)) (by decide) ?_
          refine b_goto B45 at_221 (pc' := 225) (by decide) (by decide) ?_
          exact r_reti B45 at_225 rfl (by simp) rfl (by decide) (by decide) (fun vm h P => rfl)
        · refine b_icF B at_187 (pc' := 190) rfl g5 ?_
          refine p_iconst B at_190 (pc' := 191) rfl (v := (1 : Int32)) (by decide) ?_
          refine b_goto B at_191 (pc' := 195) (by decide) (by decide) ?_
          refine p_istore B at_195 (pc' := 197) rfl (Ls' := #[.val (.int p0), .val (.int p1), .val (.int p2), .val (.int la), .val (.int lb), .val (.int sm), .val (.int f0), .val (.int f1), .val (.int t0), .val (.int t1), .val (.ref u1), .val (.ref u2), .val (.ref s1), .val (.ref s2), .val (.int (1 : Int32)), .unset]) rfl ?_
          refine r_new B at_197 (pc' := 200) rfl (W33 B.gw) (W34 B.gw) (W35 B.gw) (Ly_o_Move B.gw) (by decide) (cs' := 13) rfl (ss' := 30) rfl (by decide) (by decide) ?_
          intro T46 a48 B47
          refine p_dup B47 at_200 (pc' := 201) rfl rfl ?_
          refine p_aload B47 at_201 (pc' := 203) rfl rfl rfl ?_
          refine p_aload B47 at_203 (pc' := 205) rfl rfl rfl ?_
          refine r_special (D' := D7) B47 at_205 (pc' := 208) rfl rfl rfl (W36 B47.gw) (W37 B47.gw) (W35 B47.gw) (W38 B47.gw) (by decide) (k_mi W a48 s1 s2 [] _) (a := a48) (argsL := [(.ref s1), (.ref s2)]) (rest := [(.ref a48)]) rfl pd9 rfl rfl rfl (W := 1) rfl (by decide) (by decide) (cs' := 17) rfl (ss' := 62) rfl (by decide) (by decide) ?_
          intro T49 v50 B51
          replace B51 := Rn.and B51
          obtain ⟨rfl, B51⟩ := B51
          show Fn g D0 M _ (T49.setTop (mkF M.m 208 #[.val (.int p0), .val (.int p1), .val (.int p2), .val (.int la), .val (.int lb), .val (.int sm), .val (.int f0), .val (.int f1), .val (.int t0), .val (.int t1), .val (.ref u1), .val (.ref u2), .val (.ref s1), .val (.ref s2), .val (.int (1 : Int32)), .unset] [(.ref a48)]))
          refine p_astore B51 at_208 (pc' := 210) rfl rfl (Ls' := #[.val (.int p0), .val (.int p1), .val (.int p2), .val (.int la), .val (.int lb), .val (.int sm), .val (.int f0), .val (.int f1), .val (.int t0), .val (.int t1), .val (.ref u1), .val (.ref u2), .val (.ref s1), .val (.ref s2), .val (.int (1 : Int32)), .val (.ref a48)]) rfl ?_
          refine p_aload B51 at_210 (pc' := 212) rfl rfl rfl ?_
          refine r_virtual (D' := D10) B51 at_212 (pc' := 215) rfl (W55 B51.gw) (W56 B51.gw) (W58 B51.gw) (fun vm0 hZ => notFace_of_selects (args := #[]) (mvT hZ (W58 B51.gw))) (W57 B51.gw) (W35 B51.gw) (W59 B51.gw) (by decide) (fE (i := 0) rfl) (k_mv W a48 (List.mem_of_getElem? (i := 1) rfl) (List.mem_of_getElem? (i := 0) rfl) hx hy []) (argsL := []) (rest := []) rfl pd10 rfl rfl rfl (W := 0) rfl (by decide) (by decide) (cs' := 17) rfl (ss' := 62) rfl (by decide) (by decide) ?_
          intro T52 v53 B54
          replace B54 := Rn.ex B54
          obtain ⟨z, B54⟩ := B54
          replace B54 := Rn.and B54
          obtain ⟨rfl, B54⟩ := B54
          replace B54 := Rn.and B54
          obtain ⟨hz, B54⟩ := B54
          show Fn g D0 M _ (T52.setTop (mkF M.m 215 #[.val (.int p0), .val (.int p1), .val (.int p2), .val (.int la), .val (.int lb), .val (.int sm), .val (.int f0), .val (.int f1), .val (.int t0), .val (.int t1), .val (.ref u1), .val (.ref u2), .val (.ref s1), .val (.ref s2), .val (.int (1 : Int32)), .val (.ref a48)] [(.int z)]))
          have hz1 : z = (1 : Int32) := by
            rcases hz with ⟨q, r⟩ | ⟨q, r⟩
            · exact q
            · exact absurd r (d3 g1 g4 g5)
          refine p_iload B54 at_215 (pc' := 217) rfl rfl ?_
          refine b_icF B54 at_217 (pc' := 220) rfl hz1 ?_
          refine p_iconst B54 at_220 (pc' := 221) rfl (v := (1 : Int32)) (by decide) ?_
          refine b_goto B54 at_221 (pc' := 225) (by decide) (by decide) ?_
          exact r_reti B54 at_225 rfl (by simp) rfl (by decide) (by decide) (fun vm h P => rfl)
      · refine b_icT B at_180 (pc' := 194) g4 (by decide) (by decide) ?_
        refine p_iconst B at_194 (pc' := 195) rfl (v := (0 : Int32)) (by decide) ?_
        refine p_istore B at_195 (pc' := 197) rfl (Ls' := #[.val (.int p0), .val (.int p1), .val (.int p2), .val (.int la), .val (.int lb), .val (.int sm), .val (.int f0), .val (.int f1), .val (.int t0), .val (.int t1), .val (.ref u1), .val (.ref u2), .val (.ref s1), .val (.ref s2), .val (.int (0 : Int32)), .unset]) rfl ?_
        refine r_new B at_197 (pc' := 200) rfl (W33 B.gw) (W34 B.gw) (W35 B.gw) (Ly_o_Move B.gw) (by decide) (cs' := 13) rfl (ss' := 30) rfl (by decide) (by decide) ?_
        intro T55 a57 B56
        refine p_dup B56 at_200 (pc' := 201) rfl rfl ?_
        refine p_aload B56 at_201 (pc' := 203) rfl rfl rfl ?_
        refine p_aload B56 at_203 (pc' := 205) rfl rfl rfl ?_
        refine r_special (D' := D7) B56 at_205 (pc' := 208) rfl rfl rfl (W36 B56.gw) (W37 B56.gw) (W35 B56.gw) (W38 B56.gw) (by decide) (k_mi W a57 s1 s2 [] _) (a := a57) (argsL := [(.ref s1), (.ref s2)]) (rest := [(.ref a57)]) rfl pd9 rfl rfl rfl (W := 1) rfl (by decide) (by decide) (cs' := 17) rfl (ss' := 62) rfl (by decide) (by decide) ?_
        intro T58 v59 B60
        replace B60 := Rn.and B60
        obtain ⟨rfl, B60⟩ := B60
        show Fn g D0 M _ (T58.setTop (mkF M.m 208 #[.val (.int p0), .val (.int p1), .val (.int p2), .val (.int la), .val (.int lb), .val (.int sm), .val (.int f0), .val (.int f1), .val (.int t0), .val (.int t1), .val (.ref u1), .val (.ref u2), .val (.ref s1), .val (.ref s2), .val (.int (0 : Int32)), .unset] [(.ref a57)]))
        refine p_astore B60 at_208 (pc' := 210) rfl rfl (Ls' := #[.val (.int p0), .val (.int p1), .val (.int p2), .val (.int la), .val (.int lb), .val (.int sm), .val (.int f0), .val (.int f1), .val (.int t0), .val (.int t1), .val (.ref u1), .val (.ref u2), .val (.ref s1), .val (.ref s2), .val (.int (0 : Int32)), .val (.ref a57)]) rfl ?_
        refine p_aload B60 at_210 (pc' := 212) rfl rfl rfl ?_
        refine r_virtual (D' := D10) B60 at_212 (pc' := 215) rfl (W55 B60.gw) (W56 B60.gw) (W58 B60.gw) (fun vm0 hZ => notFace_of_selects (args := #[]) (mvT hZ (W58 B60.gw))) (W57 B60.gw) (W35 B60.gw) (W59 B60.gw) (by decide) (fE (i := 0) rfl) (k_mv W a57 (List.mem_of_getElem? (i := 1) rfl) (List.mem_of_getElem? (i := 0) rfl) hx hy []) (argsL := []) (rest := []) rfl pd10 rfl rfl rfl (W := 0) rfl (by decide) (by decide) (cs' := 17) rfl (ss' := 62) rfl (by decide) (by decide) ?_
        intro T61 v62 B63
        replace B63 := Rn.ex B63
        obtain ⟨z, B63⟩ := B63
        replace B63 := Rn.and B63
        obtain ⟨rfl, B63⟩ := B63
        replace B63 := Rn.and B63
        obtain ⟨hz, B63⟩ := B63
        show Fn g D0 M _ (T61.setTop (mkF M.m 215 #[.val (.int p0), .val (.int p1), .val (.int p2), .val (.int la), .val (.int lb), .val (.int sm), .val (.int f0), .val (.int f1), .val (.int t0), .val (.int t1), .val (.ref u1), .val (.ref u2), .val (.ref s1), .val (.ref s2), .val (.int (0 : Int32)), .val (.ref a57)] [(.int z)]))
        have hz1 : z = (0 : Int32) := by
          rcases hz with ⟨q, r⟩ | ⟨q, r⟩
          · exact absurd (d4 g1 (Or.inl g2) (Or.inl g4)) r
          · exact q
        refine p_iload B63 at_215 (pc' := 217) rfl rfl ?_
        refine b_icF B63 at_217 (pc' := 220) rfl hz1 ?_
        refine p_iconst B63 at_220 (pc' := 221) rfl (v := (1 : Int32)) (by decide) ?_
        refine b_goto B63 at_221 (pc' := 225) (by decide) (by decide) ?_
        exact r_reti B63 at_225 rfl (by simp) rfl (by decide) (by decide) (fun vm h P => rfl)
  · refine b_icT B at_164 (pc' := 190) g1 (by decide) (by decide) ?_
    refine p_iconst B at_190 (pc' := 191) rfl (v := (1 : Int32)) (by decide) ?_
    refine b_goto B at_191 (pc' := 195) (by decide) (by decide) ?_
    refine p_istore B at_195 (pc' := 197) rfl (Ls' := #[.val (.int p0), .val (.int p1), .val (.int p2), .val (.int la), .val (.int lb), .val (.int sm), .val (.int f0), .val (.int f1), .val (.int t0), .val (.int t1), .val (.ref u1), .val (.ref u2), .val (.ref s1), .val (.ref s2), .val (.int (1 : Int32)), .unset]) rfl ?_
    refine r_new B at_197 (pc' := 200) rfl (W33 B.gw) (W34 B.gw) (W35 B.gw) (Ly_o_Move B.gw) (by decide) (cs' := 13) rfl (ss' := 30) rfl (by decide) (by decide) ?_
    intro T64 a66 B65
    refine p_dup B65 at_200 (pc' := 201) rfl rfl ?_
    refine p_aload B65 at_201 (pc' := 203) rfl rfl rfl ?_
    refine p_aload B65 at_203 (pc' := 205) rfl rfl rfl ?_
    refine r_special (D' := D7) B65 at_205 (pc' := 208) rfl rfl rfl (W36 B65.gw) (W37 B65.gw) (W35 B65.gw) (W38 B65.gw) (by decide) (k_mi W a66 s1 s2 [] _) (a := a66) (argsL := [(.ref s1), (.ref s2)]) (rest := [(.ref a66)]) rfl pd9 rfl rfl rfl (W := 1) rfl (by decide) (by decide) (cs' := 17) rfl (ss' := 62) rfl (by decide) (by decide) ?_
    intro T67 v68 B69
    replace B69 := Rn.and B69
    obtain ⟨rfl, B69⟩ := B69
    show Fn g D0 M _ (T67.setTop (mkF M.m 208 #[.val (.int p0), .val (.int p1), .val (.int p2), .val (.int la), .val (.int lb), .val (.int sm), .val (.int f0), .val (.int f1), .val (.int t0), .val (.int t1), .val (.ref u1), .val (.ref u2), .val (.ref s1), .val (.ref s2), .val (.int (1 : Int32)), .unset] [(.ref a66)]))
    refine p_astore B69 at_208 (pc' := 210) rfl rfl (Ls' := #[.val (.int p0), .val (.int p1), .val (.int p2), .val (.int la), .val (.int lb), .val (.int sm), .val (.int f0), .val (.int f1), .val (.int t0), .val (.int t1), .val (.ref u1), .val (.ref u2), .val (.ref s1), .val (.ref s2), .val (.int (1 : Int32)), .val (.ref a66)]) rfl ?_
    refine p_aload B69 at_210 (pc' := 212) rfl rfl rfl ?_
    refine r_virtual (D' := D10) B69 at_212 (pc' := 215) rfl (W55 B69.gw) (W56 B69.gw) (W58 B69.gw) (fun vm0 hZ => notFace_of_selects (args := #[]) (mvT hZ (W58 B69.gw))) (W57 B69.gw) (W35 B69.gw) (W59 B69.gw) (by decide) (fE (i := 0) rfl) (k_mv W a66 (List.mem_of_getElem? (i := 1) rfl) (List.mem_of_getElem? (i := 0) rfl) hx hy []) (argsL := []) (rest := []) rfl pd10 rfl rfl rfl (W := 0) rfl (by decide) (by decide) (cs' := 17) rfl (ss' := 62) rfl (by decide) (by decide) ?_
    intro T70 v71 B72
    replace B72 := Rn.ex B72
    obtain ⟨z, B72⟩ := B72
    replace B72 := Rn.and B72
    obtain ⟨rfl, B72⟩ := B72
    replace B72 := Rn.and B72
    obtain ⟨hz, B72⟩ := B72
    show Fn g D0 M _ (T70.setTop (mkF M.m 215 #[.val (.int p0), .val (.int p1), .val (.int p2), .val (.int la), .val (.int lb), .val (.int sm), .val (.int f0), .val (.int f1), .val (.int t0), .val (.int t1), .val (.ref u1), .val (.ref u2), .val (.ref s1), .val (.ref s2), .val (.int (1 : Int32)), .val (.ref a66)] [(.int z)]))
    have hz1 : z = (1 : Int32) := by
      rcases hz with ⟨q, r⟩ | ⟨q, r⟩
      · exact q
      · exact absurd r (d1 g1)
    refine p_iload B72 at_215 (pc' := 217) rfl rfl ?_
    refine b_icF B72 at_217 (pc' := 220) rfl hz1 ?_
    refine p_iconst B72 at_220 (pc' := 221) rfl (v := (1 : Int32)) (by decide) ?_
    refine b_goto B72 at_221 (pc' := 225) (by decide) (by decide) ?_
    exact r_reti B72 at_225 rfl (by simp) rfl (by decide) (by decide) (fun vm h P => rfl)
theorem law84 {g : GG} (W : GW g) (p0 p1 p2 la lb sm f0 f1 t0 t1 : Int32) (hla : la = (0 : Int32) ∨ la = (1 : Int32) ∨ la = (2 : Int32)) (hlb : lb = (0 : Int32) ∨ lb = (1 : Int32) ∨ lb = (2 : Int32)) (hf0 : isB f0) (hf1 : isB f1) (ht0 : isB t0) (ht1 : isB t1) {M : MM} {T : State} (B : RH g D0 M T [] [] 0 0) : Fn g D0 M (fun v _ _ => v = some (.int 1)) (T.setTop (mkF M.m 84 #[.val (.int p0), .val (.int p1), .val (.int p2), .val (.int la), .val (.int lb), .val (.int sm), .val (.int f0), .val (.int f1), .val (.int t0), .val (.int t1), .unset, .unset, .unset, .unset, .unset, .unset] [])) := by
  rcases hla with rfl | rfl | rfl
  · rcases hlb with rfl | rfl | rfl
    · refine p_iloadN B at_84 (pc' := 85) rfl rfl ?_
      refine r_newp B at_85 (pc' := 87) rfl (ty := .char) (W0 B.gw) rfl (by decide) (nn := 0) (by decide) (cap := 0) (by decide) (by decide) (cs' := 1) rfl (ss' := 0) rfl (by decide) (by decide) (ad := "[C") (by decide) (by decide) nofun (vs := []) rfl ?_
      intro T1 a3 B2
      refine p_astore B2 at_87 (pc' := 89) rfl rfl (Ls' := #[.val (.int p0), .val (.int p1), .val (.int p2), .val (.int (0 : Int32)), .val (.int (0 : Int32)), .val (.int sm), .val (.int f0), .val (.int f1), .val (.int t0), .val (.int t1), .val (.ref a3), .unset, .unset, .unset, .unset, .unset]) rfl ?_
      refine p_iloadN B2 at_89 (pc' := 90) rfl rfl ?_
      refine b_ifT B2 at_90 (pc' := 99) (show ¬ (0 : Int32) < (0 : Int32) from by decide) (by decide) (by decide) ?_
      refine p_iloadN B2 at_99 (pc' := 100) rfl rfl ?_
      refine p_iconst B2 at_100 (pc' := 101) rfl (v := (1 : Int32)) (by decide) ?_
      refine b_icT B2 at_101 (pc' := 110) (show ¬ (1 : Int32) < (0 : Int32) from by decide) (by decide) (by decide) ?_
      refine p_iload B2 at_110 (pc' := 112) rfl rfl ?_
      refine r_newp B2 at_112 (pc' := 114) rfl (ty := .char) (W0 B2.gw) rfl (by decide) (nn := 0) (by decide) (cap := 0) (by decide) (by decide) (cs' := 2) rfl (ss' := 0) rfl (by decide) (by decide) (ad := "[C") (by decide) (by decide) nofun (vs := []) rfl ?_
      intro T4 a6 B5
      refine p_astore B5 at_114 (pc' := 116) rfl rfl (Ls' := #[.val (.int p0), .val (.int p1), .val (.int p2), .val (.int (0 : Int32)), .val (.int (0 : Int32)), .val (.int sm), .val (.int f0), .val (.int f1), .val (.int t0), .val (.int t1), .val (.ref a3), .val (.ref a6), .unset, .unset, .unset, .unset]) rfl ?_
      refine p_iload B5 at_116 (pc' := 118) rfl rfl ?_
      refine b_ifT B5 at_118 (pc' := 127) (show ¬ (0 : Int32) < (0 : Int32) from by decide) (by decide) (by decide) ?_
      refine p_iload B5 at_127 (pc' := 129) rfl rfl ?_
      refine p_iconst B5 at_129 (pc' := 130) rfl (v := (1 : Int32)) (by decide) ?_
      refine b_icT B5 at_130 (pc' := 139) (show ¬ (1 : Int32) < (0 : Int32) from by decide) (by decide) (by decide) ?_
      refine r_new B5 at_139 (pc' := 142) rfl (W1 B5.gw) (W2 B5.gw) (W3 B5.gw) (Ly_o_String B5.gw) (by decide) (cs' := 3) rfl (ss' := 4) rfl (by decide) (by decide) ?_
      intro T7 a9 B8
      refine p_dup B8 at_142 (pc' := 143) rfl rfl ?_
      refine p_aload B8 at_143 (pc' := 145) rfl rfl rfl ?_
      have B10 : RH g D0 M T7 [(a3, .inr (.char, "[C", [])), o_String a9 (.int (0 : Int32)) .null, (a6, .inr (.char, "[C", []))] [] 3 4 := B8.front (i := 2) rfl rfl
      have B11 : RH g D0 M T7 [o_String a9 (.int (0 : Int32)) .null, (a3, .inr (.char, "[C", [])), (a6, .inr (.char, "[C", []))] [] 3 4 := B10.front (i := 1) rfl rfl
      refine r_special (D' := D1) B11 at_145 (pc' := 148) rfl rfl rfl (W4 B11.gw) (W5 B11.gw) (W3 B11.gw) (W6 B11.gw) (by decide) (k_i1 W a9 a3 "[C" ([] : List Int32) (by simp) (by simp) [(a6, .inr (.char, "[C", []))] []) (a := a9) (argsL := [(.ref a3)]) (rest := [(.ref a9)]) rfl pd8 rfl rfl rfl (W := 1) rfl (by decide) (by decide) (cs' := 7) rfl (ss' := 12) rfl (by decide) (by decide) ?_
      intro T12 v13 B14
      replace B14 := Rn.and B14
      obtain ⟨rfl, B14⟩ := B14
      replace B14 := Rn.ex B14
      obtain ⟨b15, B14⟩ := B14
      have B16 : RH g D0 M T12 [(a6, .inr (.char, "[C", []))] [(a9, b15, 0, [])] 7 12 := B14.del 0 rfl
      show Fn g D0 M _ (T12.setTop (mkF M.m 148 #[.val (.int p0), .val (.int p1), .val (.int p2), .val (.int (0 : Int32)), .val (.int (0 : Int32)), .val (.int sm), .val (.int f0), .val (.int f1), .val (.int t0), .val (.int t1), .val (.ref a3), .val (.ref a6), .unset, .unset, .unset, .unset] [(.ref a9)]))
      refine p_astore B16 at_148 (pc' := 150) rfl rfl (Ls' := #[.val (.int p0), .val (.int p1), .val (.int p2), .val (.int (0 : Int32)), .val (.int (0 : Int32)), .val (.int sm), .val (.int f0), .val (.int f1), .val (.int t0), .val (.int t1), .val (.ref a3), .val (.ref a6), .val (.ref a9), .unset, .unset, .unset]) rfl ?_
      refine r_new B16 at_150 (pc' := 153) rfl (W1 B16.gw) (W2 B16.gw) (W3 B16.gw) (Ly_o_String B16.gw) (by decide) (cs' := 8) rfl (ss' := 16) rfl (by decide) (by decide) ?_
      intro T17 a19 B18
      refine p_dup B18 at_153 (pc' := 154) rfl rfl ?_
      refine p_aload B18 at_154 (pc' := 156) rfl rfl rfl ?_
      have B20 : RH g D0 M T17 [(a6, .inr (.char, "[C", [])), o_String a19 (.int (0 : Int32)) .null] [(a9, b15, 0, [])] 8 16 := B18.front (i := 1) rfl rfl
      have B21 : RH g D0 M T17 [o_String a19 (.int (0 : Int32)) .null, (a6, .inr (.char, "[C", []))] [(a9, b15, 0, [])] 8 16 := B20.front (i := 1) rfl rfl
      refine r_special (D' := D1) B21 at_156 (pc' := 159) rfl rfl rfl (W4 B21.gw) (W5 B21.gw) (W3 B21.gw) (W6 B21.gw) (by decide) (k_i1 W a19 a6 "[C" ([] : List Int32) (by simp) (by simp) [] [(a9, b15, 0, [])]) (a := a19) (argsL := [(.ref a6)]) (rest := [(.ref a19)]) rfl pd8 rfl rfl rfl (W := 1) rfl (by decide) (by decide) (cs' := 12) rfl (ss' := 24) rfl (by decide) (by decide) ?_
      intro T22 v23 B24
      replace B24 := Rn.and B24
      obtain ⟨rfl, B24⟩ := B24
      replace B24 := Rn.ex B24
      obtain ⟨b25, B24⟩ := B24
      have B26 : RH g D0 M T22 [] [(a19, b25, 0, []), (a9, b15, 0, [])] 12 24 := B24.del 0 rfl
      show Fn g D0 M _ (T22.setTop (mkF M.m 159 #[.val (.int p0), .val (.int p1), .val (.int p2), .val (.int (0 : Int32)), .val (.int (0 : Int32)), .val (.int sm), .val (.int f0), .val (.int f1), .val (.int t0), .val (.int t1), .val (.ref a3), .val (.ref a6), .val (.ref a9), .unset, .unset, .unset] [(.ref a19)]))
      refine p_astore B26 at_159 (pc' := 161) rfl rfl (Ls' := #[.val (.int p0), .val (.int p1), .val (.int p2), .val (.int (0 : Int32)), .val (.int (0 : Int32)), .val (.int sm), .val (.int f0), .val (.int f1), .val (.int t0), .val (.int t1), .val (.ref a3), .val (.ref a6), .val (.ref a9), .val (.ref a19), .unset, .unset]) rfl ?_
      exact law161 W _ _ _ _ _ _ f0 f1 t0 t1 _ _ a9 a19 _ _ (xs := []) (ys := []) (by simp) (by simp) (fun q => absurd rfl q) (fun _ q => absurd q (by decide)) (fun _ q => absurd q (by decide)) (fun _ _ _ => rfl) (Rn.mono B26 (by decide) (by decide))
    · refine p_iloadN B at_84 (pc' := 85) rfl rfl ?_
      refine r_newp B at_85 (pc' := 87) rfl (ty := .char) (W0 B.gw) rfl (by decide) (nn := 0) (by decide) (cap := 0) (by decide) (by decide) (cs' := 1) rfl (ss' := 0) rfl (by decide) (by decide) (ad := "[C") (by decide) (by decide) nofun (vs := []) rfl ?_
      intro T27 a29 B28
      refine p_astore B28 at_87 (pc' := 89) rfl rfl (Ls' := #[.val (.int p0), .val (.int p1), .val (.int p2), .val (.int (0 : Int32)), .val (.int (1 : Int32)), .val (.int sm), .val (.int f0), .val (.int f1), .val (.int t0), .val (.int t1), .val (.ref a29), .unset, .unset, .unset, .unset, .unset]) rfl ?_
      refine p_iloadN B28 at_89 (pc' := 90) rfl rfl ?_
      refine b_ifT B28 at_90 (pc' := 99) (show ¬ (0 : Int32) < (0 : Int32) from by decide) (by decide) (by decide) ?_
      refine p_iloadN B28 at_99 (pc' := 100) rfl rfl ?_
      refine p_iconst B28 at_100 (pc' := 101) rfl (v := (1 : Int32)) (by decide) ?_
      refine b_icT B28 at_101 (pc' := 110) (show ¬ (1 : Int32) < (0 : Int32) from by decide) (by decide) (by decide) ?_
      refine p_iload B28 at_110 (pc' := 112) rfl rfl ?_
      refine r_newp B28 at_112 (pc' := 114) rfl (ty := .char) (W0 B28.gw) rfl (by decide) (nn := 1) (by decide) (cap := 1) (by decide) (by decide) (cs' := 2) rfl (ss' := 1) rfl (by decide) (by decide) (ad := "[C") (by decide) (by decide) nofun (vs := [(.int (0 : Int32))]) rfl ?_
      intro T30 a32 B31
      refine p_astore B31 at_114 (pc' := 116) rfl rfl (Ls' := #[.val (.int p0), .val (.int p1), .val (.int p2), .val (.int (0 : Int32)), .val (.int (1 : Int32)), .val (.int sm), .val (.int f0), .val (.int f1), .val (.int t0), .val (.int t1), .val (.ref a29), .val (.ref a32), .unset, .unset, .unset, .unset]) rfl ?_
      refine p_iload B31 at_116 (pc' := 118) rfl rfl ?_
      refine b_ifF B31 at_118 (pc' := 121) rfl (show (0 : Int32) < (1 : Int32) from by decide) ?_
      refine p_aload B31 at_121 (pc' := 123) rfl rfl rfl ?_
      refine p_iconst B31 at_123 (pc' := 124) rfl (v := (0 : Int32)) (by decide) ?_
      refine p_iload B31 at_124 (pc' := 126) rfl rfl ?_
      refine r_castore B31 at_126 (pc' := 127) rfl (i := 0) rfl (by decide) (k := 0) (by decide) (by simp) (x' := t0) ht0.nar (H' := [(a32, .inr (.char, "[C", [(.int t0)])), (a29, .inr (.char, "[C", []))]) rfl ?_
      intro T33 B34
      refine p_iload B34 at_127 (pc' := 129) rfl rfl ?_
      refine p_iconst B34 at_129 (pc' := 130) rfl (v := (1 : Int32)) (by decide) ?_
      refine b_icT B34 at_130 (pc' := 139) (show ¬ (1 : Int32) < (1 : Int32) from by decide) (by decide) (by decide) ?_
      refine r_new B34 at_139 (pc' := 142) rfl (W1 B34.gw) (W2 B34.gw) (W3 B34.gw) (Ly_o_String B34.gw) (by decide) (cs' := 3) rfl (ss' := 5) rfl (by decide) (by decide) ?_
      intro T35 a37 B36
      refine p_dup B36 at_142 (pc' := 143) rfl rfl ?_
      refine p_aload B36 at_143 (pc' := 145) rfl rfl rfl ?_
      have B38 : RH g D0 M T35 [(a29, .inr (.char, "[C", [])), o_String a37 (.int (0 : Int32)) .null, (a32, .inr (.char, "[C", [(.int t0)]))] [] 3 5 := B36.front (i := 2) rfl rfl
      have B39 : RH g D0 M T35 [o_String a37 (.int (0 : Int32)) .null, (a29, .inr (.char, "[C", [])), (a32, .inr (.char, "[C", [(.int t0)]))] [] 3 5 := B38.front (i := 1) rfl rfl
      refine r_special (D' := D1) B39 at_145 (pc' := 148) rfl rfl rfl (W4 B39.gw) (W5 B39.gw) (W3 B39.gw) (W6 B39.gw) (by decide) (k_i1 W a37 a29 "[C" ([] : List Int32) (by simp) (by simp) [(a32, .inr (.char, "[C", [(.int t0)]))] []) (a := a37) (argsL := [(.ref a29)]) (rest := [(.ref a37)]) rfl pd8 rfl rfl rfl (W := 1) rfl (by decide) (by decide) (cs' := 7) rfl (ss' := 13) rfl (by decide) (by decide) ?_
      intro T40 v41 B42
      replace B42 := Rn.and B42
      obtain ⟨rfl, B42⟩ := B42
      replace B42 := Rn.ex B42
      obtain ⟨b43, B42⟩ := B42
      have B44 : RH g D0 M T40 [(a32, .inr (.char, "[C", [(.int t0)]))] [(a37, b43, 0, [])] 7 13 := B42.del 0 rfl
      show Fn g D0 M _ (T40.setTop (mkF M.m 148 #[.val (.int p0), .val (.int p1), .val (.int p2), .val (.int (0 : Int32)), .val (.int (1 : Int32)), .val (.int sm), .val (.int f0), .val (.int f1), .val (.int t0), .val (.int t1), .val (.ref a29), .val (.ref a32), .unset, .unset, .unset, .unset] [(.ref a37)]))
      refine p_astore B44 at_148 (pc' := 150) rfl rfl (Ls' := #[.val (.int p0), .val (.int p1), .val (.int p2), .val (.int (0 : Int32)), .val (.int (1 : Int32)), .val (.int sm), .val (.int f0), .val (.int f1), .val (.int t0), .val (.int t1), .val (.ref a29), .val (.ref a32), .val (.ref a37), .unset, .unset, .unset]) rfl ?_
      refine r_new B44 at_150 (pc' := 153) rfl (W1 B44.gw) (W2 B44.gw) (W3 B44.gw) (Ly_o_String B44.gw) (by decide) (cs' := 8) rfl (ss' := 17) rfl (by decide) (by decide) ?_
      intro T45 a47 B46
      refine p_dup B46 at_153 (pc' := 154) rfl rfl ?_
      refine p_aload B46 at_154 (pc' := 156) rfl rfl rfl ?_
      have B48 : RH g D0 M T45 [(a32, .inr (.char, "[C", [(.int t0)])), o_String a47 (.int (0 : Int32)) .null] [(a37, b43, 0, [])] 8 17 := B46.front (i := 1) rfl rfl
      have B49 : RH g D0 M T45 [o_String a47 (.int (0 : Int32)) .null, (a32, .inr (.char, "[C", [(.int t0)]))] [(a37, b43, 0, [])] 8 17 := B48.front (i := 1) rfl rfl
      refine r_special (D' := D1) B49 at_156 (pc' := 159) rfl rfl rfl (W4 B49.gw) (W5 B49.gw) (W3 B49.gw) (W6 B49.gw) (by decide) (k_i1 W a47 a32 "[C" ([t0] : List Int32) (by simp only [List.mem_cons, List.not_mem_nil, or_false, forall_eq_or_imp, forall_eq]; exact ht0.le) (by simp) [] [(a37, b43, 0, [])]) (a := a47) (argsL := [(.ref a32)]) (rest := [(.ref a47)]) rfl pd8 rfl rfl rfl (W := 1) rfl (by decide) (by decide) (cs' := 12) rfl (ss' := 25) rfl (by decide) (by decide) ?_
      intro T50 v51 B52
      replace B52 := Rn.and B52
      obtain ⟨rfl, B52⟩ := B52
      replace B52 := Rn.ex B52
      obtain ⟨b53, B52⟩ := B52
      have B54 : RH g D0 M T50 [] [(a47, b53, 0, [(bV t0)]), (a37, b43, 0, [])] 12 25 := B52.del 0 rfl
      show Fn g D0 M _ (T50.setTop (mkF M.m 159 #[.val (.int p0), .val (.int p1), .val (.int p2), .val (.int (0 : Int32)), .val (.int (1 : Int32)), .val (.int sm), .val (.int f0), .val (.int f1), .val (.int t0), .val (.int t1), .val (.ref a29), .val (.ref a32), .val (.ref a37), .unset, .unset, .unset] [(.ref a47)]))
      refine p_astore B54 at_159 (pc' := 161) rfl rfl (Ls' := #[.val (.int p0), .val (.int p1), .val (.int p2), .val (.int (0 : Int32)), .val (.int (1 : Int32)), .val (.int sm), .val (.int f0), .val (.int f1), .val (.int t0), .val (.int t1), .val (.ref a29), .val (.ref a32), .val (.ref a37), .val (.ref a47), .unset, .unset]) rfl ?_
      exact law161 W _ _ _ _ _ _ f0 f1 t0 t1 _ _ a37 a47 _ _ (xs := []) (ys := [t0.toInt8.toInt32]) (by simp) (by simp) (fun _ q => absurd (congrArg List.length q) (by simp)) (fun q => absurd q (by decide)) (fun q => absurd q (by decide)) (fun q => absurd q (by decide)) (Rn.mono B54 (by decide) (by decide))
    · refine p_iloadN B at_84 (pc' := 85) rfl rfl ?_
      refine r_newp B at_85 (pc' := 87) rfl (ty := .char) (W0 B.gw) rfl (by decide) (nn := 0) (by decide) (cap := 0) (by decide) (by decide) (cs' := 1) rfl (ss' := 0) rfl (by decide) (by decide) (ad := "[C") (by decide) (by decide) nofun (vs := []) rfl ?_
      intro T55 a57 B56
      refine p_astore B56 at_87 (pc' := 89) rfl rfl (Ls' := #[.val (.int p0), .val (.int p1), .val (.int p2), .val (.int (0 : Int32)), .val (.int (2 : Int32)), .val (.int sm), .val (.int f0), .val (.int f1), .val (.int t0), .val (.int t1), .val (.ref a57), .unset, .unset, .unset, .unset, .unset]) rfl ?_
      refine p_iloadN B56 at_89 (pc' := 90) rfl rfl ?_
      refine b_ifT B56 at_90 (pc' := 99) (show ¬ (0 : Int32) < (0 : Int32) from by decide) (by decide) (by decide) ?_
      refine p_iloadN B56 at_99 (pc' := 100) rfl rfl ?_
      refine p_iconst B56 at_100 (pc' := 101) rfl (v := (1 : Int32)) (by decide) ?_
      refine b_icT B56 at_101 (pc' := 110) (show ¬ (1 : Int32) < (0 : Int32) from by decide) (by decide) (by decide) ?_
      refine p_iload B56 at_110 (pc' := 112) rfl rfl ?_
      refine r_newp B56 at_112 (pc' := 114) rfl (ty := .char) (W0 B56.gw) rfl (by decide) (nn := 2) (by decide) (cap := 2) (by decide) (by decide) (cs' := 2) rfl (ss' := 2) rfl (by decide) (by decide) (ad := "[C") (by decide) (by decide) nofun (vs := [(.int (0 : Int32)), (.int (0 : Int32))]) rfl ?_
      intro T58 a60 B59
      refine p_astore B59 at_114 (pc' := 116) rfl rfl (Ls' := #[.val (.int p0), .val (.int p1), .val (.int p2), .val (.int (0 : Int32)), .val (.int (2 : Int32)), .val (.int sm), .val (.int f0), .val (.int f1), .val (.int t0), .val (.int t1), .val (.ref a57), .val (.ref a60), .unset, .unset, .unset, .unset]) rfl ?_
      refine p_iload B59 at_116 (pc' := 118) rfl rfl ?_
      refine b_ifF B59 at_118 (pc' := 121) rfl (show (0 : Int32) < (2 : Int32) from by decide) ?_
      refine p_aload B59 at_121 (pc' := 123) rfl rfl rfl ?_
      refine p_iconst B59 at_123 (pc' := 124) rfl (v := (0 : Int32)) (by decide) ?_
      refine p_iload B59 at_124 (pc' := 126) rfl rfl ?_
      refine r_castore B59 at_126 (pc' := 127) rfl (i := 0) rfl (by decide) (k := 0) (by decide) (by simp) (x' := t0) ht0.nar (H' := [(a60, .inr (.char, "[C", [(.int t0), (.int (0 : Int32))])), (a57, .inr (.char, "[C", []))]) rfl ?_
      intro T61 B62
      refine p_iload B62 at_127 (pc' := 129) rfl rfl ?_
      refine p_iconst B62 at_129 (pc' := 130) rfl (v := (1 : Int32)) (by decide) ?_
      refine b_icF B62 at_130 (pc' := 133) rfl (show (1 : Int32) < (2 : Int32) from by decide) ?_
      refine p_aload B62 at_133 (pc' := 135) rfl rfl rfl ?_
      refine p_iconst B62 at_135 (pc' := 136) rfl (v := (1 : Int32)) (by decide) ?_
      refine p_iload B62 at_136 (pc' := 138) rfl rfl ?_
      refine r_castore B62 at_138 (pc' := 139) rfl (i := 0) rfl (by decide) (k := 1) (by decide) (by simp) (x' := t1) ht1.nar (H' := [(a60, .inr (.char, "[C", [(.int t0), (.int t1)])), (a57, .inr (.char, "[C", []))]) rfl ?_
      intro T63 B64
      refine r_new B64 at_139 (pc' := 142) rfl (W1 B64.gw) (W2 B64.gw) (W3 B64.gw) (Ly_o_String B64.gw) (by decide) (cs' := 3) rfl (ss' := 6) rfl (by decide) (by decide) ?_
      intro T65 a67 B66
      refine p_dup B66 at_142 (pc' := 143) rfl rfl ?_
      refine p_aload B66 at_143 (pc' := 145) rfl rfl rfl ?_
      have B68 : RH g D0 M T65 [(a57, .inr (.char, "[C", [])), o_String a67 (.int (0 : Int32)) .null, (a60, .inr (.char, "[C", [(.int t0), (.int t1)]))] [] 3 6 := B66.front (i := 2) rfl rfl
      have B69 : RH g D0 M T65 [o_String a67 (.int (0 : Int32)) .null, (a57, .inr (.char, "[C", [])), (a60, .inr (.char, "[C", [(.int t0), (.int t1)]))] [] 3 6 := B68.front (i := 1) rfl rfl
      refine r_special (D' := D1) B69 at_145 (pc' := 148) rfl rfl rfl (W4 B69.gw) (W5 B69.gw) (W3 B69.gw) (W6 B69.gw) (by decide) (k_i1 W a67 a57 "[C" ([] : List Int32) (by simp) (by simp) [(a60, .inr (.char, "[C", [(.int t0), (.int t1)]))] []) (a := a67) (argsL := [(.ref a57)]) (rest := [(.ref a67)]) rfl pd8 rfl rfl rfl (W := 1) rfl (by decide) (by decide) (cs' := 7) rfl (ss' := 14) rfl (by decide) (by decide) ?_
      intro T70 v71 B72
      replace B72 := Rn.and B72
      obtain ⟨rfl, B72⟩ := B72
      replace B72 := Rn.ex B72
      obtain ⟨b73, B72⟩ := B72
      have B74 : RH g D0 M T70 [(a60, .inr (.char, "[C", [(.int t0), (.int t1)]))] [(a67, b73, 0, [])] 7 14 := B72.del 0 rfl
      show Fn g D0 M _ (T70.setTop (mkF M.m 148 #[.val (.int p0), .val (.int p1), .val (.int p2), .val (.int (0 : Int32)), .val (.int (2 : Int32)), .val (.int sm), .val (.int f0), .val (.int f1), .val (.int t0), .val (.int t1), .val (.ref a57), .val (.ref a60), .unset, .unset, .unset, .unset] [(.ref a67)]))
      refine p_astore B74 at_148 (pc' := 150) rfl rfl (Ls' := #[.val (.int p0), .val (.int p1), .val (.int p2), .val (.int (0 : Int32)), .val (.int (2 : Int32)), .val (.int sm), .val (.int f0), .val (.int f1), .val (.int t0), .val (.int t1), .val (.ref a57), .val (.ref a60), .val (.ref a67), .unset, .unset, .unset]) rfl ?_
      refine r_new B74 at_150 (pc' := 153) rfl (W1 B74.gw) (W2 B74.gw) (W3 B74.gw) (Ly_o_String B74.gw) (by decide) (cs' := 8) rfl (ss' := 18) rfl (by decide) (by decide) ?_
      intro T75 a77 B76
      refine p_dup B76 at_153 (pc' := 154) rfl rfl ?_
      refine p_aload B76 at_154 (pc' := 156) rfl rfl rfl ?_
      have B78 : RH g D0 M T75 [(a60, .inr (.char, "[C", [(.int t0), (.int t1)])), o_String a77 (.int (0 : Int32)) .null] [(a67, b73, 0, [])] 8 18 := B76.front (i := 1) rfl rfl
      have B79 : RH g D0 M T75 [o_String a77 (.int (0 : Int32)) .null, (a60, .inr (.char, "[C", [(.int t0), (.int t1)]))] [(a67, b73, 0, [])] 8 18 := B78.front (i := 1) rfl rfl
      refine r_special (D' := D1) B79 at_156 (pc' := 159) rfl rfl rfl (W4 B79.gw) (W5 B79.gw) (W3 B79.gw) (W6 B79.gw) (by decide) (k_i1 W a77 a60 "[C" ([t0, t1] : List Int32) (by simp only [List.mem_cons, List.not_mem_nil, or_false, forall_eq_or_imp, forall_eq]; exact ⟨ht0.le, ht1.le⟩) (by simp) [] [(a67, b73, 0, [])]) (a := a77) (argsL := [(.ref a60)]) (rest := [(.ref a77)]) rfl pd8 rfl rfl rfl (W := 1) rfl (by decide) (by decide) (cs' := 12) rfl (ss' := 26) rfl (by decide) (by decide) ?_
      intro T80 v81 B82
      replace B82 := Rn.and B82
      obtain ⟨rfl, B82⟩ := B82
      replace B82 := Rn.ex B82
      obtain ⟨b83, B82⟩ := B82
      have B84 : RH g D0 M T80 [] [(a77, b83, 0, [(bV t0), (bV t1)]), (a67, b73, 0, [])] 12 26 := B82.del 0 rfl
      show Fn g D0 M _ (T80.setTop (mkF M.m 159 #[.val (.int p0), .val (.int p1), .val (.int p2), .val (.int (0 : Int32)), .val (.int (2 : Int32)), .val (.int sm), .val (.int f0), .val (.int f1), .val (.int t0), .val (.int t1), .val (.ref a57), .val (.ref a60), .val (.ref a67), .unset, .unset, .unset] [(.ref a77)]))
      refine p_astore B84 at_159 (pc' := 161) rfl rfl (Ls' := #[.val (.int p0), .val (.int p1), .val (.int p2), .val (.int (0 : Int32)), .val (.int (2 : Int32)), .val (.int sm), .val (.int f0), .val (.int f1), .val (.int t0), .val (.int t1), .val (.ref a57), .val (.ref a60), .val (.ref a67), .val (.ref a77), .unset, .unset]) rfl ?_
      exact law161 W _ _ _ _ _ _ f0 f1 t0 t1 _ _ a67 a77 _ _ (xs := []) (ys := [t0.toInt8.toInt32, t1.toInt8.toInt32]) (by simp) (by simp) (fun _ q => absurd (congrArg List.length q) (by simp)) (fun q => absurd q (by decide)) (fun q => absurd q (by decide)) (fun q => absurd q (by decide)) (Rn.mono B84 (by decide) (by decide))
  · rcases hlb with rfl | rfl | rfl
    · refine p_iloadN B at_84 (pc' := 85) rfl rfl ?_
      refine r_newp B at_85 (pc' := 87) rfl (ty := .char) (W0 B.gw) rfl (by decide) (nn := 1) (by decide) (cap := 1) (by decide) (by decide) (cs' := 1) rfl (ss' := 1) rfl (by decide) (by decide) (ad := "[C") (by decide) (by decide) nofun (vs := [(.int (0 : Int32))]) rfl ?_
      intro T85 a87 B86
      refine p_astore B86 at_87 (pc' := 89) rfl rfl (Ls' := #[.val (.int p0), .val (.int p1), .val (.int p2), .val (.int (1 : Int32)), .val (.int (0 : Int32)), .val (.int sm), .val (.int f0), .val (.int f1), .val (.int t0), .val (.int t1), .val (.ref a87), .unset, .unset, .unset, .unset, .unset]) rfl ?_
      refine p_iloadN B86 at_89 (pc' := 90) rfl rfl ?_
      refine b_ifF B86 at_90 (pc' := 93) rfl (show (0 : Int32) < (1 : Int32) from by decide) ?_
      refine p_aload B86 at_93 (pc' := 95) rfl rfl rfl ?_
      refine p_iconst B86 at_95 (pc' := 96) rfl (v := (0 : Int32)) (by decide) ?_
      refine p_iload B86 at_96 (pc' := 98) rfl rfl ?_
      refine r_castore B86 at_98 (pc' := 99) rfl (i := 0) rfl (by decide) (k := 0) (by decide) (by simp) (x' := f0) hf0.nar (H' := [(a87, .inr (.char, "[C", [(.int f0)]))]) rfl ?_
      intro T88 B89
      refine p_iloadN B89 at_99 (pc' := 100) rfl rfl ?_
      refine p_iconst B89 at_100 (pc' := 101) rfl (v := (1 : Int32)) (by decide) ?_
      refine b_icT B89 at_101 (pc' := 110) (show ¬ (1 : Int32) < (1 : Int32) from by decide) (by decide) (by decide) ?_
      refine p_iload B89 at_110 (pc' := 112) rfl rfl ?_
      refine r_newp B89 at_112 (pc' := 114) rfl (ty := .char) (W0 B89.gw) rfl (by decide) (nn := 0) (by decide) (cap := 0) (by decide) (by decide) (cs' := 2) rfl (ss' := 1) rfl (by decide) (by decide) (ad := "[C") (by decide) (by decide) nofun (vs := []) rfl ?_
      intro T90 a92 B91
      refine p_astore B91 at_114 (pc' := 116) rfl rfl (Ls' := #[.val (.int p0), .val (.int p1), .val (.int p2), .val (.int (1 : Int32)), .val (.int (0 : Int32)), .val (.int sm), .val (.int f0), .val (.int f1), .val (.int t0), .val (.int t1), .val (.ref a87), .val (.ref a92), .unset, .unset, .unset, .unset]) rfl ?_
      refine p_iload B91 at_116 (pc' := 118) rfl rfl ?_
      refine b_ifT B91 at_118 (pc' := 127) (show ¬ (0 : Int32) < (0 : Int32) from by decide) (by decide) (by decide) ?_
      refine p_iload B91 at_127 (pc' := 129) rfl rfl ?_
      refine p_iconst B91 at_129 (pc' := 130) rfl (v := (1 : Int32)) (by decide) ?_
      refine b_icT B91 at_130 (pc' := 139) (show ¬ (1 : Int32) < (0 : Int32) from by decide) (by decide) (by decide) ?_
      refine r_new B91 at_139 (pc' := 142) rfl (W1 B91.gw) (W2 B91.gw) (W3 B91.gw) (Ly_o_String B91.gw) (by decide) (cs' := 3) rfl (ss' := 5) rfl (by decide) (by decide) ?_
      intro T93 a95 B94
      refine p_dup B94 at_142 (pc' := 143) rfl rfl ?_
      refine p_aload B94 at_143 (pc' := 145) rfl rfl rfl ?_
      have B96 : RH g D0 M T93 [(a87, .inr (.char, "[C", [(.int f0)])), o_String a95 (.int (0 : Int32)) .null, (a92, .inr (.char, "[C", []))] [] 3 5 := B94.front (i := 2) rfl rfl
      have B97 : RH g D0 M T93 [o_String a95 (.int (0 : Int32)) .null, (a87, .inr (.char, "[C", [(.int f0)])), (a92, .inr (.char, "[C", []))] [] 3 5 := B96.front (i := 1) rfl rfl
      refine r_special (D' := D1) B97 at_145 (pc' := 148) rfl rfl rfl (W4 B97.gw) (W5 B97.gw) (W3 B97.gw) (W6 B97.gw) (by decide) (k_i1 W a95 a87 "[C" ([f0] : List Int32) (by simp only [List.mem_cons, List.not_mem_nil, or_false, forall_eq_or_imp, forall_eq]; exact hf0.le) (by simp) [(a92, .inr (.char, "[C", []))] []) (a := a95) (argsL := [(.ref a87)]) (rest := [(.ref a95)]) rfl pd8 rfl rfl rfl (W := 1) rfl (by decide) (by decide) (cs' := 7) rfl (ss' := 13) rfl (by decide) (by decide) ?_
      intro T98 v99 B100
      replace B100 := Rn.and B100
      obtain ⟨rfl, B100⟩ := B100
      replace B100 := Rn.ex B100
      obtain ⟨b101, B100⟩ := B100
      have B102 : RH g D0 M T98 [(a92, .inr (.char, "[C", []))] [(a95, b101, 0, [(bV f0)])] 7 13 := B100.del 0 rfl
      show Fn g D0 M _ (T98.setTop (mkF M.m 148 #[.val (.int p0), .val (.int p1), .val (.int p2), .val (.int (1 : Int32)), .val (.int (0 : Int32)), .val (.int sm), .val (.int f0), .val (.int f1), .val (.int t0), .val (.int t1), .val (.ref a87), .val (.ref a92), .unset, .unset, .unset, .unset] [(.ref a95)]))
      refine p_astore B102 at_148 (pc' := 150) rfl rfl (Ls' := #[.val (.int p0), .val (.int p1), .val (.int p2), .val (.int (1 : Int32)), .val (.int (0 : Int32)), .val (.int sm), .val (.int f0), .val (.int f1), .val (.int t0), .val (.int t1), .val (.ref a87), .val (.ref a92), .val (.ref a95), .unset, .unset, .unset]) rfl ?_
      refine r_new B102 at_150 (pc' := 153) rfl (W1 B102.gw) (W2 B102.gw) (W3 B102.gw) (Ly_o_String B102.gw) (by decide) (cs' := 8) rfl (ss' := 17) rfl (by decide) (by decide) ?_
      intro T103 a105 B104
      refine p_dup B104 at_153 (pc' := 154) rfl rfl ?_
      refine p_aload B104 at_154 (pc' := 156) rfl rfl rfl ?_
      have B106 : RH g D0 M T103 [(a92, .inr (.char, "[C", [])), o_String a105 (.int (0 : Int32)) .null] [(a95, b101, 0, [(bV f0)])] 8 17 := B104.front (i := 1) rfl rfl
      have B107 : RH g D0 M T103 [o_String a105 (.int (0 : Int32)) .null, (a92, .inr (.char, "[C", []))] [(a95, b101, 0, [(bV f0)])] 8 17 := B106.front (i := 1) rfl rfl
      refine r_special (D' := D1) B107 at_156 (pc' := 159) rfl rfl rfl (W4 B107.gw) (W5 B107.gw) (W3 B107.gw) (W6 B107.gw) (by decide) (k_i1 W a105 a92 "[C" ([] : List Int32) (by simp) (by simp) [] [(a95, b101, 0, [(bV f0)])]) (a := a105) (argsL := [(.ref a92)]) (rest := [(.ref a105)]) rfl pd8 rfl rfl rfl (W := 1) rfl (by decide) (by decide) (cs' := 12) rfl (ss' := 25) rfl (by decide) (by decide) ?_
      intro T108 v109 B110
      replace B110 := Rn.and B110
      obtain ⟨rfl, B110⟩ := B110
      replace B110 := Rn.ex B110
      obtain ⟨b111, B110⟩ := B110
      have B112 : RH g D0 M T108 [] [(a105, b111, 0, []), (a95, b101, 0, [(bV f0)])] 12 25 := B110.del 0 rfl
      show Fn g D0 M _ (T108.setTop (mkF M.m 159 #[.val (.int p0), .val (.int p1), .val (.int p2), .val (.int (1 : Int32)), .val (.int (0 : Int32)), .val (.int sm), .val (.int f0), .val (.int f1), .val (.int t0), .val (.int t1), .val (.ref a87), .val (.ref a92), .val (.ref a95), .unset, .unset, .unset] [(.ref a105)]))
      refine p_astore B112 at_159 (pc' := 161) rfl rfl (Ls' := #[.val (.int p0), .val (.int p1), .val (.int p2), .val (.int (1 : Int32)), .val (.int (0 : Int32)), .val (.int sm), .val (.int f0), .val (.int f1), .val (.int t0), .val (.int t1), .val (.ref a87), .val (.ref a92), .val (.ref a95), .val (.ref a105), .unset, .unset]) rfl ?_
      exact law161 W _ _ _ _ _ _ f0 f1 t0 t1 _ _ a95 a105 _ _ (xs := [f0.toInt8.toInt32]) (ys := []) (by simp) (by simp) (fun _ q => absurd (congrArg List.length q) (by simp)) (fun q => absurd q (by decide)) (fun q => absurd q (by decide)) (fun q => absurd q (by decide)) (Rn.mono B112 (by decide) (by decide))
    · refine p_iloadN B at_84 (pc' := 85) rfl rfl ?_
      refine r_newp B at_85 (pc' := 87) rfl (ty := .char) (W0 B.gw) rfl (by decide) (nn := 1) (by decide) (cap := 1) (by decide) (by decide) (cs' := 1) rfl (ss' := 1) rfl (by decide) (by decide) (ad := "[C") (by decide) (by decide) nofun (vs := [(.int (0 : Int32))]) rfl ?_
      intro T113 a115 B114
      refine p_astore B114 at_87 (pc' := 89) rfl rfl (Ls' := #[.val (.int p0), .val (.int p1), .val (.int p2), .val (.int (1 : Int32)), .val (.int (1 : Int32)), .val (.int sm), .val (.int f0), .val (.int f1), .val (.int t0), .val (.int t1), .val (.ref a115), .unset, .unset, .unset, .unset, .unset]) rfl ?_
      refine p_iloadN B114 at_89 (pc' := 90) rfl rfl ?_
      refine b_ifF B114 at_90 (pc' := 93) rfl (show (0 : Int32) < (1 : Int32) from by decide) ?_
      refine p_aload B114 at_93 (pc' := 95) rfl rfl rfl ?_
      refine p_iconst B114 at_95 (pc' := 96) rfl (v := (0 : Int32)) (by decide) ?_
      refine p_iload B114 at_96 (pc' := 98) rfl rfl ?_
      refine r_castore B114 at_98 (pc' := 99) rfl (i := 0) rfl (by decide) (k := 0) (by decide) (by simp) (x' := f0) hf0.nar (H' := [(a115, .inr (.char, "[C", [(.int f0)]))]) rfl ?_
      intro T116 B117
      refine p_iloadN B117 at_99 (pc' := 100) rfl rfl ?_
      refine p_iconst B117 at_100 (pc' := 101) rfl (v := (1 : Int32)) (by decide) ?_
      refine b_icT B117 at_101 (pc' := 110) (show ¬ (1 : Int32) < (1 : Int32) from by decide) (by decide) (by decide) ?_
      refine p_iload B117 at_110 (pc' := 112) rfl rfl ?_
      refine r_newp B117 at_112 (pc' := 114) rfl (ty := .char) (W0 B117.gw) rfl (by decide) (nn := 1) (by decide) (cap := 1) (by decide) (by decide) (cs' := 2) rfl (ss' := 2) rfl (by decide) (by decide) (ad := "[C") (by decide) (by decide) nofun (vs := [(.int (0 : Int32))]) rfl ?_
      intro T118 a120 B119
      refine p_astore B119 at_114 (pc' := 116) rfl rfl (Ls' := #[.val (.int p0), .val (.int p1), .val (.int p2), .val (.int (1 : Int32)), .val (.int (1 : Int32)), .val (.int sm), .val (.int f0), .val (.int f1), .val (.int t0), .val (.int t1), .val (.ref a115), .val (.ref a120), .unset, .unset, .unset, .unset]) rfl ?_
      refine p_iload B119 at_116 (pc' := 118) rfl rfl ?_
      refine b_ifF B119 at_118 (pc' := 121) rfl (show (0 : Int32) < (1 : Int32) from by decide) ?_
      refine p_aload B119 at_121 (pc' := 123) rfl rfl rfl ?_
      refine p_iconst B119 at_123 (pc' := 124) rfl (v := (0 : Int32)) (by decide) ?_
      refine p_iload B119 at_124 (pc' := 126) rfl rfl ?_
      refine r_castore B119 at_126 (pc' := 127) rfl (i := 0) rfl (by decide) (k := 0) (by decide) (by simp) (x' := t0) ht0.nar (H' := [(a120, .inr (.char, "[C", [(.int t0)])), (a115, .inr (.char, "[C", [(.int f0)]))]) rfl ?_
      intro T121 B122
      refine p_iload B122 at_127 (pc' := 129) rfl rfl ?_
      refine p_iconst B122 at_129 (pc' := 130) rfl (v := (1 : Int32)) (by decide) ?_
      refine b_icT B122 at_130 (pc' := 139) (show ¬ (1 : Int32) < (1 : Int32) from by decide) (by decide) (by decide) ?_
      refine r_new B122 at_139 (pc' := 142) rfl (W1 B122.gw) (W2 B122.gw) (W3 B122.gw) (Ly_o_String B122.gw) (by decide) (cs' := 3) rfl (ss' := 6) rfl (by decide) (by decide) ?_
      intro T123 a125 B124
      refine p_dup B124 at_142 (pc' := 143) rfl rfl ?_
      refine p_aload B124 at_143 (pc' := 145) rfl rfl rfl ?_
      have B126 : RH g D0 M T123 [(a115, .inr (.char, "[C", [(.int f0)])), o_String a125 (.int (0 : Int32)) .null, (a120, .inr (.char, "[C", [(.int t0)]))] [] 3 6 := B124.front (i := 2) rfl rfl
      have B127 : RH g D0 M T123 [o_String a125 (.int (0 : Int32)) .null, (a115, .inr (.char, "[C", [(.int f0)])), (a120, .inr (.char, "[C", [(.int t0)]))] [] 3 6 := B126.front (i := 1) rfl rfl
      refine r_special (D' := D1) B127 at_145 (pc' := 148) rfl rfl rfl (W4 B127.gw) (W5 B127.gw) (W3 B127.gw) (W6 B127.gw) (by decide) (k_i1 W a125 a115 "[C" ([f0] : List Int32) (by simp only [List.mem_cons, List.not_mem_nil, or_false, forall_eq_or_imp, forall_eq]; exact hf0.le) (by simp) [(a120, .inr (.char, "[C", [(.int t0)]))] []) (a := a125) (argsL := [(.ref a115)]) (rest := [(.ref a125)]) rfl pd8 rfl rfl rfl (W := 1) rfl (by decide) (by decide) (cs' := 7) rfl (ss' := 14) rfl (by decide) (by decide) ?_
      intro T128 v129 B130
      replace B130 := Rn.and B130
      obtain ⟨rfl, B130⟩ := B130
      replace B130 := Rn.ex B130
      obtain ⟨b131, B130⟩ := B130
      have B132 : RH g D0 M T128 [(a120, .inr (.char, "[C", [(.int t0)]))] [(a125, b131, 0, [(bV f0)])] 7 14 := B130.del 0 rfl
      show Fn g D0 M _ (T128.setTop (mkF M.m 148 #[.val (.int p0), .val (.int p1), .val (.int p2), .val (.int (1 : Int32)), .val (.int (1 : Int32)), .val (.int sm), .val (.int f0), .val (.int f1), .val (.int t0), .val (.int t1), .val (.ref a115), .val (.ref a120), .unset, .unset, .unset, .unset] [(.ref a125)]))
      refine p_astore B132 at_148 (pc' := 150) rfl rfl (Ls' := #[.val (.int p0), .val (.int p1), .val (.int p2), .val (.int (1 : Int32)), .val (.int (1 : Int32)), .val (.int sm), .val (.int f0), .val (.int f1), .val (.int t0), .val (.int t1), .val (.ref a115), .val (.ref a120), .val (.ref a125), .unset, .unset, .unset]) rfl ?_
      refine r_new B132 at_150 (pc' := 153) rfl (W1 B132.gw) (W2 B132.gw) (W3 B132.gw) (Ly_o_String B132.gw) (by decide) (cs' := 8) rfl (ss' := 18) rfl (by decide) (by decide) ?_
      intro T133 a135 B134
      refine p_dup B134 at_153 (pc' := 154) rfl rfl ?_
      refine p_aload B134 at_154 (pc' := 156) rfl rfl rfl ?_
      have B136 : RH g D0 M T133 [(a120, .inr (.char, "[C", [(.int t0)])), o_String a135 (.int (0 : Int32)) .null] [(a125, b131, 0, [(bV f0)])] 8 18 := B134.front (i := 1) rfl rfl
      have B137 : RH g D0 M T133 [o_String a135 (.int (0 : Int32)) .null, (a120, .inr (.char, "[C", [(.int t0)]))] [(a125, b131, 0, [(bV f0)])] 8 18 := B136.front (i := 1) rfl rfl
      refine r_special (D' := D1) B137 at_156 (pc' := 159) rfl rfl rfl (W4 B137.gw) (W5 B137.gw) (W3 B137.gw) (W6 B137.gw) (by decide) (k_i1 W a135 a120 "[C" ([t0] : List Int32) (by simp only [List.mem_cons, List.not_mem_nil, or_false, forall_eq_or_imp, forall_eq]; exact ht0.le) (by simp) [] [(a125, b131, 0, [(bV f0)])]) (a := a135) (argsL := [(.ref a120)]) (rest := [(.ref a135)]) rfl pd8 rfl rfl rfl (W := 1) rfl (by decide) (by decide) (cs' := 12) rfl (ss' := 26) rfl (by decide) (by decide) ?_
      intro T138 v139 B140
      replace B140 := Rn.and B140
      obtain ⟨rfl, B140⟩ := B140
      replace B140 := Rn.ex B140
      obtain ⟨b141, B140⟩ := B140
      have B142 : RH g D0 M T138 [] [(a135, b141, 0, [(bV t0)]), (a125, b131, 0, [(bV f0)])] 12 26 := B140.del 0 rfl
      show Fn g D0 M _ (T138.setTop (mkF M.m 159 #[.val (.int p0), .val (.int p1), .val (.int p2), .val (.int (1 : Int32)), .val (.int (1 : Int32)), .val (.int sm), .val (.int f0), .val (.int f1), .val (.int t0), .val (.int t1), .val (.ref a115), .val (.ref a120), .val (.ref a125), .unset, .unset, .unset] [(.ref a135)]))
      refine p_astore B142 at_159 (pc' := 161) rfl rfl (Ls' := #[.val (.int p0), .val (.int p1), .val (.int p2), .val (.int (1 : Int32)), .val (.int (1 : Int32)), .val (.int sm), .val (.int f0), .val (.int f1), .val (.int t0), .val (.int t1), .val (.ref a115), .val (.ref a120), .val (.ref a125), .val (.ref a135), .unset, .unset]) rfl ?_
      exact law161 W _ _ _ _ _ _ f0 f1 t0 t1 _ _ a125 a135 _ _ (xs := [f0.toInt8.toInt32]) (ys := [t0.toInt8.toInt32]) (by simp) (by simp) (fun q => absurd rfl q) (fun _ _ n q => n (hf0.inj ht0 (by simpa only [List.cons.injEq] using q : _ ∧ _).1)) (fun _ q => absurd q (by decide)) (fun _ q _ => by rcases q with q | q; exact absurd (by decide) q; rw [q]) (Rn.mono B142 (by decide) (by decide))
    · refine p_iloadN B at_84 (pc' := 85) rfl rfl ?_
      refine r_newp B at_85 (pc' := 87) rfl (ty := .char) (W0 B.gw) rfl (by decide) (nn := 1) (by decide) (cap := 1) (by decide) (by decide) (cs' := 1) rfl (ss' := 1) rfl (by decide) (by decide) (ad := "[C") (by decide) (by decide) nofun (vs := [(.int (0 : Int32))]) rfl ?_
      intro T143 a145 B144
      refine p_astore B144 at_87 (pc' := 89) rfl rfl (Ls' := #[.val (.int p0), .val (.int p1), .val (.int p2), .val (.int (1 : Int32)), .val (.int (2 : Int32)), .val (.int sm), .val (.int f0), .val (.int f1), .val (.int t0), .val (.int t1), .val (.ref a145), .unset, .unset, .unset, .unset, .unset]) rfl ?_
      refine p_iloadN B144 at_89 (pc' := 90) rfl rfl ?_
      refine b_ifF B144 at_90 (pc' := 93) rfl (show (0 : Int32) < (1 : Int32) from by decide) ?_
      refine p_aload B144 at_93 (pc' := 95) rfl rfl rfl ?_
      refine p_iconst B144 at_95 (pc' := 96) rfl (v := (0 : Int32)) (by decide) ?_
      refine p_iload B144 at_96 (pc' := 98) rfl rfl ?_
      refine r_castore B144 at_98 (pc' := 99) rfl (i := 0) rfl (by decide) (k := 0) (by decide) (by simp) (x' := f0) hf0.nar (H' := [(a145, .inr (.char, "[C", [(.int f0)]))]) rfl ?_
      intro T146 B147
      refine p_iloadN B147 at_99 (pc' := 100) rfl rfl ?_
      refine p_iconst B147 at_100 (pc' := 101) rfl (v := (1 : Int32)) (by decide) ?_
      refine b_icT B147 at_101 (pc' := 110) (show ¬ (1 : Int32) < (1 : Int32) from by decide) (by decide) (by decide) ?_
      refine p_iload B147 at_110 (pc' := 112) rfl rfl ?_
      refine r_newp B147 at_112 (pc' := 114) rfl (ty := .char) (W0 B147.gw) rfl (by decide) (nn := 2) (by decide) (cap := 2) (by decide) (by decide) (cs' := 2) rfl (ss' := 3) rfl (by decide) (by decide) (ad := "[C") (by decide) (by decide) nofun (vs := [(.int (0 : Int32)), (.int (0 : Int32))]) rfl ?_
      intro T148 a150 B149
      refine p_astore B149 at_114 (pc' := 116) rfl rfl (Ls' := #[.val (.int p0), .val (.int p1), .val (.int p2), .val (.int (1 : Int32)), .val (.int (2 : Int32)), .val (.int sm), .val (.int f0), .val (.int f1), .val (.int t0), .val (.int t1), .val (.ref a145), .val (.ref a150), .unset, .unset, .unset, .unset]) rfl ?_
      refine p_iload B149 at_116 (pc' := 118) rfl rfl ?_
      refine b_ifF B149 at_118 (pc' := 121) rfl (show (0 : Int32) < (2 : Int32) from by decide) ?_
      refine p_aload B149 at_121 (pc' := 123) rfl rfl rfl ?_
      refine p_iconst B149 at_123 (pc' := 124) rfl (v := (0 : Int32)) (by decide) ?_
      refine p_iload B149 at_124 (pc' := 126) rfl rfl ?_
      refine r_castore B149 at_126 (pc' := 127) rfl (i := 0) rfl (by decide) (k := 0) (by decide) (by simp) (x' := t0) ht0.nar (H' := [(a150, .inr (.char, "[C", [(.int t0), (.int (0 : Int32))])), (a145, .inr (.char, "[C", [(.int f0)]))]) rfl ?_
      intro T151 B152
      refine p_iload B152 at_127 (pc' := 129) rfl rfl ?_
      refine p_iconst B152 at_129 (pc' := 130) rfl (v := (1 : Int32)) (by decide) ?_
      refine b_icF B152 at_130 (pc' := 133) rfl (show (1 : Int32) < (2 : Int32) from by decide) ?_
      refine p_aload B152 at_133 (pc' := 135) rfl rfl rfl ?_
      refine p_iconst B152 at_135 (pc' := 136) rfl (v := (1 : Int32)) (by decide) ?_
      refine p_iload B152 at_136 (pc' := 138) rfl rfl ?_
      refine r_castore B152 at_138 (pc' := 139) rfl (i := 0) rfl (by decide) (k := 1) (by decide) (by simp) (x' := t1) ht1.nar (H' := [(a150, .inr (.char, "[C", [(.int t0), (.int t1)])), (a145, .inr (.char, "[C", [(.int f0)]))]) rfl ?_
      intro T153 B154
      refine r_new B154 at_139 (pc' := 142) rfl (W1 B154.gw) (W2 B154.gw) (W3 B154.gw) (Ly_o_String B154.gw) (by decide) (cs' := 3) rfl (ss' := 7) rfl (by decide) (by decide) ?_
      intro T155 a157 B156
      refine p_dup B156 at_142 (pc' := 143) rfl rfl ?_
      refine p_aload B156 at_143 (pc' := 145) rfl rfl rfl ?_
      have B158 : RH g D0 M T155 [(a145, .inr (.char, "[C", [(.int f0)])), o_String a157 (.int (0 : Int32)) .null, (a150, .inr (.char, "[C", [(.int t0), (.int t1)]))] [] 3 7 := B156.front (i := 2) rfl rfl
      have B159 : RH g D0 M T155 [o_String a157 (.int (0 : Int32)) .null, (a145, .inr (.char, "[C", [(.int f0)])), (a150, .inr (.char, "[C", [(.int t0), (.int t1)]))] [] 3 7 := B158.front (i := 1) rfl rfl
      refine r_special (D' := D1) B159 at_145 (pc' := 148) rfl rfl rfl (W4 B159.gw) (W5 B159.gw) (W3 B159.gw) (W6 B159.gw) (by decide) (k_i1 W a157 a145 "[C" ([f0] : List Int32) (by simp only [List.mem_cons, List.not_mem_nil, or_false, forall_eq_or_imp, forall_eq]; exact hf0.le) (by simp) [(a150, .inr (.char, "[C", [(.int t0), (.int t1)]))] []) (a := a157) (argsL := [(.ref a145)]) (rest := [(.ref a157)]) rfl pd8 rfl rfl rfl (W := 1) rfl (by decide) (by decide) (cs' := 7) rfl (ss' := 15) rfl (by decide) (by decide) ?_
      intro T160 v161 B162
      replace B162 := Rn.and B162
      obtain ⟨rfl, B162⟩ := B162
      replace B162 := Rn.ex B162
      obtain ⟨b163, B162⟩ := B162
      have B164 : RH g D0 M T160 [(a150, .inr (.char, "[C", [(.int t0), (.int t1)]))] [(a157, b163, 0, [(bV f0)])] 7 15 := B162.del 0 rfl
      show Fn g D0 M _ (T160.setTop (mkF M.m 148 #[.val (.int p0), .val (.int p1), .val (.int p2), .val (.int (1 : Int32)), .val (.int (2 : Int32)), .val (.int sm), .val (.int f0), .val (.int f1), .val (.int t0), .val (.int t1), .val (.ref a145), .val (.ref a150), .unset, .unset, .unset, .unset] [(.ref a157)]))
      refine p_astore B164 at_148 (pc' := 150) rfl rfl (Ls' := #[.val (.int p0), .val (.int p1), .val (.int p2), .val (.int (1 : Int32)), .val (.int (2 : Int32)), .val (.int sm), .val (.int f0), .val (.int f1), .val (.int t0), .val (.int t1), .val (.ref a145), .val (.ref a150), .val (.ref a157), .unset, .unset, .unset]) rfl ?_
      refine r_new B164 at_150 (pc' := 153) rfl (W1 B164.gw) (W2 B164.gw) (W3 B164.gw) (Ly_o_String B164.gw) (by decide) (cs' := 8) rfl (ss' := 19) rfl (by decide) (by decide) ?_
      intro T165 a167 B166
      refine p_dup B166 at_153 (pc' := 154) rfl rfl ?_
      refine p_aload B166 at_154 (pc' := 156) rfl rfl rfl ?_
      have B168 : RH g D0 M T165 [(a150, .inr (.char, "[C", [(.int t0), (.int t1)])), o_String a167 (.int (0 : Int32)) .null] [(a157, b163, 0, [(bV f0)])] 8 19 := B166.front (i := 1) rfl rfl
      have B169 : RH g D0 M T165 [o_String a167 (.int (0 : Int32)) .null, (a150, .inr (.char, "[C", [(.int t0), (.int t1)]))] [(a157, b163, 0, [(bV f0)])] 8 19 := B168.front (i := 1) rfl rfl
      refine r_special (D' := D1) B169 at_156 (pc' := 159) rfl rfl rfl (W4 B169.gw) (W5 B169.gw) (W3 B169.gw) (W6 B169.gw) (by decide) (k_i1 W a167 a150 "[C" ([t0, t1] : List Int32) (by simp only [List.mem_cons, List.not_mem_nil, or_false, forall_eq_or_imp, forall_eq]; exact ⟨ht0.le, ht1.le⟩) (by simp) [] [(a157, b163, 0, [(bV f0)])]) (a := a167) (argsL := [(.ref a150)]) (rest := [(.ref a167)]) rfl pd8 rfl rfl rfl (W := 1) rfl (by decide) (by decide) (cs' := 12) rfl (ss' := 27) rfl (by decide) (by decide) ?_
      intro T170 v171 B172
      replace B172 := Rn.and B172
      obtain ⟨rfl, B172⟩ := B172
      replace B172 := Rn.ex B172
      obtain ⟨b173, B172⟩ := B172
      have B174 : RH g D0 M T170 [] [(a167, b173, 0, [(bV t0), (bV t1)]), (a157, b163, 0, [(bV f0)])] 12 27 := B172.del 0 rfl
      show Fn g D0 M _ (T170.setTop (mkF M.m 159 #[.val (.int p0), .val (.int p1), .val (.int p2), .val (.int (1 : Int32)), .val (.int (2 : Int32)), .val (.int sm), .val (.int f0), .val (.int f1), .val (.int t0), .val (.int t1), .val (.ref a145), .val (.ref a150), .val (.ref a157), .unset, .unset, .unset] [(.ref a167)]))
      refine p_astore B174 at_159 (pc' := 161) rfl rfl (Ls' := #[.val (.int p0), .val (.int p1), .val (.int p2), .val (.int (1 : Int32)), .val (.int (2 : Int32)), .val (.int sm), .val (.int f0), .val (.int f1), .val (.int t0), .val (.int t1), .val (.ref a145), .val (.ref a150), .val (.ref a157), .val (.ref a167), .unset, .unset]) rfl ?_
      exact law161 W _ _ _ _ _ _ f0 f1 t0 t1 _ _ a157 a167 _ _ (xs := [f0.toInt8.toInt32]) (ys := [t0.toInt8.toInt32, t1.toInt8.toInt32]) (by simp) (by simp) (fun _ q => absurd (congrArg List.length q) (by simp)) (fun q => absurd q (by decide)) (fun q => absurd q (by decide)) (fun q => absurd q (by decide)) (Rn.mono B174 (by decide) (by decide))
  · rcases hlb with rfl | rfl | rfl
    · refine p_iloadN B at_84 (pc' := 85) rfl rfl ?_
      refine r_newp B at_85 (pc' := 87) rfl (ty := .char) (W0 B.gw) rfl (by decide) (nn := 2) (by decide) (cap := 2) (by decide) (by decide) (cs' := 1) rfl (ss' := 2) rfl (by decide) (by decide) (ad := "[C") (by decide) (by decide) nofun (vs := [(.int (0 : Int32)), (.int (0 : Int32))]) rfl ?_
      intro T175 a177 B176
      refine p_astore B176 at_87 (pc' := 89) rfl rfl (Ls' := #[.val (.int p0), .val (.int p1), .val (.int p2), .val (.int (2 : Int32)), .val (.int (0 : Int32)), .val (.int sm), .val (.int f0), .val (.int f1), .val (.int t0), .val (.int t1), .val (.ref a177), .unset, .unset, .unset, .unset, .unset]) rfl ?_
      refine p_iloadN B176 at_89 (pc' := 90) rfl rfl ?_
      refine b_ifF B176 at_90 (pc' := 93) rfl (show (0 : Int32) < (2 : Int32) from by decide) ?_
      refine p_aload B176 at_93 (pc' := 95) rfl rfl rfl ?_
      refine p_iconst B176 at_95 (pc' := 96) rfl (v := (0 : Int32)) (by decide) ?_
      refine p_iload B176 at_96 (pc' := 98) rfl rfl ?_
      refine r_castore B176 at_98 (pc' := 99) rfl (i := 0) rfl (by decide) (k := 0) (by decide) (by simp) (x' := f0) hf0.nar (H' := [(a177, .inr (.char, "[C", [(.int f0), (.int (0 : Int32))]))]) rfl ?_
      intro T178 B179
      refine p_iloadN B179 at_99 (pc' := 100) rfl rfl ?_
      refine p_iconst B179 at_100 (pc' := 101) rfl (v := (1 : Int32)) (by decide) ?_
      refine b_icF B179 at_101 (pc' := 104) rfl (show (1 : Int32) < (2 : Int32) from by decide) ?_
      refine p_aload B179 at_104 (pc' := 106) rfl rfl rfl ?_
      refine p_iconst B179 at_106 (pc' := 107) rfl (v := (1 : Int32)) (by decide) ?_
      refine p_iload B179 at_107 (pc' := 109) rfl rfl ?_
      refine r_castore B179 at_109 (pc' := 110) rfl (i := 0) rfl (by decide) (k := 1) (by decide) (by simp) (x' := f1) hf1.nar (H' := [(a177, .inr (.char, "[C", [(.int f0), (.int f1)]))]) rfl ?_
      intro T180 B181
      refine p_iload B181 at_110 (pc' := 112) rfl rfl ?_
      refine r_newp B181 at_112 (pc' := 114) rfl (ty := .char) (W0 B181.gw) rfl (by decide) (nn := 0) (by decide) (cap := 0) (by decide) (by decide) (cs' := 2) rfl (ss' := 2) rfl (by decide) (by decide) (ad := "[C") (by decide) (by decide) nofun (vs := []) rfl ?_
      intro T182 a184 B183
      refine p_astore B183 at_114 (pc' := 116) rfl rfl (Ls' := #[.val (.int p0), .val (.int p1), .val (.int p2), .val (.int (2 : Int32)), .val (.int (0 : Int32)), .val (.int sm), .val (.int f0), .val (.int f1), .val (.int t0), .val (.int t1), .val (.ref a177), .val (.ref a184), .unset, .unset, .unset, .unset]) rfl ?_
      refine p_iload B183 at_116 (pc' := 118) rfl rfl ?_
      refine b_ifT B183 at_118 (pc' := 127) (show ¬ (0 : Int32) < (0 : Int32) from by decide) (by decide) (by decide) ?_
      refine p_iload B183 at_127 (pc' := 129) rfl rfl ?_
      refine p_iconst B183 at_129 (pc' := 130) rfl (v := (1 : Int32)) (by decide) ?_
      refine b_icT B183 at_130 (pc' := 139) (show ¬ (1 : Int32) < (0 : Int32) from by decide) (by decide) (by decide) ?_
      refine r_new B183 at_139 (pc' := 142) rfl (W1 B183.gw) (W2 B183.gw) (W3 B183.gw) (Ly_o_String B183.gw) (by decide) (cs' := 3) rfl (ss' := 6) rfl (by decide) (by decide) ?_
      intro T185 a187 B186
      refine p_dup B186 at_142 (pc' := 143) rfl rfl ?_
      refine p_aload B186 at_143 (pc' := 145) rfl rfl rfl ?_
      have B188 : RH g D0 M T185 [(a177, .inr (.char, "[C", [(.int f0), (.int f1)])), o_String a187 (.int (0 : Int32)) .null, (a184, .inr (.char, "[C", []))] [] 3 6 := B186.front (i := 2) rfl rfl
      have B189 : RH g D0 M T185 [o_String a187 (.int (0 : Int32)) .null, (a177, .inr (.char, "[C", [(.int f0), (.int f1)])), (a184, .inr (.char, "[C", []))] [] 3 6 := B188.front (i := 1) rfl rfl
      refine r_special (D' := D1) B189 at_145 (pc' := 148) rfl rfl rfl (W4 B189.gw) (W5 B189.gw) (W3 B189.gw) (W6 B189.gw) (by decide) (k_i1 W a187 a177 "[C" ([f0, f1] : List Int32) (by simp only [List.mem_cons, List.not_mem_nil, or_false, forall_eq_or_imp, forall_eq]; exact ⟨hf0.le, hf1.le⟩) (by simp) [(a184, .inr (.char, "[C", []))] []) (a := a187) (argsL := [(.ref a177)]) (rest := [(.ref a187)]) rfl pd8 rfl rfl rfl (W := 1) rfl (by decide) (by decide) (cs' := 7) rfl (ss' := 14) rfl (by decide) (by decide) ?_
      intro T190 v191 B192
      replace B192 := Rn.and B192
      obtain ⟨rfl, B192⟩ := B192
      replace B192 := Rn.ex B192
      obtain ⟨b193, B192⟩ := B192
      have B194 : RH g D0 M T190 [(a184, .inr (.char, "[C", []))] [(a187, b193, 0, [(bV f0), (bV f1)])] 7 14 := B192.del 0 rfl
      show Fn g D0 M _ (T190.setTop (mkF M.m 148 #[.val (.int p0), .val (.int p1), .val (.int p2), .val (.int (2 : Int32)), .val (.int (0 : Int32)), .val (.int sm), .val (.int f0), .val (.int f1), .val (.int t0), .val (.int t1), .val (.ref a177), .val (.ref a184), .unset, .unset, .unset, .unset] [(.ref a187)]))
      refine p_astore B194 at_148 (pc' := 150) rfl rfl (Ls' := #[.val (.int p0), .val (.int p1), .val (.int p2), .val (.int (2 : Int32)), .val (.int (0 : Int32)), .val (.int sm), .val (.int f0), .val (.int f1), .val (.int t0), .val (.int t1), .val (.ref a177), .val (.ref a184), .val (.ref a187), .unset, .unset, .unset]) rfl ?_
      refine r_new B194 at_150 (pc' := 153) rfl (W1 B194.gw) (W2 B194.gw) (W3 B194.gw) (Ly_o_String B194.gw) (by decide) (cs' := 8) rfl (ss' := 18) rfl (by decide) (by decide) ?_
      intro T195 a197 B196
      refine p_dup B196 at_153 (pc' := 154) rfl rfl ?_
      refine p_aload B196 at_154 (pc' := 156) rfl rfl rfl ?_
      have B198 : RH g D0 M T195 [(a184, .inr (.char, "[C", [])), o_String a197 (.int (0 : Int32)) .null] [(a187, b193, 0, [(bV f0), (bV f1)])] 8 18 := B196.front (i := 1) rfl rfl
      have B199 : RH g D0 M T195 [o_String a197 (.int (0 : Int32)) .null, (a184, .inr (.char, "[C", []))] [(a187, b193, 0, [(bV f0), (bV f1)])] 8 18 := B198.front (i := 1) rfl rfl
      refine r_special (D' := D1) B199 at_156 (pc' := 159) rfl rfl rfl (W4 B199.gw) (W5 B199.gw) (W3 B199.gw) (W6 B199.gw) (by decide) (k_i1 W a197 a184 "[C" ([] : List Int32) (by simp) (by simp) [] [(a187, b193, 0, [(bV f0), (bV f1)])]) (a := a197) (argsL := [(.ref a184)]) (rest := [(.ref a197)]) rfl pd8 rfl rfl rfl (W := 1) rfl (by decide) (by decide) (cs' := 12) rfl (ss' := 26) rfl (by decide) (by decide) ?_
      intro T200 v201 B202
      replace B202 := Rn.and B202
      obtain ⟨rfl, B202⟩ := B202
      replace B202 := Rn.ex B202
      obtain ⟨b203, B202⟩ := B202
      have B204 : RH g D0 M T200 [] [(a197, b203, 0, []), (a187, b193, 0, [(bV f0), (bV f1)])] 12 26 := B202.del 0 rfl
      show Fn g D0 M _ (T200.setTop (mkF M.m 159 #[.val (.int p0), .val (.int p1), .val (.int p2), .val (.int (2 : Int32)), .val (.int (0 : Int32)), .val (.int sm), .val (.int f0), .val (.int f1), .val (.int t0), .val (.int t1), .val (.ref a177), .val (.ref a184), .val (.ref a187), .unset, .unset, .unset] [(.ref a197)]))
      refine p_astore B204 at_159 (pc' := 161) rfl rfl (Ls' := #[.val (.int p0), .val (.int p1), .val (.int p2), .val (.int (2 : Int32)), .val (.int (0 : Int32)), .val (.int sm), .val (.int f0), .val (.int f1), .val (.int t0), .val (.int t1), .val (.ref a177), .val (.ref a184), .val (.ref a187), .val (.ref a197), .unset, .unset]) rfl ?_
      exact law161 W _ _ _ _ _ _ f0 f1 t0 t1 _ _ a187 a197 _ _ (xs := [f0.toInt8.toInt32, f1.toInt8.toInt32]) (ys := []) (by simp) (by simp) (fun _ q => absurd (congrArg List.length q) (by simp)) (fun q => absurd q (by decide)) (fun q => absurd q (by decide)) (fun q => absurd q (by decide)) (Rn.mono B204 (by decide) (by decide))
    · refine p_iloadN B at_84 (pc' := 85) rfl rfl ?_
      refine r_newp B at_85 (pc' := 87) rfl (ty := .char) (W0 B.gw) rfl (by decide) (nn := 2) (by decide) (cap := 2) (by decide) (by decide) (cs' := 1) rfl (ss' := 2) rfl (by decide) (by decide) (ad := "[C") (by decide) (by decide) nofun (vs := [(.int (0 : Int32)), (.int (0 : Int32))]) rfl ?_
      intro T205 a207 B206
      refine p_astore B206 at_87 (pc' := 89) rfl rfl (Ls' := #[.val (.int p0), .val (.int p1), .val (.int p2), .val (.int (2 : Int32)), .val (.int (1 : Int32)), .val (.int sm), .val (.int f0), .val (.int f1), .val (.int t0), .val (.int t1), .val (.ref a207), .unset, .unset, .unset, .unset, .unset]) rfl ?_
      refine p_iloadN B206 at_89 (pc' := 90) rfl rfl ?_
      refine b_ifF B206 at_90 (pc' := 93) rfl (show (0 : Int32) < (2 : Int32) from by decide) ?_
      refine p_aload B206 at_93 (pc' := 95) rfl rfl rfl ?_
      refine p_iconst B206 at_95 (pc' := 96) rfl (v := (0 : Int32)) (by decide) ?_
      refine p_iload B206 at_96 (pc' := 98) rfl rfl ?_
      refine r_castore B206 at_98 (pc' := 99) rfl (i := 0) rfl (by decide) (k := 0) (by decide) (by simp) (x' := f0) hf0.nar (H' := [(a207, .inr (.char, "[C", [(.int f0), (.int (0 : Int32))]))]) rfl ?_
      intro T208 B209
      refine p_iloadN B209 at_99 (pc' := 100) rfl rfl ?_
      refine p_iconst B209 at_100 (pc' := 101) rfl (v := (1 : Int32)) (by decide) ?_
      refine b_icF B209 at_101 (pc' := 104) rfl (show (1 : Int32) < (2 : Int32) from by decide) ?_
      refine p_aload B209 at_104 (pc' := 106) rfl rfl rfl ?_
      refine p_iconst B209 at_106 (pc' := 107) rfl (v := (1 : Int32)) (by decide) ?_
      refine p_iload B209 at_107 (pc' := 109) rfl rfl ?_
      refine r_castore B209 at_109 (pc' := 110) rfl (i := 0) rfl (by decide) (k := 1) (by decide) (by simp) (x' := f1) hf1.nar (H' := [(a207, .inr (.char, "[C", [(.int f0), (.int f1)]))]) rfl ?_
      intro T210 B211
      refine p_iload B211 at_110 (pc' := 112) rfl rfl ?_
      refine r_newp B211 at_112 (pc' := 114) rfl (ty := .char) (W0 B211.gw) rfl (by decide) (nn := 1) (by decide) (cap := 1) (by decide) (by decide) (cs' := 2) rfl (ss' := 3) rfl (by decide) (by decide) (ad := "[C") (by decide) (by decide) nofun (vs := [(.int (0 : Int32))]) rfl ?_
      intro T212 a214 B213
      refine p_astore B213 at_114 (pc' := 116) rfl rfl (Ls' := #[.val (.int p0), .val (.int p1), .val (.int p2), .val (.int (2 : Int32)), .val (.int (1 : Int32)), .val (.int sm), .val (.int f0), .val (.int f1), .val (.int t0), .val (.int t1), .val (.ref a207), .val (.ref a214), .unset, .unset, .unset, .unset]) rfl ?_
      refine p_iload B213 at_116 (pc' := 118) rfl rfl ?_
      refine b_ifF B213 at_118 (pc' := 121) rfl (show (0 : Int32) < (1 : Int32) from by decide) ?_
      refine p_aload B213 at_121 (pc' := 123) rfl rfl rfl ?_
      refine p_iconst B213 at_123 (pc' := 124) rfl (v := (0 : Int32)) (by decide) ?_
      refine p_iload B213 at_124 (pc' := 126) rfl rfl ?_
      refine r_castore B213 at_126 (pc' := 127) rfl (i := 0) rfl (by decide) (k := 0) (by decide) (by simp) (x' := t0) ht0.nar (H' := [(a214, .inr (.char, "[C", [(.int t0)])), (a207, .inr (.char, "[C", [(.int f0), (.int f1)]))]) rfl ?_
      intro T215 B216
      refine p_iload B216 at_127 (pc' := 129) rfl rfl ?_
      refine p_iconst B216 at_129 (pc' := 130) rfl (v := (1 : Int32)) (by decide) ?_
      refine b_icT B216 at_130 (pc' := 139) (show ¬ (1 : Int32) < (1 : Int32) from by decide) (by decide) (by decide) ?_
      refine r_new B216 at_139 (pc' := 142) rfl (W1 B216.gw) (W2 B216.gw) (W3 B216.gw) (Ly_o_String B216.gw) (by decide) (cs' := 3) rfl (ss' := 7) rfl (by decide) (by decide) ?_
      intro T217 a219 B218
      refine p_dup B218 at_142 (pc' := 143) rfl rfl ?_
      refine p_aload B218 at_143 (pc' := 145) rfl rfl rfl ?_
      have B220 : RH g D0 M T217 [(a207, .inr (.char, "[C", [(.int f0), (.int f1)])), o_String a219 (.int (0 : Int32)) .null, (a214, .inr (.char, "[C", [(.int t0)]))] [] 3 7 := B218.front (i := 2) rfl rfl
      have B221 : RH g D0 M T217 [o_String a219 (.int (0 : Int32)) .null, (a207, .inr (.char, "[C", [(.int f0), (.int f1)])), (a214, .inr (.char, "[C", [(.int t0)]))] [] 3 7 := B220.front (i := 1) rfl rfl
      refine r_special (D' := D1) B221 at_145 (pc' := 148) rfl rfl rfl (W4 B221.gw) (W5 B221.gw) (W3 B221.gw) (W6 B221.gw) (by decide) (k_i1 W a219 a207 "[C" ([f0, f1] : List Int32) (by simp only [List.mem_cons, List.not_mem_nil, or_false, forall_eq_or_imp, forall_eq]; exact ⟨hf0.le, hf1.le⟩) (by simp) [(a214, .inr (.char, "[C", [(.int t0)]))] []) (a := a219) (argsL := [(.ref a207)]) (rest := [(.ref a219)]) rfl pd8 rfl rfl rfl (W := 1) rfl (by decide) (by decide) (cs' := 7) rfl (ss' := 15) rfl (by decide) (by decide) ?_
      intro T222 v223 B224
      replace B224 := Rn.and B224
      obtain ⟨rfl, B224⟩ := B224
      replace B224 := Rn.ex B224
      obtain ⟨b225, B224⟩ := B224
      have B226 : RH g D0 M T222 [(a214, .inr (.char, "[C", [(.int t0)]))] [(a219, b225, 0, [(bV f0), (bV f1)])] 7 15 := B224.del 0 rfl
      show Fn g D0 M _ (T222.setTop (mkF M.m 148 #[.val (.int p0), .val (.int p1), .val (.int p2), .val (.int (2 : Int32)), .val (.int (1 : Int32)), .val (.int sm), .val (.int f0), .val (.int f1), .val (.int t0), .val (.int t1), .val (.ref a207), .val (.ref a214), .unset, .unset, .unset, .unset] [(.ref a219)]))
      refine p_astore B226 at_148 (pc' := 150) rfl rfl (Ls' := #[.val (.int p0), .val (.int p1), .val (.int p2), .val (.int (2 : Int32)), .val (.int (1 : Int32)), .val (.int sm), .val (.int f0), .val (.int f1), .val (.int t0), .val (.int t1), .val (.ref a207), .val (.ref a214), .val (.ref a219), .unset, .unset, .unset]) rfl ?_
      refine r_new B226 at_150 (pc' := 153) rfl (W1 B226.gw) (W2 B226.gw) (W3 B226.gw) (Ly_o_String B226.gw) (by decide) (cs' := 8) rfl (ss' := 19) rfl (by decide) (by decide) ?_
      intro T227 a229 B228
      refine p_dup B228 at_153 (pc' := 154) rfl rfl ?_
      refine p_aload B228 at_154 (pc' := 156) rfl rfl rfl ?_
      have B230 : RH g D0 M T227 [(a214, .inr (.char, "[C", [(.int t0)])), o_String a229 (.int (0 : Int32)) .null] [(a219, b225, 0, [(bV f0), (bV f1)])] 8 19 := B228.front (i := 1) rfl rfl
      have B231 : RH g D0 M T227 [o_String a229 (.int (0 : Int32)) .null, (a214, .inr (.char, "[C", [(.int t0)]))] [(a219, b225, 0, [(bV f0), (bV f1)])] 8 19 := B230.front (i := 1) rfl rfl
      refine r_special (D' := D1) B231 at_156 (pc' := 159) rfl rfl rfl (W4 B231.gw) (W5 B231.gw) (W3 B231.gw) (W6 B231.gw) (by decide) (k_i1 W a229 a214 "[C" ([t0] : List Int32) (by simp only [List.mem_cons, List.not_mem_nil, or_false, forall_eq_or_imp, forall_eq]; exact ht0.le) (by simp) [] [(a219, b225, 0, [(bV f0), (bV f1)])]) (a := a229) (argsL := [(.ref a214)]) (rest := [(.ref a229)]) rfl pd8 rfl rfl rfl (W := 1) rfl (by decide) (by decide) (cs' := 12) rfl (ss' := 27) rfl (by decide) (by decide) ?_
      intro T232 v233 B234
      replace B234 := Rn.and B234
      obtain ⟨rfl, B234⟩ := B234
      replace B234 := Rn.ex B234
      obtain ⟨b235, B234⟩ := B234
      have B236 : RH g D0 M T232 [] [(a229, b235, 0, [(bV t0)]), (a219, b225, 0, [(bV f0), (bV f1)])] 12 27 := B234.del 0 rfl
      show Fn g D0 M _ (T232.setTop (mkF M.m 159 #[.val (.int p0), .val (.int p1), .val (.int p2), .val (.int (2 : Int32)), .val (.int (1 : Int32)), .val (.int sm), .val (.int f0), .val (.int f1), .val (.int t0), .val (.int t1), .val (.ref a207), .val (.ref a214), .val (.ref a219), .unset, .unset, .unset] [(.ref a229)]))
      refine p_astore B236 at_159 (pc' := 161) rfl rfl (Ls' := #[.val (.int p0), .val (.int p1), .val (.int p2), .val (.int (2 : Int32)), .val (.int (1 : Int32)), .val (.int sm), .val (.int f0), .val (.int f1), .val (.int t0), .val (.int t1), .val (.ref a207), .val (.ref a214), .val (.ref a219), .val (.ref a229), .unset, .unset]) rfl ?_
      exact law161 W _ _ _ _ _ _ f0 f1 t0 t1 _ _ a219 a229 _ _ (xs := [f0.toInt8.toInt32, f1.toInt8.toInt32]) (ys := [t0.toInt8.toInt32]) (by simp) (by simp) (fun _ q => absurd (congrArg List.length q) (by simp)) (fun q => absurd q (by decide)) (fun q => absurd q (by decide)) (fun q => absurd q (by decide)) (Rn.mono B236 (by decide) (by decide))
    · refine p_iloadN B at_84 (pc' := 85) rfl rfl ?_
      refine r_newp B at_85 (pc' := 87) rfl (ty := .char) (W0 B.gw) rfl (by decide) (nn := 2) (by decide) (cap := 2) (by decide) (by decide) (cs' := 1) rfl (ss' := 2) rfl (by decide) (by decide) (ad := "[C") (by decide) (by decide) nofun (vs := [(.int (0 : Int32)), (.int (0 : Int32))]) rfl ?_
      intro T237 a239 B238
      refine p_astore B238 at_87 (pc' := 89) rfl rfl (Ls' := #[.val (.int p0), .val (.int p1), .val (.int p2), .val (.int (2 : Int32)), .val (.int (2 : Int32)), .val (.int sm), .val (.int f0), .val (.int f1), .val (.int t0), .val (.int t1), .val (.ref a239), .unset, .unset, .unset, .unset, .unset]) rfl ?_
      refine p_iloadN B238 at_89 (pc' := 90) rfl rfl ?_
      refine b_ifF B238 at_90 (pc' := 93) rfl (show (0 : Int32) < (2 : Int32) from by decide) ?_
      refine p_aload B238 at_93 (pc' := 95) rfl rfl rfl ?_
      refine p_iconst B238 at_95 (pc' := 96) rfl (v := (0 : Int32)) (by decide) ?_
      refine p_iload B238 at_96 (pc' := 98) rfl rfl ?_
      refine r_castore B238 at_98 (pc' := 99) rfl (i := 0) rfl (by decide) (k := 0) (by decide) (by simp) (x' := f0) hf0.nar (H' := [(a239, .inr (.char, "[C", [(.int f0), (.int (0 : Int32))]))]) rfl ?_
      intro T240 B241
      refine p_iloadN B241 at_99 (pc' := 100) rfl rfl ?_
      refine p_iconst B241 at_100 (pc' := 101) rfl (v := (1 : Int32)) (by decide) ?_
      refine b_icF B241 at_101 (pc' := 104) rfl (show (1 : Int32) < (2 : Int32) from by decide) ?_
      refine p_aload B241 at_104 (pc' := 106) rfl rfl rfl ?_
      refine p_iconst B241 at_106 (pc' := 107) rfl (v := (1 : Int32)) (by decide) ?_
      refine p_iload B241 at_107 (pc' := 109) rfl rfl ?_
      refine r_castore B241 at_109 (pc' := 110) rfl (i := 0) rfl (by decide) (k := 1) (by decide) (by simp) (x' := f1) hf1.nar (H' := [(a239, .inr (.char, "[C", [(.int f0), (.int f1)]))]) rfl ?_
      intro T242 B243
      refine p_iload B243 at_110 (pc' := 112) rfl rfl ?_
      refine r_newp B243 at_112 (pc' := 114) rfl (ty := .char) (W0 B243.gw) rfl (by decide) (nn := 2) (by decide) (cap := 2) (by decide) (by decide) (cs' := 2) rfl (ss' := 4) rfl (by decide) (by decide) (ad := "[C") (by decide) (by decide) nofun (vs := [(.int (0 : Int32)), (.int (0 : Int32))]) rfl ?_
      intro T244 a246 B245
      refine p_astore B245 at_114 (pc' := 116) rfl rfl (Ls' := #[.val (.int p0), .val (.int p1), .val (.int p2), .val (.int (2 : Int32)), .val (.int (2 : Int32)), .val (.int sm), .val (.int f0), .val (.int f1), .val (.int t0), .val (.int t1), .val (.ref a239), .val (.ref a246), .unset, .unset, .unset, .unset]) rfl ?_
      refine p_iload B245 at_116 (pc' := 118) rfl rfl ?_
      refine b_ifF B245 at_118 (pc' := 121) rfl (show (0 : Int32) < (2 : Int32) from by decide) ?_
      refine p_aload B245 at_121 (pc' := 123) rfl rfl rfl ?_
      refine p_iconst B245 at_123 (pc' := 124) rfl (v := (0 : Int32)) (by decide) ?_
      refine p_iload B245 at_124 (pc' := 126) rfl rfl ?_
      refine r_castore B245 at_126 (pc' := 127) rfl (i := 0) rfl (by decide) (k := 0) (by decide) (by simp) (x' := t0) ht0.nar (H' := [(a246, .inr (.char, "[C", [(.int t0), (.int (0 : Int32))])), (a239, .inr (.char, "[C", [(.int f0), (.int f1)]))]) rfl ?_
      intro T247 B248
      refine p_iload B248 at_127 (pc' := 129) rfl rfl ?_
      refine p_iconst B248 at_129 (pc' := 130) rfl (v := (1 : Int32)) (by decide) ?_
      refine b_icF B248 at_130 (pc' := 133) rfl (show (1 : Int32) < (2 : Int32) from by decide) ?_
      refine p_aload B248 at_133 (pc' := 135) rfl rfl rfl ?_
      refine p_iconst B248 at_135 (pc' := 136) rfl (v := (1 : Int32)) (by decide) ?_
      refine p_iload B248 at_136 (pc' := 138) rfl rfl ?_
      refine r_castore B248 at_138 (pc' := 139) rfl (i := 0) rfl (by decide) (k := 1) (by decide) (by simp) (x' := t1) ht1.nar (H' := [(a246, .inr (.char, "[C", [(.int t0), (.int t1)])), (a239, .inr (.char, "[C", [(.int f0), (.int f1)]))]) rfl ?_
      intro T249 B250
      refine r_new B250 at_139 (pc' := 142) rfl (W1 B250.gw) (W2 B250.gw) (W3 B250.gw) (Ly_o_String B250.gw) (by decide) (cs' := 3) rfl (ss' := 8) rfl (by decide) (by decide) ?_
      intro T251 a253 B252
      refine p_dup B252 at_142 (pc' := 143) rfl rfl ?_
      refine p_aload B252 at_143 (pc' := 145) rfl rfl rfl ?_
      have B254 : RH g D0 M T251 [(a239, .inr (.char, "[C", [(.int f0), (.int f1)])), o_String a253 (.int (0 : Int32)) .null, (a246, .inr (.char, "[C", [(.int t0), (.int t1)]))] [] 3 8 := B252.front (i := 2) rfl rfl
      have B255 : RH g D0 M T251 [o_String a253 (.int (0 : Int32)) .null, (a239, .inr (.char, "[C", [(.int f0), (.int f1)])), (a246, .inr (.char, "[C", [(.int t0), (.int t1)]))] [] 3 8 := B254.front (i := 1) rfl rfl
      refine r_special (D' := D1) B255 at_145 (pc' := 148) rfl rfl rfl (W4 B255.gw) (W5 B255.gw) (W3 B255.gw) (W6 B255.gw) (by decide) (k_i1 W a253 a239 "[C" ([f0, f1] : List Int32) (by simp only [List.mem_cons, List.not_mem_nil, or_false, forall_eq_or_imp, forall_eq]; exact ⟨hf0.le, hf1.le⟩) (by simp) [(a246, .inr (.char, "[C", [(.int t0), (.int t1)]))] []) (a := a253) (argsL := [(.ref a239)]) (rest := [(.ref a253)]) rfl pd8 rfl rfl rfl (W := 1) rfl (by decide) (by decide) (cs' := 7) rfl (ss' := 16) rfl (by decide) (by decide) ?_
      intro T256 v257 B258
      replace B258 := Rn.and B258
      obtain ⟨rfl, B258⟩ := B258
      replace B258 := Rn.ex B258
      obtain ⟨b259, B258⟩ := B258
      have B260 : RH g D0 M T256 [(a246, .inr (.char, "[C", [(.int t0), (.int t1)]))] [(a253, b259, 0, [(bV f0), (bV f1)])] 7 16 := B258.del 0 rfl
      show Fn g D0 M _ (T256.setTop (mkF M.m 148 #[.val (.int p0), .val (.int p1), .val (.int p2), .val (.int (2 : Int32)), .val (.int (2 : Int32)), .val (.int sm), .val (.int f0), .val (.int f1), .val (.int t0), .val (.int t1), .val (.ref a239), .val (.ref a246), .unset, .unset, .unset, .unset] [(.ref a253)]))
      refine p_astore B260 at_148 (pc' := 150) rfl rfl (Ls' := #[.val (.int p0), .val (.int p1), .val (.int p2), .val (.int (2 : Int32)), .val (.int (2 : Int32)), .val (.int sm), .val (.int f0), .val (.int f1), .val (.int t0), .val (.int t1), .val (.ref a239), .val (.ref a246), .val (.ref a253), .unset, .unset, .unset]) rfl ?_
      refine r_new B260 at_150 (pc' := 153) rfl (W1 B260.gw) (W2 B260.gw) (W3 B260.gw) (Ly_o_String B260.gw) (by decide) (cs' := 8) rfl (ss' := 20) rfl (by decide) (by decide) ?_
      intro T261 a263 B262
      refine p_dup B262 at_153 (pc' := 154) rfl rfl ?_
      refine p_aload B262 at_154 (pc' := 156) rfl rfl rfl ?_
      have B264 : RH g D0 M T261 [(a246, .inr (.char, "[C", [(.int t0), (.int t1)])), o_String a263 (.int (0 : Int32)) .null] [(a253, b259, 0, [(bV f0), (bV f1)])] 8 20 := B262.front (i := 1) rfl rfl
      have B265 : RH g D0 M T261 [o_String a263 (.int (0 : Int32)) .null, (a246, .inr (.char, "[C", [(.int t0), (.int t1)]))] [(a253, b259, 0, [(bV f0), (bV f1)])] 8 20 := B264.front (i := 1) rfl rfl
      refine r_special (D' := D1) B265 at_156 (pc' := 159) rfl rfl rfl (W4 B265.gw) (W5 B265.gw) (W3 B265.gw) (W6 B265.gw) (by decide) (k_i1 W a263 a246 "[C" ([t0, t1] : List Int32) (by simp only [List.mem_cons, List.not_mem_nil, or_false, forall_eq_or_imp, forall_eq]; exact ⟨ht0.le, ht1.le⟩) (by simp) [] [(a253, b259, 0, [(bV f0), (bV f1)])]) (a := a263) (argsL := [(.ref a246)]) (rest := [(.ref a263)]) rfl pd8 rfl rfl rfl (W := 1) rfl (by decide) (by decide) (cs' := 12) rfl (ss' := 28) rfl (by decide) (by decide) ?_
      intro T266 v267 B268
      replace B268 := Rn.and B268
      obtain ⟨rfl, B268⟩ := B268
      replace B268 := Rn.ex B268
      obtain ⟨b269, B268⟩ := B268
      have B270 : RH g D0 M T266 [] [(a263, b269, 0, [(bV t0), (bV t1)]), (a253, b259, 0, [(bV f0), (bV f1)])] 12 28 := B268.del 0 rfl
      show Fn g D0 M _ (T266.setTop (mkF M.m 159 #[.val (.int p0), .val (.int p1), .val (.int p2), .val (.int (2 : Int32)), .val (.int (2 : Int32)), .val (.int sm), .val (.int f0), .val (.int f1), .val (.int t0), .val (.int t1), .val (.ref a239), .val (.ref a246), .val (.ref a253), .unset, .unset, .unset] [(.ref a263)]))
      refine p_astore B270 at_159 (pc' := 161) rfl rfl (Ls' := #[.val (.int p0), .val (.int p1), .val (.int p2), .val (.int (2 : Int32)), .val (.int (2 : Int32)), .val (.int sm), .val (.int f0), .val (.int f1), .val (.int t0), .val (.int t1), .val (.ref a239), .val (.ref a246), .val (.ref a253), .val (.ref a263), .unset, .unset]) rfl ?_
      exact law161 W _ _ _ _ _ _ f0 f1 t0 t1 _ _ a253 a263 _ _ (xs := [f0.toInt8.toInt32, f1.toInt8.toInt32]) (ys := [t0.toInt8.toInt32, t1.toInt8.toInt32]) (by simp) (by simp) (fun q => absurd rfl q) (fun _ _ n q => n (hf0.inj ht0 (by simpa only [List.cons.injEq] using q : _ ∧ _).1)) (fun _ _ n q => n (hf1.inj ht1 (by simpa only [List.cons.injEq] using q : _ ∧ _ ∧ _).2.1)) (fun _ q r => by rcases q with q | q; exact absurd (by decide) q; rcases r with r | r; exact absurd (by decide) r; rw [q, r]) (Rn.mono B270 (by decide) (by decide))
theorem k_law {g : GG} (W : GW g) (p0 p1 p2 : Int32) : CtW g D0 tables_1 #[.int p0, .int p1, .int p2] [] [] (fun v _ _ => v = some (.int 1)) := by
  refine CtW.body W (by decide +kernel) (ef_law p0 p1 p2) ?_
  intro M T B
  refine p_iloadN B at_0 (pc' := 1) rfl rfl ?_
  refine p_iconst B at_1 (pc' := 2) rfl (v := (3 : Int32)) (by decide) ?_
  refine p_iand B at_2 (pc' := 3) rfl rfl ?_
  refine p_iconst B at_3 (pc' := 4) rfl (v := (3 : Int32)) (by decide) ?_
  refine p_irem B at_4 (pc' := 5) rfl (by decide) rfl ?_
  refine p_istoreN B at_5 (pc' := 6) rfl (Ls' := #[.val (.int p0), .val (.int p1), .val (.int p2), .val (.int ((p2 &&& (3 : Int32)) % (3 : Int32))), .unset, .unset, .unset, .unset, .unset, .unset, .unset, .unset, .unset, .unset, .unset, .unset]) rfl ?_
  refine p_iloadN B at_6 (pc' := 7) rfl rfl ?_
  refine p_iconst B at_7 (pc' := 8) rfl (v := (2 : Int32)) (by decide) ?_
  refine p_iushr B at_8 (pc' := 9) rfl rfl ?_
  refine p_iconst B at_9 (pc' := 10) rfl (v := (3 : Int32)) (by decide) ?_
  refine p_iand B at_10 (pc' := 11) rfl rfl ?_
  refine p_iconst B at_11 (pc' := 12) rfl (v := (3 : Int32)) (by decide) ?_
  refine p_irem B at_12 (pc' := 13) rfl (by decide) rfl ?_
  refine p_istore B at_13 (pc' := 15) rfl (Ls' := #[.val (.int p0), .val (.int p1), .val (.int p2), .val (.int ((p2 &&& (3 : Int32)) % (3 : Int32))), .val (.int (((((p2).toUInt32 >>> ((2 : Int32) &&& 31).toUInt32).toInt32) &&& (3 : Int32)) % (3 : Int32))), .unset, .unset, .unset, .unset, .unset, .unset, .unset, .unset, .unset, .unset, .unset]) rfl ?_
  refine p_iloadN B at_15 (pc' := 16) rfl rfl ?_
  refine p_iconst B at_16 (pc' := 17) rfl (v := (4 : Int32)) (by decide) ?_
  refine p_iushr B at_17 (pc' := 18) rfl rfl ?_
  refine p_iconst B at_18 (pc' := 19) rfl (v := (1 : Int32)) (by decide) ?_
  refine p_iand B at_19 (pc' := 20) rfl rfl ?_
  by_cases h1 : ((((p2).toUInt32 >>> ((4 : Int32) &&& 31).toUInt32).toInt32) &&& (1 : Int32)) = (0 : Int32)
  · refine b_ifT B at_20 (pc' := 27) h1 (by decide) (by decide) ?_
    refine p_iconst B at_27 (pc' := 28) rfl (v := (0 : Int32)) (by decide) ?_
    refine p_istore B at_28 (pc' := 30) rfl (Ls' := #[.val (.int p0), .val (.int p1), .val (.int p2), .val (.int ((p2 &&& (3 : Int32)) % (3 : Int32))), .val (.int (((((p2).toUInt32 >>> ((2 : Int32) &&& 31).toUInt32).toInt32) &&& (3 : Int32)) % (3 : Int32))), .val (.int (0 : Int32)), .unset, .unset, .unset, .unset, .unset, .unset, .unset, .unset, .unset, .unset]) rfl ?_
    refine p_iloadN B at_30 (pc' := 31) rfl rfl ?_
    refine p_sipush B at_31 (pc' := 34) rfl (v := (255 : Int32)) (by decide) ?_
    refine p_iand B at_34 (pc' := 35) rfl rfl ?_
    refine p_i2c B at_35 (pc' := 36) rfl ?_
    refine p_istore B at_36 (pc' := 38) rfl (Ls' := #[.val (.int p0), .val (.int p1), .val (.int p2), .val (.int ((p2 &&& (3 : Int32)) % (3 : Int32))), .val (.int (((((p2).toUInt32 >>> ((2 : Int32) &&& 31).toUInt32).toInt32) &&& (3 : Int32)) % (3 : Int32))), .val (.int (0 : Int32)), .val (.int ((p0 &&& (255 : Int32))).toUInt32.toUInt16.toUInt32.toInt32), .unset, .unset, .unset, .unset, .unset, .unset, .unset, .unset, .unset]) rfl ?_
    refine p_iloadN B at_38 (pc' := 39) rfl rfl ?_
    refine p_bipush B at_39 (pc' := 41) rfl (v := (8 : Int32)) (by decide) ?_
    refine p_iushr B at_41 (pc' := 42) rfl rfl ?_
    refine p_sipush B at_42 (pc' := 45) rfl (v := (255 : Int32)) (by decide) ?_
    refine p_iand B at_45 (pc' := 46) rfl rfl ?_
    refine p_i2c B at_46 (pc' := 47) rfl ?_
    refine p_istore B at_47 (pc' := 49) rfl (Ls' := #[.val (.int p0), .val (.int p1), .val (.int p2), .val (.int ((p2 &&& (3 : Int32)) % (3 : Int32))), .val (.int (((((p2).toUInt32 >>> ((2 : Int32) &&& 31).toUInt32).toInt32) &&& (3 : Int32)) % (3 : Int32))), .val (.int (0 : Int32)), .val (.int ((p0 &&& (255 : Int32))).toUInt32.toUInt16.toUInt32.toInt32), .val (.int (((((p0).toUInt32 >>> ((8 : Int32) &&& 31).toUInt32).toInt32) &&& (255 : Int32))).toUInt32.toUInt16.toUInt32.toInt32), .unset, .unset, .unset, .unset, .unset, .unset, .unset, .unset]) rfl ?_
    refine p_iloadN B at_49 (pc' := 50) rfl rfl ?_
    refine p_sipush B at_50 (pc' := 53) rfl (v := (255 : Int32)) (by decide) ?_
    refine p_iand B at_53 (pc' := 54) rfl rfl ?_
    refine p_i2c B at_54 (pc' := 55) rfl ?_
    refine p_istore B at_55 (pc' := 57) rfl (Ls' := #[.val (.int p0), .val (.int p1), .val (.int p2), .val (.int ((p2 &&& (3 : Int32)) % (3 : Int32))), .val (.int (((((p2).toUInt32 >>> ((2 : Int32) &&& 31).toUInt32).toInt32) &&& (3 : Int32)) % (3 : Int32))), .val (.int (0 : Int32)), .val (.int ((p0 &&& (255 : Int32))).toUInt32.toUInt16.toUInt32.toInt32), .val (.int (((((p0).toUInt32 >>> ((8 : Int32) &&& 31).toUInt32).toInt32) &&& (255 : Int32))).toUInt32.toUInt16.toUInt32.toInt32), .val (.int ((p1 &&& (255 : Int32))).toUInt32.toUInt16.toUInt32.toInt32), .unset, .unset, .unset, .unset, .unset, .unset, .unset]) rfl ?_
    refine p_iloadN B at_57 (pc' := 58) rfl rfl ?_
    refine p_bipush B at_58 (pc' := 60) rfl (v := (8 : Int32)) (by decide) ?_
    refine p_iushr B at_60 (pc' := 61) rfl rfl ?_
    refine p_sipush B at_61 (pc' := 64) rfl (v := (255 : Int32)) (by decide) ?_
    refine p_iand B at_64 (pc' := 65) rfl rfl ?_
    refine p_i2c B at_65 (pc' := 66) rfl ?_
    refine p_istore B at_66 (pc' := 68) rfl (Ls' := #[.val (.int p0), .val (.int p1), .val (.int p2), .val (.int ((p2 &&& (3 : Int32)) % (3 : Int32))), .val (.int (((((p2).toUInt32 >>> ((2 : Int32) &&& 31).toUInt32).toInt32) &&& (3 : Int32)) % (3 : Int32))), .val (.int (0 : Int32)), .val (.int ((p0 &&& (255 : Int32))).toUInt32.toUInt16.toUInt32.toInt32), .val (.int (((((p0).toUInt32 >>> ((8 : Int32) &&& 31).toUInt32).toInt32) &&& (255 : Int32))).toUInt32.toUInt16.toUInt32.toInt32), .val (.int ((p1 &&& (255 : Int32))).toUInt32.toUInt16.toUInt32.toInt32), .val (.int (((((p1).toUInt32 >>> ((8 : Int32) &&& 31).toUInt32).toInt32) &&& (255 : Int32))).toUInt32.toUInt16.toUInt32.toInt32), .unset, .unset, .unset, .unset, .unset, .unset]) rfl ?_
    refine p_iload B at_68 (pc' := 70) rfl rfl ?_
    refine b_ifT B at_70 (pc' := 84) (show (0 : Int32) = (0 : Int32) from by decide) (by decide) (by decide) ?_
    exact law84 W _ _ _ _ _ _ _ _ _ _ (r3 _) (r3 _) ⟨_, rfl⟩ ⟨_, rfl⟩ ⟨_, rfl⟩ ⟨_, rfl⟩ B
  · refine b_ifF B at_20 (pc' := 23) rfl h1 ?_
    refine p_iconst B at_23 (pc' := 24) rfl (v := (1 : Int32)) (by decide) ?_
    refine b_goto B at_24 (pc' := 28) (by decide) (by decide) ?_
    refine p_istore B at_28 (pc' := 30) rfl (Ls' := #[.val (.int p0), .val (.int p1), .val (.int p2), .val (.int ((p2 &&& (3 : Int32)) % (3 : Int32))), .val (.int (((((p2).toUInt32 >>> ((2 : Int32) &&& 31).toUInt32).toInt32) &&& (3 : Int32)) % (3 : Int32))), .val (.int (1 : Int32)), .unset, .unset, .unset, .unset, .unset, .unset, .unset, .unset, .unset, .unset]) rfl ?_
    refine p_iloadN B at_30 (pc' := 31) rfl rfl ?_
    refine p_sipush B at_31 (pc' := 34) rfl (v := (255 : Int32)) (by decide) ?_
    refine p_iand B at_34 (pc' := 35) rfl rfl ?_
    refine p_i2c B at_35 (pc' := 36) rfl ?_
    refine p_istore B at_36 (pc' := 38) rfl (Ls' := #[.val (.int p0), .val (.int p1), .val (.int p2), .val (.int ((p2 &&& (3 : Int32)) % (3 : Int32))), .val (.int (((((p2).toUInt32 >>> ((2 : Int32) &&& 31).toUInt32).toInt32) &&& (3 : Int32)) % (3 : Int32))), .val (.int (1 : Int32)), .val (.int ((p0 &&& (255 : Int32))).toUInt32.toUInt16.toUInt32.toInt32), .unset, .unset, .unset, .unset, .unset, .unset, .unset, .unset, .unset]) rfl ?_
    refine p_iloadN B at_38 (pc' := 39) rfl rfl ?_
    refine p_bipush B at_39 (pc' := 41) rfl (v := (8 : Int32)) (by decide) ?_
    refine p_iushr B at_41 (pc' := 42) rfl rfl ?_
    refine p_sipush B at_42 (pc' := 45) rfl (v := (255 : Int32)) (by decide) ?_
    refine p_iand B at_45 (pc' := 46) rfl rfl ?_
    refine p_i2c B at_46 (pc' := 47) rfl ?_
    refine p_istore B at_47 (pc' := 49) rfl (Ls' := #[.val (.int p0), .val (.int p1), .val (.int p2), .val (.int ((p2 &&& (3 : Int32)) % (3 : Int32))), .val (.int (((((p2).toUInt32 >>> ((2 : Int32) &&& 31).toUInt32).toInt32) &&& (3 : Int32)) % (3 : Int32))), .val (.int (1 : Int32)), .val (.int ((p0 &&& (255 : Int32))).toUInt32.toUInt16.toUInt32.toInt32), .val (.int (((((p0).toUInt32 >>> ((8 : Int32) &&& 31).toUInt32).toInt32) &&& (255 : Int32))).toUInt32.toUInt16.toUInt32.toInt32), .unset, .unset, .unset, .unset, .unset, .unset, .unset, .unset]) rfl ?_
    refine p_iloadN B at_49 (pc' := 50) rfl rfl ?_
    refine p_sipush B at_50 (pc' := 53) rfl (v := (255 : Int32)) (by decide) ?_
    refine p_iand B at_53 (pc' := 54) rfl rfl ?_
    refine p_i2c B at_54 (pc' := 55) rfl ?_
    refine p_istore B at_55 (pc' := 57) rfl (Ls' := #[.val (.int p0), .val (.int p1), .val (.int p2), .val (.int ((p2 &&& (3 : Int32)) % (3 : Int32))), .val (.int (((((p2).toUInt32 >>> ((2 : Int32) &&& 31).toUInt32).toInt32) &&& (3 : Int32)) % (3 : Int32))), .val (.int (1 : Int32)), .val (.int ((p0 &&& (255 : Int32))).toUInt32.toUInt16.toUInt32.toInt32), .val (.int (((((p0).toUInt32 >>> ((8 : Int32) &&& 31).toUInt32).toInt32) &&& (255 : Int32))).toUInt32.toUInt16.toUInt32.toInt32), .val (.int ((p1 &&& (255 : Int32))).toUInt32.toUInt16.toUInt32.toInt32), .unset, .unset, .unset, .unset, .unset, .unset, .unset]) rfl ?_
    refine p_iloadN B at_57 (pc' := 58) rfl rfl ?_
    refine p_bipush B at_58 (pc' := 60) rfl (v := (8 : Int32)) (by decide) ?_
    refine p_iushr B at_60 (pc' := 61) rfl rfl ?_
    refine p_sipush B at_61 (pc' := 64) rfl (v := (255 : Int32)) (by decide) ?_
    refine p_iand B at_64 (pc' := 65) rfl rfl ?_
    refine p_i2c B at_65 (pc' := 66) rfl ?_
    refine p_istore B at_66 (pc' := 68) rfl (Ls' := #[.val (.int p0), .val (.int p1), .val (.int p2), .val (.int ((p2 &&& (3 : Int32)) % (3 : Int32))), .val (.int (((((p2).toUInt32 >>> ((2 : Int32) &&& 31).toUInt32).toInt32) &&& (3 : Int32)) % (3 : Int32))), .val (.int (1 : Int32)), .val (.int ((p0 &&& (255 : Int32))).toUInt32.toUInt16.toUInt32.toInt32), .val (.int (((((p0).toUInt32 >>> ((8 : Int32) &&& 31).toUInt32).toInt32) &&& (255 : Int32))).toUInt32.toUInt16.toUInt32.toInt32), .val (.int ((p1 &&& (255 : Int32))).toUInt32.toUInt16.toUInt32.toInt32), .val (.int (((((p1).toUInt32 >>> ((8 : Int32) &&& 31).toUInt32).toInt32) &&& (255 : Int32))).toUInt32.toUInt16.toUInt32.toInt32), .unset, .unset, .unset, .unset, .unset, .unset]) rfl ?_
    refine p_iload B at_68 (pc' := 70) rfl rfl ?_
    refine b_ifF B at_70 (pc' := 73) rfl (show ¬ (1 : Int32) = (0 : Int32) from by decide) ?_
    refine p_iloadN B at_73 (pc' := 74) rfl rfl ?_
    refine p_istore B at_74 (pc' := 76) rfl (Ls' := #[.val (.int p0), .val (.int p1), .val (.int p2), .val (.int ((p2 &&& (3 : Int32)) % (3 : Int32))), .val (.int ((p2 &&& (3 : Int32)) % (3 : Int32))), .val (.int (1 : Int32)), .val (.int ((p0 &&& (255 : Int32))).toUInt32.toUInt16.toUInt32.toInt32), .val (.int (((((p0).toUInt32 >>> ((8 : Int32) &&& 31).toUInt32).toInt32) &&& (255 : Int32))).toUInt32.toUInt16.toUInt32.toInt32), .val (.int ((p1 &&& (255 : Int32))).toUInt32.toUInt16.toUInt32.toInt32), .val (.int (((((p1).toUInt32 >>> ((8 : Int32) &&& 31).toUInt32).toInt32) &&& (255 : Int32))).toUInt32.toUInt16.toUInt32.toInt32), .unset, .unset, .unset, .unset, .unset, .unset]) rfl ?_
    refine p_iload B at_76 (pc' := 78) rfl rfl ?_
    refine p_istore B at_78 (pc' := 80) rfl (Ls' := #[.val (.int p0), .val (.int p1), .val (.int p2), .val (.int ((p2 &&& (3 : Int32)) % (3 : Int32))), .val (.int ((p2 &&& (3 : Int32)) % (3 : Int32))), .val (.int (1 : Int32)), .val (.int ((p0 &&& (255 : Int32))).toUInt32.toUInt16.toUInt32.toInt32), .val (.int (((((p0).toUInt32 >>> ((8 : Int32) &&& 31).toUInt32).toInt32) &&& (255 : Int32))).toUInt32.toUInt16.toUInt32.toInt32), .val (.int ((p0 &&& (255 : Int32))).toUInt32.toUInt16.toUInt32.toInt32), .val (.int (((((p1).toUInt32 >>> ((8 : Int32) &&& 31).toUInt32).toInt32) &&& (255 : Int32))).toUInt32.toUInt16.toUInt32.toInt32), .unset, .unset, .unset, .unset, .unset, .unset]) rfl ?_
    refine p_iload B at_80 (pc' := 82) rfl rfl ?_
    refine p_istore B at_82 (pc' := 84) rfl (Ls' := #[.val (.int p0), .val (.int p1), .val (.int p2), .val (.int ((p2 &&& (3 : Int32)) % (3 : Int32))), .val (.int ((p2 &&& (3 : Int32)) % (3 : Int32))), .val (.int (1 : Int32)), .val (.int ((p0 &&& (255 : Int32))).toUInt32.toUInt16.toUInt32.toInt32), .val (.int (((((p0).toUInt32 >>> ((8 : Int32) &&& 31).toUInt32).toInt32) &&& (255 : Int32))).toUInt32.toUInt16.toUInt32.toInt32), .val (.int ((p0 &&& (255 : Int32))).toUInt32.toUInt16.toUInt32.toInt32), .val (.int (((((p0).toUInt32 >>> ((8 : Int32) &&& 31).toUInt32).toInt32) &&& (255 : Int32))).toUInt32.toUInt16.toUInt32.toInt32), .unset, .unset, .unset, .unset, .unset, .unset]) rfl ?_
    exact law84 W _ _ _ _ _ _ _ _ _ _ (r3 _) (r3 _) ⟨_, rfl⟩ ⟨_, rfl⟩ ⟨_, rfl⟩ ⟨_, rfl⟩ B
theorem comes_1 {Post : Tables → Env → Array Value → State → Outcome → State → Prop} (hpost : ∀ tb e args s v u, (limb_1_1.after args s (.returned v) u = true ∧ limb_1_2.after args s (.returned v) u = true ∧ True) → FramedW s (.returned v) u (Jvm.fieldLocs frame_1_writes args s ++ Jvm.arrayLocs frame_1_arrays args s ++ Jvm.staticLocs frame_1_statics s) 32 3200 → Post tb e args s (.returned v) u) :
    ArmFor flags0 classFile x code maxLocals ret World_1 tables_1 room_1 Calls_1 rest_1 Pre_1 Post := by
  intro l hfl _ _ p e ha hc hk s m args below hf hA hF happ hP
  obtain ⟨hcalls, hrest, hpre⟩ := hP
  obtain ⟨-, -, -, hnamed, -, -, -, hat⟩ := (Spec.applies_iff hf).mp happ
  obtain ⟨hg, hn⟩ := and_e (Cond.before_iff.mp (show (Jvm.Cond.and given_1 narrow_1).before args s = true from hpre))
  obtain ⟨q0, r0⟩ := and_e hg
  obtain ⟨q1, r1⟩ := and_e r0
  obtain ⟨q2, r2⟩ := and_e r1
  obtain ⟨w0, w1, w2, rfl⟩ : ∃ w0 w1 w2 : Value, args = #[w0, w1, w2] := by
    have hs : args.size = 3 := by simpa [Cond.value, given_1] using q0
    obtain ⟨L⟩ := args
    match L, hs with
    | [w0, w1, w2], _ => exact ⟨w0, w1, w2, rfl⟩
  have hw := fun d (hd : d ∈ tables_1) => atoms_spec (ws := Jvm.Cond.code x code maxLocals ret :: tables_1) hat d (List.mem_cons_of_mem _ hd)
  have hfit : Fit s := fun {y c} hc i hi => by
    obtain ⟨ha, rfl⟩ := Array.getElem?_eq_some_iff.mp hc
    have q := List.all_eq_true.mp ((Array.all_eq_true_iff_forall_mem.mp hF) _ (Array.getElem_mem ha)) i (List.mem_range.mpr hi)
    simpa [Array.getElem?_eq_getElem hi] using q
  obtain ⟨hsets, -⟩ := atoms_of _ (rest_1_c_eq ▸ (show rest_1_c.before _ s = true from hrest))
  obtain ⟨i0, ei0⟩ := is_v q1
  obtain rfl : w0 = (.int i0) := Option.some.inj ei0
  obtain ⟨i1, ei1⟩ := is_v q2
  obtain rfl : w1 = (.int i1) := Option.some.inj ei1
  obtain ⟨i2, ei2⟩ := is_v r2
  obtain rfl : w2 = (.int i2) := Option.some.inj ei2
  have hEW : EW s #[(.int i0), (.int i1), (.int i2)] consts_1 := EW.cons (hw _ (List.mem_of_getElem? (i := 45) rfl)) (by decide) (EW.cons (hw _ (List.mem_of_getElem? (i := 50) rfl)) (by decide) (EW.cons (hw _ (List.mem_of_getElem? (i := 30) rfl)) (by decide) (EW.nil)))
  have hcw : Jvm.Lit.compactW.before #[(.int i0), (.int i1), (.int i2)] s = true := hsets _ (List.mem_of_getElem? (i := 2) rfl)
  have hCH : CHv s consts_1 s.vm s.heap := CHv.start hEW (fun p hp => hcalls.1 p hp) hcw (hw _ (List.mem_of_getElem? (i := 19) rfl)) (hw _ (List.mem_of_getElem? (i := 2) rfl))
  have W : GW (l, s, #[(.int i0), (.int i1), (.int i2)], consts_1) := ⟨hw, hEW, hsets, hfit, rfl⟩
  obtain ⟨n, o, h1, h2, h3, _, L, rfl, rfl, N, hr⟩ := k_law W i0 i1 i2 p e ha hc hk s m _ below hf ((Spec.applies_iff_loose hf).mp happ).1 ⟨rfl, State.Warmed39.refl s, hCH, ext_rfl _, Hp.nil⟩ trivial
  exact ⟨n, _, h1, h2, h3, hpost _ _ _ _ _ _ ⟨Cond.after_iff.mpr rfl, Cond.after_iff.mpr (eq_i res_at (Term.int_eval (1)) rfl), trivial⟩ ⟨hr.2.2.1, hr.2.2.2.1, hr.2.2.2.2.1, (hr.2.2.2.2.2.sift fun y hy => Or.inr (N y hy)).mono (by decide) (by decide)⟩⟩
theorem main_1_1 : Claimed_1_1 := comes_1 fun _ _ _ _ _ _ h hF => ⟨h.1, hF⟩
theorem main_1_2 : Claimed_1_2 := comes_1 fun _ _ _ _ _ _ h hF => ⟨h.2.1, hF⟩
end Jvm.Pilot.@@N@@
namespace Jvm.Pilot.@@N@@
open Jvm Jvm.ClassFile Sem Op Lib Jvm.Free Jvm.Stand Jvm.Pilot.@@N@@.Jvm.D
/-! MADE BY PROGRAM (witnessworld.py) out of the Statement's table words and the real class files: 22 classes; the members and pool entries that the words name. The judged class is class 1, her method 1. -/
namespace start1
open Jvm.ClassFile
def u (s : String) : CpInfo := .utf8 (stringToUtf16 s)
/-- a pool by its gaps: so many unusable entries, then the entry; so many at the end -/
def gap : Nat → List CpInfo → List CpInfo
  | 0, r => r
  | n + 1, r => .unusable :: gap n r
def poolList (es : List (Nat × CpInfo)) (last : Nat) : List CpInfo := es.foldr (fun e r => gap e.1 (e.2 :: r)) (gap last [])
def pool (es : List (Nat × CpInfo)) (last : Nat) : Array CpInfo := ⟨poolList es last⟩
def fileOf (pool : Array CpInfo) (this : Nat) (attrs : Array Attribute := #[]) (ms : Array MethodInfo := #[]) (fl : Nat := 33) (sup : Nat := 0) (ifs : Array Nat := #[]) (fds : Array FieldInfo := #[]) : ClassFile where
  minorVersion := 0
  majorVersion := 65
  constantPool := pool
  accessFlags := fl
  thisClass := this
  superClass := sup
  interfaces := ifs
  fields := fds
  methods := ms
  attributes := attrs
def plain (name : String) (sup : Option ClassId) : Class where
  name := name
  kind := .ordinary
  loader := none
  accessFlags := 33
  super := sup
  interfaces := #[]
  cf := none
  fields := #[]
  methods := #[]
  instanceTypes := #[]
  staticTypes := #[]
  resolved := #[]
  callSites := []
  init := .initialized
  statics := none
  mirror := none

def pool0 : Array CpInfo := pool [(5, u "<init>"), (0, u "()V"), (1, .class_ 10), (1, u "java/lang/Object")] 113

def k0c0 : Code := { maxStack := 0, maxLocals := 1, code := object_method_1_code, exceptionTable := #[], attributes := #[] }
def k0m0 : Method := { name := "<init>", desc := "()V", sig := { parameters := [], returnType := none }, accessFlags := 1, code := some k0c0 }
/-- java/lang/Object -/
def k0 : Class := { plain "java/lang/Object" none with
  accessFlags := 33
  interfaces := #[]
  cf := some (fileOf pool0 8 #[] #[{ accessFlags := 1, nameIndex := 5, descriptorIndex := 6, attributes := #[] }] 33 0 #[] #[])
  fields := #[]
  methods := #[k0m0]
  instanceTypes := #[]
  staticTypes := #[]
  resolved := Array.replicate 124 none
  statics := none }

def pool1 : Array CpInfo := pool [(2, .class_ 4), (1, u "java/lang/Object"), (0, u "<init>"), (0, u "()V"), (0, .class_ 8), (0, u "java/lang/String"), (0, .methodref 7 10), (0, .nameAndType 5 11), (0, u "([C)V"), (0, .class_ 13), (0, u "com/example/keys_to_peers/keystopeers/move/Move"), (0, .methodref 12 15), (0, .nameAndType 5 16), (0, u "(Ljava/lang/String;Ljava/lang/String;)V"), (0, .methodref 12 18), (0, .nameAndType 19 20), (0, u "moved"), (0, u "()Z"), (0, .class_ 22), (0, u "com/example/keys_to_peers/keystopeers/move/MoveMovedPinLaw"), (2, u "law"), (0, u "(III)Z")] 5

def k1m0 : Method := { name := "<init>", desc := "()V", sig := { parameters := [], returnType := none }, accessFlags := 1, code := none }
def k1c1 : Code := { maxStack := 4, maxLocals := 16, code := code, exceptionTable := #[], attributes := #[] }
def k1m1 : Method := { name := "law", desc := "(III)Z", sig := { parameters := [.int, .int, .int], returnType := some .boolean }, accessFlags := 9, code := some k1c1 }
/-- com/example/keys_to_peers/keystopeers/move/MoveMovedPinLaw -/
def k1 : Class := { plain "com/example/keys_to_peers/keystopeers/move/MoveMovedPinLaw" (some 0) with
  accessFlags := 49
  interfaces := #[]
  cf := some (fileOf pool1 21 #[] #[{ accessFlags := 1, nameIndex := 5, descriptorIndex := 6, attributes := #[] }, { accessFlags := 9, nameIndex := 25, descriptorIndex := 26, attributes := #[] }] 49 2 #[] #[])
  fields := #[]
  methods := #[k1m0, k1m1]
  instanceTypes := #[]
  staticTypes := #[]
  resolved := Array.replicate 32 none
  statics := none }

def pool2 : Array CpInfo := pool [(1, .class_ 2), (0, u "java/io/Serializable"), (0, .class_ 4), (0, u "java/lang/Object")] 2

/-- java/io/Serializable -/
def k2 : Class := { plain "java/io/Serializable" (some 0) with
  accessFlags := 1537
  interfaces := #[]
  cf := some (fileOf pool2 1 #[] #[] 1537 3 #[] #[])
  fields := #[]
  methods := #[]
  instanceTypes := #[]
  staticTypes := #[]
  resolved := Array.replicate 7 none
  statics := none }

def pool3 : Array CpInfo := pool [(1, .class_ 2), (0, u "java/lang/Comparable"), (0, .class_ 4), (0, u "java/lang/Object")] 7

/-- java/lang/Comparable -/
def k3 : Class := { plain "java/lang/Comparable" (some 0) with
  accessFlags := 1537
  interfaces := #[]
  cf := some (fileOf pool3 1 #[] #[] 1537 3 #[] #[])
  fields := #[]
  methods := #[]
  instanceTypes := #[]
  staticTypes := #[]
  resolved := Array.replicate 12 none
  statics := none }

def pool4 : Array CpInfo := pool [(2, .class_ 4), (1, u "java/lang/CharSequence"), (42, .class_ 48), (0, u "java/lang/CharSequence$1CodePointIterator"), (10, .class_ 60), (0, u "java/lang/CharSequence$1CharIterator"), (5, .class_ 67), (0, u "java/lang/Object")] 63

/-- java/lang/CharSequence -/
def k4 : Class := { plain "java/lang/CharSequence" (some 0) with
  accessFlags := 1537
  interfaces := #[]
  cf := some (fileOf pool4 2 #[.nestMembers #[47, 59]] #[] 1537 66 #[] #[])
  fields := #[]
  methods := #[]
  instanceTypes := #[]
  staticTypes := #[]
  resolved := Array.replicate 131 none
  statics := none }

def pool5 : Array CpInfo := pool [(1, .class_ 2), (0, u "java/lang/constant/Constable"), (0, .class_ 4), (0, u "java/lang/Object")] 6

/-- java/lang/constant/Constable -/
def k5 : Class := { plain "java/lang/constant/Constable" (some 0) with
  accessFlags := 1537
  interfaces := #[]
  cf := some (fileOf pool5 1 #[] #[] 1537 3 #[] #[])
  fields := #[]
  methods := #[]
  instanceTypes := #[]
  staticTypes := #[]
  resolved := Array.replicate 11 none
  statics := none }

def pool6 : Array CpInfo := pool [(1, .class_ 2), (0, u "java/lang/constant/ConstantDesc"), (0, .class_ 4), (0, u "java/lang/Object")] 32

/-- java/lang/constant/ConstantDesc -/
def k6 : Class := { plain "java/lang/constant/ConstantDesc" (some 0) with
  accessFlags := 1537
  interfaces := #[]
  cf := some (fileOf pool6 1 #[] #[] 1537 3 #[] #[])
  fields := #[]
  methods := #[]
  instanceTypes := #[]
  staticTypes := #[]
  resolved := Array.replicate 37 none
  statics := none }

def pool7 : Array CpInfo := pool [(1, .methodref 2 3), (0, .class_ 4), (0, .nameAndType 5 6), (0, u "java/lang/Object"), (0, u "<init>"), (0, u "()V"), (0, .string 8), (0, u ""), (0, .fieldref 10 11), (0, .class_ 12), (0, .nameAndType 13 14), (0, u "java/lang/String"), (0, u "value"), (0, u "[B"), (0, .fieldref 10 16), (0, .nameAndType 17 18), (0, u "coder"), (0, u "B"), (2, u "hash"), (0, u "I"), (2, u "hashIsZero"), (0, u "Z"), (0, .methodref 10 28), (0, .nameAndType 5 29), (0, u "([CIILjava/lang/Void;)V"), (8, .fieldref 10 39), (0, .nameAndType 40 26), (0, u "COMPACT_STRINGS"), (1, .class_ 44), (1, u "java/lang/StringUTF16"), (0, u "compress"), (1, .methodref 42 48), (0, .nameAndType 49 50), (0, u "coderFromArrayLen"), (0, u "([BI)B"), (56, .class_ 109), (1, u "java/lang/StringLatin1"), (67, .methodref 42 178), (0, .nameAndType 45 179), (0, u "([CII)[B"), (361, .methodref 107 542), (0, .nameAndType 543 544), (0, u "equals"), (0, u "([B[B)Z"), (28, u "(Ljava/lang/Object;)Z"), (1, .class_ 576), (0, u "java/lang/CharSequence"), (22, u "CASE_INSENSITIVE_ORDER"), (0, u "Ljava/util/Comparator;"), (409, u "([C)V"), (90, u "serialPersistentFields"), (0, u "[Ljava/io/ObjectStreamField;"), (0, .class_ 1104), (0, u "java/lang/String$CaseInsensitiveComparator"), (1, .class_ 1107), (0, u "java/io/Serializable"), (0, .class_ 1109), (0, u "java/lang/Comparable"), (0, .class_ 1111), (0, u "java/lang/constant/Constable"), (0, .class_ 1113), (0, u "java/lang/constant/ConstantDesc"), (2, u "serialVersionUID"), (0, u "J"), (3, u "REPL"), (0, u "C"), (2, u "LATIN1"), (1, u "UTF16")] 323

def k7m0 : Method := { name := "<init>", desc := "()V", sig := { parameters := [], returnType := none }, accessFlags := 1, code := none }
def k7c1 : Code := { maxStack := 5, maxLocals := 2, code := jdk_42_method_3_code, exceptionTable := #[], attributes := #[] }
def k7m1 : Method := { name := "<init>", desc := "([C)V", sig := { parameters := [(.array .char)], returnType := none }, accessFlags := 1, code := some k7c1 }
def k7c2 : Code := { maxStack := 2, maxLocals := 3, code := jdk_42_method_66_code, exceptionTable := #[], attributes := #[] }
def k7m2 : Method := { name := "equals", desc := "(Ljava/lang/Object;)Z", sig := { parameters := [(.object "java/lang/Object")], returnType := some .boolean }, accessFlags := 1, code := some k7c2 }
def k7c3 : Code := { maxStack := 4, maxLocals := 6, code := jdk_42_method_149_code, exceptionTable := #[], attributes := #[] }
def k7m3 : Method := { name := "<init>", desc := "([CIILjava/lang/Void;)V", sig := { parameters := [(.array .char), .int, .int, (.object "java/lang/Void")], returnType := none }, accessFlags := 2, code := some k7c3 }
/-- java/lang/String -/
def k7 : Class := { plain "java/lang/String" (some 0) with
  accessFlags := 49
  interfaces := #[2, 3, 4, 5, 6]
  cf := some (fileOf pool7 10 #[.nestMembers #[1103]] #[{ accessFlags := 1, nameIndex := 5, descriptorIndex := 6, attributes := #[] }, { accessFlags := 1, nameIndex := 5, descriptorIndex := 1010, attributes := #[] }, { accessFlags := 1, nameIndex := 543, descriptorIndex := 573, attributes := #[] }, { accessFlags := 2, nameIndex := 5, descriptorIndex := 29, attributes := #[] }] 49 2 #[1106, 1108, 575, 1110, 1112] #[{ accessFlags := 18, nameIndex := 13, descriptorIndex := 14, attributes := #[] }, { accessFlags := 18, nameIndex := 17, descriptorIndex := 18, attributes := #[] }, { accessFlags := 2, nameIndex := 21, descriptorIndex := 22, attributes := #[] }, { accessFlags := 2, nameIndex := 25, descriptorIndex := 26, attributes := #[] }, { accessFlags := 26, nameIndex := 1116, descriptorIndex := 1117, attributes := #[] }, { accessFlags := 24, nameIndex := 40, descriptorIndex := 26, attributes := #[] }, { accessFlags := 26, nameIndex := 1101, descriptorIndex := 1102, attributes := #[] }, { accessFlags := 26, nameIndex := 1121, descriptorIndex := 1122, attributes := #[] }, { accessFlags := 25, nameIndex := 599, descriptorIndex := 600, attributes := #[] }, { accessFlags := 24, nameIndex := 1125, descriptorIndex := 18, attributes := #[] }, { accessFlags := 24, nameIndex := 1127, descriptorIndex := 18, attributes := #[] }])
  fields := #[{ name := "value", type := (.array .byte), accessFlags := 18, slot := 0, constantValue := 0 }, { name := "coder", type := .byte, accessFlags := 18, slot := 1, constantValue := 0 }, { name := "hash", type := .int, accessFlags := 2, slot := 2, constantValue := 0 }, { name := "hashIsZero", type := .boolean, accessFlags := 2, slot := 3, constantValue := 0 }, { name := "serialVersionUID", type := .long, accessFlags := 26, slot := 0, constantValue := 0 }, { name := "COMPACT_STRINGS", type := .boolean, accessFlags := 24, slot := 1, constantValue := 0 }, { name := "serialPersistentFields", type := (.array (.object "java/io/ObjectStreamField")), accessFlags := 26, slot := 2, constantValue := 0 }, { name := "REPL", type := .char, accessFlags := 26, slot := 3, constantValue := 0 }, { name := "CASE_INSENSITIVE_ORDER", type := (.object "java/util/Comparator"), accessFlags := 25, slot := 4, constantValue := 0 }, { name := "LATIN1", type := .byte, accessFlags := 24, slot := 5, constantValue := 0 }, { name := "UTF16", type := .byte, accessFlags := 24, slot := 6, constantValue := 0 }]
  methods := #[k7m0, k7m1, k7m2, k7m3]
  instanceTypes := #[(.array .byte), .byte, .int, .boolean]
  staticTypes := #[.long, .boolean, (.array (.object "java/io/ObjectStreamField")), .char, (.object "java/util/Comparator"), .byte, .byte]
  resolved := Array.replicate 1451 none
  statics := some 0 }

def pool8 : Array CpInfo := pool [(6, .class_ 8), (1, u "java/lang/Object"), (0, u "<init>"), (0, u "()V"), (1, .class_ 14), (1, u "java/lang/StringUTF16"), (31, u "$assertionsDisabled"), (0, u "Z"), (13, u "HI_BYTE_SHIFT"), (0, u "I"), (2, u "LO_BYTE_SHIFT"), (49, .methodref 12 116), (0, .nameAndType 117 118), (0, u "compress"), (0, u "([CI[BII)I"), (3, u "([CII)[B"), (138, u "coderFromArrayLen"), (0, u "([BI)B"), (106, .class_ 371), (1, u "java/lang/StringUTF16$LinesSpliterator"), (58, u "MAX_LENGTH"), (196, .class_ 628), (0, u "java/lang/StringUTF16$CodePointsSpliterator"), (0, .class_ 630), (0, u "java/lang/StringUTF16$CharsSpliterator")] 4

def k8m0 : Method := { name := "<init>", desc := "()V", sig := { parameters := [], returnType := none }, accessFlags := 0, code := none }
def k8c1 : Code := { maxStack := 2, maxLocals := 2, code := jdk_52_method_15_code, exceptionTable := #[], attributes := #[] }
def k8m1 : Method := { name := "coderFromArrayLen", desc := "([BI)B", sig := { parameters := [(.array .byte), .int], returnType := some .byte }, accessFlags := 8, code := some k8c1 }
def k8c2 : Code := { maxStack := 5, maxLocals := 6, code := jdk_52_method_16_code, exceptionTable := #[], attributes := #[] }
def k8m2 : Method := { name := "compress", desc := "([CII)[B", sig := { parameters := [(.array .char), .int, .int], returnType := some (.array .byte) }, accessFlags := 9, code := some k8c2 }
def k8c3 : Code := { maxStack := 3, maxLocals := 7, code := jdk_52_method_21_code, exceptionTable := #[], attributes := #[] }
def k8m3 : Method := { name := "compress", desc := "([CI[BII)I", sig := { parameters := [(.array .char), .int, (.array .byte), .int, .int], returnType := some .int }, accessFlags := 9, code := some k8c3 }
/-- java/lang/StringUTF16 -/
def k8 : Class := { plain "java/lang/StringUTF16" (some 0) with
  accessFlags := 48
  interfaces := #[]
  cf := some (fileOf pool8 12 #[.nestMembers #[627, 629, 369]] #[{ accessFlags := 0, nameIndex := 9, descriptorIndex := 10, attributes := #[] }, { accessFlags := 8, nameIndex := 261, descriptorIndex := 262, attributes := #[] }, { accessFlags := 9, nameIndex := 117, descriptorIndex := 122, attributes := #[] }, { accessFlags := 9, nameIndex := 117, descriptorIndex := 118, attributes := #[] }] 48 6 #[] #[{ accessFlags := 26, nameIndex := 61, descriptorIndex := 62, attributes := #[] }, { accessFlags := 26, nameIndex := 65, descriptorIndex := 62, attributes := #[] }, { accessFlags := 24, nameIndex := 430, descriptorIndex := 62, attributes := #[] }, { accessFlags := 4120, nameIndex := 46, descriptorIndex := 47, attributes := #[] }])
  fields := #[{ name := "HI_BYTE_SHIFT", type := .int, accessFlags := 26, slot := 0, constantValue := 0 }, { name := "LO_BYTE_SHIFT", type := .int, accessFlags := 26, slot := 1, constantValue := 0 }, { name := "MAX_LENGTH", type := .int, accessFlags := 24, slot := 2, constantValue := 0 }, { name := "$assertionsDisabled", type := .boolean, accessFlags := 4120, slot := 3, constantValue := 0 }]
  methods := #[k8m0, k8m1, k8m2, k8m3]
  instanceTypes := #[]
  staticTypes := #[.int, .int, .int, .boolean]
  resolved := Array.replicate 635 none
  statics := none }

def pool9 : Array CpInfo := pool [(1, .methodref 2 3), (0, .class_ 4), (0, .nameAndType 5 6), (0, u "java/lang/Object"), (0, u "<init>"), (0, u "()V"), (0, .class_ 8), (0, u "java/lang/Record")] 13

def k9c0 : Code := { maxStack := 1, maxLocals := 1, code := jdk_30_method_1_code, exceptionTable := #[], attributes := #[] }
def k9m0 : Method := { name := "<init>", desc := "()V", sig := { parameters := [], returnType := none }, accessFlags := 4, code := some k9c0 }
/-- java/lang/Record -/
def k9 : Class := { plain "java/lang/Record" (some 0) with
  accessFlags := 1057
  interfaces := #[]
  cf := some (fileOf pool9 7 #[] #[{ accessFlags := 4, nameIndex := 5, descriptorIndex := 6, attributes := #[] }] 1057 2 #[] #[])
  fields := #[]
  methods := #[k9m0]
  instanceTypes := #[]
  staticTypes := #[]
  resolved := Array.replicate 22 none
  statics := none }

def pool10 : Array CpInfo := pool [(1, .methodref 2 3), (0, .class_ 4), (0, .nameAndType 5 6), (0, u "java/lang/Record"), (0, u "<init>"), (0, u "()V"), (0, .string 8), (0, u "from"), (0, .methodref 10 11), (0, .class_ 12), (0, .nameAndType 13 14), (0, u "java/util/Objects"), (0, u "requireNonNull"), (0, u "(Ljava/lang/Object;Ljava/lang/String;)Ljava/lang/Object;"), (0, .string 16), (0, u "to"), (0, .fieldref 18 19), (0, .class_ 20), (0, .nameAndType 8 21), (0, u "com/example/keys_to_peers/keystopeers/move/Move"), (0, u "Ljava/lang/String;"), (0, .fieldref 18 23), (0, .nameAndType 16 21), (0, .methodref 25 26), (0, .class_ 27), (0, .nameAndType 28 29), (0, u "java/lang/String"), (0, u "equals"), (0, u "(Ljava/lang/Object;)Z"), (11, u "(Ljava/lang/String;Ljava/lang/String;)V"), (3, u "moved"), (0, u "()Z")] 24

def k10c0 : Code := { maxStack := 2, maxLocals := 3, code := prog_19_method_1_code, exceptionTable := #[], attributes := #[] }
def k10m0 : Method := { name := "<init>", desc := "(Ljava/lang/String;Ljava/lang/String;)V", sig := { parameters := [(.object "java/lang/String"), (.object "java/lang/String")], returnType := none }, accessFlags := 1, code := some k10c0 }
def k10c1 : Code := { maxStack := 2, maxLocals := 1, code := prog_19_method_2_code, exceptionTable := #[], attributes := #[] }
def k10m1 : Method := { name := "moved", desc := "()Z", sig := { parameters := [], returnType := some .boolean }, accessFlags := 1, code := some k10c1 }
/-- com/example/keys_to_peers/keystopeers/move/Move -/
def k10 : Class := { plain "com/example/keys_to_peers/keystopeers/move/Move" (some 9) with
  accessFlags := 49
  interfaces := #[]
  cf := some (fileOf pool10 18 #[] #[{ accessFlags := 1, nameIndex := 5, descriptorIndex := 41, attributes := #[] }, { accessFlags := 1, nameIndex := 45, descriptorIndex := 46, attributes := #[] }] 49 2 #[] #[{ accessFlags := 18, nameIndex := 8, descriptorIndex := 21, attributes := #[] }, { accessFlags := 18, nameIndex := 16, descriptorIndex := 21, attributes := #[] }])
  fields := #[{ name := "from", type := (.object "java/lang/String"), accessFlags := 18, slot := 0, constantValue := 0 }, { name := "to", type := (.object "java/lang/String"), accessFlags := 18, slot := 1, constantValue := 0 }]
  methods := #[k10m0, k10m1]
  instanceTypes := #[(.object "java/lang/String"), (.object "java/lang/String")]
  staticTypes := #[]
  resolved := Array.replicate 71 none
  statics := none }

def pool11 : Array CpInfo := pool [(2, .class_ 4), (1, u "java/lang/Object"), (0, u "<init>"), (0, u "()V"), (35, .class_ 44), (1, u "java/util/Objects"), (0, u "requireNonNull"), (48, u "(Ljava/lang/Object;Ljava/lang/String;)Ljava/lang/Object;")] 89

def k11m0 : Method := { name := "<init>", desc := "()V", sig := { parameters := [], returnType := none }, accessFlags := 2, code := none }
def k11c1 : Code := { maxStack := 3, maxLocals := 2, code := jdk_31_method_11_code, exceptionTable := #[], attributes := #[] }
def k11m1 : Method := { name := "requireNonNull", desc := "(Ljava/lang/Object;Ljava/lang/String;)Ljava/lang/Object;", sig := { parameters := [(.object "java/lang/Object"), (.object "java/lang/String")], returnType := some (.object "java/lang/Object") }, accessFlags := 9, code := some k11c1 }
/-- java/util/Objects -/
def k11 : Class := { plain "java/util/Objects" (some 0) with
  accessFlags := 49
  interfaces := #[]
  cf := some (fileOf pool11 42 #[] #[{ accessFlags := 2, nameIndex := 5, descriptorIndex := 6, attributes := #[] }, { accessFlags := 9, nameIndex := 45, descriptorIndex := 94, attributes := #[] }] 49 2 #[] #[])
  fields := #[]
  methods := #[k11m0, k11m1]
  instanceTypes := #[]
  staticTypes := #[]
  resolved := Array.replicate 184 none
  statics := none }

def pool12 : Array CpInfo := pool [(4, .class_ 6), (1, u "java/lang/Object"), (0, u "<init>"), (0, u "()V"), (5, .class_ 16), (1, u "java/lang/StringLatin1"), (104, u "$assertionsDisabled"), (0, u "Z"), (98, .class_ 223), (1, u "java/lang/StringLatin1$LinesSpliterator"), (57, u "equals"), (0, u "([B[B)Z"), (107, .class_ 391), (0, u "java/lang/StringLatin1$CharsSpliterator")] 3

def k12m0 : Method := { name := "<init>", desc := "()V", sig := { parameters := [], returnType := none }, accessFlags := 0, code := none }
def k12c1 : Code := { maxStack := 3, maxLocals := 3, code := jdk_43_method_13_code, exceptionTable := #[], attributes := #[] }
def k12m1 : Method := { name := "equals", desc := "([B[B)Z", sig := { parameters := [(.array .byte), (.array .byte)], returnType := some .boolean }, accessFlags := 9, code := some k12c1 }
/-- java/lang/StringLatin1 -/
def k12 : Class := { plain "java/lang/StringLatin1" (some 0) with
  accessFlags := 48
  interfaces := #[]
  cf := some (fileOf pool12 14 #[.nestMembers #[390, 221]] #[{ accessFlags := 0, nameIndex := 7, descriptorIndex := 8, attributes := #[] }, { accessFlags := 9, nameIndex := 281, descriptorIndex := 282, attributes := #[] }] 48 4 #[] #[{ accessFlags := 4120, nameIndex := 121, descriptorIndex := 122, attributes := #[] }])
  fields := #[{ name := "$assertionsDisabled", type := .boolean, accessFlags := 4120, slot := 0, constantValue := 0 }]
  methods := #[k12m0, k12m1]
  instanceTypes := #[]
  staticTypes := #[.boolean]
  resolved := Array.replicate 395 none
  statics := none }

def pool13 : Array CpInfo := pool [(2, .class_ 4), (1, u "java/lang/Object"), (0, u "<init>"), (0, u "()V"), (17, .class_ 26), (1, u "jdk/internal/util/Preconditions"), (28, .class_ 56), (0, u "jdk/internal/util/Preconditions$4"), (57, .class_ 115), (0, u "jdk/internal/util/Preconditions$1"), (7, u "SIOOBE_FORMATTER"), (0, u "Ljava/util/function/BiFunction;"), (0, .class_ 126), (0, u "jdk/internal/util/Preconditions$2"), (3, u "AIOOBE_FORMATTER"), (0, .class_ 132), (0, u "jdk/internal/util/Preconditions$3"), (3, u "IOOBE_FORMATTER")] 57

def k13m0 : Method := { name := "<init>", desc := "()V", sig := { parameters := [], returnType := none }, accessFlags := 1, code := none }
/-- jdk/internal/util/Preconditions -/
def k13 : Class := { plain "jdk/internal/util/Preconditions" (some 0) with
  accessFlags := 33
  interfaces := #[]
  cf := some (fileOf pool13 24 #[.nestMembers #[55, 131, 125, 114]] #[{ accessFlags := 1, nameIndex := 5, descriptorIndex := 6, attributes := #[] }] 33 2 #[] #[{ accessFlags := 25, nameIndex := 123, descriptorIndex := 124, attributes := #[] }, { accessFlags := 25, nameIndex := 130, descriptorIndex := 124, attributes := #[] }, { accessFlags := 25, nameIndex := 136, descriptorIndex := 124, attributes := #[] }])
  fields := #[{ name := "SIOOBE_FORMATTER", type := (.object "java/util/function/BiFunction"), accessFlags := 25, slot := 0, constantValue := 0 }, { name := "AIOOBE_FORMATTER", type := (.object "java/util/function/BiFunction"), accessFlags := 25, slot := 1, constantValue := 0 }, { name := "IOOBE_FORMATTER", type := (.object "java/util/function/BiFunction"), accessFlags := 25, slot := 2, constantValue := 0 }]
  methods := #[k13m0]
  instanceTypes := #[]
  staticTypes := #[(.object "java/util/function/BiFunction"), (.object "java/util/function/BiFunction"), (.object "java/util/function/BiFunction")]
  resolved := Array.replicate 194 none
  statics := some 1 }

def pool14 : Array CpInfo := pool [(9, u "<init>"), (6, .class_ 18), (1, u "java/lang/Object"), (0, u "()V"), (1, .class_ 23), (1, u "jdk/internal/util/ArraysSupport"), (0, u "LOG2_ARRAY_LONG_INDEX_SCALE"), (0, u "I"), (2, u "U"), (0, u "Ljdk/internal/misc/Unsafe;"), (8, u "BIG_ENDIAN"), (0, u "Z"), (8, u "LOG2_BYTE_BIT_SIZE"), (4, u "LOG2_ARRAY_INT_INDEX_SCALE"), (54, u "JLA"), (0, u "Ljdk/internal/access/JavaLangAccess;"), (11, u "LOG2_ARRAY_BOOLEAN_INDEX_SCALE"), (9, u "LOG2_ARRAY_BYTE_INDEX_SCALE"), (5, u "LOG2_ARRAY_CHAR_INDEX_SCALE"), (5, u "LOG2_ARRAY_SHORT_INDEX_SCALE"), (18, u "LOG2_ARRAY_FLOAT_INDEX_SCALE"), (24, u "LOG2_ARRAY_DOUBLE_INDEX_SCALE"), (89, u "T_BOOLEAN"), (2, u "T_CHAR"), (1, u "T_FLOAT"), (1, u "T_DOUBLE"), (1, u "T_BYTE"), (1, u "T_SHORT"), (1, u "T_INT"), (1, u "T_LONG"), (1, u "SOFT_MAX_ARRAY_LENGTH")] 83

def k14m0 : Method := { name := "<init>", desc := "()V", sig := { parameters := [], returnType := none }, accessFlags := 2, code := none }
/-- jdk/internal/util/ArraysSupport -/
def k14 : Class := { plain "jdk/internal/util/ArraysSupport" (some 0) with
  accessFlags := 33
  interfaces := #[]
  cf := some (fileOf pool14 21 #[] #[{ accessFlags := 2, nameIndex := 9, descriptorIndex := 19, attributes := #[] }] 33 16 #[] #[{ accessFlags := 24, nameIndex := 28, descriptorIndex := 29, attributes := #[] }, { accessFlags := 26, nameIndex := 38, descriptorIndex := 39, attributes := #[] }, { accessFlags := 25, nameIndex := 121, descriptorIndex := 25, attributes := #[] }, { accessFlags := 25, nameIndex := 131, descriptorIndex := 25, attributes := #[] }, { accessFlags := 25, nameIndex := 137, descriptorIndex := 25, attributes := #[] }, { accessFlags := 25, nameIndex := 143, descriptorIndex := 25, attributes := #[] }, { accessFlags := 25, nameIndex := 53, descriptorIndex := 25, attributes := #[] }, { accessFlags := 25, nameIndex := 24, descriptorIndex := 25, attributes := #[] }, { accessFlags := 25, nameIndex := 162, descriptorIndex := 25, attributes := #[] }, { accessFlags := 25, nameIndex := 187, descriptorIndex := 25, attributes := #[] }, { accessFlags := 26, nameIndex := 48, descriptorIndex := 25, attributes := #[] }, { accessFlags := 25, nameIndex := 277, descriptorIndex := 25, attributes := #[] }, { accessFlags := 25, nameIndex := 280, descriptorIndex := 25, attributes := #[] }, { accessFlags := 25, nameIndex := 282, descriptorIndex := 25, attributes := #[] }, { accessFlags := 25, nameIndex := 284, descriptorIndex := 25, attributes := #[] }, { accessFlags := 25, nameIndex := 286, descriptorIndex := 25, attributes := #[] }, { accessFlags := 25, nameIndex := 288, descriptorIndex := 25, attributes := #[] }, { accessFlags := 25, nameIndex := 290, descriptorIndex := 25, attributes := #[] }, { accessFlags := 25, nameIndex := 292, descriptorIndex := 25, attributes := #[] }, { accessFlags := 26, nameIndex := 108, descriptorIndex := 109, attributes := #[] }, { accessFlags := 25, nameIndex := 294, descriptorIndex := 25, attributes := #[] }])
  fields := #[{ name := "U", type := (.object "jdk/internal/misc/Unsafe"), accessFlags := 24, slot := 0, constantValue := 0 }, { name := "BIG_ENDIAN", type := .boolean, accessFlags := 26, slot := 1, constantValue := 0 }, { name := "LOG2_ARRAY_BOOLEAN_INDEX_SCALE", type := .int, accessFlags := 25, slot := 2, constantValue := 0 }, { name := "LOG2_ARRAY_BYTE_INDEX_SCALE", type := .int, accessFlags := 25, slot := 3, constantValue := 0 }, { name := "LOG2_ARRAY_CHAR_INDEX_SCALE", type := .int, accessFlags := 25, slot := 4, constantValue := 0 }, { name := "LOG2_ARRAY_SHORT_INDEX_SCALE", type := .int, accessFlags := 25, slot := 5, constantValue := 0 }, { name := "LOG2_ARRAY_INT_INDEX_SCALE", type := .int, accessFlags := 25, slot := 6, constantValue := 0 }, { name := "LOG2_ARRAY_LONG_INDEX_SCALE", type := .int, accessFlags := 25, slot := 7, constantValue := 0 }, { name := "LOG2_ARRAY_FLOAT_INDEX_SCALE", type := .int, accessFlags := 25, slot := 8, constantValue := 0 }, { name := "LOG2_ARRAY_DOUBLE_INDEX_SCALE", type := .int, accessFlags := 25, slot := 9, constantValue := 0 }, { name := "LOG2_BYTE_BIT_SIZE", type := .int, accessFlags := 26, slot := 10, constantValue := 0 }, { name := "T_BOOLEAN", type := .int, accessFlags := 25, slot := 11, constantValue := 0 }, { name := "T_CHAR", type := .int, accessFlags := 25, slot := 12, constantValue := 0 }, { name := "T_FLOAT", type := .int, accessFlags := 25, slot := 13, constantValue := 0 }, { name := "T_DOUBLE", type := .int, accessFlags := 25, slot := 14, constantValue := 0 }, { name := "T_BYTE", type := .int, accessFlags := 25, slot := 15, constantValue := 0 }, { name := "T_SHORT", type := .int, accessFlags := 25, slot := 16, constantValue := 0 }, { name := "T_INT", type := .int, accessFlags := 25, slot := 17, constantValue := 0 }, { name := "T_LONG", type := .int, accessFlags := 25, slot := 18, constantValue := 0 }, { name := "JLA", type := (.object "jdk/internal/access/JavaLangAccess"), accessFlags := 26, slot := 19, constantValue := 0 }, { name := "SOFT_MAX_ARRAY_LENGTH", type := .int, accessFlags := 25, slot := 20, constantValue := 0 }]
  methods := #[k14m0]
  instanceTypes := #[]
  staticTypes := #[(.object "jdk/internal/misc/Unsafe"), .boolean, .int, .int, .int, .int, .int, .int, .int, .int, .int, .int, .int, .int, .int, .int, .int, .int, .int, (.object "jdk/internal/access/JavaLangAccess"), .int]
  resolved := Array.replicate 378 none
  statics := none }

def pool15 : Array CpInfo := pool [(1, u "java/lang/Cloneable"), (0, .class_ 1), (0, u "java/lang/Object"), (0, .class_ 3)] 3

/-- java/lang/Cloneable -/
def k15 : Class := { plain "java/lang/Cloneable" (some 0) with
  accessFlags := 1537
  interfaces := #[]
  cf := some (fileOf pool15 2 #[] #[] 1537 4 #[] #[])
  fields := #[]
  methods := #[]
  instanceTypes := #[]
  staticTypes := #[]
  resolved := Array.replicate 8 none
  statics := none }

/-- the primitive byte -/
def k16 : Class := { plain "byte" none with kind := .primitive 'B', accessFlags := 0x411 }
/-- [B -/
def k17 : Class := { plain "[B" (some 0) with kind := .array 16 .byte, interfaces := #[15, 2], accessFlags := 1041 }

/-- the primitive char -/
def k18 : Class := { plain "char" none with kind := .primitive 'C', accessFlags := 0x411 }
/-- [C -/
def k19 : Class := { plain "[C" (some 0) with kind := .array 18 .char, interfaces := #[15, 2], accessFlags := 1041 }

/-- the primitive int -/
def k20 : Class := { plain "int" none with kind := .primitive 'I', accessFlags := 0x411 }
/-- [I -/
def k21 : Class := { plain "[I" (some 0) with kind := .array 20 .int, interfaces := #[15, 2], accessFlags := 1041 }

def heap : Heap := #[{ cls := 7, slots := #[.long 0, .int 1, .null, .int 0, .null, .int 0, .int 0], vm := .statics 7 },
  { cls := 13, slots := #[.null, .null, .null], vm := .statics 13 }]
def classes : Array Class := #[k0, k1, k2, k3, k4, k5, k6, k7, k8, k9, k10, k11, k12, k13, k14, k15, k16, k17, k18, k19, k20, k21]
def interned : List (Array UInt16 × Addr) := []
def slotsUsed : Nat := 10
def theMethod : MethodId := ⟨1, 1⟩
def args0 : Array Value := #[.int 5, .int 5, .int 5]
def aboutOver (below : List Frame) : State where
  vm := { classes := classes, interned := interned.toArray }
  heap := heap
  slotsUsed := slotsUsed
  threads := #[{ frames := .invoking theMethod args0 :: below }]
def below0 : List Frame := [.native { method := ⟨0, 0⟩, args := #[] }]
def about1 : State := aboutOver below0
def p0 : Program := .bare "" "" ""
def e0 : Env := launch0.env 0 0 0
theorem w_frames : about1.frames = Frame.invoking theMethod args0 :: below0 := rfl
set_option maxRecDepth 65536 in
theorem w_args : argsFit about1.vm theMethod args0 = true := by decide +kernel
set_option maxRecDepth 65536 in
theorem w_heap : heapFits about1 = true := by decide +kernel
set_option maxRecDepth 65536 in
theorem w_runnable : about1.curStatus? = some .runnable := by decide +kernel
set_option maxRecDepth 65536 in
theorem w_alone : about1.alone = true := by decide +kernel
set_option maxRecDepth 65536 in
theorem w_named : about1.methodNamed? x = some theMethod := by decide +kernel
set_option maxRecDepth 65536 in
theorem w_hears : about1.hears theMethod below0 = true := by decide +kernel
set_option maxRecDepth 65536 in
theorem w_ripe : about1.ripe theMethod args0 below0 = true := by decide +kernel
theorem w_running : about1.status = .running := rfl
set_option maxRecDepth 65536 in
theorem w_room : about1.hasRoom e0.platform room_1 = true :=
  launch0.hasRoom_least _ room_1 (by decide +kernel) (by decide +kernel) (by decide +kernel) (by decide +kernel) (by decide +kernel) (by decide +kernel)
theorem allAtoms_all (ts : List Jvm.Cond) (a : Array Jvm.Value) (st : Jvm.State) : (allAtoms ts).before a st = ts.all (fun c => c.before a st) := by
  induction ts with
  | nil => rfl
  | cons c t ih =>
    show (Jvm.Cond.and c (allAtoms t)).before a st = _
    rw [Jvm.Cond.before_and, ih, List.all_cons]
def words1 : List Jvm.Cond := Jvm.Cond.code x code maxLocals ret :: tables_1
/-- a 'code' word, met by the world's own term for the bytes: nothing is compared byte by byte -/
theorem code_word {y : MethodName} {bytes : ByteArray} {mx : Nat} {rt : Option FieldType} {a : Array Value} {s : State} {m : MethodId} {meth : Method} {c : Code} (h1 : s.methodNamed? y = some m) (h2 : s.vm.method? m = some meth) (h3 : meth.code = some c) (h4 : c.code = bytes)
    (h5 : (c.maxLocals == mx && c.exceptionTable.isEmpty && decide (c.maxStack ≤ mostOperands) && decide (meth.sig.returnType = rt) && !meth.locks && decide (parseMethodDescriptor y.desc = some meth.sig)) = true) : (Jvm.Cond.code y bytes mx rt).before a s = true := by
  simp only [Bool.and_eq_true, beq_iff_eq, Bool.not_eq_true', decide_eq_true_eq] at h5
  obtain ⟨⟨⟨⟨⟨g1, g2⟩, g3⟩, g4⟩, g5⟩, g6⟩ := h5
  simp [Cond.before, Cond.holds, Cond.value, h1, h2, h3, h4, g1, g2, g3, g4, g5, g6]
def isCode : Jvm.Cond → Bool
  | .code _ _ _ _ => true
  | _ => false
theorem all_split {L : List Jvm.Cond} {P : Jvm.Cond → Bool} (h1 : L.all (fun c => isCode c || P c) = true) (h2 : ∀ c ∈ L.filter isCode, P c = true) : L.all P = true := by
  refine List.all_eq_true.mpr fun c hc => ?_
  have h := List.all_eq_true.mp h1 c hc
  rcases Bool.eq_false_or_eq_true (isCode c) with hi | hi
  · exact h2 c (List.mem_filter.mpr ⟨hc, hi⟩)
  · simpa [hi] using h
set_option maxRecDepth 65536 in
theorem w_c0 : (Jvm.Cond.code x code maxLocals ret).before args0 about1 = true := code_word (m := ⟨1, 1⟩) (meth := k1m1) (c := k1c1) (by decide +kernel) rfl rfl rfl (by decide +kernel)
set_option maxRecDepth 65536 in
theorem w_c1 : (Jvm.Cond.code ({ cls := "java/lang/String", name := "<init>", desc := "([C)V" } : Jvm.MethodName) jdk_42_method_3_code (2 : Nat) (Option.none : Option Jvm.ClassFile.FieldType)).before args0 about1 = true := code_word (m := ⟨7, 1⟩) (meth := k7m1) (c := k7c1) (by decide +kernel) rfl rfl rfl (by decide +kernel)
set_option maxRecDepth 65536 in
theorem w_c2 : (Jvm.Cond.code ({ cls := "java/lang/String", name := "<init>", desc := "([CIILjava/lang/Void;)V" } : Jvm.MethodName) jdk_42_method_149_code (6 : Nat) (Option.none : Option Jvm.ClassFile.FieldType)).before args0 about1 = true := code_word (m := ⟨7, 3⟩) (meth := k7m3) (c := k7c3) (by decide +kernel) rfl rfl rfl (by decide +kernel)
set_option maxRecDepth 65536 in
theorem w_c3 : (Jvm.Cond.code ({ cls := "java/lang/Object", name := "<init>", desc := "()V" } : Jvm.MethodName) object_method_1_code (1 : Nat) (Option.none : Option Jvm.ClassFile.FieldType)).before args0 about1 = true := code_word (m := ⟨0, 0⟩) (meth := k0m0) (c := k0c0) (by decide +kernel) rfl rfl rfl (by decide +kernel)
set_option maxRecDepth 65536 in
theorem w_c4 : (Jvm.Cond.code ({ cls := "java/lang/StringUTF16", name := "compress", desc := "([CII)[B" } : Jvm.MethodName) jdk_52_method_16_code (6 : Nat) (Option.some (Jvm.ClassFile.FieldType.array Jvm.ClassFile.FieldType.byte))).before args0 about1 = true := code_word (m := ⟨8, 2⟩) (meth := k8m2) (c := k8c2) (by decide +kernel) rfl rfl rfl (by decide +kernel)
set_option maxRecDepth 65536 in
theorem w_c5 : (Jvm.Cond.code ({ cls := "java/lang/StringUTF16", name := "compress", desc := "([CI[BII)I" } : Jvm.MethodName) jdk_52_method_21_code (7 : Nat) (Option.some Jvm.ClassFile.FieldType.int)).before args0 about1 = true := code_word (m := ⟨8, 3⟩) (meth := k8m3) (c := k8c3) (by decide +kernel) rfl rfl rfl (by decide +kernel)
set_option maxRecDepth 65536 in
theorem w_c6 : (Jvm.Cond.code ({ cls := "java/lang/StringUTF16", name := "coderFromArrayLen", desc := "([BI)B" } : Jvm.MethodName) jdk_52_method_15_code (2 : Nat) (Option.some Jvm.ClassFile.FieldType.byte)).before args0 about1 = true := code_word (m := ⟨8, 1⟩) (meth := k8m1) (c := k8c1) (by decide +kernel) rfl rfl rfl (by decide +kernel)
set_option maxRecDepth 65536 in
theorem w_c7 : (Jvm.Cond.code ({ cls := "com/example/keys_to_peers/keystopeers/move/Move", name := "<init>", desc := "(Ljava/lang/String;Ljava/lang/String;)V" } : Jvm.MethodName) prog_19_method_1_code (3 : Nat) (Option.none : Option Jvm.ClassFile.FieldType)).before args0 about1 = true := code_word (m := ⟨10, 0⟩) (meth := k10m0) (c := k10c0) (by decide +kernel) rfl rfl rfl (by decide +kernel)
set_option maxRecDepth 65536 in
theorem w_c8 : (Jvm.Cond.code ({ cls := "java/lang/Record", name := "<init>", desc := "()V" } : Jvm.MethodName) jdk_30_method_1_code (1 : Nat) (Option.none : Option Jvm.ClassFile.FieldType)).before args0 about1 = true := code_word (m := ⟨9, 0⟩) (meth := k9m0) (c := k9c0) (by decide +kernel) rfl rfl rfl (by decide +kernel)
set_option maxRecDepth 65536 in
theorem w_c9 : (Jvm.Cond.code ({ cls := "java/util/Objects", name := "requireNonNull", desc := "(Ljava/lang/Object;Ljava/lang/String;)Ljava/lang/Object;" } : Jvm.MethodName) jdk_31_method_11_code (2 : Nat) (Option.some (Jvm.ClassFile.FieldType.object "java/lang/Object"))).before args0 about1 = true := code_word (m := ⟨11, 1⟩) (meth := k11m1) (c := k11c1) (by decide +kernel) rfl rfl rfl (by decide +kernel)
set_option maxRecDepth 65536 in
theorem w_c10 : (Jvm.Cond.code ({ cls := "com/example/keys_to_peers/keystopeers/move/Move", name := "moved", desc := "()Z" } : Jvm.MethodName) prog_19_method_2_code (1 : Nat) (Option.some Jvm.ClassFile.FieldType.boolean)).before args0 about1 = true := code_word (m := ⟨10, 1⟩) (meth := k10m1) (c := k10c1) (by decide +kernel) rfl rfl rfl (by decide +kernel)
set_option maxRecDepth 65536 in
theorem w_c11 : (Jvm.Cond.code ({ cls := "java/lang/String", name := "equals", desc := "(Ljava/lang/Object;)Z" } : Jvm.MethodName) jdk_42_method_66_code (3 : Nat) (Option.some Jvm.ClassFile.FieldType.boolean)).before args0 about1 = true := code_word (m := ⟨7, 2⟩) (meth := k7m2) (c := k7c2) (by decide +kernel) rfl rfl rfl (by decide +kernel)
set_option maxRecDepth 65536 in
theorem w_c12 : (Jvm.Cond.code ({ cls := "java/lang/StringLatin1", name := "equals", desc := "([B[B)Z" } : Jvm.MethodName) jdk_43_method_13_code (3 : Nat) (Option.some Jvm.ClassFile.FieldType.boolean)).before args0 about1 = true := code_word (m := ⟨12, 1⟩) (meth := k12m1) (c := k12c1) (by decide +kernel) rfl rfl rfl (by decide +kernel)
def codes1 : List Jvm.Cond := [Jvm.Cond.code x code maxLocals ret, Jvm.Cond.code ({ cls := "java/lang/String", name := "<init>", desc := "([C)V" } : Jvm.MethodName) jdk_42_method_3_code (2 : Nat) (Option.none : Option Jvm.ClassFile.FieldType), Jvm.Cond.code ({ cls := "java/lang/String", name := "<init>", desc := "([CIILjava/lang/Void;)V" } : Jvm.MethodName) jdk_42_method_149_code (6 : Nat) (Option.none : Option Jvm.ClassFile.FieldType), Jvm.Cond.code ({ cls := "java/lang/Object", name := "<init>", desc := "()V" } : Jvm.MethodName) object_method_1_code (1 : Nat) (Option.none : Option Jvm.ClassFile.FieldType), Jvm.Cond.code ({ cls := "java/lang/StringUTF16", name := "compress", desc := "([CII)[B" } : Jvm.MethodName) jdk_52_method_16_code (6 : Nat) (Option.some (Jvm.ClassFile.FieldType.array Jvm.ClassFile.FieldType.byte)), Jvm.Cond.code ({ cls := "java/lang/StringUTF16", name := "compress", desc := "([CI[BII)I" } : Jvm.MethodName) jdk_52_method_21_code (7 : Nat) (Option.some Jvm.ClassFile.FieldType.int), Jvm.Cond.code ({ cls := "java/lang/StringUTF16", name := "coderFromArrayLen", desc := "([BI)B" } : Jvm.MethodName) jdk_52_method_15_code (2 : Nat) (Option.some Jvm.ClassFile.FieldType.byte), Jvm.Cond.code ({ cls := "com/example/keys_to_peers/keystopeers/move/Move", name := "<init>", desc := "(Ljava/lang/String;Ljava/lang/String;)V" } : Jvm.MethodName) prog_19_method_1_code (3 : Nat) (Option.none : Option Jvm.ClassFile.FieldType), Jvm.Cond.code ({ cls := "java/lang/Record", name := "<init>", desc := "()V" } : Jvm.MethodName) jdk_30_method_1_code (1 : Nat) (Option.none : Option Jvm.ClassFile.FieldType), Jvm.Cond.code ({ cls := "java/util/Objects", name := "requireNonNull", desc := "(Ljava/lang/Object;Ljava/lang/String;)Ljava/lang/Object;" } : Jvm.MethodName) jdk_31_method_11_code (2 : Nat) (Option.some (Jvm.ClassFile.FieldType.object "java/lang/Object")), Jvm.Cond.code ({ cls := "com/example/keys_to_peers/keystopeers/move/Move", name := "moved", desc := "()Z" } : Jvm.MethodName) prog_19_method_2_code (1 : Nat) (Option.some Jvm.ClassFile.FieldType.boolean), Jvm.Cond.code ({ cls := "java/lang/String", name := "equals", desc := "(Ljava/lang/Object;)Z" } : Jvm.MethodName) jdk_42_method_66_code (3 : Nat) (Option.some Jvm.ClassFile.FieldType.boolean), Jvm.Cond.code ({ cls := "java/lang/StringLatin1", name := "equals", desc := "([B[B)Z" } : Jvm.MethodName) jdk_43_method_13_code (3 : Nat) (Option.some Jvm.ClassFile.FieldType.boolean)]
set_option maxRecDepth 65536 in
theorem codes_eq : words1.filter isCode = codes1 := rfl
theorem w_codes : ∀ c ∈ words1.filter isCode, c.before args0 about1 = true := by
  rw [codes_eq]
  intro c hc
  simp only [codes1, List.mem_cons, List.not_mem_nil, or_false] at hc
  rcases hc with rfl | rfl | rfl | rfl | rfl | rfl | rfl | rfl | rfl | rfl | rfl | rfl | rfl
  · exact w_c0
  · exact w_c1
  · exact w_c2
  · exact w_c3
  · exact w_c4
  · exact w_c5
  · exact w_c6
  · exact w_c7
  · exact w_c8
  · exact w_c9
  · exact w_c10
  · exact w_c11
  · exact w_c12
set_option maxRecDepth 65536 in
theorem w_t1 : (words1.take 24).all (fun c => isCode c || c.before args0 about1) = true := by decide +kernel
set_option maxRecDepth 65536 in
theorem w_t2 : ((words1.drop 24).take 24).all (fun c => isCode c || c.before args0 about1) = true := by decide +kernel
set_option maxRecDepth 65536 in
theorem w_t3 : ((words1.drop 24).drop 24).all (fun c => isCode c || c.before args0 about1) = true := by decide +kernel
theorem w_tables : (allAtoms (Jvm.Cond.code x code maxLocals ret :: tables_1)).before args0 about1 = true := by
  rw [allAtoms_all]
  show words1.all (fun c => c.before args0 about1) = true
  refine all_split ?_ w_codes
  rw [← List.take_append_drop 24 words1, List.all_append, w_t1, ← List.take_append_drop 24 (words1.drop 24), List.all_append, w_t2, w_t3]
  rfl
set_option maxRecDepth 65536 in
theorem w_rest : rest_1_c.before args0 about1 = true := by decide +kernel
set_option maxRecDepth 65536 in
theorem w_case : (Jvm.Cond.and given_1 narrow_1).before args0 about1 = true := by decide +kernel
set_option maxRecDepth 65536 in
theorem w_consts : constsHeld consts_1 about1 := Jvm.Lit.constsHeldB_iff.mp (by decide +kernel)
theorem w_applies : (headSpec (Jvm.Cond.code x code maxLocals ret :: tables_1) room_1).applies x e0.platform about1 = true :=
  (Spec.applies_iff w_frames).mpr ⟨w_running, w_runnable, w_alone, w_named, w_hears, w_ripe, w_room, w_tables⟩
theorem atStart : AtStart classFile x code maxLocals ret World_1 tables_1 room_1 Calls_1 rest_1 Pre_1 launch0 p0 e0 about1 theMethod args0 below0 :=
  ⟨lists_1, trivial, launch0.admits_env _ _ _, launch0.least_env, fairChoices_fair.cas, fairChoices_fair.clock, w_frames, w_args, w_heap, w_applies, ⟨w_consts, trivial⟩, w_rest, w_case⟩
end start1
theorem witness_1 : WitnessClaimed_1 := ⟨start1.p0, start1.e0, start1.about1, start1.theMethod, start1.args0, start1.below0, start1.atStart⟩
end Jvm.Pilot.@@N@@
