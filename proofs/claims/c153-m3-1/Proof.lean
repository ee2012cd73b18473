import JvmDerived
import JvmDerived.Pilot.@@N@@Statement
import JvmDerived.Pilot.@@N@@Code
set_option linter.unusedVariables false
set_option linter.unusedSimpArgs false
set_option maxRecDepth 65536
set_option maxHeartbeats 4000000
namespace Jvm.Pilot.@@N@@
open Jvm Jvm.ClassFile Sem Op Lib Jvm.Free Jvm.Stand Jvm.LawKit Jvm.RoadKit Bundle Jvm.Pilot.@@N@@.Jvm.D

def OwnSets (g : Launch × State × Array Value × List (String × Nat)) : Prop := (∀ d ∈ jdkStatics_1, d.before g.2.2.1 g.2.1 = true) ∧ Fit g.2.1 ∧ g.2.2.2 = consts_1
/-! OWN WALKING KIT, part 1: the heap as an explicit list, the running state, the goal, contracts. -/
abbrev GG := Launch × State × Array Value × List (String × Nat)
abbrev GG.l (g : GG) : Launch := g.1
abbrev GG.Z (g : GG) : State := g.2.1
abbrev GG.a0 (g : GG) : Array Value := g.2.2.1
abbrev GG.EL (g : GG) : List (String × Nat) := g.2.2.2
abbrev MM := Program × Env × State × MethodId × Array Value × List Frame × Method × Code
abbrev MM.p (M : MM) : Program := M.1
abbrev MM.e (M : MM) : Env := M.2.1
abbrev MM.s (M : MM) : State := M.2.2.1
abbrev MM.m (M : MM) : MethodId := M.2.2.2.1
abbrev MM.args (M : MM) : Array Value := M.2.2.2.2.1
abbrev MM.below (M : MM) : List Frame := M.2.2.2.2.2.1
abbrev MM.meth (M : MM) : Method := M.2.2.2.2.2.2.1
abbrev MM.c (M : MM) : Code := M.2.2.2.2.2.2.2
abbrev DD := MethodName × ByteArray × Nat × Option FieldType × Room
abbrev DD.y (D : DD) : MethodName := D.1
abbrev DD.cd (D : DD) : ByteArray := D.2.1
abbrev DD.mx (D : DD) : Nat := D.2.2.1
abbrev DD.rt (D : DD) : Option FieldType := D.2.2.2.1
abbrev DD.rm (D : DD) : Room := D.2.2.2.2
/-- the case's words, at its start -/
def GW (g : GG) : Prop := (∀ d ∈ tables_1, d.before g.a0 g.Z = true) ∧ EW g.Z g.a0 g.EL ∧ OwnSets g
theorem GW.w {g : GG} (W : GW g) : ∀ d ∈ tables_1, d.before g.a0 g.Z = true := W.1
abbrev FD := String × String × String × Value
abbrev Ent := Addr × ((String × List FD) ⊕ (FieldType × String × List Value))
abbrev SE := Addr × Addr × Int32 × List Value
def Ary (Z : State) (h : Heap) (a : Addr) (ty : FieldType) (nm : String) (vs : List Value) : Prop :=
  ∃ c : Cell, Jvm.RoadKit.Arr Z h a c ty ∧ c.slots = vs.toArray ∧ vs.length < 2 ^ 31 ∧ (∀ v ∈ vs, fits ty v = true) ∧ (∀ C, ty = .object C → Ovr Z c.cls C) ∧ (nm ≠ "" → Exa Z h a nm)
def Is (Z : State) (h : Heap) : Ent → Prop
  | (a, .inl (C, fs)) => Exa Z h a C ∧ ∀ f ∈ fs, Fld Z h a f.1 f.2.1 f.2.2.1 f.2.2.2
  | (a, .inr (ty, nm, vs)) => Ary Z h a ty nm vs
def Lays (Z : State) (a0 : Array Value) (C : String) (fs : List FD) : Prop :=
  (fs.map fun f => f.2.1).Nodup ∧ ∀ f ∈ fs, Laid Z a0 C f.1 f.2.1 f.2.2.1 ∧ ∃ ty, parseFieldDescriptor f.2.2.1 = some ty
def Ld (Z : State) (a0 : Array Value) : Ent → Prop
  | (_, .inl (C, fs)) => Lays Z a0 C fs
  | (_, .inr _) => True
def IsS (Z : State) (h : Heap) (y : SE) : Prop :=
  Exa Z h y.1 "java/lang/String" ∧ Fld Z h y.1 "java/lang/String" "value" "[B" (.ref y.2.1) ∧ Fld Z h y.1 "java/lang/String" "coder" "B" (.int y.2.2.1) ∧ Ary Z h y.2.1 .byte "" y.2.2.2
def Hp (g : GG) (vm : Vm) (h : Heap) (H : List Ent) (Lt : List SE) : Prop :=
  (∀ x ∈ H, Is g.Z h x ∧ Ld g.Z g.a0 x ∧ g.Z.heap.size ≤ x.1 ∧ Safe g.Z g.EL vm h x.1) ∧ (H.map Prod.fst).Nodup ∧ (∀ y ∈ Lt, IsS g.Z h y) ∧ ∀ x ∈ H, ∀ y ∈ Lt, x.1 ≠ y.1 ∧ x.1 ≠ y.2.1
section Heap
variable {g : GG} {Z : State} {h h' : Heap} {vm vm1 : Vm} {a b : Addr} {ty : FieldType} {nm : String} {vs : List Value} {H H' : List Ent} {Lt Lt' : List SE} {ws : List Addr} {a0 : Array Value}
theorem Ary.ext (A : Ary Z h a ty nm vs) (E : Ext h h') : Ary Z h' a ty nm vs := by
  obtain ⟨c, r1, r2, r3, r4, r5, r6⟩ := A
  exact ⟨c, r1.ext E, r2, r3, r4, r5, fun q => (r6 q).ext E⟩
theorem Ary.keep (A : Ary Z h a ty nm vs) (K : Keep h h' ws) (q : a ∉ ws) : Ary Z h' a ty nm vs := by
  obtain ⟨c, r1, r2, r3, r4, r5, r6⟩ := A
  exact ⟨c, ⟨K.2.1 a c r1.1 q, r1.2⟩, r2, r3, r4, r5, fun q => (r6 q).keep K⟩
theorem Ary.lt (A : Ary Z h a ty nm vs) : a < h.size := by obtain ⟨c, r1, -⟩ := A; exact r1.lt
theorem Is.lt {x : Ent} (I : Is Z h x) : x.1 < h.size := by
  obtain ⟨a, ⟨C, fs⟩ | ⟨ty, nm, vs⟩⟩ := x
  · exact I.1.lt
  · exact Ary.lt I
theorem Is.ext {x : Ent} (I : Is Z h x) (E : Ext h h') : Is Z h' x := by
  obtain ⟨a, ⟨C, fs⟩ | ⟨ty, nm, vs⟩⟩ := x
  · exact ⟨I.1.ext E, fun f hf => (I.2 f hf).ext E⟩
  · exact Ary.ext I E
theorem Is.keep {x : Ent} (I : Is Z h x) (K : Keep h h' ws) (q : x.1 ∉ ws) : Is Z h' x := by
  obtain ⟨a, ⟨C, fs⟩ | ⟨ty, nm, vs⟩⟩ := x
  · exact ⟨I.1.keep K, fun f hf => (I.2 f hf).keep K q⟩
  · exact Ary.keep I K q
theorem IsS.ext {y : SE} (I : IsS Z h y) (E : Ext h h') : IsS Z h' y := ⟨I.1.ext E, I.2.1.ext E, I.2.2.1.ext E, I.2.2.2.ext E⟩
theorem IsS.keep {y : SE} (I : IsS Z h y) (K : Keep h h' ws) (q : y.1 ∉ ws) (r : y.2.1 ∉ ws) : IsS Z h' y := ⟨I.1.keep K, I.2.1.keep K q, I.2.2.1.keep K q, I.2.2.2.keep K r⟩
/-- the tables and the heap go on, the heap at its end -/
theorem Hp.move (P : Hp g vm h H Lt) (C : CHr g.Z g.EL vm h vm1 h') (E : Ext h h') : Hp g vm1 h' H Lt :=
  ⟨fun x hx => ⟨(P.1 x hx).1.ext E, (P.1 x hx).2.1, (P.1 x hx).2.2.1, C.safe (P.1 x hx).1.lt (P.1 x hx).2.2.2⟩, P.2.1, fun y hy => (P.2.2.1 y hy).ext E, P.2.2.2⟩
theorem Hp.perm (P : Hp g vm h H Lt) (q : H.Perm H') : Hp g vm h H' Lt :=
  ⟨fun x hx => P.1 x (q.mem_iff.mpr hx), (q.map Prod.fst).nodup_iff.mp P.2.1, P.2.2.1, fun x hx => P.2.2.2 x (q.mem_iff.mpr hx)⟩
theorem perm_front {α : Type} {x : α} : ∀ {l : List α} {i : Nat}, l[i]? = some x → (x :: l.eraseIdx i).Perm l
  | [], _, h => by simp at h
  | a :: l, 0, h => by
    rw [List.getElem?_cons_zero] at h
    cases h
    exact List.Perm.refl _
  | a :: l, i + 1, h => by
    rw [List.getElem?_cons_succ] at h
    exact (List.Perm.swap a x _).trans ((perm_front h).cons a)
theorem Hp.front (P : Hp g vm h H Lt) {i : Nat} {x : Ent} (hi : H[i]? = some x) : Hp g vm h (x :: H.eraseIdx i) Lt := by
  exact P.perm (perm_front hi).symm
theorem Hp.sub (P : Hp g vm h H Lt) (q : H'.Sublist H) : Hp g vm h H' Lt :=
  ⟨fun x hx => P.1 x (q.subset hx), (q.map Prod.fst).nodup P.2.1, P.2.2.1, fun x hx => P.2.2.2 x (q.subset hx)⟩
theorem Hp.del (P : Hp g vm h H Lt) (i : Nat) : Hp g vm h (H.eraseIdx i) Lt := P.sub (List.eraseIdx_sublist H i)
theorem Hp.lsub (P : Hp g vm h H Lt) (q : ∀ y ∈ Lt', y ∈ Lt) : Hp g vm h H Lt' := ⟨P.1, P.2.1, fun y hy => P.2.2.1 y (q y hy), fun x hx y hy => P.2.2.2 x hx y (q y hy)⟩
theorem Hp.add (P : Hp g vm h H Lt) {x : Ent} (hI : Is g.Z h x) (hL : Ld g.Z g.a0 x) (h0 : g.Z.heap.size ≤ x.1) (hs : Safe g.Z g.EL vm h x.1) (hn : ∀ y ∈ H, y.1 ≠ x.1) (hl : ∀ y ∈ Lt, x.1 ≠ y.1 ∧ x.1 ≠ y.2.1) : Hp g vm h (x :: H) Lt := by
  refine ⟨fun y hy => ?_, ?_, P.2.2.1, fun y hy => ?_⟩
  · rcases List.mem_cons.mp hy with rfl | hy
    · exact ⟨hI, hL, h0, hs⟩
    · exact P.1 y hy
  · rw [List.map_cons, List.nodup_cons]
    refine ⟨fun q => ?_, P.2.1⟩
    obtain ⟨y, hy, e⟩ := List.mem_map.mp q
    exact hn y hy e
  · rcases List.mem_cons.mp hy with rfl | hy
    · exact hl
    · exact P.2.2.2 y hy
/-- a new cell at the heap's end -/
theorem Hp.born (P : Hp g vm h H Lt) (HC : CHv g.Z g.EL vm h) (E0 : Ext g.Z.heap h) (E : Ext h h') {x : Ent} (ha : x.1 = h.size) (hI : Is g.Z h' x) (hL : Ld g.Z g.a0 x) : Hp g vm h' (x :: H) Lt := by
  have C := CHr.ext E HC
  refine (P.move C E).add hI hL (by rw [ha]; exact E0.1) ?_ (fun y hy => ?_) (fun y hy => ?_)
  · intro B
    have B' := (HC.step fun _ _ _ q => E.2 _ _ q).2 _ B
    obtain ⟨cell, q⟩ := B'.there
    have := (Array.getElem?_eq_some_iff.mp q).1
    rw [ha] at this; omega
  · exact fun e => Nat.lt_irrefl _ (Nat.lt_of_lt_of_eq (P.1 y hy).1.lt (e.trans ha).symm)
  · have q1 := (P.2.2.1 y hy).1.lt
    have q2 := (P.2.2.1 y hy).2.2.2.lt
    exact ⟨fun e => Nat.lt_irrefl _ (Nat.lt_of_lt_of_eq q1 (e.symm.trans ha).symm), fun e => Nat.lt_irrefl _ (Nat.lt_of_lt_of_eq q2 (e.symm.trans ha).symm)⟩
theorem Hp.upd (P : Hp g vm h H Lt) (C : CHr g.Z g.EL vm h vm1 h') (K : Keep h h' [a]) {i : Nat} {x x' : Ent} (hi : H[i]? = some x) (ha : x.1 = a) (ha' : x'.1 = a) (hI : Is g.Z h' x') (hL : Ld g.Z g.a0 x') : Hp g vm1 h' (H.set i x') Lt := by
  obtain ⟨hl, hg⟩ := List.getElem?_eq_some_iff.mp hi
  have hmap : (H.set i x').map Prod.fst = H.map Prod.fst := by
    rw [List.map_set, ha']
    apply List.ext_getElem?
    intro j
    rw [List.getElem?_set]
    split
    · rename_i e; subst e
      rw [if_pos (by simpa using hl), List.getElem?_map, hi, ← ha]; rfl
    · rfl
  have hx : x ∈ H := hg ▸ List.getElem_mem hl
  have hmem : ∀ z ∈ H.set i x', z = x' ∨ (z ∈ H ∧ z.1 ≠ a) := fun z hz => by
    obtain ⟨j, hj⟩ := List.mem_iff_getElem?.mp hz
    rw [List.getElem?_set] at hj
    split at hj
    · exact Or.inl (Option.some.inj hj).symm
    · rename_i hne
      refine Or.inr ⟨List.mem_iff_getElem?.mpr ⟨j, hj⟩, fun e => hne ?_⟩
      obtain ⟨hjl, hjg⟩ := List.getElem?_eq_some_iff.mp hj
      have e1 : (H.map Prod.fst)[i]'(by simpa using hl) = (H.map Prod.fst)[j]'(by simpa using hjl) := by
        rw [List.getElem_map, List.getElem_map, hg, hjg, ha, e]
      exact (List.getElem_inj P.2.1).mp e1
  refine ⟨fun z hz => ?_, by rw [hmap]; exact P.2.1, fun y hy => ?_, fun z hz y hy => ?_⟩
  · rcases hmem z hz with rfl | ⟨hz, hne⟩
    · refine ⟨hI, hL, by rw [ha', ← ha]; exact (P.1 x hx).2.2.1, ?_⟩
      have := C.safe (P.1 x hx).1.lt (P.1 x hx).2.2.2
      rw [ha', ← ha]; exact this
    · exact ⟨(P.1 z hz).1.keep K (fun q => hne (List.mem_singleton.mp q)), (P.1 z hz).2.1, (P.1 z hz).2.2.1, C.safe (P.1 z hz).1.lt (P.1 z hz).2.2.2⟩
  · have q := P.2.2.2 x hx y hy
    rw [ha] at q
    exact (P.2.2.1 y hy).keep K (fun r => q.1 (List.mem_singleton.mp r).symm) (fun r => q.2 (List.mem_singleton.mp r).symm)
  · rcases hmem z hz with rfl | ⟨hz, -⟩
    · have q := P.2.2.2 x hx y hy
      rw [ha'] ; rw [ha] at q; exact q
    · exact P.2.2.2 z hz y hy
theorem Hp.lit (P : Hp g vm h H Lt) {y : SE} (I : IsS g.Z h y) (q : ∀ x ∈ H, x.1 ≠ y.1 ∧ x.1 ≠ y.2.1) : Hp g vm h H (y :: Lt) := by
  refine ⟨P.1, P.2.1, fun z hz => ?_, fun x hx z hz => ?_⟩
  · rcases List.mem_cons.mp hz with rfl | hz
    · exact I
    · exact P.2.2.1 z hz
  · rcases List.mem_cons.mp hz with rfl | hz
    · exact q x hx
    · exact P.2.2.2 x hx z hz
/-- a String that is made: it and its bytes are never written again -/
theorem Hp.freeze {cd : Int32} {n : String} {fs : List FD} (P : Hp g vm h ((a, .inl ("java/lang/String", fs)) :: (b, .inr (.byte, n, vs)) :: H) Lt)
    (f1 : ("java/lang/String", "value", "[B", Value.ref b) ∈ fs) (f2 : ("java/lang/String", "coder", "B", Value.int cd) ∈ fs) : Hp g vm h H ((a, b, cd, vs) :: Lt) := by
  have q := P.2.1
  simp only [List.map_cons, List.nodup_cons, List.mem_cons, not_or] at q
  have I1 := (P.1 _ (List.mem_cons_self ..)).1
  have I2 := (P.1 _ (List.mem_cons_of_mem _ (List.mem_cons_self ..))).1
  have I2' : Ary g.Z h b .byte "" vs := by
    obtain ⟨c, r1, r2, r3, r4, r5, r6⟩ := I2
    exact ⟨c, r1, r2, r3, r4, r5, fun q => absurd rfl q⟩
  have P' : Hp g vm h H Lt := P.sub ((List.sublist_cons_self _ _).trans (List.sublist_cons_self _ _))
  refine P'.lit ⟨I1.1, I1.2 _ f1, I1.2 _ f2, I2'⟩ fun x hx => ⟨fun e => ?_, fun e => ?_⟩
  · exact q.1.2 (List.mem_map.mpr ⟨x, hx, e⟩)
  · exact q.2.1 (List.mem_map.mpr ⟨x, hx, e⟩)
/-- .. whose bytes are another String's -/
theorem Hp.freezeL {cd cd' : Int32} {a' : Addr} {fs : List FD} (P : Hp g vm h ((a, .inl ("java/lang/String", fs)) :: H) Lt)
    (f1 : ("java/lang/String", "value", "[B", Value.ref b) ∈ fs) (f2 : ("java/lang/String", "coder", "B", Value.int cd) ∈ fs) (hm : (a', b, cd', vs) ∈ Lt) : Hp g vm h H ((a, b, cd, vs) :: Lt) := by
  have q := P.2.1
  simp only [List.map_cons, List.nodup_cons] at q
  have I1 := (P.1 _ (List.mem_cons_self ..)).1
  refine (P.del 0).lit ⟨I1.1, I1.2 _ f1, I1.2 _ f2, (P.2.2.1 _ hm).2.2.2⟩ fun x hx => ⟨fun e => q.1 (List.mem_map.mpr ⟨x, hx, e⟩), ?_⟩
  exact (P.2.2.2 x (List.mem_cons_of_mem _ hx) _ hm).2
/-- what holds wherever the list holds -/
abbrev Al (g : GG) (H : List Ent) (Lt : List SE) (P : Heap → Prop) : Prop := ∀ vm h, Ext g.Z.heap h → Hp g vm h H Lt → P h
theorem fO {i j : Nat} {C O n d : String} {fs : List FD} {v : Value} (hi : H[i]? = some (a, .inl (C, fs))) (hf : fs[j]? = some (O, n, d, v)) : Al g H Lt fun h => Fld g.Z h a O n d v := fun vm h _ P =>
  (P.1 _ (List.mem_of_getElem? hi)).1.2 _ (List.mem_of_getElem? hf)
theorem fE {i : Nat} {C : String} {fs : List FD} (hi : H[i]? = some (a, .inl (C, fs))) : Al g H Lt fun h => Exa g.Z h a C := fun vm h _ P => (P.1 _ (List.mem_of_getElem? hi)).1.1
theorem aH {i : Nat} (hi : H[i]? = some (a, .inr (ty, nm, vs))) : Al g H Lt fun h => Ary g.Z h a ty nm vs := fun vm h _ P => (P.1 _ (List.mem_of_getElem? hi)).1
theorem sE {cd : Int32} (hm : (a, b, cd, vs) ∈ Lt) : Al g H Lt fun h => Exa g.Z h a "java/lang/String" := fun vm h _ P => (P.2.2.1 _ hm).1
theorem sV {cd : Int32} (hm : (a, b, cd, vs) ∈ Lt) : Al g H Lt fun h => Fld g.Z h a "java/lang/String" "value" "[B" (.ref b) := fun vm h _ P => (P.2.2.1 _ hm).2.1
theorem sC {cd : Int32} (hm : (a, b, cd, vs) ∈ Lt) : Al g H Lt fun h => Fld g.Z h a "java/lang/String" "coder" "B" (.int cd) := fun vm h _ P => (P.2.2.1 _ hm).2.2.1
theorem sA {cd : Int32} (hm : (a, b, cd, vs) ∈ Lt) : Al g H Lt fun h => Ary g.Z h b .byte "" vs := fun vm h _ P => (P.2.2.1 _ hm).2.2.2
theorem Al.old {P : Heap → Prop} (hP : ∀ h, Ext g.Z.heap h → P h) : Al g H Lt P := fun _ h E _ => hP h E
theorem Ary.cell (A : Ary Z h a ty nm vs) : ∃ c : Cell, Jvm.RoadKit.Arr Z h a c ty ∧ c.slots.size = vs.length ∧ ∀ i : Nat, c.slots[i]? = vs[i]? := by
  obtain ⟨c, r1, r2, -⟩ := A
  exact ⟨c, r1, by rw [r2]; simp, fun i => by rw [r2]; simp⟩
end Heap
/-! OWN WALKING KIT, part 2: running, goal, contract, and one rule an instruction. -/
def Rn (g : GG) (D : DD) (M : MM) (T : State) (A : Vm → Heap → Prop) (cs ss : Nat) : Prop :=
  (GW g ∧ M.p.tables.exec = Jvm.exec ∧ M.c.code = D.cd ∧ M.c.maxLocals = D.mx ∧ M.meth.sig.returnType = D.rt ∧ M.meth.locks = false ∧ M.meth.name = D.y.name) ∧
  ∃ (vm0 : Vm) (k0 : Nat) (locs : List Loc), Stand M.p g.l M.e D.rm (M.s.setVm vm0) M.m M.args M.below M.meth M.c T locs cs ss ∧ M.s.Since vm0 k0 ∧ k0 ≤ T.heap.size ∧ g.Z.Warmed39 vm0 ∧ vm0.findClass D.y.cls = some M.m.cls ∧
    CHr g.Z g.EL M.s.vm M.s.heap vm0 T.heap ∧ Fr g.Z.heap.size locs ∧ Ext g.Z.heap T.heap ∧ A vm0 T.heap
abbrev RH (g : GG) (D : DD) (M : MM) (T : State) (H : List Ent) (Lt : List SE) (cs ss : Nat) : Prop := Rn g D M T (fun vm h => Hp g vm h H Lt) cs ss
def Fn (g : GG) (D : DD) (M : MM) (Q : Option Value → Vm → Heap → Prop) (U : State) : Prop :=
  ∃ (t : State) (v : Option Value) (L : List Loc), Steps M.p.tables M.e M.below U t ∧ t.status = .running ∧ Ended t M.below (.returned v) ∧ Q v t.vm t.heap ∧ Fr g.Z.heap.size L ∧ CHr g.Z g.EL M.s.vm M.s.heap t.vm t.heap ∧ Ext g.Z.heap t.heap ∧
    ReturnedEndW M.s (.returned v) t L D.rm.cells D.rm.slots
def CtW (g : GG) (D : DD) (ws : List Jvm.Cond) (as : Array Value) (H : List Ent) (Lt : List SE) (Q : Option Value → Vm → Heap → Prop) : Prop :=
  MetFree g.l D.y (head1 (Jvm.Cond.code D.y D.cd D.mx D.rt :: ws) D.rm) (fun a U => a = as ∧ g.Z.Warmed39 U.vm ∧ CHv g.Z g.EL U.vm U.heap ∧ Ext g.Z.heap U.heap ∧ Hp g U.vm U.heap H Lt) (fun _ _ _ _ _ => True)
    (fun _ U o U' => ∃ v L, o = .returned v ∧ Q v U'.vm U'.heap ∧ Fr g.Z.heap.size L ∧ CHr g.Z g.EL U.vm U.heap U'.vm U'.heap ∧ Ext g.Z.heap U'.heap ∧ ReturnedEndW U o U' L D.rm.cells D.rm.slots)
abbrev Ct (g : GG) (D : DD) (as : Array Value) (H : List Ent) (Lt : List SE) (Q : Option Value → Vm → Heap → Prop) : Prop := CtW g D [] as H Lt Q
section Rules
variable {g : GG} {D D' : DD} {M : MM} {T : State} {A A' : Vm → Heap → Prop} {cs ss : Nat} {Q Q' : Option Value → Vm → Heap → Prop} {pc pc' : Nat} {Ls Ls' : Array Slot} {S : List Value} {H H' : List Ent} {Lt Lt' : List SE} {as : Array Value} {ws : List Jvm.Cond}
theorem ext_rfl (h : Heap) : Ext h h := ⟨Nat.le_refl _, fun _ _ q => q⟩
theorem ext_trans {h h1 h2 : Heap} (E : Ext h h1) (E' : Ext h1 h2) : Ext h h2 := ⟨Nat.le_trans E.1 E'.1, fun a c q => E'.2 a c (E.2 a c q)⟩
theorem Rn.gw (B : Rn g D M T A cs ss) : GW g := B.1.1
theorem Rn.hw (B : Rn g D M T A cs ss) : ∀ d ∈ tables_1, d.before g.a0 g.Z = true := B.1.1.1
theorem Rn.hx (B : Rn g D M T A cs ss) : M.p.tables.exec = Jvm.exec := B.1.2.1
theorem Rn.cd (B : Rn g D M T A cs ss) : M.c.code = D.cd := B.1.2.2.1
theorem Rn.here (B : Rn g D M T A cs ss) : At T M.m M.c M.below := by obtain ⟨-, vm0, k0, locs, X, -⟩ := B; exact X.here
theorem Rn.map (B : Rn g D M T A cs ss) (q : ∀ vm h, Ext g.Z.heap h → A vm h → A' vm h) : Rn g D M T A' cs ss := by
  obtain ⟨st, vm0, k0, locs, X, hS, hk, hZ, hown, hC, N, E0, hH⟩ := B
  exact ⟨st, vm0, k0, locs, X, hS, hk, hZ, hown, hC, N, E0, q _ _ E0 hH⟩
theorem Rn.ex {α : Type} {P : α → Vm → Heap → Prop} (B : Rn g D M T (fun vm h => ∃ x, P x vm h) cs ss) : ∃ x, Rn g D M T (P x) cs ss := by
  obtain ⟨st, vm0, k0, locs, X, hS, hk, hZ, hown, hC, N, E0, x, hH⟩ := B
  exact ⟨x, st, vm0, k0, locs, X, hS, hk, hZ, hown, hC, N, E0, hH⟩
theorem Rn.and {P : Prop} (B : Rn g D M T (fun vm h => P ∧ A vm h) cs ss) : P ∧ Rn g D M T A cs ss := by
  obtain ⟨st, vm0, k0, locs, X, hS, hk, hZ, hown, hC, N, E0, x, hH⟩ := B
  exact ⟨x, st, vm0, k0, locs, X, hS, hk, hZ, hown, hC, N, E0, hH⟩
theorem Rn.or (B : Rn g D M T (fun vm h => A vm h ∨ A' vm h) cs ss) : Rn g D M T A cs ss ∨ Rn g D M T A' cs ss := by
  obtain ⟨st, vm0, k0, locs, X, hS, hk, hZ, hown, hC, N, E0, hH | hH⟩ := B
  · exact Or.inl ⟨st, vm0, k0, locs, X, hS, hk, hZ, hown, hC, N, E0, hH⟩
  · exact Or.inr ⟨st, vm0, k0, locs, X, hS, hk, hZ, hown, hC, N, E0, hH⟩
theorem Rn.front (B : RH g D M T H Lt cs ss) {i : Nat} {x : Ent} (hi : H[i]? = some x) (e : x :: H.eraseIdx i = H') : RH g D M T H' Lt cs ss := B.map fun _ _ _ P => e ▸ P.front hi
theorem Rn.del (B : RH g D M T H Lt cs ss) (i : Nat) (e : H.eraseIdx i = H') : RH g D M T H' Lt cs ss := B.map fun _ _ _ P => e ▸ P.del i
theorem Rn.lsub (B : RH g D M T H Lt cs ss) (q : ∀ y ∈ Lt', y ∈ Lt) : RH g D M T H Lt' cs ss := B.map fun _ _ _ P => P.lsub q
theorem Rn.mono (B : Rn g D M T A cs ss) {cs' ss' : Nat} (h1 : cs ≤ cs') (h2 : ss ≤ ss') : Rn g D M T A cs' ss' := by
  obtain ⟨st, vm0, k0, locs, X, r⟩ := B
  exact ⟨st, vm0, k0, locs, X.mono h1 h2, r⟩
theorem Fn.go {U U' : State} (F : Fn g D M Q U') (st : ∀ t, Steps M.p.tables M.e M.below U' t → Steps M.p.tables M.e M.below U t) : Fn g D M Q U := by
  obtain ⟨t, v, L, h1, r⟩ := F
  exact ⟨t, v, L, st _ h1, r⟩
theorem CtW.body (W : GW g) (hpl : plainFor D.y = true) (ef : ∀ m, entryFrame m as D.mx = mkF m 0 Ls []) (K : ∀ M T, RH g D M T H Lt 0 0 → Fn g D M Q (T.setTop (mkF M.m 0 Ls []))) : CtW g D ws as H Lt Q := by
  refine MetFree.of_bodySF hpl hisR ?_
  intro p e s m args below meth c s₁ Bd hml0 hP hK
  obtain ⟨rfl, hZ, hC, hE, hH⟩ := hP
  have hown : s.vm.findClass D.y.cls = some m.cls := findClass_of_methodNamed Bd.named
  have hnm := (name_of_methodNamed Bd.named Bd.method).1
  have X0 := Stand.of_body Bd
  have e0 : s₁.heap = s.heap := by rw [Bd.state]; rfl
  obtain ⟨t, v, L, h1, h2, h3, h4, h5, h6, h7, h8⟩ := K (p, e, s, m, args, below, meth, c) s₁ ⟨⟨W, Bd.exec, Bd.bytes, hml0, Bd.returns, Bd.notSynchronized, hnm⟩, s.vm, 0, [], X0, (State.WarmedH.refl s).since 0, Nat.zero_le _, hZ, hown, by rw [e0]; exact CHr.refl hC, Fr.nil _, by rw [e0]; exact hE, by rw [e0]; exact hH⟩
  exact ⟨t, _, castTop (ef m) h1, h2, h3, v, L, rfl, h4, h5, h6, h7, h8⟩
/-! returns -/
theorem endW {s t : State} {o : Outcome} {L : List Loc} {k n k' n' : Nat} (h : ReturnedEndW s o t L k n) (h1 : k ≤ k') (h2 : n ≤ n') : ReturnedEndW s o t L k' n' := ⟨h.1, h.2.1, h.2.2.1, h.2.2.2.mono h1 h2⟩
theorem r_ret (B : RH g D M T H Lt cs ss) (hd : decode D.cd pc = .ok (.return_, 1)) (hr : D.rt = none) (hc : cs ≤ D.rm.cells) (hs : ss ≤ D.rm.slots) (hQ : ∀ vm h, Hp g vm h H Lt → Q none vm h) : Fn g D M Q (T.setTop (mkF M.m pc Ls [])) := by
  obtain ⟨⟨W, hx, hcd, hml, hrt, hlk, hnm⟩, vm0, k0, locs, X, hS, hk, hZ, hown, hC, N, E0, hH⟩ := B
  obtain ⟨fs, hl, h1, h2, h3⟩ := X.leaveW hS hk (v := none) (fun _ => rfl) hlk
  have hat := CHv.at X hZ W.2.1 hC.1
  exact ⟨T.setFrames fs, none, locs, X.returnOut hx (hrt.trans hr) (hb hcd hd) hl, h1, h2, hQ _ _ (hH.move hat (ext_rfl _)), N, hC.trans hat, E0, endW h3 hc hs⟩
theorem r_retv (B : RH g D M T H Lt cs ss) {i : Instr} {w : Value} {t : FieldType} {rest : List Value} (hd : decode D.cd pc = .ok (i, 1)) (hr : D.rt = some t) (hn : narrow t w = w)
    (hi : (i = .ireturn ∧ (t = .int ∨ t = .boolean ∨ t = .byte ∨ t = .char ∨ t = .short) ∧ ∃ z, w = .int z) ∨ (i = .lreturn ∧ t = .long ∧ ∃ z, w = .long z) ∨ (i = .dreturn ∧ t = .double ∧ ∃ z, w = .double z) ∨ (i = .freturn ∧ t = .float ∧ ∃ z, w = .float z) ∨ (i = .areturn ∧ t.isReference = true ∧ w.isRef = true))
    (hc : cs ≤ D.rm.cells) (hs : ss ≤ D.rm.slots) (hQ : ∀ vm h, Hp g vm h H Lt → Q (some w) vm h) : Fn g D M Q (T.setTop (mkF M.m pc Ls (w :: rest))) := by
  obtain ⟨⟨W, hx, hcd, hml, hrt, hlk, hnm⟩, vm0, k0, locs, X, hS, hk, hZ, hown, hC, N, E0, hH⟩ := B
  obtain ⟨fs, hl, h1, h2, h3⟩ := X.leaveW hS hk (v := some w) (fun q => by rw [hrt, hr] at q; cases q) hlk
  have hat := CHv.at X hZ W.2.1 hC.1
  exact ⟨T.setFrames fs, some w, locs, retOut X hx (hrt.trans hr) hn hi (hb hcd hd) hl, h1, h2, hQ _ _ (hH.move hat (ext_rfl _)), N, hC.trans hat, E0, endW h3 hc hs⟩
theorem r_reti (B : RH g D M T H Lt cs ss) {z : Int32} {t : FieldType} {rest : List Value} (hd : decode D.cd pc = .ok (.ireturn, 1)) (hr : D.rt = some t) (ht : t = .int ∨ t = .boolean ∨ t = .byte ∨ t = .char ∨ t = .short) (hn : narrow t (.int z) = .int z)
    (hc : cs ≤ D.rm.cells) (hs : ss ≤ D.rm.slots) (hQ : ∀ vm h, Hp g vm h H Lt → Q (some (.int z)) vm h) : Fn g D M Q (T.setTop (mkF M.m pc Ls (.int z :: rest))) :=
  r_retv B hd hr hn (Or.inl ⟨rfl, ht, z, rfl⟩) hc hs hQ
theorem r_reta (B : RH g D M T H Lt cs ss) {w : Value} {t : FieldType} {rest : List Value} (hd : decode D.cd pc = .ok (.areturn, 1)) (hr : D.rt = some t) (ht : t.isReference = true) (hw : w.isRef = true)
    (hc : cs ≤ D.rm.cells) (hs : ss ≤ D.rm.slots) (hQ : ∀ vm h, Hp g vm h H Lt → Q (some w) vm h) : Fn g D M Q (T.setTop (mkF M.m pc Ls (w :: rest))) :=
  r_retv B hd hr (by cases t <;> first | (cases w <;> first | rfl | cases hw) | cases ht) (Or.inr (Or.inr (Or.inr (Or.inr ⟨rfl, ht, hw⟩)))) hc hs hQ
theorem r_retj (B : RH g D M T H Lt cs ss) {z : Int64} {rest : List Value} (hd : decode D.cd pc = .ok (.lreturn, 1)) (hr : D.rt = some .long)
    (hc : cs ≤ D.rm.cells) (hs : ss ≤ D.rm.slots) (hQ : ∀ vm h, Hp g vm h H Lt → Q (some (.long z)) vm h) : Fn g D M Q (T.setTop (mkF M.m pc Ls (.long z :: rest))) :=
  r_retv B hd hr rfl (Or.inr (Or.inl ⟨rfl, rfl, z, rfl⟩)) hc hs hQ
theorem r_retd (B : RH g D M T H Lt cs ss) {z : UInt64} {rest : List Value} (hd : decode D.cd pc = .ok (.dreturn, 1)) (hr : D.rt = some .double)
    (hc : cs ≤ D.rm.cells) (hs : ss ≤ D.rm.slots) (hQ : ∀ vm h, Hp g vm h H Lt → Q (some (.double z)) vm h) : Fn g D M Q (T.setTop (mkF M.m pc Ls (.double z :: rest))) :=
  r_retv B hd hr rfl (Or.inr (Or.inr (Or.inl ⟨rfl, rfl, z, rfl⟩))) hc hs hQ
/-! fields -/
theorem r_get (B : RH g D M T H Lt cs ss) {ix : Nat} {R0 O n d host : String} {a : Addr} {v : Value} (hd : decode D.cd pc = .ok (.getfield ix, 3)) (hp : pc + 3 = pc')
    (w : (Jvm.Cond.fieldLink D.y.cls ix R0 n d).before g.a0 g.Z = true ∨ (Jvm.Cond.fieldLinkNest D.y.cls ix R0 n d host).before g.a0 g.Z = true) (via : Via g.Z R0 O n d) (F : Al g H Lt fun h => Fld g.Z h a O n d v)
    (K : ∀ T', RH g D M T' H Lt cs ss → Fn g D M Q (T'.setTop (mkF M.m pc' Ls (v :: S)))) : Fn g D M Q (T.setTop (mkF M.m pc Ls (.ref a :: S))) := by
  subst hp
  obtain ⟨st, vm0, k0, locs, X, hS, hk, hZ, hown, hC, N, E0, hH⟩ := B
  obtain ⟨T', X', e', stp⟩ := getF (Z := g.Z) (a0 := g.a0) X st.2.1 hZ hown w via rfl (F _ _ E0 hH) (g := mkF M.m pc Ls (.ref a :: S)) rfl rfl (hb st.2.2.1 hd)
  exact (K T' ⟨st, vm0, k0, locs, X', hS, by rw [e']; exact hk, hZ, hown, by rw [e']; exact hC, N, by rw [e']; exact E0, by rw [e']; exact hH⟩).go stp
theorem r_gets (B : RH g D M T H Lt cs ss) {ix : Nat} {R0 O n d host : String} {v : Value} (hd : decode D.cd pc = .ok (.getstatic ix, 3)) (hp : pc + 3 = pc')
    (w : (Jvm.Cond.fieldLink D.y.cls ix R0 n d).before g.a0 g.Z = true ∨ (Jvm.Cond.fieldLinkNest D.y.cls ix R0 n d host).before g.a0 g.Z = true) (via : Via g.Z R0 O n d) (F : Sta g.Z g.Z.heap O n d v)
    (K : ∀ T', RH g D M T' H Lt cs ss → Fn g D M Q (T'.setTop (mkF M.m pc' Ls (v :: S)))) : Fn g D M Q (T.setTop (mkF M.m pc Ls S)) := by
  subst hp
  obtain ⟨st, vm0, k0, locs, X, hS, hk, hZ, hown, hC, N, E0, hH⟩ := B
  obtain ⟨T', X', e', stp⟩ := getS2 (Z := g.Z) (a0 := g.a0) X st.2.1 hZ hown w via rfl (F.ext E0) (g := mkF M.m pc Ls S) rfl (hb st.2.2.1 hd)
  exact (K T' ⟨st, vm0, k0, locs, X', hS, by rw [e']; exact hk, hZ, hown, by rw [e']; exact hC, N, by rw [e']; exact E0, by rw [e']; exact hH⟩).go stp
theorem is_put {Z : State} {h h' : Heap} {a0 : Array Value} {a : Addr} {C O n d : String} {fs : List FD} {j : Nat} {old v : Value} (I : Is Z h (a, .inl (C, fs))) (L : Lays Z a0 C fs) (hf : fs[j]? = some (O, n, d, old)) (W : Wr h h' a (Jvm.RoadKit.slotOf Z O n d) v) : Is Z h' (a, .inl (C, fs.set j (O, n, d, v))) ∧ Lays Z a0 C (fs.set j (O, n, d, v)) := by
  obtain ⟨hj, hg⟩ := List.getElem?_eq_some_iff.mp hf
  have hmap : (fs.set j (O, n, d, v)).map (fun f => f.2.1) = fs.map fun f => f.2.1 := by
    rw [List.map_set]
    apply List.ext_getElem?
    intro i
    rw [List.getElem?_set]
    split
    · rename_i e; subst e
      rw [if_pos (by simpa using hj), List.getElem?_map, hf]; rfl
    · rfl
  have hmem : ∀ z ∈ fs.set j (O, n, d, v), z = (O, n, d, v) ∨ (z ∈ fs ∧ z.2.1 ≠ n) := fun z hz => by
    obtain ⟨i, hi⟩ := List.mem_iff_getElem?.mp hz
    rw [List.getElem?_set] at hi
    split at hi
    · exact Or.inl (Option.some.inj hi).symm
    · rename_i hne
      refine Or.inr ⟨List.mem_iff_getElem?.mpr ⟨i, hi⟩, fun e => hne ?_⟩
      obtain ⟨hil, hig⟩ := List.getElem?_eq_some_iff.mp hi
      have e1 : (fs.map fun f => f.2.1)[j]'(by simpa using hj) = (fs.map fun f => f.2.1)[i]'(by simpa using hil) := by
        rw [List.getElem_map, List.getElem_map, hg, hig, e]
      exact (List.getElem_inj L.1).mp e1
  have hx : (O, n, d, old) ∈ fs := List.mem_of_getElem? hf
  refine ⟨⟨I.1.wr W, fun z hz => ?_⟩, by rw [hmap]; exact L.1, fun z hz => ?_⟩
  · rcases hmem z hz with rfl | ⟨hz, hne⟩
    · exact (I.2 _ hx).same W
    · obtain ⟨t1, ht1⟩ := (L.2 _ hx).2
      obtain ⟨t2, ht2⟩ := (L.2 _ hz).2
      exact (I.2 _ hz).other W (Or.inr (slot_ne (L.2 _ hz).1 (L.2 _ hx).1 hne ht2 ht1))
  · rcases hmem z hz with rfl | ⟨hz, -⟩
    · exact (show _ from L.2 (O, n, d, old) hx)
    · exact L.2 _ hz
theorem r_put (B : RH g D M T H Lt cs ss) {ix kk i j : Nat} {R0 O n d host C : String} {a : Addr} {v old : Value} {fs : List FD} {ty : FieldType} (hd : decode D.cd pc = .ok (.putfield ix, 3)) (hp : pc + 3 = pc')
    (w : (Jvm.Cond.fieldLink D.y.cls ix R0 n d).before g.a0 g.Z = true ∨ (Jvm.Cond.fieldLinkNest D.y.cls ix R0 n d host).before g.a0 g.Z = true) (via : Via g.Z R0 O n d)
    (hi : H[i]? = some (a, .inl (C, fs))) (hf : fs[j]? = some (O, n, d, old)) (L : (Jvm.Cond.lays C O n d).before g.a0 g.Z = true ∨ ((Jvm.Cond.laysFinal C O n d).before g.a0 g.Z = true ∧ D.y.cls = O ∧ D.y.name = "<init>")) (wi : (Jvm.Cond.instantiable C kk).before g.a0 g.Z = true)
    (hty : parseFieldDescriptor d = some ty) (hn : narrow ty v = v) (hft : fits ty v = true) (e : H.set i (a, .inl (C, fs.set j (O, n, d, v))) = H')
    (K : ∀ T', RH g D M T' H' Lt cs ss → Fn g D M Q (T'.setTop (mkF M.m pc' Ls S))) : Fn g D M Q (T.setTop (mkF M.m pc Ls (v :: .ref a :: S))) := by
  subst hp
  obtain ⟨st, vm0, k0, locs, X, hS, hk, hZ, hown, hC, N, E0, hH⟩ := B
  have I := hH.1 _ (List.mem_of_getElem? hi)
  obtain ⟨T', h', X', e', W, stp⟩ := putF (Z := g.Z) (a0 := g.a0) X st.2.1 hZ hown w via rfl (I.1.2 _ (List.mem_of_getElem? hf)) I.1.1 (L.imp id fun q => ⟨q.1, q.2.1, st.2.2.2.2.2.2.trans q.2.2⟩) wi hty hn hft (g := mkF M.m pc Ls (v :: .ref a :: S)) rfl rfl (hb st.2.2.1 hd)
  have C1 := CHr.wr W I.2.2.2 hC.1
  have hsz := W.size
  obtain ⟨q1, q2⟩ := is_put I.1 I.2.1 hf W
  have P' := hH.upd C1 (Keep.of_wr W) hi rfl rfl q1 q2
  rw [e] at P'
  refine (K T' ⟨st, vm0, k0, _, X', hS, by rw [e', hsz]; exact hk, hZ, hown, by rw [e']; exact hC.trans C1, Fr.snoc X' N I.2.2.1, ?_, by rw [e']; exact P'⟩).go stp
  rw [e']; exact (Old.wr ⟨rfl, E0⟩ W I.2.2.1).2
/-- putfield of an int that the field's kind narrows -/
theorem r_putn (B : RH g D M T H Lt cs ss) {ix kk i j : Nat} {R0 O n d C : String} {a : Addr} {v v' old : Value} {fs : List FD} {ty : FieldType} (hd : decode D.cd pc = .ok (.putfield ix, 3)) (hp : pc + 3 = pc')
    (w : (Jvm.Cond.fieldLink D.y.cls ix R0 n d).before g.a0 g.Z = true) (via : Via g.Z R0 O n d)
    (hi : H[i]? = some (a, .inl (C, fs))) (hf : fs[j]? = some (O, n, d, old)) (L : (Jvm.Cond.lays C O n d).before g.a0 g.Z = true ∨ ((Jvm.Cond.laysFinal C O n d).before g.a0 g.Z = true ∧ D.y.cls = O ∧ D.y.name = "<init>")) (wi : (Jvm.Cond.instantiable C kk).before g.a0 g.Z = true)
    (hty : parseFieldDescriptor d = some ty) (hn : narrow ty v = v') (hft : fits ty v' = true) (e : H.set i (a, .inl (C, fs.set j (O, n, d, v'))) = H')
    (K : ∀ T', RH g D M T' H' Lt cs ss → Fn g D M Q (T'.setTop (mkF M.m pc' Ls S))) : Fn g D M Q (T.setTop (mkF M.m pc Ls (v :: .ref a :: S))) := by
  subst hp
  obtain ⟨st, vm0, k0, locs, X, hS, hk, hZ, hown, hC, N, E0, hH⟩ := B
  have I := hH.1 _ (List.mem_of_getElem? hi)
  obtain ⟨T', h', X', e', W, stp⟩ := putFN (Z := g.Z) (a0 := g.a0) X st.2.1 hZ hown w via rfl (I.1.2 _ (List.mem_of_getElem? hf)) I.1.1 (L.imp id fun q => ⟨q.1, q.2.1, st.2.2.2.2.2.2.trans q.2.2⟩) wi hty hn hft (g := mkF M.m pc Ls (v :: .ref a :: S)) rfl rfl (hb st.2.2.1 hd)
  have C1 := CHr.wr W I.2.2.2 hC.1
  have hsz := W.size
  obtain ⟨q1, q2⟩ := is_put I.1 I.2.1 hf W
  have P' := hH.upd C1 (Keep.of_wr W) hi rfl rfl q1 q2
  rw [e] at P'
  refine (K T' ⟨st, vm0, k0, _, X', hS, by rw [e', hsz]; exact hk, hZ, hown, by rw [e']; exact hC.trans C1, Fr.snoc X' N I.2.2.1, ?_, by rw [e']; exact P'⟩).go stp
  rw [e']; exact (Old.wr ⟨rfl, E0⟩ W I.2.2.1).2
/-! new objects and arrays -/
theorem r_new (B : RH g D M T H Lt cs ss) {ix n cs' ss' : Nat} {C : String} {fs : List FD} (hd : decode D.cd pc = .ok (.new ix, 3)) (hp : pc + 3 = pc')
    (w : (Jvm.Cond.classLink D.y.cls ix C).before g.a0 g.Z = true) (wi : (Jvm.Cond.instantiable C n).before g.a0 g.Z = true) (wz : (Jvm.Cond.initialized C).before g.a0 g.Z = true) (hl : Lays g.Z g.a0 C fs)
    (hv : ∀ f ∈ fs, (parseFieldDescriptor f.2.2.1).map defaultValue = some f.2.2.2) (hc : cs + 1 = cs') (hs : ss + n = ss') (hc' : cs' ≤ D.rm.cells) (hs' : ss' ≤ D.rm.slots)
    (K : ∀ T' a, RH g D M T' ((a, .inl (C, fs)) :: H) Lt cs' ss' → Fn g D M Q (T'.setTop (mkF M.m pc' Ls (.ref a :: S)))) : Fn g D M Q (T.setTop (mkF M.m pc Ls S)) := by
  subst hp hc hs
  obtain ⟨st, vm0, k0, locs, X, hS, hk, hZ, hown, hC, N, E0, hH⟩ := B
  obtain ⟨T', h', X', e', E, A1, D1, -, stp⟩ := newO (Z := g.Z) (a0 := g.a0) X st.2.1 hZ hown w wi wz rfl (g := mkF M.m pc Ls S) rfl (hb st.2.2.1 hd) hc' hs'
  have P' := hH.born (x := (T.heap.size, .inl (C, fs))) hC.1 E0 E rfl ⟨A1, fun f hf => by
    obtain ⟨ty, ht⟩ := (hl.2 f hf).2
    have q := hv f hf
    rw [ht] at q
    rw [← Option.some.inj q]
    exact D1 (hl.2 f hf).1 ht⟩ hl
  exact (K T' _ ⟨st, vm0, k0, locs, X', hS, by rw [e']; exact Nat.le_trans hk E.1, hZ, hown, by rw [e']; exact hC.trans (CHr.ext E hC.1), N, by rw [e']; exact ext_trans E0 E, by rw [e']; exact P'⟩).go stp
theorem ary_new {Z : State} {h : Heap} {a : Addr} {k : ClassId} {ty : FieldType} {n : Int32} {nm : String} {nn : Nat} (A : Jvm.RoadKit.Arr Z h a (newA k ty n) ty) (hn : ¬ n < 0) (hnn : n.toNatClampNeg = nn) (hf : fits ty (defaultValue ty) = true) (hO : ∀ C, ty = .object C → Ovr Z k C) (hE : nm ≠ "" → Exa Z h a nm) : Ary Z h a ty nm (List.replicate nn (defaultValue ty)) := by
  refine ⟨_, A, ?_, ?_, ?_, hO, hE⟩
  · subst hnn; simp [newA]
  · have := (back32 hn).2
    rw [List.length_replicate, ← hnn]; exact this
  · intro v hv
    rw [(List.mem_replicate.mp hv).2]; exact hf
theorem r_newp (B : RH g D M T H Lt cs ss) {aty : ArrayType} {n : Int32} {nn cap cs' ss' : Nat} {ty : FieldType} {vs : List Value} {ad : String} (hd : decode D.cd pc = .ok (.newarray aty, 2)) (hp : pc + 2 = pc')
    (w : (Jvm.Cond.arrayClass ty).before g.a0 g.Z = true) (hty : newarray.typeOf aty = ty) (hn : ¬ n < 0) (hnn : n.toNatClampNeg = nn) (hcap : nn ≤ cap) (hb8 : cap * 8 ≤ 536870912) (hc : cs + 1 = cs') (hs : ss + cap = ss') (hc' : cs' ≤ D.rm.cells) (hs' : ss' ≤ D.rm.slots)
    (had : "[" ++ ty.toString = ad) (hfd : fits ty (defaultValue ty) = true) (hob : ∀ C, ty ≠ .object C) (hvs : List.replicate nn (defaultValue ty) = vs)
    (K : ∀ T' a, RH g D M T' ((a, .inr (ty, ad, vs)) :: H) Lt cs' ss' → Fn g D M Q (T'.setTop (mkF M.m pc' Ls (.ref a :: S)))) : Fn g D M Q (T.setTop (mkF M.m pc Ls (.int n :: S))) := by
  subst hp hty hc hs
  obtain ⟨st, vm0, k0, locs, X, hS, hk, hZ, hown, hC, N, E0, hH⟩ := B
  obtain ⟨T', h', cA, X', e', E, A1, A2, stp⟩ := newPE (Z := g.Z) (a0 := g.a0) X st.2.1 hZ w rfl (g := mkF M.m pc Ls (.int n :: S)) rfl (hb st.2.2.1 hd) rfl hn (cap := cap) (by rw [hnn]; exact hcap) hb8 hc' hs' had
  have P' := hH.born (x := (T.heap.size, .inr (newarray.typeOf aty, ad, vs))) hC.1 E0 E rfl (hvs ▸ ary_new A1 hn hnn hfd (fun C q => absurd q (hob C)) (fun _ => A2)) trivial
  exact (K T' _ ⟨st, vm0, k0, locs, X', hS, by rw [e']; exact Nat.le_trans hk E.1, hZ, hown, by rw [e']; exact hC.trans (CHr.ext E hC.1), N, by rw [e']; exact ext_trans E0 E, by rw [e']; exact P'⟩).go stp
theorem r_newr (B : RH g D M T H Lt cs ss) {ix : Nat} {C : String} {n : Int32} {nn cap cs' ss' : Nat} {vs : List Value} {ad : String} (hd : decode D.cd pc = .ok (.anewarray ix, 3)) (hp : pc + 3 = pc')
    (w1 : (Jvm.Cond.classLink D.y.cls ix C).before g.a0 g.Z = true) (w2 : (Jvm.Cond.arrayOver (.object C)).before g.a0 g.Z = true) (hn : ¬ n < 0) (hnn : n.toNatClampNeg = nn) (hcap : nn ≤ cap) (hb8 : cap * 8 ≤ 536870912) (hc : cs + 1 = cs') (hs : ss + cap = ss') (hc' : cs' ≤ D.rm.cells) (hs' : ss' ≤ D.rm.slots)
    (had : "[" ++ (FieldType.object C).toString = ad) (hvs : List.replicate nn Value.null = vs)
    (K : ∀ T' a, RH g D M T' ((a, .inr (.object C, ad, vs)) :: H) Lt cs' ss' → Fn g D M Q (T'.setTop (mkF M.m pc' Ls (.ref a :: S)))) : Fn g D M Q (T.setTop (mkF M.m pc Ls (.int n :: S))) := by
  subst hp hc hs
  obtain ⟨st, vm0, k0, locs, X, hS, hk, hZ, hown, hC, N, E0, hH⟩ := B
  obtain ⟨T', h', cA, X', e', E, A1, A2, A3, stp⟩ := newRE (Z := g.Z) (a0 := g.a0) X st.2.1 hZ hown w1 w2 rfl (g := mkF M.m pc Ls (.int n :: S)) rfl (hb st.2.2.1 hd) rfl hn (cap := cap) (by rw [hnn]; exact hcap) hb8 hc' hs' had
  have P' := hH.born (x := (T.heap.size, .inr (.object C, ad, vs))) hC.1 E0 E rfl (hvs ▸ ary_new A1 hn hnn rfl (fun C' q => by cases q; exact A3) (fun _ => A2)) trivial
  exact (K T' _ ⟨st, vm0, k0, locs, X', hS, by rw [e']; exact Nat.le_trans hk E.1, hZ, hown, by rw [e']; exact hC.trans (CHr.ext E hC.1), N, by rw [e']; exact ext_trans E0 E, by rw [e']; exact P'⟩).go stp
/-! arrays read and written -/
theorem xarr {Z : State} {h : Heap} {U : State} {a : Addr} {ty : FieldType} {nm : String} {vs : List Value} (hZ : Z.vm.Alike U.vm) (eU : U.heap = h) (A : Ary Z h a ty nm vs) : ∃ c : Cell, Jvm.Free.XT.Arr ty a c U ∧ c.slots.size = vs.length ∧ ∀ i : Nat, c.slots[i]? = vs[i]? := by
  obtain ⟨c, r1, r2, r3, -⟩ := A
  refine ⟨c, ⟨by rw [eU]; exact r1.1, State.isArrayOf_alike hZ r1.2.1, r1.2.2, by rw [r2]; simpa using r3⟩, by rw [r2]; simp, fun i => by rw [r2]; simp⟩
theorem r_alen (B : RH g D M T H Lt cs ss) {a : Addr} {ty : FieldType} {nm : String} {vs : List Value} {z : Int32} (hd : decode D.cd pc = .ok (.arraylength, 1)) (hp : pc + 1 = pc') (F : Al g H Lt fun h => Ary g.Z h a ty nm vs) (hz : Int32.ofNat vs.length = z)
    (K : Fn g D M Q (T.setTop (mkF M.m pc' Ls (.int z :: S)))) : Fn g D M Q (T.setTop (mkF M.m pc Ls (.ref a :: S))) := by
  subst hp; subst hz
  obtain ⟨st, vm0, k0, locs, X, hS, hk, hZ, hown, hC, N, E0, hH⟩ := B
  obtain ⟨c, r1, r2, r3⟩ := xarr (U := T) (hZ.alike.trans X.warmed.alike) rfl (F _ _ E0 hH)
  rw [← r2] at K
  exact K.go fun t => X.alen (g := mkF M.m pc Ls (.ref a :: S)) st.2.1 r1 rfl rfl (hb st.2.2.1 hd)
theorem r_aget (B : RH g D M T H Lt cs ss) {a : Addr} {ty : FieldType} {nm : String} {vs : List Value} {j : Int32} {k : Nat} {v : Value} {i : Instr} (hd : decode D.cd pc = .ok (i, 1)) (hi : i = Jvm.Free.XT.loadOf ty) (hp : pc + 1 = pc') (F : Al g H Lt fun h => Ary g.Z h a ty nm vs) (hj : j = Int32.ofNat k) (hv : vs[k]? = some v)
    (K : Fn g D M Q (T.setTop (mkF M.m pc' Ls (v :: S)))) : Fn g D M Q (T.setTop (mkF M.m pc Ls (.int j :: .ref a :: S))) := by
  subst hp; subst hi
  obtain ⟨st, vm0, k0, locs, X, hS, hk, hZ, hown, hC, N, E0, hH⟩ := B
  obtain ⟨c, r1, r2, r3⟩ := xarr (U := T) (hZ.alike.trans X.warmed.alike) rfl (F _ _ E0 hH)
  exact K.go fun t => X.aget (g := mkF M.m pc Ls (.int j :: .ref a :: S)) st.2.1 r1 hj ((r3 k).trans hv) rfl rfl (hb st.2.2.1 hd)
theorem ary_set {Z : State} {h h' : Heap} {a : Addr} {ty : FieldType} {nm : String} {vs : List Value} {k : Nat} {v : Value} (A : Ary Z h a ty nm vs) (W : Wr h h' a k v) (hf : fits ty v = true) : Ary Z h' a ty nm (vs.set k v) := by
  obtain ⟨c, r1, r2, r3, r4, r5, r6⟩ := A
  refine ⟨_, r1.same W, ?_, by rw [List.length_set]; exact r3, fun w hw => ?_, r5, fun q => (r6 q).wr W⟩
  · simp [Cell.setSlot, r2]
  · rcases List.mem_or_eq_of_mem_set hw with q | rfl
    · exact r4 w q
    · exact hf
theorem r_aputW (B : RH g D M T H Lt cs ss) {i : Nat} {a : Addr} {ty : FieldType} {nm : String} {vs : List Value} {k : Nat} {v : Value} (hi : H[i]? = some (a, .inr (ty, nm, vs))) (hf : fits ty v = true) (e : H.set i (a, .inr (ty, nm, vs.set k v)) = H')
    {U : State} {f : JFrame} (P : ∀ (vm0 : Vm) (locs : List Loc), Stand M.p g.l M.e D.rm (M.s.setVm vm0) M.m M.args M.below M.meth M.c T locs cs ss → g.Z.Warmed39 vm0 → ∀ c, Jvm.RoadKit.Arr g.Z T.heap a c ty → c.slots.size = vs.length → ∃ T' h', Stand M.p g.l M.e D.rm (M.s.setVm vm0) M.m M.args M.below M.meth M.c T' (locs ++ [⟨a, k⟩]) cs ss ∧ T'.heap = h' ∧ Wr T.heap h' a k v ∧ ∀ t, Steps M.p.tables M.e M.below (T'.setTop f) t → Steps M.p.tables M.e M.below U t)
    (K : ∀ T', RH g D M T' H' Lt cs ss → Fn g D M Q (T'.setTop f)) : Fn g D M Q U := by
  obtain ⟨st, vm0, k0, locs, X, hS, hk, hZ, hown, hC, N, E0, hH⟩ := B
  have I := hH.1 _ (List.mem_of_getElem? hi)
  have I1 : Ary g.Z T.heap a ty nm vs := I.1
  have I2 := I1
  obtain ⟨c, r1, r2', -⟩ := I2
  have r2 : c.slots.size = vs.length := by rw [r2']; simp
  obtain ⟨T', h', X', e', W, stp⟩ := P vm0 locs X hZ c r1 r2
  have C1 := CHr.wr W I.2.2.2 hC.1
  have hsz := W.size
  have P' := hH.upd C1 (Keep.of_wr W) hi rfl rfl (show Is g.Z h' (a, .inr (ty, nm, vs.set k v)) from ary_set I1 W hf) trivial
  rw [e] at P'
  refine (K T' ⟨st, vm0, k0, _, X', hS, by rw [e', hsz]; exact hk, hZ, hown, by rw [e']; exact hC.trans C1, Fr.snoc X' N I.2.2.1, ?_, by rw [e']; exact P'⟩).go stp
  rw [e']; exact (Old.wr ⟨rfl, E0⟩ W I.2.2.1).2
theorem inb {j : Int32} {k n : Nat} (hj : ¬ j < 0) (hk : j.toNatClampNeg = k) (hl : k < n) : ¬ (j < 0 ∨ n ≤ j.toNatClampNeg) := fun q => q.elim hj fun r => by rw [hk] at r; omega
theorem r_castore (B : RH g D M T H Lt cs ss) {i : Nat} {a : Addr} {nm : String} {vs : List Value} {j x x' : Int32} {k : Nat} (hd : decode D.cd pc = .ok (.castore, 1)) (hp : pc + 1 = pc') (hi : H[i]? = some (a, .inr (.char, nm, vs))) (hj : ¬ j < 0) (hk : j.toNatClampNeg = k) (hl : k < vs.length) (hx : nar .char x = x')
    (e : H.set i (a, .inr (.char, nm, vs.set k (.int x'))) = H') (K : ∀ T', RH g D M T' H' Lt cs ss → Fn g D M Q (T'.setTop (mkF M.m pc' Ls S))) : Fn g D M Q (T.setTop (mkF M.m pc Ls (.int x :: .int j :: .ref a :: S))) := by
  subst hp; subst hx; subst hk
  exact r_aputW B hi (fits_nar_char x) e (fun vm0 locs X hZ c r1 r2 => stC X B.hx hZ rfl r1 (by rw [r2]; exact inb hj rfl hl) (g := mkF M.m pc Ls (.int x :: .int j :: .ref a :: S)) rfl rfl (hb B.cd hd)) K
theorem r_bastore (B : RH g D M T H Lt cs ss) {i : Nat} {a : Addr} {nm : String} {vs : List Value} {j x x' : Int32} {k : Nat} (hd : decode D.cd pc = .ok (.bastore, 1)) (hp : pc + 1 = pc') (hi : H[i]? = some (a, .inr (.byte, nm, vs))) (hj : ¬ j < 0) (hk : j.toNatClampNeg = k) (hl : k < vs.length) (hx : nar .byte x = x')
    (e : H.set i (a, .inr (.byte, nm, vs.set k (.int x'))) = H') (K : ∀ T', RH g D M T' H' Lt cs ss → Fn g D M Q (T'.setTop (mkF M.m pc' Ls S))) : Fn g D M Q (T.setTop (mkF M.m pc Ls (.int x :: .int j :: .ref a :: S))) := by
  subst hp; subst hx; subst hk
  exact r_aputW B hi (fits_nar_byte x) e (fun vm0 locs X hZ c r1 r2 => stB X B.hx hZ rfl r1 (by rw [r2]; exact inb hj rfl hl) (g := mkF M.m pc Ls (.int x :: .int j :: .ref a :: S)) rfl rfl (hb B.cd hd)) K
theorem r_zastore (B : RH g D M T H Lt cs ss) {i : Nat} {a : Addr} {nm : String} {vs : List Value} {j x x' : Int32} {k : Nat} (hd : decode D.cd pc = .ok (.bastore, 1)) (hp : pc + 1 = pc') (hi : H[i]? = some (a, .inr (.boolean, nm, vs))) (hj : ¬ j < 0) (hk : j.toNatClampNeg = k) (hl : k < vs.length) (hx : nar .boolean x = x')
    (e : H.set i (a, .inr (.boolean, nm, vs.set k (.int x'))) = H') (K : ∀ T', RH g D M T' H' Lt cs ss → Fn g D M Q (T'.setTop (mkF M.m pc' Ls S))) : Fn g D M Q (T.setTop (mkF M.m pc Ls (.int x :: .int j :: .ref a :: S))) := by
  subst hp; subst hx; subst hk
  exact r_aputW B hi (fits_nar_bool x) e (fun vm0 locs X hZ c r1 r2 => stZ X B.hx hZ rfl r1 (by rw [r2]; exact inb hj rfl hl) (g := mkF M.m pc Ls (.int x :: .int j :: .ref a :: S)) rfl rfl (hb B.cd hd)) K
theorem r_iastore (B : RH g D M T H Lt cs ss) {i : Nat} {a : Addr} {nm : String} {vs : List Value} {j x : Int32} {k : Nat} (hd : decode D.cd pc = .ok (.iastore, 1)) (hp : pc + 1 = pc') (hi : H[i]? = some (a, .inr (.int, nm, vs))) (hj : ¬ j < 0) (hk : j.toNatClampNeg = k) (hl : k < vs.length)
    (e : H.set i (a, .inr (.int, nm, vs.set k (.int x))) = H') (K : ∀ T', RH g D M T' H' Lt cs ss → Fn g D M Q (T'.setTop (mkF M.m pc' Ls S))) : Fn g D M Q (T.setTop (mkF M.m pc Ls (.int x :: .int j :: .ref a :: S))) := by
  subst hp; subst hk
  exact r_aputW B hi rfl e (fun vm0 locs X hZ c r1 r2 => stI X B.hx hZ rfl r1 (by rw [r2]; exact inb hj rfl hl) (g := mkF M.m pc Ls (.int x :: .int j :: .ref a :: S)) rfl rfl (hb B.cd hd)) K
theorem r_lastore (B : RH g D M T H Lt cs ss) {i : Nat} {a : Addr} {nm : String} {vs : List Value} {j : Int32} {x : Int64} {k : Nat} (hd : decode D.cd pc = .ok (.lastore, 1)) (hp : pc + 1 = pc') (hi : H[i]? = some (a, .inr (.long, nm, vs))) (hj : ¬ j < 0) (hk : j.toNatClampNeg = k) (hl : k < vs.length)
    (e : H.set i (a, .inr (.long, nm, vs.set k (.long x))) = H') (K : ∀ T', RH g D M T' H' Lt cs ss → Fn g D M Q (T'.setTop (mkF M.m pc' Ls S))) : Fn g D M Q (T.setTop (mkF M.m pc Ls (.long x :: .int j :: .ref a :: S))) := by
  subst hp; subst hk
  exact r_aputW B hi rfl e (fun vm0 locs X hZ c r1 r2 => stJ X B.hx hZ rfl r1 (by rw [r2]; exact inb hj rfl hl) (g := mkF M.m pc Ls (.long x :: .int j :: .ref a :: S)) rfl rfl (hb B.cd hd)) K
/-- aastore: null, or an object that is one of the array's kind -/
theorem r_aastore (B : RH g D M T H Lt cs ss) {i : Nat} {a : Addr} {nm C : String} {vs : List Value} {j : Int32} {v : Value} {k : Nat} (hd : decode D.cd pc = .ok (.aastore, 1)) (hp : pc + 1 = pc') (hi : H[i]? = some (a, .inr (.object C, nm, vs))) (hj : ¬ j < 0) (hk : j.toNatClampNeg = k) (hl : k < vs.length)
    (hv : v = .null ∨ ∃ y, v = .ref y ∧ Al g H Lt fun h => Ins g.Z h y C true)
    (e : H.set i (a, .inr (.object C, nm, vs.set k v)) = H') (K : ∀ T', RH g D M T' H' Lt cs ss → Fn g D M Q (T'.setTop (mkF M.m pc' Ls S))) : Fn g D M Q (T.setTop (mkF M.m pc Ls (v :: .int j :: .ref a :: S))) := by
  subst hp; subst hk
  have hf : fits (.object C) v = true := by rcases hv with rfl | ⟨y, rfl, -⟩ <;> rfl
  refine r_aputW B hi hf e (fun vm0 locs X hZ c r1 r2 => ?_) K
  obtain ⟨st, vm1, k0, locs1, X1, hS, hk, hZ1, hown, hC, N, E0, hH⟩ := B
  have I1 : Ary g.Z T.heap a (.object C) nm vs := (hH.1 _ (List.mem_of_getElem? hi)).1
  obtain ⟨c2, q1, -, -, -, q5, -⟩ := I1
  have hcc : c2 = c := Option.some.inj (q1.1.symm.trans r1.1)
  subst hcc
  have hsto : Sto g.Z T.heap a v := by
    rcases hv with rfl | ⟨y, rfl, I⟩
    · exact Or.inl rfl
    · exact Sto.of r1 (q5 C rfl) (I _ _ E0 hH)
  exact stR X st.2.1 hZ rfl r1 (by rw [r2]; exact inb hj rfl hl) rfl hsto (g := mkF M.m pc Ls (v :: .int j :: .ref a :: S)) rfl rfl (hb st.2.2.1 hd)
/-! OWN WALKING KIT, part 3: plain steps (printed by mkpure.py). -/
theorem p_iload (B : Rn g D M T A cs ss) {k : Nat} {v : Int32} (hd : decode D.cd pc = .ok (.iload k, 2)) (hp : pc + 2 = pc') (hl : Ls[k]? = some (.val (.int v))) (K : Fn g D M Q (T.setTop (mkF M.m pc' Ls (.int v :: S)))) : Fn g D M Q (T.setTop (mkF M.m pc Ls (S))) := by
  subst hp
  exact K.go fun t => XS.iload (g := mkF M.m pc Ls (S)) B.here B.hx rfl (hb B.cd hd) hl
theorem p_iloadN (B : Rn g D M T A cs ss) {k : Fin 4} {v : Int32} (hd : decode D.cd pc = .ok (.iload_n k, 1)) (hp : pc + 1 = pc') (hl : Ls[k.val]? = some (.val (.int v))) (K : Fn g D M Q (T.setTop (mkF M.m pc' Ls (.int v :: S)))) : Fn g D M Q (T.setTop (mkF M.m pc Ls (S))) := by
  subst hp
  exact K.go fun t => XS.iloadN (g := mkF M.m pc Ls (S)) B.here B.hx rfl (hb B.cd hd) hl
theorem p_lload (B : Rn g D M T A cs ss) {k : Nat} {v : Int64} (hd : decode D.cd pc = .ok (.lload k, 2)) (hp : pc + 2 = pc') (hl : Ls[k]? = some (.val (.long v))) (K : Fn g D M Q (T.setTop (mkF M.m pc' Ls (.long v :: S)))) : Fn g D M Q (T.setTop (mkF M.m pc Ls (S))) := by
  subst hp
  exact K.go fun t => XS.lload (g := mkF M.m pc Ls (S)) B.here B.hx rfl (hb B.cd hd) hl
theorem p_lloadN (B : Rn g D M T A cs ss) {k : Fin 4} {v : Int64} (hd : decode D.cd pc = .ok (.lload_n k, 1)) (hp : pc + 1 = pc') (hl : Ls[k.val]? = some (.val (.long v))) (K : Fn g D M Q (T.setTop (mkF M.m pc' Ls (.long v :: S)))) : Fn g D M Q (T.setTop (mkF M.m pc Ls (S))) := by
  subst hp
  exact K.go fun t => XS.lloadN (g := mkF M.m pc Ls (S)) B.here B.hx rfl (hb B.cd hd) hl
theorem p_aload (B : Rn g D M T A cs ss) {k : Nat} {v : Value} (hd : decode D.cd pc = .ok (.aload k, 2)) (hp : pc + 2 = pc') (hl : Ls[k]? = some (.val v)) (hv : v.isRef = true) (K : Fn g D M Q (T.setTop (mkF M.m pc' Ls (v :: S)))) : Fn g D M Q (T.setTop (mkF M.m pc Ls (S))) := by
  subst hp
  exact K.go fun t => XS.aload (g := mkF M.m pc Ls (S)) B.here B.hx rfl (hb B.cd hd) hl hv
theorem p_aloadN (B : Rn g D M T A cs ss) {k : Fin 4} {v : Value} (hd : decode D.cd pc = .ok (.aload_n k, 1)) (hp : pc + 1 = pc') (hl : Ls[k.val]? = some (.val v)) (hv : v.isRef = true) (K : Fn g D M Q (T.setTop (mkF M.m pc' Ls (v :: S)))) : Fn g D M Q (T.setTop (mkF M.m pc Ls (S))) := by
  subst hp
  exact K.go fun t => XS.aloadN (g := mkF M.m pc Ls (S)) B.here B.hx rfl (hb B.cd hd) hl hv
theorem p_istore (B : Rn g D M T A cs ss) {k : Nat} {v : Int32} (hd : decode D.cd pc = .ok (.istore k, 2)) (hp : pc + 2 = pc') (hl : storeLocals Ls k (.int v) = some Ls') (K : Fn g D M Q (T.setTop (mkF M.m pc' Ls' (S)))) : Fn g D M Q (T.setTop (mkF M.m pc Ls (.int v :: S))) := by
  subst hp
  exact K.go fun t => XS.istore (g := mkF M.m pc Ls (.int v :: S)) B.here B.hx rfl (hb B.cd hd) rfl hl
theorem p_istoreN (B : Rn g D M T A cs ss) {k : Fin 4} {v : Int32} (hd : decode D.cd pc = .ok (.istore_n k, 1)) (hp : pc + 1 = pc') (hl : storeLocals Ls k.val (.int v) = some Ls') (K : Fn g D M Q (T.setTop (mkF M.m pc' Ls' (S)))) : Fn g D M Q (T.setTop (mkF M.m pc Ls (.int v :: S))) := by
  subst hp
  exact K.go fun t => XS.istoreN (g := mkF M.m pc Ls (.int v :: S)) B.here B.hx rfl (hb B.cd hd) rfl hl
theorem p_lstore (B : Rn g D M T A cs ss) {k : Nat} {v : Int64} (hd : decode D.cd pc = .ok (.lstore k, 2)) (hp : pc + 2 = pc') (hl : storeLocals Ls k (.long v) = some Ls') (K : Fn g D M Q (T.setTop (mkF M.m pc' Ls' (S)))) : Fn g D M Q (T.setTop (mkF M.m pc Ls (.long v :: S))) := by
  subst hp
  exact K.go fun t => XS.lstore (g := mkF M.m pc Ls (.long v :: S)) B.here B.hx rfl (hb B.cd hd) rfl hl
theorem p_lstoreN (B : Rn g D M T A cs ss) {k : Fin 4} {v : Int64} (hd : decode D.cd pc = .ok (.lstore_n k, 1)) (hp : pc + 1 = pc') (hl : storeLocals Ls k.val (.long v) = some Ls') (K : Fn g D M Q (T.setTop (mkF M.m pc' Ls' (S)))) : Fn g D M Q (T.setTop (mkF M.m pc Ls (.long v :: S))) := by
  subst hp
  exact K.go fun t => XS.lstoreN (g := mkF M.m pc Ls (.long v :: S)) B.here B.hx rfl (hb B.cd hd) rfl hl
theorem p_astore (B : Rn g D M T A cs ss) {k : Nat} {v : Value} (hd : decode D.cd pc = .ok (.astore k, 2)) (hp : pc + 2 = pc') (hv : v.isRef = true) (hl : storeLocals Ls k v = some Ls') (K : Fn g D M Q (T.setTop (mkF M.m pc' Ls' (S)))) : Fn g D M Q (T.setTop (mkF M.m pc Ls (v :: S))) := by
  subst hp
  exact K.go fun t => XS.astore (g := mkF M.m pc Ls (v :: S)) B.here B.hx rfl (hb B.cd hd) rfl hv hl
theorem p_astoreN (B : Rn g D M T A cs ss) {k : Fin 4} {v : Value} (hd : decode D.cd pc = .ok (.astore_n k, 1)) (hp : pc + 1 = pc') (hv : v.isRef = true) (hl : storeLocals Ls k.val v = some Ls') (K : Fn g D M Q (T.setTop (mkF M.m pc' Ls' (S)))) : Fn g D M Q (T.setTop (mkF M.m pc Ls (v :: S))) := by
  subst hp
  exact K.go fun t => XS.astoreN (g := mkF M.m pc Ls (v :: S)) B.here B.hx rfl (hb B.cd hd) rfl hv hl
theorem p_iconst (B : Rn g D M T A cs ss) {i : Int} {v : Int32} (hd : decode D.cd pc = .ok (.iconst i, 1)) (hp : pc + 1 = pc') (hv : Int32.ofInt i = v) (K : Fn g D M Q (T.setTop (mkF M.m pc' Ls (.int v :: S)))) : Fn g D M Q (T.setTop (mkF M.m pc Ls (S))) := by
  subst hp
  exact K.go fun t => Jvm.Free.XT.iconstV (g := mkF M.m pc Ls (S)) B.here B.hx rfl v (hb B.cd hd) hv
theorem p_bipush (B : Rn g D M T A cs ss) {i : Int} {v : Int32} (hd : decode D.cd pc = .ok (.bipush i, 2)) (hp : pc + 2 = pc') (hv : (Int8.ofInt i).toInt32 = v) (K : Fn g D M Q (T.setTop (mkF M.m pc' Ls (.int v :: S)))) : Fn g D M Q (T.setTop (mkF M.m pc Ls (S))) := by
  subst hp
  exact K.go fun t => Jvm.Free.XT.bipushV (g := mkF M.m pc Ls (S)) B.here B.hx rfl v (hb B.cd hd) hv
theorem p_sipush (B : Rn g D M T A cs ss) {i : Int} {v : Int32} (hd : decode D.cd pc = .ok (.sipush i, 3)) (hp : pc + 3 = pc') (hv : (Int16.ofInt i).toInt32 = v) (K : Fn g D M Q (T.setTop (mkF M.m pc' Ls (.int v :: S)))) : Fn g D M Q (T.setTop (mkF M.m pc Ls (S))) := by
  subst hp
  exact K.go fun t => Jvm.Free.XT.sipushV (g := mkF M.m pc Ls (S)) B.here B.hx rfl v (hb B.cd hd) hv
theorem p_lconst (B : Rn g D M T A cs ss) {i : Fin 2} {v : Int64} (hd : decode D.cd pc = .ok (.lconst i, 1)) (hp : pc + 1 = pc') (hv : Int64.ofNat i = v) (K : Fn g D M Q (T.setTop (mkF M.m pc' Ls (.long v :: S)))) : Fn g D M Q (T.setTop (mkF M.m pc Ls (S))) := by
  subst hp
  exact K.go fun t => Jvm.Free.XT.lconstV (g := mkF M.m pc Ls (S)) B.here B.hx rfl v (hb B.cd hd) hv
theorem p_null (B : Rn g D M T A cs ss) (hd : decode D.cd pc = .ok (.aconst_null, 1)) (hp : pc + 1 = pc') (K : Fn g D M Q (T.setTop (mkF M.m pc' Ls (.null :: S)))) : Fn g D M Q (T.setTop (mkF M.m pc Ls (S))) := by
  subst hp
  exact K.go fun t => XS.aconstNull (g := mkF M.m pc Ls (S)) B.here B.hx rfl (hb B.cd hd)
theorem p_iadd (B : Rn g D M T A cs ss) {x y z : Int32} (hd : decode D.cd pc = .ok (.iadd, 1)) (hp : pc + 1 = pc') (hz : x + y = z) (K : Fn g D M Q (T.setTop (mkF M.m pc' Ls (.int z :: S)))) : Fn g D M Q (T.setTop (mkF M.m pc Ls (.int y :: .int x :: S))) := by
  subst hp; subst hz
  exact K.go fun t => XS.iadd (g := mkF M.m pc Ls (.int y :: .int x :: S)) B.here B.hx rfl (hb B.cd hd) rfl
theorem p_isub (B : Rn g D M T A cs ss) {x y z : Int32} (hd : decode D.cd pc = .ok (.isub, 1)) (hp : pc + 1 = pc') (hz : x - y = z) (K : Fn g D M Q (T.setTop (mkF M.m pc' Ls (.int z :: S)))) : Fn g D M Q (T.setTop (mkF M.m pc Ls (.int y :: .int x :: S))) := by
  subst hp; subst hz
  exact K.go fun t => XS.isub (g := mkF M.m pc Ls (.int y :: .int x :: S)) B.here B.hx rfl (hb B.cd hd) rfl
theorem p_imul (B : Rn g D M T A cs ss) {x y z : Int32} (hd : decode D.cd pc = .ok (.imul, 1)) (hp : pc + 1 = pc') (hz : x * y = z) (K : Fn g D M Q (T.setTop (mkF M.m pc' Ls (.int z :: S)))) : Fn g D M Q (T.setTop (mkF M.m pc Ls (.int y :: .int x :: S))) := by
  subst hp; subst hz
  exact K.go fun t => XS.imul (g := mkF M.m pc Ls (.int y :: .int x :: S)) B.here B.hx rfl (hb B.cd hd) rfl
theorem p_iand (B : Rn g D M T A cs ss) {x y z : Int32} (hd : decode D.cd pc = .ok (.iand, 1)) (hp : pc + 1 = pc') (hz : x &&& y = z) (K : Fn g D M Q (T.setTop (mkF M.m pc' Ls (.int z :: S)))) : Fn g D M Q (T.setTop (mkF M.m pc Ls (.int y :: .int x :: S))) := by
  subst hp; subst hz
  exact K.go fun t => XS.iand (g := mkF M.m pc Ls (.int y :: .int x :: S)) B.here B.hx rfl (hb B.cd hd) rfl
theorem p_ior (B : Rn g D M T A cs ss) {x y z : Int32} (hd : decode D.cd pc = .ok (.ior, 1)) (hp : pc + 1 = pc') (hz : x ||| y = z) (K : Fn g D M Q (T.setTop (mkF M.m pc' Ls (.int z :: S)))) : Fn g D M Q (T.setTop (mkF M.m pc Ls (.int y :: .int x :: S))) := by
  subst hp; subst hz
  exact K.go fun t => XS.ior (g := mkF M.m pc Ls (.int y :: .int x :: S)) B.here B.hx rfl (hb B.cd hd) rfl
theorem p_ixor (B : Rn g D M T A cs ss) {x y z : Int32} (hd : decode D.cd pc = .ok (.ixor, 1)) (hp : pc + 1 = pc') (hz : x ^^^ y = z) (K : Fn g D M Q (T.setTop (mkF M.m pc' Ls (.int z :: S)))) : Fn g D M Q (T.setTop (mkF M.m pc Ls (.int y :: .int x :: S))) := by
  subst hp; subst hz
  exact K.go fun t => XS.ixor (g := mkF M.m pc Ls (.int y :: .int x :: S)) B.here B.hx rfl (hb B.cd hd) rfl
theorem p_ishl (B : Rn g D M T A cs ss) {x y z : Int32} (hd : decode D.cd pc = .ok (.ishl, 1)) (hp : pc + 1 = pc') (hz : x <<< (y &&& 31) = z) (K : Fn g D M Q (T.setTop (mkF M.m pc' Ls (.int z :: S)))) : Fn g D M Q (T.setTop (mkF M.m pc Ls (.int y :: .int x :: S))) := by
  subst hp; subst hz
  exact K.go fun t => XS.ishl (g := mkF M.m pc Ls (.int y :: .int x :: S)) B.here B.hx rfl (hb B.cd hd) rfl
theorem p_ishr (B : Rn g D M T A cs ss) {x y z : Int32} (hd : decode D.cd pc = .ok (.ishr, 1)) (hp : pc + 1 = pc') (hz : x >>> (y &&& 31) = z) (K : Fn g D M Q (T.setTop (mkF M.m pc' Ls (.int z :: S)))) : Fn g D M Q (T.setTop (mkF M.m pc Ls (.int y :: .int x :: S))) := by
  subst hp; subst hz
  exact K.go fun t => XS.ishr (g := mkF M.m pc Ls (.int y :: .int x :: S)) B.here B.hx rfl (hb B.cd hd) rfl
theorem p_iushr (B : Rn g D M T A cs ss) {x y z : Int32} (hd : decode D.cd pc = .ok (.iushr, 1)) (hp : pc + 1 = pc') (hz : (x.toUInt32 >>> (y &&& 31).toUInt32).toInt32 = z) (K : Fn g D M Q (T.setTop (mkF M.m pc' Ls (.int z :: S)))) : Fn g D M Q (T.setTop (mkF M.m pc Ls (.int y :: .int x :: S))) := by
  subst hp; subst hz
  exact K.go fun t => XS.iushr (g := mkF M.m pc Ls (.int y :: .int x :: S)) B.here B.hx rfl (hb B.cd hd) rfl
theorem p_idiv (B : Rn g D M T A cs ss) {x y z : Int32} (hd : decode D.cd pc = .ok (.idiv, 1)) (hp : pc + 1 = pc') (hy : y ≠ 0) (hz : x / y = z) (K : Fn g D M Q (T.setTop (mkF M.m pc' Ls (.int z :: S)))) : Fn g D M Q (T.setTop (mkF M.m pc Ls (.int y :: .int x :: S))) := by
  subst hp; subst hz
  exact K.go fun t => XS.idiv (g := mkF M.m pc Ls (.int y :: .int x :: S)) B.here B.hx rfl (hb B.cd hd) rfl hy
theorem p_irem (B : Rn g D M T A cs ss) {x y z : Int32} (hd : decode D.cd pc = .ok (.irem, 1)) (hp : pc + 1 = pc') (hy : y ≠ 0) (hz : x % y = z) (K : Fn g D M Q (T.setTop (mkF M.m pc' Ls (.int z :: S)))) : Fn g D M Q (T.setTop (mkF M.m pc Ls (.int y :: .int x :: S))) := by
  subst hp; subst hz; rw [← Jvm.irem_eq_mod] at K
  exact K.go fun t => XS.irem (g := mkF M.m pc Ls (.int y :: .int x :: S)) B.here B.hx rfl (hb B.cd hd) rfl hy
theorem p_ineg (B : Rn g D M T A cs ss) {x : Int32} (hd : decode D.cd pc = .ok (.ineg, 1)) (hp : pc + 1 = pc') (K : Fn g D M Q (T.setTop (mkF M.m pc' Ls (.int (-x) :: S)))) : Fn g D M Q (T.setTop (mkF M.m pc Ls (.int x :: S))) := by
  subst hp
  exact K.go fun t => XS.ineg (g := mkF M.m pc Ls (.int x :: S)) B.here B.hx rfl (hb B.cd hd) rfl
theorem p_ladd (B : Rn g D M T A cs ss) {x y : Int64} (hd : decode D.cd pc = .ok (.ladd, 1)) (hp : pc + 1 = pc') (K : Fn g D M Q (T.setTop (mkF M.m pc' Ls (.long (x + y) :: S)))) : Fn g D M Q (T.setTop (mkF M.m pc Ls (.long y :: .long x :: S))) := by
  subst hp
  exact K.go fun t => XS.ladd (g := mkF M.m pc Ls (.long y :: .long x :: S)) B.here B.hx rfl (hb B.cd hd) rfl
theorem p_lsub (B : Rn g D M T A cs ss) {x y : Int64} (hd : decode D.cd pc = .ok (.lsub, 1)) (hp : pc + 1 = pc') (K : Fn g D M Q (T.setTop (mkF M.m pc' Ls (.long (x - y) :: S)))) : Fn g D M Q (T.setTop (mkF M.m pc Ls (.long y :: .long x :: S))) := by
  subst hp
  exact K.go fun t => XS.lsub (g := mkF M.m pc Ls (.long y :: .long x :: S)) B.here B.hx rfl (hb B.cd hd) rfl
theorem p_lmul (B : Rn g D M T A cs ss) {x y : Int64} (hd : decode D.cd pc = .ok (.lmul, 1)) (hp : pc + 1 = pc') (K : Fn g D M Q (T.setTop (mkF M.m pc' Ls (.long (x * y) :: S)))) : Fn g D M Q (T.setTop (mkF M.m pc Ls (.long y :: .long x :: S))) := by
  subst hp
  exact K.go fun t => XS.lmul (g := mkF M.m pc Ls (.long y :: .long x :: S)) B.here B.hx rfl (hb B.cd hd) rfl
theorem p_land (B : Rn g D M T A cs ss) {x y : Int64} (hd : decode D.cd pc = .ok (.land, 1)) (hp : pc + 1 = pc') (K : Fn g D M Q (T.setTop (mkF M.m pc' Ls (.long (x &&& y) :: S)))) : Fn g D M Q (T.setTop (mkF M.m pc Ls (.long y :: .long x :: S))) := by
  subst hp
  exact K.go fun t => XS.land (g := mkF M.m pc Ls (.long y :: .long x :: S)) B.here B.hx rfl (hb B.cd hd) rfl
theorem p_lor (B : Rn g D M T A cs ss) {x y : Int64} (hd : decode D.cd pc = .ok (.lor, 1)) (hp : pc + 1 = pc') (K : Fn g D M Q (T.setTop (mkF M.m pc' Ls (.long (x ||| y) :: S)))) : Fn g D M Q (T.setTop (mkF M.m pc Ls (.long y :: .long x :: S))) := by
  subst hp
  exact K.go fun t => XS.lor (g := mkF M.m pc Ls (.long y :: .long x :: S)) B.here B.hx rfl (hb B.cd hd) rfl
theorem p_lxor (B : Rn g D M T A cs ss) {x y : Int64} (hd : decode D.cd pc = .ok (.lxor, 1)) (hp : pc + 1 = pc') (K : Fn g D M Q (T.setTop (mkF M.m pc' Ls (.long (x ^^^ y) :: S)))) : Fn g D M Q (T.setTop (mkF M.m pc Ls (.long y :: .long x :: S))) := by
  subst hp
  exact K.go fun t => XS.lxor (g := mkF M.m pc Ls (.long y :: .long x :: S)) B.here B.hx rfl (hb B.cd hd) rfl
theorem p_lshl (B : Rn g D M T A cs ss) {x : Int64} {y : Int32} (hd : decode D.cd pc = .ok (.lshl, 1)) (hp : pc + 1 = pc') (K : Fn g D M Q (T.setTop (mkF M.m pc' Ls (.long (x <<< (y &&& 0x3f).toInt64) :: S)))) : Fn g D M Q (T.setTop (mkF M.m pc Ls (.int y :: .long x :: S))) := by
  subst hp
  exact K.go fun t => XS.lshl (g := mkF M.m pc Ls (.int y :: .long x :: S)) B.here B.hx rfl (hb B.cd hd) rfl
theorem p_lshr (B : Rn g D M T A cs ss) {x : Int64} {y : Int32} (hd : decode D.cd pc = .ok (.lshr, 1)) (hp : pc + 1 = pc') (K : Fn g D M Q (T.setTop (mkF M.m pc' Ls (.long (x >>> (y &&& 0x3f).toInt64) :: S)))) : Fn g D M Q (T.setTop (mkF M.m pc Ls (.int y :: .long x :: S))) := by
  subst hp
  exact K.go fun t => XS.lshr (g := mkF M.m pc Ls (.int y :: .long x :: S)) B.here B.hx rfl (hb B.cd hd) rfl
theorem p_lushr (B : Rn g D M T A cs ss) {x : Int64} {y : Int32} (hd : decode D.cd pc = .ok (.lushr, 1)) (hp : pc + 1 = pc') (K : Fn g D M Q (T.setTop (mkF M.m pc' Ls (.long ((x.toUInt64 >>> (y &&& 0x3f).toInt64.toUInt64).toInt64) :: S)))) : Fn g D M Q (T.setTop (mkF M.m pc Ls (.int y :: .long x :: S))) := by
  subst hp
  exact K.go fun t => XS.lushr (g := mkF M.m pc Ls (.int y :: .long x :: S)) B.here B.hx rfl (hb B.cd hd) rfl
theorem p_ldiv (B : Rn g D M T A cs ss) {x y : Int64} (hd : decode D.cd pc = .ok (.ldiv, 1)) (hp : pc + 1 = pc') (hy : y ≠ 0) (K : Fn g D M Q (T.setTop (mkF M.m pc' Ls (.long (x / y) :: S)))) : Fn g D M Q (T.setTop (mkF M.m pc Ls (.long y :: .long x :: S))) := by
  subst hp
  exact K.go fun t => XS.ldiv (g := mkF M.m pc Ls (.long y :: .long x :: S)) B.here B.hx rfl (hb B.cd hd) rfl hy
theorem p_lrem (B : Rn g D M T A cs ss) {x y : Int64} (hd : decode D.cd pc = .ok (.lrem, 1)) (hp : pc + 1 = pc') (hy : y ≠ 0) (K : Fn g D M Q (T.setTop (mkF M.m pc' Ls (.long (x - (x / y) * y) :: S)))) : Fn g D M Q (T.setTop (mkF M.m pc Ls (.long y :: .long x :: S))) := by
  subst hp
  exact K.go fun t => XS.lrem (g := mkF M.m pc Ls (.long y :: .long x :: S)) B.here B.hx rfl (hb B.cd hd) rfl hy
theorem p_lcmp (B : Rn g D M T A cs ss) {x y : Int64} (hd : decode D.cd pc = .ok (.lcmp, 1)) (hp : pc + 1 = pc') (K : Fn g D M Q (T.setTop (mkF M.m pc' Ls (.int (lcmpW x y) :: S)))) : Fn g D M Q (T.setTop (mkF M.m pc Ls (.long y :: .long x :: S))) := by
  subst hp
  exact K.go fun t => XS.lcmp (g := mkF M.m pc Ls (.long y :: .long x :: S)) B.here B.hx rfl (hb B.cd hd) rfl
theorem p_i2l (B : Rn g D M T A cs ss) {x : Int32} (hd : decode D.cd pc = .ok (.i2l, 1)) (hp : pc + 1 = pc') (K : Fn g D M Q (T.setTop (mkF M.m pc' Ls (.long x.toInt64 :: S)))) : Fn g D M Q (T.setTop (mkF M.m pc Ls (.int x :: S))) := by
  subst hp
  exact K.go fun t => XS.i2l (g := mkF M.m pc Ls (.int x :: S)) B.here B.hx rfl (hb B.cd hd) rfl
theorem p_l2i (B : Rn g D M T A cs ss) {x : Int64} (hd : decode D.cd pc = .ok (.l2i, 1)) (hp : pc + 1 = pc') (K : Fn g D M Q (T.setTop (mkF M.m pc' Ls (.int x.toInt32 :: S)))) : Fn g D M Q (T.setTop (mkF M.m pc Ls (.long x :: S))) := by
  subst hp
  exact K.go fun t => XS.l2i (g := mkF M.m pc Ls (.long x :: S)) B.here B.hx rfl (hb B.cd hd) rfl
theorem p_i2b (B : Rn g D M T A cs ss) {x : Int32} (hd : decode D.cd pc = .ok (.i2b, 1)) (hp : pc + 1 = pc') (K : Fn g D M Q (T.setTop (mkF M.m pc' Ls (.int x.toInt8.toInt32 :: S)))) : Fn g D M Q (T.setTop (mkF M.m pc Ls (.int x :: S))) := by
  subst hp
  exact K.go fun t => XS.i2b (g := mkF M.m pc Ls (.int x :: S)) B.here B.hx rfl (hb B.cd hd) rfl
theorem p_i2c (B : Rn g D M T A cs ss) {x : Int32} (hd : decode D.cd pc = .ok (.i2c, 1)) (hp : pc + 1 = pc') (K : Fn g D M Q (T.setTop (mkF M.m pc' Ls (.int x.toUInt32.toUInt16.toUInt32.toInt32 :: S)))) : Fn g D M Q (T.setTop (mkF M.m pc Ls (.int x :: S))) := by
  subst hp
  exact K.go fun t => XS.i2c (g := mkF M.m pc Ls (.int x :: S)) B.here B.hx rfl (hb B.cd hd) rfl
theorem p_i2s (B : Rn g D M T A cs ss) {x : Int32} (hd : decode D.cd pc = .ok (.i2s, 1)) (hp : pc + 1 = pc') (K : Fn g D M Q (T.setTop (mkF M.m pc' Ls (.int x.toInt16.toInt32 :: S)))) : Fn g D M Q (T.setTop (mkF M.m pc Ls (.int x :: S))) := by
  subst hp
  exact K.go fun t => XS.i2s (g := mkF M.m pc Ls (.int x :: S)) B.here B.hx rfl (hb B.cd hd) rfl
theorem p_dup (B : Rn g D M T A cs ss) {x : Value} (hd : decode D.cd pc = .ok (.dup, 1)) (hp : pc + 1 = pc') (hc : x.category = 1) (K : Fn g D M Q (T.setTop (mkF M.m pc' Ls (x :: x :: S)))) : Fn g D M Q (T.setTop (mkF M.m pc Ls (x :: S))) := by
  subst hp
  exact K.go fun t => XS.dup (g := mkF M.m pc Ls (x :: S)) B.here B.hx rfl (hb B.cd hd) rfl hc
theorem p_pop (B : Rn g D M T A cs ss) {x : Value} (hd : decode D.cd pc = .ok (.pop, 1)) (hp : pc + 1 = pc') (hc : x.category = 1) (K : Fn g D M Q (T.setTop (mkF M.m pc' Ls (S)))) : Fn g D M Q (T.setTop (mkF M.m pc Ls (x :: S))) := by
  subst hp
  exact K.go fun t => XS.pop (g := mkF M.m pc Ls (x :: S)) B.here B.hx rfl (hb B.cd hd) rfl hc
theorem p_dupx1 (B : Rn g D M T A cs ss) {x y : Value} (hd : decode D.cd pc = .ok (.dup_x1, 1)) (hp : pc + 1 = pc') (hc : x.category = 1) (hc' : y.category = 1) (K : Fn g D M Q (T.setTop (mkF M.m pc' Ls (x :: y :: x :: S)))) : Fn g D M Q (T.setTop (mkF M.m pc Ls (x :: y :: S))) := by
  subst hp
  exact K.go fun t => XS.dupX1 (g := mkF M.m pc Ls (x :: y :: S)) B.here B.hx rfl (hb B.cd hd) rfl hc hc'
theorem p_dup2 (B : Rn g D M T A cs ss) {x y : Value} (hd : decode D.cd pc = .ok (.dup2, 1)) (hp : pc + 1 = pc') (hc : x.category = 1) (hc' : y.category = 1) (K : Fn g D M Q (T.setTop (mkF M.m pc' Ls (x :: y :: x :: y :: S)))) : Fn g D M Q (T.setTop (mkF M.m pc Ls (x :: y :: S))) := by
  subst hp
  exact K.go fun t => Jvm.Free.XT.dup2 (g := mkF M.m pc Ls (x :: y :: S)) B.here B.hx rfl (hb B.cd hd) rfl hc hc'
theorem p_dup2L (B : Rn g D M T A cs ss) {x : Int64} (hd : decode D.cd pc = .ok (.dup2, 1)) (hp : pc + 1 = pc') (K : Fn g D M Q (T.setTop (mkF M.m pc' Ls (.long x :: .long x :: S)))) : Fn g D M Q (T.setTop (mkF M.m pc Ls (.long x :: S))) := by
  subst hp
  exact K.go fun t => Jvm.Free.XT.dup2L (g := mkF M.m pc Ls (.long x :: S)) B.here B.hx rfl (hb B.cd hd) rfl
theorem p_iinc (B : Rn g D M T A cs ss) {k : Nat} {cst : Int} {x v z : Int32} (hd : decode D.cd pc = .ok (.iinc k cst, 3)) (hp : pc + 3 = pc') (hv : Int32.ofInt cst = v) (hl : Ls[k]? = some (.val (.int x))) (hz : x + v = z) (hl' : storeLocals Ls k (.int z) = some Ls') (K : Fn g D M Q (T.setTop (mkF M.m pc' Ls' (S)))) : Fn g D M Q (T.setTop (mkF M.m pc Ls (S))) := by
  subst hp; subst hz
  exact K.go fun t => Jvm.Free.XT.iincV (g := mkF M.m pc Ls (S)) B.here B.hx rfl v (hb B.cd hd) hv hl hl'
def hldT : ClassFile.Cond → Int32 → Int32 → Prop
  | .eq, x, y => x = y
  | .ne, x, y => ¬ x = y
  | .lt, x, y => x < y
  | .ge, x, y => ¬ x < y
  | .gt, x, y => y < x
  | .le, x, y => ¬ y < x
def hldF : ClassFile.Cond → Int32 → Int32 → Prop
  | .eq, x, y => ¬ x = y
  | .ne, x, y => x = y
  | .lt, x, y => ¬ x < y
  | .ge, x, y => x < y
  | .gt, x, y => ¬ y < x
  | .le, x, y => y < x
theorem hldT_ii {cd : ClassFile.Cond} {x y : Int32} (h : hldT cd x y) : if_icmp.holds cd x y = true := by
  cases cd
  · exact Jvm.Free.XT.ii_eq_t h
  · exact Jvm.Free.XT.ii_ne_t h
  · exact Jvm.Free.XT.ii_lt_t h
  · exact Jvm.Free.XT.ii_ge_t h
  · exact Jvm.Free.XT.ii_gt_t h
  · exact Jvm.Free.XT.ii_le_t h
theorem hldF_ii {cd : ClassFile.Cond} {x y : Int32} (h : hldF cd x y) : if_icmp.holds cd x y = false := by
  cases cd
  · exact Jvm.Free.XT.ii_eq_f h
  · exact Jvm.Free.XT.ii_ne_f h
  · exact Jvm.Free.XT.ii_lt_f h
  · exact Jvm.Free.XT.ii_ge_f h
  · exact Jvm.Free.XT.ii_gt_f h
  · exact Jvm.Free.XT.ii_le_f h
theorem b_ifT (B : Rn g D M T A cs ss) {cd : ClassFile.Cond} {x : Int32} {o : Int} (hd : decode D.cd pc = .ok (.ifCond cd o, 3)) (h : hldT cd x 0) (ho : 0 ≤ (pc : Int) + o) (hp : ((pc : Int) + o).toNat = pc') (K : Fn g D M Q (T.setTop (mkF M.m pc' Ls S))) : Fn g D M Q (T.setTop (mkF M.m pc Ls (.int x :: S))) :=
  K.go fun t => XS.ifYes (g := mkF M.m pc Ls (.int x :: S)) B.here B.hx rfl (pc0 := pc) (pc' := pc') rfl (hb B.cd hd) rfl ((if0 cd x).trans (hldT_ii h)) ho hp
theorem b_ifF (B : Rn g D M T A cs ss) {cd : ClassFile.Cond} {x : Int32} {o : Int} (hd : decode D.cd pc = .ok (.ifCond cd o, 3)) (hp : pc + 3 = pc') (h : hldF cd x 0) (K : Fn g D M Q (T.setTop (mkF M.m pc' Ls S))) : Fn g D M Q (T.setTop (mkF M.m pc Ls (.int x :: S))) := by
  subst hp
  exact K.go fun t => XS.ifNo (g := mkF M.m pc Ls (.int x :: S)) B.here B.hx rfl (hb B.cd hd) rfl ((if0 cd x).trans (hldF_ii h))
theorem b_icT (B : Rn g D M T A cs ss) {cd : ClassFile.Cond} {x y : Int32} {o : Int} (hd : decode D.cd pc = .ok (.if_icmp cd o, 3)) (h : hldT cd x y) (ho : 0 ≤ (pc : Int) + o) (hp : ((pc : Int) + o).toNat = pc') (K : Fn g D M Q (T.setTop (mkF M.m pc' Ls S))) : Fn g D M Q (T.setTop (mkF M.m pc Ls (.int y :: .int x :: S))) :=
  K.go fun t => XS.icmpYes (g := mkF M.m pc Ls (.int y :: .int x :: S)) B.here B.hx rfl (pc0 := pc) (pc' := pc') rfl (hb B.cd hd) rfl (hldT_ii h) ho hp
theorem b_icF (B : Rn g D M T A cs ss) {cd : ClassFile.Cond} {x y : Int32} {o : Int} (hd : decode D.cd pc = .ok (.if_icmp cd o, 3)) (hp : pc + 3 = pc') (h : hldF cd x y) (K : Fn g D M Q (T.setTop (mkF M.m pc' Ls S))) : Fn g D M Q (T.setTop (mkF M.m pc Ls (.int y :: .int x :: S))) := by
  subst hp
  exact K.go fun t => XS.icmpNo (g := mkF M.m pc Ls (.int y :: .int x :: S)) B.here B.hx rfl (hb B.cd hd) rfl (hldF_ii h)
theorem b_nuT (B : Rn g D M T A cs ss) {o : Int} (hd : decode D.cd pc = .ok (.ifnull o, 3)) (ho : 0 ≤ (pc : Int) + o) (hp : ((pc : Int) + o).toNat = pc') (K : Fn g D M Q (T.setTop (mkF M.m pc' Ls S))) : Fn g D M Q (T.setTop (mkF M.m pc Ls (.null :: S))) :=
  K.go fun t => XS.ifnullYes (g := mkF M.m pc Ls (.null :: S)) B.here B.hx rfl (pc0 := pc) (pc' := pc') rfl (hb B.cd hd) rfl ho hp
theorem b_nuF (B : Rn g D M T A cs ss) {b : Addr} {o : Int} (hd : decode D.cd pc = .ok (.ifnull o, 3)) (hp : pc + 3 = pc') (K : Fn g D M Q (T.setTop (mkF M.m pc' Ls S))) : Fn g D M Q (T.setTop (mkF M.m pc Ls (.ref b :: S))) := by
  subst hp
  exact K.go fun t => XS.ifnullNo (g := mkF M.m pc Ls (.ref b :: S)) B.here B.hx rfl (hb B.cd hd) rfl
theorem b_nnT (B : Rn g D M T A cs ss) {b : Addr} {o : Int} (hd : decode D.cd pc = .ok (.ifnonnull o, 3)) (ho : 0 ≤ (pc : Int) + o) (hp : ((pc : Int) + o).toNat = pc') (K : Fn g D M Q (T.setTop (mkF M.m pc' Ls S))) : Fn g D M Q (T.setTop (mkF M.m pc Ls (.ref b :: S))) :=
  K.go fun t => XS.ifnonnullYes (g := mkF M.m pc Ls (.ref b :: S)) B.here B.hx rfl (pc0 := pc) (pc' := pc') rfl (hb B.cd hd) rfl ho hp
theorem b_nnF (B : Rn g D M T A cs ss) {o : Int} (hd : decode D.cd pc = .ok (.ifnonnull o, 3)) (hp : pc + 3 = pc') (K : Fn g D M Q (T.setTop (mkF M.m pc' Ls S))) : Fn g D M Q (T.setTop (mkF M.m pc Ls (.null :: S))) := by
  subst hp
  exact K.go fun t => XS.ifnonnullNo (g := mkF M.m pc Ls (.null :: S)) B.here B.hx rfl (hb B.cd hd) rfl
theorem b_nnTV (B : Rn g D M T A cs ss) {v : Value} {o : Int} (hd : decode D.cd pc = .ok (.ifnonnull o, 3)) (hv : v.isRef = true) (h : ¬ v = .null) (ho : 0 ≤ (pc : Int) + o) (hp : ((pc : Int) + o).toNat = pc') (K : Fn g D M Q (T.setTop (mkF M.m pc' Ls S))) : Fn g D M Q (T.setTop (mkF M.m pc Ls (v :: S))) :=
  K.go fun t => Jvm.Free.XT.nonnullYes (g := mkF M.m pc Ls (v :: S)) B.here B.hx rfl (pc0 := pc) (pc' := pc') rfl (hb B.cd hd) rfl hv h ho hp
theorem b_nnFV (B : Rn g D M T A cs ss) {v : Value} {o : Int} (hd : decode D.cd pc = .ok (.ifnonnull o, 3)) (hp : pc + 3 = pc') (h : v = .null) (K : Fn g D M Q (T.setTop (mkF M.m pc' Ls S))) : Fn g D M Q (T.setTop (mkF M.m pc Ls (v :: S))) := by
  subst hp
  exact K.go fun t => Jvm.Free.XT.nonnullNo (g := mkF M.m pc Ls (v :: S)) B.here B.hx rfl (hb B.cd hd) rfl h
theorem b_nuTV (B : Rn g D M T A cs ss) {v : Value} {o : Int} (hd : decode D.cd pc = .ok (.ifnull o, 3)) (h : v = .null) (ho : 0 ≤ (pc : Int) + o) (hp : ((pc : Int) + o).toNat = pc') (K : Fn g D M Q (T.setTop (mkF M.m pc' Ls S))) : Fn g D M Q (T.setTop (mkF M.m pc Ls (v :: S))) :=
  K.go fun t => Jvm.Free.XT.nullYes (g := mkF M.m pc Ls (v :: S)) B.here B.hx rfl (pc0 := pc) (pc' := pc') rfl (hb B.cd hd) rfl h ho hp
theorem b_nuFV (B : Rn g D M T A cs ss) {v : Value} {o : Int} (hd : decode D.cd pc = .ok (.ifnull o, 3)) (hp : pc + 3 = pc') (hv : v.isRef = true) (h : ¬ v = .null) (K : Fn g D M Q (T.setTop (mkF M.m pc' Ls S))) : Fn g D M Q (T.setTop (mkF M.m pc Ls (v :: S))) := by
  subst hp
  exact K.go fun t => Jvm.Free.XT.nullNo (g := mkF M.m pc Ls (v :: S)) B.here B.hx rfl (hb B.cd hd) rfl hv h
theorem b_aeT (B : Rn g D M T A cs ss) {x y : Value} {o : Int} (hd : decode D.cd pc = .ok (.if_acmp .eq o, 3)) (hx : x.isRef = true) (hy : y.isRef = true) (h : x = y) (ho : 0 ≤ (pc : Int) + o) (hp : ((pc : Int) + o).toNat = pc') (K : Fn g D M Q (T.setTop (mkF M.m pc' Ls S))) : Fn g D M Q (T.setTop (mkF M.m pc Ls (y :: x :: S))) :=
  K.go fun t => Jvm.Free.XT.acmpYes (g := mkF M.m pc Ls (y :: x :: S)) B.here B.hx rfl (pc0 := pc) (pc' := pc') rfl (hb B.cd hd) rfl hx hy (Jvm.Free.XT.aa_eq_t h) ho hp
theorem b_aeF (B : Rn g D M T A cs ss) {x y : Value} {o : Int} (hd : decode D.cd pc = .ok (.if_acmp .eq o, 3)) (hp : pc + 3 = pc') (hx : x.isRef = true) (hy : y.isRef = true) (h : ¬ x = y) (K : Fn g D M Q (T.setTop (mkF M.m pc' Ls S))) : Fn g D M Q (T.setTop (mkF M.m pc Ls (y :: x :: S))) := by
  subst hp
  exact K.go fun t => Jvm.Free.XT.acmpNo (g := mkF M.m pc Ls (y :: x :: S)) B.here B.hx rfl (hb B.cd hd) rfl hx hy (Jvm.Free.XT.aa_eq_f h)
theorem b_anT (B : Rn g D M T A cs ss) {x y : Value} {o : Int} (hd : decode D.cd pc = .ok (.if_acmp .ne o, 3)) (hx : x.isRef = true) (hy : y.isRef = true) (h : ¬ x = y) (ho : 0 ≤ (pc : Int) + o) (hp : ((pc : Int) + o).toNat = pc') (K : Fn g D M Q (T.setTop (mkF M.m pc' Ls S))) : Fn g D M Q (T.setTop (mkF M.m pc Ls (y :: x :: S))) :=
  K.go fun t => Jvm.Free.XT.acmpYes (g := mkF M.m pc Ls (y :: x :: S)) B.here B.hx rfl (pc0 := pc) (pc' := pc') rfl (hb B.cd hd) rfl hx hy (Jvm.Free.XT.aa_ne_t h) ho hp
theorem b_anF (B : Rn g D M T A cs ss) {x y : Value} {o : Int} (hd : decode D.cd pc = .ok (.if_acmp .ne o, 3)) (hp : pc + 3 = pc') (hx : x.isRef = true) (hy : y.isRef = true) (h : x = y) (K : Fn g D M Q (T.setTop (mkF M.m pc' Ls S))) : Fn g D M Q (T.setTop (mkF M.m pc Ls (y :: x :: S))) := by
  subst hp
  exact K.go fun t => Jvm.Free.XT.acmpNo (g := mkF M.m pc Ls (y :: x :: S)) B.here B.hx rfl (hb B.cd hd) rfl hx hy (Jvm.Free.XT.aa_ne_f h)
theorem b_goto (B : Rn g D M T A cs ss) {o : Int} (hd : decode D.cd pc = .ok (.goto o, 3)) (ho : 0 ≤ (pc : Int) + o) (hp : ((pc : Int) + o).toNat = pc') (K : Fn g D M Q (T.setTop (mkF M.m pc' Ls S))) : Fn g D M Q (T.setTop (mkF M.m pc Ls S)) :=
  K.go fun t => XS.goto (g := mkF M.m pc Ls S) B.here B.hx rfl (pc0 := pc) (pc' := pc') rfl (hb B.cd hd) ho hp
/-! OWN WALKING KIT, part 4: calls, constants, casts. -/
theorem r_initO (B : RH g D M T H Lt cs ss) {ix W : Nat} {a : Addr} (hd : decode D.cd pc = .ok (.invokespecial ix, 3)) (hp : pc + 3 = pc') (w1 : (Jvm.Cond.methodLink D.y.cls ix Lib.objectInit).before g.a0 g.Z = true) (w2 : (Jvm.Cond.instanceMethod Lib.objectInit).before g.a0 g.Z = true)
    (w3 : (Jvm.Cond.code Lib.objectInit ⟨#[0xb1]⟩ 1 none).before g.a0 g.Z = true) (hsz : Ls.size = D.mx) (hf : 1 ≤ D.rm.frames) (hW : (S.map fun v => v.category).sum = W) (hl : W + 12 ≤ D.rm.locals)
    (K : ∀ T', RH g D M T' H Lt cs ss → Fn g D M Q (T'.setTop (mkF M.m pc' Ls S))) : Fn g D M Q (T.setTop (mkF M.m pc Ls (.ref a :: S))) := by
  subst hp
  obtain ⟨st, vm0, k0, locs, X, hS, hk, hZ, hown, hC, N, E0, hH⟩ := B
  obtain ⟨T', X', e', stp⟩ := initO (Z := g.Z) (a0 := g.a0) X st.2.1 hZ hown w1 w2 w3 rfl (g := mkF M.m pc Ls (.ref a :: S)) rfl (hsz.trans st.2.2.2.1.symm) rfl (hb st.2.2.1 hd) hf (W := W) (by show 2 * 0 + _ ≤ _; rw [hW]; omega) hl
  exact (K T' ⟨st, vm0, k0, locs, X', hS, by rw [e']; exact hk, hZ, hown, by rw [e']; exact hC, N, by rw [e']; exact E0, by rw [e']; exact hH⟩).go stp
theorem Ct.back {R : Room} {p : Program} {e : Env} {below : List Frame} {s : State} {args : Array Value} {vm0 : Vm} {h : Heap} {len Wt : Nat} (K : Ct g D' as H Lt Q') (W : GW g) (hZ : g.Z.Warmed39 vm0) (wc : (Jvm.Cond.code D'.y D'.cd D'.mx D'.rt).before g.a0 g.Z = true) (wz : (Jvm.Cond.initialized D'.y.cls).before g.a0 g.Z = true)
    (hf : D'.rm.frames + 1 ≤ R.frames) (hl : Wt + (D'.mx + 11) + D'.rm.locals ≤ R.locals) (HC : CHv g.Z g.EL vm0 h) (E0 : Ext g.Z.heap h) (P : Hp g vm0 h H Lt) :
    BackS g.l R p e below (s.setVm vm0) args D'.y len Wt (fun A a => a = as ∧ A.U.heap = h ∧ A.cells + D'.rm.cells ≤ R.cells ∧ A.slots + D'.rm.slots ≤ R.slots)
      (fun A _ v B => ∃ L, Q' v B.U.vm B.U.heap ∧ Fr g.Z.heap.size L ∧ Ext g.Z.heap B.U.heap ∧ B.locs = A.locs ++ L ∧ B.cells = A.cells + D'.rm.cells ∧ B.slots = A.slots + D'.rm.slots ∧ CHr g.Z g.EL vm0 h B.U.vm B.U.heap) :=
  BackS.of_freeW (bytes := D'.cd) (maxL := D'.mx) (ret := D'.rt) (E := fun _ first o t L k n => k = D'.rm.cells ∧ n = D'.rm.slots ∧ (∃ v, o = .returned v ∧ Q' v t.vm t.heap) ∧ Fr g.Z.heap.size L ∧ Ext g.Z.heap t.heap ∧ CHr g.Z g.EL first.vm first.heap t.vm t.heap) K hf hl
    (fun m meth c A a Y hp => have hU : g.Z.Warmed39 A.U.vm := wtrans (s := s.setVm vm0) hZ Y.warmed
      ⟨by show (Jvm.Cond.and _ .tt).before a A.U = true; rw [Cond.before_and, mv hU wc]; rfl, mv hU wc, mv hU wz, hp.2.2.1, hp.2.2.2⟩)
    (fun m meth c A a g' mk Y hp => by
      have hat := CHv.at Y hZ W.2.1 HC
      have e1 : (A.U.calling g' mk a).heap = h := hp.2.1
      have e2 : (A.U.calling g' mk a).vm = A.U.vm := rfl
      refine ⟨hp.1, wtrans (s := s.setVm vm0) hZ Y.warmed, ?_, ?_, ?_⟩
      · rw [e1, e2]; exact hat.1
      · rw [e1]; exact E0
      · rw [e1, e2]; exact P.move hat (ext_rfl _))
    (fun _ _ _ _ _ _ _ _ _ => trivial)
    (fun _ _ _ _ ⟨v, L, h1, h2, h3, h4, h5, h6⟩ => ⟨L, _, _, h6, rfl, rfl, ⟨v, h1, h2⟩, h3, h5, h4⟩)
    (fun m meth c A a g' mk v t L k n Y hp _ _ ⟨e1, e2, ⟨v', e3, e4⟩, e5, e6, e7⟩ => by
      cases e3; subst e1 e2
      refine ⟨L, e4, e5, e6, rfl, rfl, rfl, (CHv.at Y hZ W.2.1 HC).trans ?_⟩
      rw [← hp.2.1]; exact e7)
theorem Rn.after {vm0 : Vm} {k0 : Nat} {locs : List Loc} {B : Pt} {L : List Loc} {v : Option Value} {rc rs : Nat} (st : GW g ∧ M.p.tables.exec = Jvm.exec ∧ M.c.code = D.cd ∧ M.c.maxLocals = D.mx ∧ M.meth.sig.returnType = D.rt ∧ M.meth.locks = false ∧ M.meth.name = D.y.name)
    (hS : M.s.Since vm0 k0) (hk : k0 ≤ T.heap.size) (hZ : g.Z.Warmed39 vm0) (hown : vm0.findClass D.y.cls = some M.m.cls) (hC : CHr g.Z g.EL M.s.vm M.s.heap vm0 T.heap) (N : Fr g.Z.heap.size locs)
    (X' : Stand M.p g.l M.e D.rm ((M.s.setVm vm0).setVm B.U.vm) M.m M.args M.below M.meth M.c B.U B.locs B.cells B.slots) (hS' : (M.s.setVm vm0).Since B.U.vm B.U.heap.size) (hg' : T.heap.size ≤ B.U.heap.size)
    (hQ : Q' v B.U.vm B.U.heap) (hL : Fr g.Z.heap.size L) (hE : Ext g.Z.heap B.U.heap) (e1 : B.locs = locs ++ L) (e2 : B.cells = cs + rc) (e3 : B.slots = ss + rs) (hC' : CHr g.Z g.EL vm0 T.heap B.U.vm B.U.heap) : Rn g D M B.U (Q' v) (cs + rc) (ss + rs) := by
  obtain ⟨r1, r2, r3, r4⟩ := rebS (Z := g.Z) hS hk X' hS' hg' hZ hown
  rw [e1, e2, e3] at r1
  exact ⟨st, B.U.vm, B.U.heap.size, _, r1, r2, Nat.le_refl _, r3, r4, hC.trans hC', N.app hL, hE, hQ⟩
theorem r_static (B : RH g D M T H Lt cs ss) {ix W cs' ss' : Nat} {argsL rest : List Value} {ps : List FieldType} {r : Option FieldType} (hd : decode D.cd pc = .ok (.invokestatic ix, 3)) (hp : pc + 3 = pc')
    (w1 : (Jvm.Cond.methodLink D.y.cls ix D'.y).before g.a0 g.Z = true) (w2 : (Jvm.Cond.static D'.y).before g.a0 g.Z = true) (w3 : (Jvm.Cond.initialized D'.y.cls).before g.a0 g.Z = true) (w4 : (Jvm.Cond.code D'.y D'.cd D'.mx D'.rt).before g.a0 g.Z = true)
    (hy : D'.y.cls ≠ "java/lang/invoke/MethodHandle" ∧ D'.y.cls ≠ "java/lang/invoke/VarHandle") (C : Ct g D' as H Lt Q') (has : argsL.toArray = as) (pd : parseMethodDescriptor D'.y.desc = some ⟨ps, r⟩) (hlen : argsL.length = ps.length) (hst : S = argsL.reverse ++ rest)
    (hsz : Ls.size = D.mx) (hW : (rest.map fun v => v.category).sum = W) (hf : D'.rm.frames + 1 ≤ D.rm.frames) (hl : W + (D'.mx + 11) + D'.rm.locals ≤ D.rm.locals) (hc : cs + D'.rm.cells = cs') (hs : ss + D'.rm.slots = ss') (hc' : cs' ≤ D.rm.cells) (hs' : ss' ≤ D.rm.slots)
    (K : ∀ T' v, Rn g D M T' (Q' v) cs' ss' → Fn g D M Q (T'.setTop (mkF M.m pc' Ls (v.toList ++ rest)))) : Fn g D M Q (T.setTop (mkF M.m pc Ls S)) := by
  subst hp hc hs
  obtain ⟨st, vm0, k0, locs, X, hS, hk, hZ, hown, hC, N, E0, hH⟩ := B
  obtain ⟨v, vm1, Bp, -, X', hS', hg', ⟨L, hQ, hL, hE, e1, e2, e3, hC'⟩, stp⟩ := callSS X st.2.1 hown (mvT hZ w1) (mvT hZ w2) (mvT hZ w3) (mvT hZ w4) hy (Ct.back (p := M.p) (e := M.e) (below := M.below) (s := M.s) (args := M.args) (len := 3) (Wt := W) C st.1 hZ w4 w3 hf hl hC.1 E0 hH) (g := mkF M.m pc Ls S) rfl (hsz.trans st.2.2.2.1.symm) (argsL := argsL) (rest := rest) (lenOf pd hlen) hst (by show 2 * 0 + _ ≤ _; rw [hW]; omega) (hb st.2.2.1 hd) (fun _ _ => ⟨has, rfl, hc', hs'⟩)
  exact (K Bp.U v (Rn.after st hS hk hZ hown hC N X' hS' hg' hQ hL hE e1 e2 e3 hC')).go fun t => stp.trans
theorem r_special (B : RH g D M T H Lt cs ss) {ix W cs' ss' : Nat} {a : Addr} {argsL rest : List Value} {ps : List FieldType} {r : Option FieldType} (hd : decode D.cd pc = .ok (.invokespecial ix, 3)) (hp : pc + 3 = pc') (hy1 : D'.y.name = "<init>") (hrt : D'.rt = none)
    (w1 : (Jvm.Cond.methodLink D.y.cls ix D'.y).before g.a0 g.Z = true) (w2 : (Jvm.Cond.instanceMethod D'.y).before g.a0 g.Z = true) (w3 : (Jvm.Cond.initialized D'.y.cls).before g.a0 g.Z = true) (w4 : (Jvm.Cond.code D'.y D'.cd D'.mx D'.rt).before g.a0 g.Z = true)
    (hy : D'.y.cls ≠ "java/lang/invoke/MethodHandle" ∧ D'.y.cls ≠ "java/lang/invoke/VarHandle") (C : Ct g D' as H Lt Q') (has : (.ref a :: argsL).toArray = as) (pd : parseMethodDescriptor D'.y.desc = some ⟨ps, r⟩) (hlen : argsL.length = ps.length) (hst : S = argsL.reverse ++ .ref a :: rest)
    (hsz : Ls.size = D.mx) (hW : (rest.map fun v => v.category).sum = W) (hf : D'.rm.frames + 1 ≤ D.rm.frames) (hl : W + (D'.mx + 11) + D'.rm.locals ≤ D.rm.locals) (hc : cs + D'.rm.cells = cs') (hs : ss + D'.rm.slots = ss') (hc' : cs' ≤ D.rm.cells) (hs' : ss' ≤ D.rm.slots)
    (K : ∀ T' v, Rn g D M T' (Q' v) cs' ss' → Fn g D M Q (T'.setTop (mkF M.m pc' Ls (v.toList ++ rest)))) : Fn g D M Q (T.setTop (mkF M.m pc Ls S)) := by
  subst hp hc hs
  obtain ⟨st, vm0, k0, locs, X, hS, hk, hZ, hown, hC, N, E0, hH⟩ := B
  obtain ⟨v, vm1, Bp, -, X', hS', hg', ⟨L, hQ, hL, hE, e1, e2, e3, hC'⟩, stp⟩ := X.specialBackS st.2.1 hy1 hown (mvT hZ w1) (mvT hZ w2) (bytes := D'.cd) (maxL := D'.mx) (by rw [hrt] at w4; exact mvT hZ w4) hy (Ct.back (p := M.p) (e := M.e) (below := M.below) (s := M.s) (args := M.args) (len := 3) (Wt := W) C st.1 hZ w4 w3 hf hl hC.1 E0 hH) (g := mkF M.m pc Ls S) rfl (hsz.trans st.2.2.2.1.symm) (Steps.refl _) (a := a) (argsL := argsL) (rest := rest) (lenOf pd hlen) hst (by show 2 * 0 + _ ≤ _; rw [hW]; omega) (hb st.2.2.1 hd) (fun _ _ => ⟨has, rfl, hc', hs'⟩)
  exact (K Bp.U v (Rn.after st hS hk hZ hown hC N X' hS' hg' hQ hL hE e1 e2 e3 hC')).go fun t => stp.trans
theorem r_virtual (B : RH g D M T H Lt cs ss) {ix W cs' ss' : Nat} {y : MethodName} {C0 : String} {b : Addr} {argsL rest : List Value} {ps : List FieldType} {r : Option FieldType} (hd : decode D.cd pc = .ok (.invokevirtual ix, 3)) (hp : pc + 3 = pc')
    (w1 : (Jvm.Cond.methodLink D.y.cls ix y).before g.a0 g.Z = true) (wd : (Jvm.Cond.declares y).before g.a0 g.Z = true) (ws : (Jvm.Cond.selects C0 y D'.y).before g.a0 g.Z = true) (nf : ∀ vm0, g.Z.Warmed39 vm0 → NotFace (M.s.setVm vm0) y) (w2 : (Jvm.Cond.instanceMethod D'.y).before g.a0 g.Z = true) (w3 : (Jvm.Cond.initialized D'.y.cls).before g.a0 g.Z = true) (w4 : (Jvm.Cond.code D'.y D'.cd D'.mx D'.rt).before g.a0 g.Z = true)
    (hy : y.cls ≠ "java/lang/invoke/MethodHandle" ∧ y.cls ≠ "java/lang/invoke/VarHandle") (F : Al g H Lt fun h => Exa g.Z h b C0) (C : Ct g D' as H Lt Q') (has : (.ref b :: argsL).toArray = as) (pd : parseMethodDescriptor y.desc = some ⟨ps, r⟩) (hlen : argsL.length = ps.length) (hst : S = argsL.reverse ++ .ref b :: rest)
    (hsz : Ls.size = D.mx) (hW : (rest.map fun v => v.category).sum = W) (hf : D'.rm.frames + 1 ≤ D.rm.frames) (hl : W + (D'.mx + 11) + D'.rm.locals ≤ D.rm.locals) (hc : cs + D'.rm.cells = cs') (hs : ss + D'.rm.slots = ss') (hc' : cs' ≤ D.rm.cells) (hs' : ss' ≤ D.rm.slots)
    (K : ∀ T' v, Rn g D M T' (Q' v) cs' ss' → Fn g D M Q (T'.setTop (mkF M.m pc' Ls (v.toList ++ rest)))) : Fn g D M Q (T.setTop (mkF M.m pc Ls S)) := by
  subst hp hc hs
  obtain ⟨st, vm0, k0, locs, X, hS, hk, hZ, hown, hC, N, E0, hH⟩ := B
  obtain ⟨cB, kB, q1, q2, q3⟩ := isOf (s := M.s.setVm vm0) (T := T) hZ rfl (F _ _ E0 hH)
  obtain ⟨v, vm1, Bp, -, X', hS', hg', ⟨L, hQ, hL, hE, e1, e2, e3, hC'⟩, stp⟩ := X.virtualBackS st.2.1 hown (mvT hZ w1) (mvT hZ wd) (nf vm0 hZ) (mvT hZ ws) (mvT hZ w2) hy (Ct.back (p := M.p) (e := M.e) (below := M.below) (s := M.s) (args := M.args) (len := 3) (Wt := W) C st.1 hZ w4 w3 hf hl hC.1 E0 hH) q1 q3 (g := mkF M.m pc Ls S) rfl (hsz.trans st.2.2.2.1.symm) (Steps.refl _) (argsL := argsL) (rest := rest) (lenOf pd hlen) hst (by show 2 * 0 + _ ≤ _; rw [hW]; omega) (hb st.2.2.1 hd) (fun _ _ => ⟨has, rfl, hc', hs'⟩)
  exact (K Bp.U v (Rn.after st hS hk hZ hown hC N X' hS' hg' hQ hL hE e1 e2 e3 hC')).go fun t => stp.trans
theorem r_iface (B : RH g D M T H Lt cs ss) {ix cnt W cs' ss' : Nat} {y : MethodName} {C0 : String} {b : Addr} {argsL rest : List Value} {ps : List FieldType} {r : Option FieldType} (hd : decode D.cd pc = .ok (.invokeinterface ix cnt, 5)) (hp : pc + 5 = pc')
    (w1 : (Jvm.Cond.methodLink D.y.cls ix y).before g.a0 g.Z = true) (wd : (Jvm.Cond.declares y).before g.a0 g.Z = true) (wf : (Jvm.Cond.interfaceMethod y.cls y.cls y.name y.desc).before g.a0 g.Z = true) (hfa : ((Jvm.Cond.interfaceMethod y.cls y.cls y.name y.desc).onTables && (Jvm.Cond.interfaceMethod y.cls y.cls y.name y.desc).keepsFace) = true) (ws : (Jvm.Cond.selects C0 y D'.y).before g.a0 g.Z = true) (w2 : (Jvm.Cond.instanceMethod D'.y).before g.a0 g.Z = true)
    (wp : (Jvm.Cond.publicMethod D'.y).before g.a0 g.Z = true) (wu : (Jvm.Cond.unhidden C0 y.name y.desc).before g.a0 g.Z = true) (wk : (Jvm.Cond.castable C0 y.cls).before g.a0 g.Z = true)
    (w3 : (Jvm.Cond.initialized D'.y.cls).before g.a0 g.Z = true) (w4 : (Jvm.Cond.code D'.y D'.cd D'.mx D'.rt).before g.a0 g.Z = true)
    (hy : y.cls ≠ "java/lang/invoke/MethodHandle" ∧ y.cls ≠ "java/lang/invoke/VarHandle") (F : Al g H Lt fun h => Exa g.Z h b C0) (C : Ct g D' as H Lt Q') (has : (.ref b :: argsL).toArray = as) (pd : parseMethodDescriptor y.desc = some ⟨ps, r⟩) (hlen : argsL.length = ps.length) (hst : S = argsL.reverse ++ .ref b :: rest)
    (hsz : Ls.size = D.mx) (hW : (rest.map fun v => v.category).sum = W) (hf : D'.rm.frames + 1 ≤ D.rm.frames) (hl : W + (D'.mx + 11) + D'.rm.locals ≤ D.rm.locals) (hc : cs + D'.rm.cells = cs') (hs : ss + D'.rm.slots = ss') (hc' : cs' ≤ D.rm.cells) (hs' : ss' ≤ D.rm.slots)
    (K : ∀ T' v, Rn g D M T' (Q' v) cs' ss' → Fn g D M Q (T'.setTop (mkF M.m pc' Ls (v.toList ++ rest)))) : Fn g D M Q (T.setTop (mkF M.m pc Ls S)) := by
  subst hp hc hs
  obtain ⟨st, vm0, k0, locs, X, hS, hk, hZ, hown, hC, N, E0, hH⟩ := B
  obtain ⟨cB, kB, q1, q2, q3⟩ := isOf (s := M.s.setVm vm0) (T := T) hZ rfl (F _ _ E0 hH)
  obtain ⟨v, vm1, Bp, -, X', hS', hg', ⟨L, hQ, hL, hE, e1, e2, e3, hC'⟩, stp⟩ := X.interfaceBackS st.2.1 hown (mvT hZ w1) (mvT hZ wd) (mvT hZ wf hfa) (mvT hZ ws) (mvT hZ w2) (mvT hZ wp) (mvT hZ wu) (mvT hZ wk) hy (Ct.back (p := M.p) (e := M.e) (below := M.below) (s := M.s) (args := M.args) (len := 5) (Wt := W) C st.1 hZ w4 w3 hf hl hC.1 E0 hH) q1 q2 q3 (g := mkF M.m pc Ls S) rfl (hsz.trans st.2.2.2.1.symm) (Steps.refl _) (argsL := argsL) (rest := rest) (lenOf pd hlen) hst (by show 2 * 0 + _ ≤ _; rw [hW]; omega) (hb st.2.2.1 hd) (fun _ _ => ⟨has, rfl, hc', hs'⟩)
  exact (K Bp.U v (Rn.after st hS hk hZ hown hC N X' hS' hg' hQ hL hE e1 e2 e3 hC')).go fun t => stp.trans
/-! constants -/
theorem ary_of {Z : State} {h : Heap} {b : Addr} {k : ClassId} {z : Int32} {vs : List Value} {dv : Value} (A : Arv Z h b k .byte z vs dv) (hl : z.toNatClampNeg = vs.length) : Ary Z h b .byte "" vs := by
  obtain ⟨c, r1, r2, r3, r4, r5, r6⟩ := A
  have hs : c.slots.size = vs.length := r3.trans hl
  refine ⟨c, r1, ?_, ?_, fun v hv => ?_, nofun, fun q => absurd rfl q⟩
  · apply Array.ext_getElem?
    intro i
    by_cases hi : i < c.slots.size
    · rw [r5 i hi]
      have : i < vs.length := hs ▸ hi
      simp [this]
    · rw [Array.getElem?_eq_none (by omega), List.getElem?_toArray, List.getElem?_eq_none (by omega)]
  · have := (back32 r4).2
    omega
  · obtain ⟨i, hi, rfl⟩ := List.getElem_of_mem hv
    have := r6 i (by omega)
    simpa [hi] using this
theorem r_ldc (B : RH g D M T H Lt cs ss) {ix n cs' ss' : Nat} {text : String} {bs : List Value} {z : Int32} (hd : decode D.cd pc = .ok (.ldc ix, 2)) (hp : pc + 2 = pc') (w : (Jvm.Cond.stringLink D.y.cls ix text).before g.a0 g.Z = true) (wS : ∀ a ∈ Bundle.stringAtoms, a.before g.a0 g.Z = true) (hm : (D.y.cls, ix) ∈ g.EL)
    (ht : (∀ c ∈ text.toList, c.toNat < 256) ∧ text.toList.map (fun c => Value.int (Jvm.Lit.byteI c.toNat.toUInt16)) = bs) (hz : ¬ z < 0) (hzl : z.toNatClampNeg = bs.length) (hn : 4 * text.toList.length ≤ n) (hbig : n ≤ 536870912) (hc : cs + 2 = cs') (hs : ss + (n + 4) = ss') (hc' : cs' ≤ D.rm.cells) (hs' : ss' ≤ D.rm.slots)
    (K : ∀ T' a b, RH g D M T' H ((a, b, 0, bs) :: Lt) cs' ss' → Fn g D M Q (T'.setTop (mkF M.m pc' Ls (.ref a :: S)))) : Fn g D M Q (T.setTop (mkF M.m pc Ls S)) := by
  subst hp hc hs
  obtain ⟨st, vm0, k0, locs, X, hS, hk, hZ, hown, hC, N, E0, hH⟩ := B
  obtain ⟨a, T', h', k1, b, kk, X', e', E, hS', hk', hZ', hown', F1, F2, F3, F4, -, -, hC', -, hsafe, stp⟩ := ldcCH (Z := g.Z) (a0 := g.a0) (EL := g.EL) X st.2.1 hZ hown w wS rfl hS hk st.1.2.1 hm hC.1 ht hz hzl (g := mkF M.m pc Ls S) rfl (hb st.2.2.1 hd) hn hbig hc' hs'
  have P1 := hH.move hC' E
  have P' := P1.lit (y := (a, b, 0, bs)) ⟨F1, F3, F2, ary_of F4 hzl⟩ (fun x hx => hsafe x.1 (P1.1 x hx).2.2.2)
  subst e'
  exact (K T' a b ⟨st, T'.vm, k1, locs, X', hS', hk', hZ', hown', hC.trans hC', N, ext_trans E0 E, P'⟩).go stp
theorem r_ldcO (B : RH g D M T H Lt cs ss) {ix n cs' ss' : Nat} {text : String} (hd : decode D.cd pc = .ok (.ldc ix, 2)) (hp : pc + 2 = pc') (w : (Jvm.Cond.stringLink D.y.cls ix text).before g.a0 g.Z = true) (wS : ∀ a ∈ Bundle.stringAtoms, a.before g.a0 g.Z = true)
    (hn : 4 * text.toList.length ≤ n) (hbig : n ≤ 536870912) (hc : cs + 2 = cs') (hs : ss + (n + 4) = ss') (hc' : cs' ≤ D.rm.cells) (hs' : ss' ≤ D.rm.slots)
    (K : ∀ T' a, RH g D M T' H Lt cs' ss' → Fn g D M Q (T'.setTop (mkF M.m pc' Ls (.ref a :: S)))) : Fn g D M Q (T.setTop (mkF M.m pc Ls S)) := by
  subst hp hc hs
  obtain ⟨st, vm0, k0, locs, X, hS, hk, hZ, hown, hC, N, E0, hH⟩ := B
  obtain ⟨a, T', h', k1, X', e', E, hS', hk', hZ', hown', hC', -, stp⟩ := ldcOH (Z := g.Z) (a0 := g.a0) (EL := g.EL) X st.2.1 hZ hown w wS rfl hS hk st.1.2.1 hC.1 (g := mkF M.m pc Ls S) rfl (hb st.2.2.1 hd) hn hbig hc' hs'
  subst e'
  exact (K T' a ⟨st, T'.vm, k1, locs, X', hS', hk', hZ', hown', hC.trans hC', N, ext_trans E0 E, hH.move hC' E⟩).go stp
theorem r_ldcI (B : RH g D M T H Lt cs ss) {ix : Nat} {v : Int32} (hd : decode D.cd pc = .ok (.ldc ix, 2)) (hp : pc + 2 = pc') (w : (Jvm.Cond.constant D.y.cls ix v).before g.a0 g.Z = true) (K : Fn g D M Q (T.setTop (mkF M.m pc' Ls (.int v :: S)))) : Fn g D M Q (T.setTop (mkF M.m pc Ls S)) := by
  subst hp
  obtain ⟨st, vm0, k0, locs, X, hS, hk, hZ, hown, hC, N, E0, hH⟩ := B
  exact K.go fun t => X.ldcI (g := mkF M.m pc Ls S) st.2.1 hown (mvT hZ w) rfl (hb st.2.2.1 hd)
theorem r_ldcwI (B : RH g D M T H Lt cs ss) {ix : Nat} {v : Int32} (hd : decode D.cd pc = .ok (.ldc_w ix, 3)) (hp : pc + 3 = pc') (w : (Jvm.Cond.constant D.y.cls ix v).before g.a0 g.Z = true) (K : Fn g D M Q (T.setTop (mkF M.m pc' Ls (.int v :: S)))) : Fn g D M Q (T.setTop (mkF M.m pc Ls S)) := by
  subst hp
  obtain ⟨st, vm0, k0, locs, X, hS, hk, hZ, hown, hC, N, E0, hH⟩ := B
  exact K.go fun t => X.ldcWI (g := mkF M.m pc Ls S) st.2.1 hown (mvT hZ w) rfl (hb st.2.2.1 hd)
theorem r_ldcJ (B : RH g D M T H Lt cs ss) {ix : Nat} {v : Int64} (hd : decode D.cd pc = .ok (.ldc2_w ix, 3)) (hp : pc + 3 = pc') (w : (Jvm.Cond.constantLong D.y.cls ix v).before g.a0 g.Z = true) (K : Fn g D M Q (T.setTop (mkF M.m pc' Ls (.long v :: S)))) : Fn g D M Q (T.setTop (mkF M.m pc Ls S)) := by
  subst hp
  obtain ⟨st, vm0, k0, locs, X, hS, hk, hZ, hown, hC, N, E0, hH⟩ := B
  exact K.go fun t => X.ldc2J (g := mkF M.m pc Ls S) st.2.1 hown (mvT hZ w) rfl (hb st.2.2.1 hd)
/-! casts -/
theorem r_cast (B : RH g D M T H Lt cs ss) {ix : Nat} {C : String} {a : Addr} (hd : decode D.cd pc = .ok (.checkcast ix, 3)) (hp : pc + 3 = pc') (w : (Jvm.Cond.classLink D.y.cls ix C).before g.a0 g.Z = true) (F : Al g H Lt fun h => Ins g.Z h a C true)
    (K : ∀ T', RH g D M T' H Lt cs ss → Fn g D M Q (T'.setTop (mkF M.m pc' Ls (.ref a :: S)))) : Fn g D M Q (T.setTop (mkF M.m pc Ls (.ref a :: S))) := by
  subst hp
  obtain ⟨st, vm0, k0, locs, X, hS, hk, hZ, hown, hC, N, E0, hH⟩ := B
  obtain ⟨T', X', e', stp⟩ := castY (Z := g.Z) (a0 := g.a0) X st.2.1 hZ hown w rfl (F _ _ E0 hH) (g := mkF M.m pc Ls (.ref a :: S)) rfl rfl (hb st.2.2.1 hd)
  exact (K T' ⟨st, vm0, k0, locs, X', hS, by rw [e']; exact hk, hZ, hown, by rw [e']; exact hC, N, by rw [e']; exact E0, by rw [e']; exact hH⟩).go stp
theorem r_inst1 (B : RH g D M T H Lt cs ss) {ix : Nat} {C : String} {a : Addr} (hd : decode D.cd pc = .ok (.instanceof ix, 3)) (hp : pc + 3 = pc') (w : (Jvm.Cond.classLink D.y.cls ix C).before g.a0 g.Z = true) (F : Al g H Lt fun h => Ins g.Z h a C true)
    (K : ∀ T', RH g D M T' H Lt cs ss → Fn g D M Q (T'.setTop (mkF M.m pc' Ls (.int 1 :: S)))) : Fn g D M Q (T.setTop (mkF M.m pc Ls (.ref a :: S))) := by
  subst hp
  obtain ⟨st, vm0, k0, locs, X, hS, hk, hZ, hown, hC, N, E0, hH⟩ := B
  obtain ⟨T', X', e', stp⟩ := instY (Z := g.Z) (a0 := g.a0) X st.2.1 hZ hown w rfl (F _ _ E0 hH) (g := mkF M.m pc Ls (.ref a :: S)) rfl rfl (hb st.2.2.1 hd)
  exact (K T' ⟨st, vm0, k0, locs, X', hS, by rw [e']; exact hk, hZ, hown, by rw [e']; exact hC, N, by rw [e']; exact E0, by rw [e']; exact hH⟩).go stp
theorem r_inst0 (B : RH g D M T H Lt cs ss) {ix : Nat} {C C1 : String} {a : Addr} (hd : decode D.cd pc = .ok (.instanceof ix, 3)) (hp : pc + 3 = pc') (w : (Jvm.Cond.classLink D.y.cls ix C).before g.a0 g.Z = true) (F : Al g H Lt fun h => Ins g.Z h a C false) (F1 : Al g H Lt fun h => Exa g.Z h a C1)
    (K : ∀ T', RH g D M T' H Lt cs ss → Fn g D M Q (T'.setTop (mkF M.m pc' Ls (.int 0 :: S)))) : Fn g D M Q (T.setTop (mkF M.m pc Ls (.ref a :: S))) := by
  subst hp
  obtain ⟨st, vm0, k0, locs, X, hS, hk, hZ, hown, hC, N, E0, hH⟩ := B
  obtain ⟨cell, cT, h1, h2, h3⟩ := F _ _ E0 hH
  obtain ⟨cell', k, e1, -, e3, e4, -⟩ := F1 _ _ E0 hH
  cases h1.symm.trans e1
  obtain ⟨k', q, -⟩ := hZ.alike.2.2 _ _ e3
  obtain ⟨vm', X', stp⟩ := Jvm.Sym.instanceofNoAt X st.2.1 hown (mvT hZ w) h1 e4 q (by show vm0.findClass C = some cT; rw [hZ.alike.findClass]; exact h2) (by show vm0.assignable cell.cls cT = false; rw [hZ.alike.assignable]; simpa [e4] using h3) (g := mkF M.m pc Ls (.ref a :: S)) rfl rfl (hb st.2.2.1 hd)
  exact (K _ ⟨st, vm0, k0, locs, X', hS, hk, hZ, hown, hC, N, E0, hH⟩).go stp
theorem r_castN (B : RH g D M T H Lt cs ss) {ix : Nat} (hd : decode D.cd pc = .ok (.checkcast ix, 3)) (hp : pc + 3 = pc') (K : Fn g D M Q (T.setTop (mkF M.m pc' Ls (.null :: S)))) : Fn g D M Q (T.setTop (mkF M.m pc Ls (.null :: S))) := by
  subst hp
  obtain ⟨st, vm0, k0, locs, X, hS, hk, hZ, hown, hC, N, E0, hH⟩ := B
  exact K.go fun t => X.checkcastNull st.2.1 (g := mkF M.m pc Ls (.null :: S)) rfl rfl (hb st.2.2.1 hd) t
theorem r_instN (B : RH g D M T H Lt cs ss) {ix : Nat} (hd : decode D.cd pc = .ok (.instanceof ix, 3)) (hp : pc + 3 = pc') (K : Fn g D M Q (T.setTop (mkF M.m pc' Ls (.int 0 :: S)))) : Fn g D M Q (T.setTop (mkF M.m pc Ls (.null :: S))) := by
  subst hp
  obtain ⟨st, vm0, k0, locs, X, hS, hk, hZ, hown, hC, N, E0, hH⟩ := B
  exact K.go fun t => X.instanceofNull st.2.1 (g := mkF M.m pc Ls (.null :: S)) rfl rfl (hb st.2.2.1 hd) t
end Rules
theorem nar_ref {t : FieldType} {v : Value} (h : v.isRef = true) (ht : t.isReference = true) : narrow t v = v := by cases t <;> first | (cases v <;> first | rfl | (cases h; done)) | (cases ht; done)
theorem fit_ref {t : FieldType} {v : Value} (h : v.isRef = true) (ht : t.isReference = true) : fits t v = true := by cases t <;> first | (cases v <;> first | rfl | (cases h; done)) | (cases ht; done)
theorem cat_ref {v : Value} (h : v.isRef = true) : v.category = 1 := Jvm.Free.XT.cat1 h
theorem ins_no {Z : State} {h : Heap} {a : Addr} {a0 : Array Value} {C S K : String} {n : Nat} (E : Exa Z h a C) (w : (Jvm.Cond.superclass C S).before a0 Z = true) (w0 : (Jvm.Cond.noSuperclass S).before a0 Z = true) (wi : (Jvm.Cond.instantiable K n).before a0 Z = true) (h1 : C ≠ K) (h2 : S ≠ K) : Ins Z h a K false := by
  obtain ⟨cell, k, e1, e2, e3, e4, -⟩ := E
  obtain ⟨t, kt, t1, t2, t3, t4, -⟩ := Cond.instantiable_spec wi
  obtain ⟨p, kc, kp, q1, q2, q3, q4, q5, q6, q7⟩ := Cond.superclass_spec e2 w
  obtain ⟨p', kp', r1, r2, r3, r4, r5⟩ := Cond.noSuperclass_spec w0
  cases q1.symm.trans r1
  have n1 := ids_ne e2 t1 h1
  have n2 := ids_ne r1 t1 h2
  have hi : kt.isInterface = false := (Bool.or_eq_false_iff.mp t4).1
  have hs0 : ∀ fuel, Z.vm.isSubclassAux fuel p t = false := fun fuel => by
    cases fuel with
    | zero => rfl
    | succ f => simp [Vm.isSubclassAux, n2, r2, r3]
  have hs : ∀ fuel, Z.vm.isSubclassAux fuel cell.cls t = false := fun fuel => by
    cases fuel with
    | zero => rfl
    | succ f => simp [Vm.isSubclassAux, n1, q2, q4, hs0]
  have hA : Z.vm.assignable cell.cls t = false := by
    show Z.vm.assignableAux (255 + 1) cell.cls t = false
    simp [Vm.assignableAux, n1, q2, t2, q5, t3, hi, Vm.isSubclass, hs]
  exact ⟨cell, t, e1, t1, by simp [hA]⟩
theorem tl1 {α : Type} {a : α} {l : List α} : ∀ y ∈ l, y ∈ a :: l := fun _ h => List.mem_cons_of_mem _ h
theorem tl2 {α : Type} {a b : α} {l : List α} : ∀ y ∈ l, y ∈ a :: b :: l := fun _ h => List.mem_cons_of_mem _ (tl1 _ h)
theorem tl3 {α : Type} {a b c : α} {l : List α} : ∀ y ∈ l, y ∈ a :: b :: c :: l := fun _ h => List.mem_cons_of_mem _ (tl2 _ h)
theorem tl4 {α : Type} {a b c d : α} {l : List α} : ∀ y ∈ l, y ∈ a :: b :: c :: d :: l := fun _ h => List.mem_cons_of_mem _ (tl3 _ h)
theorem tlm {α : Type} {a b : α} {l : List α} : ∀ y ∈ a :: l, y ∈ a :: b :: l := fun _ h => (List.mem_cons.mp h).elim (fun e => e ▸ List.mem_cons_self ..) fun h => List.mem_cons_of_mem _ (tl1 _ h)
theorem tlh {α : Type} {a : α} {l : List α} (m : a ∈ l) : ∀ y ∈ a :: l, y ∈ l := fun _ h => (List.mem_cons.mp h).elim (fun e => e ▸ m) id
theorem Hp.nil {g : GG} {vm : Vm} {h : Heap} : Hp g vm h [] [] := ⟨nofun, List.nodup_nil, nofun, nofun⟩

theorem W0 {g : GG} (W : GW g) : (Jvm.Cond.classLink "com/example/postings/postings/model/TopicEqualsPinLaw" (25 : Nat) "com/example/postings/postings/model/Topic").before g.a0 g.Z = true := W.1 _ (List.mem_of_getElem? (i := 0) rfl)
theorem W1 {g : GG} (W : GW g) : (Jvm.Cond.instantiable "com/example/postings/postings/model/Topic" (2 : Nat)).before g.a0 g.Z = true := W.1 _ (List.mem_of_getElem? (i := 1) rfl)
theorem W2 {g : GG} (W : GW g) : (Jvm.Cond.initialized "com/example/postings/postings/model/Topic").before g.a0 g.Z = true := W.1 _ (List.mem_of_getElem? (i := 2) rfl)
theorem W3 {g : GG} (W : GW g) : (Jvm.Cond.methodLink "com/example/postings/postings/model/TopicEqualsPinLaw" (27 : Nat) ({ cls := "com/example/postings/postings/model/TopicEqualsPinLaw", name := "str", desc := "(I)Ljava/lang/String;" } : Jvm.MethodName)).before g.a0 g.Z = true := W.1 _ (List.mem_of_getElem? (i := 3) rfl)
theorem W4 {g : GG} (W : GW g) : (Jvm.Cond.static ({ cls := "com/example/postings/postings/model/TopicEqualsPinLaw", name := "str", desc := "(I)Ljava/lang/String;" } : Jvm.MethodName)).before g.a0 g.Z = true := W.1 _ (List.mem_of_getElem? (i := 4) rfl)
theorem W5 {g : GG} (W : GW g) : (Jvm.Cond.initialized "com/example/postings/postings/model/TopicEqualsPinLaw").before g.a0 g.Z = true := W.1 _ (List.mem_of_getElem? (i := 5) rfl)
theorem W6 {g : GG} (W : GW g) : (Jvm.Cond.code ({ cls := "com/example/postings/postings/model/TopicEqualsPinLaw", name := "str", desc := "(I)Ljava/lang/String;" } : Jvm.MethodName) method_5_code (3 : Nat) (Option.some (Jvm.ClassFile.FieldType.object "java/lang/String"))).before g.a0 g.Z = true := W.1 _ (List.mem_of_getElem? (i := 6) rfl)
theorem W7 {g : GG} (W : GW g) : (Jvm.Cond.methodLink "com/example/postings/postings/model/TopicEqualsPinLaw" (7 : Nat) ({ cls := "com/example/postings/postings/model/TopicEqualsPinLaw", name := "len", desc := "(I)I" } : Jvm.MethodName)).before g.a0 g.Z = true := W.1 _ (List.mem_of_getElem? (i := 7) rfl)
theorem W8 {g : GG} (W : GW g) : (Jvm.Cond.static ({ cls := "com/example/postings/postings/model/TopicEqualsPinLaw", name := "len", desc := "(I)I" } : Jvm.MethodName)).before g.a0 g.Z = true := W.1 _ (List.mem_of_getElem? (i := 8) rfl)
theorem W9 {g : GG} (W : GW g) : (Jvm.Cond.code ({ cls := "com/example/postings/postings/model/TopicEqualsPinLaw", name := "len", desc := "(I)I" } : Jvm.MethodName) method_2_code (1 : Nat) (Option.some Jvm.ClassFile.FieldType.int)).before g.a0 g.Z = true := W.1 _ (List.mem_of_getElem? (i := 9) rfl)
theorem W10 {g : GG} (W : GW g) : (Jvm.Cond.classLink "com/example/postings/postings/model/TopicEqualsPinLaw" (13 : Nat) "java/lang/String").before g.a0 g.Z = true := W.1 _ (List.mem_of_getElem? (i := 10) rfl)
theorem W11 {g : GG} (W : GW g) : (Jvm.Cond.instantiable "java/lang/String" (4 : Nat)).before g.a0 g.Z = true := W.1 _ (List.mem_of_getElem? (i := 11) rfl)
theorem W12 {g : GG} (W : GW g) : (Jvm.Cond.initialized "java/lang/String").before g.a0 g.Z = true := W.1 _ (List.mem_of_getElem? (i := 12) rfl)
theorem W13 {g : GG} (W : GW g) : (Jvm.Cond.arrayClass Jvm.ClassFile.FieldType.char).before g.a0 g.Z = true := W.1 _ (List.mem_of_getElem? (i := 13) rfl)
theorem W14 {g : GG} (W : GW g) : (Jvm.Cond.methodLink "com/example/postings/postings/model/TopicEqualsPinLaw" (15 : Nat) ({ cls := "java/lang/String", name := "<init>", desc := "([C)V" } : Jvm.MethodName)).before g.a0 g.Z = true := W.1 _ (List.mem_of_getElem? (i := 14) rfl)
theorem W15 {g : GG} (W : GW g) : (Jvm.Cond.instanceMethod ({ cls := "java/lang/String", name := "<init>", desc := "([C)V" } : Jvm.MethodName)).before g.a0 g.Z = true := W.1 _ (List.mem_of_getElem? (i := 15) rfl)
theorem W16 {g : GG} (W : GW g) : (Jvm.Cond.code ({ cls := "java/lang/String", name := "<init>", desc := "([C)V" } : Jvm.MethodName) jdk_42_method_3_code (2 : Nat) (Option.none : Option Jvm.ClassFile.FieldType)).before g.a0 g.Z = true := W.1 _ (List.mem_of_getElem? (i := 16) rfl)
theorem W17 {g : GG} (W : GW g) : (Jvm.Cond.methodLink "java/lang/String" (27 : Nat) ({ cls := "java/lang/String", name := "<init>", desc := "([CIILjava/lang/Void;)V" } : Jvm.MethodName)).before g.a0 g.Z = true := W.1 _ (List.mem_of_getElem? (i := 17) rfl)
theorem W18 {g : GG} (W : GW g) : (Jvm.Cond.instanceMethod ({ cls := "java/lang/String", name := "<init>", desc := "([CIILjava/lang/Void;)V" } : Jvm.MethodName)).before g.a0 g.Z = true := W.1 _ (List.mem_of_getElem? (i := 18) rfl)
theorem W20 {g : GG} (W : GW g) : (Jvm.Cond.code ({ cls := "java/lang/String", name := "<init>", desc := "([CIILjava/lang/Void;)V" } : Jvm.MethodName) jdk_42_method_149_code (6 : Nat) (Option.none : Option Jvm.ClassFile.FieldType)).before g.a0 g.Z = true := W.1 _ (List.mem_of_getElem? (i := 20) rfl)
theorem W21 {g : GG} (W : GW g) : (Jvm.Cond.methodLink "java/lang/String" (1 : Nat) ({ cls := "java/lang/Object", name := "<init>", desc := "()V" } : Jvm.MethodName)).before g.a0 g.Z = true := W.1 _ (List.mem_of_getElem? (i := 21) rfl)
theorem W22 {g : GG} (W : GW g) : (Jvm.Cond.instanceMethod ({ cls := "java/lang/Object", name := "<init>", desc := "()V" } : Jvm.MethodName)).before g.a0 g.Z = true := W.1 _ (List.mem_of_getElem? (i := 22) rfl)
theorem W23 {g : GG} (W : GW g) : (Jvm.Cond.code ({ cls := "java/lang/Object", name := "<init>", desc := "()V" } : Jvm.MethodName) object_method_1_code (1 : Nat) (Option.none : Option Jvm.ClassFile.FieldType)).before g.a0 g.Z = true := W.1 _ (List.mem_of_getElem? (i := 23) rfl)
theorem W24 {g : GG} (W : GW g) : (Jvm.Cond.stringLink "java/lang/String" (7 : Nat) "").before g.a0 g.Z = true := W.1 _ (List.mem_of_getElem? (i := 24) rfl)
theorem W25 {g : GG} (W : GW g) : (Jvm.Cond.arrayClass Jvm.ClassFile.FieldType.byte).before g.a0 g.Z = true := W.1 _ (List.mem_of_getElem? (i := 25) rfl)
theorem W26 {g : GG} (W : GW g) : (Jvm.Cond.laysFinal "java/lang/String" "java/lang/String" "value" "[B").before g.a0 g.Z = true := W.1 _ (List.mem_of_getElem? (i := 26) rfl)
theorem W27 {g : GG} (W : GW g) : (Jvm.Cond.laysFinal "java/lang/String" "java/lang/String" "coder" "B").before g.a0 g.Z = true := W.1 _ (List.mem_of_getElem? (i := 27) rfl)
theorem W28 {g : GG} (W : GW g) : (Jvm.Cond.soleField "java/lang/String" "value").before g.a0 g.Z = true := W.1 _ (List.mem_of_getElem? (i := 28) rfl)
theorem W29 {g : GG} (W : GW g) : (Jvm.Cond.soleField "java/lang/String" "coder").before g.a0 g.Z = true := W.1 _ (List.mem_of_getElem? (i := 29) rfl)
theorem W30 {g : GG} (W : GW g) : (Jvm.Cond.fieldLink "java/lang/String" (9 : Nat) "java/lang/String" "value" "[B").before g.a0 g.Z = true := W.1 _ (List.mem_of_getElem? (i := 30) rfl)
theorem W31 {g : GG} (W : GW g) : (Jvm.Cond.fieldLink "java/lang/String" (15 : Nat) "java/lang/String" "coder" "B").before g.a0 g.Z = true := W.1 _ (List.mem_of_getElem? (i := 31) rfl)
theorem W32 {g : GG} (W : GW g) : (Jvm.Cond.methodLink "com/example/postings/postings/model/TopicEqualsPinLaw" (31 : Nat) ({ cls := "com/example/postings/postings/model/Topic", name := "<init>", desc := "(Ljava/lang/String;Ljava/lang/String;)V" } : Jvm.MethodName)).before g.a0 g.Z = true := W.1 _ (List.mem_of_getElem? (i := 32) rfl)
theorem W33 {g : GG} (W : GW g) : (Jvm.Cond.instanceMethod ({ cls := "com/example/postings/postings/model/Topic", name := "<init>", desc := "(Ljava/lang/String;Ljava/lang/String;)V" } : Jvm.MethodName)).before g.a0 g.Z = true := W.1 _ (List.mem_of_getElem? (i := 33) rfl)
theorem W34 {g : GG} (W : GW g) : (Jvm.Cond.code ({ cls := "com/example/postings/postings/model/Topic", name := "<init>", desc := "(Ljava/lang/String;Ljava/lang/String;)V" } : Jvm.MethodName) prog_43_method_1_code (3 : Nat) (Option.none : Option Jvm.ClassFile.FieldType)).before g.a0 g.Z = true := W.1 _ (List.mem_of_getElem? (i := 34) rfl)
theorem W35 {g : GG} (W : GW g) : (Jvm.Cond.methodLink "com/example/postings/postings/model/Topic" (1 : Nat) ({ cls := "java/lang/Object", name := "<init>", desc := "()V" } : Jvm.MethodName)).before g.a0 g.Z = true := W.1 _ (List.mem_of_getElem? (i := 35) rfl)
theorem W36 {g : GG} (W : GW g) : (Jvm.Cond.stringLink "com/example/postings/postings/model/Topic" (7 : Nat) "number").before g.a0 g.Z = true := W.1 _ (List.mem_of_getElem? (i := 36) rfl)
theorem W37 {g : GG} (W : GW g) : (Jvm.Cond.methodLink "com/example/postings/postings/model/Topic" (9 : Nat) ({ cls := "java/util/Objects", name := "requireNonNull", desc := "(Ljava/lang/Object;Ljava/lang/String;)Ljava/lang/Object;" } : Jvm.MethodName)).before g.a0 g.Z = true := W.1 _ (List.mem_of_getElem? (i := 37) rfl)
theorem W38 {g : GG} (W : GW g) : (Jvm.Cond.static ({ cls := "java/util/Objects", name := "requireNonNull", desc := "(Ljava/lang/Object;Ljava/lang/String;)Ljava/lang/Object;" } : Jvm.MethodName)).before g.a0 g.Z = true := W.1 _ (List.mem_of_getElem? (i := 38) rfl)
theorem W39 {g : GG} (W : GW g) : (Jvm.Cond.initialized "java/util/Objects").before g.a0 g.Z = true := W.1 _ (List.mem_of_getElem? (i := 39) rfl)
theorem W40 {g : GG} (W : GW g) : (Jvm.Cond.code ({ cls := "java/util/Objects", name := "requireNonNull", desc := "(Ljava/lang/Object;Ljava/lang/String;)Ljava/lang/Object;" } : Jvm.MethodName) jdk_31_method_11_code (2 : Nat) (Option.some (Jvm.ClassFile.FieldType.object "java/lang/Object"))).before g.a0 g.Z = true := W.1 _ (List.mem_of_getElem? (i := 40) rfl)
theorem W41 {g : GG} (W : GW g) : (Jvm.Cond.classLink "com/example/postings/postings/model/Topic" (15 : Nat) "java/lang/String").before g.a0 g.Z = true := W.1 _ (List.mem_of_getElem? (i := 41) rfl)
theorem W42 {g : GG} (W : GW g) : (Jvm.Cond.fieldLink "com/example/postings/postings/model/Topic" (17 : Nat) "com/example/postings/postings/model/Topic" "number" "Ljava/lang/String;").before g.a0 g.Z = true := W.1 _ (List.mem_of_getElem? (i := 42) rfl)
theorem W43 {g : GG} (W : GW g) : (Jvm.Cond.laysFinal "com/example/postings/postings/model/Topic" "com/example/postings/postings/model/Topic" "number" "Ljava/lang/String;").before g.a0 g.Z = true := W.1 _ (List.mem_of_getElem? (i := 43) rfl)
theorem W44 {g : GG} (W : GW g) : (Jvm.Cond.stringLink "com/example/postings/postings/model/Topic" (22 : Nat) "title").before g.a0 g.Z = true := W.1 _ (List.mem_of_getElem? (i := 44) rfl)
theorem W45 {g : GG} (W : GW g) : (Jvm.Cond.fieldLink "com/example/postings/postings/model/Topic" (24 : Nat) "com/example/postings/postings/model/Topic" "title" "Ljava/lang/String;").before g.a0 g.Z = true := W.1 _ (List.mem_of_getElem? (i := 45) rfl)
theorem W46 {g : GG} (W : GW g) : (Jvm.Cond.laysFinal "com/example/postings/postings/model/Topic" "com/example/postings/postings/model/Topic" "title" "Ljava/lang/String;").before g.a0 g.Z = true := W.1 _ (List.mem_of_getElem? (i := 46) rfl)
theorem W47 {g : GG} (W : GW g) : (Jvm.Cond.methodLink "com/example/postings/postings/model/TopicEqualsPinLaw" (34 : Nat) ({ cls := "com/example/postings/postings/model/TopicEqualsPinLaw", name := "same", desc := "(II)Z" } : Jvm.MethodName)).before g.a0 g.Z = true := W.1 _ (List.mem_of_getElem? (i := 47) rfl)
theorem W48 {g : GG} (W : GW g) : (Jvm.Cond.static ({ cls := "com/example/postings/postings/model/TopicEqualsPinLaw", name := "same", desc := "(II)Z" } : Jvm.MethodName)).before g.a0 g.Z = true := W.1 _ (List.mem_of_getElem? (i := 48) rfl)
theorem W49 {g : GG} (W : GW g) : (Jvm.Cond.code ({ cls := "com/example/postings/postings/model/TopicEqualsPinLaw", name := "same", desc := "(II)Z" } : Jvm.MethodName) method_6_code (3 : Nat) (Option.some Jvm.ClassFile.FieldType.boolean)).before g.a0 g.Z = true := W.1 _ (List.mem_of_getElem? (i := 49) rfl)
theorem W50 {g : GG} (W : GW g) : (Jvm.Cond.methodLink "com/example/postings/postings/model/TopicEqualsPinLaw" (38 : Nat) ({ cls := "com/example/postings/postings/model/Topic", name := "equals", desc := "(Ljava/lang/Object;)Z" } : Jvm.MethodName)).before g.a0 g.Z = true := W.1 _ (List.mem_of_getElem? (i := 50) rfl)
theorem W51 {g : GG} (W : GW g) : (Jvm.Cond.declares ({ cls := "com/example/postings/postings/model/Topic", name := "equals", desc := "(Ljava/lang/Object;)Z" } : Jvm.MethodName)).before g.a0 g.Z = true := W.1 _ (List.mem_of_getElem? (i := 51) rfl)
theorem W52 {g : GG} (W : GW g) : (Jvm.Cond.instanceMethod ({ cls := "com/example/postings/postings/model/Topic", name := "equals", desc := "(Ljava/lang/Object;)Z" } : Jvm.MethodName)).before g.a0 g.Z = true := W.1 _ (List.mem_of_getElem? (i := 52) rfl)
theorem W53 {g : GG} (W : GW g) : (Jvm.Cond.selects "com/example/postings/postings/model/Topic" ({ cls := "com/example/postings/postings/model/Topic", name := "equals", desc := "(Ljava/lang/Object;)Z" } : Jvm.MethodName) ({ cls := "com/example/postings/postings/model/Topic", name := "equals", desc := "(Ljava/lang/Object;)Z" } : Jvm.MethodName)).before g.a0 g.Z = true := W.1 _ (List.mem_of_getElem? (i := 53) rfl)
theorem W54 {g : GG} (W : GW g) : (Jvm.Cond.code ({ cls := "com/example/postings/postings/model/Topic", name := "equals", desc := "(Ljava/lang/Object;)Z" } : Jvm.MethodName) prog_43_method_4_code (2 : Nat) (Option.some Jvm.ClassFile.FieldType.boolean)).before g.a0 g.Z = true := W.1 _ (List.mem_of_getElem? (i := 54) rfl)
theorem W55 {g : GG} (W : GW g) : (Jvm.Cond.classLink "com/example/postings/postings/model/Topic" (18 : Nat) "com/example/postings/postings/model/Topic").before g.a0 g.Z = true := W.1 _ (List.mem_of_getElem? (i := 55) rfl)
theorem W57 {g : GG} (W : GW g) : (Jvm.Cond.methodLink "com/example/postings/postings/model/Topic" (26 : Nat) ({ cls := "java/lang/String", name := "equals", desc := "(Ljava/lang/Object;)Z" } : Jvm.MethodName)).before g.a0 g.Z = true := W.1 _ (List.mem_of_getElem? (i := 57) rfl)
theorem W58 {g : GG} (W : GW g) : (Jvm.Cond.declares ({ cls := "java/lang/String", name := "equals", desc := "(Ljava/lang/Object;)Z" } : Jvm.MethodName)).before g.a0 g.Z = true := W.1 _ (List.mem_of_getElem? (i := 58) rfl)
theorem W59 {g : GG} (W : GW g) : (Jvm.Cond.instanceMethod ({ cls := "java/lang/String", name := "equals", desc := "(Ljava/lang/Object;)Z" } : Jvm.MethodName)).before g.a0 g.Z = true := W.1 _ (List.mem_of_getElem? (i := 59) rfl)
theorem W60 {g : GG} (W : GW g) : (Jvm.Cond.selects "java/lang/String" ({ cls := "java/lang/String", name := "equals", desc := "(Ljava/lang/Object;)Z" } : Jvm.MethodName) ({ cls := "java/lang/String", name := "equals", desc := "(Ljava/lang/Object;)Z" } : Jvm.MethodName)).before g.a0 g.Z = true := W.1 _ (List.mem_of_getElem? (i := 60) rfl)
theorem W61 {g : GG} (W : GW g) : (Jvm.Cond.code ({ cls := "java/lang/String", name := "equals", desc := "(Ljava/lang/Object;)Z" } : Jvm.MethodName) jdk_42_method_66_code (3 : Nat) (Option.some Jvm.ClassFile.FieldType.boolean)).before g.a0 g.Z = true := W.1 _ (List.mem_of_getElem? (i := 61) rfl)
theorem W62 {g : GG} (W : GW g) : (Jvm.Cond.classLink "java/lang/String" (10 : Nat) "java/lang/String").before g.a0 g.Z = true := W.1 _ (List.mem_of_getElem? (i := 62) rfl)
theorem W63 {g : GG} (W : GW g) : (Jvm.Cond.fieldLink "java/lang/String" (38 : Nat) "java/lang/String" "COMPACT_STRINGS" "Z").before g.a0 g.Z = true := W.1 _ (List.mem_of_getElem? (i := 63) rfl)
theorem W64 {g : GG} (W : GW g) : (Jvm.Cond.methodLink "java/lang/String" (541 : Nat) ({ cls := "java/lang/StringLatin1", name := "equals", desc := "([B[B)Z" } : Jvm.MethodName)).before g.a0 g.Z = true := W.1 _ (List.mem_of_getElem? (i := 64) rfl)
theorem W65 {g : GG} (W : GW g) : (Jvm.Cond.static ({ cls := "java/lang/StringLatin1", name := "equals", desc := "([B[B)Z" } : Jvm.MethodName)).before g.a0 g.Z = true := W.1 _ (List.mem_of_getElem? (i := 65) rfl)
theorem W66 {g : GG} (W : GW g) : (Jvm.Cond.initialized "java/lang/StringLatin1").before g.a0 g.Z = true := W.1 _ (List.mem_of_getElem? (i := 66) rfl)
theorem W67 {g : GG} (W : GW g) : (Jvm.Cond.code ({ cls := "java/lang/StringLatin1", name := "equals", desc := "([B[B)Z" } : Jvm.MethodName) jdk_43_method_13_code (3 : Nat) (Option.some Jvm.ClassFile.FieldType.boolean)).before g.a0 g.Z = true := W.1 _ (List.mem_of_getElem? (i := 67) rfl)
theorem W68 {g : GG} (W : GW g) : (Jvm.Cond.superclass "java/lang/String" "java/lang/Object").before g.a0 g.Z = true := W.1 _ (List.mem_of_getElem? (i := 68) rfl)
theorem W69 {g : GG} (W : GW g) : (Jvm.Cond.noSuperclass "java/lang/Object").before g.a0 g.Z = true := W.1 _ (List.mem_of_getElem? (i := 69) rfl)
theorem W70 {g : GG} (W : GW g) : (Jvm.Cond.methodLink "com/example/postings/postings/model/TopicEqualsPinLaw" (18 : Nat) ({ cls := "com/example/postings/postings/model/TopicEqualsPinLaw", name := "c0", desc := "(I)C" } : Jvm.MethodName)).before g.a0 g.Z = true := W.1 _ (List.mem_of_getElem? (i := 70) rfl)
theorem W71 {g : GG} (W : GW g) : (Jvm.Cond.static ({ cls := "com/example/postings/postings/model/TopicEqualsPinLaw", name := "c0", desc := "(I)C" } : Jvm.MethodName)).before g.a0 g.Z = true := W.1 _ (List.mem_of_getElem? (i := 71) rfl)
theorem W72 {g : GG} (W : GW g) : (Jvm.Cond.code ({ cls := "com/example/postings/postings/model/TopicEqualsPinLaw", name := "c0", desc := "(I)C" } : Jvm.MethodName) method_3_code (1 : Nat) (Option.some Jvm.ClassFile.FieldType.char)).before g.a0 g.Z = true := W.1 _ (List.mem_of_getElem? (i := 72) rfl)
theorem W73 {g : GG} (W : GW g) : (Jvm.Cond.methodLink "com/example/postings/postings/model/TopicEqualsPinLaw" (22 : Nat) ({ cls := "com/example/postings/postings/model/TopicEqualsPinLaw", name := "c1", desc := "(I)C" } : Jvm.MethodName)).before g.a0 g.Z = true := W.1 _ (List.mem_of_getElem? (i := 73) rfl)
theorem W74 {g : GG} (W : GW g) : (Jvm.Cond.static ({ cls := "com/example/postings/postings/model/TopicEqualsPinLaw", name := "c1", desc := "(I)C" } : Jvm.MethodName)).before g.a0 g.Z = true := W.1 _ (List.mem_of_getElem? (i := 74) rfl)
theorem W75 {g : GG} (W : GW g) : (Jvm.Cond.code ({ cls := "com/example/postings/postings/model/TopicEqualsPinLaw", name := "c1", desc := "(I)C" } : Jvm.MethodName) method_4_code (1 : Nat) (Option.some Jvm.ClassFile.FieldType.char)).before g.a0 g.Z = true := W.1 _ (List.mem_of_getElem? (i := 75) rfl)
theorem W76 {g : GG} (W : GW g) : (Jvm.Cond.methodLink "java/lang/String" (177 : Nat) ({ cls := "java/lang/StringUTF16", name := "compress", desc := "([CII)[B" } : Jvm.MethodName)).before g.a0 g.Z = true := W.1 _ (List.mem_of_getElem? (i := 76) rfl)
theorem W77 {g : GG} (W : GW g) : (Jvm.Cond.static ({ cls := "java/lang/StringUTF16", name := "compress", desc := "([CII)[B" } : Jvm.MethodName)).before g.a0 g.Z = true := W.1 _ (List.mem_of_getElem? (i := 77) rfl)
theorem W78 {g : GG} (W : GW g) : (Jvm.Cond.initialized "java/lang/StringUTF16").before g.a0 g.Z = true := W.1 _ (List.mem_of_getElem? (i := 78) rfl)
theorem W79 {g : GG} (W : GW g) : (Jvm.Cond.code ({ cls := "java/lang/StringUTF16", name := "compress", desc := "([CII)[B" } : Jvm.MethodName) jdk_52_method_16_code (6 : Nat) (Option.some (Jvm.ClassFile.FieldType.array Jvm.ClassFile.FieldType.byte))).before g.a0 g.Z = true := W.1 _ (List.mem_of_getElem? (i := 79) rfl)
theorem W80 {g : GG} (W : GW g) : (Jvm.Cond.methodLink "java/lang/StringUTF16" (115 : Nat) ({ cls := "java/lang/StringUTF16", name := "compress", desc := "([CI[BII)I" } : Jvm.MethodName)).before g.a0 g.Z = true := W.1 _ (List.mem_of_getElem? (i := 80) rfl)
theorem W81 {g : GG} (W : GW g) : (Jvm.Cond.static ({ cls := "java/lang/StringUTF16", name := "compress", desc := "([CI[BII)I" } : Jvm.MethodName)).before g.a0 g.Z = true := W.1 _ (List.mem_of_getElem? (i := 81) rfl)
theorem W82 {g : GG} (W : GW g) : (Jvm.Cond.code ({ cls := "java/lang/StringUTF16", name := "compress", desc := "([CI[BII)I" } : Jvm.MethodName) jdk_52_method_21_code (7 : Nat) (Option.some Jvm.ClassFile.FieldType.int)).before g.a0 g.Z = true := W.1 _ (List.mem_of_getElem? (i := 82) rfl)
theorem W83 {g : GG} (W : GW g) : (Jvm.Cond.methodLink "java/lang/String" (47 : Nat) ({ cls := "java/lang/StringUTF16", name := "coderFromArrayLen", desc := "([BI)B" } : Jvm.MethodName)).before g.a0 g.Z = true := W.1 _ (List.mem_of_getElem? (i := 83) rfl)
theorem W84 {g : GG} (W : GW g) : (Jvm.Cond.static ({ cls := "java/lang/StringUTF16", name := "coderFromArrayLen", desc := "([BI)B" } : Jvm.MethodName)).before g.a0 g.Z = true := W.1 _ (List.mem_of_getElem? (i := 84) rfl)
theorem W85 {g : GG} (W : GW g) : (Jvm.Cond.code ({ cls := "java/lang/StringUTF16", name := "coderFromArrayLen", desc := "([BI)B" } : Jvm.MethodName) jdk_52_method_15_code (2 : Nat) (Option.some Jvm.ClassFile.FieldType.byte)).before g.a0 g.Z = true := W.1 _ (List.mem_of_getElem? (i := 85) rfl)
theorem d1_0 : decode method_5_code 0 = .ok (.iload_n 0, 1) := by decide +kernel
theorem d1_1 : decode method_5_code 1 = .ok (.invokestatic 7, 3) := by decide +kernel
theorem d1_4 : decode method_5_code 4 = .ok (.istore_n 1, 1) := by decide +kernel
theorem d1_5 : decode method_5_code 5 = .ok (.iload_n 1, 1) := by decide +kernel
theorem d1_6 : decode method_5_code 6 = .ok (.ifCond .ne 14, 3) := by decide +kernel
theorem d1_9 : decode method_5_code 9 = .ok (.new 13, 3) := by decide +kernel
theorem d1_12 : decode method_5_code 12 = .ok (.dup, 1) := by decide +kernel
theorem d1_13 : decode method_5_code 13 = .ok (.iconst 0, 1) := by decide +kernel
theorem d1_14 : decode method_5_code 14 = .ok (.newarray .char, 2) := by decide +kernel
theorem d1_16 : decode method_5_code 16 = .ok (.invokespecial 15, 3) := by decide +kernel
theorem d1_19 : decode method_5_code 19 = .ok (.areturn, 1) := by decide +kernel
theorem d1_20 : decode method_5_code 20 = .ok (.iload_n 1, 1) := by decide +kernel
theorem d1_21 : decode method_5_code 21 = .ok (.iconst 1, 1) := by decide +kernel
theorem d1_22 : decode method_5_code 22 = .ok (.if_icmp .ne 23, 3) := by decide +kernel
theorem d1_25 : decode method_5_code 25 = .ok (.iconst 1, 1) := by decide +kernel
theorem d1_26 : decode method_5_code 26 = .ok (.newarray .char, 2) := by decide +kernel
theorem d1_28 : decode method_5_code 28 = .ok (.astore_n 2, 1) := by decide +kernel
theorem d1_29 : decode method_5_code 29 = .ok (.aload_n 2, 1) := by decide +kernel
theorem d1_30 : decode method_5_code 30 = .ok (.iconst 0, 1) := by decide +kernel
theorem d1_31 : decode method_5_code 31 = .ok (.iload_n 0, 1) := by decide +kernel
theorem d1_32 : decode method_5_code 32 = .ok (.invokestatic 18, 3) := by decide +kernel
theorem d1_35 : decode method_5_code 35 = .ok (.castore, 1) := by decide +kernel
theorem d1_36 : decode method_5_code 36 = .ok (.new 13, 3) := by decide +kernel
theorem d1_39 : decode method_5_code 39 = .ok (.dup, 1) := by decide +kernel
theorem d1_40 : decode method_5_code 40 = .ok (.aload_n 2, 1) := by decide +kernel
theorem d1_41 : decode method_5_code 41 = .ok (.invokespecial 15, 3) := by decide +kernel
theorem d1_44 : decode method_5_code 44 = .ok (.areturn, 1) := by decide +kernel
theorem d1_45 : decode method_5_code 45 = .ok (.iconst 2, 1) := by decide +kernel
theorem d1_46 : decode method_5_code 46 = .ok (.newarray .char, 2) := by decide +kernel
theorem d1_48 : decode method_5_code 48 = .ok (.astore_n 2, 1) := by decide +kernel
theorem d1_49 : decode method_5_code 49 = .ok (.aload_n 2, 1) := by decide +kernel
theorem d1_50 : decode method_5_code 50 = .ok (.iconst 0, 1) := by decide +kernel
theorem d1_51 : decode method_5_code 51 = .ok (.iload_n 0, 1) := by decide +kernel
theorem d1_52 : decode method_5_code 52 = .ok (.invokestatic 18, 3) := by decide +kernel
theorem d1_55 : decode method_5_code 55 = .ok (.castore, 1) := by decide +kernel
theorem d1_56 : decode method_5_code 56 = .ok (.aload_n 2, 1) := by decide +kernel
theorem d1_57 : decode method_5_code 57 = .ok (.iconst 1, 1) := by decide +kernel
theorem d1_58 : decode method_5_code 58 = .ok (.iload_n 0, 1) := by decide +kernel
theorem d1_59 : decode method_5_code 59 = .ok (.invokestatic 22, 3) := by decide +kernel
theorem d1_62 : decode method_5_code 62 = .ok (.castore, 1) := by decide +kernel
theorem d1_63 : decode method_5_code 63 = .ok (.new 13, 3) := by decide +kernel
theorem d1_66 : decode method_5_code 66 = .ok (.dup, 1) := by decide +kernel
theorem d1_67 : decode method_5_code 67 = .ok (.aload_n 2, 1) := by decide +kernel
theorem d1_68 : decode method_5_code 68 = .ok (.invokespecial 15, 3) := by decide +kernel
theorem d1_71 : decode method_5_code 71 = .ok (.areturn, 1) := by decide +kernel
theorem d2_0 : decode method_2_code 0 = .ok (.iload_n 0, 1) := by decide +kernel
theorem d2_1 : decode method_2_code 1 = .ok (.bipush 16, 2) := by decide +kernel
theorem d2_3 : decode method_2_code 3 = .ok (.iushr, 1) := by decide +kernel
theorem d2_4 : decode method_2_code 4 = .ok (.iconst 3, 1) := by decide +kernel
theorem d2_5 : decode method_2_code 5 = .ok (.iand, 1) := by decide +kernel
theorem d2_6 : decode method_2_code 6 = .ok (.iconst 3, 1) := by decide +kernel
theorem d2_7 : decode method_2_code 7 = .ok (.irem, 1) := by decide +kernel
theorem d2_8 : decode method_2_code 8 = .ok (.ireturn, 1) := by decide +kernel
theorem d3_0 : decode jdk_42_method_3_code 0 = .ok (.aload_n 0, 1) := by decide +kernel
theorem d3_1 : decode jdk_42_method_3_code 1 = .ok (.aload_n 1, 1) := by decide +kernel
theorem d3_2 : decode jdk_42_method_3_code 2 = .ok (.iconst 0, 1) := by decide +kernel
theorem d3_3 : decode jdk_42_method_3_code 3 = .ok (.aload_n 1, 1) := by decide +kernel
theorem d3_4 : decode jdk_42_method_3_code 4 = .ok (.arraylength, 1) := by decide +kernel
theorem d3_5 : decode jdk_42_method_3_code 5 = .ok (.aconst_null, 1) := by decide +kernel
theorem d3_6 : decode jdk_42_method_3_code 6 = .ok (.invokespecial 27, 3) := by decide +kernel
theorem d3_9 : decode jdk_42_method_3_code 9 = .ok (.return_, 1) := by decide +kernel
theorem d4_0 : decode jdk_42_method_149_code 0 = .ok (.aload_n 0, 1) := by decide +kernel
theorem d4_1 : decode jdk_42_method_149_code 1 = .ok (.invokespecial 1, 3) := by decide +kernel
theorem d4_4 : decode jdk_42_method_149_code 4 = .ok (.iload_n 3, 1) := by decide +kernel
theorem d4_5 : decode jdk_42_method_149_code 5 = .ok (.ifCond .ne 22, 3) := by decide +kernel
theorem d4_8 : decode jdk_42_method_149_code 8 = .ok (.aload_n 0, 1) := by decide +kernel
theorem d4_9 : decode jdk_42_method_149_code 9 = .ok (.ldc 7, 2) := by decide +kernel
theorem d4_11 : decode jdk_42_method_149_code 11 = .ok (.getfield 9, 3) := by decide +kernel
theorem d4_14 : decode jdk_42_method_149_code 14 = .ok (.putfield 9, 3) := by decide +kernel
theorem d4_17 : decode jdk_42_method_149_code 17 = .ok (.aload_n 0, 1) := by decide +kernel
theorem d4_18 : decode jdk_42_method_149_code 18 = .ok (.ldc 7, 2) := by decide +kernel
theorem d4_20 : decode jdk_42_method_149_code 20 = .ok (.getfield 15, 3) := by decide +kernel
theorem d4_23 : decode jdk_42_method_149_code 23 = .ok (.putfield 15, 3) := by decide +kernel
theorem d4_26 : decode jdk_42_method_149_code 26 = .ok (.return_, 1) := by decide +kernel
theorem d4_27 : decode jdk_42_method_149_code 27 = .ok (.getstatic 38, 3) := by decide +kernel
theorem d4_30 : decode jdk_42_method_149_code 30 = .ok (.ifCond .eq 28, 3) := by decide +kernel
theorem d4_33 : decode jdk_42_method_149_code 33 = .ok (.aload_n 1, 1) := by decide +kernel
theorem d4_34 : decode jdk_42_method_149_code 34 = .ok (.iload_n 2, 1) := by decide +kernel
theorem d4_35 : decode jdk_42_method_149_code 35 = .ok (.iload_n 3, 1) := by decide +kernel
theorem d4_36 : decode jdk_42_method_149_code 36 = .ok (.invokestatic 177, 3) := by decide +kernel
theorem d4_39 : decode jdk_42_method_149_code 39 = .ok (.astore 5, 2) := by decide +kernel
theorem d4_41 : decode jdk_42_method_149_code 41 = .ok (.aload_n 0, 1) := by decide +kernel
theorem d4_42 : decode jdk_42_method_149_code 42 = .ok (.aload 5, 2) := by decide +kernel
theorem d4_44 : decode jdk_42_method_149_code 44 = .ok (.iload_n 3, 1) := by decide +kernel
theorem d4_45 : decode jdk_42_method_149_code 45 = .ok (.invokestatic 47, 3) := by decide +kernel
theorem d4_48 : decode jdk_42_method_149_code 48 = .ok (.putfield 15, 3) := by decide +kernel
theorem d4_51 : decode jdk_42_method_149_code 51 = .ok (.aload_n 0, 1) := by decide +kernel
theorem d4_52 : decode jdk_42_method_149_code 52 = .ok (.aload 5, 2) := by decide +kernel
theorem d4_54 : decode jdk_42_method_149_code 54 = .ok (.putfield 9, 3) := by decide +kernel
theorem d4_57 : decode jdk_42_method_149_code 57 = .ok (.return_, 1) := by decide +kernel
theorem d6_0 : decode prog_43_method_1_code 0 = .ok (.aload_n 0, 1) := by decide +kernel
theorem d6_1 : decode prog_43_method_1_code 1 = .ok (.invokespecial 1, 3) := by decide +kernel
theorem d6_4 : decode prog_43_method_1_code 4 = .ok (.aload_n 0, 1) := by decide +kernel
theorem d6_5 : decode prog_43_method_1_code 5 = .ok (.aload_n 1, 1) := by decide +kernel
theorem d6_6 : decode prog_43_method_1_code 6 = .ok (.ldc 7, 2) := by decide +kernel
theorem d6_8 : decode prog_43_method_1_code 8 = .ok (.invokestatic 9, 3) := by decide +kernel
theorem d6_11 : decode prog_43_method_1_code 11 = .ok (.checkcast 15, 3) := by decide +kernel
theorem d6_14 : decode prog_43_method_1_code 14 = .ok (.putfield 17, 3) := by decide +kernel
theorem d6_17 : decode prog_43_method_1_code 17 = .ok (.aload_n 0, 1) := by decide +kernel
theorem d6_18 : decode prog_43_method_1_code 18 = .ok (.aload_n 2, 1) := by decide +kernel
theorem d6_19 : decode prog_43_method_1_code 19 = .ok (.ldc 22, 2) := by decide +kernel
theorem d6_21 : decode prog_43_method_1_code 21 = .ok (.invokestatic 9, 3) := by decide +kernel
theorem d6_24 : decode prog_43_method_1_code 24 = .ok (.checkcast 15, 3) := by decide +kernel
theorem d6_27 : decode prog_43_method_1_code 27 = .ok (.putfield 24, 3) := by decide +kernel
theorem d6_30 : decode prog_43_method_1_code 30 = .ok (.return_, 1) := by decide +kernel
theorem d7_0 : decode jdk_31_method_11_code 0 = .ok (.aload_n 0, 1) := by decide +kernel
theorem d7_1 : decode jdk_31_method_11_code 1 = .ok (.ifnonnull 12, 3) := by decide +kernel
theorem d7_13 : decode jdk_31_method_11_code 13 = .ok (.aload_n 0, 1) := by decide +kernel
theorem d7_14 : decode jdk_31_method_11_code 14 = .ok (.areturn, 1) := by decide +kernel
theorem d8_0 : decode method_6_code 0 = .ok (.iload_n 0, 1) := by decide +kernel
theorem d8_1 : decode method_6_code 1 = .ok (.invokestatic 7, 3) := by decide +kernel
theorem d8_4 : decode method_6_code 4 = .ok (.istore_n 2, 1) := by decide +kernel
theorem d8_5 : decode method_6_code 5 = .ok (.iload_n 2, 1) := by decide +kernel
theorem d8_6 : decode method_6_code 6 = .ok (.iload_n 1, 1) := by decide +kernel
theorem d8_7 : decode method_6_code 7 = .ok (.invokestatic 7, 3) := by decide +kernel
theorem d8_10 : decode method_6_code 10 = .ok (.if_icmp .eq 5, 3) := by decide +kernel
theorem d8_13 : decode method_6_code 13 = .ok (.iconst 0, 1) := by decide +kernel
theorem d8_14 : decode method_6_code 14 = .ok (.ireturn, 1) := by decide +kernel
theorem d8_15 : decode method_6_code 15 = .ok (.iload_n 2, 1) := by decide +kernel
theorem d8_16 : decode method_6_code 16 = .ok (.iconst 1, 1) := by decide +kernel
theorem d8_17 : decode method_6_code 17 = .ok (.if_icmp .lt 16, 3) := by decide +kernel
theorem d8_20 : decode method_6_code 20 = .ok (.iload_n 0, 1) := by decide +kernel
theorem d8_21 : decode method_6_code 21 = .ok (.invokestatic 18, 3) := by decide +kernel
theorem d8_24 : decode method_6_code 24 = .ok (.iload_n 1, 1) := by decide +kernel
theorem d8_25 : decode method_6_code 25 = .ok (.invokestatic 18, 3) := by decide +kernel
theorem d8_28 : decode method_6_code 28 = .ok (.if_icmp .eq 5, 3) := by decide +kernel
theorem d8_31 : decode method_6_code 31 = .ok (.iconst 0, 1) := by decide +kernel
theorem d8_32 : decode method_6_code 32 = .ok (.ireturn, 1) := by decide +kernel
theorem d8_33 : decode method_6_code 33 = .ok (.iload_n 2, 1) := by decide +kernel
theorem d8_34 : decode method_6_code 34 = .ok (.iconst 2, 1) := by decide +kernel
theorem d8_35 : decode method_6_code 35 = .ok (.if_icmp .lt 16, 3) := by decide +kernel
theorem d8_38 : decode method_6_code 38 = .ok (.iload_n 0, 1) := by decide +kernel
theorem d8_39 : decode method_6_code 39 = .ok (.invokestatic 22, 3) := by decide +kernel
theorem d8_42 : decode method_6_code 42 = .ok (.iload_n 1, 1) := by decide +kernel
theorem d8_43 : decode method_6_code 43 = .ok (.invokestatic 22, 3) := by decide +kernel
theorem d8_46 : decode method_6_code 46 = .ok (.if_icmp .eq 5, 3) := by decide +kernel
theorem d8_49 : decode method_6_code 49 = .ok (.iconst 0, 1) := by decide +kernel
theorem d8_50 : decode method_6_code 50 = .ok (.ireturn, 1) := by decide +kernel
theorem d8_51 : decode method_6_code 51 = .ok (.iconst 1, 1) := by decide +kernel
theorem d8_52 : decode method_6_code 52 = .ok (.ireturn, 1) := by decide +kernel
theorem d9_0 : decode prog_43_method_4_code 0 = .ok (.aload_n 1, 1) := by decide +kernel
theorem d9_1 : decode prog_43_method_4_code 1 = .ok (.instanceof 18, 3) := by decide +kernel
theorem d9_4 : decode prog_43_method_4_code 4 = .ok (.ifCond .eq 41, 3) := by decide +kernel
theorem d9_7 : decode prog_43_method_4_code 7 = .ok (.aload_n 0, 1) := by decide +kernel
theorem d9_8 : decode prog_43_method_4_code 8 = .ok (.getfield 17, 3) := by decide +kernel
theorem d9_11 : decode prog_43_method_4_code 11 = .ok (.aload_n 1, 1) := by decide +kernel
theorem d9_12 : decode prog_43_method_4_code 12 = .ok (.checkcast 18, 3) := by decide +kernel
theorem d9_15 : decode prog_43_method_4_code 15 = .ok (.getfield 17, 3) := by decide +kernel
theorem d9_18 : decode prog_43_method_4_code 18 = .ok (.invokevirtual 26, 3) := by decide +kernel
theorem d9_21 : decode prog_43_method_4_code 21 = .ok (.ifCond .eq 24, 3) := by decide +kernel
theorem d9_24 : decode prog_43_method_4_code 24 = .ok (.aload_n 0, 1) := by decide +kernel
theorem d9_25 : decode prog_43_method_4_code 25 = .ok (.getfield 24, 3) := by decide +kernel
theorem d9_28 : decode prog_43_method_4_code 28 = .ok (.aload_n 1, 1) := by decide +kernel
theorem d9_29 : decode prog_43_method_4_code 29 = .ok (.checkcast 18, 3) := by decide +kernel
theorem d9_32 : decode prog_43_method_4_code 32 = .ok (.getfield 24, 3) := by decide +kernel
theorem d9_35 : decode prog_43_method_4_code 35 = .ok (.invokevirtual 26, 3) := by decide +kernel
theorem d9_38 : decode prog_43_method_4_code 38 = .ok (.ifCond .eq 7, 3) := by decide +kernel
theorem d9_41 : decode prog_43_method_4_code 41 = .ok (.iconst 1, 1) := by decide +kernel
theorem d9_42 : decode prog_43_method_4_code 42 = .ok (.goto 4, 3) := by decide +kernel
theorem d9_45 : decode prog_43_method_4_code 45 = .ok (.iconst 0, 1) := by decide +kernel
theorem d9_46 : decode prog_43_method_4_code 46 = .ok (.ireturn, 1) := by decide +kernel
theorem d10_0 : decode jdk_42_method_66_code 0 = .ok (.aload_n 0, 1) := by decide +kernel
theorem d10_1 : decode jdk_42_method_66_code 1 = .ok (.aload_n 1, 1) := by decide +kernel
theorem d10_2 : decode jdk_42_method_66_code 2 = .ok (.if_acmp .ne 5, 3) := by decide +kernel
theorem d10_5 : decode jdk_42_method_66_code 5 = .ok (.iconst 1, 1) := by decide +kernel
theorem d10_6 : decode jdk_42_method_66_code 6 = .ok (.ireturn, 1) := by decide +kernel
theorem d10_7 : decode jdk_42_method_66_code 7 = .ok (.aload_n 1, 1) := by decide +kernel
theorem d10_8 : decode jdk_42_method_66_code 8 = .ok (.instanceof 10, 3) := by decide +kernel
theorem d10_11 : decode jdk_42_method_66_code 11 = .ok (.ifCond .eq 43, 3) := by decide +kernel
theorem d10_14 : decode jdk_42_method_66_code 14 = .ok (.aload_n 1, 1) := by decide +kernel
theorem d10_15 : decode jdk_42_method_66_code 15 = .ok (.checkcast 10, 3) := by decide +kernel
theorem d10_18 : decode jdk_42_method_66_code 18 = .ok (.astore_n 2, 1) := by decide +kernel
theorem d10_19 : decode jdk_42_method_66_code 19 = .ok (.getstatic 38, 3) := by decide +kernel
theorem d10_22 : decode jdk_42_method_66_code 22 = .ok (.ifCond .eq 14, 3) := by decide +kernel
theorem d10_25 : decode jdk_42_method_66_code 25 = .ok (.aload_n 0, 1) := by decide +kernel
theorem d10_26 : decode jdk_42_method_66_code 26 = .ok (.getfield 15, 3) := by decide +kernel
theorem d10_29 : decode jdk_42_method_66_code 29 = .ok (.aload_n 2, 1) := by decide +kernel
theorem d10_30 : decode jdk_42_method_66_code 30 = .ok (.getfield 15, 3) := by decide +kernel
theorem d10_33 : decode jdk_42_method_66_code 33 = .ok (.if_icmp .ne 21, 3) := by decide +kernel
theorem d10_36 : decode jdk_42_method_66_code 36 = .ok (.aload_n 0, 1) := by decide +kernel
theorem d10_37 : decode jdk_42_method_66_code 37 = .ok (.getfield 9, 3) := by decide +kernel
theorem d10_40 : decode jdk_42_method_66_code 40 = .ok (.aload_n 2, 1) := by decide +kernel
theorem d10_41 : decode jdk_42_method_66_code 41 = .ok (.getfield 9, 3) := by decide +kernel
theorem d10_44 : decode jdk_42_method_66_code 44 = .ok (.invokestatic 541, 3) := by decide +kernel
theorem d10_47 : decode jdk_42_method_66_code 47 = .ok (.ifCond .eq 7, 3) := by decide +kernel
theorem d10_50 : decode jdk_42_method_66_code 50 = .ok (.iconst 1, 1) := by decide +kernel
theorem d10_51 : decode jdk_42_method_66_code 51 = .ok (.goto 4, 3) := by decide +kernel
theorem d10_54 : decode jdk_42_method_66_code 54 = .ok (.iconst 0, 1) := by decide +kernel
theorem d10_55 : decode jdk_42_method_66_code 55 = .ok (.ireturn, 1) := by decide +kernel
theorem d11_0 : decode jdk_43_method_13_code 0 = .ok (.aload_n 0, 1) := by decide +kernel
theorem d11_1 : decode jdk_43_method_13_code 1 = .ok (.arraylength, 1) := by decide +kernel
theorem d11_2 : decode jdk_43_method_13_code 2 = .ok (.aload_n 1, 1) := by decide +kernel
theorem d11_3 : decode jdk_43_method_13_code 3 = .ok (.arraylength, 1) := by decide +kernel
theorem d11_4 : decode jdk_43_method_13_code 4 = .ok (.if_icmp .ne 30, 3) := by decide +kernel
theorem d11_7 : decode jdk_43_method_13_code 7 = .ok (.iconst 0, 1) := by decide +kernel
theorem d11_8 : decode jdk_43_method_13_code 8 = .ok (.istore_n 2, 1) := by decide +kernel
theorem d11_9 : decode jdk_43_method_13_code 9 = .ok (.iload_n 2, 1) := by decide +kernel
theorem d11_10 : decode jdk_43_method_13_code 10 = .ok (.aload_n 0, 1) := by decide +kernel
theorem d11_11 : decode jdk_43_method_13_code 11 = .ok (.arraylength, 1) := by decide +kernel
theorem d11_12 : decode jdk_43_method_13_code 12 = .ok (.if_icmp .ge 20, 3) := by decide +kernel
theorem d11_15 : decode jdk_43_method_13_code 15 = .ok (.aload_n 0, 1) := by decide +kernel
theorem d11_16 : decode jdk_43_method_13_code 16 = .ok (.iload_n 2, 1) := by decide +kernel
theorem d11_17 : decode jdk_43_method_13_code 17 = .ok (.baload, 1) := by decide +kernel
theorem d11_18 : decode jdk_43_method_13_code 18 = .ok (.aload_n 1, 1) := by decide +kernel
theorem d11_19 : decode jdk_43_method_13_code 19 = .ok (.iload_n 2, 1) := by decide +kernel
theorem d11_20 : decode jdk_43_method_13_code 20 = .ok (.baload, 1) := by decide +kernel
theorem d11_21 : decode jdk_43_method_13_code 21 = .ok (.if_icmp .eq 5, 3) := by decide +kernel
theorem d11_24 : decode jdk_43_method_13_code 24 = .ok (.iconst 0, 1) := by decide +kernel
theorem d11_25 : decode jdk_43_method_13_code 25 = .ok (.ireturn, 1) := by decide +kernel
theorem d11_26 : decode jdk_43_method_13_code 26 = .ok (.iinc 2 1, 3) := by decide +kernel
theorem d11_29 : decode jdk_43_method_13_code 29 = .ok (.goto (-20), 3) := by decide +kernel
theorem d11_32 : decode jdk_43_method_13_code 32 = .ok (.iconst 1, 1) := by decide +kernel
theorem d11_33 : decode jdk_43_method_13_code 33 = .ok (.ireturn, 1) := by decide +kernel
theorem d11_34 : decode jdk_43_method_13_code 34 = .ok (.iconst 0, 1) := by decide +kernel
theorem d11_35 : decode jdk_43_method_13_code 35 = .ok (.ireturn, 1) := by decide +kernel
theorem d12_0 : decode method_3_code 0 = .ok (.iload_n 0, 1) := by decide +kernel
theorem d12_1 : decode method_3_code 1 = .ok (.sipush 255, 3) := by decide +kernel
theorem d12_4 : decode method_3_code 4 = .ok (.iand, 1) := by decide +kernel
theorem d12_5 : decode method_3_code 5 = .ok (.i2c, 1) := by decide +kernel
theorem d12_6 : decode method_3_code 6 = .ok (.ireturn, 1) := by decide +kernel
theorem d13_0 : decode method_4_code 0 = .ok (.iload_n 0, 1) := by decide +kernel
theorem d13_1 : decode method_4_code 1 = .ok (.bipush 8, 2) := by decide +kernel
theorem d13_3 : decode method_4_code 3 = .ok (.iushr, 1) := by decide +kernel
theorem d13_4 : decode method_4_code 4 = .ok (.sipush 255, 3) := by decide +kernel
theorem d13_7 : decode method_4_code 7 = .ok (.iand, 1) := by decide +kernel
theorem d13_8 : decode method_4_code 8 = .ok (.i2c, 1) := by decide +kernel
theorem d13_9 : decode method_4_code 9 = .ok (.ireturn, 1) := by decide +kernel
theorem d14_0 : decode jdk_52_method_16_code 0 = .ok (.iload_n 2, 1) := by decide +kernel
theorem d14_1 : decode jdk_52_method_16_code 1 = .ok (.newarray .byte, 2) := by decide +kernel
theorem d14_3 : decode jdk_52_method_16_code 3 = .ok (.astore_n 3, 1) := by decide +kernel
theorem d14_4 : decode jdk_52_method_16_code 4 = .ok (.aload_n 0, 1) := by decide +kernel
theorem d14_5 : decode jdk_52_method_16_code 5 = .ok (.iload_n 1, 1) := by decide +kernel
theorem d14_6 : decode jdk_52_method_16_code 6 = .ok (.aload_n 3, 1) := by decide +kernel
theorem d14_7 : decode jdk_52_method_16_code 7 = .ok (.iconst 0, 1) := by decide +kernel
theorem d14_8 : decode jdk_52_method_16_code 8 = .ok (.iload_n 2, 1) := by decide +kernel
theorem d14_9 : decode jdk_52_method_16_code 9 = .ok (.invokestatic 115, 3) := by decide +kernel
theorem d14_12 : decode jdk_52_method_16_code 12 = .ok (.istore 4, 2) := by decide +kernel
theorem d14_14 : decode jdk_52_method_16_code 14 = .ok (.iload 4, 2) := by decide +kernel
theorem d14_16 : decode jdk_52_method_16_code 16 = .ok (.iload_n 2, 1) := by decide +kernel
theorem d14_17 : decode jdk_52_method_16_code 17 = .ok (.if_icmp .eq 40, 3) := by decide +kernel
theorem d14_57 : decode jdk_52_method_16_code 57 = .ok (.aload_n 3, 1) := by decide +kernel
theorem d14_58 : decode jdk_52_method_16_code 58 = .ok (.areturn, 1) := by decide +kernel
theorem d15_0 : decode jdk_52_method_21_code 0 = .ok (.iconst 0, 1) := by decide +kernel
theorem d15_1 : decode jdk_52_method_21_code 1 = .ok (.istore 5, 2) := by decide +kernel
theorem d15_3 : decode jdk_52_method_21_code 3 = .ok (.iload 5, 2) := by decide +kernel
theorem d15_5 : decode jdk_52_method_21_code 5 = .ok (.iload 4, 2) := by decide +kernel
theorem d15_7 : decode jdk_52_method_21_code 7 = .ok (.if_icmp .ge 37, 3) := by decide +kernel
theorem d15_10 : decode jdk_52_method_21_code 10 = .ok (.aload_n 0, 1) := by decide +kernel
theorem d15_11 : decode jdk_52_method_21_code 11 = .ok (.iload_n 1, 1) := by decide +kernel
theorem d15_12 : decode jdk_52_method_21_code 12 = .ok (.caload, 1) := by decide +kernel
theorem d15_13 : decode jdk_52_method_21_code 13 = .ok (.istore 6, 2) := by decide +kernel
theorem d15_15 : decode jdk_52_method_21_code 15 = .ok (.iload 6, 2) := by decide +kernel
theorem d15_17 : decode jdk_52_method_21_code 17 = .ok (.sipush 255, 3) := by decide +kernel
theorem d15_20 : decode jdk_52_method_21_code 20 = .ok (.if_icmp .le 6, 3) := by decide +kernel
theorem d15_26 : decode jdk_52_method_21_code 26 = .ok (.aload_n 2, 1) := by decide +kernel
theorem d15_27 : decode jdk_52_method_21_code 27 = .ok (.iload_n 3, 1) := by decide +kernel
theorem d15_28 : decode jdk_52_method_21_code 28 = .ok (.iload 6, 2) := by decide +kernel
theorem d15_30 : decode jdk_52_method_21_code 30 = .ok (.i2b, 1) := by decide +kernel
theorem d15_31 : decode jdk_52_method_21_code 31 = .ok (.bastore, 1) := by decide +kernel
theorem d15_32 : decode jdk_52_method_21_code 32 = .ok (.iinc 1 1, 3) := by decide +kernel
theorem d15_35 : decode jdk_52_method_21_code 35 = .ok (.iinc 3 1, 3) := by decide +kernel
theorem d15_38 : decode jdk_52_method_21_code 38 = .ok (.iinc 5 1, 3) := by decide +kernel
theorem d15_41 : decode jdk_52_method_21_code 41 = .ok (.goto (-38), 3) := by decide +kernel
theorem d15_44 : decode jdk_52_method_21_code 44 = .ok (.iload 4, 2) := by decide +kernel
theorem d15_46 : decode jdk_52_method_21_code 46 = .ok (.ireturn, 1) := by decide +kernel
theorem d16_0 : decode jdk_52_method_15_code 0 = .ok (.iload_n 1, 1) := by decide +kernel
theorem d16_1 : decode jdk_52_method_15_code 1 = .ok (.aload_n 0, 1) := by decide +kernel
theorem d16_2 : decode jdk_52_method_15_code 2 = .ok (.arraylength, 1) := by decide +kernel
theorem d16_3 : decode jdk_52_method_15_code 3 = .ok (.isub, 1) := by decide +kernel
theorem d16_4 : decode jdk_52_method_15_code 4 = .ok (.bipush 31, 2) := by decide +kernel
theorem d16_6 : decode jdk_52_method_15_code 6 = .ok (.iushr, 1) := by decide +kernel
theorem d16_7 : decode jdk_52_method_15_code 7 = .ok (.i2b, 1) := by decide +kernel
theorem d16_8 : decode jdk_52_method_15_code 8 = .ok (.ireturn, 1) := by decide +kernel
theorem pd0 : parseMethodDescriptor "([CI[BII)I" = some ⟨[(.array .char), .int, (.array .byte), .int, .int], some .int⟩ := by decide +kernel
theorem pd1 : parseMethodDescriptor "([CII)[B" = some ⟨[(.array .char), .int, .int], some (.array .byte)⟩ := by decide +kernel
theorem pd2 : parseMethodDescriptor "([BI)B" = some ⟨[(.array .byte), .int], some .byte⟩ := by decide +kernel
theorem pd3 : parseMethodDescriptor "([CIILjava/lang/Void;)V" = some ⟨[(.array .char), .int, .int, (.object "java/lang/Void")], none⟩ := by decide +kernel
theorem pd4 : parseMethodDescriptor "([B[B)Z" = some ⟨[(.array .byte), (.array .byte)], some .boolean⟩ := by decide +kernel
theorem pd5 : parseMethodDescriptor "(I)I" = some ⟨[.int], some .int⟩ := by decide +kernel
theorem pd6 : parseMethodDescriptor "([C)V" = some ⟨[(.array .char)], none⟩ := by decide +kernel
theorem pd7 : parseMethodDescriptor "(I)C" = some ⟨[.int], some .char⟩ := by decide +kernel
theorem pd8 : parseMethodDescriptor "(Ljava/lang/Object;Ljava/lang/String;)Ljava/lang/Object;" = some ⟨[(.object "java/lang/Object"), (.object "java/lang/String")], some (.object "java/lang/Object")⟩ := by decide +kernel
theorem pd9 : parseMethodDescriptor "(Ljava/lang/Object;)Z" = some ⟨[(.object "java/lang/Object")], some .boolean⟩ := by decide +kernel
theorem pd10 : parseMethodDescriptor "(I)Ljava/lang/String;" = some ⟨[.int], some (.object "java/lang/String")⟩ := by decide +kernel
theorem pd11 : parseMethodDescriptor "(Ljava/lang/String;Ljava/lang/String;)V" = some ⟨[(.object "java/lang/String"), (.object "java/lang/String")], none⟩ := by decide +kernel
theorem pd12 : parseMethodDescriptor "(II)Z" = some ⟨[.int, .int], some .boolean⟩ := by decide +kernel
abbrev o_String (a : Addr) (v0 v1 : Value) : Ent := (a, .inl ("java/lang/String", [("java/lang/String", "value", "[B", v0), ("java/lang/String", "coder", "B", v1)]))
theorem Ly_o_String {g : GG} (W : GW g) : Lays g.Z g.a0 "java/lang/String" [("java/lang/String", "value", "[B", .null), ("java/lang/String", "coder", "B", (.int (0 : Int32)))] := by
  refine ⟨by decide, fun f hf => ?_⟩
  simp only [List.mem_cons, List.not_mem_nil, or_false] at hf
  rcases hf with rfl | rfl
  · exact ⟨Or.inr (W26 W), (.array .byte), by decide⟩
  · exact ⟨Or.inr (W27 W), .byte, by decide⟩
abbrev o_Topic (a : Addr) (v0 v1 : Value) : Ent := (a, .inl ("com/example/postings/postings/model/Topic", [("com/example/postings/postings/model/Topic", "number", "Ljava/lang/String;", v0), ("com/example/postings/postings/model/Topic", "title", "Ljava/lang/String;", v1)]))
theorem Ly_o_Topic {g : GG} (W : GW g) : Lays g.Z g.a0 "com/example/postings/postings/model/Topic" [("com/example/postings/postings/model/Topic", "number", "Ljava/lang/String;", .null), ("com/example/postings/postings/model/Topic", "title", "Ljava/lang/String;", .null)] := by
  refine ⟨by decide, fun f hf => ?_⟩
  simp only [List.mem_cons, List.not_mem_nil, or_false] at hf
  rcases hf with rfl | rfl
  · exact ⟨Or.inr (W43 W), (.object "java/lang/String"), by decide⟩
  · exact ⟨Or.inr (W46 W), (.object "java/lang/String"), by decide⟩
theorem strW {g : GG} (W : GW g) : ∀ a ∈ Bundle.stringAtoms, a.before g.a0 g.Z = true := by
  intro a ha
  simp only [Bundle.stringAtoms, List.mem_cons, List.not_mem_nil, or_false] at ha
  rcases ha with rfl | rfl | rfl | rfl | rfl | rfl | rfl
  · exact W12 W
  · exact W11 W
  · exact W25 W
  · exact W26 W
  · exact W27 W
  · exact W28 W
  · exact W29 W
theorem inEL {g : GG} (W : GW g) {p : String × Nat} (h : p ∈ consts_1) : p ∈ g.EL := by
  show p ∈ g.2.2.2
  rw [W.2.2.2.2]
  exact h
/-! String's making: plain facts -/
abbrev bV (x : Int32) : Value := .int x.toInt8.toInt32
def bpre (cs : List Int32) (i : Nat) : List Value := (cs.take i).map bV ++ List.replicate (cs.length - i) (.int 0)
theorem ch_ch (x : Int32) : nar .char x.toUInt32.toUInt16.toUInt32.toInt32 = x.toUInt32.toUInt16.toUInt32.toInt32 := by simp only [nar, UInt32.toUInt32_toInt32, UInt16.toUInt16_toUInt32]
theorem by_by (x : Int32) : nar .byte x.toInt8.toInt32 = x.toInt8.toInt32 := by simp [nar]
theorem bpre0 (cs : List Int32) : bpre cs 0 = List.replicate cs.length (.int 0) := by simp [bpre]
theorem bpreN (cs : List Int32) : bpre cs cs.length = cs.map bV := by simp [bpre]
theorem bpre_len {cs : List Int32} {i : Nat} (h : i ≤ cs.length) : (bpre cs i).length = cs.length := by simp [bpre]; omega
theorem bpre_set {cs : List Int32} {i : Nat} {x : Int32} (h : cs[i]? = some x) : (bpre cs i).set i (bV x) = bpre cs (i + 1) := by
  obtain ⟨hl, rfl⟩ := List.getElem?_eq_some_iff.mp h
  have e : cs.length - i = (cs.length - (i + 1)) + 1 := by omega
  have ht : ((cs.take i).map bV).length = i := by simp; omega
  unfold bpre
  rw [e, List.replicate_succ, List.set_append_right _ _ (by omega), ht, Nat.sub_self, List.set_cons_zero, List.take_succ_eq_append_getElem hl, List.map_append, List.append_assoc]
  rfl
theorem n31 {n : Nat} (h : n < 2147483648) : ¬ Int32.ofNat n < 0 := Int32.ofNat_not_neg (by omega)
theorem n31c {n : Nat} (h : n < 2147483648) : (Int32.ofNat n).toNatClampNeg = n := Jvm.Free.XT.n32 (by omega)
theorem ltN {i n : Nat} (h : i < n) (hn : n < 2147483648) : Int32.ofNat i < Int32.ofNat n := by
  rw [Int32.lt_iff_toInt_lt, Int32.toInt_ofNat_small (by omega), Int32.toInt_ofNat_small (by omega)]; omega
theorem neN {n : Nat} (h : 0 < n) (hn : n < 2147483648) : ¬ Int32.ofNat n = 0 := fun e => by
  have := congrArg Int32.toInt e
  rw [Int32.toInt_ofNat_small (by omega)] at this
  have h0 : (0 : Int32).toInt = 0 := rfl
  omega
theorem injN {n k : Nat} (hn : n < 2147483648) (hk : k < 2147483648) (e : Int32.ofNat n = Int32.ofNat k) : n = k := by
  have := congrArg Int32.toInt e
  rw [Int32.toInt_ofNat_small (by omega), Int32.toInt_ofNat_small (by omega)] at this
  omega
theorem sucN (i : Nat) : Int32.ofNat i + (1 : Int32) = Int32.ofNat (i + 1) := by simp
theorem cdr0 (x : Int32) : (((x - x).toUInt32 >>> ((31 : Int32) &&& 31).toUInt32).toInt32).toInt8.toInt32 = 0 := by
  rw [Int32.sub_self]; decide

theorem le255 (x : Int32) : ¬ (255 : Int32) < (x &&& (255 : Int32)).toUInt32.toUInt16.toUInt32.toInt32 := by
  rw [i2c_mask]
  have h := c_mask x 255 8 (by decide) rfl
  rw [Int32.lt_iff_toInt_lt, h, show (255 : Int32).toInt = 255 from rfl]
  simp only [Nat.reducePow, Int.cast_ofNat_Int]
  omega

theorem compact {g : GG} (W : GW g) : ∃ z : Int32, Sta g.Z g.Z.heap "java/lang/String" "COMPACT_STRINGS" "Z" (.int z) ∧ ¬ z = 0 := by
  obtain ⟨z, e⟩ := is_v (Cond.before_iff.mp (W.2.2.1 _ (List.mem_of_getElem? (i := 1) rfl)))
  refine ⟨z, Sta.start e (Or.inl (W.2.2.1 _ (List.mem_of_getElem? (i := 0) rfl))), fun q => ?_⟩
  have n := not_v (Cond.before_iff.mp (W.2.2.1 _ (List.mem_of_getElem? (i := 2) rfl)))
  rw [eq_i e (Term.int_eval 0) (by rw [q])] at n
  cases n

theorem ef_c5 (c d : Addr) (n : Nat) (m : MethodId) : entryFrame m #[(.ref c), (.int (0 : Int32)), (.ref d), (.int (0 : Int32)), (.int (Int32.ofNat n))] 7 = mkF m 0 #[.val (.ref c), .val (.int (0 : Int32)), .val (.ref d), .val (.int (0 : Int32)), .val (.int (Int32.ofNat n)), .unset, .unset] [] := by first | (simp [entryFrame, mkF, argsToLocals, Value.category]; done) | rfl
abbrev D15 : DD := (⟨"java/lang/StringUTF16", "compress", "([CI[BII)I"⟩, jdk_52_method_21_code, 7, (some .int), { frames := 0, cells := 0, slots := 0, locals := 0 })
theorem lp_c5 {g : GG} (W : GW g) (c : Addr) (nm : String) (cs : List Int32) (hcs : ∀ x ∈ cs, ¬ (255 : Int32) < x) (hn : cs.length ≤ 8) {H0 : List Ent} {Lt : List SE} {M : MM} {d : Addr} : ∀ (k i : Nat), i + k = cs.length → ∀ (o : Slot), (o = .unset ∨ ∃ w, o = .val w ∧ w.category = 1) → ∀ {T : State}, RH g D15 M T ((d, .inr (.byte, "[B", bpre cs i)) :: (c, .inr (.char, nm, cs.map Value.int)) :: H0) Lt 0 0 →
    Fn g D15 M (fun v vm h => v = some (.int (Int32.ofNat cs.length)) ∧ Hp g vm h ((d, .inr (.byte, "[B", cs.map bV)) :: (c, .inr (.char, nm, cs.map Value.int)) :: H0) Lt) (T.setTop (mkF M.m 3 #[.val (.ref c), .val (.int (Int32.ofNat i)), .val (.ref d), .val (.int (Int32.ofNat i)), .val (.int (Int32.ofNat cs.length)), .val (.int (Int32.ofNat i)), o] [])) := by
  intro k
  induction k with
  | zero =>
    intro i hi o ho T B
    have hi' : i = cs.length := by omega
    refine p_iload B d15_3 (pc' := 5) rfl rfl ?_
    refine p_iload B d15_5 (pc' := 7) rfl rfl ?_
    refine b_icT B d15_7 (pc' := 44) (by subst hi'; exact Int32.lt_irrefl) (by decide) (by decide) ?_
    refine p_iload B d15_44 (pc' := 46) rfl rfl ?_
    exact r_reti B d15_46 rfl (by simp) rfl (by decide) (by decide) (fun vm h P => ⟨rfl, by subst hi'; rw [← bpreN cs]; exact P⟩)
  | succ k ih =>
    intro i hi o ho T B
    have hlt : i < cs.length := by omega
    obtain ⟨x, hx⟩ : ∃ x, cs[i]? = some x := ⟨_, List.getElem?_eq_getElem hlt⟩
    have hx2 : (cs.map Value.int)[i]? = some (.int x) := by rw [List.getElem?_map, hx]; rfl
    refine p_iload B d15_3 (pc' := 5) rfl rfl ?_
    refine p_iload B d15_5 (pc' := 7) rfl rfl ?_
    refine b_icF B d15_7 (pc' := 10) rfl (ltN hlt (by omega)) ?_
    refine p_aloadN B d15_10 (pc' := 11) rfl rfl rfl ?_
    refine p_iloadN B d15_11 (pc' := 12) rfl rfl ?_
    refine r_aget B d15_12 rfl (pc' := 13) rfl (aH (i := 1) rfl) (k := i) rfl hx2 ?_
    refine p_istore B d15_13 (pc' := 15) rfl (Ls' := #[.val (.ref c), .val (.int (Int32.ofNat i)), .val (.ref d), .val (.int (Int32.ofNat i)), .val (.int (Int32.ofNat cs.length)), .val (.int (Int32.ofNat i)), .val (.int x)]) (XS.store1 (o := o) rfl ho rfl) ?_
    refine p_iload B d15_15 (pc' := 17) rfl rfl ?_
    refine p_sipush B d15_17 (pc' := 20) rfl (v := (255 : Int32)) (by decide) ?_
    refine b_icT B d15_20 (pc' := 26) (hcs x (List.mem_of_getElem? hx)) (by decide) (by decide) ?_
    refine p_aloadN B d15_26 (pc' := 27) rfl rfl rfl ?_
    refine p_iloadN B d15_27 (pc' := 28) rfl rfl ?_
    refine p_iload B d15_28 (pc' := 30) rfl rfl ?_
    refine p_i2b B d15_30 (pc' := 31) rfl ?_
    refine r_bastore B d15_31 (pc' := 32) rfl (i := 0) rfl (n31 (by omega)) (k := i) (n31c (by omega)) (by rw [bpre_len (by omega)]; exact hlt) (by_by x) (H' := ((d, .inr (.byte, "[B", bpre cs (i + 1))) :: (c, .inr (.char, nm, cs.map Value.int)) :: H0)) (by rw [List.set_cons_zero, bpre_set hx]) ?_
    intro T2 B2
    refine p_iinc B2 d15_32 (pc' := 35) rfl (v := (1 : Int32)) (by decide) rfl (z := ((Int32.ofNat i) + (1 : Int32))) rfl (Ls' := #[.val (.ref c), .val (.int ((Int32.ofNat i) + (1 : Int32))), .val (.ref d), .val (.int (Int32.ofNat i)), .val (.int (Int32.ofNat cs.length)), .val (.int (Int32.ofNat i)), .val (.int x)]) rfl ?_
    refine p_iinc B2 d15_35 (pc' := 38) rfl (v := (1 : Int32)) (by decide) rfl (z := ((Int32.ofNat i) + (1 : Int32))) rfl (Ls' := #[.val (.ref c), .val (.int ((Int32.ofNat i) + (1 : Int32))), .val (.ref d), .val (.int ((Int32.ofNat i) + (1 : Int32))), .val (.int (Int32.ofNat cs.length)), .val (.int (Int32.ofNat i)), .val (.int x)]) rfl ?_
    refine p_iinc B2 d15_38 (pc' := 41) rfl (v := (1 : Int32)) (by decide) rfl (z := ((Int32.ofNat i) + (1 : Int32))) rfl (Ls' := #[.val (.ref c), .val (.int ((Int32.ofNat i) + (1 : Int32))), .val (.ref d), .val (.int ((Int32.ofNat i) + (1 : Int32))), .val (.int (Int32.ofNat cs.length)), .val (.int ((Int32.ofNat i) + (1 : Int32))), .val (.int x)]) rfl ?_
    refine b_goto B2 d15_41 (pc' := 3) (by decide) (by decide) ?_
    rw [sucN i]
    exact ih (i + 1) (by omega) _ (Or.inr ⟨_, rfl, rfl⟩) B2
theorem k_c5 {g : GG} (W : GW g) (c : Addr) (nm : String) (cs : List Int32) (hcs : ∀ x ∈ cs, ¬ (255 : Int32) < x) (hn : cs.length ≤ 8) (d : Addr) (H0 : List Ent) (Lt : List SE) : Ct g D15 #[.ref c, .int (0 : Int32), .ref d, .int (0 : Int32), .int (Int32.ofNat cs.length)] ((d, .inr (.byte, "[B", bpre cs 0)) :: (c, .inr (.char, nm, cs.map Value.int)) :: H0) Lt (fun v vm h => v = some (.int (Int32.ofNat cs.length)) ∧ Hp g vm h ((d, .inr (.byte, "[B", cs.map bV)) :: (c, .inr (.char, nm, cs.map Value.int)) :: H0) Lt) := by
  refine CtW.body W (by decide +kernel) (ef_c5 c d cs.length) ?_
  intro M T B
  refine p_iconst B d15_0 (pc' := 1) rfl (v := (0 : Int32)) (by decide) ?_
  refine p_istore B d15_1 (pc' := 3) rfl (Ls' := #[.val (.ref c), .val (.int (0 : Int32)), .val (.ref d), .val (.int (0 : Int32)), .val (.int (Int32.ofNat cs.length)), .val (.int (0 : Int32)), .unset]) rfl ?_
  exact lp_c5 W c nm cs hcs hn cs.length 0 (by omega) _ (Or.inl rfl) B
theorem ef_cf (d : Addr) (n : Nat) (m : MethodId) : entryFrame m #[(.ref d), (.int (Int32.ofNat n))] 2 = mkF m 0 #[.val (.ref d), .val (.int (Int32.ofNat n))] [] := by first | (simp [entryFrame, mkF, argsToLocals, Value.category]; done) | rfl
abbrev D16 : DD := (⟨"java/lang/StringUTF16", "coderFromArrayLen", "([BI)B"⟩, jdk_52_method_15_code, 2, (some .byte), { frames := 0, cells := 0, slots := 0, locals := 0 })
theorem k_cf {g : GG} (W : GW g) (d : Addr) (nm : String) (vs : List Value) (n : Nat) (hn : vs.length = n) (H0 : List Ent) (Lt : List SE) : Ct g D16 #[.ref d, .int (Int32.ofNat n)] ((d, .inr (.byte, nm, vs)) :: H0) Lt (fun v vm h => v = some (.int (0 : Int32)) ∧ Hp g vm h ((d, .inr (.byte, nm, vs)) :: H0) Lt) := by
  subst hn
  refine CtW.body W (by decide +kernel) (ef_cf d vs.length) ?_
  intro M T B
  refine p_iloadN B d16_0 (pc' := 1) rfl rfl ?_
  refine p_aloadN B d16_1 (pc' := 2) rfl rfl rfl ?_
  refine r_alen B d16_2 (pc' := 3) rfl (aH (i := 0) rfl) (z := (Int32.ofNat vs.length)) rfl ?_
  refine p_isub B d16_3 (pc' := 4) rfl rfl ?_
  refine p_bipush B d16_4 (pc' := 6) rfl (v := (31 : Int32)) (by decide) ?_
  refine p_iushr B d16_6 (pc' := 7) rfl rfl ?_
  refine p_i2b B d16_7 (pc' := 8) rfl ?_
  rw [cdr0]
  exact r_reti B d16_8 rfl (by simp) rfl (by decide) (by decide) (fun vm h P => ⟨rfl, P⟩)
theorem ef_c3 (c : Addr) (n : Nat) (m : MethodId) : entryFrame m #[(.ref c), (.int (0 : Int32)), (.int (Int32.ofNat n))] 6 = mkF m 0 #[.val (.ref c), .val (.int (0 : Int32)), .val (.int (Int32.ofNat n)), .unset, .unset, .unset] [] := by first | (simp [entryFrame, mkF, argsToLocals, Value.category]; done) | rfl
abbrev D14 : DD := (⟨"java/lang/StringUTF16", "compress", "([CII)[B"⟩, jdk_52_method_16_code, 6, (some (.array .byte)), { frames := 1, cells := 1, slots := 8, locals := 18 })
theorem k_c3 {g : GG} (W : GW g) (c : Addr) (nm : String) (cs : List Int32) (hcs : ∀ x ∈ cs, ¬ (255 : Int32) < x) (hn : cs.length ≤ 8) (H0 : List Ent) (Lt : List SE) : Ct g D14 #[.ref c, .int (0 : Int32), .int (Int32.ofNat cs.length)] ((c, .inr (.char, nm, cs.map Value.int)) :: H0) Lt (fun v vm h => ∃ d, v = some (.ref d) ∧ Hp g vm h ((d, .inr (.byte, "[B", cs.map bV)) :: (c, .inr (.char, nm, cs.map Value.int)) :: H0) Lt) := by
  refine CtW.body W (by decide +kernel) (ef_c3 c cs.length) ?_
  intro M T B
  refine p_iloadN B d14_0 (pc' := 1) rfl rfl ?_
  refine r_newp B d14_1 (pc' := 3) rfl (ty := .byte) (W25 B.gw) rfl (n31 (by omega)) (nn := cs.length) (n31c (by omega)) (cap := 8) hn (by decide) (cs' := 1) rfl (ss' := 8) rfl (by decide) (by decide) (ad := "[B") (by decide) (by decide) nofun (vs := bpre cs 0) (bpre0 cs).symm ?_
  intro T1 d B1
  refine p_astoreN B1 d14_3 (pc' := 4) rfl rfl (Ls' := #[.val (.ref c), .val (.int (0 : Int32)), .val (.int (Int32.ofNat cs.length)), .val (.ref d), .unset, .unset]) rfl ?_
  refine p_aloadN B1 d14_4 (pc' := 5) rfl rfl rfl ?_
  refine p_iloadN B1 d14_5 (pc' := 6) rfl rfl ?_
  refine p_aloadN B1 d14_6 (pc' := 7) rfl rfl rfl ?_
  refine p_iconst B1 d14_7 (pc' := 8) rfl (v := (0 : Int32)) (by decide) ?_
  refine p_iloadN B1 d14_8 (pc' := 9) rfl rfl ?_
  refine r_static (D' := D15) B1 d14_9 (pc' := 12) rfl (W80 B1.gw) (W81 B1.gw) (W78 B1.gw) (W82 B1.gw) (by decide) (k_c5 W c nm cs hcs hn d H0 Lt) (argsL := [(.ref c), (.int (0 : Int32)), (.ref d), (.int (0 : Int32)), (.int (Int32.ofNat cs.length))]) (rest := []) rfl pd0 rfl rfl rfl (W := 0) rfl (by decide) (by decide) (cs' := 1) rfl (ss' := 8) rfl (by decide) (by decide) ?_
  intro T1 v2 B3
  replace B3 := Rn.and B3
  obtain ⟨rfl, B3⟩ := B3
  show Fn g D14 M _ (T1.setTop (mkF M.m 12 #[.val (.ref c), .val (.int (0 : Int32)), .val (.int (Int32.ofNat cs.length)), .val (.ref d), .unset, .unset] [(.int (Int32.ofNat cs.length))]))
  refine p_istore B3 d14_12 (pc' := 14) rfl (Ls' := #[.val (.ref c), .val (.int (0 : Int32)), .val (.int (Int32.ofNat cs.length)), .val (.ref d), .val (.int (Int32.ofNat cs.length)), .unset]) rfl ?_
  refine p_iload B3 d14_14 (pc' := 16) rfl rfl ?_
  refine p_iloadN B3 d14_16 (pc' := 17) rfl rfl ?_
  refine b_icT B3 d14_17 (pc' := 57) rfl (by decide) (by decide) ?_
  refine p_aloadN B3 d14_57 (pc' := 58) rfl rfl rfl ?_
  exact r_reta B3 d14_58 rfl rfl rfl (by decide) (by decide) (fun vm h P => ⟨d, rfl, P⟩)
theorem ef_i4 (a c : Addr) (n : Nat) (m : MethodId) : entryFrame m #[(.ref a), (.ref c), (.int (0 : Int32)), (.int (Int32.ofNat n)), .null] 6 = mkF m 0 #[.val (.ref a), .val (.ref c), .val (.int (0 : Int32)), .val (.int (Int32.ofNat n)), .val .null, .unset] [] := by first | (simp [entryFrame, mkF, argsToLocals, Value.category]; done) | rfl
abbrev D4 : DD := (⟨"java/lang/String", "<init>", "([CIILjava/lang/Void;)V"⟩, jdk_42_method_149_code, 6, none, { frames := 2, cells := 4, slots := 8, locals := 35 })
theorem k_i4 {g : GG} (W : GW g) (a : Addr) (c : Addr) (nm : String) (cs : List Int32) (hcs : ∀ x ∈ cs, ¬ (255 : Int32) < x) (hn : cs.length ≤ 8) (H0 : List Ent) (Lt : List SE) : Ct g D4 #[.ref a, .ref c, .int (0 : Int32), .int (Int32.ofNat cs.length), .null] (o_String a .null (.int (0 : Int32)) :: (c, .inr (.char, nm, cs.map Value.int)) :: H0) Lt (fun v vm h => v = none ∧ ∃ d, Hp g vm h ((c, .inr (.char, nm, cs.map Value.int)) :: H0) ((a, d, 0, cs.map bV) :: Lt)) := by
  refine CtW.body W (by decide +kernel) (ef_i4 a c cs.length) ?_
  intro M T B
  refine p_aloadN B d4_0 (pc' := 1) rfl rfl rfl ?_
  refine r_initO B d4_1 (pc' := 4) rfl (W21 B.gw) (W22 B.gw) (W23 B.gw) rfl (by decide) (W := 0) rfl (by decide) ?_
  intro T1 B2
  refine p_iloadN B2 d4_4 (pc' := 5) rfl rfl ?_
  by_cases h0 : 0 < cs.length
  · refine b_ifT B2 d4_5 (pc' := 27) (neN h0 (by omega)) (by decide) (by decide) ?_
    obtain ⟨z, hz, hz0⟩ := compact W
    refine r_gets B2 d4_27 (pc' := 30) rfl (host := "") (Or.inl (W63 B2.gw)) Via.refl (v := (.int z)) hz ?_
    intro T3 B4
    refine b_ifF B4 d4_30 (pc' := 33) rfl hz0 ?_
    refine p_aloadN B4 d4_33 (pc' := 34) rfl rfl rfl ?_
    refine p_iloadN B4 d4_34 (pc' := 35) rfl rfl ?_
    refine p_iloadN B4 d4_35 (pc' := 36) rfl rfl ?_
    have B5 : RH g D4 M T3 ((c, .inr (.char, nm, (cs.map Value.int))) :: o_String a .null (.int (0 : Int32)) :: H0) (Lt) 0 0 := B4.front (i := 1) rfl rfl
    refine r_static (D' := D14) B5 d4_36 (pc' := 39) rfl (W76 B5.gw) (W77 B5.gw) (W78 B5.gw) (W79 B5.gw) (by decide) (k_c3 W c nm cs hcs hn (o_String a .null (.int (0 : Int32)) :: H0) Lt) (argsL := [(.ref c), (.int (0 : Int32)), (.int (Int32.ofNat cs.length))]) (rest := []) rfl pd1 rfl rfl rfl (W := 0) rfl (by decide) (by decide) (cs' := 1) rfl (ss' := 8) rfl (by decide) (by decide) ?_
    intro T6 v7 B8
    replace B8 := Rn.ex B8
    obtain ⟨d, B8⟩ := B8
    replace B8 := Rn.and B8
    obtain ⟨rfl, B8⟩ := B8
    show Fn g D4 M _ (T6.setTop (mkF M.m 39 #[.val (.ref a), .val (.ref c), .val (.int (0 : Int32)), .val (.int (Int32.ofNat cs.length)), .val .null, .unset] [(.ref d)]))
    refine p_astore B8 d4_39 (pc' := 41) rfl rfl (Ls' := #[.val (.ref a), .val (.ref c), .val (.int (0 : Int32)), .val (.int (Int32.ofNat cs.length)), .val .null, .val (.ref d)]) rfl ?_
    refine p_aloadN B8 d4_41 (pc' := 42) rfl rfl rfl ?_
    refine p_aload B8 d4_42 (pc' := 44) rfl rfl rfl ?_
    refine p_iloadN B8 d4_44 (pc' := 45) rfl rfl ?_
    refine r_static (D' := D16) B8 d4_45 (pc' := 48) rfl (W83 B8.gw) (W84 B8.gw) (W78 B8.gw) (W85 B8.gw) (by decide) (k_cf W d "[B" (cs.map bV) cs.length (List.length_map ..) _ Lt) (argsL := [(.ref d), (.int (Int32.ofNat cs.length))]) (rest := [(.ref a)]) rfl pd2 rfl rfl rfl (W := 1) rfl (by decide) (by decide) (cs' := 1) rfl (ss' := 8) rfl (by decide) (by decide) ?_
    intro T9 v10 B11
    replace B11 := Rn.and B11
    obtain ⟨rfl, B11⟩ := B11
    show Fn g D4 M _ (T9.setTop (mkF M.m 48 #[.val (.ref a), .val (.ref c), .val (.int (0 : Int32)), .val (.int (Int32.ofNat cs.length)), .val .null, .val (.ref d)] [(.int (0 : Int32)), (.ref a)]))
    refine r_put B11 d4_48 (pc' := 51) rfl (host := "") (Or.inl (W31 B11.gw)) Via.refl (i := 2) (j := 1) rfl rfl (Or.inr ⟨(W27 B11.gw), rfl, rfl⟩) (W11 B11.gw) (ty := .byte) (by decide) (by decide) (by decide) (H' := ((d, .inr (.byte, "[B", (cs.map bV))) :: (c, .inr (.char, nm, (cs.map Value.int))) :: o_String a .null (.int (0 : Int32)) :: H0)) rfl ?_
    intro T12 B13
    refine p_aloadN B13 d4_51 (pc' := 52) rfl rfl rfl ?_
    refine p_aload B13 d4_52 (pc' := 54) rfl rfl rfl ?_
    refine r_put B13 d4_54 (pc' := 57) rfl (host := "") (Or.inl (W30 B13.gw)) Via.refl (i := 2) (j := 0) rfl rfl (Or.inr ⟨(W26 B13.gw), rfl, rfl⟩) (W11 B13.gw) (ty := (.array .byte)) (by decide) rfl rfl (H' := ((d, .inr (.byte, "[B", (cs.map bV))) :: (c, .inr (.char, nm, (cs.map Value.int))) :: o_String a (.ref d) (.int (0 : Int32)) :: H0)) rfl ?_
    intro T14 B15
    have B16 : RH g D4 M T14 (o_String a (.ref d) (.int (0 : Int32)) :: (d, .inr (.byte, "[B", (cs.map bV))) :: (c, .inr (.char, nm, (cs.map Value.int))) :: H0) (Lt) 1 8 := B15.front (i := 2) rfl rfl
    exact r_ret B16 d4_57 rfl (by decide) (by decide) (fun vm h P => ⟨rfl, d, P.freeze (by simp) (by simp)⟩)
  · have e0 : cs = [] := List.eq_nil_of_length_eq_zero (by omega)
    refine b_ifF B2 d4_5 (pc' := 8) rfl (show Int32.ofNat cs.length = 0 from by rw [e0]; rfl) ?_
    refine p_aloadN B2 d4_8 (pc' := 9) rfl rfl rfl ?_
    refine r_ldc B2 d4_9 (pc' := 11) rfl (W24 B2.gw) (strW B2.gw) (inEL B2.gw (by decide)) (bs := []) ⟨by decide, by decide⟩ (z := (0 : Int32)) (by decide) (by decide) (n := 0) (by decide) (by decide) (cs' := 2) rfl (ss' := 4) rfl (by decide) (by decide) ?_
    intro T17 a19 b20 B18
    refine r_get B18 d4_11 (pc' := 14) rfl (host := "") (Or.inl (W30 B18.gw)) Via.refl (v := (.ref b20)) (sV (List.mem_of_getElem? (i := 0) rfl)) ?_
    intro T21 B22
    refine r_put B22 d4_14 (pc' := 17) rfl (host := "") (Or.inl (W30 B22.gw)) Via.refl (i := 0) (j := 0) rfl rfl (Or.inr ⟨(W26 B22.gw), rfl, rfl⟩) (W11 B22.gw) (ty := (.array .byte)) (by decide) rfl rfl (H' := (o_String a (.ref b20) (.int (0 : Int32)) :: (c, .inr (.char, nm, (cs.map Value.int))) :: H0)) rfl ?_
    intro T23 B24
    refine p_aloadN B24 d4_17 (pc' := 18) rfl rfl rfl ?_
    refine r_ldc B24 d4_18 (pc' := 20) rfl (W24 B24.gw) (strW B24.gw) (inEL B24.gw (by decide)) (bs := []) ⟨by decide, by decide⟩ (z := (0 : Int32)) (by decide) (by decide) (n := 0) (by decide) (by decide) (cs' := 4) rfl (ss' := 8) rfl (by decide) (by decide) ?_
    intro T25 a27 b28 B26
    refine r_get B26 d4_20 (pc' := 23) rfl (host := "") (Or.inl (W31 B26.gw)) Via.refl (v := (.int (0 : Int32))) (sC (List.mem_of_getElem? (i := 0) rfl)) ?_
    intro T29 B30
    refine r_put B30 d4_23 (pc' := 26) rfl (host := "") (Or.inl (W31 B30.gw)) Via.refl (i := 0) (j := 1) rfl rfl (Or.inr ⟨(W27 B30.gw), rfl, rfl⟩) (W11 B30.gw) (ty := .byte) (by decide) (by decide) (by decide) (H' := (o_String a (.ref b20) (.int (0 : Int32)) :: (c, .inr (.char, nm, (cs.map Value.int))) :: H0)) rfl ?_
    intro T31 B32
    exact r_ret B32 d4_26 rfl (by decide) (by decide) (fun vm h P => ⟨rfl, _, by rw [show cs.map bV = [] from by rw [e0]; rfl]; exact ((P.lsub (Lt' := (a19, b20, 0, []) :: Lt) tl1).freezeL (by simp) (by simp) (List.mem_cons_self ..)).lsub tlm⟩)
theorem ef_i1 (a c : Addr) (m : MethodId) : entryFrame m #[(.ref a), (.ref c)] 2 = mkF m 0 #[.val (.ref a), .val (.ref c)] [] := by first | (simp [entryFrame, mkF, argsToLocals, Value.category]; done) | rfl
abbrev D3 : DD := (⟨"java/lang/String", "<init>", "([C)V"⟩, jdk_42_method_3_code, 2, none, { frames := 3, cells := 4, slots := 8, locals := 52 })
theorem k_i1 {g : GG} (W : GW g) (a : Addr) (c : Addr) (nm : String) (cs : List Int32) (hcs : ∀ x ∈ cs, ¬ (255 : Int32) < x) (hn : cs.length ≤ 8) (H0 : List Ent) (Lt : List SE) : Ct g D3 #[.ref a, .ref c] (o_String a .null (.int (0 : Int32)) :: (c, .inr (.char, nm, cs.map Value.int)) :: H0) Lt (fun v vm h => v = none ∧ ∃ d, Hp g vm h ((c, .inr (.char, nm, cs.map Value.int)) :: H0) ((a, d, 0, cs.map bV) :: Lt)) := by
  refine CtW.body W (by decide +kernel) (ef_i1 a c) ?_
  intro M T B
  refine p_aloadN B d3_0 (pc' := 1) rfl rfl rfl ?_
  refine p_aloadN B d3_1 (pc' := 2) rfl rfl rfl ?_
  refine p_iconst B d3_2 (pc' := 3) rfl (v := (0 : Int32)) (by decide) ?_
  refine p_aloadN B d3_3 (pc' := 4) rfl rfl rfl ?_
  refine r_alen B d3_4 (pc' := 5) rfl (aH (i := 1) rfl) (z := Int32.ofNat cs.length) (by rw [List.length_map]) ?_
  refine p_null B d3_5 (pc' := 6) rfl ?_
  refine r_special (D' := D4) B d3_6 (pc' := 9) rfl rfl rfl (W17 B.gw) (W18 B.gw) (W12 B.gw) (W20 B.gw) (by decide) (k_i4 W a c nm cs hcs hn H0 Lt) (a := a) (argsL := [(.ref c), (.int (0 : Int32)), (.int (Int32.ofNat cs.length)), .null]) (rest := []) rfl pd3 rfl rfl rfl (W := 0) rfl (by decide) (by decide) (cs' := 4) rfl (ss' := 8) rfl (by decide) (by decide) ?_
  intro T1 v2 B3
  replace B3 := Rn.and B3
  obtain ⟨rfl, B3⟩ := B3
  replace B3 := Rn.ex B3
  obtain ⟨d, B3⟩ := B3
  show Fn g D3 M _ (T1.setTop (mkF M.m 9 #[.val (.ref a), .val (.ref c)] []))
  exact r_ret B3 d3_9 rfl (by decide) (by decide) (fun vm h P => ⟨rfl, d, P⟩)
theorem fld_one {Z : State} {h : Heap} {a : Addr} {C n d : String} {v w : Value} (F : Fld Z h a C n d v) (G : Fld Z h a C n d w) : v = w := by
  obtain ⟨c1, f1, k1, i1, q1, h1, h2, -, -, -, -, h7⟩ := F
  obtain ⟨c2, f2, k2, i2, q2, g1, g2, -, -, -, -, g7⟩ := G
  cases h1.symm.trans g1
  cases h2.symm.trans g2
  exact Option.some.inj (h7.symm.trans g7)
theorem Ary.one {Z : State} {h : Heap} {a : Addr} {t1 t2 : FieldType} {n1 n2 : String} {vs ws : List Value} (A : Ary Z h a t1 n1 vs) (B : Ary Z h a t2 n2 ws) : vs = ws := by
  obtain ⟨c1, r1, r2, -⟩ := A
  obtain ⟨c2, s1, s2, -⟩ := B
  cases r1.1.symm.trans s1.1
  have e := r2.symm.trans s2
  exact congrArg Array.toList e
theorem str_one {g : GG} {vm : Vm} {h : Heap} {H : List Ent} {Lt : List SE} (P : Hp g vm h H Lt) {a b b' : Addr} {c c' : Int32} {vs ws : List Value} (m1 : (a, b, c, vs) ∈ Lt) (m2 : (a, b', c', ws) ∈ Lt) : vs = ws := by
  have I := P.2.2.1 _ m1
  have J := P.2.2.1 _ m2
  have e : Value.ref b = Value.ref b' := fld_one I.2.1 J.2.1
  cases e
  exact I.2.2.2.one J.2.2.2
theorem map_int_inj {xs ys : List Int32} (h : xs.map Value.int = ys.map Value.int) : xs = ys := List.map_inj_right (fun a b q => by cases q; rfl) |>.mp h
theorem take_same {xs ys : List Int32} {i : Nat} {x : Int32} (h : xs.take i = ys.take i) (hx : xs[i]? = some x) (hy : ys[i]? = some x) : xs.take (i + 1) = ys.take (i + 1) := by
  rw [List.take_add_one, List.take_add_one, h, hx, hy]

theorem ef_le (b b' : Addr) (m : MethodId) : entryFrame m #[(.ref b), (.ref b')] 3 = mkF m 0 #[.val (.ref b), .val (.ref b'), .unset] [] := by first | (simp [entryFrame, mkF, argsToLocals, Value.category]; done) | rfl
abbrev D11 : DD := (⟨"java/lang/StringLatin1", "equals", "([B[B)Z"⟩, jdk_43_method_13_code, 3, (some .boolean), { frames := 0, cells := 0, slots := 0, locals := 0 })
theorem lp_le {g : GG} (W : GW g) {a a' b b' : Addr} {xs ys : List Int32} {H : List Ent} {Lt : List SE} (m1 : (a, b, 0, xs.map Value.int) ∈ Lt) (m2 : (a', b', 0, ys.map Value.int) ∈ Lt) (hx : xs.length < 2147483648) (hy : ys.length < 2147483648) {M : MM} (hl : xs.length = ys.length) : ∀ (k i : Nat), i + k = xs.length → xs.take i = ys.take i → ∀ {T : State}, RH g D11 M T H Lt 0 0 →
    Fn g D11 M (fun v vm h => ∃ z : Int32, v = some (.int z) ∧ (z = 1 ∧ xs = ys ∨ z = 0 ∧ ¬ xs = ys) ∧ Hp g vm h H Lt) (T.setTop (mkF M.m 9 #[.val (.ref b), .val (.ref b'), .val (.int (Int32.ofNat i))] [])) := by
  intro k
  induction k with
  | zero =>
    intro i hi ht T B
    refine p_iloadN B d11_9 (pc' := 10) rfl rfl ?_
    refine p_aloadN B d11_10 (pc' := 11) rfl rfl rfl ?_
    refine r_alen B d11_11 (pc' := 12) rfl (sA m1) (z := Int32.ofNat xs.length) (by rw [List.length_map]) ?_
    have hi' : i = xs.length := by omega
    refine b_icT B d11_12 (pc' := 32) (by subst hi'; exact Int32.lt_irrefl) (by decide) (by decide) ?_
    refine p_iconst B d11_32 (pc' := 33) rfl (v := (1 : Int32)) (by decide) ?_
    exact r_reti B d11_33 rfl (by simp) rfl (by decide) (by decide) (fun vm h P => ⟨_, rfl, Or.inl ⟨rfl, by rw [hi', List.take_length, hl, List.take_length] at ht; exact ht⟩, P⟩)
  | succ k ih =>
    intro i hi ht T B
    refine p_iloadN B d11_9 (pc' := 10) rfl rfl ?_
    refine p_aloadN B d11_10 (pc' := 11) rfl rfl rfl ?_
    refine r_alen B d11_11 (pc' := 12) rfl (sA m1) (z := Int32.ofNat xs.length) (by rw [List.length_map]) ?_
    have hlt : i < xs.length := by omega
    refine b_icF B d11_12 (pc' := 15) rfl (ltN hlt hx) ?_
    obtain ⟨x, ex⟩ : ∃ x, xs[i]? = some x := ⟨_, List.getElem?_eq_getElem hlt⟩
    obtain ⟨y, ey⟩ : ∃ y, ys[i]? = some y := ⟨_, List.getElem?_eq_getElem (by omega)⟩
    refine p_aloadN B d11_15 (pc' := 16) rfl rfl rfl ?_
    refine p_iloadN B d11_16 (pc' := 17) rfl rfl ?_
    refine r_aget B d11_17 rfl (pc' := 18) rfl (sA m1) (k := i) rfl (v := .int x) (by rw [List.getElem?_map, ex]; rfl) ?_
    refine p_aloadN B d11_18 (pc' := 19) rfl rfl rfl ?_
    refine p_iloadN B d11_19 (pc' := 20) rfl rfl ?_
    refine r_aget B d11_20 rfl (pc' := 21) rfl (sA m2) (k := i) rfl (v := .int y) (by rw [List.getElem?_map, ey]; rfl) ?_
    by_cases hxy : x = y
    · refine b_icT B d11_21 (pc' := 26) hxy (by decide) (by decide) ?_
      refine p_iinc B d11_26 (pc' := 29) rfl (v := (1 : Int32)) (by decide) rfl (z := ((Int32.ofNat i) + (1 : Int32))) rfl (Ls' := #[.val (.ref b), .val (.ref b'), .val (.int ((Int32.ofNat i) + (1 : Int32)))]) rfl ?_
      refine b_goto B d11_29 (pc' := 9) (by decide) (by decide) ?_
      subst hxy
      rw [sucN i]
      exact ih (i + 1) (by omega) (take_same ht ex ey) B
    · refine b_icF B d11_21 (pc' := 24) rfl hxy ?_
      refine p_iconst B d11_24 (pc' := 25) rfl (v := (0 : Int32)) (by decide) ?_
      exact r_reti B d11_25 rfl (by simp) rfl (by decide) (by decide) (fun vm h P => ⟨_, rfl, Or.inr ⟨rfl, fun q => hxy (by subst q; exact Option.some.inj (ex.symm.trans ey))⟩, P⟩)
theorem k_le {g : GG} (W : GW g) {a a' b b' : Addr} {xs ys : List Int32} {H : List Ent} {Lt : List SE} (m1 : (a, b, 0, xs.map Value.int) ∈ Lt) (m2 : (a', b', 0, ys.map Value.int) ∈ Lt) (hx : xs.length < 2147483648) (hy : ys.length < 2147483648) : Ct g D11 #[.ref b, .ref b'] H Lt (fun v vm h => ∃ z : Int32, v = some (.int z) ∧ (z = 1 ∧ xs = ys ∨ z = 0 ∧ ¬ xs = ys) ∧ Hp g vm h H Lt) := by
  refine CtW.body W (by decide +kernel) (ef_le b b') ?_
  intro M T B
  refine p_aloadN B d11_0 (pc' := 1) rfl rfl rfl ?_
  refine r_alen B d11_1 (pc' := 2) rfl (sA m1) (z := Int32.ofNat xs.length) (by rw [List.length_map]) ?_
  refine p_aloadN B d11_2 (pc' := 3) rfl rfl rfl ?_
  refine r_alen B d11_3 (pc' := 4) rfl (sA m2) (z := Int32.ofNat ys.length) (by rw [List.length_map]) ?_
  by_cases hn : (Int32.ofNat xs.length) = (Int32.ofNat ys.length)
  · refine b_icF B d11_4 (pc' := 7) rfl hn ?_
    refine p_iconst B d11_7 (pc' := 8) rfl (v := (0 : Int32)) (by decide) ?_
    refine p_istoreN B d11_8 (pc' := 9) rfl (Ls' := #[.val (.ref b), .val (.ref b'), .val (.int (0 : Int32))]) rfl ?_
    exact lp_le W m1 m2 hx hy (injN hx hy hn) xs.length 0 (by omega) rfl B
  · refine b_icT B d11_4 (pc' := 34) hn (by decide) (by decide) ?_
    refine p_iconst B d11_34 (pc' := 35) rfl (v := (0 : Int32)) (by decide) ?_
    exact r_reti B d11_35 rfl (by simp) rfl (by decide) (by decide) (fun vm h P => ⟨_, rfl, Or.inr ⟨rfl, fun q => hn (by rw [q])⟩, P⟩)
theorem ef_se (a a' : Addr) (m : MethodId) : entryFrame m #[(.ref a), (.ref a')] 3 = mkF m 0 #[.val (.ref a), .val (.ref a'), .unset] [] := by first | (simp [entryFrame, mkF, argsToLocals, Value.category]; done) | rfl
abbrev D10 : DD := (⟨"java/lang/String", "equals", "(Ljava/lang/Object;)Z"⟩, jdk_42_method_66_code, 3, (some .boolean), { frames := 1, cells := 0, slots := 0, locals := 14 })
theorem k_se {g : GG} (W : GW g) {a a' b b' : Addr} {xs ys : List Int32} {H : List Ent} {Lt : List SE} (m1 : (a, b, 0, xs.map Value.int) ∈ Lt) (m2 : (a', b', 0, ys.map Value.int) ∈ Lt) (hx : xs.length < 2147483648) (hy : ys.length < 2147483648) : Ct g D10 #[.ref a, .ref a'] H Lt (fun v vm h => ∃ z : Int32, v = some (.int z) ∧ (z = 1 ∧ xs = ys ∨ z = 0 ∧ ¬ xs = ys) ∧ Hp g vm h H Lt) := by
  refine CtW.body W (by decide +kernel) (ef_se a a') ?_
  intro M T B
  refine p_aloadN B d10_0 (pc' := 1) rfl rfl rfl ?_
  refine p_aloadN B d10_1 (pc' := 2) rfl rfl rfl ?_
  by_cases ha : (Value.ref a) = (Value.ref a')
  · refine b_anF B d10_2 (pc' := 5) rfl rfl rfl ha ?_
    refine p_iconst B d10_5 (pc' := 6) rfl (v := (1 : Int32)) (by decide) ?_
    exact r_reti B d10_6 rfl (by simp) rfl (by decide) (by decide) (fun vm h P => ⟨_, rfl, Or.inl ⟨rfl, map_int_inj (str_one P m1 (by cases ha; exact m2))⟩, P⟩)
  · refine b_anT B d10_2 (pc' := 7) rfl rfl ha (by decide) (by decide) ?_
    refine p_aloadN B d10_7 (pc' := 8) rfl rfl rfl ?_
    refine r_inst1 B d10_8 (pc' := 11) rfl (W62 B.gw) (fun vm h E P => Ins.self (sE m2 vm h E P)) ?_
    intro T1 B2
    refine b_ifF B2 d10_11 (pc' := 14) rfl (show ¬ (1 : Int32) = (0 : Int32) from by decide) ?_
    refine p_aloadN B2 d10_14 (pc' := 15) rfl rfl rfl ?_
    refine r_cast B2 d10_15 (pc' := 18) rfl (W62 B2.gw) (fun vm h E P => Ins.self (sE m2 vm h E P)) ?_
    intro T3 B4
    refine p_astoreN B4 d10_18 (pc' := 19) rfl rfl (Ls' := #[.val (.ref a), .val (.ref a'), .val (.ref a')]) rfl ?_
    obtain ⟨z, hz, hz0⟩ := compact W
    refine r_gets B4 d10_19 (pc' := 22) rfl (host := "") (Or.inl (W63 B4.gw)) Via.refl (v := (.int z)) hz ?_
    intro T5 B6
    refine b_ifF B6 d10_22 (pc' := 25) rfl hz0 ?_
    refine p_aloadN B6 d10_25 (pc' := 26) rfl rfl rfl ?_
    refine r_get B6 d10_26 (pc' := 29) rfl (host := "") (Or.inl (W31 B6.gw)) Via.refl (v := (.int (0 : Int32))) (sC m1) ?_
    intro T7 B8
    refine p_aloadN B8 d10_29 (pc' := 30) rfl rfl rfl ?_
    refine r_get B8 d10_30 (pc' := 33) rfl (host := "") (Or.inl (W31 B8.gw)) Via.refl (v := (.int (0 : Int32))) (sC m2) ?_
    intro T9 B10
    refine b_icF B10 d10_33 (pc' := 36) rfl (show (0 : Int32) = (0 : Int32) from by decide) ?_
    refine p_aloadN B10 d10_36 (pc' := 37) rfl rfl rfl ?_
    refine r_get B10 d10_37 (pc' := 40) rfl (host := "") (Or.inl (W30 B10.gw)) Via.refl (v := (.ref b)) (sV m1) ?_
    intro T11 B12
    refine p_aloadN B12 d10_40 (pc' := 41) rfl rfl rfl ?_
    refine r_get B12 d10_41 (pc' := 44) rfl (host := "") (Or.inl (W30 B12.gw)) Via.refl (v := (.ref b')) (sV m2) ?_
    intro T13 B14
    refine r_static (D' := D11) B14 d10_44 (pc' := 47) rfl (W64 B14.gw) (W65 B14.gw) (W66 B14.gw) (W67 B14.gw) (by decide) (k_le W m1 m2 hx hy) (argsL := [(.ref b), (.ref b')]) (rest := []) rfl pd4 rfl rfl rfl (W := 0) rfl (by decide) (by decide) (cs' := 0) rfl (ss' := 0) rfl (by decide) (by decide) ?_
    intro T15 v16 B17
    replace B17 := Rn.ex B17
    obtain ⟨z, B17⟩ := B17
    replace B17 := Rn.and B17
    obtain ⟨rfl, B17⟩ := B17
    replace B17 := Rn.and B17
    obtain ⟨hz, B17⟩ := B17
    show Fn g D10 M _ (T15.setTop (mkF M.m 47 #[.val (.ref a), .val (.ref a'), .val (.ref a')] [(.int z)]))
    rcases hz with ⟨rfl, hz⟩ | ⟨rfl, hz⟩
    · refine b_ifF B17 d10_47 (pc' := 50) rfl (show ¬ (1 : Int32) = (0 : Int32) from by decide) ?_
      refine p_iconst B17 d10_50 (pc' := 51) rfl (v := (1 : Int32)) (by decide) ?_
      refine b_goto B17 d10_51 (pc' := 55) (by decide) (by decide) ?_
      exact r_reti B17 d10_55 rfl (by simp) rfl (by decide) (by decide) (fun vm h P => ⟨_, rfl, Or.inl ⟨rfl, hz⟩, P⟩)
    · refine b_ifT B17 d10_47 (pc' := 54) (show (0 : Int32) = (0 : Int32) from by decide) (by decide) (by decide) ?_
      refine p_iconst B17 d10_54 (pc' := 55) rfl (v := (0 : Int32)) (by decide) ?_
      exact r_reti B17 d10_55 rfl (by simp) rfl (by decide) (by decide) (fun vm h P => ⟨_, rfl, Or.inr ⟨rfl, hz⟩, P⟩)
def by8 (x : Int32) : Int32 := x.toInt8.toInt32
def lnf (p : Int32) : Int32 := ((p.toUInt32 >>> ((16 : Int32) &&& 31).toUInt32).toInt32 &&& (3 : Int32)) % (3 : Int32)
def c0f (p : Int32) : Int32 := (p &&& (255 : Int32)).toUInt32.toUInt16.toUInt32.toInt32
def c1f (p : Int32) : Int32 := ((p.toUInt32 >>> ((8 : Int32) &&& 31).toUInt32).toInt32 &&& (255 : Int32)).toUInt32.toUInt16.toUInt32.toInt32
def sx (x : Int32) : List Int32 := if lnf x = (0 : Int32) then [] else if lnf x = (1 : Int32) then [by8 (c0f x)] else [by8 (c0f x), by8 (c1f x)]
theorem sx_le (x : Int32) : (sx x).length < 2147483648 := by unfold sx; split <;> (try split) <;> simp
theorem l3 (x : Int32) : lnf x = (0 : Int32) ∨ lnf x = (1 : Int32) ∨ lnf x = (2 : Int32) := by
  have a := c_mask ((x.toUInt32 >>> ((16 : Int32) &&& 31).toUInt32).toInt32) 3 2 (by decide) rfl
  have b := c_irem ((x.toUInt32 >>> ((16 : Int32) &&& 31).toUInt32).toInt32 &&& (3 : Int32)) (3 : Int32) 3 rfl
  simp only [Nat.reducePow, Int.cast_ofNat_Int] at a
  simp only [lnf, ← Int32.toInt_inj, show (0 : Int32).toInt = 0 from rfl, show (1 : Int32).toInt = 1 from rfl, show (2 : Int32).toInt = 2 from rfl]
  omega
theorem by8_inj (x y : Int32) (h : by8 (x &&& (255 : Int32)) = by8 (y &&& (255 : Int32))) : x &&& (255 : Int32) = y &&& (255 : Int32) := by
  have a := c_mask x 255 8 (by decide) rfl
  have b := c_mask y 255 8 (by decide) rfl
  have c := (c_i2b (x &&& (255 : Int32))).1
  have d := (c_i2b (y &&& (255 : Int32))).1
  have e := congrArg Int32.toInt h
  simp only [by8] at e
  simp only [Nat.reducePow, Int.cast_ofNat_Int] at a b
  rw [← Int32.toInt_inj]
  omega
theorem c0_inj {x y : Int32} (h : by8 (c0f x) = by8 (c0f y)) : c0f x = c0f y := by
  simp only [c0f, i2c_mask] at h ⊢; exact by8_inj _ _ h
theorem c1_inj {x y : Int32} (h : by8 (c1f x) = by8 (c1f y)) : c1f x = c1f y := by
  simp only [c1f, i2c_mask] at h ⊢; exact by8_inj _ _ h
theorem sx0 {x : Int32} (h : lnf x = (0 : Int32)) : sx x = [] := by simp [sx, h]
theorem sx1 {x : Int32} (h : lnf x = (1 : Int32)) : sx x = [by8 (c0f x)] := by simp [sx, h]
theorem sx2 {x : Int32} (h0 : ¬ lnf x = (0 : Int32)) (h1 : ¬ lnf x = (1 : Int32)) : sx x = [by8 (c0f x), by8 (c1f x)] := by simp [sx, h0, h1]
theorem sx2' {x : Int32} (h : lnf x = (2 : Int32)) : sx x = [by8 (c0f x), by8 (c1f x)] := sx2 (by rw [h]; decide) (by rw [h]; decide)
theorem sx_len (x : Int32) : Int32.ofNat (sx x).length = lnf x := by
  rcases l3 x with h | h | h
  · rw [sx0 h, h]; rfl
  · rw [sx1 h, h]; rfl
  · rw [sx2' h, h]; rfl

theorem ef_len (x : Int32) (m : MethodId) : entryFrame m #[(.int x)] 1 = mkF m 0 #[.val (.int x)] [] := by first | (simp [entryFrame, mkF, argsToLocals, Value.category]; done) | rfl
abbrev D2 : DD := (⟨"com/example/postings/postings/model/TopicEqualsPinLaw", "len", "(I)I"⟩, method_2_code, 1, (some .int), { frames := 0, cells := 0, slots := 0, locals := 0 })
theorem k_len {g : GG} (W : GW g) (x : Int32) (H : List Ent) (Lt : List SE) : Ct g D2 #[.int x] H Lt (fun v vm h => v = some (.int (lnf x)) ∧ Hp g vm h H Lt) := by
  refine CtW.body W (by decide +kernel) (ef_len x) ?_
  intro M T B
  refine p_iloadN B d2_0 (pc' := 1) rfl rfl ?_
  refine p_bipush B d2_1 (pc' := 3) rfl (v := (16 : Int32)) (by decide) ?_
  refine p_iushr B d2_3 (pc' := 4) rfl rfl ?_
  refine p_iconst B d2_4 (pc' := 5) rfl (v := (3 : Int32)) (by decide) ?_
  refine p_iand B d2_5 (pc' := 6) rfl rfl ?_
  refine p_iconst B d2_6 (pc' := 7) rfl (v := (3 : Int32)) (by decide) ?_
  refine p_irem B d2_7 (pc' := 8) rfl (by decide) rfl ?_
  exact r_reti B d2_8 rfl (by simp) rfl (by decide) (by decide) (fun vm h P => ⟨rfl, P⟩)
theorem ef_c0 (x : Int32) (m : MethodId) : entryFrame m #[(.int x)] 1 = mkF m 0 #[.val (.int x)] [] := by first | (simp [entryFrame, mkF, argsToLocals, Value.category]; done) | rfl
abbrev D12 : DD := (⟨"com/example/postings/postings/model/TopicEqualsPinLaw", "c0", "(I)C"⟩, method_3_code, 1, (some .char), { frames := 0, cells := 0, slots := 0, locals := 0 })
theorem k_c0 {g : GG} (W : GW g) (x : Int32) (H : List Ent) (Lt : List SE) : Ct g D12 #[.int x] H Lt (fun v vm h => v = some (.int (c0f x)) ∧ Hp g vm h H Lt) := by
  refine CtW.body W (by decide +kernel) (ef_c0 x) ?_
  intro M T B
  refine p_iloadN B d12_0 (pc' := 1) rfl rfl ?_
  refine p_sipush B d12_1 (pc' := 4) rfl (v := (255 : Int32)) (by decide) ?_
  refine p_iand B d12_4 (pc' := 5) rfl rfl ?_
  refine p_i2c B d12_5 (pc' := 6) rfl ?_
  exact r_reti B d12_6 rfl (by simp) (Jvm.Free.XT.narrow_c _) (by decide) (by decide) (fun vm h P => ⟨rfl, P⟩)
theorem ef_c1 (x : Int32) (m : MethodId) : entryFrame m #[(.int x)] 1 = mkF m 0 #[.val (.int x)] [] := by first | (simp [entryFrame, mkF, argsToLocals, Value.category]; done) | rfl
abbrev D13 : DD := (⟨"com/example/postings/postings/model/TopicEqualsPinLaw", "c1", "(I)C"⟩, method_4_code, 1, (some .char), { frames := 0, cells := 0, slots := 0, locals := 0 })
theorem k_c1 {g : GG} (W : GW g) (x : Int32) (H : List Ent) (Lt : List SE) : Ct g D13 #[.int x] H Lt (fun v vm h => v = some (.int (c1f x)) ∧ Hp g vm h H Lt) := by
  refine CtW.body W (by decide +kernel) (ef_c1 x) ?_
  intro M T B
  refine p_iloadN B d13_0 (pc' := 1) rfl rfl ?_
  refine p_bipush B d13_1 (pc' := 3) rfl (v := (8 : Int32)) (by decide) ?_
  refine p_iushr B d13_3 (pc' := 4) rfl rfl ?_
  refine p_sipush B d13_4 (pc' := 7) rfl (v := (255 : Int32)) (by decide) ?_
  refine p_iand B d13_7 (pc' := 8) rfl rfl ?_
  refine p_i2c B d13_8 (pc' := 9) rfl ?_
  exact r_reti B d13_9 rfl (by simp) (Jvm.Free.XT.narrow_c _) (by decide) (by decide) (fun vm h P => ⟨rfl, P⟩)
theorem ef_str (x : Int32) (m : MethodId) : entryFrame m #[(.int x)] 3 = mkF m 0 #[.val (.int x), .unset, .unset] [] := by first | (simp [entryFrame, mkF, argsToLocals, Value.category]; done) | rfl
abbrev D1 : DD := (⟨"com/example/postings/postings/model/TopicEqualsPinLaw", "str", "(I)Ljava/lang/String;"⟩, method_5_code, 3, (some (.object "java/lang/String")), { frames := 4, cells := 6, slots := 14, locals := 66 })
theorem k_str {g : GG} (W : GW g) (x : Int32) (H : List Ent) (Lt : List SE) : Ct g D1 #[.int x] H Lt (fun v vm h => ∃ a b, v = some (.ref a) ∧ Hp g vm h H ((a, b, 0, (sx x).map Value.int) :: Lt)) := by
  refine CtW.body W (by decide +kernel) (ef_str x) ?_
  intro M T B
  refine p_iloadN B d1_0 (pc' := 1) rfl rfl ?_
  refine r_static (D' := D2) B d1_1 (pc' := 4) rfl (W7 B.gw) (W8 B.gw) (W5 B.gw) (W9 B.gw) (by decide) (k_len W x _ _) (argsL := [(.int x)]) (rest := []) rfl pd5 rfl rfl rfl (W := 0) rfl (by decide) (by decide) (cs' := 0) rfl (ss' := 0) rfl (by decide) (by decide) ?_
  intro T1 v2 B3
  replace B3 := Rn.and B3
  obtain ⟨rfl, B3⟩ := B3
  show Fn g D1 M _ (T1.setTop (mkF M.m 4 #[.val (.int x), .unset, .unset] [(.int (lnf x))]))
  refine p_istoreN B3 d1_4 (pc' := 5) rfl (Ls' := #[.val (.int x), .val (.int (lnf x)), .unset]) rfl ?_
  refine p_iloadN B3 d1_5 (pc' := 6) rfl rfl ?_
  by_cases h0 : (lnf x) = (0 : Int32)
  · refine b_ifF B3 d1_6 (pc' := 9) rfl h0 ?_
    refine r_new B3 d1_9 (pc' := 12) rfl (W10 B3.gw) (W11 B3.gw) (W12 B3.gw) (Ly_o_String B3.gw) (by decide) (cs' := 1) rfl (ss' := 4) rfl (by decide) (by decide) ?_
    intro T4 a6 B5
    refine p_dup B5 d1_12 (pc' := 13) rfl rfl ?_
    refine p_iconst B5 d1_13 (pc' := 14) rfl (v := (0 : Int32)) (by decide) ?_
    refine r_newp B5 d1_14 (pc' := 16) rfl (ty := .char) (W13 B5.gw) rfl (by decide) (nn := 0) (by decide) (cap := 0) (by decide) (by decide) (cs' := 2) rfl (ss' := 4) rfl (by decide) (by decide) (ad := "[C") (by decide) (by decide) nofun (vs := []) rfl ?_
    intro T7 a9 B8
    have B10 : RH g D1 M T7 (o_String a6 .null (.int (0 : Int32)) :: (a9, .inr (.char, "[C", [])) :: H) (Lt) 2 4 := B8.front (i := 1) rfl rfl
    refine r_special (D' := D3) B10 d1_16 (pc' := 19) rfl rfl rfl (W14 B10.gw) (W15 B10.gw) (W12 B10.gw) (W16 B10.gw) (by decide) (k_i1 W a6 a9 "[C" ([] : List Int32) (by simp) (by simp) (H) (Lt)) (a := a6) (argsL := [(.ref a9)]) (rest := [(.ref a6)]) rfl pd6 rfl rfl rfl (W := 1) rfl (by decide) (by decide) (cs' := 6) rfl (ss' := 12) rfl (by decide) (by decide) ?_
    intro T11 v12 B13
    replace B13 := Rn.and B13
    obtain ⟨rfl, B13⟩ := B13
    replace B13 := Rn.ex B13
    obtain ⟨b14, B13⟩ := B13
    have B15 : RH g D1 M T11 (H) ((a6, b14, 0, []) :: Lt) 6 12 := B13.del 0 rfl
    show Fn g D1 M _ (T11.setTop (mkF M.m 19 #[.val (.int x), .val (.int (lnf x)), .unset] [(.ref a6)]))
    exact r_reta B15 d1_19 rfl rfl rfl (by decide) (by decide) (fun vm h P => ⟨_, _, rfl, by rw [sx0 h0]; exact P⟩)
  · refine b_ifT B3 d1_6 (pc' := 20) h0 (by decide) (by decide) ?_
    refine p_iloadN B3 d1_20 (pc' := 21) rfl rfl ?_
    refine p_iconst B3 d1_21 (pc' := 22) rfl (v := (1 : Int32)) (by decide) ?_
    by_cases h1 : (lnf x) = (1 : Int32)
    · refine b_icF B3 d1_22 (pc' := 25) rfl h1 ?_
      refine p_iconst B3 d1_25 (pc' := 26) rfl (v := (1 : Int32)) (by decide) ?_
      refine r_newp B3 d1_26 (pc' := 28) rfl (ty := .char) (W13 B3.gw) rfl (by decide) (nn := 1) (by decide) (cap := 1) (by decide) (by decide) (cs' := 1) rfl (ss' := 1) rfl (by decide) (by decide) (ad := "[C") (by decide) (by decide) nofun (vs := [(.int (0 : Int32))]) rfl ?_
      intro T16 a18 B17
      refine p_astoreN B17 d1_28 (pc' := 29) rfl rfl (Ls' := #[.val (.int x), .val (.int (lnf x)), .val (.ref a18)]) rfl ?_
      refine p_aloadN B17 d1_29 (pc' := 30) rfl rfl rfl ?_
      refine p_iconst B17 d1_30 (pc' := 31) rfl (v := (0 : Int32)) (by decide) ?_
      refine p_iloadN B17 d1_31 (pc' := 32) rfl rfl ?_
      refine r_static (D' := D12) B17 d1_32 (pc' := 35) rfl (W70 B17.gw) (W71 B17.gw) (W5 B17.gw) (W72 B17.gw) (by decide) (k_c0 W x _ _) (argsL := [(.int x)]) (rest := [(.int (0 : Int32)), (.ref a18)]) rfl pd7 rfl rfl rfl (W := 2) rfl (by decide) (by decide) (cs' := 1) rfl (ss' := 1) rfl (by decide) (by decide) ?_
      intro T19 v20 B21
      replace B21 := Rn.and B21
      obtain ⟨rfl, B21⟩ := B21
      show Fn g D1 M _ (T19.setTop (mkF M.m 35 #[.val (.int x), .val (.int (lnf x)), .val (.ref a18)] [(.int (c0f x)), (.int (0 : Int32)), (.ref a18)]))
      refine r_castore B21 d1_35 (pc' := 36) rfl (i := 0) rfl (by decide) (k := 0) (by decide) (by simp) (x' := (c0f x)) (ch_ch _) (H' := ((a18, .inr (.char, "[C", [(.int (c0f x))])) :: H)) rfl ?_
      intro T22 B23
      refine r_new B23 d1_36 (pc' := 39) rfl (W10 B23.gw) (W11 B23.gw) (W12 B23.gw) (Ly_o_String B23.gw) (by decide) (cs' := 2) rfl (ss' := 5) rfl (by decide) (by decide) ?_
      intro T24 a26 B25
      refine p_dup B25 d1_39 (pc' := 40) rfl rfl ?_
      refine p_aloadN B25 d1_40 (pc' := 41) rfl rfl rfl ?_
      have B27 : RH g D1 M T24 ((a18, .inr (.char, "[C", [(.int (c0f x))])) :: o_String a26 .null (.int (0 : Int32)) :: H) (Lt) 2 5 := B25.front (i := 1) rfl rfl
      have B28 : RH g D1 M T24 (o_String a26 .null (.int (0 : Int32)) :: (a18, .inr (.char, "[C", [(.int (c0f x))])) :: H) (Lt) 2 5 := B27.front (i := 1) rfl rfl
      refine r_special (D' := D3) B28 d1_41 (pc' := 44) rfl rfl rfl (W14 B28.gw) (W15 B28.gw) (W12 B28.gw) (W16 B28.gw) (by decide) (k_i1 W a26 a18 "[C" ([(c0f x)] : List Int32) (by simp only [List.mem_cons, List.not_mem_nil, or_false, forall_eq_or_imp, forall_eq]; exact le255 _) (by simp) (H) (Lt)) (a := a26) (argsL := [(.ref a18)]) (rest := [(.ref a26)]) rfl pd6 rfl rfl rfl (W := 1) rfl (by decide) (by decide) (cs' := 6) rfl (ss' := 13) rfl (by decide) (by decide) ?_
      intro T29 v30 B31
      replace B31 := Rn.and B31
      obtain ⟨rfl, B31⟩ := B31
      replace B31 := Rn.ex B31
      obtain ⟨b32, B31⟩ := B31
      have B33 : RH g D1 M T29 (H) ((a26, b32, 0, [(bV (c0f x))]) :: Lt) 6 13 := B31.del 0 rfl
      show Fn g D1 M _ (T29.setTop (mkF M.m 44 #[.val (.int x), .val (.int (lnf x)), .val (.ref a18)] [(.ref a26)]))
      exact r_reta B33 d1_44 rfl rfl rfl (by decide) (by decide) (fun vm h P => ⟨_, _, rfl, by rw [sx1 h1]; exact P⟩)
    · refine b_icT B3 d1_22 (pc' := 45) h1 (by decide) (by decide) ?_
      refine p_iconst B3 d1_45 (pc' := 46) rfl (v := (2 : Int32)) (by decide) ?_
      refine r_newp B3 d1_46 (pc' := 48) rfl (ty := .char) (W13 B3.gw) rfl (by decide) (nn := 2) (by decide) (cap := 2) (by decide) (by decide) (cs' := 1) rfl (ss' := 2) rfl (by decide) (by decide) (ad := "[C") (by decide) (by decide) nofun (vs := [(.int (0 : Int32)), (.int (0 : Int32))]) rfl ?_
      intro T34 a36 B35
      refine p_astoreN B35 d1_48 (pc' := 49) rfl rfl (Ls' := #[.val (.int x), .val (.int (lnf x)), .val (.ref a36)]) rfl ?_
      refine p_aloadN B35 d1_49 (pc' := 50) rfl rfl rfl ?_
      refine p_iconst B35 d1_50 (pc' := 51) rfl (v := (0 : Int32)) (by decide) ?_
      refine p_iloadN B35 d1_51 (pc' := 52) rfl rfl ?_
      refine r_static (D' := D12) B35 d1_52 (pc' := 55) rfl (W70 B35.gw) (W71 B35.gw) (W5 B35.gw) (W72 B35.gw) (by decide) (k_c0 W x _ _) (argsL := [(.int x)]) (rest := [(.int (0 : Int32)), (.ref a36)]) rfl pd7 rfl rfl rfl (W := 2) rfl (by decide) (by decide) (cs' := 1) rfl (ss' := 2) rfl (by decide) (by decide) ?_
      intro T37 v38 B39
      replace B39 := Rn.and B39
      obtain ⟨rfl, B39⟩ := B39
      show Fn g D1 M _ (T37.setTop (mkF M.m 55 #[.val (.int x), .val (.int (lnf x)), .val (.ref a36)] [(.int (c0f x)), (.int (0 : Int32)), (.ref a36)]))
      refine r_castore B39 d1_55 (pc' := 56) rfl (i := 0) rfl (by decide) (k := 0) (by decide) (by simp) (x' := (c0f x)) (ch_ch _) (H' := ((a36, .inr (.char, "[C", [(.int (c0f x)), (.int (0 : Int32))])) :: H)) rfl ?_
      intro T40 B41
      refine p_aloadN B41 d1_56 (pc' := 57) rfl rfl rfl ?_
      refine p_iconst B41 d1_57 (pc' := 58) rfl (v := (1 : Int32)) (by decide) ?_
      refine p_iloadN B41 d1_58 (pc' := 59) rfl rfl ?_
      refine r_static (D' := D13) B41 d1_59 (pc' := 62) rfl (W73 B41.gw) (W74 B41.gw) (W5 B41.gw) (W75 B41.gw) (by decide) (k_c1 W x _ _) (argsL := [(.int x)]) (rest := [(.int (1 : Int32)), (.ref a36)]) rfl pd7 rfl rfl rfl (W := 2) rfl (by decide) (by decide) (cs' := 1) rfl (ss' := 2) rfl (by decide) (by decide) ?_
      intro T42 v43 B44
      replace B44 := Rn.and B44
      obtain ⟨rfl, B44⟩ := B44
      show Fn g D1 M _ (T42.setTop (mkF M.m 62 #[.val (.int x), .val (.int (lnf x)), .val (.ref a36)] [(.int (c1f x)), (.int (1 : Int32)), (.ref a36)]))
      refine r_castore B44 d1_62 (pc' := 63) rfl (i := 0) rfl (by decide) (k := 1) (by decide) (by simp) (x' := (c1f x)) (ch_ch _) (H' := ((a36, .inr (.char, "[C", [(.int (c0f x)), (.int (c1f x))])) :: H)) rfl ?_
      intro T45 B46
      refine r_new B46 d1_63 (pc' := 66) rfl (W10 B46.gw) (W11 B46.gw) (W12 B46.gw) (Ly_o_String B46.gw) (by decide) (cs' := 2) rfl (ss' := 6) rfl (by decide) (by decide) ?_
      intro T47 a49 B48
      refine p_dup B48 d1_66 (pc' := 67) rfl rfl ?_
      refine p_aloadN B48 d1_67 (pc' := 68) rfl rfl rfl ?_
      have B50 : RH g D1 M T47 ((a36, .inr (.char, "[C", [(.int (c0f x)), (.int (c1f x))])) :: o_String a49 .null (.int (0 : Int32)) :: H) (Lt) 2 6 := B48.front (i := 1) rfl rfl
      have B51 : RH g D1 M T47 (o_String a49 .null (.int (0 : Int32)) :: (a36, .inr (.char, "[C", [(.int (c0f x)), (.int (c1f x))])) :: H) (Lt) 2 6 := B50.front (i := 1) rfl rfl
      refine r_special (D' := D3) B51 d1_68 (pc' := 71) rfl rfl rfl (W14 B51.gw) (W15 B51.gw) (W12 B51.gw) (W16 B51.gw) (by decide) (k_i1 W a49 a36 "[C" ([(c0f x), (c1f x)] : List Int32) (by simp only [List.mem_cons, List.not_mem_nil, or_false, forall_eq_or_imp, forall_eq]; exact ⟨le255 _, le255 _⟩) (by simp) (H) (Lt)) (a := a49) (argsL := [(.ref a36)]) (rest := [(.ref a49)]) rfl pd6 rfl rfl rfl (W := 1) rfl (by decide) (by decide) (cs' := 6) rfl (ss' := 14) rfl (by decide) (by decide) ?_
      intro T52 v53 B54
      replace B54 := Rn.and B54
      obtain ⟨rfl, B54⟩ := B54
      replace B54 := Rn.ex B54
      obtain ⟨b55, B54⟩ := B54
      have B56 : RH g D1 M T52 (H) ((a49, b55, 0, [(bV (c0f x)), (bV (c1f x))]) :: Lt) 6 14 := B54.del 0 rfl
      show Fn g D1 M _ (T52.setTop (mkF M.m 71 #[.val (.int x), .val (.int (lnf x)), .val (.ref a36)] [(.ref a49)]))
      exact r_reta B56 d1_71 rfl rfl rfl (by decide) (by decide) (fun vm h P => ⟨_, _, rfl, by rw [sx2 h0 h1]; exact P⟩)
theorem ef_same (x y : Int32) (m : MethodId) : entryFrame m #[(.int x), (.int y)] 3 = mkF m 0 #[.val (.int x), .val (.int y), .unset] [] := by first | (simp [entryFrame, mkF, argsToLocals, Value.category]; done) | rfl
abbrev D8 : DD := (⟨"com/example/postings/postings/model/TopicEqualsPinLaw", "same", "(II)Z"⟩, method_6_code, 3, (some .boolean), { frames := 1, cells := 0, slots := 0, locals := 13 })
theorem k_same {g : GG} (W : GW g) (x y : Int32) (H : List Ent) (Lt : List SE) : Ct g D8 #[.int x, .int y] H Lt (fun v vm h => ∃ z : Int32, v = some (.int z) ∧ (z = 1 ∧ sx x = sx y ∨ z = 0 ∧ ¬ sx x = sx y) ∧ Hp g vm h H Lt) := by
  refine CtW.body W (by decide +kernel) (ef_same x y) ?_
  intro M T B
  refine p_iloadN B d8_0 (pc' := 1) rfl rfl ?_
  refine r_static (D' := D2) B d8_1 (pc' := 4) rfl (W7 B.gw) (W8 B.gw) (W5 B.gw) (W9 B.gw) (by decide) (k_len W x _ _) (argsL := [(.int x)]) (rest := []) rfl pd5 rfl rfl rfl (W := 0) rfl (by decide) (by decide) (cs' := 0) rfl (ss' := 0) rfl (by decide) (by decide) ?_
  intro T1 v2 B3
  replace B3 := Rn.and B3
  obtain ⟨rfl, B3⟩ := B3
  show Fn g D8 M _ (T1.setTop (mkF M.m 4 #[.val (.int x), .val (.int y), .unset] [(.int (lnf x))]))
  rcases l3 x with e | e | e
  · rw [e]
    refine p_istoreN B3 d8_4 (pc' := 5) rfl (Ls' := #[.val (.int x), .val (.int y), .val (.int (0 : Int32))]) rfl ?_
    refine p_iloadN B3 d8_5 (pc' := 6) rfl rfl ?_
    refine p_iloadN B3 d8_6 (pc' := 7) rfl rfl ?_
    refine r_static (D' := D2) B3 d8_7 (pc' := 10) rfl (W7 B3.gw) (W8 B3.gw) (W5 B3.gw) (W9 B3.gw) (by decide) (k_len W y _ _) (argsL := [(.int y)]) (rest := [(.int (0 : Int32))]) rfl pd5 rfl rfl rfl (W := 1) rfl (by decide) (by decide) (cs' := 0) rfl (ss' := 0) rfl (by decide) (by decide) ?_
    intro T4 v5 B6
    replace B6 := Rn.and B6
    obtain ⟨rfl, B6⟩ := B6
    show Fn g D8 M _ (T4.setTop (mkF M.m 10 #[.val (.int x), .val (.int y), .val (.int (0 : Int32))] [(.int (lnf y)), (.int (0 : Int32))]))
    by_cases hL : (0 : Int32) = (lnf y)
    · refine b_icT B6 d8_10 (pc' := 15) hL (by decide) (by decide) ?_
      have ey : lnf y = (0 : Int32) := hL.symm
      refine p_iloadN B6 d8_15 (pc' := 16) rfl rfl ?_
      refine p_iconst B6 d8_16 (pc' := 17) rfl (v := (1 : Int32)) (by decide) ?_
      refine b_icT B6 d8_17 (pc' := 33) (show (0 : Int32) < (1 : Int32) from by decide) (by decide) (by decide) ?_
      refine p_iloadN B6 d8_33 (pc' := 34) rfl rfl ?_
      refine p_iconst B6 d8_34 (pc' := 35) rfl (v := (2 : Int32)) (by decide) ?_
      refine b_icT B6 d8_35 (pc' := 51) (show (0 : Int32) < (2 : Int32) from by decide) (by decide) (by decide) ?_
      refine p_iconst B6 d8_51 (pc' := 52) rfl (v := (1 : Int32)) (by decide) ?_
      exact r_reti B6 d8_52 rfl (by simp) rfl (by decide) (by decide) (fun vm h P => ⟨_, rfl, Or.inl ⟨rfl, by rw [sx0 e, sx0 ey]⟩, P⟩)
    · refine b_icF B6 d8_10 (pc' := 13) rfl hL ?_
      refine p_iconst B6 d8_13 (pc' := 14) rfl (v := (0 : Int32)) (by decide) ?_
      exact r_reti B6 d8_14 rfl (by simp) rfl (by decide) (by decide) (fun vm h P => ⟨_, rfl, Or.inr ⟨rfl, fun q => hL (by rw [← e, ← sx_len x, ← sx_len y, q])⟩, P⟩)
  · rw [e]
    refine p_istoreN B3 d8_4 (pc' := 5) rfl (Ls' := #[.val (.int x), .val (.int y), .val (.int (1 : Int32))]) rfl ?_
    refine p_iloadN B3 d8_5 (pc' := 6) rfl rfl ?_
    refine p_iloadN B3 d8_6 (pc' := 7) rfl rfl ?_
    refine r_static (D' := D2) B3 d8_7 (pc' := 10) rfl (W7 B3.gw) (W8 B3.gw) (W5 B3.gw) (W9 B3.gw) (by decide) (k_len W y _ _) (argsL := [(.int y)]) (rest := [(.int (1 : Int32))]) rfl pd5 rfl rfl rfl (W := 1) rfl (by decide) (by decide) (cs' := 0) rfl (ss' := 0) rfl (by decide) (by decide) ?_
    intro T7 v8 B9
    replace B9 := Rn.and B9
    obtain ⟨rfl, B9⟩ := B9
    show Fn g D8 M _ (T7.setTop (mkF M.m 10 #[.val (.int x), .val (.int y), .val (.int (1 : Int32))] [(.int (lnf y)), (.int (1 : Int32))]))
    by_cases hL : (1 : Int32) = (lnf y)
    · refine b_icT B9 d8_10 (pc' := 15) hL (by decide) (by decide) ?_
      have ey : lnf y = (1 : Int32) := hL.symm
      refine p_iloadN B9 d8_15 (pc' := 16) rfl rfl ?_
      refine p_iconst B9 d8_16 (pc' := 17) rfl (v := (1 : Int32)) (by decide) ?_
      refine b_icF B9 d8_17 (pc' := 20) rfl (show ¬ (1 : Int32) < (1 : Int32) from by decide) ?_
      refine p_iloadN B9 d8_20 (pc' := 21) rfl rfl ?_
      refine r_static (D' := D12) B9 d8_21 (pc' := 24) rfl (W70 B9.gw) (W71 B9.gw) (W5 B9.gw) (W72 B9.gw) (by decide) (k_c0 W x _ _) (argsL := [(.int x)]) (rest := []) rfl pd7 rfl rfl rfl (W := 0) rfl (by decide) (by decide) (cs' := 0) rfl (ss' := 0) rfl (by decide) (by decide) ?_
      intro T10 v11 B12
      replace B12 := Rn.and B12
      obtain ⟨rfl, B12⟩ := B12
      show Fn g D8 M _ (T10.setTop (mkF M.m 24 #[.val (.int x), .val (.int y), .val (.int (1 : Int32))] [(.int (c0f x))]))
      refine p_iloadN B12 d8_24 (pc' := 25) rfl rfl ?_
      refine r_static (D' := D12) B12 d8_25 (pc' := 28) rfl (W70 B12.gw) (W71 B12.gw) (W5 B12.gw) (W72 B12.gw) (by decide) (k_c0 W y _ _) (argsL := [(.int y)]) (rest := [(.int (c0f x))]) rfl pd7 rfl rfl rfl (W := 1) rfl (by decide) (by decide) (cs' := 0) rfl (ss' := 0) rfl (by decide) (by decide) ?_
      intro T13 v14 B15
      replace B15 := Rn.and B15
      obtain ⟨rfl, B15⟩ := B15
      show Fn g D8 M _ (T13.setTop (mkF M.m 28 #[.val (.int x), .val (.int y), .val (.int (1 : Int32))] [(.int (c0f y)), (.int (c0f x))]))
      by_cases hq16 : (c0f x) = (c0f y)
      · refine b_icT B15 d8_28 (pc' := 33) hq16 (by decide) (by decide) ?_
        refine p_iloadN B15 d8_33 (pc' := 34) rfl rfl ?_
        refine p_iconst B15 d8_34 (pc' := 35) rfl (v := (2 : Int32)) (by decide) ?_
        refine b_icT B15 d8_35 (pc' := 51) (show (1 : Int32) < (2 : Int32) from by decide) (by decide) (by decide) ?_
        refine p_iconst B15 d8_51 (pc' := 52) rfl (v := (1 : Int32)) (by decide) ?_
        exact r_reti B15 d8_52 rfl (by simp) rfl (by decide) (by decide) (fun vm h P => ⟨_, rfl, Or.inl ⟨rfl, by rw [sx1 e, sx1 ey, hq16]⟩, P⟩)
      · refine b_icF B15 d8_28 (pc' := 31) rfl hq16 ?_
        refine p_iconst B15 d8_31 (pc' := 32) rfl (v := (0 : Int32)) (by decide) ?_
        exact r_reti B15 d8_32 rfl (by simp) rfl (by decide) (by decide) (fun vm h P => ⟨_, rfl, Or.inr ⟨rfl, fun q => by rw [sx1 e, sx1 ey] at q; simp only [List.cons.injEq] at q; exact hq16 (c0_inj q.1)⟩, P⟩)
    · refine b_icF B9 d8_10 (pc' := 13) rfl hL ?_
      refine p_iconst B9 d8_13 (pc' := 14) rfl (v := (0 : Int32)) (by decide) ?_
      exact r_reti B9 d8_14 rfl (by simp) rfl (by decide) (by decide) (fun vm h P => ⟨_, rfl, Or.inr ⟨rfl, fun q => hL (by rw [← e, ← sx_len x, ← sx_len y, q])⟩, P⟩)
  · rw [e]
    refine p_istoreN B3 d8_4 (pc' := 5) rfl (Ls' := #[.val (.int x), .val (.int y), .val (.int (2 : Int32))]) rfl ?_
    refine p_iloadN B3 d8_5 (pc' := 6) rfl rfl ?_
    refine p_iloadN B3 d8_6 (pc' := 7) rfl rfl ?_
    refine r_static (D' := D2) B3 d8_7 (pc' := 10) rfl (W7 B3.gw) (W8 B3.gw) (W5 B3.gw) (W9 B3.gw) (by decide) (k_len W y _ _) (argsL := [(.int y)]) (rest := [(.int (2 : Int32))]) rfl pd5 rfl rfl rfl (W := 1) rfl (by decide) (by decide) (cs' := 0) rfl (ss' := 0) rfl (by decide) (by decide) ?_
    intro T17 v18 B19
    replace B19 := Rn.and B19
    obtain ⟨rfl, B19⟩ := B19
    show Fn g D8 M _ (T17.setTop (mkF M.m 10 #[.val (.int x), .val (.int y), .val (.int (2 : Int32))] [(.int (lnf y)), (.int (2 : Int32))]))
    by_cases hL : (2 : Int32) = (lnf y)
    · refine b_icT B19 d8_10 (pc' := 15) hL (by decide) (by decide) ?_
      have ey : lnf y = (2 : Int32) := hL.symm
      refine p_iloadN B19 d8_15 (pc' := 16) rfl rfl ?_
      refine p_iconst B19 d8_16 (pc' := 17) rfl (v := (1 : Int32)) (by decide) ?_
      refine b_icF B19 d8_17 (pc' := 20) rfl (show ¬ (2 : Int32) < (1 : Int32) from by decide) ?_
      refine p_iloadN B19 d8_20 (pc' := 21) rfl rfl ?_
      refine r_static (D' := D12) B19 d8_21 (pc' := 24) rfl (W70 B19.gw) (W71 B19.gw) (W5 B19.gw) (W72 B19.gw) (by decide) (k_c0 W x _ _) (argsL := [(.int x)]) (rest := []) rfl pd7 rfl rfl rfl (W := 0) rfl (by decide) (by decide) (cs' := 0) rfl (ss' := 0) rfl (by decide) (by decide) ?_
      intro T20 v21 B22
      replace B22 := Rn.and B22
      obtain ⟨rfl, B22⟩ := B22
      show Fn g D8 M _ (T20.setTop (mkF M.m 24 #[.val (.int x), .val (.int y), .val (.int (2 : Int32))] [(.int (c0f x))]))
      refine p_iloadN B22 d8_24 (pc' := 25) rfl rfl ?_
      refine r_static (D' := D12) B22 d8_25 (pc' := 28) rfl (W70 B22.gw) (W71 B22.gw) (W5 B22.gw) (W72 B22.gw) (by decide) (k_c0 W y _ _) (argsL := [(.int y)]) (rest := [(.int (c0f x))]) rfl pd7 rfl rfl rfl (W := 1) rfl (by decide) (by decide) (cs' := 0) rfl (ss' := 0) rfl (by decide) (by decide) ?_
      intro T23 v24 B25
      replace B25 := Rn.and B25
      obtain ⟨rfl, B25⟩ := B25
      show Fn g D8 M _ (T23.setTop (mkF M.m 28 #[.val (.int x), .val (.int y), .val (.int (2 : Int32))] [(.int (c0f y)), (.int (c0f x))]))
      by_cases hq26 : (c0f x) = (c0f y)
      · refine b_icT B25 d8_28 (pc' := 33) hq26 (by decide) (by decide) ?_
        refine p_iloadN B25 d8_33 (pc' := 34) rfl rfl ?_
        refine p_iconst B25 d8_34 (pc' := 35) rfl (v := (2 : Int32)) (by decide) ?_
        refine b_icF B25 d8_35 (pc' := 38) rfl (show ¬ (2 : Int32) < (2 : Int32) from by decide) ?_
        refine p_iloadN B25 d8_38 (pc' := 39) rfl rfl ?_
        refine r_static (D' := D13) B25 d8_39 (pc' := 42) rfl (W73 B25.gw) (W74 B25.gw) (W5 B25.gw) (W75 B25.gw) (by decide) (k_c1 W x _ _) (argsL := [(.int x)]) (rest := []) rfl pd7 rfl rfl rfl (W := 0) rfl (by decide) (by decide) (cs' := 0) rfl (ss' := 0) rfl (by decide) (by decide) ?_
        intro T27 v28 B29
        replace B29 := Rn.and B29
        obtain ⟨rfl, B29⟩ := B29
        show Fn g D8 M _ (T27.setTop (mkF M.m 42 #[.val (.int x), .val (.int y), .val (.int (2 : Int32))] [(.int (c1f x))]))
        refine p_iloadN B29 d8_42 (pc' := 43) rfl rfl ?_
        refine r_static (D' := D13) B29 d8_43 (pc' := 46) rfl (W73 B29.gw) (W74 B29.gw) (W5 B29.gw) (W75 B29.gw) (by decide) (k_c1 W y _ _) (argsL := [(.int y)]) (rest := [(.int (c1f x))]) rfl pd7 rfl rfl rfl (W := 1) rfl (by decide) (by decide) (cs' := 0) rfl (ss' := 0) rfl (by decide) (by decide) ?_
        intro T30 v31 B32
        replace B32 := Rn.and B32
        obtain ⟨rfl, B32⟩ := B32
        show Fn g D8 M _ (T30.setTop (mkF M.m 46 #[.val (.int x), .val (.int y), .val (.int (2 : Int32))] [(.int (c1f y)), (.int (c1f x))]))
        by_cases hq33 : (c1f x) = (c1f y)
        · refine b_icT B32 d8_46 (pc' := 51) hq33 (by decide) (by decide) ?_
          refine p_iconst B32 d8_51 (pc' := 52) rfl (v := (1 : Int32)) (by decide) ?_
          exact r_reti B32 d8_52 rfl (by simp) rfl (by decide) (by decide) (fun vm h P => ⟨_, rfl, Or.inl ⟨rfl, by rw [sx2' e, sx2' ey, hq26, hq33]⟩, P⟩)
        · refine b_icF B32 d8_46 (pc' := 49) rfl hq33 ?_
          refine p_iconst B32 d8_49 (pc' := 50) rfl (v := (0 : Int32)) (by decide) ?_
          exact r_reti B32 d8_50 rfl (by simp) rfl (by decide) (by decide) (fun vm h P => ⟨_, rfl, Or.inr ⟨rfl, fun q => by rw [sx2' e, sx2' ey] at q; simp only [List.cons.injEq] at q; exact hq33 (c1_inj q.2.1)⟩, P⟩)
      · refine b_icF B25 d8_28 (pc' := 31) rfl hq26 ?_
        refine p_iconst B25 d8_31 (pc' := 32) rfl (v := (0 : Int32)) (by decide) ?_
        exact r_reti B25 d8_32 rfl (by simp) rfl (by decide) (by decide) (fun vm h P => ⟨_, rfl, Or.inr ⟨rfl, fun q => by rw [sx2' e, sx2' ey] at q; simp only [List.cons.injEq] at q; exact hq26 (c0_inj q.1)⟩, P⟩)
    · refine b_icF B19 d8_10 (pc' := 13) rfl hL ?_
      refine p_iconst B19 d8_13 (pc' := 14) rfl (v := (0 : Int32)) (by decide) ?_
      exact r_reti B19 d8_14 rfl (by simp) rfl (by decide) (by decide) (fun vm h P => ⟨_, rfl, Or.inr ⟨rfl, fun q => hL (by rw [← e, ← sx_len x, ← sx_len y, q])⟩, P⟩)
theorem ef_rnn (a b : Addr) (m : MethodId) : entryFrame m #[(.ref a), (.ref b)] 2 = mkF m 0 #[.val (.ref a), .val (.ref b)] [] := by first | (simp [entryFrame, mkF, argsToLocals, Value.category]; done) | rfl
abbrev D7 : DD := (⟨"java/util/Objects", "requireNonNull", "(Ljava/lang/Object;Ljava/lang/String;)Ljava/lang/Object;"⟩, jdk_31_method_11_code, 2, (some (.object "java/lang/Object")), { frames := 0, cells := 0, slots := 0, locals := 0 })
theorem k_rnn {g : GG} (W : GW g) (a b : Addr) (H : List Ent) (Lt : List SE) : Ct g D7 #[.ref a, .ref b] H Lt (fun v vm h => v = some (.ref a) ∧ Hp g vm h H Lt) := by
  refine CtW.body W (by decide +kernel) (ef_rnn a b) ?_
  intro M T B
  refine p_aloadN B d7_0 (pc' := 1) rfl rfl rfl ?_
  refine b_nnT B d7_1 (pc' := 13) (by decide) (by decide) ?_
  refine p_aloadN B d7_13 (pc' := 14) rfl rfl rfl ?_
  exact r_reta B d7_14 rfl rfl rfl (by decide) (by decide) (fun vm h P => ⟨rfl, P⟩)
theorem ef_di (d s1 s2 : Addr) (m : MethodId) : entryFrame m #[(.ref d), (.ref s1), (.ref s2)] 3 = mkF m 0 #[.val (.ref d), .val (.ref s1), .val (.ref s2)] [] := by first | (simp [entryFrame, mkF, argsToLocals, Value.category]; done) | rfl
abbrev D6 : DD := (⟨"com/example/postings/postings/model/Topic", "<init>", "(Ljava/lang/String;Ljava/lang/String;)V"⟩, prog_43_method_1_code, 3, none, { frames := 1, cells := 4, slots := 52, locals := 14 })
theorem k_di {g : GG} (W : GW g) (d s1 s2 : Addr) {b1 b2 : Addr} {c1 c2 : Int32} {xs ys : List Value} {Lt : List SE} (m1 : (s1, b1, c1, xs) ∈ Lt) (m2 : (s2, b2, c2, ys) ∈ Lt) (H : List Ent) : Ct g D6 #[.ref d, .ref s1, .ref s2] (o_Topic d .null .null :: H) Lt (fun v vm h => v = none ∧ Hp g vm h (o_Topic d (.ref s1) (.ref s2) :: H) Lt) := by
  refine CtW.body W (by decide +kernel) (ef_di d s1 s2) ?_
  intro M T B
  refine p_aloadN B d6_0 (pc' := 1) rfl rfl rfl ?_
  refine r_initO B d6_1 (pc' := 4) rfl (W35 B.gw) (W22 B.gw) (W23 B.gw) rfl (by decide) (W := 0) rfl (by decide) ?_
  intro T1 B2
  refine p_aloadN B2 d6_4 (pc' := 5) rfl rfl rfl ?_
  refine p_aloadN B2 d6_5 (pc' := 6) rfl rfl rfl ?_
  refine r_ldc B2 d6_6 (pc' := 8) rfl (W36 B2.gw) (strW B2.gw) (inEL B2.gw (by decide)) (bs := [(.int (110 : Int32)), (.int (117 : Int32)), (.int (109 : Int32)), (.int (98 : Int32)), (.int (101 : Int32)), (.int (114 : Int32))]) ⟨by decide, by decide⟩ (z := (6 : Int32)) (by decide) (by decide) (n := 24) (by decide) (by decide) (cs' := 2) rfl (ss' := 28) rfl (by decide) (by decide) ?_
  intro T3 a5 b6 B4
  refine r_static (D' := D7) B4 d6_8 (pc' := 11) rfl (W37 B4.gw) (W38 B4.gw) (W39 B4.gw) (W40 B4.gw) (by decide) (k_rnn W s1 a5 _ _) (argsL := [(.ref s1), (.ref a5)]) (rest := [(.ref d)]) rfl pd8 rfl rfl rfl (W := 1) rfl (by decide) (by decide) (cs' := 2) rfl (ss' := 28) rfl (by decide) (by decide) ?_
  intro T7 v8 B9
  replace B9 := Rn.and B9
  obtain ⟨rfl, B9⟩ := B9
  show Fn g D6 M _ (T7.setTop (mkF M.m 11 #[.val (.ref d), .val (.ref s1), .val (.ref s2)] [(.ref s1), (.ref d)]))
  refine r_cast B9 d6_11 (pc' := 14) rfl (W41 B9.gw) (fun vm h E P => Ins.self ((sE (List.mem_cons_of_mem _ m1)) vm h E P)) ?_
  intro T10 B11
  refine r_put B11 d6_14 (pc' := 17) rfl (host := "") (Or.inl (W42 B11.gw)) Via.refl (i := 0) (j := 0) rfl rfl (Or.inr ⟨(W43 B11.gw), rfl, rfl⟩) (W1 B11.gw) (ty := (.object "java/lang/String")) (by decide) rfl rfl (H' := (o_Topic d (.ref s1) .null :: H)) rfl ?_
  intro T12 B13
  refine p_aloadN B13 d6_17 (pc' := 18) rfl rfl rfl ?_
  refine p_aloadN B13 d6_18 (pc' := 19) rfl rfl rfl ?_
  refine r_ldc B13 d6_19 (pc' := 21) rfl (W44 B13.gw) (strW B13.gw) (inEL B13.gw (by decide)) (bs := [(.int (116 : Int32)), (.int (105 : Int32)), (.int (116 : Int32)), (.int (108 : Int32)), (.int (101 : Int32))]) ⟨by decide, by decide⟩ (z := (5 : Int32)) (by decide) (by decide) (n := 20) (by decide) (by decide) (cs' := 4) rfl (ss' := 52) rfl (by decide) (by decide) ?_
  intro T14 a16 b17 B15
  refine r_static (D' := D7) B15 d6_21 (pc' := 24) rfl (W37 B15.gw) (W38 B15.gw) (W39 B15.gw) (W40 B15.gw) (by decide) (k_rnn W s2 a16 _ _) (argsL := [(.ref s2), (.ref a16)]) (rest := [(.ref d)]) rfl pd8 rfl rfl rfl (W := 1) rfl (by decide) (by decide) (cs' := 4) rfl (ss' := 52) rfl (by decide) (by decide) ?_
  intro T18 v19 B20
  replace B20 := Rn.and B20
  obtain ⟨rfl, B20⟩ := B20
  show Fn g D6 M _ (T18.setTop (mkF M.m 24 #[.val (.ref d), .val (.ref s1), .val (.ref s2)] [(.ref s2), (.ref d)]))
  refine r_cast B20 d6_24 (pc' := 27) rfl (W41 B20.gw) (fun vm h E P => Ins.self ((sE (List.mem_cons_of_mem _ (List.mem_cons_of_mem _ m2))) vm h E P)) ?_
  intro T21 B22
  refine r_put B22 d6_27 (pc' := 30) rfl (host := "") (Or.inl (W45 B22.gw)) Via.refl (i := 0) (j := 1) rfl rfl (Or.inr ⟨(W46 B22.gw), rfl, rfl⟩) (W1 B22.gw) (ty := (.object "java/lang/String")) (by decide) rfl rfl (H' := (o_Topic d (.ref s1) (.ref s2) :: H)) rfl ?_
  intro T23 B24
  exact r_ret B24 d6_30 rfl (by decide) (by decide) (fun vm h P => ⟨rfl, (P.lsub tl2)⟩)
theorem ef_den (a : Addr) (m : MethodId) : entryFrame m #[(.ref a), .null] 2 = mkF m 0 #[.val (.ref a), .val .null] [] := by first | (simp [entryFrame, mkF, argsToLocals, Value.category]; done) | rfl
theorem ef_deo (a o : Addr) (m : MethodId) : entryFrame m #[(.ref a), (.ref o)] 2 = mkF m 0 #[.val (.ref a), .val (.ref o)] [] := by first | (simp [entryFrame, mkF, argsToLocals, Value.category]; done) | rfl
abbrev D9 : DD := (⟨"com/example/postings/postings/model/Topic", "equals", "(Ljava/lang/Object;)Z"⟩, prog_43_method_4_code, 2, (some .boolean), { frames := 2, cells := 0, slots := 0, locals := 28 })
theorem k_den {g : GG} (W : GW g) (a : Addr) (H : List Ent) (Lt : List SE) : Ct g D9 #[.ref a, .null] H Lt (fun v vm h => v = some (.int (0 : Int32)) ∧ Hp g vm h H Lt) := by
  refine CtW.body W (by decide +kernel) (ef_den a) ?_
  intro M T B
  refine p_aloadN B d9_0 (pc' := 1) rfl rfl rfl ?_
  refine r_instN B d9_1 (pc' := 4) rfl ?_
  refine b_ifT B d9_4 (pc' := 45) (show (0 : Int32) = (0 : Int32) from by decide) (by decide) (by decide) ?_
  refine p_iconst B d9_45 (pc' := 46) rfl (v := (0 : Int32)) (by decide) ?_
  exact r_reti B d9_46 rfl (by simp) rfl (by decide) (by decide) (fun vm h P => ⟨rfl, P⟩)
theorem k_des {g : GG} (W : GW g) (a o : Addr) (H : List Ent) {b : Addr} {c : Int32} {xs : List Value} {Lt : List SE} (mo : (o, b, c, xs) ∈ Lt) : Ct g D9 #[.ref a, .ref o] H Lt (fun v vm h => v = some (.int (0 : Int32)) ∧ Hp g vm h H Lt) := by
  refine CtW.body W (by decide +kernel) (ef_deo a o) ?_
  intro M T B
  refine p_aloadN B d9_0 (pc' := 1) rfl rfl rfl ?_
  refine r_inst0 B d9_1 (pc' := 4) rfl (W55 B.gw) (fun vm h E P => ins_no (sE mo vm h E P) (W68 W) (W69 W) (W1 W) (by decide) (by decide)) (sE mo) ?_
  intro T1 B2
  refine b_ifT B2 d9_4 (pc' := 45) (show (0 : Int32) = (0 : Int32) from by decide) (by decide) (by decide) ?_
  refine p_iconst B2 d9_45 (pc' := 46) rfl (v := (0 : Int32)) (by decide) ?_
  exact r_reti B2 d9_46 rfl (by simp) rfl (by decide) (by decide) (fun vm h P => ⟨rfl, P⟩)
theorem k_ded {g : GG} (W : GW g) {a o s1 s2 t1 t2 b1 b2 b3 b4 : Addr} {x1 x2 y1 y2 : List Int32} {H : List Ent} {Lt : List SE} (eo : Al g H Lt fun h => Exa g.Z h o "com/example/postings/postings/model/Topic") (fa1 : (Al g H Lt fun h => Fld g.Z h a "com/example/postings/postings/model/Topic" "number" "Ljava/lang/String;" (.ref s1))) (fa2 : (Al g H Lt fun h => Fld g.Z h a "com/example/postings/postings/model/Topic" "title" "Ljava/lang/String;" (.ref t1))) (fo1 : (Al g H Lt fun h => Fld g.Z h o "com/example/postings/postings/model/Topic" "number" "Ljava/lang/String;" (.ref s2))) (fo2 : (Al g H Lt fun h => Fld g.Z h o "com/example/postings/postings/model/Topic" "title" "Ljava/lang/String;" (.ref t2))) (n1 : (s1, b1, 0, x1.map Value.int) ∈ Lt) (n2 : (t1, b2, 0, x2.map Value.int) ∈ Lt) (n3 : (s2, b3, 0, y1.map Value.int) ∈ Lt) (n4 : (t2, b4, 0, y2.map Value.int) ∈ Lt) (h1 : x1.length < 2147483648) (h2 : x2.length < 2147483648) (h3 : y1.length < 2147483648) (h4 : y2.length < 2147483648) :
    Ct g D9 #[.ref a, .ref o] H Lt (fun v vm h => ∃ z : Int32, v = some (.int z) ∧ (z = 1 ∧ (x1 = y1 ∧ x2 = y2) ∨ z = 0 ∧ ¬ (x1 = y1 ∧ x2 = y2)) ∧ Hp g vm h H Lt) := by
  refine CtW.body W (by decide +kernel) (ef_deo a o) ?_
  intro M T B
  refine p_aloadN B d9_0 (pc' := 1) rfl rfl rfl ?_
  refine r_inst1 B d9_1 (pc' := 4) rfl (W55 B.gw) (fun vm h E P => Ins.self (eo vm h E P)) ?_
  intro T1 B2
  refine b_ifF B2 d9_4 (pc' := 7) rfl (show ¬ (1 : Int32) = (0 : Int32) from by decide) ?_
  refine p_aloadN B2 d9_7 (pc' := 8) rfl rfl rfl ?_
  refine r_get B2 d9_8 (pc' := 11) rfl (host := "") (Or.inl (W42 B2.gw)) Via.refl (v := (.ref s1)) fa1 ?_
  intro T3 B4
  refine p_aloadN B4 d9_11 (pc' := 12) rfl rfl rfl ?_
  refine r_cast B4 d9_12 (pc' := 15) rfl (W55 B4.gw) (fun vm h E P => Ins.self (eo vm h E P)) ?_
  intro T5 B6
  refine r_get B6 d9_15 (pc' := 18) rfl (host := "") (Or.inl (W42 B6.gw)) Via.refl (v := (.ref s2)) fo1 ?_
  intro T7 B8
  refine r_virtual (D' := D10) B8 d9_18 (pc' := 21) rfl (W57 B8.gw) (W58 B8.gw) (W60 B8.gw) (fun vm0 hZ => notFace_of_selects (args := #[]) (mvT hZ (W60 B8.gw))) (W59 B8.gw) (W12 B8.gw) (W61 B8.gw) (by decide) (sE n1) (k_se W n1 n3 h1 h3) (argsL := [(.ref s2)]) (rest := []) rfl pd9 rfl rfl rfl (W := 0) rfl (by decide) (by decide) (cs' := 0) rfl (ss' := 0) rfl (by decide) (by decide) ?_
  intro T9 v10 B11
  replace B11 := Rn.ex B11
  obtain ⟨z, B11⟩ := B11
  replace B11 := Rn.and B11
  obtain ⟨rfl, B11⟩ := B11
  replace B11 := Rn.and B11
  obtain ⟨hz12, B11⟩ := B11
  show Fn g D9 M _ (T9.setTop (mkF M.m 21 #[.val (.ref a), .val (.ref o)] [(.int z)]))
  rcases hz12 with ⟨rfl, hz12⟩ | ⟨rfl, hz12⟩
  · refine b_ifF B11 d9_21 (pc' := 24) rfl (show ¬ (1 : Int32) = (0 : Int32) from by decide) ?_
    refine p_aloadN B11 d9_24 (pc' := 25) rfl rfl rfl ?_
    refine r_get B11 d9_25 (pc' := 28) rfl (host := "") (Or.inl (W45 B11.gw)) Via.refl (v := (.ref t1)) fa2 ?_
    intro T13 B14
    refine p_aloadN B14 d9_28 (pc' := 29) rfl rfl rfl ?_
    refine r_cast B14 d9_29 (pc' := 32) rfl (W55 B14.gw) (fun vm h E P => Ins.self (eo vm h E P)) ?_
    intro T15 B16
    refine r_get B16 d9_32 (pc' := 35) rfl (host := "") (Or.inl (W45 B16.gw)) Via.refl (v := (.ref t2)) fo2 ?_
    intro T17 B18
    refine r_virtual (D' := D10) B18 d9_35 (pc' := 38) rfl (W57 B18.gw) (W58 B18.gw) (W60 B18.gw) (fun vm0 hZ => notFace_of_selects (args := #[]) (mvT hZ (W60 B18.gw))) (W59 B18.gw) (W12 B18.gw) (W61 B18.gw) (by decide) (sE n2) (k_se W n2 n4 h2 h4) (argsL := [(.ref t2)]) (rest := []) rfl pd9 rfl rfl rfl (W := 0) rfl (by decide) (by decide) (cs' := 0) rfl (ss' := 0) rfl (by decide) (by decide) ?_
    intro T19 v20 B21
    replace B21 := Rn.ex B21
    obtain ⟨z, B21⟩ := B21
    replace B21 := Rn.and B21
    obtain ⟨rfl, B21⟩ := B21
    replace B21 := Rn.and B21
    obtain ⟨hz22, B21⟩ := B21
    show Fn g D9 M _ (T19.setTop (mkF M.m 38 #[.val (.ref a), .val (.ref o)] [(.int z)]))
    rcases hz22 with ⟨rfl, hz22⟩ | ⟨rfl, hz22⟩
    · refine b_ifF B21 d9_38 (pc' := 41) rfl (show ¬ (1 : Int32) = (0 : Int32) from by decide) ?_
      refine p_iconst B21 d9_41 (pc' := 42) rfl (v := (1 : Int32)) (by decide) ?_
      refine b_goto B21 d9_42 (pc' := 46) (by decide) (by decide) ?_
      exact r_reti B21 d9_46 rfl (by simp) rfl (by decide) (by decide) (fun vm h P => ⟨_, rfl, Or.inl ⟨rfl, hz12, hz22⟩, P⟩)
    · refine b_ifT B21 d9_38 (pc' := 45) (show (0 : Int32) = (0 : Int32) from by decide) (by decide) (by decide) ?_
      refine p_iconst B21 d9_45 (pc' := 46) rfl (v := (0 : Int32)) (by decide) ?_
      exact r_reti B21 d9_46 rfl (by simp) rfl (by decide) (by decide) (fun vm h P => ⟨_, rfl, Or.inr ⟨rfl, fun q => hz22 q.2⟩, P⟩)
  · refine b_ifT B11 d9_21 (pc' := 45) (show (0 : Int32) = (0 : Int32) from by decide) (by decide) (by decide) ?_
    refine p_iconst B11 d9_45 (pc' := 46) rfl (v := (0 : Int32)) (by decide) ?_
    exact r_reti B11 d9_46 rfl (by simp) rfl (by decide) (by decide) (fun vm h P => ⟨_, rfl, Or.inr ⟨rfl, fun q => hz12 q.1⟩, P⟩)
abbrev D0 : DD := (x, code, maxLocals, ret, room_1)
theorem ef_law (p0 p1 p2 p3 p4 : Int32) (m : MethodId) : entryFrame m #[(.int p0), (.int p1), (.int p2), (.int p3), (.int p4)] maxLocals = mkF m 0 #[.val (.int p0), .val (.int p1), .val (.int p2), .val (.int p3), .val (.int p4), .unset, .unset, .unset, .unset, .unset, .unset] [] := by first | (simp [entryFrame, mkF, argsToLocals, Value.category, maxLocals]; done) | rfl
theorem law32 {g : GG} (W : GW g) (p0 p1 p2 p3 p4 q1 q2 : Int32) {M : MM} {T : State} (B : RH g D0 M T [] [] 0 0) : Fn g D0 M (fun v _ _ => v = some (.int 1)) (T.setTop (mkF M.m 32 #[.val (.int p0), .val (.int p1), .val (.int p2), .val (.int p3), .val (.int p4), .val (.int q1), .val (.int q2), .unset, .unset, .unset, .unset] [])) := by
  refine r_new B at_32 (pc' := 35) rfl (W0 B.gw) (W1 B.gw) (W2 B.gw) (Ly_o_Topic B.gw) (by decide) (cs' := 1) rfl (ss' := 2) rfl (by decide) (by decide) ?_
  intro T1 a3 B2
  refine p_dup B2 at_35 (pc' := 36) rfl rfl ?_
  refine p_iloadN B2 at_36 (pc' := 37) rfl rfl ?_
  refine r_static (D' := D1) B2 at_37 (pc' := 40) rfl (W3 B2.gw) (W4 B2.gw) (W5 B2.gw) (W6 B2.gw) (by decide) (k_str W p0 _ _) (argsL := [(.int p0)]) (rest := [(.ref a3), (.ref a3)]) rfl pd10 rfl rfl rfl (W := 2) rfl (by decide) (by decide) (cs' := 7) rfl (ss' := 16) rfl (by decide) (by decide) ?_
  intro T4 v5 B6
  replace B6 := Rn.ex B6
  obtain ⟨s7, B6⟩ := B6
  replace B6 := Rn.ex B6
  obtain ⟨b8, B6⟩ := B6
  replace B6 := Rn.and B6
  obtain ⟨rfl, B6⟩ := B6
  show Fn g D0 M _ (T4.setTop (mkF M.m 40 #[.val (.int p0), .val (.int p1), .val (.int p2), .val (.int p3), .val (.int p4), .val (.int q1), .val (.int q2), .unset, .unset, .unset, .unset] [(.ref s7), (.ref a3), (.ref a3)]))
  refine p_iloadN B6 at_40 (pc' := 41) rfl rfl ?_
  refine r_static (D' := D1) B6 at_41 (pc' := 44) rfl (W3 B6.gw) (W4 B6.gw) (W5 B6.gw) (W6 B6.gw) (by decide) (k_str W p1 _ _) (argsL := [(.int p1)]) (rest := [(.ref s7), (.ref a3), (.ref a3)]) rfl pd10 rfl rfl rfl (W := 3) rfl (by decide) (by decide) (cs' := 13) rfl (ss' := 30) rfl (by decide) (by decide) ?_
  intro T9 v10 B11
  replace B11 := Rn.ex B11
  obtain ⟨s12, B11⟩ := B11
  replace B11 := Rn.ex B11
  obtain ⟨b13, B11⟩ := B11
  replace B11 := Rn.and B11
  obtain ⟨rfl, B11⟩ := B11
  show Fn g D0 M _ (T9.setTop (mkF M.m 44 #[.val (.int p0), .val (.int p1), .val (.int p2), .val (.int p3), .val (.int p4), .val (.int q1), .val (.int q2), .unset, .unset, .unset, .unset] [(.ref s12), (.ref s7), (.ref a3), (.ref a3)]))
  refine r_special (D' := D6) B11 at_44 (pc' := 47) rfl rfl rfl (W32 B11.gw) (W33 B11.gw) (W2 B11.gw) (W34 B11.gw) (by decide) (k_di W a3 s7 s12 (List.mem_of_getElem? (i := 1) rfl) (List.mem_of_getElem? (i := 0) rfl) []) (a := a3) (argsL := [(.ref s7), (.ref s12)]) (rest := [(.ref a3)]) rfl pd11 rfl rfl rfl (W := 1) rfl (by decide) (by decide) (cs' := 17) rfl (ss' := 82) rfl (by decide) (by decide) ?_
  intro T14 v15 B16
  replace B16 := Rn.and B16
  obtain ⟨rfl, B16⟩ := B16
  show Fn g D0 M _ (T14.setTop (mkF M.m 47 #[.val (.int p0), .val (.int p1), .val (.int p2), .val (.int p3), .val (.int p4), .val (.int q1), .val (.int q2), .unset, .unset, .unset, .unset] [(.ref a3)]))
  refine p_astore B16 at_47 (pc' := 49) rfl rfl (Ls' := #[.val (.int p0), .val (.int p1), .val (.int p2), .val (.int p3), .val (.int p4), .val (.int q1), .val (.int q2), .val (.ref a3), .unset, .unset, .unset]) rfl ?_
  refine r_new B16 at_49 (pc' := 52) rfl (W0 B16.gw) (W1 B16.gw) (W2 B16.gw) (Ly_o_Topic B16.gw) (by decide) (cs' := 18) rfl (ss' := 84) rfl (by decide) (by decide) ?_
  intro T17 a19 B18
  refine p_dup B18 at_52 (pc' := 53) rfl rfl ?_
  refine p_iload B18 at_53 (pc' := 55) rfl rfl ?_
  refine r_static (D' := D1) B18 at_55 (pc' := 58) rfl (W3 B18.gw) (W4 B18.gw) (W5 B18.gw) (W6 B18.gw) (by decide) (k_str W q1 _ _) (argsL := [(.int q1)]) (rest := [(.ref a19), (.ref a19)]) rfl pd10 rfl rfl rfl (W := 2) rfl (by decide) (by decide) (cs' := 24) rfl (ss' := 98) rfl (by decide) (by decide) ?_
  intro T20 v21 B22
  replace B22 := Rn.ex B22
  obtain ⟨s23, B22⟩ := B22
  replace B22 := Rn.ex B22
  obtain ⟨b24, B22⟩ := B22
  replace B22 := Rn.and B22
  obtain ⟨rfl, B22⟩ := B22
  show Fn g D0 M _ (T20.setTop (mkF M.m 58 #[.val (.int p0), .val (.int p1), .val (.int p2), .val (.int p3), .val (.int p4), .val (.int q1), .val (.int q2), .val (.ref a3), .unset, .unset, .unset] [(.ref s23), (.ref a19), (.ref a19)]))
  refine p_iload B22 at_58 (pc' := 60) rfl rfl ?_
  refine r_static (D' := D1) B22 at_60 (pc' := 63) rfl (W3 B22.gw) (W4 B22.gw) (W5 B22.gw) (W6 B22.gw) (by decide) (k_str W q2 _ _) (argsL := [(.int q2)]) (rest := [(.ref s23), (.ref a19), (.ref a19)]) rfl pd10 rfl rfl rfl (W := 3) rfl (by decide) (by decide) (cs' := 30) rfl (ss' := 112) rfl (by decide) (by decide) ?_
  intro T25 v26 B27
  replace B27 := Rn.ex B27
  obtain ⟨s28, B27⟩ := B27
  replace B27 := Rn.ex B27
  obtain ⟨b29, B27⟩ := B27
  replace B27 := Rn.and B27
  obtain ⟨rfl, B27⟩ := B27
  show Fn g D0 M _ (T25.setTop (mkF M.m 63 #[.val (.int p0), .val (.int p1), .val (.int p2), .val (.int p3), .val (.int p4), .val (.int q1), .val (.int q2), .val (.ref a3), .unset, .unset, .unset] [(.ref s28), (.ref s23), (.ref a19), (.ref a19)]))
  refine r_special (D' := D6) B27 at_63 (pc' := 66) rfl rfl rfl (W32 B27.gw) (W33 B27.gw) (W2 B27.gw) (W34 B27.gw) (by decide) (k_di W a19 s23 s28 (List.mem_of_getElem? (i := 1) rfl) (List.mem_of_getElem? (i := 0) rfl) [o_Topic a3 (.ref s7) (.ref s12)]) (a := a19) (argsL := [(.ref s23), (.ref s28)]) (rest := [(.ref a19)]) rfl pd11 rfl rfl rfl (W := 1) rfl (by decide) (by decide) (cs' := 34) rfl (ss' := 164) rfl (by decide) (by decide) ?_
  intro T30 v31 B32
  replace B32 := Rn.and B32
  obtain ⟨rfl, B32⟩ := B32
  show Fn g D0 M _ (T30.setTop (mkF M.m 66 #[.val (.int p0), .val (.int p1), .val (.int p2), .val (.int p3), .val (.int p4), .val (.int q1), .val (.int q2), .val (.ref a3), .unset, .unset, .unset] [(.ref a19)]))
  refine p_astore B32 at_66 (pc' := 68) rfl rfl (Ls' := #[.val (.int p0), .val (.int p1), .val (.int p2), .val (.int p3), .val (.int p4), .val (.int q1), .val (.int q2), .val (.ref a3), .val (.ref a19), .unset, .unset]) rfl ?_
  refine p_iload B32 at_68 (pc' := 70) rfl rfl ?_
  refine p_iconst B32 at_70 (pc' := 71) rfl (v := (2 : Int32)) (by decide) ?_
  refine p_iushr B32 at_71 (pc' := 72) rfl rfl ?_
  refine p_iconst B32 at_72 (pc' := 73) rfl (v := (3 : Int32)) (by decide) ?_
  refine p_iand B32 at_73 (pc' := 74) rfl rfl ?_
  refine p_istore B32 at_74 (pc' := 76) rfl (Ls' := #[.val (.int p0), .val (.int p1), .val (.int p2), .val (.int p3), .val (.int p4), .val (.int q1), .val (.int q2), .val (.ref a3), .val (.ref a19), .val (.int ((((p4).toUInt32 >>> ((2 : Int32) &&& 31).toUInt32).toInt32) &&& (3 : Int32))), .unset]) rfl ?_
  refine p_iload B32 at_76 (pc' := 78) rfl rfl ?_
  by_cases hm0 : ((((p4).toUInt32 >>> ((2 : Int32) &&& 31).toUInt32).toInt32) &&& (3 : Int32)) = (0 : Int32)
  · refine b_ifF B32 at_78 (pc' := 81) rfl hm0 ?_
    refine p_iloadN B32 at_81 (pc' := 82) rfl rfl ?_
    refine p_iload B32 at_82 (pc' := 84) rfl rfl ?_
    refine r_static (D' := D8) B32 at_84 (pc' := 87) rfl (W47 B32.gw) (W48 B32.gw) (W5 B32.gw) (W49 B32.gw) (by decide) (k_same W p0 q1 _ _) (argsL := [(.int p0), (.int q1)]) (rest := []) rfl pd12 rfl rfl rfl (W := 0) rfl (by decide) (by decide) (cs' := 34) rfl (ss' := 164) rfl (by decide) (by decide) ?_
    intro T33 v34 B35
    replace B35 := Rn.ex B35
    obtain ⟨z, B35⟩ := B35
    replace B35 := Rn.and B35
    obtain ⟨rfl, B35⟩ := B35
    replace B35 := Rn.and B35
    obtain ⟨hs36, B35⟩ := B35
    show Fn g D0 M _ (T33.setTop (mkF M.m 87 #[.val (.int p0), .val (.int p1), .val (.int p2), .val (.int p3), .val (.int p4), .val (.int q1), .val (.int q2), .val (.ref a3), .val (.ref a19), .val (.int ((((p4).toUInt32 >>> ((2 : Int32) &&& 31).toUInt32).toInt32) &&& (3 : Int32))), .unset] [(.int z)]))
    rcases hs36 with ⟨rfl, hs36⟩ | ⟨rfl, hs36⟩
    · refine b_ifF B35 at_87 (pc' := 90) rfl (show ¬ (1 : Int32) = (0 : Int32) from by decide) ?_
      refine p_iloadN B35 at_90 (pc' := 91) rfl rfl ?_
      refine p_iload B35 at_91 (pc' := 93) rfl rfl ?_
      refine r_static (D' := D8) B35 at_93 (pc' := 96) rfl (W47 B35.gw) (W48 B35.gw) (W5 B35.gw) (W49 B35.gw) (by decide) (k_same W p1 q2 _ _) (argsL := [(.int p1), (.int q2)]) (rest := []) rfl pd12 rfl rfl rfl (W := 0) rfl (by decide) (by decide) (cs' := 34) rfl (ss' := 164) rfl (by decide) (by decide) ?_
      intro T37 v38 B39
      replace B39 := Rn.ex B39
      obtain ⟨z, B39⟩ := B39
      replace B39 := Rn.and B39
      obtain ⟨rfl, B39⟩ := B39
      replace B39 := Rn.and B39
      obtain ⟨hs40, B39⟩ := B39
      show Fn g D0 M _ (T37.setTop (mkF M.m 96 #[.val (.int p0), .val (.int p1), .val (.int p2), .val (.int p3), .val (.int p4), .val (.int q1), .val (.int q2), .val (.ref a3), .val (.ref a19), .val (.int ((((p4).toUInt32 >>> ((2 : Int32) &&& 31).toUInt32).toInt32) &&& (3 : Int32))), .unset] [(.int z)]))
      rcases hs40 with ⟨rfl, hs40⟩ | ⟨rfl, hs40⟩
      · refine b_ifF B39 at_96 (pc' := 99) rfl (show ¬ (1 : Int32) = (0 : Int32) from by decide) ?_
        refine p_iconst B39 at_99 (pc' := 100) rfl (v := (1 : Int32)) (by decide) ?_
        refine b_goto B39 at_100 (pc' := 104) (by decide) (by decide) ?_
        refine p_istore B39 at_104 (pc' := 106) rfl (Ls' := #[.val (.int p0), .val (.int p1), .val (.int p2), .val (.int p3), .val (.int p4), .val (.int q1), .val (.int q2), .val (.ref a3), .val (.ref a19), .val (.int ((((p4).toUInt32 >>> ((2 : Int32) &&& 31).toUInt32).toInt32) &&& (3 : Int32))), .val (.int (1 : Int32))]) rfl ?_
        refine p_aload B39 at_106 (pc' := 108) rfl rfl rfl ?_
        refine p_aload B39 at_108 (pc' := 110) rfl rfl rfl ?_
        refine r_virtual (D' := D9) B39 at_110 (pc' := 113) rfl (W50 B39.gw) (W51 B39.gw) (W53 B39.gw) (fun vm0 hZ => notFace_of_selects (args := #[]) (mvT hZ (W53 B39.gw))) (W52 B39.gw) (W2 B39.gw) (W54 B39.gw) (by decide) (fE (i := 1) rfl) (k_ded W (fE (i := 0) rfl) (fO (i := 1) (j := 0) rfl rfl) (fO (i := 1) (j := 1) rfl rfl) (fO (i := 0) (j := 0) rfl rfl) (fO (i := 0) (j := 1) rfl rfl) (List.mem_of_getElem? (i := 3) rfl) (List.mem_of_getElem? (i := 2) rfl) (List.mem_of_getElem? (i := 1) rfl) (List.mem_of_getElem? (i := 0) rfl) (sx_le _) (sx_le _) (sx_le _) (sx_le _)) (argsL := [(.ref a19)]) (rest := []) rfl pd9 rfl rfl rfl (W := 0) rfl (by decide) (by decide) (cs' := 34) rfl (ss' := 164) rfl (by decide) (by decide) ?_
        intro T41 v42 B43
        replace B43 := Rn.ex B43
        obtain ⟨z44, B43⟩ := B43
        replace B43 := Rn.and B43
        obtain ⟨rfl, B43⟩ := B43
        replace B43 := Rn.and B43
        obtain ⟨hz, B43⟩ := B43
        show Fn g D0 M _ (T41.setTop (mkF M.m 113 #[.val (.int p0), .val (.int p1), .val (.int p2), .val (.int p3), .val (.int p4), .val (.int q1), .val (.int q2), .val (.ref a3), .val (.ref a19), .val (.int ((((p4).toUInt32 >>> ((2 : Int32) &&& 31).toUInt32).toInt32) &&& (3 : Int32))), .val (.int (1 : Int32))] [(.int z44)]))
        have hy45 : z44 = (1 : Int32) := by
          rcases hz with ⟨q, r⟩ | ⟨q, r⟩
          · exact q
          · exact absurd ⟨hs36, hs40⟩ r
        refine p_iload B43 at_113 (pc' := 115) rfl rfl ?_
        refine b_icF B43 at_115 (pc' := 118) rfl hy45 ?_
        refine p_aload B43 at_118 (pc' := 120) rfl rfl rfl ?_
        refine p_aload B43 at_120 (pc' := 122) rfl rfl rfl ?_
        refine r_virtual (D' := D9) B43 at_122 (pc' := 125) rfl (W50 B43.gw) (W51 B43.gw) (W53 B43.gw) (fun vm0 hZ => notFace_of_selects (args := #[]) (mvT hZ (W53 B43.gw))) (W52 B43.gw) (W2 B43.gw) (W54 B43.gw) (by decide) (fE (i := 0) rfl) (k_ded W (fE (i := 1) rfl) (fO (i := 0) (j := 0) rfl rfl) (fO (i := 0) (j := 1) rfl rfl) (fO (i := 1) (j := 0) rfl rfl) (fO (i := 1) (j := 1) rfl rfl) (List.mem_of_getElem? (i := 1) rfl) (List.mem_of_getElem? (i := 0) rfl) (List.mem_of_getElem? (i := 3) rfl) (List.mem_of_getElem? (i := 2) rfl) (sx_le _) (sx_le _) (sx_le _) (sx_le _)) (argsL := [(.ref a3)]) (rest := []) rfl pd9 rfl rfl rfl (W := 0) rfl (by decide) (by decide) (cs' := 34) rfl (ss' := 164) rfl (by decide) (by decide) ?_
        intro T46 v47 B48
        replace B48 := Rn.ex B48
        obtain ⟨z49, B48⟩ := B48
        replace B48 := Rn.and B48
        obtain ⟨rfl, B48⟩ := B48
        replace B48 := Rn.and B48
        obtain ⟨hz, B48⟩ := B48
        show Fn g D0 M _ (T46.setTop (mkF M.m 125 #[.val (.int p0), .val (.int p1), .val (.int p2), .val (.int p3), .val (.int p4), .val (.int q1), .val (.int q2), .val (.ref a3), .val (.ref a19), .val (.int ((((p4).toUInt32 >>> ((2 : Int32) &&& 31).toUInt32).toInt32) &&& (3 : Int32))), .val (.int (1 : Int32))] [(.int z49)]))
        have hy50 : z49 = (1 : Int32) := by
          rcases hz with ⟨q, r⟩ | ⟨q, r⟩
          · exact q
          · exact absurd ⟨hs36.symm, hs40.symm⟩ r
        refine p_iload B48 at_125 (pc' := 127) rfl rfl ?_
        refine b_icF B48 at_127 (pc' := 130) rfl hy50 ?_
        refine p_iconst B48 at_130 (pc' := 131) rfl (v := (1 : Int32)) (by decide) ?_
        refine b_goto B48 at_131 (pc' := 135) (by decide) (by decide) ?_
        exact r_reti B48 at_135 rfl (by simp) rfl (by decide) (by decide) (fun vm h P => rfl)
      · refine b_ifT B39 at_96 (pc' := 103) (show (0 : Int32) = (0 : Int32) from by decide) (by decide) (by decide) ?_
        refine p_iconst B39 at_103 (pc' := 104) rfl (v := (0 : Int32)) (by decide) ?_
        refine p_istore B39 at_104 (pc' := 106) rfl (Ls' := #[.val (.int p0), .val (.int p1), .val (.int p2), .val (.int p3), .val (.int p4), .val (.int q1), .val (.int q2), .val (.ref a3), .val (.ref a19), .val (.int ((((p4).toUInt32 >>> ((2 : Int32) &&& 31).toUInt32).toInt32) &&& (3 : Int32))), .val (.int (0 : Int32))]) rfl ?_
        refine p_aload B39 at_106 (pc' := 108) rfl rfl rfl ?_
        refine p_aload B39 at_108 (pc' := 110) rfl rfl rfl ?_
        refine r_virtual (D' := D9) B39 at_110 (pc' := 113) rfl (W50 B39.gw) (W51 B39.gw) (W53 B39.gw) (fun vm0 hZ => notFace_of_selects (args := #[]) (mvT hZ (W53 B39.gw))) (W52 B39.gw) (W2 B39.gw) (W54 B39.gw) (by decide) (fE (i := 1) rfl) (k_ded W (fE (i := 0) rfl) (fO (i := 1) (j := 0) rfl rfl) (fO (i := 1) (j := 1) rfl rfl) (fO (i := 0) (j := 0) rfl rfl) (fO (i := 0) (j := 1) rfl rfl) (List.mem_of_getElem? (i := 3) rfl) (List.mem_of_getElem? (i := 2) rfl) (List.mem_of_getElem? (i := 1) rfl) (List.mem_of_getElem? (i := 0) rfl) (sx_le _) (sx_le _) (sx_le _) (sx_le _)) (argsL := [(.ref a19)]) (rest := []) rfl pd9 rfl rfl rfl (W := 0) rfl (by decide) (by decide) (cs' := 34) rfl (ss' := 164) rfl (by decide) (by decide) ?_
        intro T51 v52 B53
        replace B53 := Rn.ex B53
        obtain ⟨z54, B53⟩ := B53
        replace B53 := Rn.and B53
        obtain ⟨rfl, B53⟩ := B53
        replace B53 := Rn.and B53
        obtain ⟨hz, B53⟩ := B53
        show Fn g D0 M _ (T51.setTop (mkF M.m 113 #[.val (.int p0), .val (.int p1), .val (.int p2), .val (.int p3), .val (.int p4), .val (.int q1), .val (.int q2), .val (.ref a3), .val (.ref a19), .val (.int ((((p4).toUInt32 >>> ((2 : Int32) &&& 31).toUInt32).toInt32) &&& (3 : Int32))), .val (.int (0 : Int32))] [(.int z54)]))
        have hy55 : z54 = (0 : Int32) := by
          rcases hz with ⟨q, r⟩ | ⟨q, r⟩
          · exact absurd r (fun r => hs40 r.2)
          · exact q
        refine p_iload B53 at_113 (pc' := 115) rfl rfl ?_
        refine b_icF B53 at_115 (pc' := 118) rfl hy55 ?_
        refine p_aload B53 at_118 (pc' := 120) rfl rfl rfl ?_
        refine p_aload B53 at_120 (pc' := 122) rfl rfl rfl ?_
        refine r_virtual (D' := D9) B53 at_122 (pc' := 125) rfl (W50 B53.gw) (W51 B53.gw) (W53 B53.gw) (fun vm0 hZ => notFace_of_selects (args := #[]) (mvT hZ (W53 B53.gw))) (W52 B53.gw) (W2 B53.gw) (W54 B53.gw) (by decide) (fE (i := 0) rfl) (k_ded W (fE (i := 1) rfl) (fO (i := 0) (j := 0) rfl rfl) (fO (i := 0) (j := 1) rfl rfl) (fO (i := 1) (j := 0) rfl rfl) (fO (i := 1) (j := 1) rfl rfl) (List.mem_of_getElem? (i := 1) rfl) (List.mem_of_getElem? (i := 0) rfl) (List.mem_of_getElem? (i := 3) rfl) (List.mem_of_getElem? (i := 2) rfl) (sx_le _) (sx_le _) (sx_le _) (sx_le _)) (argsL := [(.ref a3)]) (rest := []) rfl pd9 rfl rfl rfl (W := 0) rfl (by decide) (by decide) (cs' := 34) rfl (ss' := 164) rfl (by decide) (by decide) ?_
        intro T56 v57 B58
        replace B58 := Rn.ex B58
        obtain ⟨z59, B58⟩ := B58
        replace B58 := Rn.and B58
        obtain ⟨rfl, B58⟩ := B58
        replace B58 := Rn.and B58
        obtain ⟨hz, B58⟩ := B58
        show Fn g D0 M _ (T56.setTop (mkF M.m 125 #[.val (.int p0), .val (.int p1), .val (.int p2), .val (.int p3), .val (.int p4), .val (.int q1), .val (.int q2), .val (.ref a3), .val (.ref a19), .val (.int ((((p4).toUInt32 >>> ((2 : Int32) &&& 31).toUInt32).toInt32) &&& (3 : Int32))), .val (.int (0 : Int32))] [(.int z59)]))
        have hy60 : z59 = (0 : Int32) := by
          rcases hz with ⟨q, r⟩ | ⟨q, r⟩
          · exact absurd r (fun r => hs40 r.2.symm)
          · exact q
        refine p_iload B58 at_125 (pc' := 127) rfl rfl ?_
        refine b_icF B58 at_127 (pc' := 130) rfl hy60 ?_
        refine p_iconst B58 at_130 (pc' := 131) rfl (v := (1 : Int32)) (by decide) ?_
        refine b_goto B58 at_131 (pc' := 135) (by decide) (by decide) ?_
        exact r_reti B58 at_135 rfl (by simp) rfl (by decide) (by decide) (fun vm h P => rfl)
    · refine b_ifT B35 at_87 (pc' := 103) (show (0 : Int32) = (0 : Int32) from by decide) (by decide) (by decide) ?_
      refine p_iconst B35 at_103 (pc' := 104) rfl (v := (0 : Int32)) (by decide) ?_
      refine p_istore B35 at_104 (pc' := 106) rfl (Ls' := #[.val (.int p0), .val (.int p1), .val (.int p2), .val (.int p3), .val (.int p4), .val (.int q1), .val (.int q2), .val (.ref a3), .val (.ref a19), .val (.int ((((p4).toUInt32 >>> ((2 : Int32) &&& 31).toUInt32).toInt32) &&& (3 : Int32))), .val (.int (0 : Int32))]) rfl ?_
      refine p_aload B35 at_106 (pc' := 108) rfl rfl rfl ?_
      refine p_aload B35 at_108 (pc' := 110) rfl rfl rfl ?_
      refine r_virtual (D' := D9) B35 at_110 (pc' := 113) rfl (W50 B35.gw) (W51 B35.gw) (W53 B35.gw) (fun vm0 hZ => notFace_of_selects (args := #[]) (mvT hZ (W53 B35.gw))) (W52 B35.gw) (W2 B35.gw) (W54 B35.gw) (by decide) (fE (i := 1) rfl) (k_ded W (fE (i := 0) rfl) (fO (i := 1) (j := 0) rfl rfl) (fO (i := 1) (j := 1) rfl rfl) (fO (i := 0) (j := 0) rfl rfl) (fO (i := 0) (j := 1) rfl rfl) (List.mem_of_getElem? (i := 3) rfl) (List.mem_of_getElem? (i := 2) rfl) (List.mem_of_getElem? (i := 1) rfl) (List.mem_of_getElem? (i := 0) rfl) (sx_le _) (sx_le _) (sx_le _) (sx_le _)) (argsL := [(.ref a19)]) (rest := []) rfl pd9 rfl rfl rfl (W := 0) rfl (by decide) (by decide) (cs' := 34) rfl (ss' := 164) rfl (by decide) (by decide) ?_
      intro T61 v62 B63
      replace B63 := Rn.ex B63
      obtain ⟨z64, B63⟩ := B63
      replace B63 := Rn.and B63
      obtain ⟨rfl, B63⟩ := B63
      replace B63 := Rn.and B63
      obtain ⟨hz, B63⟩ := B63
      show Fn g D0 M _ (T61.setTop (mkF M.m 113 #[.val (.int p0), .val (.int p1), .val (.int p2), .val (.int p3), .val (.int p4), .val (.int q1), .val (.int q2), .val (.ref a3), .val (.ref a19), .val (.int ((((p4).toUInt32 >>> ((2 : Int32) &&& 31).toUInt32).toInt32) &&& (3 : Int32))), .val (.int (0 : Int32))] [(.int z64)]))
      have hy65 : z64 = (0 : Int32) := by
        rcases hz with ⟨q, r⟩ | ⟨q, r⟩
        · exact absurd r (fun r => hs36 r.1)
        · exact q
      refine p_iload B63 at_113 (pc' := 115) rfl rfl ?_
      refine b_icF B63 at_115 (pc' := 118) rfl hy65 ?_
      refine p_aload B63 at_118 (pc' := 120) rfl rfl rfl ?_
      refine p_aload B63 at_120 (pc' := 122) rfl rfl rfl ?_
      refine r_virtual (D' := D9) B63 at_122 (pc' := 125) rfl (W50 B63.gw) (W51 B63.gw) (W53 B63.gw) (fun vm0 hZ => notFace_of_selects (args := #[]) (mvT hZ (W53 B63.gw))) (W52 B63.gw) (W2 B63.gw) (W54 B63.gw) (by decide) (fE (i := 0) rfl) (k_ded W (fE (i := 1) rfl) (fO (i := 0) (j := 0) rfl rfl) (fO (i := 0) (j := 1) rfl rfl) (fO (i := 1) (j := 0) rfl rfl) (fO (i := 1) (j := 1) rfl rfl) (List.mem_of_getElem? (i := 1) rfl) (List.mem_of_getElem? (i := 0) rfl) (List.mem_of_getElem? (i := 3) rfl) (List.mem_of_getElem? (i := 2) rfl) (sx_le _) (sx_le _) (sx_le _) (sx_le _)) (argsL := [(.ref a3)]) (rest := []) rfl pd9 rfl rfl rfl (W := 0) rfl (by decide) (by decide) (cs' := 34) rfl (ss' := 164) rfl (by decide) (by decide) ?_
      intro T66 v67 B68
      replace B68 := Rn.ex B68
      obtain ⟨z69, B68⟩ := B68
      replace B68 := Rn.and B68
      obtain ⟨rfl, B68⟩ := B68
      replace B68 := Rn.and B68
      obtain ⟨hz, B68⟩ := B68
      show Fn g D0 M _ (T66.setTop (mkF M.m 125 #[.val (.int p0), .val (.int p1), .val (.int p2), .val (.int p3), .val (.int p4), .val (.int q1), .val (.int q2), .val (.ref a3), .val (.ref a19), .val (.int ((((p4).toUInt32 >>> ((2 : Int32) &&& 31).toUInt32).toInt32) &&& (3 : Int32))), .val (.int (0 : Int32))] [(.int z69)]))
      have hy70 : z69 = (0 : Int32) := by
        rcases hz with ⟨q, r⟩ | ⟨q, r⟩
        · exact absurd r (fun r => hs36 r.1.symm)
        · exact q
      refine p_iload B68 at_125 (pc' := 127) rfl rfl ?_
      refine b_icF B68 at_127 (pc' := 130) rfl hy70 ?_
      refine p_iconst B68 at_130 (pc' := 131) rfl (v := (1 : Int32)) (by decide) ?_
      refine b_goto B68 at_131 (pc' := 135) (by decide) (by decide) ?_
      exact r_reti B68 at_135 rfl (by simp) rfl (by decide) (by decide) (fun vm h P => rfl)
  · refine b_ifT B32 at_78 (pc' := 136) hm0 (by decide) (by decide) ?_
    refine p_iload B32 at_136 (pc' := 138) rfl rfl ?_
    refine p_iconst B32 at_138 (pc' := 139) rfl (v := (1 : Int32)) (by decide) ?_
    by_cases hm1 : ((((p4).toUInt32 >>> ((2 : Int32) &&& 31).toUInt32).toInt32) &&& (3 : Int32)) = (1 : Int32)
    · refine b_icF B32 at_139 (pc' := 142) rfl hm1 ?_
      refine p_aload B32 at_142 (pc' := 144) rfl rfl rfl ?_
      refine p_null B32 at_144 (pc' := 145) rfl ?_
      refine r_virtual (D' := D9) B32 at_145 (pc' := 148) rfl (W50 B32.gw) (W51 B32.gw) (W53 B32.gw) (fun vm0 hZ => notFace_of_selects (args := #[]) (mvT hZ (W53 B32.gw))) (W52 B32.gw) (W2 B32.gw) (W54 B32.gw) (by decide) (fE (i := 1) rfl) (k_den W a3 _ _) (argsL := [.null]) (rest := []) rfl pd9 rfl rfl rfl (W := 0) rfl (by decide) (by decide) (cs' := 34) rfl (ss' := 164) rfl (by decide) (by decide) ?_
      intro T71 v72 B73
      replace B73 := Rn.and B73
      obtain ⟨rfl, B73⟩ := B73
      show Fn g D0 M _ (T71.setTop (mkF M.m 148 #[.val (.int p0), .val (.int p1), .val (.int p2), .val (.int p3), .val (.int p4), .val (.int q1), .val (.int q2), .val (.ref a3), .val (.ref a19), .val (.int ((((p4).toUInt32 >>> ((2 : Int32) &&& 31).toUInt32).toInt32) &&& (3 : Int32))), .unset] [(.int (0 : Int32))]))
      refine b_ifF B73 at_148 (pc' := 151) rfl (show (0 : Int32) = (0 : Int32) from by decide) ?_
      refine p_iconst B73 at_151 (pc' := 152) rfl (v := (1 : Int32)) (by decide) ?_
      refine b_goto B73 at_152 (pc' := 156) (by decide) (by decide) ?_
      exact r_reti B73 at_156 rfl (by simp) rfl (by decide) (by decide) (fun vm h P => rfl)
    · refine b_icT B32 at_139 (pc' := 157) hm1 (by decide) (by decide) ?_
      refine p_iload B32 at_157 (pc' := 159) rfl rfl ?_
      refine p_iconst B32 at_159 (pc' := 160) rfl (v := (2 : Int32)) (by decide) ?_
      by_cases hm2 : ((((p4).toUInt32 >>> ((2 : Int32) &&& 31).toUInt32).toInt32) &&& (3 : Int32)) = (2 : Int32)
      · refine b_icF B32 at_160 (pc' := 163) rfl hm2 ?_
        refine p_aload B32 at_163 (pc' := 165) rfl rfl rfl ?_
        refine p_iloadN B32 at_165 (pc' := 166) rfl rfl ?_
        refine r_static (D' := D1) B32 at_166 (pc' := 169) rfl (W3 B32.gw) (W4 B32.gw) (W5 B32.gw) (W6 B32.gw) (by decide) (k_str W p0 _ _) (argsL := [(.int p0)]) (rest := [(.ref a3)]) rfl pd10 rfl rfl rfl (W := 1) rfl (by decide) (by decide) (cs' := 40) rfl (ss' := 178) rfl (by decide) (by decide) ?_
        intro T74 v75 B76
        replace B76 := Rn.ex B76
        obtain ⟨s77, B76⟩ := B76
        replace B76 := Rn.ex B76
        obtain ⟨b78, B76⟩ := B76
        replace B76 := Rn.and B76
        obtain ⟨rfl, B76⟩ := B76
        show Fn g D0 M _ (T74.setTop (mkF M.m 169 #[.val (.int p0), .val (.int p1), .val (.int p2), .val (.int p3), .val (.int p4), .val (.int q1), .val (.int q2), .val (.ref a3), .val (.ref a19), .val (.int ((((p4).toUInt32 >>> ((2 : Int32) &&& 31).toUInt32).toInt32) &&& (3 : Int32))), .unset] [(.ref s77), (.ref a3)]))
        refine r_virtual (D' := D9) B76 at_169 (pc' := 172) rfl (W50 B76.gw) (W51 B76.gw) (W53 B76.gw) (fun vm0 hZ => notFace_of_selects (args := #[]) (mvT hZ (W53 B76.gw))) (W52 B76.gw) (W2 B76.gw) (W54 B76.gw) (by decide) (fE (i := 1) rfl) (k_des W a3 s77 _ (List.mem_of_getElem? (i := 0) rfl)) (argsL := [(.ref s77)]) (rest := []) rfl pd9 rfl rfl rfl (W := 0) rfl (by decide) (by decide) (cs' := 40) rfl (ss' := 178) rfl (by decide) (by decide) ?_
        intro T79 v80 B81
        replace B81 := Rn.and B81
        obtain ⟨rfl, B81⟩ := B81
        show Fn g D0 M _ (T79.setTop (mkF M.m 172 #[.val (.int p0), .val (.int p1), .val (.int p2), .val (.int p3), .val (.int p4), .val (.int q1), .val (.int q2), .val (.ref a3), .val (.ref a19), .val (.int ((((p4).toUInt32 >>> ((2 : Int32) &&& 31).toUInt32).toInt32) &&& (3 : Int32))), .unset] [(.int (0 : Int32))]))
        refine b_ifF B81 at_172 (pc' := 175) rfl (show (0 : Int32) = (0 : Int32) from by decide) ?_
        refine p_iconst B81 at_175 (pc' := 176) rfl (v := (1 : Int32)) (by decide) ?_
        refine b_goto B81 at_176 (pc' := 180) (by decide) (by decide) ?_
        exact r_reti B81 at_180 rfl (by simp) rfl (by decide) (by decide) (fun vm h P => rfl)
      · refine b_icT B32 at_160 (pc' := 181) hm2 (by decide) (by decide) ?_
        refine p_aload B32 at_181 (pc' := 183) rfl rfl rfl ?_
        refine p_aload B32 at_183 (pc' := 185) rfl rfl rfl ?_
        refine r_virtual (D' := D9) B32 at_185 (pc' := 188) rfl (W50 B32.gw) (W51 B32.gw) (W53 B32.gw) (fun vm0 hZ => notFace_of_selects (args := #[]) (mvT hZ (W53 B32.gw))) (W52 B32.gw) (W2 B32.gw) (W54 B32.gw) (by decide) (fE (i := 1) rfl) (k_ded W (fE (i := 1) rfl) (fO (i := 1) (j := 0) rfl rfl) (fO (i := 1) (j := 1) rfl rfl) (fO (i := 1) (j := 0) rfl rfl) (fO (i := 1) (j := 1) rfl rfl) (List.mem_of_getElem? (i := 3) rfl) (List.mem_of_getElem? (i := 2) rfl) (List.mem_of_getElem? (i := 3) rfl) (List.mem_of_getElem? (i := 2) rfl) (sx_le _) (sx_le _) (sx_le _) (sx_le _)) (argsL := [(.ref a3)]) (rest := []) rfl pd9 rfl rfl rfl (W := 0) rfl (by decide) (by decide) (cs' := 34) rfl (ss' := 164) rfl (by decide) (by decide) ?_
        intro T82 v83 B84
        replace B84 := Rn.ex B84
        obtain ⟨z85, B84⟩ := B84
        replace B84 := Rn.and B84
        obtain ⟨rfl, B84⟩ := B84
        replace B84 := Rn.and B84
        obtain ⟨hz, B84⟩ := B84
        show Fn g D0 M _ (T82.setTop (mkF M.m 188 #[.val (.int p0), .val (.int p1), .val (.int p2), .val (.int p3), .val (.int p4), .val (.int q1), .val (.int q2), .val (.ref a3), .val (.ref a19), .val (.int ((((p4).toUInt32 >>> ((2 : Int32) &&& 31).toUInt32).toInt32) &&& (3 : Int32))), .unset] [(.int z85)]))
        have hy86 : z85 = (1 : Int32) := by
          rcases hz with ⟨q, r⟩ | ⟨q, r⟩
          · exact q
          · exact absurd ⟨rfl, rfl⟩ r
        subst hy86
        exact r_reti B84 at_188 rfl (by simp) rfl (by decide) (by decide) (fun vm h P => rfl)
theorem k_law {g : GG} (W : GW g) (p0 p1 p2 p3 p4 : Int32) : CtW g D0 tables_1 #[.int p0, .int p1, .int p2, .int p3, .int p4] [] [] (fun v _ _ => v = some (.int 1)) := by
  refine CtW.body W (by decide +kernel) (ef_law p0 p1 p2 p3 p4) ?_
  intro M T B
  refine p_iload B at_0 (pc' := 2) rfl rfl ?_
  refine p_iconst B at_2 (pc' := 3) rfl (v := (1 : Int32)) (by decide) ?_
  refine p_iand B at_3 (pc' := 4) rfl rfl ?_
  by_cases h1 : (p4 &&& (1 : Int32)) = (0 : Int32)
  · refine b_ifT B at_4 (pc' := 11) h1 (by decide) (by decide) ?_
    refine p_iloadN B at_11 (pc' := 12) rfl rfl ?_
    refine p_iloadN B at_12 (pc' := 13) rfl rfl ?_
    refine p_ixor B at_13 (pc' := 14) rfl rfl ?_
    refine p_istore B at_14 (pc' := 16) rfl (Ls' := #[.val (.int p0), .val (.int p1), .val (.int p2), .val (.int p3), .val (.int p4), .val (.int (p0 ^^^ p2)), .unset, .unset, .unset, .unset, .unset]) rfl ?_
    refine p_iload B at_16 (pc' := 18) rfl rfl ?_
    refine p_iconst B at_18 (pc' := 19) rfl (v := (2 : Int32)) (by decide) ?_
    refine p_iand B at_19 (pc' := 20) rfl rfl ?_
    by_cases h2 : (p4 &&& (2 : Int32)) = (0 : Int32)
    · refine b_ifT B at_20 (pc' := 27) h2 (by decide) (by decide) ?_
      refine p_iloadN B at_27 (pc' := 28) rfl rfl ?_
      refine p_iloadN B at_28 (pc' := 29) rfl rfl ?_
      refine p_ixor B at_29 (pc' := 30) rfl rfl ?_
      refine p_istore B at_30 (pc' := 32) rfl (Ls' := #[.val (.int p0), .val (.int p1), .val (.int p2), .val (.int p3), .val (.int p4), .val (.int (p0 ^^^ p2)), .val (.int (p1 ^^^ p3)), .unset, .unset, .unset, .unset]) rfl ?_
      exact law32 W p0 p1 p2 p3 p4 _ _ B
    · refine b_ifF B at_20 (pc' := 23) rfl h2 ?_
      refine p_iloadN B at_23 (pc' := 24) rfl rfl ?_
      refine b_goto B at_24 (pc' := 30) (by decide) (by decide) ?_
      refine p_istore B at_30 (pc' := 32) rfl (Ls' := #[.val (.int p0), .val (.int p1), .val (.int p2), .val (.int p3), .val (.int p4), .val (.int (p0 ^^^ p2)), .val (.int p1), .unset, .unset, .unset, .unset]) rfl ?_
      exact law32 W p0 p1 p2 p3 p4 _ _ B
  · refine b_ifF B at_4 (pc' := 7) rfl h1 ?_
    refine p_iloadN B at_7 (pc' := 8) rfl rfl ?_
    refine b_goto B at_8 (pc' := 14) (by decide) (by decide) ?_
    refine p_istore B at_14 (pc' := 16) rfl (Ls' := #[.val (.int p0), .val (.int p1), .val (.int p2), .val (.int p3), .val (.int p4), .val (.int p0), .unset, .unset, .unset, .unset, .unset]) rfl ?_
    refine p_iload B at_16 (pc' := 18) rfl rfl ?_
    refine p_iconst B at_18 (pc' := 19) rfl (v := (2 : Int32)) (by decide) ?_
    refine p_iand B at_19 (pc' := 20) rfl rfl ?_
    by_cases h3 : (p4 &&& (2 : Int32)) = (0 : Int32)
    · refine b_ifT B at_20 (pc' := 27) h3 (by decide) (by decide) ?_
      refine p_iloadN B at_27 (pc' := 28) rfl rfl ?_
      refine p_iloadN B at_28 (pc' := 29) rfl rfl ?_
      refine p_ixor B at_29 (pc' := 30) rfl rfl ?_
      refine p_istore B at_30 (pc' := 32) rfl (Ls' := #[.val (.int p0), .val (.int p1), .val (.int p2), .val (.int p3), .val (.int p4), .val (.int p0), .val (.int (p1 ^^^ p3)), .unset, .unset, .unset, .unset]) rfl ?_
      exact law32 W p0 p1 p2 p3 p4 _ _ B
    · refine b_ifF B at_20 (pc' := 23) rfl h3 ?_
      refine p_iloadN B at_23 (pc' := 24) rfl rfl ?_
      refine b_goto B at_24 (pc' := 30) (by decide) (by decide) ?_
      refine p_istore B at_30 (pc' := 32) rfl (Ls' := #[.val (.int p0), .val (.int p1), .val (.int p2), .val (.int p3), .val (.int p4), .val (.int p0), .val (.int p1), .unset, .unset, .unset, .unset]) rfl ?_
      exact law32 W p0 p1 p2 p3 p4 _ _ B
theorem comes_1 {Post : Tables → Env → Array Value → State → Outcome → State → Prop} (hpost : ∀ tb e args s v u, (limb_1_1.after args s (.returned v) u = true ∧ limb_1_2.after args s (.returned v) u = true ∧ True) → FramedW s (.returned v) u (Jvm.fieldLocs frame_1_writes args s ++ Jvm.arrayLocs frame_1_arrays args s ++ Jvm.staticLocs frame_1_statics s) 48 3264 → Post tb e args s (.returned v) u) :
    ArmFor flags0 classFile x code maxLocals ret World_1 tables_1 room_1 Calls_1 rest_1 Pre_1 Post := by
  intro l hfl _ _ p e ha hc hk s m args below hf hA hF happ hP
  obtain ⟨hcalls, hrest, hpre⟩ := hP
  obtain ⟨-, -, -, hnamed, -, -, -, hat⟩ := (Spec.applies_iff hf).mp happ
  obtain ⟨hg, hn⟩ := and_e (Cond.before_iff.mp (show (Jvm.Cond.and given_1 narrow_1).before args s = true from hpre))
  obtain ⟨q0, r0⟩ := and_e hg
  obtain ⟨q1, r1⟩ := and_e r0
  obtain ⟨q2, r2⟩ := and_e r1
  obtain ⟨q3, r3⟩ := and_e r2
  obtain ⟨q4, r4⟩ := and_e r3
  obtain ⟨w0, w1, w2, w3, w4, rfl⟩ : ∃ w0 w1 w2 w3 w4 : Value, args = #[w0, w1, w2, w3, w4] := by
    have hs : args.size = 5 := by simpa [Cond.value, given_1] using q0
    obtain ⟨L⟩ := args
    match L, hs with
    | [w0, w1, w2, w3, w4], _ => exact ⟨w0, w1, w2, w3, w4, rfl⟩
  have hw := fun d (hd : d ∈ tables_1) => atoms_spec (ws := Jvm.Cond.code x code maxLocals ret :: tables_1) hat d (List.mem_cons_of_mem _ hd)
  have hfit : Fit s := fun {y c} hc i hi => by
    obtain ⟨ha, rfl⟩ := Array.getElem?_eq_some_iff.mp hc
    have q := List.all_eq_true.mp ((Array.all_eq_true_iff_forall_mem.mp hF) _ (Array.getElem_mem ha)) i (List.mem_range.mpr hi)
    simpa [Array.getElem?_eq_getElem hi] using q
  obtain ⟨hsets, -⟩ := atoms_of _ (rest_1_c_eq ▸ (show rest_1_c.before _ s = true from hrest))
  obtain ⟨i0, ei0⟩ := is_v q1
  obtain rfl : w0 = (.int i0) := Option.some.inj ei0
  obtain ⟨i1, ei1⟩ := is_v q2
  obtain rfl : w1 = (.int i1) := Option.some.inj ei1
  obtain ⟨i2, ei2⟩ := is_v q3
  obtain rfl : w2 = (.int i2) := Option.some.inj ei2
  obtain ⟨i3, ei3⟩ := is_v q4
  obtain rfl : w3 = (.int i3) := Option.some.inj ei3
  obtain ⟨i4, ei4⟩ := is_v r4
  obtain rfl : w4 = (.int i4) := Option.some.inj ei4
  have hEW : EW s #[(.int i0), (.int i1), (.int i2), (.int i3), (.int i4)] consts_1 := EW.cons (hw _ (List.mem_of_getElem? (i := 36) rfl)) (by decide) (EW.cons (hw _ (List.mem_of_getElem? (i := 44) rfl)) (by decide) (EW.cons (hw _ (List.mem_of_getElem? (i := 24) rfl)) (by decide) (EW.nil)))
  have hcw : Jvm.Lit.compactW.before #[(.int i0), (.int i1), (.int i2), (.int i3), (.int i4)] s = true := hsets _ (List.mem_of_getElem? (i := 2) rfl)
  have hCH : CHv s consts_1 s.vm s.heap := CHv.start hEW (fun p hp => hcalls.1 p hp) hcw (hw _ (List.mem_of_getElem? (i := 25) rfl)) (hw _ (List.mem_of_getElem? (i := 11) rfl))
  have W : GW (l, s, #[(.int i0), (.int i1), (.int i2), (.int i3), (.int i4)], consts_1) := ⟨hw, hEW, hsets, hfit, rfl⟩
  obtain ⟨n, o, h1, h2, h3, _, L, rfl, rfl, N, hr⟩ := k_law W i0 i1 i2 i3 i4 p e ha hc hk s m _ below hf ((Spec.applies_iff_loose hf).mp happ).1 ⟨rfl, State.Warmed39.refl s, hCH, ext_rfl _, Hp.nil⟩ trivial
  exact ⟨n, _, h1, h2, h3, hpost _ _ _ _ _ _ ⟨Cond.after_iff.mpr rfl, Cond.after_iff.mpr (eq_i res_at (Term.int_eval (1)) rfl), trivial⟩ ⟨hr.2.2.1, hr.2.2.2.1, hr.2.2.2.2.1, (hr.2.2.2.2.2.sift fun y hy => Or.inr (N y hy)).mono (by decide) (by decide)⟩⟩
theorem main_1_1 : Claimed_1_1 := comes_1 fun _ _ _ _ _ _ h hF => ⟨h.1, hF⟩
theorem main_1_2 : Claimed_1_2 := comes_1 fun _ _ _ _ _ _ h hF => ⟨h.2.1, hF⟩
end Jvm.Pilot.@@N@@
namespace Jvm.Pilot.@@N@@
open Jvm Jvm.ClassFile Sem Op Lib Jvm.Free Jvm.Stand Jvm.Pilot.@@N@@.Jvm.D
/-! MADE BY PROGRAM (witnessworld.py) out of the Statement's table words and the real class files: 21 classes; the members and pool entries that the words name. The judged class is class 1, her method 6. -/
namespace start1
open Jvm.ClassFile
def u (s : String) : CpInfo := .utf8 (stringToUtf16 s)
/-- a pool by its gaps: so many unusable entries, then the entry; so many at the end -/
def gap : Nat → List CpInfo → List CpInfo
  | 0, r => r
  | n + 1, r => .unusable :: gap n r
def poolList (es : List (Nat × CpInfo)) (last : Nat) : List CpInfo := es.foldr (fun e r => gap e.1 (e.2 :: r)) (gap last [])
def pool (es : List (Nat × CpInfo)) (last : Nat) : Array CpInfo := ⟨poolList es last⟩
def fileOf (pool : Array CpInfo) (this : Nat) (attrs : Array Attribute := #[]) (ms : Array MethodInfo := #[]) (fl : Nat := 33) (sup : Nat := 0) (ifs : Array Nat := #[]) (fds : Array FieldInfo := #[]) : ClassFile where
  minorVersion := 0
  majorVersion := 65
  constantPool := pool
  accessFlags := fl
  thisClass := this
  superClass := sup
  interfaces := ifs
  fields := fds
  methods := ms
  attributes := attrs
def plain (name : String) (sup : Option ClassId) : Class where
  name := name
  kind := .ordinary
  loader := none
  accessFlags := 33
  super := sup
  interfaces := #[]
  cf := none
  fields := #[]
  methods := #[]
  instanceTypes := #[]
  staticTypes := #[]
  resolved := #[]
  callSites := []
  init := .initialized
  statics := none
  mirror := none

def pool0 : Array CpInfo := pool [(5, u "<init>"), (0, u "()V"), (1, .class_ 10), (1, u "java/lang/Object")] 113

def k0c0 : Code := { maxStack := 0, maxLocals := 1, code := object_method_1_code, exceptionTable := #[], attributes := #[] }
def k0m0 : Method := { name := "<init>", desc := "()V", sig := { parameters := [], returnType := none }, accessFlags := 1, code := some k0c0 }
/-- java/lang/Object -/
def k0 : Class := { plain "java/lang/Object" none with
  accessFlags := 33
  interfaces := #[]
  cf := some (fileOf pool0 8 #[] #[{ accessFlags := 1, nameIndex := 5, descriptorIndex := 6, attributes := #[] }] 33 0 #[] #[])
  fields := #[]
  methods := #[k0m0]
  instanceTypes := #[]
  staticTypes := #[]
  resolved := Array.replicate 124 none
  statics := none }

def pool1 : Array CpInfo := pool [(2, .class_ 4), (1, u "java/lang/Object"), (0, u "<init>"), (0, u "()V"), (0, .methodref 8 9), (0, .class_ 10), (0, .nameAndType 11 12), (0, u "com/example/postings/postings/model/TopicEqualsPinLaw"), (0, u "len"), (0, u "(I)I"), (0, .class_ 14), (0, u "java/lang/String"), (0, .methodref 13 16), (0, .nameAndType 5 17), (0, u "([C)V"), (0, .methodref 8 19), (0, .nameAndType 20 21), (0, u "c0"), (0, u "(I)C"), (0, .methodref 8 23), (0, .nameAndType 24 21), (0, u "c1"), (0, .class_ 26), (0, u "com/example/postings/postings/model/Topic"), (0, .methodref 8 28), (0, .nameAndType 29 30), (0, u "str"), (0, u "(I)Ljava/lang/String;"), (0, .methodref 25 32), (0, .nameAndType 5 33), (0, u "(Ljava/lang/String;Ljava/lang/String;)V"), (0, .methodref 8 35), (0, .nameAndType 36 37), (0, u "same"), (0, u "(II)Z"), (0, .methodref 25 39), (0, .nameAndType 40 41), (0, u "equals"), (0, u "(Ljava/lang/Object;)Z"), (3, u "law"), (0, u "(IIIII)Z")] 2

def k1m0 : Method := { name := "<init>", desc := "()V", sig := { parameters := [], returnType := none }, accessFlags := 1, code := none }
def k1c1 : Code := { maxStack := 2, maxLocals := 1, code := method_2_code, exceptionTable := #[], attributes := #[] }
def k1m1 : Method := { name := "len", desc := "(I)I", sig := { parameters := [.int], returnType := some .int }, accessFlags := 10, code := some k1c1 }
def k1c2 : Code := { maxStack := 2, maxLocals := 1, code := method_3_code, exceptionTable := #[], attributes := #[] }
def k1m2 : Method := { name := "c0", desc := "(I)C", sig := { parameters := [.int], returnType := some .char }, accessFlags := 10, code := some k1c2 }
def k1c3 : Code := { maxStack := 2, maxLocals := 1, code := method_4_code, exceptionTable := #[], attributes := #[] }
def k1m3 : Method := { name := "c1", desc := "(I)C", sig := { parameters := [.int], returnType := some .char }, accessFlags := 10, code := some k1c3 }
def k1c4 : Code := { maxStack := 3, maxLocals := 3, code := method_5_code, exceptionTable := #[], attributes := #[] }
def k1m4 : Method := { name := "str", desc := "(I)Ljava/lang/String;", sig := { parameters := [.int], returnType := some (.object "java/lang/String") }, accessFlags := 10, code := some k1c4 }
def k1c5 : Code := { maxStack := 2, maxLocals := 3, code := method_6_code, exceptionTable := #[], attributes := #[] }
def k1m5 : Method := { name := "same", desc := "(II)Z", sig := { parameters := [.int, .int], returnType := some .boolean }, accessFlags := 10, code := some k1c5 }
def k1c6 : Code := { maxStack := 4, maxLocals := 11, code := code, exceptionTable := #[], attributes := #[] }
def k1m6 : Method := { name := "law", desc := "(IIIII)Z", sig := { parameters := [.int, .int, .int, .int, .int], returnType := some .boolean }, accessFlags := 9, code := some k1c6 }
/-- com/example/postings/postings/model/TopicEqualsPinLaw -/
def k1 : Class := { plain "com/example/postings/postings/model/TopicEqualsPinLaw" (some 0) with
  accessFlags := 49
  interfaces := #[]
  cf := some (fileOf pool1 8 #[] #[{ accessFlags := 1, nameIndex := 5, descriptorIndex := 6, attributes := #[] }, { accessFlags := 10, nameIndex := 11, descriptorIndex := 12, attributes := #[] }, { accessFlags := 10, nameIndex := 20, descriptorIndex := 21, attributes := #[] }, { accessFlags := 10, nameIndex := 24, descriptorIndex := 21, attributes := #[] }, { accessFlags := 10, nameIndex := 29, descriptorIndex := 30, attributes := #[] }, { accessFlags := 10, nameIndex := 36, descriptorIndex := 37, attributes := #[] }, { accessFlags := 9, nameIndex := 45, descriptorIndex := 46, attributes := #[] }] 49 2 #[] #[])
  fields := #[]
  methods := #[k1m0, k1m1, k1m2, k1m3, k1m4, k1m5, k1m6]
  instanceTypes := #[]
  staticTypes := #[]
  resolved := Array.replicate 49 none
  statics := none }

def pool2 : Array CpInfo := pool [(1, .methodref 2 3), (0, .class_ 4), (0, .nameAndType 5 6), (0, u "java/lang/Object"), (0, u "<init>"), (0, u "()V"), (0, .string 8), (0, u "number"), (0, .methodref 10 11), (0, .class_ 12), (0, .nameAndType 13 14), (0, u "java/util/Objects"), (0, u "requireNonNull"), (0, u "(Ljava/lang/Object;Ljava/lang/String;)Ljava/lang/Object;"), (0, .class_ 16), (0, u "java/lang/String"), (0, .fieldref 18 19), (0, .class_ 20), (0, .nameAndType 8 21), (0, u "com/example/postings/postings/model/Topic"), (0, u "Ljava/lang/String;"), (0, .string 23), (0, u "title"), (0, .fieldref 18 25), (0, .nameAndType 23 21), (0, .methodref 15 27), (0, .nameAndType 28 29), (0, u "equals"), (0, u "(Ljava/lang/Object;)Z"), (8, u "(Ljava/lang/String;Ljava/lang/String;)V")] 22

def k2c0 : Code := { maxStack := 3, maxLocals := 3, code := prog_43_method_1_code, exceptionTable := #[], attributes := #[] }
def k2m0 : Method := { name := "<init>", desc := "(Ljava/lang/String;Ljava/lang/String;)V", sig := { parameters := [(.object "java/lang/String"), (.object "java/lang/String")], returnType := none }, accessFlags := 1, code := some k2c0 }
def k2c1 : Code := { maxStack := 2, maxLocals := 2, code := prog_43_method_4_code, exceptionTable := #[], attributes := #[] }
def k2m1 : Method := { name := "equals", desc := "(Ljava/lang/Object;)Z", sig := { parameters := [(.object "java/lang/Object")], returnType := some .boolean }, accessFlags := 1, code := some k2c1 }
/-- com/example/postings/postings/model/Topic -/
def k2 : Class := { plain "com/example/postings/postings/model/Topic" (some 0) with
  accessFlags := 49
  interfaces := #[]
  cf := some (fileOf pool2 18 #[] #[{ accessFlags := 1, nameIndex := 5, descriptorIndex := 38, attributes := #[] }, { accessFlags := 1, nameIndex := 28, descriptorIndex := 29, attributes := #[] }] 49 2 #[] #[{ accessFlags := 18, nameIndex := 8, descriptorIndex := 21, attributes := #[] }, { accessFlags := 18, nameIndex := 23, descriptorIndex := 21, attributes := #[] }])
  fields := #[{ name := "number", type := (.object "java/lang/String"), accessFlags := 18, slot := 0, constantValue := 0 }, { name := "title", type := (.object "java/lang/String"), accessFlags := 18, slot := 1, constantValue := 0 }]
  methods := #[k2m0, k2m1]
  instanceTypes := #[(.object "java/lang/String"), (.object "java/lang/String")]
  staticTypes := #[]
  resolved := Array.replicate 61 none
  statics := none }

def pool3 : Array CpInfo := pool [(1, .class_ 2), (0, u "java/io/Serializable"), (0, .class_ 4), (0, u "java/lang/Object")] 2

/-- java/io/Serializable -/
def k3 : Class := { plain "java/io/Serializable" (some 0) with
  accessFlags := 1537
  interfaces := #[]
  cf := some (fileOf pool3 1 #[] #[] 1537 3 #[] #[])
  fields := #[]
  methods := #[]
  instanceTypes := #[]
  staticTypes := #[]
  resolved := Array.replicate 7 none
  statics := none }

def pool4 : Array CpInfo := pool [(1, .class_ 2), (0, u "java/lang/Comparable"), (0, .class_ 4), (0, u "java/lang/Object")] 7

/-- java/lang/Comparable -/
def k4 : Class := { plain "java/lang/Comparable" (some 0) with
  accessFlags := 1537
  interfaces := #[]
  cf := some (fileOf pool4 1 #[] #[] 1537 3 #[] #[])
  fields := #[]
  methods := #[]
  instanceTypes := #[]
  staticTypes := #[]
  resolved := Array.replicate 12 none
  statics := none }

def pool5 : Array CpInfo := pool [(2, .class_ 4), (1, u "java/lang/CharSequence"), (42, .class_ 48), (0, u "java/lang/CharSequence$1CodePointIterator"), (10, .class_ 60), (0, u "java/lang/CharSequence$1CharIterator"), (5, .class_ 67), (0, u "java/lang/Object")] 63

/-- java/lang/CharSequence -/
def k5 : Class := { plain "java/lang/CharSequence" (some 0) with
  accessFlags := 1537
  interfaces := #[]
  cf := some (fileOf pool5 2 #[.nestMembers #[47, 59]] #[] 1537 66 #[] #[])
  fields := #[]
  methods := #[]
  instanceTypes := #[]
  staticTypes := #[]
  resolved := Array.replicate 131 none
  statics := none }

def pool6 : Array CpInfo := pool [(1, .class_ 2), (0, u "java/lang/constant/Constable"), (0, .class_ 4), (0, u "java/lang/Object")] 6

/-- java/lang/constant/Constable -/
def k6 : Class := { plain "java/lang/constant/Constable" (some 0) with
  accessFlags := 1537
  interfaces := #[]
  cf := some (fileOf pool6 1 #[] #[] 1537 3 #[] #[])
  fields := #[]
  methods := #[]
  instanceTypes := #[]
  staticTypes := #[]
  resolved := Array.replicate 11 none
  statics := none }

def pool7 : Array CpInfo := pool [(1, .class_ 2), (0, u "java/lang/constant/ConstantDesc"), (0, .class_ 4), (0, u "java/lang/Object")] 32

/-- java/lang/constant/ConstantDesc -/
def k7 : Class := { plain "java/lang/constant/ConstantDesc" (some 0) with
  accessFlags := 1537
  interfaces := #[]
  cf := some (fileOf pool7 1 #[] #[] 1537 3 #[] #[])
  fields := #[]
  methods := #[]
  instanceTypes := #[]
  staticTypes := #[]
  resolved := Array.replicate 37 none
  statics := none }

def pool8 : Array CpInfo := pool [(1, .methodref 2 3), (0, .class_ 4), (0, .nameAndType 5 6), (0, u "java/lang/Object"), (0, u "<init>"), (0, u "()V"), (0, .string 8), (0, u ""), (0, .fieldref 10 11), (0, .class_ 12), (0, .nameAndType 13 14), (0, u "java/lang/String"), (0, u "value"), (0, u "[B"), (0, .fieldref 10 16), (0, .nameAndType 17 18), (0, u "coder"), (0, u "B"), (2, u "hash"), (0, u "I"), (2, u "hashIsZero"), (0, u "Z"), (0, .methodref 10 28), (0, .nameAndType 5 29), (0, u "([CIILjava/lang/Void;)V"), (8, .fieldref 10 39), (0, .nameAndType 40 26), (0, u "COMPACT_STRINGS"), (1, .class_ 44), (1, u "java/lang/StringUTF16"), (0, u "compress"), (1, .methodref 42 48), (0, .nameAndType 49 50), (0, u "coderFromArrayLen"), (0, u "([BI)B"), (56, .class_ 109), (1, u "java/lang/StringLatin1"), (67, .methodref 42 178), (0, .nameAndType 45 179), (0, u "([CII)[B"), (361, .methodref 107 542), (0, .nameAndType 543 544), (0, u "equals"), (0, u "([B[B)Z"), (28, u "(Ljava/lang/Object;)Z"), (1, .class_ 576), (0, u "java/lang/CharSequence"), (22, u "CASE_INSENSITIVE_ORDER"), (0, u "Ljava/util/Comparator;"), (409, u "([C)V"), (90, u "serialPersistentFields"), (0, u "[Ljava/io/ObjectStreamField;"), (0, .class_ 1104), (0, u "java/lang/String$CaseInsensitiveComparator"), (1, .class_ 1107), (0, u "java/io/Serializable"), (0, .class_ 1109), (0, u "java/lang/Comparable"), (0, .class_ 1111), (0, u "java/lang/constant/Constable"), (0, .class_ 1113), (0, u "java/lang/constant/ConstantDesc"), (2, u "serialVersionUID"), (0, u "J"), (3, u "REPL"), (0, u "C"), (2, u "LATIN1"), (1, u "UTF16")] 323

def k8m0 : Method := { name := "<init>", desc := "()V", sig := { parameters := [], returnType := none }, accessFlags := 1, code := none }
def k8c1 : Code := { maxStack := 5, maxLocals := 2, code := jdk_42_method_3_code, exceptionTable := #[], attributes := #[] }
def k8m1 : Method := { name := "<init>", desc := "([C)V", sig := { parameters := [(.array .char)], returnType := none }, accessFlags := 1, code := some k8c1 }
def k8c2 : Code := { maxStack := 2, maxLocals := 3, code := jdk_42_method_66_code, exceptionTable := #[], attributes := #[] }
def k8m2 : Method := { name := "equals", desc := "(Ljava/lang/Object;)Z", sig := { parameters := [(.object "java/lang/Object")], returnType := some .boolean }, accessFlags := 1, code := some k8c2 }
def k8c3 : Code := { maxStack := 4, maxLocals := 6, code := jdk_42_method_149_code, exceptionTable := #[], attributes := #[] }
def k8m3 : Method := { name := "<init>", desc := "([CIILjava/lang/Void;)V", sig := { parameters := [(.array .char), .int, .int, (.object "java/lang/Void")], returnType := none }, accessFlags := 2, code := some k8c3 }
/-- java/lang/String -/
def k8 : Class := { plain "java/lang/String" (some 0) with
  accessFlags := 49
  interfaces := #[3, 4, 5, 6, 7]
  cf := some (fileOf pool8 10 #[.nestMembers #[1103]] #[{ accessFlags := 1, nameIndex := 5, descriptorIndex := 6, attributes := #[] }, { accessFlags := 1, nameIndex := 5, descriptorIndex := 1010, attributes := #[] }, { accessFlags := 1, nameIndex := 543, descriptorIndex := 573, attributes := #[] }, { accessFlags := 2, nameIndex := 5, descriptorIndex := 29, attributes := #[] }] 49 2 #[1106, 1108, 575, 1110, 1112] #[{ accessFlags := 18, nameIndex := 13, descriptorIndex := 14, attributes := #[] }, { accessFlags := 18, nameIndex := 17, descriptorIndex := 18, attributes := #[] }, { accessFlags := 2, nameIndex := 21, descriptorIndex := 22, attributes := #[] }, { accessFlags := 2, nameIndex := 25, descriptorIndex := 26, attributes := #[] }, { accessFlags := 26, nameIndex := 1116, descriptorIndex := 1117, attributes := #[] }, { accessFlags := 24, nameIndex := 40, descriptorIndex := 26, attributes := #[] }, { accessFlags := 26, nameIndex := 1101, descriptorIndex := 1102, attributes := #[] }, { accessFlags := 26, nameIndex := 1121, descriptorIndex := 1122, attributes := #[] }, { accessFlags := 25, nameIndex := 599, descriptorIndex := 600, attributes := #[] }, { accessFlags := 24, nameIndex := 1125, descriptorIndex := 18, attributes := #[] }, { accessFlags := 24, nameIndex := 1127, descriptorIndex := 18, attributes := #[] }])
  fields := #[{ name := "value", type := (.array .byte), accessFlags := 18, slot := 0, constantValue := 0 }, { name := "coder", type := .byte, accessFlags := 18, slot := 1, constantValue := 0 }, { name := "hash", type := .int, accessFlags := 2, slot := 2, constantValue := 0 }, { name := "hashIsZero", type := .boolean, accessFlags := 2, slot := 3, constantValue := 0 }, { name := "serialVersionUID", type := .long, accessFlags := 26, slot := 0, constantValue := 0 }, { name := "COMPACT_STRINGS", type := .boolean, accessFlags := 24, slot := 1, constantValue := 0 }, { name := "serialPersistentFields", type := (.array (.object "java/io/ObjectStreamField")), accessFlags := 26, slot := 2, constantValue := 0 }, { name := "REPL", type := .char, accessFlags := 26, slot := 3, constantValue := 0 }, { name := "CASE_INSENSITIVE_ORDER", type := (.object "java/util/Comparator"), accessFlags := 25, slot := 4, constantValue := 0 }, { name := "LATIN1", type := .byte, accessFlags := 24, slot := 5, constantValue := 0 }, { name := "UTF16", type := .byte, accessFlags := 24, slot := 6, constantValue := 0 }]
  methods := #[k8m0, k8m1, k8m2, k8m3]
  instanceTypes := #[(.array .byte), .byte, .int, .boolean]
  staticTypes := #[.long, .boolean, (.array (.object "java/io/ObjectStreamField")), .char, (.object "java/util/Comparator"), .byte, .byte]
  resolved := Array.replicate 1451 none
  statics := some 0 }

def pool9 : Array CpInfo := pool [(2, .class_ 4), (1, u "java/lang/Object"), (0, u "<init>"), (0, u "()V"), (35, .class_ 44), (1, u "java/util/Objects"), (0, u "requireNonNull"), (48, u "(Ljava/lang/Object;Ljava/lang/String;)Ljava/lang/Object;")] 89

def k9m0 : Method := { name := "<init>", desc := "()V", sig := { parameters := [], returnType := none }, accessFlags := 2, code := none }
def k9c1 : Code := { maxStack := 3, maxLocals := 2, code := jdk_31_method_11_code, exceptionTable := #[], attributes := #[] }
def k9m1 : Method := { name := "requireNonNull", desc := "(Ljava/lang/Object;Ljava/lang/String;)Ljava/lang/Object;", sig := { parameters := [(.object "java/lang/Object"), (.object "java/lang/String")], returnType := some (.object "java/lang/Object") }, accessFlags := 9, code := some k9c1 }
/-- java/util/Objects -/
def k9 : Class := { plain "java/util/Objects" (some 0) with
  accessFlags := 49
  interfaces := #[]
  cf := some (fileOf pool9 42 #[] #[{ accessFlags := 2, nameIndex := 5, descriptorIndex := 6, attributes := #[] }, { accessFlags := 9, nameIndex := 45, descriptorIndex := 94, attributes := #[] }] 49 2 #[] #[])
  fields := #[]
  methods := #[k9m0, k9m1]
  instanceTypes := #[]
  staticTypes := #[]
  resolved := Array.replicate 184 none
  statics := none }

def pool10 : Array CpInfo := pool [(4, .class_ 6), (1, u "java/lang/Object"), (0, u "<init>"), (0, u "()V"), (5, .class_ 16), (1, u "java/lang/StringLatin1"), (104, u "$assertionsDisabled"), (0, u "Z"), (98, .class_ 223), (1, u "java/lang/StringLatin1$LinesSpliterator"), (57, u "equals"), (0, u "([B[B)Z"), (107, .class_ 391), (0, u "java/lang/StringLatin1$CharsSpliterator")] 3

def k10m0 : Method := { name := "<init>", desc := "()V", sig := { parameters := [], returnType := none }, accessFlags := 0, code := none }
def k10c1 : Code := { maxStack := 3, maxLocals := 3, code := jdk_43_method_13_code, exceptionTable := #[], attributes := #[] }
def k10m1 : Method := { name := "equals", desc := "([B[B)Z", sig := { parameters := [(.array .byte), (.array .byte)], returnType := some .boolean }, accessFlags := 9, code := some k10c1 }
/-- java/lang/StringLatin1 -/
def k10 : Class := { plain "java/lang/StringLatin1" (some 0) with
  accessFlags := 48
  interfaces := #[]
  cf := some (fileOf pool10 14 #[.nestMembers #[390, 221]] #[{ accessFlags := 0, nameIndex := 7, descriptorIndex := 8, attributes := #[] }, { accessFlags := 9, nameIndex := 281, descriptorIndex := 282, attributes := #[] }] 48 4 #[] #[{ accessFlags := 4120, nameIndex := 121, descriptorIndex := 122, attributes := #[] }])
  fields := #[{ name := "$assertionsDisabled", type := .boolean, accessFlags := 4120, slot := 0, constantValue := 0 }]
  methods := #[k10m0, k10m1]
  instanceTypes := #[]
  staticTypes := #[.boolean]
  resolved := Array.replicate 395 none
  statics := none }

def pool11 : Array CpInfo := pool [(6, .class_ 8), (1, u "java/lang/Object"), (0, u "<init>"), (0, u "()V"), (1, .class_ 14), (1, u "java/lang/StringUTF16"), (31, u "$assertionsDisabled"), (0, u "Z"), (13, u "HI_BYTE_SHIFT"), (0, u "I"), (2, u "LO_BYTE_SHIFT"), (49, .methodref 12 116), (0, .nameAndType 117 118), (0, u "compress"), (0, u "([CI[BII)I"), (3, u "([CII)[B"), (138, u "coderFromArrayLen"), (0, u "([BI)B"), (106, .class_ 371), (1, u "java/lang/StringUTF16$LinesSpliterator"), (58, u "MAX_LENGTH"), (196, .class_ 628), (0, u "java/lang/StringUTF16$CodePointsSpliterator"), (0, .class_ 630), (0, u "java/lang/StringUTF16$CharsSpliterator")] 4

def k11m0 : Method := { name := "<init>", desc := "()V", sig := { parameters := [], returnType := none }, accessFlags := 0, code := none }
def k11c1 : Code := { maxStack := 2, maxLocals := 2, code := jdk_52_method_15_code, exceptionTable := #[], attributes := #[] }
def k11m1 : Method := { name := "coderFromArrayLen", desc := "([BI)B", sig := { parameters := [(.array .byte), .int], returnType := some .byte }, accessFlags := 8, code := some k11c1 }
def k11c2 : Code := { maxStack := 5, maxLocals := 6, code := jdk_52_method_16_code, exceptionTable := #[], attributes := #[] }
def k11m2 : Method := { name := "compress", desc := "([CII)[B", sig := { parameters := [(.array .char), .int, .int], returnType := some (.array .byte) }, accessFlags := 9, code := some k11c2 }
def k11c3 : Code := { maxStack := 3, maxLocals := 7, code := jdk_52_method_21_code, exceptionTable := #[], attributes := #[] }
def k11m3 : Method := { name := "compress", desc := "([CI[BII)I", sig := { parameters := [(.array .char), .int, (.array .byte), .int, .int], returnType := some .int }, accessFlags := 9, code := some k11c3 }
/-- java/lang/StringUTF16 -/
def k11 : Class := { plain "java/lang/StringUTF16" (some 0) with
  accessFlags := 48
  interfaces := #[]
  cf := some (fileOf pool11 12 #[.nestMembers #[627, 629, 369]] #[{ accessFlags := 0, nameIndex := 9, descriptorIndex := 10, attributes := #[] }, { accessFlags := 8, nameIndex := 261, descriptorIndex := 262, attributes := #[] }, { accessFlags := 9, nameIndex := 117, descriptorIndex := 122, attributes := #[] }, { accessFlags := 9, nameIndex := 117, descriptorIndex := 118, attributes := #[] }] 48 6 #[] #[{ accessFlags := 26, nameIndex := 61, descriptorIndex := 62, attributes := #[] }, { accessFlags := 26, nameIndex := 65, descriptorIndex := 62, attributes := #[] }, { accessFlags := 24, nameIndex := 430, descriptorIndex := 62, attributes := #[] }, { accessFlags := 4120, nameIndex := 46, descriptorIndex := 47, attributes := #[] }])
  fields := #[{ name := "HI_BYTE_SHIFT", type := .int, accessFlags := 26, slot := 0, constantValue := 0 }, { name := "LO_BYTE_SHIFT", type := .int, accessFlags := 26, slot := 1, constantValue := 0 }, { name := "MAX_LENGTH", type := .int, accessFlags := 24, slot := 2, constantValue := 0 }, { name := "$assertionsDisabled", type := .boolean, accessFlags := 4120, slot := 3, constantValue := 0 }]
  methods := #[k11m0, k11m1, k11m2, k11m3]
  instanceTypes := #[]
  staticTypes := #[.int, .int, .int, .boolean]
  resolved := Array.replicate 635 none
  statics := none }

def pool12 : Array CpInfo := pool [(2, .class_ 4), (1, u "java/lang/Object"), (0, u "<init>"), (0, u "()V"), (17, .class_ 26), (1, u "jdk/internal/util/Preconditions"), (28, .class_ 56), (0, u "jdk/internal/util/Preconditions$4"), (57, .class_ 115), (0, u "jdk/internal/util/Preconditions$1"), (7, u "SIOOBE_FORMATTER"), (0, u "Ljava/util/function/BiFunction;"), (0, .class_ 126), (0, u "jdk/internal/util/Preconditions$2"), (3, u "AIOOBE_FORMATTER"), (0, .class_ 132), (0, u "jdk/internal/util/Preconditions$3"), (3, u "IOOBE_FORMATTER")] 57

def k12m0 : Method := { name := "<init>", desc := "()V", sig := { parameters := [], returnType := none }, accessFlags := 1, code := none }
/-- jdk/internal/util/Preconditions -/
def k12 : Class := { plain "jdk/internal/util/Preconditions" (some 0) with
  accessFlags := 33
  interfaces := #[]
  cf := some (fileOf pool12 24 #[.nestMembers #[55, 131, 125, 114]] #[{ accessFlags := 1, nameIndex := 5, descriptorIndex := 6, attributes := #[] }] 33 2 #[] #[{ accessFlags := 25, nameIndex := 123, descriptorIndex := 124, attributes := #[] }, { accessFlags := 25, nameIndex := 130, descriptorIndex := 124, attributes := #[] }, { accessFlags := 25, nameIndex := 136, descriptorIndex := 124, attributes := #[] }])
  fields := #[{ name := "SIOOBE_FORMATTER", type := (.object "java/util/function/BiFunction"), accessFlags := 25, slot := 0, constantValue := 0 }, { name := "AIOOBE_FORMATTER", type := (.object "java/util/function/BiFunction"), accessFlags := 25, slot := 1, constantValue := 0 }, { name := "IOOBE_FORMATTER", type := (.object "java/util/function/BiFunction"), accessFlags := 25, slot := 2, constantValue := 0 }]
  methods := #[k12m0]
  instanceTypes := #[]
  staticTypes := #[(.object "java/util/function/BiFunction"), (.object "java/util/function/BiFunction"), (.object "java/util/function/BiFunction")]
  resolved := Array.replicate 194 none
  statics := some 1 }

def pool13 : Array CpInfo := pool [(9, u "<init>"), (6, .class_ 18), (1, u "java/lang/Object"), (0, u "()V"), (1, .class_ 23), (1, u "jdk/internal/util/ArraysSupport"), (0, u "LOG2_ARRAY_LONG_INDEX_SCALE"), (0, u "I"), (2, u "U"), (0, u "Ljdk/internal/misc/Unsafe;"), (8, u "BIG_ENDIAN"), (0, u "Z"), (8, u "LOG2_BYTE_BIT_SIZE"), (4, u "LOG2_ARRAY_INT_INDEX_SCALE"), (54, u "JLA"), (0, u "Ljdk/internal/access/JavaLangAccess;"), (11, u "LOG2_ARRAY_BOOLEAN_INDEX_SCALE"), (9, u "LOG2_ARRAY_BYTE_INDEX_SCALE"), (5, u "LOG2_ARRAY_CHAR_INDEX_SCALE"), (5, u "LOG2_ARRAY_SHORT_INDEX_SCALE"), (18, u "LOG2_ARRAY_FLOAT_INDEX_SCALE"), (24, u "LOG2_ARRAY_DOUBLE_INDEX_SCALE"), (89, u "T_BOOLEAN"), (2, u "T_CHAR"), (1, u "T_FLOAT"), (1, u "T_DOUBLE"), (1, u "T_BYTE"), (1, u "T_SHORT"), (1, u "T_INT"), (1, u "T_LONG"), (1, u "SOFT_MAX_ARRAY_LENGTH")] 83

def k13m0 : Method := { name := "<init>", desc := "()V", sig := { parameters := [], returnType := none }, accessFlags := 2, code := none }
/-- jdk/internal/util/ArraysSupport -/
def k13 : Class := { plain "jdk/internal/util/ArraysSupport" (some 0) with
  accessFlags := 33
  interfaces := #[]
  cf := some (fileOf pool13 21 #[] #[{ accessFlags := 2, nameIndex := 9, descriptorIndex := 19, attributes := #[] }] 33 16 #[] #[{ accessFlags := 24, nameIndex := 28, descriptorIndex := 29, attributes := #[] }, { accessFlags := 26, nameIndex := 38, descriptorIndex := 39, attributes := #[] }, { accessFlags := 25, nameIndex := 121, descriptorIndex := 25, attributes := #[] }, { accessFlags := 25, nameIndex := 131, descriptorIndex := 25, attributes := #[] }, { accessFlags := 25, nameIndex := 137, descriptorIndex := 25, attributes := #[] }, { accessFlags := 25, nameIndex := 143, descriptorIndex := 25, attributes := #[] }, { accessFlags := 25, nameIndex := 53, descriptorIndex := 25, attributes := #[] }, { accessFlags := 25, nameIndex := 24, descriptorIndex := 25, attributes := #[] }, { accessFlags := 25, nameIndex := 162, descriptorIndex := 25, attributes := #[] }, { accessFlags := 25, nameIndex := 187, descriptorIndex := 25, attributes := #[] }, { accessFlags := 26, nameIndex := 48, descriptorIndex := 25, attributes := #[] }, { accessFlags := 25, nameIndex := 277, descriptorIndex := 25, attributes := #[] }, { accessFlags := 25, nameIndex := 280, descriptorIndex := 25, attributes := #[] }, { accessFlags := 25, nameIndex := 282, descriptorIndex := 25, attributes := #[] }, { accessFlags := 25, nameIndex := 284, descriptorIndex := 25, attributes := #[] }, { accessFlags := 25, nameIndex := 286, descriptorIndex := 25, attributes := #[] }, { accessFlags := 25, nameIndex := 288, descriptorIndex := 25, attributes := #[] }, { accessFlags := 25, nameIndex := 290, descriptorIndex := 25, attributes := #[] }, { accessFlags := 25, nameIndex := 292, descriptorIndex := 25, attributes := #[] }, { accessFlags := 26, nameIndex := 108, descriptorIndex := 109, attributes := #[] }, { accessFlags := 25, nameIndex := 294, descriptorIndex := 25, attributes := #[] }])
  fields := #[{ name := "U", type := (.object "jdk/internal/misc/Unsafe"), accessFlags := 24, slot := 0, constantValue := 0 }, { name := "BIG_ENDIAN", type := .boolean, accessFlags := 26, slot := 1, constantValue := 0 }, { name := "LOG2_ARRAY_BOOLEAN_INDEX_SCALE", type := .int, accessFlags := 25, slot := 2, constantValue := 0 }, { name := "LOG2_ARRAY_BYTE_INDEX_SCALE", type := .int, accessFlags := 25, slot := 3, constantValue := 0 }, { name := "LOG2_ARRAY_CHAR_INDEX_SCALE", type := .int, accessFlags := 25, slot := 4, constantValue := 0 }, { name := "LOG2_ARRAY_SHORT_INDEX_SCALE", type := .int, accessFlags := 25, slot := 5, constantValue := 0 }, { name := "LOG2_ARRAY_INT_INDEX_SCALE", type := .int, accessFlags := 25, slot := 6, constantValue := 0 }, { name := "LOG2_ARRAY_LONG_INDEX_SCALE", type := .int, accessFlags := 25, slot := 7, constantValue := 0 }, { name := "LOG2_ARRAY_FLOAT_INDEX_SCALE", type := .int, accessFlags := 25, slot := 8, constantValue := 0 }, { name := "LOG2_ARRAY_DOUBLE_INDEX_SCALE", type := .int, accessFlags := 25, slot := 9, constantValue := 0 }, { name := "LOG2_BYTE_BIT_SIZE", type := .int, accessFlags := 26, slot := 10, constantValue := 0 }, { name := "T_BOOLEAN", type := .int, accessFlags := 25, slot := 11, constantValue := 0 }, { name := "T_CHAR", type := .int, accessFlags := 25, slot := 12, constantValue := 0 }, { name := "T_FLOAT", type := .int, accessFlags := 25, slot := 13, constantValue := 0 }, { name := "T_DOUBLE", type := .int, accessFlags := 25, slot := 14, constantValue := 0 }, { name := "T_BYTE", type := .int, accessFlags := 25, slot := 15, constantValue := 0 }, { name := "T_SHORT", type := .int, accessFlags := 25, slot := 16, constantValue := 0 }, { name := "T_INT", type := .int, accessFlags := 25, slot := 17, constantValue := 0 }, { name := "T_LONG", type := .int, accessFlags := 25, slot := 18, constantValue := 0 }, { name := "JLA", type := (.object "jdk/internal/access/JavaLangAccess"), accessFlags := 26, slot := 19, constantValue := 0 }, { name := "SOFT_MAX_ARRAY_LENGTH", type := .int, accessFlags := 25, slot := 20, constantValue := 0 }]
  methods := #[k13m0]
  instanceTypes := #[]
  staticTypes := #[(.object "jdk/internal/misc/Unsafe"), .boolean, .int, .int, .int, .int, .int, .int, .int, .int, .int, .int, .int, .int, .int, .int, .int, .int, .int, (.object "jdk/internal/access/JavaLangAccess"), .int]
  resolved := Array.replicate 378 none
  statics := none }

def pool14 : Array CpInfo := pool [(1, u "java/lang/Cloneable"), (0, .class_ 1), (0, u "java/lang/Object"), (0, .class_ 3)] 3

/-- java/lang/Cloneable -/
def k14 : Class := { plain "java/lang/Cloneable" (some 0) with
  accessFlags := 1537
  interfaces := #[]
  cf := some (fileOf pool14 2 #[] #[] 1537 4 #[] #[])
  fields := #[]
  methods := #[]
  instanceTypes := #[]
  staticTypes := #[]
  resolved := Array.replicate 8 none
  statics := none }

/-- the primitive byte -/
def k15 : Class := { plain "byte" none with kind := .primitive 'B', accessFlags := 0x411 }
/-- [B -/
def k16 : Class := { plain "[B" (some 0) with kind := .array 15 .byte, interfaces := #[14, 3], accessFlags := 1041 }

/-- the primitive char -/
def k17 : Class := { plain "char" none with kind := .primitive 'C', accessFlags := 0x411 }
/-- [C -/
def k18 : Class := { plain "[C" (some 0) with kind := .array 17 .char, interfaces := #[14, 3], accessFlags := 1041 }

/-- the primitive int -/
def k19 : Class := { plain "int" none with kind := .primitive 'I', accessFlags := 0x411 }
/-- [I -/
def k20 : Class := { plain "[I" (some 0) with kind := .array 19 .int, interfaces := #[14, 3], accessFlags := 1041 }

def heap : Heap := #[{ cls := 8, slots := #[.long 0, .int 1, .null, .int 0, .null, .int 0, .int 0], vm := .statics 8 },
  { cls := 12, slots := #[.null, .null, .null], vm := .statics 12 }]
def classes : Array Class := #[k0, k1, k2, k3, k4, k5, k6, k7, k8, k9, k10, k11, k12, k13, k14, k15, k16, k17, k18, k19, k20]
def interned : List (Array UInt16 × Addr) := []
def slotsUsed : Nat := 10
def theMethod : MethodId := ⟨1, 6⟩
def args0 : Array Value := #[.int 5, .int 5, .int 5, .int 5, .int 5]
def aboutOver (below : List Frame) : State where
  vm := { classes := classes, interned := interned.toArray }
  heap := heap
  slotsUsed := slotsUsed
  threads := #[{ frames := .invoking theMethod args0 :: below }]
def below0 : List Frame := [.native { method := ⟨0, 0⟩, args := #[] }]
def about1 : State := aboutOver below0
def p0 : Program := .bare "" "" ""
def e0 : Env := launch0.env 0 0 0
theorem w_frames : about1.frames = Frame.invoking theMethod args0 :: below0 := rfl
set_option maxRecDepth 65536 in
theorem w_args : argsFit about1.vm theMethod args0 = true := by decide +kernel
set_option maxRecDepth 65536 in
theorem w_heap : heapFits about1 = true := by decide +kernel
set_option maxRecDepth 65536 in
theorem w_runnable : about1.curStatus? = some .runnable := by decide +kernel
set_option maxRecDepth 65536 in
theorem w_alone : about1.alone = true := by decide +kernel
set_option maxRecDepth 65536 in
theorem w_named : about1.methodNamed? x = some theMethod := by decide +kernel
set_option maxRecDepth 65536 in
theorem w_hears : about1.hears theMethod below0 = true := by decide +kernel
set_option maxRecDepth 65536 in
theorem w_ripe : about1.ripe theMethod args0 below0 = true := by decide +kernel
theorem w_running : about1.status = .running := rfl
set_option maxRecDepth 65536 in
theorem w_room : about1.hasRoom e0.platform room_1 = true :=
  launch0.hasRoom_least _ room_1 (by decide +kernel) (by decide +kernel) (by decide +kernel) (by decide +kernel) (by decide +kernel) (by decide +kernel)
theorem allAtoms_all (ts : List Jvm.Cond) (a : Array Jvm.Value) (st : Jvm.State) : (allAtoms ts).before a st = ts.all (fun c => c.before a st) := by
  induction ts with
  | nil => rfl
  | cons c t ih =>
    show (Jvm.Cond.and c (allAtoms t)).before a st = _
    rw [Jvm.Cond.before_and, ih, List.all_cons]
def words1 : List Jvm.Cond := Jvm.Cond.code x code maxLocals ret :: tables_1
/-- a 'code' word, met by the world's own term for the bytes: nothing is compared byte by byte -/
theorem code_word {y : MethodName} {bytes : ByteArray} {mx : Nat} {rt : Option FieldType} {a : Array Value} {s : State} {m : MethodId} {meth : Method} {c : Code} (h1 : s.methodNamed? y = some m) (h2 : s.vm.method? m = some meth) (h3 : meth.code = some c) (h4 : c.code = bytes)
    (h5 : (c.maxLocals == mx && c.exceptionTable.isEmpty && decide (c.maxStack ≤ mostOperands) && decide (meth.sig.returnType = rt) && !meth.locks && decide (parseMethodDescriptor y.desc = some meth.sig)) = true) : (Jvm.Cond.code y bytes mx rt).before a s = true := by
  simp only [Bool.and_eq_true, beq_iff_eq, Bool.not_eq_true', decide_eq_true_eq] at h5
  obtain ⟨⟨⟨⟨⟨g1, g2⟩, g3⟩, g4⟩, g5⟩, g6⟩ := h5
  simp [Cond.before, Cond.holds, Cond.value, h1, h2, h3, h4, g1, g2, g3, g4, g5, g6]
def isCode : Jvm.Cond → Bool
  | .code _ _ _ _ => true
  | _ => false
theorem all_split {L : List Jvm.Cond} {P : Jvm.Cond → Bool} (h1 : L.all (fun c => isCode c || P c) = true) (h2 : ∀ c ∈ L.filter isCode, P c = true) : L.all P = true := by
  refine List.all_eq_true.mpr fun c hc => ?_
  have h := List.all_eq_true.mp h1 c hc
  rcases Bool.eq_false_or_eq_true (isCode c) with hi | hi
  · exact h2 c (List.mem_filter.mpr ⟨hc, hi⟩)
  · simpa [hi] using h
set_option maxRecDepth 65536 in
theorem w_c0 : (Jvm.Cond.code x code maxLocals ret).before args0 about1 = true := code_word (m := ⟨1, 6⟩) (meth := k1m6) (c := k1c6) (by decide +kernel) rfl rfl rfl (by decide +kernel)
set_option maxRecDepth 65536 in
theorem w_c1 : (Jvm.Cond.code ({ cls := "com/example/postings/postings/model/TopicEqualsPinLaw", name := "str", desc := "(I)Ljava/lang/String;" } : Jvm.MethodName) method_5_code (3 : Nat) (Option.some (Jvm.ClassFile.FieldType.object "java/lang/String"))).before args0 about1 = true := code_word (m := ⟨1, 4⟩) (meth := k1m4) (c := k1c4) (by decide +kernel) rfl rfl rfl (by decide +kernel)
set_option maxRecDepth 65536 in
theorem w_c2 : (Jvm.Cond.code ({ cls := "com/example/postings/postings/model/TopicEqualsPinLaw", name := "len", desc := "(I)I" } : Jvm.MethodName) method_2_code (1 : Nat) (Option.some Jvm.ClassFile.FieldType.int)).before args0 about1 = true := code_word (m := ⟨1, 1⟩) (meth := k1m1) (c := k1c1) (by decide +kernel) rfl rfl rfl (by decide +kernel)
set_option maxRecDepth 65536 in
theorem w_c3 : (Jvm.Cond.code ({ cls := "java/lang/String", name := "<init>", desc := "([C)V" } : Jvm.MethodName) jdk_42_method_3_code (2 : Nat) (Option.none : Option Jvm.ClassFile.FieldType)).before args0 about1 = true := code_word (m := ⟨8, 1⟩) (meth := k8m1) (c := k8c1) (by decide +kernel) rfl rfl rfl (by decide +kernel)
set_option maxRecDepth 65536 in
theorem w_c4 : (Jvm.Cond.code ({ cls := "java/lang/String", name := "<init>", desc := "([CIILjava/lang/Void;)V" } : Jvm.MethodName) jdk_42_method_149_code (6 : Nat) (Option.none : Option Jvm.ClassFile.FieldType)).before args0 about1 = true := code_word (m := ⟨8, 3⟩) (meth := k8m3) (c := k8c3) (by decide +kernel) rfl rfl rfl (by decide +kernel)
set_option maxRecDepth 65536 in
theorem w_c5 : (Jvm.Cond.code ({ cls := "java/lang/Object", name := "<init>", desc := "()V" } : Jvm.MethodName) object_method_1_code (1 : Nat) (Option.none : Option Jvm.ClassFile.FieldType)).before args0 about1 = true := code_word (m := ⟨0, 0⟩) (meth := k0m0) (c := k0c0) (by decide +kernel) rfl rfl rfl (by decide +kernel)
set_option maxRecDepth 65536 in
theorem w_c6 : (Jvm.Cond.code ({ cls := "com/example/postings/postings/model/Topic", name := "<init>", desc := "(Ljava/lang/String;Ljava/lang/String;)V" } : Jvm.MethodName) prog_43_method_1_code (3 : Nat) (Option.none : Option Jvm.ClassFile.FieldType)).before args0 about1 = true := code_word (m := ⟨2, 0⟩) (meth := k2m0) (c := k2c0) (by decide +kernel) rfl rfl rfl (by decide +kernel)
set_option maxRecDepth 65536 in
theorem w_c7 : (Jvm.Cond.code ({ cls := "java/util/Objects", name := "requireNonNull", desc := "(Ljava/lang/Object;Ljava/lang/String;)Ljava/lang/Object;" } : Jvm.MethodName) jdk_31_method_11_code (2 : Nat) (Option.some (Jvm.ClassFile.FieldType.object "java/lang/Object"))).before args0 about1 = true := code_word (m := ⟨9, 1⟩) (meth := k9m1) (c := k9c1) (by decide +kernel) rfl rfl rfl (by decide +kernel)
set_option maxRecDepth 65536 in
theorem w_c8 : (Jvm.Cond.code ({ cls := "com/example/postings/postings/model/TopicEqualsPinLaw", name := "same", desc := "(II)Z" } : Jvm.MethodName) method_6_code (3 : Nat) (Option.some Jvm.ClassFile.FieldType.boolean)).before args0 about1 = true := code_word (m := ⟨1, 5⟩) (meth := k1m5) (c := k1c5) (by decide +kernel) rfl rfl rfl (by decide +kernel)
set_option maxRecDepth 65536 in
theorem w_c9 : (Jvm.Cond.code ({ cls := "com/example/postings/postings/model/Topic", name := "equals", desc := "(Ljava/lang/Object;)Z" } : Jvm.MethodName) prog_43_method_4_code (2 : Nat) (Option.some Jvm.ClassFile.FieldType.boolean)).before args0 about1 = true := code_word (m := ⟨2, 1⟩) (meth := k2m1) (c := k2c1) (by decide +kernel) rfl rfl rfl (by decide +kernel)
set_option maxRecDepth 65536 in
theorem w_c10 : (Jvm.Cond.code ({ cls := "java/lang/String", name := "equals", desc := "(Ljava/lang/Object;)Z" } : Jvm.MethodName) jdk_42_method_66_code (3 : Nat) (Option.some Jvm.ClassFile.FieldType.boolean)).before args0 about1 = true := code_word (m := ⟨8, 2⟩) (meth := k8m2) (c := k8c2) (by decide +kernel) rfl rfl rfl (by decide +kernel)
set_option maxRecDepth 65536 in
theorem w_c11 : (Jvm.Cond.code ({ cls := "java/lang/StringLatin1", name := "equals", desc := "([B[B)Z" } : Jvm.MethodName) jdk_43_method_13_code (3 : Nat) (Option.some Jvm.ClassFile.FieldType.boolean)).before args0 about1 = true := code_word (m := ⟨10, 1⟩) (meth := k10m1) (c := k10c1) (by decide +kernel) rfl rfl rfl (by decide +kernel)
set_option maxRecDepth 65536 in
theorem w_c12 : (Jvm.Cond.code ({ cls := "com/example/postings/postings/model/TopicEqualsPinLaw", name := "c0", desc := "(I)C" } : Jvm.MethodName) method_3_code (1 : Nat) (Option.some Jvm.ClassFile.FieldType.char)).before args0 about1 = true := code_word (m := ⟨1, 2⟩) (meth := k1m2) (c := k1c2) (by decide +kernel) rfl rfl rfl (by decide +kernel)
set_option maxRecDepth 65536 in
theorem w_c13 : (Jvm.Cond.code ({ cls := "com/example/postings/postings/model/TopicEqualsPinLaw", name := "c1", desc := "(I)C" } : Jvm.MethodName) method_4_code (1 : Nat) (Option.some Jvm.ClassFile.FieldType.char)).before args0 about1 = true := code_word (m := ⟨1, 3⟩) (meth := k1m3) (c := k1c3) (by decide +kernel) rfl rfl rfl (by decide +kernel)
set_option maxRecDepth 65536 in
theorem w_c14 : (Jvm.Cond.code ({ cls := "java/lang/StringUTF16", name := "compress", desc := "([CII)[B" } : Jvm.MethodName) jdk_52_method_16_code (6 : Nat) (Option.some (Jvm.ClassFile.FieldType.array Jvm.ClassFile.FieldType.byte))).before args0 about1 = true := code_word (m := ⟨11, 2⟩) (meth := k11m2) (c := k11c2) (by decide +kernel) rfl rfl rfl (by decide +kernel)
set_option maxRecDepth 65536 in
theorem w_c15 : (Jvm.Cond.code ({ cls := "java/lang/StringUTF16", name := "compress", desc := "([CI[BII)I" } : Jvm.MethodName) jdk_52_method_21_code (7 : Nat) (Option.some Jvm.ClassFile.FieldType.int)).before args0 about1 = true := code_word (m := ⟨11, 3⟩) (meth := k11m3) (c := k11c3) (by decide +kernel) rfl rfl rfl (by decide +kernel)
set_option maxRecDepth 65536 in
theorem w_c16 : (Jvm.Cond.code ({ cls := "java/lang/StringUTF16", name := "coderFromArrayLen", desc := "([BI)B" } : Jvm.MethodName) jdk_52_method_15_code (2 : Nat) (Option.some Jvm.ClassFile.FieldType.byte)).before args0 about1 = true := code_word (m := ⟨11, 1⟩) (meth := k11m1) (c := k11c1) (by decide +kernel) rfl rfl rfl (by decide +kernel)
def codes1 : List Jvm.Cond := [Jvm.Cond.code x code maxLocals ret, Jvm.Cond.code ({ cls := "com/example/postings/postings/model/TopicEqualsPinLaw", name := "str", desc := "(I)Ljava/lang/String;" } : Jvm.MethodName) method_5_code (3 : Nat) (Option.some (Jvm.ClassFile.FieldType.object "java/lang/String")), Jvm.Cond.code ({ cls := "com/example/postings/postings/model/TopicEqualsPinLaw", name := "len", desc := "(I)I" } : Jvm.MethodName) method_2_code (1 : Nat) (Option.some Jvm.ClassFile.FieldType.int), Jvm.Cond.code ({ cls := "java/lang/String", name := "<init>", desc := "([C)V" } : Jvm.MethodName) jdk_42_method_3_code (2 : Nat) (Option.none : Option Jvm.ClassFile.FieldType), Jvm.Cond.code ({ cls := "java/lang/String", name := "<init>", desc := "([CIILjava/lang/Void;)V" } : Jvm.MethodName) jdk_42_method_149_code (6 : Nat) (Option.none : Option Jvm.ClassFile.FieldType), Jvm.Cond.code ({ cls := "java/lang/Object", name := "<init>", desc := "()V" } : Jvm.MethodName) object_method_1_code (1 : Nat) (Option.none : Option Jvm.ClassFile.FieldType), Jvm.Cond.code ({ cls := "com/example/postings/postings/model/Topic", name := "<init>", desc := "(Ljava/lang/String;Ljava/lang/String;)V" } : Jvm.MethodName) prog_43_method_1_code (3 : Nat) (Option.none : Option Jvm.ClassFile.FieldType), Jvm.Cond.code ({ cls := "java/util/Objects", name := "requireNonNull", desc := "(Ljava/lang/Object;Ljava/lang/String;)Ljava/lang/Object;" } : Jvm.MethodName) jdk_31_method_11_code (2 : Nat) (Option.some (Jvm.ClassFile.FieldType.object "java/lang/Object")), Jvm.Cond.code ({ cls := "com/example/postings/postings/model/TopicEqualsPinLaw", name := "same", desc := "(II)Z" } : Jvm.MethodName) method_6_code (3 : Nat) (Option.some Jvm.ClassFile.FieldType.boolean), Jvm.Cond.code ({ cls := "com/example/postings/postings/model/Topic", name := "equals", desc := "(Ljava/lang/Object;)Z" } : Jvm.MethodName) prog_43_method_4_code (2 : Nat) (Option.some Jvm.ClassFile.FieldType.boolean), Jvm.Cond.code ({ cls := "java/lang/String", name := "equals", desc := "(Ljava/lang/Object;)Z" } : Jvm.MethodName) jdk_42_method_66_code (3 : Nat) (Option.some Jvm.ClassFile.FieldType.boolean), Jvm.Cond.code ({ cls := "java/lang/StringLatin1", name := "equals", desc := "([B[B)Z" } : Jvm.MethodName) jdk_43_method_13_code (3 : Nat) (Option.some Jvm.ClassFile.FieldType.boolean), Jvm.Cond.code ({ cls := "com/example/postings/postings/model/TopicEqualsPinLaw", name := "c0", desc := "(I)C" } : Jvm.MethodName) method_3_code (1 : Nat) (Option.some Jvm.ClassFile.FieldType.char), Jvm.Cond.code ({ cls := "com/example/postings/postings/model/TopicEqualsPinLaw", name := "c1", desc := "(I)C" } : Jvm.MethodName) method_4_code (1 : Nat) (Option.some Jvm.ClassFile.FieldType.char), Jvm.Cond.code ({ cls := "java/lang/StringUTF16", name := "compress", desc := "([CII)[B" } : Jvm.MethodName) jdk_52_method_16_code (6 : Nat) (Option.some (Jvm.ClassFile.FieldType.array Jvm.ClassFile.FieldType.byte)), Jvm.Cond.code ({ cls := "java/lang/StringUTF16", name := "compress", desc := "([CI[BII)I" } : Jvm.MethodName) jdk_52_method_21_code (7 : Nat) (Option.some Jvm.ClassFile.FieldType.int), Jvm.Cond.code ({ cls := "java/lang/StringUTF16", name := "coderFromArrayLen", desc := "([BI)B" } : Jvm.MethodName) jdk_52_method_15_code (2 : Nat) (Option.some Jvm.ClassFile.FieldType.byte)]
set_option maxRecDepth 65536 in
theorem codes_eq : words1.filter isCode = codes1 := rfl
theorem w_codes : ∀ c ∈ words1.filter isCode, c.before args0 about1 = true := by
  rw [codes_eq]
  intro c hc
  simp only [codes1, List.mem_cons, List.not_mem_nil, or_false] at hc
  rcases hc with rfl | rfl | rfl | rfl | rfl | rfl | rfl | rfl | rfl | rfl | rfl | rfl | rfl | rfl | rfl | rfl | rfl
  · exact w_c0
  · exact w_c1
  · exact w_c2
  · exact w_c3
  · exact w_c4
  · exact w_c5
  · exact w_c6
  · exact w_c7
  · exact w_c8
  · exact w_c9
  · exact w_c10
  · exact w_c11
  · exact w_c12
  · exact w_c13
  · exact w_c14
  · exact w_c15
  · exact w_c16
set_option maxRecDepth 65536 in
theorem w_t1 : (words1.take 24).all (fun c => isCode c || c.before args0 about1) = true := by decide +kernel
set_option maxRecDepth 65536 in
theorem w_t2 : ((words1.drop 24).take 24).all (fun c => isCode c || c.before args0 about1) = true := by decide +kernel
set_option maxRecDepth 65536 in
theorem w_t3 : (((words1.drop 24).drop 24).take 24).all (fun c => isCode c || c.before args0 about1) = true := by decide +kernel
set_option maxRecDepth 65536 in
theorem w_t4 : (((words1.drop 24).drop 24).drop 24).all (fun c => isCode c || c.before args0 about1) = true := by decide +kernel
theorem w_tables : (allAtoms (Jvm.Cond.code x code maxLocals ret :: tables_1)).before args0 about1 = true := by
  rw [allAtoms_all]
  show words1.all (fun c => c.before args0 about1) = true
  refine all_split ?_ w_codes
  rw [← List.take_append_drop 24 words1, List.all_append, w_t1, ← List.take_append_drop 24 (words1.drop 24), List.all_append, w_t2, ← List.take_append_drop 24 ((words1.drop 24).drop 24), List.all_append, w_t3, w_t4]
  rfl
set_option maxRecDepth 65536 in
theorem w_rest : rest_1_c.before args0 about1 = true := by decide +kernel
set_option maxRecDepth 65536 in
theorem w_case : (Jvm.Cond.and given_1 narrow_1).before args0 about1 = true := by decide +kernel
set_option maxRecDepth 65536 in
theorem w_consts : constsHeld consts_1 about1 := Jvm.Lit.constsHeldB_iff.mp (by decide +kernel)
theorem w_applies : (headSpec (Jvm.Cond.code x code maxLocals ret :: tables_1) room_1).applies x e0.platform about1 = true :=
  (Spec.applies_iff w_frames).mpr ⟨w_running, w_runnable, w_alone, w_named, w_hears, w_ripe, w_room, w_tables⟩
theorem atStart : AtStart classFile x code maxLocals ret World_1 tables_1 room_1 Calls_1 rest_1 Pre_1 launch0 p0 e0 about1 theMethod args0 below0 :=
  ⟨lists_1, trivial, launch0.admits_env _ _ _, launch0.least_env, fairChoices_fair.cas, fairChoices_fair.clock, w_frames, w_args, w_heap, w_applies, ⟨w_consts, trivial⟩, w_rest, w_case⟩
end start1
theorem witness_1 : WitnessClaimed_1 := ⟨start1.p0, start1.e0, start1.about1, start1.theMethod, start1.args0, start1.below0, start1.atStart⟩
end Jvm.Pilot.@@N@@
