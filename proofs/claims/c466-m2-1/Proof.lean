import JvmDerived
import JvmDerived.Pilot.@@N@@Statement
import JvmDerived.Pilot.@@N@@Code
set_option linter.unusedVariables false
set_option linter.unusedSimpArgs false
set_option maxRecDepth 65536
set_option maxHeartbeats 4000000
namespace Jvm.Pilot.@@N@@
open Jvm Jvm.ClassFile Sem Op Lib Jvm.Free Jvm.Stand Jvm.LawKit Jvm.RoadKit Bundle Jvm.Pilot.@@N@@.Jvm.D

def OwnSets (g : Launch × State × Array Value × List (String × Nat)) : Prop := (∀ d ∈ jdkStatics_1, d.before g.2.2.1 g.2.1 = true) ∧ Fit g.2.1 ∧ g.2.2.2 = consts_1
/-! OWN WALKING KIT, part 1: the heap as an explicit list, the running state, the goal, contracts. -/
abbrev GG := Launch × State × Array Value × List (String × Nat)
abbrev GG.l (g : GG) : Launch := g.1
abbrev GG.Z (g : GG) : State := g.2.1
abbrev GG.a0 (g : GG) : Array Value := g.2.2.1
abbrev GG.EL (g : GG) : List (String × Nat) := g.2.2.2
abbrev MM := Program × Env × State × MethodId × Array Value × List Frame × Method × Code
abbrev MM.p (M : MM) : Program := M.1
abbrev MM.e (M : MM) : Env := M.2.1
abbrev MM.s (M : MM) : State := M.2.2.1
abbrev MM.m (M : MM) : MethodId := M.2.2.2.1
abbrev MM.args (M : MM) : Array Value := M.2.2.2.2.1
abbrev MM.below (M : MM) : List Frame := M.2.2.2.2.2.1
abbrev MM.meth (M : MM) : Method := M.2.2.2.2.2.2.1
abbrev MM.c (M : MM) : Code := M.2.2.2.2.2.2.2
abbrev DD := MethodName × ByteArray × Nat × Option FieldType × Room
abbrev DD.y (D : DD) : MethodName := D.1
abbrev DD.cd (D : DD) : ByteArray := D.2.1
abbrev DD.mx (D : DD) : Nat := D.2.2.1
abbrev DD.rt (D : DD) : Option FieldType := D.2.2.2.1
abbrev DD.rm (D : DD) : Room := D.2.2.2.2
/-- the case's words, at its start -/
def GW (g : GG) : Prop := (∀ d ∈ tables_1, d.before g.a0 g.Z = true) ∧ EW g.Z g.a0 g.EL ∧ OwnSets g
theorem GW.w {g : GG} (W : GW g) : ∀ d ∈ tables_1, d.before g.a0 g.Z = true := W.1
abbrev FD := String × String × String × Value
abbrev Ent := Addr × ((String × List FD) ⊕ (FieldType × String × List Value))
abbrev SE := Addr × Addr × Int32 × List Value
def Ary (Z : State) (h : Heap) (a : Addr) (ty : FieldType) (nm : String) (vs : List Value) : Prop :=
  ∃ c : Cell, Jvm.RoadKit.Arr Z h a c ty ∧ c.slots = vs.toArray ∧ vs.length < 2 ^ 31 ∧ (∀ v ∈ vs, fits ty v = true) ∧ (∀ C, ty = .object C → Ovr Z c.cls C) ∧ (nm ≠ "" → Exa Z h a nm)
def Is (Z : State) (h : Heap) : Ent → Prop
  | (a, .inl (C, fs)) => Exa Z h a C ∧ ∀ f ∈ fs, Fld Z h a f.1 f.2.1 f.2.2.1 f.2.2.2
  | (a, .inr (ty, nm, vs)) => Ary Z h a ty nm vs
def Lays (Z : State) (a0 : Array Value) (C : String) (fs : List FD) : Prop :=
  (fs.map fun f => f.2.1).Nodup ∧ ∀ f ∈ fs, Laid Z a0 C f.1 f.2.1 f.2.2.1 ∧ ∃ ty, parseFieldDescriptor f.2.2.1 = some ty
def Ld (Z : State) (a0 : Array Value) : Ent → Prop
  | (_, .inl (C, fs)) => Lays Z a0 C fs
  | (_, .inr _) => True
def IsS (Z : State) (h : Heap) (y : SE) : Prop :=
  Exa Z h y.1 "java/lang/String" ∧ Fld Z h y.1 "java/lang/String" "value" "[B" (.ref y.2.1) ∧ Fld Z h y.1 "java/lang/String" "coder" "B" (.int y.2.2.1) ∧ Ary Z h y.2.1 .byte "" y.2.2.2
def Hp (g : GG) (vm : Vm) (h : Heap) (H : List Ent) (Lt : List SE) : Prop :=
  (∀ x ∈ H, Is g.Z h x ∧ Ld g.Z g.a0 x ∧ g.Z.heap.size ≤ x.1 ∧ Safe g.Z g.EL vm h x.1) ∧ (H.map Prod.fst).Nodup ∧ (∀ y ∈ Lt, IsS g.Z h y) ∧ ∀ x ∈ H, ∀ y ∈ Lt, x.1 ≠ y.1 ∧ x.1 ≠ y.2.1
section Heap
variable {g : GG} {Z : State} {h h' : Heap} {vm vm1 : Vm} {a b : Addr} {ty : FieldType} {nm : String} {vs : List Value} {H H' : List Ent} {Lt Lt' : List SE} {ws : List Addr} {a0 : Array Value}
theorem Ary.ext (A : Ary Z h a ty nm vs) (E : Ext h h') : Ary Z h' a ty nm vs := by
  obtain ⟨c, r1, r2, r3, r4, r5, r6⟩ := A
  exact ⟨c, r1.ext E, r2, r3, r4, r5, fun q => (r6 q).ext E⟩
theorem Ary.keep (A : Ary Z h a ty nm vs) (K : Keep h h' ws) (q : a ∉ ws) : Ary Z h' a ty nm vs := by
  obtain ⟨c, r1, r2, r3, r4, r5, r6⟩ := A
  exact ⟨c, ⟨K.2.1 a c r1.1 q, r1.2⟩, r2, r3, r4, r5, fun q => (r6 q).keep K⟩
theorem Ary.lt (A : Ary Z h a ty nm vs) : a < h.size := by obtain ⟨c, r1, -⟩ := A; exact r1.lt
theorem Is.lt {x : Ent} (I : Is Z h x) : x.1 < h.size := by
  obtain ⟨a, ⟨C, fs⟩ | ⟨ty, nm, vs⟩⟩ := x
  · exact I.1.lt
  · exact Ary.lt I
theorem Is.ext {x : Ent} (I : Is Z h x) (E : Ext h h') : Is Z h' x := by
  obtain ⟨a, ⟨C, fs⟩ | ⟨ty, nm, vs⟩⟩ := x
  · exact ⟨I.1.ext E, fun f hf => (I.2 f hf).ext E⟩
  · exact Ary.ext I E
theorem Is.keep {x : Ent} (I : Is Z h x) (K : Keep h h' ws) (q : x.1 ∉ ws) : Is Z h' x := by
  obtain ⟨a, ⟨C, fs⟩ | ⟨ty, nm, vs⟩⟩ := x
  · exact ⟨I.1.keep K, fun f hf => (I.2 f hf).keep K q⟩
  · exact Ary.keep I K q
theorem IsS.ext {y : SE} (I : IsS Z h y) (E : Ext h h') : IsS Z h' y := ⟨I.1.ext E, I.2.1.ext E, I.2.2.1.ext E, I.2.2.2.ext E⟩
theorem IsS.keep {y : SE} (I : IsS Z h y) (K : Keep h h' ws) (q : y.1 ∉ ws) (r : y.2.1 ∉ ws) : IsS Z h' y := ⟨I.1.keep K, I.2.1.keep K q, I.2.2.1.keep K q, I.2.2.2.keep K r⟩
/-- the tables and the heap go on, the heap at its end -/
theorem Hp.move (P : Hp g vm h H Lt) (C : CHr g.Z g.EL vm h vm1 h') (E : Ext h h') : Hp g vm1 h' H Lt :=
  ⟨fun x hx => ⟨(P.1 x hx).1.ext E, (P.1 x hx).2.1, (P.1 x hx).2.2.1, C.safe (P.1 x hx).1.lt (P.1 x hx).2.2.2⟩, P.2.1, fun y hy => (P.2.2.1 y hy).ext E, P.2.2.2⟩
theorem Hp.perm (P : Hp g vm h H Lt) (q : H.Perm H') : Hp g vm h H' Lt :=
  ⟨fun x hx => P.1 x (q.mem_iff.mpr hx), (q.map Prod.fst).nodup_iff.mp P.2.1, P.2.2.1, fun x hx => P.2.2.2 x (q.mem_iff.mpr hx)⟩
theorem perm_front {α : Type} {x : α} : ∀ {l : List α} {i : Nat}, l[i]? = some x → (x :: l.eraseIdx i).Perm l
  | [], _, h => by simp at h
  | a :: l, 0, h => by
    rw [List.getElem?_cons_zero] at h
    cases h
    exact List.Perm.refl _
  | a :: l, i + 1, h => by
    rw [List.getElem?_cons_succ] at h
    exact (List.Perm.swap a x _).trans ((perm_front h).cons a)
theorem Hp.front (P : Hp g vm h H Lt) {i : Nat} {x : Ent} (hi : H[i]? = some x) : Hp g vm h (x :: H.eraseIdx i) Lt := by
  exact P.perm (perm_front hi).symm
theorem Hp.sub (P : Hp g vm h H Lt) (q : H'.Sublist H) : Hp g vm h H' Lt :=
  ⟨fun x hx => P.1 x (q.subset hx), (q.map Prod.fst).nodup P.2.1, P.2.2.1, fun x hx => P.2.2.2 x (q.subset hx)⟩
theorem Hp.del (P : Hp g vm h H Lt) (i : Nat) : Hp g vm h (H.eraseIdx i) Lt := P.sub (List.eraseIdx_sublist H i)
theorem Hp.lsub (P : Hp g vm h H Lt) (q : ∀ y ∈ Lt', y ∈ Lt) : Hp g vm h H Lt' := ⟨P.1, P.2.1, fun y hy => P.2.2.1 y (q y hy), fun x hx y hy => P.2.2.2 x hx y (q y hy)⟩
theorem Hp.add (P : Hp g vm h H Lt) {x : Ent} (hI : Is g.Z h x) (hL : Ld g.Z g.a0 x) (h0 : g.Z.heap.size ≤ x.1) (hs : Safe g.Z g.EL vm h x.1) (hn : ∀ y ∈ H, y.1 ≠ x.1) (hl : ∀ y ∈ Lt, x.1 ≠ y.1 ∧ x.1 ≠ y.2.1) : Hp g vm h (x :: H) Lt := by
  refine ⟨fun y hy => ?_, ?_, P.2.2.1, fun y hy => ?_⟩
  · rcases List.mem_cons.mp hy with rfl | hy
    · exact ⟨hI, hL, h0, hs⟩
    · exact P.1 y hy
  · rw [List.map_cons, List.nodup_cons]
    refine ⟨fun q => ?_, P.2.1⟩
    obtain ⟨y, hy, e⟩ := List.mem_map.mp q
    exact hn y hy e
  · rcases List.mem_cons.mp hy with rfl | hy
    · exact hl
    · exact P.2.2.2 y hy
/-- a new cell at the heap's end -/
theorem Hp.born (P : Hp g vm h H Lt) (HC : CHv g.Z g.EL vm h) (E0 : Ext g.Z.heap h) (E : Ext h h') {x : Ent} (ha : x.1 = h.size) (hI : Is g.Z h' x) (hL : Ld g.Z g.a0 x) : Hp g vm h' (x :: H) Lt := by
  have C := CHr.ext E HC
  refine (P.move C E).add hI hL (by rw [ha]; exact E0.1) ?_ (fun y hy => ?_) (fun y hy => ?_)
  · intro B
    have B' := (HC.step fun _ _ _ q => E.2 _ _ q).2 _ B
    obtain ⟨cell, q⟩ := B'.there
    have := (Array.getElem?_eq_some_iff.mp q).1
    rw [ha] at this; omega
  · exact fun e => Nat.lt_irrefl _ (Nat.lt_of_lt_of_eq (P.1 y hy).1.lt (e.trans ha).symm)
  · have q1 := (P.2.2.1 y hy).1.lt
    have q2 := (P.2.2.1 y hy).2.2.2.lt
    exact ⟨fun e => Nat.lt_irrefl _ (Nat.lt_of_lt_of_eq q1 (e.symm.trans ha).symm), fun e => Nat.lt_irrefl _ (Nat.lt_of_lt_of_eq q2 (e.symm.trans ha).symm)⟩
theorem Hp.upd (P : Hp g vm h H Lt) (C : CHr g.Z g.EL vm h vm1 h') (K : Keep h h' [a]) {i : Nat} {x x' : Ent} (hi : H[i]? = some x) (ha : x.1 = a) (ha' : x'.1 = a) (hI : Is g.Z h' x') (hL : Ld g.Z g.a0 x') : Hp g vm1 h' (H.set i x') Lt := by
  obtain ⟨hl, hg⟩ := List.getElem?_eq_some_iff.mp hi
  have hmap : (H.set i x').map Prod.fst = H.map Prod.fst := by
    rw [List.map_set, ha']
    apply List.ext_getElem?
    intro j
    rw [List.getElem?_set]
    split
    · rename_i e; subst e
      rw [if_pos (by simpa using hl), List.getElem?_map, hi, ← ha]; rfl
    · rfl
  have hx : x ∈ H := hg ▸ List.getElem_mem hl
  have hmem : ∀ z ∈ H.set i x', z = x' ∨ (z ∈ H ∧ z.1 ≠ a) := fun z hz => by
    obtain ⟨j, hj⟩ := List.mem_iff_getElem?.mp hz
    rw [List.getElem?_set] at hj
    split at hj
    · exact Or.inl (Option.some.inj hj).symm
    · rename_i hne
      refine Or.inr ⟨List.mem_iff_getElem?.mpr ⟨j, hj⟩, fun e => hne ?_⟩
      obtain ⟨hjl, hjg⟩ := List.getElem?_eq_some_iff.mp hj
      have e1 : (H.map Prod.fst)[i]'(by simpa using hl) = (H.map Prod.fst)[j]'(by simpa using hjl) := by
        rw [List.getElem_map, List.getElem_map, hg, hjg, ha, e]
      exact (List.getElem_inj P.2.1).mp e1
  refine ⟨fun z hz => ?_, by rw [hmap]; exact P.2.1, fun y hy => ?_, fun z hz y hy => ?_⟩
  · rcases hmem z hz with rfl | ⟨hz, hne⟩
    · refine ⟨hI, hL, by rw [ha', ← ha]; exact (P.1 x hx).2.2.1, ?_⟩
      have := C.safe (P.1 x hx).1.lt (P.1 x hx).2.2.2
      rw [ha', ← ha]; exact this
    · exact ⟨(P.1 z hz).1.keep K (fun q => hne (List.mem_singleton.mp q)), (P.1 z hz).2.1, (P.1 z hz).2.2.1, C.safe (P.1 z hz).1.lt (P.1 z hz).2.2.2⟩
  · have q := P.2.2.2 x hx y hy
    rw [ha] at q
    exact (P.2.2.1 y hy).keep K (fun r => q.1 (List.mem_singleton.mp r).symm) (fun r => q.2 (List.mem_singleton.mp r).symm)
  · rcases hmem z hz with rfl | ⟨hz, -⟩
    · have q := P.2.2.2 x hx y hy
      rw [ha'] ; rw [ha] at q; exact q
    · exact P.2.2.2 z hz y hy
theorem Hp.lit (P : Hp g vm h H Lt) {y : SE} (I : IsS g.Z h y) (q : ∀ x ∈ H, x.1 ≠ y.1 ∧ x.1 ≠ y.2.1) : Hp g vm h H (y :: Lt) := by
  refine ⟨P.1, P.2.1, fun z hz => ?_, fun x hx z hz => ?_⟩
  · rcases List.mem_cons.mp hz with rfl | hz
    · exact I
    · exact P.2.2.1 z hz
  · rcases List.mem_cons.mp hz with rfl | hz
    · exact q x hx
    · exact P.2.2.2 x hx z hz
/-- a String that is made: it and its bytes are never written again -/
theorem Hp.freeze {cd : Int32} {n : String} {fs : List FD} (P : Hp g vm h ((a, .inl ("java/lang/String", fs)) :: (b, .inr (.byte, n, vs)) :: H) Lt)
    (f1 : ("java/lang/String", "value", "[B", Value.ref b) ∈ fs) (f2 : ("java/lang/String", "coder", "B", Value.int cd) ∈ fs) : Hp g vm h H ((a, b, cd, vs) :: Lt) := by
  have q := P.2.1
  simp only [List.map_cons, List.nodup_cons, List.mem_cons, not_or] at q
  have I1 := (P.1 _ (List.mem_cons_self ..)).1
  have I2 := (P.1 _ (List.mem_cons_of_mem _ (List.mem_cons_self ..))).1
  have I2' : Ary g.Z h b .byte "" vs := by
    obtain ⟨c, r1, r2, r3, r4, r5, r6⟩ := I2
    exact ⟨c, r1, r2, r3, r4, r5, fun q => absurd rfl q⟩
  have P' : Hp g vm h H Lt := P.sub ((List.sublist_cons_self _ _).trans (List.sublist_cons_self _ _))
  refine P'.lit ⟨I1.1, I1.2 _ f1, I1.2 _ f2, I2'⟩ fun x hx => ⟨fun e => ?_, fun e => ?_⟩
  · exact q.1.2 (List.mem_map.mpr ⟨x, hx, e⟩)
  · exact q.2.1 (List.mem_map.mpr ⟨x, hx, e⟩)
/-- .. whose bytes are another String's -/
theorem Hp.freezeL {cd cd' : Int32} {a' : Addr} {fs : List FD} (P : Hp g vm h ((a, .inl ("java/lang/String", fs)) :: H) Lt)
    (f1 : ("java/lang/String", "value", "[B", Value.ref b) ∈ fs) (f2 : ("java/lang/String", "coder", "B", Value.int cd) ∈ fs) (hm : (a', b, cd', vs) ∈ Lt) : Hp g vm h H ((a, b, cd, vs) :: Lt) := by
  have q := P.2.1
  simp only [List.map_cons, List.nodup_cons] at q
  have I1 := (P.1 _ (List.mem_cons_self ..)).1
  refine (P.del 0).lit ⟨I1.1, I1.2 _ f1, I1.2 _ f2, (P.2.2.1 _ hm).2.2.2⟩ fun x hx => ⟨fun e => q.1 (List.mem_map.mpr ⟨x, hx, e⟩), ?_⟩
  exact (P.2.2.2 x (List.mem_cons_of_mem _ hx) _ hm).2
/-- what holds wherever the list holds -/
abbrev Al (g : GG) (H : List Ent) (Lt : List SE) (P : Heap → Prop) : Prop := ∀ vm h, Ext g.Z.heap h → Hp g vm h H Lt → P h
theorem fO {i j : Nat} {C O n d : String} {fs : List FD} {v : Value} (hi : H[i]? = some (a, .inl (C, fs))) (hf : fs[j]? = some (O, n, d, v)) : Al g H Lt fun h => Fld g.Z h a O n d v := fun vm h _ P =>
  (P.1 _ (List.mem_of_getElem? hi)).1.2 _ (List.mem_of_getElem? hf)
theorem fE {i : Nat} {C : String} {fs : List FD} (hi : H[i]? = some (a, .inl (C, fs))) : Al g H Lt fun h => Exa g.Z h a C := fun vm h _ P => (P.1 _ (List.mem_of_getElem? hi)).1.1
theorem aH {i : Nat} (hi : H[i]? = some (a, .inr (ty, nm, vs))) : Al g H Lt fun h => Ary g.Z h a ty nm vs := fun vm h _ P => (P.1 _ (List.mem_of_getElem? hi)).1
theorem sE {cd : Int32} (hm : (a, b, cd, vs) ∈ Lt) : Al g H Lt fun h => Exa g.Z h a "java/lang/String" := fun vm h _ P => (P.2.2.1 _ hm).1
theorem sV {cd : Int32} (hm : (a, b, cd, vs) ∈ Lt) : Al g H Lt fun h => Fld g.Z h a "java/lang/String" "value" "[B" (.ref b) := fun vm h _ P => (P.2.2.1 _ hm).2.1
theorem sC {cd : Int32} (hm : (a, b, cd, vs) ∈ Lt) : Al g H Lt fun h => Fld g.Z h a "java/lang/String" "coder" "B" (.int cd) := fun vm h _ P => (P.2.2.1 _ hm).2.2.1
theorem sA {cd : Int32} (hm : (a, b, cd, vs) ∈ Lt) : Al g H Lt fun h => Ary g.Z h b .byte "" vs := fun vm h _ P => (P.2.2.1 _ hm).2.2.2
theorem Al.old {P : Heap → Prop} (hP : ∀ h, Ext g.Z.heap h → P h) : Al g H Lt P := fun _ h E _ => hP h E
theorem Ary.cell (A : Ary Z h a ty nm vs) : ∃ c : Cell, Jvm.RoadKit.Arr Z h a c ty ∧ c.slots.size = vs.length ∧ ∀ i : Nat, c.slots[i]? = vs[i]? := by
  obtain ⟨c, r1, r2, -⟩ := A
  exact ⟨c, r1, by rw [r2]; simp, fun i => by rw [r2]; simp⟩
end Heap
/-! OWN WALKING KIT, part 2: running, goal, contract, and one rule an instruction. -/
def Rn (g : GG) (D : DD) (M : MM) (T : State) (A : Vm → Heap → Prop) (cs ss : Nat) : Prop :=
  (GW g ∧ M.p.tables.exec = Jvm.exec ∧ M.c.code = D.cd ∧ M.c.maxLocals = D.mx ∧ M.meth.sig.returnType = D.rt ∧ M.meth.locks = false ∧ M.meth.name = D.y.name) ∧
  ∃ (vm0 : Vm) (k0 : Nat) (locs : List Loc), Stand M.p g.l M.e D.rm (M.s.setVm vm0) M.m M.args M.below M.meth M.c T locs cs ss ∧ M.s.Since vm0 k0 ∧ k0 ≤ T.heap.size ∧ g.Z.Warmed39 vm0 ∧ vm0.findClass D.y.cls = some M.m.cls ∧
    CHr g.Z g.EL M.s.vm M.s.heap vm0 T.heap ∧ Fr g.Z.heap.size locs ∧ Ext g.Z.heap T.heap ∧ A vm0 T.heap
abbrev RH (g : GG) (D : DD) (M : MM) (T : State) (H : List Ent) (Lt : List SE) (cs ss : Nat) : Prop := Rn g D M T (fun vm h => Hp g vm h H Lt) cs ss
def Fn (g : GG) (D : DD) (M : MM) (Q : Option Value → Vm → Heap → Prop) (U : State) : Prop :=
  ∃ (t : State) (v : Option Value) (L : List Loc), Steps M.p.tables M.e M.below U t ∧ t.status = .running ∧ Ended t M.below (.returned v) ∧ Q v t.vm t.heap ∧ Fr g.Z.heap.size L ∧ CHr g.Z g.EL M.s.vm M.s.heap t.vm t.heap ∧ Ext g.Z.heap t.heap ∧
    ReturnedEndW M.s (.returned v) t L D.rm.cells D.rm.slots
def CtW (g : GG) (D : DD) (ws : List Jvm.Cond) (as : Array Value) (H : List Ent) (Lt : List SE) (Q : Option Value → Vm → Heap → Prop) : Prop :=
  MetFree g.l D.y (head1 (Jvm.Cond.code D.y D.cd D.mx D.rt :: ws) D.rm) (fun a U => a = as ∧ g.Z.Warmed39 U.vm ∧ CHv g.Z g.EL U.vm U.heap ∧ Ext g.Z.heap U.heap ∧ Hp g U.vm U.heap H Lt) (fun _ _ _ _ _ => True)
    (fun _ U o U' => ∃ v L, o = .returned v ∧ Q v U'.vm U'.heap ∧ Fr g.Z.heap.size L ∧ CHr g.Z g.EL U.vm U.heap U'.vm U'.heap ∧ Ext g.Z.heap U'.heap ∧ ReturnedEndW U o U' L D.rm.cells D.rm.slots)
abbrev Ct (g : GG) (D : DD) (as : Array Value) (H : List Ent) (Lt : List SE) (Q : Option Value → Vm → Heap → Prop) : Prop := CtW g D [] as H Lt Q
section Rules
variable {g : GG} {D D' : DD} {M : MM} {T : State} {A A' : Vm → Heap → Prop} {cs ss : Nat} {Q Q' : Option Value → Vm → Heap → Prop} {pc pc' : Nat} {Ls Ls' : Array Slot} {S : List Value} {H H' : List Ent} {Lt Lt' : List SE} {as : Array Value} {ws : List Jvm.Cond}
theorem ext_rfl (h : Heap) : Ext h h := ⟨Nat.le_refl _, fun _ _ q => q⟩
theorem ext_trans {h h1 h2 : Heap} (E : Ext h h1) (E' : Ext h1 h2) : Ext h h2 := ⟨Nat.le_trans E.1 E'.1, fun a c q => E'.2 a c (E.2 a c q)⟩
theorem Rn.gw (B : Rn g D M T A cs ss) : GW g := B.1.1
theorem Rn.hw (B : Rn g D M T A cs ss) : ∀ d ∈ tables_1, d.before g.a0 g.Z = true := B.1.1.1
theorem Rn.hx (B : Rn g D M T A cs ss) : M.p.tables.exec = Jvm.exec := B.1.2.1
theorem Rn.cd (B : Rn g D M T A cs ss) : M.c.code = D.cd := B.1.2.2.1
theorem Rn.here (B : Rn g D M T A cs ss) : At T M.m M.c M.below := by obtain ⟨-, vm0, k0, locs, X, -⟩ := B; exact X.here
theorem Rn.map (B : Rn g D M T A cs ss) (q : ∀ vm h, Ext g.Z.heap h → A vm h → A' vm h) : Rn g D M T A' cs ss := by
  obtain ⟨st, vm0, k0, locs, X, hS, hk, hZ, hown, hC, N, E0, hH⟩ := B
  exact ⟨st, vm0, k0, locs, X, hS, hk, hZ, hown, hC, N, E0, q _ _ E0 hH⟩
theorem Rn.ex {α : Type} {P : α → Vm → Heap → Prop} (B : Rn g D M T (fun vm h => ∃ x, P x vm h) cs ss) : ∃ x, Rn g D M T (P x) cs ss := by
  obtain ⟨st, vm0, k0, locs, X, hS, hk, hZ, hown, hC, N, E0, x, hH⟩ := B
  exact ⟨x, st, vm0, k0, locs, X, hS, hk, hZ, hown, hC, N, E0, hH⟩
theorem Rn.and {P : Prop} (B : Rn g D M T (fun vm h => P ∧ A vm h) cs ss) : P ∧ Rn g D M T A cs ss := by
  obtain ⟨st, vm0, k0, locs, X, hS, hk, hZ, hown, hC, N, E0, x, hH⟩ := B
  exact ⟨x, st, vm0, k0, locs, X, hS, hk, hZ, hown, hC, N, E0, hH⟩
theorem Rn.or (B : Rn g D M T (fun vm h => A vm h ∨ A' vm h) cs ss) : Rn g D M T A cs ss ∨ Rn g D M T A' cs ss := by
  obtain ⟨st, vm0, k0, locs, X, hS, hk, hZ, hown, hC, N, E0, hH | hH⟩ := B
  · exact Or.inl ⟨st, vm0, k0, locs, X, hS, hk, hZ, hown, hC, N, E0, hH⟩
  · exact Or.inr ⟨st, vm0, k0, locs, X, hS, hk, hZ, hown, hC, N, E0, hH⟩
theorem Rn.front (B : RH g D M T H Lt cs ss) {i : Nat} {x : Ent} (hi : H[i]? = some x) (e : x :: H.eraseIdx i = H') : RH g D M T H' Lt cs ss := B.map fun _ _ _ P => e ▸ P.front hi
theorem Rn.del (B : RH g D M T H Lt cs ss) (i : Nat) (e : H.eraseIdx i = H') : RH g D M T H' Lt cs ss := B.map fun _ _ _ P => e ▸ P.del i
theorem Rn.lsub (B : RH g D M T H Lt cs ss) (q : ∀ y ∈ Lt', y ∈ Lt) : RH g D M T H Lt' cs ss := B.map fun _ _ _ P => P.lsub q
theorem Rn.mono (B : Rn g D M T A cs ss) {cs' ss' : Nat} (h1 : cs ≤ cs') (h2 : ss ≤ ss') : Rn g D M T A cs' ss' := by
  obtain ⟨st, vm0, k0, locs, X, r⟩ := B
  exact ⟨st, vm0, k0, locs, X.mono h1 h2, r⟩
theorem Fn.go {U U' : State} (F : Fn g D M Q U') (st : ∀ t, Steps M.p.tables M.e M.below U' t → Steps M.p.tables M.e M.below U t) : Fn g D M Q U := by
  obtain ⟨t, v, L, h1, r⟩ := F
  exact ⟨t, v, L, st _ h1, r⟩
theorem CtW.body (W : GW g) (hpl : plainFor D.y = true) (ef : ∀ m, entryFrame m as D.mx = mkF m 0 Ls []) (K : ∀ M T, RH g D M T H Lt 0 0 → Fn g D M Q (T.setTop (mkF M.m 0 Ls []))) : CtW g D ws as H Lt Q := by
  refine MetFree.of_bodySF hpl hisR ?_
  intro p e s m args below meth c s₁ Bd hml0 hP hK
  obtain ⟨rfl, hZ, hC, hE, hH⟩ := hP
  have hown : s.vm.findClass D.y.cls = some m.cls := findClass_of_methodNamed Bd.named
  have hnm := (name_of_methodNamed Bd.named Bd.method).1
  have X0 := Stand.of_body Bd
  have e0 : s₁.heap = s.heap := by rw [Bd.state]; rfl
  obtain ⟨t, v, L, h1, h2, h3, h4, h5, h6, h7, h8⟩ := K (p, e, s, m, args, below, meth, c) s₁ ⟨⟨W, Bd.exec, Bd.bytes, hml0, Bd.returns, Bd.notSynchronized, hnm⟩, s.vm, 0, [], X0, (State.WarmedH.refl s).since 0, Nat.zero_le _, hZ, hown, by rw [e0]; exact CHr.refl hC, Fr.nil _, by rw [e0]; exact hE, by rw [e0]; exact hH⟩
  exact ⟨t, _, castTop (ef m) h1, h2, h3, v, L, rfl, h4, h5, h6, h7, h8⟩
/-! returns -/
theorem endW {s t : State} {o : Outcome} {L : List Loc} {k n k' n' : Nat} (h : ReturnedEndW s o t L k n) (h1 : k ≤ k') (h2 : n ≤ n') : ReturnedEndW s o t L k' n' := ⟨h.1, h.2.1, h.2.2.1, h.2.2.2.mono h1 h2⟩
theorem r_ret (B : RH g D M T H Lt cs ss) (hd : decode D.cd pc = .ok (.return_, 1)) (hr : D.rt = none) (hc : cs ≤ D.rm.cells) (hs : ss ≤ D.rm.slots) (hQ : ∀ vm h, Hp g vm h H Lt → Q none vm h) : Fn g D M Q (T.setTop (mkF M.m pc Ls [])) := by
  obtain ⟨⟨W, hx, hcd, hml, hrt, hlk, hnm⟩, vm0, k0, locs, X, hS, hk, hZ, hown, hC, N, E0, hH⟩ := B
  obtain ⟨fs, hl, h1, h2, h3⟩ := X.leaveW hS hk (v := none) (fun _ => rfl) hlk
  have hat := CHv.at X hZ W.2.1 hC.1
  exact ⟨T.setFrames fs, none, locs, X.returnOut hx (hrt.trans hr) (hb hcd hd) hl, h1, h2, hQ _ _ (hH.move hat (ext_rfl _)), N, hC.trans hat, E0, endW h3 hc hs⟩
theorem r_retv (B : RH g D M T H Lt cs ss) {i : Instr} {w : Value} {t : FieldType} {rest : List Value} (hd : decode D.cd pc = .ok (i, 1)) (hr : D.rt = some t) (hn : narrow t w = w)
    (hi : (i = .ireturn ∧ (t = .int ∨ t = .boolean ∨ t = .byte ∨ t = .char ∨ t = .short) ∧ ∃ z, w = .int z) ∨ (i = .lreturn ∧ t = .long ∧ ∃ z, w = .long z) ∨ (i = .dreturn ∧ t = .double ∧ ∃ z, w = .double z) ∨ (i = .freturn ∧ t = .float ∧ ∃ z, w = .float z) ∨ (i = .areturn ∧ t.isReference = true ∧ w.isRef = true))
    (hc : cs ≤ D.rm.cells) (hs : ss ≤ D.rm.slots) (hQ : ∀ vm h, Hp g vm h H Lt → Q (some w) vm h) : Fn g D M Q (T.setTop (mkF M.m pc Ls (w :: rest))) := by
  obtain ⟨⟨W, hx, hcd, hml, hrt, hlk, hnm⟩, vm0, k0, locs, X, hS, hk, hZ, hown, hC, N, E0, hH⟩ := B
  obtain ⟨fs, hl, h1, h2, h3⟩ := X.leaveW hS hk (v := some w) (fun q => by rw [hrt, hr] at q; cases q) hlk
  have hat := CHv.at X hZ W.2.1 hC.1
  exact ⟨T.setFrames fs, some w, locs, retOut X hx (hrt.trans hr) hn hi (hb hcd hd) hl, h1, h2, hQ _ _ (hH.move hat (ext_rfl _)), N, hC.trans hat, E0, endW h3 hc hs⟩
theorem r_reti (B : RH g D M T H Lt cs ss) {z : Int32} {t : FieldType} {rest : List Value} (hd : decode D.cd pc = .ok (.ireturn, 1)) (hr : D.rt = some t) (ht : t = .int ∨ t = .boolean ∨ t = .byte ∨ t = .char ∨ t = .short) (hn : narrow t (.int z) = .int z)
    (hc : cs ≤ D.rm.cells) (hs : ss ≤ D.rm.slots) (hQ : ∀ vm h, Hp g vm h H Lt → Q (some (.int z)) vm h) : Fn g D M Q (T.setTop (mkF M.m pc Ls (.int z :: rest))) :=
  r_retv B hd hr hn (Or.inl ⟨rfl, ht, z, rfl⟩) hc hs hQ
theorem r_reta (B : RH g D M T H Lt cs ss) {w : Value} {t : FieldType} {rest : List Value} (hd : decode D.cd pc = .ok (.areturn, 1)) (hr : D.rt = some t) (ht : t.isReference = true) (hw : w.isRef = true)
    (hc : cs ≤ D.rm.cells) (hs : ss ≤ D.rm.slots) (hQ : ∀ vm h, Hp g vm h H Lt → Q (some w) vm h) : Fn g D M Q (T.setTop (mkF M.m pc Ls (w :: rest))) :=
  r_retv B hd hr (by cases t <;> first | (cases w <;> first | rfl | cases hw) | cases ht) (Or.inr (Or.inr (Or.inr (Or.inr ⟨rfl, ht, hw⟩)))) hc hs hQ
theorem r_retj (B : RH g D M T H Lt cs ss) {z : Int64} {rest : List Value} (hd : decode D.cd pc = .ok (.lreturn, 1)) (hr : D.rt = some .long)
    (hc : cs ≤ D.rm.cells) (hs : ss ≤ D.rm.slots) (hQ : ∀ vm h, Hp g vm h H Lt → Q (some (.long z)) vm h) : Fn g D M Q (T.setTop (mkF M.m pc Ls (.long z :: rest))) :=
  r_retv B hd hr rfl (Or.inr (Or.inl ⟨rfl, rfl, z, rfl⟩)) hc hs hQ
theorem r_retd (B : RH g D M T H Lt cs ss) {z : UInt64} {rest : List Value} (hd : decode D.cd pc = .ok (.dreturn, 1)) (hr : D.rt = some .double)
    (hc : cs ≤ D.rm.cells) (hs : ss ≤ D.rm.slots) (hQ : ∀ vm h, Hp g vm h H Lt → Q (some (.double z)) vm h) : Fn g D M Q (T.setTop (mkF M.m pc Ls (.double z :: rest))) :=
  r_retv B hd hr rfl (Or.inr (Or.inr (Or.inl ⟨rfl, rfl, z, rfl⟩))) hc hs hQ
/-! fields -/
theorem r_get (B : RH g D M T H Lt cs ss) {ix : Nat} {R0 O n d host : String} {a : Addr} {v : Value} (hd : decode D.cd pc = .ok (.getfield ix, 3)) (hp : pc + 3 = pc')
    (w : (Jvm.Cond.fieldLink D.y.cls ix R0 n d).before g.a0 g.Z = true ∨ (Jvm.Cond.fieldLinkNest D.y.cls ix R0 n d host).before g.a0 g.Z = true) (via : Via g.Z R0 O n d) (F : Al g H Lt fun h => Fld g.Z h a O n d v)
    (K : ∀ T', RH g D M T' H Lt cs ss → Fn g D M Q (T'.setTop (mkF M.m pc' Ls (v :: S)))) : Fn g D M Q (T.setTop (mkF M.m pc Ls (.ref a :: S))) := by
  subst hp
  obtain ⟨st, vm0, k0, locs, X, hS, hk, hZ, hown, hC, N, E0, hH⟩ := B
  obtain ⟨T', X', e', stp⟩ := getF (Z := g.Z) (a0 := g.a0) X st.2.1 hZ hown w via rfl (F _ _ E0 hH) (g := mkF M.m pc Ls (.ref a :: S)) rfl rfl (hb st.2.2.1 hd)
  exact (K T' ⟨st, vm0, k0, locs, X', hS, by rw [e']; exact hk, hZ, hown, by rw [e']; exact hC, N, by rw [e']; exact E0, by rw [e']; exact hH⟩).go stp
theorem r_gets (B : RH g D M T H Lt cs ss) {ix : Nat} {R0 O n d host : String} {v : Value} (hd : decode D.cd pc = .ok (.getstatic ix, 3)) (hp : pc + 3 = pc')
    (w : (Jvm.Cond.fieldLink D.y.cls ix R0 n d).before g.a0 g.Z = true ∨ (Jvm.Cond.fieldLinkNest D.y.cls ix R0 n d host).before g.a0 g.Z = true) (via : Via g.Z R0 O n d) (F : Sta g.Z g.Z.heap O n d v)
    (K : ∀ T', RH g D M T' H Lt cs ss → Fn g D M Q (T'.setTop (mkF M.m pc' Ls (v :: S)))) : Fn g D M Q (T.setTop (mkF M.m pc Ls S)) := by
  subst hp
  obtain ⟨st, vm0, k0, locs, X, hS, hk, hZ, hown, hC, N, E0, hH⟩ := B
  obtain ⟨T', X', e', stp⟩ := getS2 (Z := g.Z) (a0 := g.a0) X st.2.1 hZ hown w via rfl (F.ext E0) (g := mkF M.m pc Ls S) rfl (hb st.2.2.1 hd)
  exact (K T' ⟨st, vm0, k0, locs, X', hS, by rw [e']; exact hk, hZ, hown, by rw [e']; exact hC, N, by rw [e']; exact E0, by rw [e']; exact hH⟩).go stp
theorem is_put {Z : State} {h h' : Heap} {a0 : Array Value} {a : Addr} {C O n d : String} {fs : List FD} {j : Nat} {old v : Value} (I : Is Z h (a, .inl (C, fs))) (L : Lays Z a0 C fs) (hf : fs[j]? = some (O, n, d, old)) (W : Wr h h' a (Jvm.RoadKit.slotOf Z O n d) v) : Is Z h' (a, .inl (C, fs.set j (O, n, d, v))) ∧ Lays Z a0 C (fs.set j (O, n, d, v)) := by
  obtain ⟨hj, hg⟩ := List.getElem?_eq_some_iff.mp hf
  have hmap : (fs.set j (O, n, d, v)).map (fun f => f.2.1) = fs.map fun f => f.2.1 := by
    rw [List.map_set]
    apply List.ext_getElem?
    intro i
    rw [List.getElem?_set]
    split
    · rename_i e; subst e
      rw [if_pos (by simpa using hj), List.getElem?_map, hf]; rfl
    · rfl
  have hmem : ∀ z ∈ fs.set j (O, n, d, v), z = (O, n, d, v) ∨ (z ∈ fs ∧ z.2.1 ≠ n) := fun z hz => by
    obtain ⟨i, hi⟩ := List.mem_iff_getElem?.mp hz
    rw [List.getElem?_set] at hi
    split at hi
    · exact Or.inl (Option.some.inj hi).symm
    · rename_i hne
      refine Or.inr ⟨List.mem_iff_getElem?.mpr ⟨i, hi⟩, fun e => hne ?_⟩
      obtain ⟨hil, hig⟩ := List.getElem?_eq_some_iff.mp hi
      have e1 : (fs.map fun f => f.2.1)[j]'(by simpa using hj) = (fs.map fun f => f.2.1)[i]'(by simpa using hil) := by
        rw [List.getElem_map, List.getElem_map, hg, hig, e]
      exact (List.getElem_inj L.1).mp e1
  have hx : (O, n, d, old) ∈ fs := List.mem_of_getElem? hf
  refine ⟨⟨I.1.wr W, fun z hz => ?_⟩, by rw [hmap]; exact L.1, fun z hz => ?_⟩
  · rcases hmem z hz with rfl | ⟨hz, hne⟩
    · exact (I.2 _ hx).same W
    · obtain ⟨t1, ht1⟩ := (L.2 _ hx).2
      obtain ⟨t2, ht2⟩ := (L.2 _ hz).2
      exact (I.2 _ hz).other W (Or.inr (slot_ne (L.2 _ hz).1 (L.2 _ hx).1 hne ht2 ht1))
  · rcases hmem z hz with rfl | ⟨hz, -⟩
    · exact (show _ from L.2 (O, n, d, old) hx)
    · exact L.2 _ hz
theorem r_put (B : RH g D M T H Lt cs ss) {ix kk i j : Nat} {R0 O n d host C : String} {a : Addr} {v old : Value} {fs : List FD} {ty : FieldType} (hd : decode D.cd pc = .ok (.putfield ix, 3)) (hp : pc + 3 = pc')
    (w : (Jvm.Cond.fieldLink D.y.cls ix R0 n d).before g.a0 g.Z = true ∨ (Jvm.Cond.fieldLinkNest D.y.cls ix R0 n d host).before g.a0 g.Z = true) (via : Via g.Z R0 O n d)
    (hi : H[i]? = some (a, .inl (C, fs))) (hf : fs[j]? = some (O, n, d, old)) (L : (Jvm.Cond.lays C O n d).before g.a0 g.Z = true ∨ ((Jvm.Cond.laysFinal C O n d).before g.a0 g.Z = true ∧ D.y.cls = O ∧ D.y.name = "<init>")) (wi : (Jvm.Cond.instantiable C kk).before g.a0 g.Z = true)
    (hty : parseFieldDescriptor d = some ty) (hn : narrow ty v = v) (hft : fits ty v = true) (e : H.set i (a, .inl (C, fs.set j (O, n, d, v))) = H')
    (K : ∀ T', RH g D M T' H' Lt cs ss → Fn g D M Q (T'.setTop (mkF M.m pc' Ls S))) : Fn g D M Q (T.setTop (mkF M.m pc Ls (v :: .ref a :: S))) := by
  subst hp
  obtain ⟨st, vm0, k0, locs, X, hS, hk, hZ, hown, hC, N, E0, hH⟩ := B
  have I := hH.1 _ (List.mem_of_getElem? hi)
  obtain ⟨T', h', X', e', W, stp⟩ := putF (Z := g.Z) (a0 := g.a0) X st.2.1 hZ hown w via rfl (I.1.2 _ (List.mem_of_getElem? hf)) I.1.1 (L.imp id fun q => ⟨q.1, q.2.1, st.2.2.2.2.2.2.trans q.2.2⟩) wi hty hn hft (g := mkF M.m pc Ls (v :: .ref a :: S)) rfl rfl (hb st.2.2.1 hd)
  have C1 := CHr.wr W I.2.2.2 hC.1
  have hsz := W.size
  obtain ⟨q1, q2⟩ := is_put I.1 I.2.1 hf W
  have P' := hH.upd C1 (Keep.of_wr W) hi rfl rfl q1 q2
  rw [e] at P'
  refine (K T' ⟨st, vm0, k0, _, X', hS, by rw [e', hsz]; exact hk, hZ, hown, by rw [e']; exact hC.trans C1, Fr.snoc X' N I.2.2.1, ?_, by rw [e']; exact P'⟩).go stp
  rw [e']; exact (Old.wr ⟨rfl, E0⟩ W I.2.2.1).2
/-- putfield of an int that the field's kind narrows -/
theorem r_putn (B : RH g D M T H Lt cs ss) {ix kk i j : Nat} {R0 O n d C : String} {a : Addr} {v v' old : Value} {fs : List FD} {ty : FieldType} (hd : decode D.cd pc = .ok (.putfield ix, 3)) (hp : pc + 3 = pc')
    (w : (Jvm.Cond.fieldLink D.y.cls ix R0 n d).before g.a0 g.Z = true) (via : Via g.Z R0 O n d)
    (hi : H[i]? = some (a, .inl (C, fs))) (hf : fs[j]? = some (O, n, d, old)) (L : (Jvm.Cond.lays C O n d).before g.a0 g.Z = true ∨ ((Jvm.Cond.laysFinal C O n d).before g.a0 g.Z = true ∧ D.y.cls = O ∧ D.y.name = "<init>")) (wi : (Jvm.Cond.instantiable C kk).before g.a0 g.Z = true)
    (hty : parseFieldDescriptor d = some ty) (hn : narrow ty v = v') (hft : fits ty v' = true) (e : H.set i (a, .inl (C, fs.set j (O, n, d, v'))) = H')
    (K : ∀ T', RH g D M T' H' Lt cs ss → Fn g D M Q (T'.setTop (mkF M.m pc' Ls S))) : Fn g D M Q (T.setTop (mkF M.m pc Ls (v :: .ref a :: S))) := by
  subst hp
  obtain ⟨st, vm0, k0, locs, X, hS, hk, hZ, hown, hC, N, E0, hH⟩ := B
  have I := hH.1 _ (List.mem_of_getElem? hi)
  obtain ⟨T', h', X', e', W, stp⟩ := putFN (Z := g.Z) (a0 := g.a0) X st.2.1 hZ hown w via rfl (I.1.2 _ (List.mem_of_getElem? hf)) I.1.1 (L.imp id fun q => ⟨q.1, q.2.1, st.2.2.2.2.2.2.trans q.2.2⟩) wi hty hn hft (g := mkF M.m pc Ls (v :: .ref a :: S)) rfl rfl (hb st.2.2.1 hd)
  have C1 := CHr.wr W I.2.2.2 hC.1
  have hsz := W.size
  obtain ⟨q1, q2⟩ := is_put I.1 I.2.1 hf W
  have P' := hH.upd C1 (Keep.of_wr W) hi rfl rfl q1 q2
  rw [e] at P'
  refine (K T' ⟨st, vm0, k0, _, X', hS, by rw [e', hsz]; exact hk, hZ, hown, by rw [e']; exact hC.trans C1, Fr.snoc X' N I.2.2.1, ?_, by rw [e']; exact P'⟩).go stp
  rw [e']; exact (Old.wr ⟨rfl, E0⟩ W I.2.2.1).2
/-! new objects and arrays -/
theorem r_new (B : RH g D M T H Lt cs ss) {ix n cs' ss' : Nat} {C : String} {fs : List FD} (hd : decode D.cd pc = .ok (.new ix, 3)) (hp : pc + 3 = pc')
    (w : (Jvm.Cond.classLink D.y.cls ix C).before g.a0 g.Z = true) (wi : (Jvm.Cond.instantiable C n).before g.a0 g.Z = true) (wz : (Jvm.Cond.initialized C).before g.a0 g.Z = true) (hl : Lays g.Z g.a0 C fs)
    (hv : ∀ f ∈ fs, (parseFieldDescriptor f.2.2.1).map defaultValue = some f.2.2.2) (hc : cs + 1 = cs') (hs : ss + n = ss') (hc' : cs' ≤ D.rm.cells) (hs' : ss' ≤ D.rm.slots)
    (K : ∀ T' a, RH g D M T' ((a, .inl (C, fs)) :: H) Lt cs' ss' → Fn g D M Q (T'.setTop (mkF M.m pc' Ls (.ref a :: S)))) : Fn g D M Q (T.setTop (mkF M.m pc Ls S)) := by
  subst hp hc hs
  obtain ⟨st, vm0, k0, locs, X, hS, hk, hZ, hown, hC, N, E0, hH⟩ := B
  obtain ⟨T', h', X', e', E, A1, D1, -, stp⟩ := newO (Z := g.Z) (a0 := g.a0) X st.2.1 hZ hown w wi wz rfl (g := mkF M.m pc Ls S) rfl (hb st.2.2.1 hd) hc' hs'
  have P' := hH.born (x := (T.heap.size, .inl (C, fs))) hC.1 E0 E rfl ⟨A1, fun f hf => by
    obtain ⟨ty, ht⟩ := (hl.2 f hf).2
    have q := hv f hf
    rw [ht] at q
    rw [← Option.some.inj q]
    exact D1 (hl.2 f hf).1 ht⟩ hl
  exact (K T' _ ⟨st, vm0, k0, locs, X', hS, by rw [e']; exact Nat.le_trans hk E.1, hZ, hown, by rw [e']; exact hC.trans (CHr.ext E hC.1), N, by rw [e']; exact ext_trans E0 E, by rw [e']; exact P'⟩).go stp
theorem ary_new {Z : State} {h : Heap} {a : Addr} {k : ClassId} {ty : FieldType} {n : Int32} {nm : String} {nn : Nat} (A : Jvm.RoadKit.Arr Z h a (newA k ty n) ty) (hn : ¬ n < 0) (hnn : n.toNatClampNeg = nn) (hf : fits ty (defaultValue ty) = true) (hO : ∀ C, ty = .object C → Ovr Z k C) (hE : nm ≠ "" → Exa Z h a nm) : Ary Z h a ty nm (List.replicate nn (defaultValue ty)) := by
  refine ⟨_, A, ?_, ?_, ?_, hO, hE⟩
  · subst hnn; simp [newA]
  · have := (back32 hn).2
    rw [List.length_replicate, ← hnn]; exact this
  · intro v hv
    rw [(List.mem_replicate.mp hv).2]; exact hf
theorem r_newp (B : RH g D M T H Lt cs ss) {aty : ArrayType} {n : Int32} {nn cap cs' ss' : Nat} {ty : FieldType} {vs : List Value} {ad : String} (hd : decode D.cd pc = .ok (.newarray aty, 2)) (hp : pc + 2 = pc')
    (w : (Jvm.Cond.arrayClass ty).before g.a0 g.Z = true) (hty : newarray.typeOf aty = ty) (hn : ¬ n < 0) (hnn : n.toNatClampNeg = nn) (hcap : nn ≤ cap) (hb8 : cap * 8 ≤ 536870912) (hc : cs + 1 = cs') (hs : ss + cap = ss') (hc' : cs' ≤ D.rm.cells) (hs' : ss' ≤ D.rm.slots)
    (had : "[" ++ ty.toString = ad) (hfd : fits ty (defaultValue ty) = true) (hob : ∀ C, ty ≠ .object C) (hvs : List.replicate nn (defaultValue ty) = vs)
    (K : ∀ T' a, RH g D M T' ((a, .inr (ty, ad, vs)) :: H) Lt cs' ss' → Fn g D M Q (T'.setTop (mkF M.m pc' Ls (.ref a :: S)))) : Fn g D M Q (T.setTop (mkF M.m pc Ls (.int n :: S))) := by
  subst hp hty hc hs
  obtain ⟨st, vm0, k0, locs, X, hS, hk, hZ, hown, hC, N, E0, hH⟩ := B
  obtain ⟨T', h', cA, X', e', E, A1, A2, stp⟩ := newPE (Z := g.Z) (a0 := g.a0) X st.2.1 hZ w rfl (g := mkF M.m pc Ls (.int n :: S)) rfl (hb st.2.2.1 hd) rfl hn (cap := cap) (by rw [hnn]; exact hcap) hb8 hc' hs' had
  have P' := hH.born (x := (T.heap.size, .inr (newarray.typeOf aty, ad, vs))) hC.1 E0 E rfl (hvs ▸ ary_new A1 hn hnn hfd (fun C q => absurd q (hob C)) (fun _ => A2)) trivial
  exact (K T' _ ⟨st, vm0, k0, locs, X', hS, by rw [e']; exact Nat.le_trans hk E.1, hZ, hown, by rw [e']; exact hC.trans (CHr.ext E hC.1), N, by rw [e']; exact ext_trans E0 E, by rw [e']; exact P'⟩).go stp
theorem r_newr (B : RH g D M T H Lt cs ss) {ix : Nat} {C : String} {n : Int32} {nn cap cs' ss' : Nat} {vs : List Value} {ad : String} (hd : decode D.cd pc = .ok (.anewarray ix, 3)) (hp : pc + 3 = pc')
    (w1 : (Jvm.Cond.classLink D.y.cls ix C).before g.a0 g.Z = true) (w2 : (Jvm.Cond.arrayOver (.object C)).before g.a0 g.Z = true) (hn : ¬ n < 0) (hnn : n.toNatClampNeg = nn) (hcap : nn ≤ cap) (hb8 : cap * 8 ≤ 536870912) (hc : cs + 1 = cs') (hs : ss + cap = ss') (hc' : cs' ≤ D.rm.cells) (hs' : ss' ≤ D.rm.slots)
    (had : "[" ++ (FieldType.object C).toString = ad) (hvs : List.replicate nn Value.null = vs)
    (K : ∀ T' a, RH g D M T' ((a, .inr (.object C, ad, vs)) :: H) Lt cs' ss' → Fn g D M Q (T'.setTop (mkF M.m pc' Ls (.ref a :: S)))) : Fn g D M Q (T.setTop (mkF M.m pc Ls (.int n :: S))) := by
  subst hp hc hs
  obtain ⟨st, vm0, k0, locs, X, hS, hk, hZ, hown, hC, N, E0, hH⟩ := B
  obtain ⟨T', h', cA, X', e', E, A1, A2, A3, stp⟩ := newRE (Z := g.Z) (a0 := g.a0) X st.2.1 hZ hown w1 w2 rfl (g := mkF M.m pc Ls (.int n :: S)) rfl (hb st.2.2.1 hd) rfl hn (cap := cap) (by rw [hnn]; exact hcap) hb8 hc' hs' had
  have P' := hH.born (x := (T.heap.size, .inr (.object C, ad, vs))) hC.1 E0 E rfl (hvs ▸ ary_new A1 hn hnn rfl (fun C' q => by cases q; exact A3) (fun _ => A2)) trivial
  exact (K T' _ ⟨st, vm0, k0, locs, X', hS, by rw [e']; exact Nat.le_trans hk E.1, hZ, hown, by rw [e']; exact hC.trans (CHr.ext E hC.1), N, by rw [e']; exact ext_trans E0 E, by rw [e']; exact P'⟩).go stp
/-! arrays read and written -/
theorem xarr {Z : State} {h : Heap} {U : State} {a : Addr} {ty : FieldType} {nm : String} {vs : List Value} (hZ : Z.vm.Alike U.vm) (eU : U.heap = h) (A : Ary Z h a ty nm vs) : ∃ c : Cell, Jvm.Free.XT.Arr ty a c U ∧ c.slots.size = vs.length ∧ ∀ i : Nat, c.slots[i]? = vs[i]? := by
  obtain ⟨c, r1, r2, r3, -⟩ := A
  refine ⟨c, ⟨by rw [eU]; exact r1.1, State.isArrayOf_alike hZ r1.2.1, r1.2.2, by rw [r2]; simpa using r3⟩, by rw [r2]; simp, fun i => by rw [r2]; simp⟩
theorem r_alen (B : RH g D M T H Lt cs ss) {a : Addr} {ty : FieldType} {nm : String} {vs : List Value} {z : Int32} (hd : decode D.cd pc = .ok (.arraylength, 1)) (hp : pc + 1 = pc') (F : Al g H Lt fun h => Ary g.Z h a ty nm vs) (hz : Int32.ofNat vs.length = z)
    (K : Fn g D M Q (T.setTop (mkF M.m pc' Ls (.int z :: S)))) : Fn g D M Q (T.setTop (mkF M.m pc Ls (.ref a :: S))) := by
  subst hp; subst hz
  obtain ⟨st, vm0, k0, locs, X, hS, hk, hZ, hown, hC, N, E0, hH⟩ := B
  obtain ⟨c, r1, r2, r3⟩ := xarr (U := T) (hZ.alike.trans X.warmed.alike) rfl (F _ _ E0 hH)
  rw [← r2] at K
  exact K.go fun t => X.alen (g := mkF M.m pc Ls (.ref a :: S)) st.2.1 r1 rfl rfl (hb st.2.2.1 hd)
theorem r_aget (B : RH g D M T H Lt cs ss) {a : Addr} {ty : FieldType} {nm : String} {vs : List Value} {j : Int32} {k : Nat} {v : Value} {i : Instr} (hd : decode D.cd pc = .ok (i, 1)) (hi : i = Jvm.Free.XT.loadOf ty) (hp : pc + 1 = pc') (F : Al g H Lt fun h => Ary g.Z h a ty nm vs) (hj : j = Int32.ofNat k) (hv : vs[k]? = some v)
    (K : Fn g D M Q (T.setTop (mkF M.m pc' Ls (v :: S)))) : Fn g D M Q (T.setTop (mkF M.m pc Ls (.int j :: .ref a :: S))) := by
  subst hp; subst hi
  obtain ⟨st, vm0, k0, locs, X, hS, hk, hZ, hown, hC, N, E0, hH⟩ := B
  obtain ⟨c, r1, r2, r3⟩ := xarr (U := T) (hZ.alike.trans X.warmed.alike) rfl (F _ _ E0 hH)
  exact K.go fun t => X.aget (g := mkF M.m pc Ls (.int j :: .ref a :: S)) st.2.1 r1 hj ((r3 k).trans hv) rfl rfl (hb st.2.2.1 hd)
theorem ary_set {Z : State} {h h' : Heap} {a : Addr} {ty : FieldType} {nm : String} {vs : List Value} {k : Nat} {v : Value} (A : Ary Z h a ty nm vs) (W : Wr h h' a k v) (hf : fits ty v = true) : Ary Z h' a ty nm (vs.set k v) := by
  obtain ⟨c, r1, r2, r3, r4, r5, r6⟩ := A
  refine ⟨_, r1.same W, ?_, by rw [List.length_set]; exact r3, fun w hw => ?_, r5, fun q => (r6 q).wr W⟩
  · simp [Cell.setSlot, r2]
  · rcases List.mem_or_eq_of_mem_set hw with q | rfl
    · exact r4 w q
    · exact hf
theorem r_aputW (B : RH g D M T H Lt cs ss) {i : Nat} {a : Addr} {ty : FieldType} {nm : String} {vs : List Value} {k : Nat} {v : Value} (hi : H[i]? = some (a, .inr (ty, nm, vs))) (hf : fits ty v = true) (e : H.set i (a, .inr (ty, nm, vs.set k v)) = H')
    {U : State} {f : JFrame} (P : ∀ (vm0 : Vm) (locs : List Loc), Stand M.p g.l M.e D.rm (M.s.setVm vm0) M.m M.args M.below M.meth M.c T locs cs ss → g.Z.Warmed39 vm0 → ∀ c, Jvm.RoadKit.Arr g.Z T.heap a c ty → c.slots.size = vs.length → ∃ T' h', Stand M.p g.l M.e D.rm (M.s.setVm vm0) M.m M.args M.below M.meth M.c T' (locs ++ [⟨a, k⟩]) cs ss ∧ T'.heap = h' ∧ Wr T.heap h' a k v ∧ ∀ t, Steps M.p.tables M.e M.below (T'.setTop f) t → Steps M.p.tables M.e M.below U t)
    (K : ∀ T', RH g D M T' H' Lt cs ss → Fn g D M Q (T'.setTop f)) : Fn g D M Q U := by
  obtain ⟨st, vm0, k0, locs, X, hS, hk, hZ, hown, hC, N, E0, hH⟩ := B
  have I := hH.1 _ (List.mem_of_getElem? hi)
  have I1 : Ary g.Z T.heap a ty nm vs := I.1
  have I2 := I1
  obtain ⟨c, r1, r2', -⟩ := I2
  have r2 : c.slots.size = vs.length := by rw [r2']; simp
  obtain ⟨T', h', X', e', W, stp⟩ := P vm0 locs X hZ c r1 r2
  have C1 := CHr.wr W I.2.2.2 hC.1
  have hsz := W.size
  have P' := hH.upd C1 (Keep.of_wr W) hi rfl rfl (show Is g.Z h' (a, .inr (ty, nm, vs.set k v)) from ary_set I1 W hf) trivial
  rw [e] at P'
  refine (K T' ⟨st, vm0, k0, _, X', hS, by rw [e', hsz]; exact hk, hZ, hown, by rw [e']; exact hC.trans C1, Fr.snoc X' N I.2.2.1, ?_, by rw [e']; exact P'⟩).go stp
  rw [e']; exact (Old.wr ⟨rfl, E0⟩ W I.2.2.1).2
theorem inb {j : Int32} {k n : Nat} (hj : ¬ j < 0) (hk : j.toNatClampNeg = k) (hl : k < n) : ¬ (j < 0 ∨ n ≤ j.toNatClampNeg) := fun q => q.elim hj fun r => by rw [hk] at r; omega
theorem r_castore (B : RH g D M T H Lt cs ss) {i : Nat} {a : Addr} {nm : String} {vs : List Value} {j x x' : Int32} {k : Nat} (hd : decode D.cd pc = .ok (.castore, 1)) (hp : pc + 1 = pc') (hi : H[i]? = some (a, .inr (.char, nm, vs))) (hj : ¬ j < 0) (hk : j.toNatClampNeg = k) (hl : k < vs.length) (hx : nar .char x = x')
    (e : H.set i (a, .inr (.char, nm, vs.set k (.int x'))) = H') (K : ∀ T', RH g D M T' H' Lt cs ss → Fn g D M Q (T'.setTop (mkF M.m pc' Ls S))) : Fn g D M Q (T.setTop (mkF M.m pc Ls (.int x :: .int j :: .ref a :: S))) := by
  subst hp; subst hx; subst hk
  exact r_aputW B hi (fits_nar_char x) e (fun vm0 locs X hZ c r1 r2 => stC X B.hx hZ rfl r1 (by rw [r2]; exact inb hj rfl hl) (g := mkF M.m pc Ls (.int x :: .int j :: .ref a :: S)) rfl rfl (hb B.cd hd)) K
theorem r_bastore (B : RH g D M T H Lt cs ss) {i : Nat} {a : Addr} {nm : String} {vs : List Value} {j x x' : Int32} {k : Nat} (hd : decode D.cd pc = .ok (.bastore, 1)) (hp : pc + 1 = pc') (hi : H[i]? = some (a, .inr (.byte, nm, vs))) (hj : ¬ j < 0) (hk : j.toNatClampNeg = k) (hl : k < vs.length) (hx : nar .byte x = x')
    (e : H.set i (a, .inr (.byte, nm, vs.set k (.int x'))) = H') (K : ∀ T', RH g D M T' H' Lt cs ss → Fn g D M Q (T'.setTop (mkF M.m pc' Ls S))) : Fn g D M Q (T.setTop (mkF M.m pc Ls (.int x :: .int j :: .ref a :: S))) := by
  subst hp; subst hx; subst hk
  exact r_aputW B hi (fits_nar_byte x) e (fun vm0 locs X hZ c r1 r2 => stB X B.hx hZ rfl r1 (by rw [r2]; exact inb hj rfl hl) (g := mkF M.m pc Ls (.int x :: .int j :: .ref a :: S)) rfl rfl (hb B.cd hd)) K
theorem r_zastore (B : RH g D M T H Lt cs ss) {i : Nat} {a : Addr} {nm : String} {vs : List Value} {j x x' : Int32} {k : Nat} (hd : decode D.cd pc = .ok (.bastore, 1)) (hp : pc + 1 = pc') (hi : H[i]? = some (a, .inr (.boolean, nm, vs))) (hj : ¬ j < 0) (hk : j.toNatClampNeg = k) (hl : k < vs.length) (hx : nar .boolean x = x')
    (e : H.set i (a, .inr (.boolean, nm, vs.set k (.int x'))) = H') (K : ∀ T', RH g D M T' H' Lt cs ss → Fn g D M Q (T'.setTop (mkF M.m pc' Ls S))) : Fn g D M Q (T.setTop (mkF M.m pc Ls (.int x :: .int j :: .ref a :: S))) := by
  subst hp; subst hx; subst hk
  exact r_aputW B hi (fits_nar_bool x) e (fun vm0 locs X hZ c r1 r2 => stZ X B.hx hZ rfl r1 (by rw [r2]; exact inb hj rfl hl) (g := mkF M.m pc Ls (.int x :: .int j :: .ref a :: S)) rfl rfl (hb B.cd hd)) K
theorem r_iastore (B : RH g D M T H Lt cs ss) {i : Nat} {a : Addr} {nm : String} {vs : List Value} {j x : Int32} {k : Nat} (hd : decode D.cd pc = .ok (.iastore, 1)) (hp : pc + 1 = pc') (hi : H[i]? = some (a, .inr (.int, nm, vs))) (hj : ¬ j < 0) (hk : j.toNatClampNeg = k) (hl : k < vs.length)
    (e : H.set i (a, .inr (.int, nm, vs.set k (.int x))) = H') (K : ∀ T', RH g D M T' H' Lt cs ss → Fn g D M Q (T'.setTop (mkF M.m pc' Ls S))) : Fn g D M Q (T.setTop (mkF M.m pc Ls (.int x :: .int j :: .ref a :: S))) := by
  subst hp; subst hk
  exact r_aputW B hi rfl e (fun vm0 locs X hZ c r1 r2 => stI X B.hx hZ rfl r1 (by rw [r2]; exact inb hj rfl hl) (g := mkF M.m pc Ls (.int x :: .int j :: .ref a :: S)) rfl rfl (hb B.cd hd)) K
theorem r_lastore (B : RH g D M T H Lt cs ss) {i : Nat} {a : Addr} {nm : String} {vs : List Value} {j : Int32} {x : Int64} {k : Nat} (hd : decode D.cd pc = .ok (.lastore, 1)) (hp : pc + 1 = pc') (hi : H[i]? = some (a, .inr (.long, nm, vs))) (hj : ¬ j < 0) (hk : j.toNatClampNeg = k) (hl : k < vs.length)
    (e : H.set i (a, .inr (.long, nm, vs.set k (.long x))) = H') (K : ∀ T', RH g D M T' H' Lt cs ss → Fn g D M Q (T'.setTop (mkF M.m pc' Ls S))) : Fn g D M Q (T.setTop (mkF M.m pc Ls (.long x :: .int j :: .ref a :: S))) := by
  subst hp; subst hk
  exact r_aputW B hi rfl e (fun vm0 locs X hZ c r1 r2 => stJ X B.hx hZ rfl r1 (by rw [r2]; exact inb hj rfl hl) (g := mkF M.m pc Ls (.long x :: .int j :: .ref a :: S)) rfl rfl (hb B.cd hd)) K
/-- aastore: null, or an object that is one of the array's kind -/
theorem r_aastore (B : RH g D M T H Lt cs ss) {i : Nat} {a : Addr} {nm C : String} {vs : List Value} {j : Int32} {v : Value} {k : Nat} (hd : decode D.cd pc = .ok (.aastore, 1)) (hp : pc + 1 = pc') (hi : H[i]? = some (a, .inr (.object C, nm, vs))) (hj : ¬ j < 0) (hk : j.toNatClampNeg = k) (hl : k < vs.length)
    (hv : v = .null ∨ ∃ y, v = .ref y ∧ Al g H Lt fun h => Ins g.Z h y C true)
    (e : H.set i (a, .inr (.object C, nm, vs.set k v)) = H') (K : ∀ T', RH g D M T' H' Lt cs ss → Fn g D M Q (T'.setTop (mkF M.m pc' Ls S))) : Fn g D M Q (T.setTop (mkF M.m pc Ls (v :: .int j :: .ref a :: S))) := by
  subst hp; subst hk
  have hf : fits (.object C) v = true := by rcases hv with rfl | ⟨y, rfl, -⟩ <;> rfl
  refine r_aputW B hi hf e (fun vm0 locs X hZ c r1 r2 => ?_) K
  obtain ⟨st, vm1, k0, locs1, X1, hS, hk, hZ1, hown, hC, N, E0, hH⟩ := B
  have I1 : Ary g.Z T.heap a (.object C) nm vs := (hH.1 _ (List.mem_of_getElem? hi)).1
  obtain ⟨c2, q1, -, -, -, q5, -⟩ := I1
  have hcc : c2 = c := Option.some.inj (q1.1.symm.trans r1.1)
  subst hcc
  have hsto : Sto g.Z T.heap a v := by
    rcases hv with rfl | ⟨y, rfl, I⟩
    · exact Or.inl rfl
    · exact Sto.of r1 (q5 C rfl) (I _ _ E0 hH)
  exact stR X st.2.1 hZ rfl r1 (by rw [r2]; exact inb hj rfl hl) rfl hsto (g := mkF M.m pc Ls (v :: .int j :: .ref a :: S)) rfl rfl (hb st.2.2.1 hd)
/-! OWN WALKING KIT, part 3: plain steps (printed by mkpure.py). -/
theorem p_iload (B : Rn g D M T A cs ss) {k : Nat} {v : Int32} (hd : decode D.cd pc = .ok (.iload k, 2)) (hp : pc + 2 = pc') (hl : Ls[k]? = some (.val (.int v))) (K : Fn g D M Q (T.setTop (mkF M.m pc' Ls (.int v :: S)))) : Fn g D M Q (T.setTop (mkF M.m pc Ls (S))) := by
  subst hp
  exact K.go fun t => XS.iload (g := mkF M.m pc Ls (S)) B.here B.hx rfl (hb B.cd hd) hl
theorem p_iloadN (B : Rn g D M T A cs ss) {k : Fin 4} {v : Int32} (hd : decode D.cd pc = .ok (.iload_n k, 1)) (hp : pc + 1 = pc') (hl : Ls[k.val]? = some (.val (.int v))) (K : Fn g D M Q (T.setTop (mkF M.m pc' Ls (.int v :: S)))) : Fn g D M Q (T.setTop (mkF M.m pc Ls (S))) := by
  subst hp
  exact K.go fun t => XS.iloadN (g := mkF M.m pc Ls (S)) B.here B.hx rfl (hb B.cd hd) hl
theorem p_lload (B : Rn g D M T A cs ss) {k : Nat} {v : Int64} (hd : decode D.cd pc = .ok (.lload k, 2)) (hp : pc + 2 = pc') (hl : Ls[k]? = some (.val (.long v))) (K : Fn g D M Q (T.setTop (mkF M.m pc' Ls (.long v :: S)))) : Fn g D M Q (T.setTop (mkF M.m pc Ls (S))) := by
  subst hp
  exact K.go fun t => XS.lload (g := mkF M.m pc Ls (S)) B.here B.hx rfl (hb B.cd hd) hl
theorem p_lloadN (B : Rn g D M T A cs ss) {k : Fin 4} {v : Int64} (hd : decode D.cd pc = .ok (.lload_n k, 1)) (hp : pc + 1 = pc') (hl : Ls[k.val]? = some (.val (.long v))) (K : Fn g D M Q (T.setTop (mkF M.m pc' Ls (.long v :: S)))) : Fn g D M Q (T.setTop (mkF M.m pc Ls (S))) := by
  subst hp
  exact K.go fun t => XS.lloadN (g := mkF M.m pc Ls (S)) B.here B.hx rfl (hb B.cd hd) hl
theorem p_aload (B : Rn g D M T A cs ss) {k : Nat} {v : Value} (hd : decode D.cd pc = .ok (.aload k, 2)) (hp : pc + 2 = pc') (hl : Ls[k]? = some (.val v)) (hv : v.isRef = true) (K : Fn g D M Q (T.setTop (mkF M.m pc' Ls (v :: S)))) : Fn g D M Q (T.setTop (mkF M.m pc Ls (S))) := by
  subst hp
  exact K.go fun t => XS.aload (g := mkF M.m pc Ls (S)) B.here B.hx rfl (hb B.cd hd) hl hv
theorem p_aloadN (B : Rn g D M T A cs ss) {k : Fin 4} {v : Value} (hd : decode D.cd pc = .ok (.aload_n k, 1)) (hp : pc + 1 = pc') (hl : Ls[k.val]? = some (.val v)) (hv : v.isRef = true) (K : Fn g D M Q (T.setTop (mkF M.m pc' Ls (v :: S)))) : Fn g D M Q (T.setTop (mkF M.m pc Ls (S))) := by
  subst hp
  exact K.go fun t => XS.aloadN (g := mkF M.m pc Ls (S)) B.here B.hx rfl (hb B.cd hd) hl hv
theorem p_istore (B : Rn g D M T A cs ss) {k : Nat} {v : Int32} (hd : decode D.cd pc = .ok (.istore k, 2)) (hp : pc + 2 = pc') (hl : storeLocals Ls k (.int v) = some Ls') (K : Fn g D M Q (T.setTop (mkF M.m pc' Ls' (S)))) : Fn g D M Q (T.setTop (mkF M.m pc Ls (.int v :: S))) := by
  subst hp
  exact K.go fun t => XS.istore (g := mkF M.m pc Ls (.int v :: S)) B.here B.hx rfl (hb B.cd hd) rfl hl
theorem p_istoreN (B : Rn g D M T A cs ss) {k : Fin 4} {v : Int32} (hd : decode D.cd pc = .ok (.istore_n k, 1)) (hp : pc + 1 = pc') (hl : storeLocals Ls k.val (.int v) = some Ls') (K : Fn g D M Q (T.setTop (mkF M.m pc' Ls' (S)))) : Fn g D M Q (T.setTop (mkF M.m pc Ls (.int v :: S))) := by
  subst hp
  exact K.go fun t => XS.istoreN (g := mkF M.m pc Ls (.int v :: S)) B.here B.hx rfl (hb B.cd hd) rfl hl
theorem p_lstore (B : Rn g D M T A cs ss) {k : Nat} {v : Int64} (hd : decode D.cd pc = .ok (.lstore k, 2)) (hp : pc + 2 = pc') (hl : storeLocals Ls k (.long v) = some Ls') (K : Fn g D M Q (T.setTop (mkF M.m pc' Ls' (S)))) : Fn g D M Q (T.setTop (mkF M.m pc Ls (.long v :: S))) := by
  subst hp
  exact K.go fun t => XS.lstore (g := mkF M.m pc Ls (.long v :: S)) B.here B.hx rfl (hb B.cd hd) rfl hl
theorem p_lstoreN (B : Rn g D M T A cs ss) {k : Fin 4} {v : Int64} (hd : decode D.cd pc = .ok (.lstore_n k, 1)) (hp : pc + 1 = pc') (hl : storeLocals Ls k.val (.long v) = some Ls') (K : Fn g D M Q (T.setTop (mkF M.m pc' Ls' (S)))) : Fn g D M Q (T.setTop (mkF M.m pc Ls (.long v :: S))) := by
  subst hp
  exact K.go fun t => XS.lstoreN (g := mkF M.m pc Ls (.long v :: S)) B.here B.hx rfl (hb B.cd hd) rfl hl
theorem p_astore (B : Rn g D M T A cs ss) {k : Nat} {v : Value} (hd : decode D.cd pc = .ok (.astore k, 2)) (hp : pc + 2 = pc') (hv : v.isRef = true) (hl : storeLocals Ls k v = some Ls') (K : Fn g D M Q (T.setTop (mkF M.m pc' Ls' (S)))) : Fn g D M Q (T.setTop (mkF M.m pc Ls (v :: S))) := by
  subst hp
  exact K.go fun t => XS.astore (g := mkF M.m pc Ls (v :: S)) B.here B.hx rfl (hb B.cd hd) rfl hv hl
theorem p_astoreN (B : Rn g D M T A cs ss) {k : Fin 4} {v : Value} (hd : decode D.cd pc = .ok (.astore_n k, 1)) (hp : pc + 1 = pc') (hv : v.isRef = true) (hl : storeLocals Ls k.val v = some Ls') (K : Fn g D M Q (T.setTop (mkF M.m pc' Ls' (S)))) : Fn g D M Q (T.setTop (mkF M.m pc Ls (v :: S))) := by
  subst hp
  exact K.go fun t => XS.astoreN (g := mkF M.m pc Ls (v :: S)) B.here B.hx rfl (hb B.cd hd) rfl hv hl
theorem p_iconst (B : Rn g D M T A cs ss) {i : Int} {v : Int32} (hd : decode D.cd pc = .ok (.iconst i, 1)) (hp : pc + 1 = pc') (hv : Int32.ofInt i = v) (K : Fn g D M Q (T.setTop (mkF M.m pc' Ls (.int v :: S)))) : Fn g D M Q (T.setTop (mkF M.m pc Ls (S))) := by
  subst hp
  exact K.go fun t => Jvm.Free.XT.iconstV (g := mkF M.m pc Ls (S)) B.here B.hx rfl v (hb B.cd hd) hv
theorem p_bipush (B : Rn g D M T A cs ss) {i : Int} {v : Int32} (hd : decode D.cd pc = .ok (.bipush i, 2)) (hp : pc + 2 = pc') (hv : (Int8.ofInt i).toInt32 = v) (K : Fn g D M Q (T.setTop (mkF M.m pc' Ls (.int v :: S)))) : Fn g D M Q (T.setTop (mkF M.m pc Ls (S))) := by
  subst hp
  exact K.go fun t => Jvm.Free.XT.bipushV (g := mkF M.m pc Ls (S)) B.here B.hx rfl v (hb B.cd hd) hv
theorem p_sipush (B : Rn g D M T A cs ss) {i : Int} {v : Int32} (hd : decode D.cd pc = .ok (.sipush i, 3)) (hp : pc + 3 = pc') (hv : (Int16.ofInt i).toInt32 = v) (K : Fn g D M Q (T.setTop (mkF M.m pc' Ls (.int v :: S)))) : Fn g D M Q (T.setTop (mkF M.m pc Ls (S))) := by
  subst hp
  exact K.go fun t => Jvm.Free.XT.sipushV (g := mkF M.m pc Ls (S)) B.here B.hx rfl v (hb B.cd hd) hv
theorem p_lconst (B : Rn g D M T A cs ss) {i : Fin 2} {v : Int64} (hd : decode D.cd pc = .ok (.lconst i, 1)) (hp : pc + 1 = pc') (hv : Int64.ofNat i = v) (K : Fn g D M Q (T.setTop (mkF M.m pc' Ls (.long v :: S)))) : Fn g D M Q (T.setTop (mkF M.m pc Ls (S))) := by
  subst hp
  exact K.go fun t => Jvm.Free.XT.lconstV (g := mkF M.m pc Ls (S)) B.here B.hx rfl v (hb B.cd hd) hv
theorem p_null (B : Rn g D M T A cs ss) (hd : decode D.cd pc = .ok (.aconst_null, 1)) (hp : pc + 1 = pc') (K : Fn g D M Q (T.setTop (mkF M.m pc' Ls (.null :: S)))) : Fn g D M Q (T.setTop (mkF M.m pc Ls (S))) := by
  subst hp
  exact K.go fun t => XS.aconstNull (g := mkF M.m pc Ls (S)) B.here B.hx rfl (hb B.cd hd)
theorem p_iadd (B : Rn g D M T A cs ss) {x y z : Int32} (hd : decode D.cd pc = .ok (.iadd, 1)) (hp : pc + 1 = pc') (hz : x + y = z) (K : Fn g D M Q (T.setTop (mkF M.m pc' Ls (.int z :: S)))) : Fn g D M Q (T.setTop (mkF M.m pc Ls (.int y :: .int x :: S))) := by
  subst hp; subst hz
  exact K.go fun t => XS.iadd (g := mkF M.m pc Ls (.int y :: .int x :: S)) B.here B.hx rfl (hb B.cd hd) rfl
theorem p_isub (B : Rn g D M T A cs ss) {x y z : Int32} (hd : decode D.cd pc = .ok (.isub, 1)) (hp : pc + 1 = pc') (hz : x - y = z) (K : Fn g D M Q (T.setTop (mkF M.m pc' Ls (.int z :: S)))) : Fn g D M Q (T.setTop (mkF M.m pc Ls (.int y :: .int x :: S))) := by
  subst hp; subst hz
  exact K.go fun t => XS.isub (g := mkF M.m pc Ls (.int y :: .int x :: S)) B.here B.hx rfl (hb B.cd hd) rfl
theorem p_imul (B : Rn g D M T A cs ss) {x y z : Int32} (hd : decode D.cd pc = .ok (.imul, 1)) (hp : pc + 1 = pc') (hz : x * y = z) (K : Fn g D M Q (T.setTop (mkF M.m pc' Ls (.int z :: S)))) : Fn g D M Q (T.setTop (mkF M.m pc Ls (.int y :: .int x :: S))) := by
  subst hp; subst hz
  exact K.go fun t => XS.imul (g := mkF M.m pc Ls (.int y :: .int x :: S)) B.here B.hx rfl (hb B.cd hd) rfl
theorem p_iand (B : Rn g D M T A cs ss) {x y z : Int32} (hd : decode D.cd pc = .ok (.iand, 1)) (hp : pc + 1 = pc') (hz : x &&& y = z) (K : Fn g D M Q (T.setTop (mkF M.m pc' Ls (.int z :: S)))) : Fn g D M Q (T.setTop (mkF M.m pc Ls (.int y :: .int x :: S))) := by
  subst hp; subst hz
  exact K.go fun t => XS.iand (g := mkF M.m pc Ls (.int y :: .int x :: S)) B.here B.hx rfl (hb B.cd hd) rfl
theorem p_ior (B : Rn g D M T A cs ss) {x y z : Int32} (hd : decode D.cd pc = .ok (.ior, 1)) (hp : pc + 1 = pc') (hz : x ||| y = z) (K : Fn g D M Q (T.setTop (mkF M.m pc' Ls (.int z :: S)))) : Fn g D M Q (T.setTop (mkF M.m pc Ls (.int y :: .int x :: S))) := by
  subst hp; subst hz
  exact K.go fun t => XS.ior (g := mkF M.m pc Ls (.int y :: .int x :: S)) B.here B.hx rfl (hb B.cd hd) rfl
theorem p_ixor (B : Rn g D M T A cs ss) {x y z : Int32} (hd : decode D.cd pc = .ok (.ixor, 1)) (hp : pc + 1 = pc') (hz : x ^^^ y = z) (K : Fn g D M Q (T.setTop (mkF M.m pc' Ls (.int z :: S)))) : Fn g D M Q (T.setTop (mkF M.m pc Ls (.int y :: .int x :: S))) := by
  subst hp; subst hz
  exact K.go fun t => XS.ixor (g := mkF M.m pc Ls (.int y :: .int x :: S)) B.here B.hx rfl (hb B.cd hd) rfl
theorem p_ishl (B : Rn g D M T A cs ss) {x y z : Int32} (hd : decode D.cd pc = .ok (.ishl, 1)) (hp : pc + 1 = pc') (hz : x <<< (y &&& 31) = z) (K : Fn g D M Q (T.setTop (mkF M.m pc' Ls (.int z :: S)))) : Fn g D M Q (T.setTop (mkF M.m pc Ls (.int y :: .int x :: S))) := by
  subst hp; subst hz
  exact K.go fun t => XS.ishl (g := mkF M.m pc Ls (.int y :: .int x :: S)) B.here B.hx rfl (hb B.cd hd) rfl
theorem p_ishr (B : Rn g D M T A cs ss) {x y z : Int32} (hd : decode D.cd pc = .ok (.ishr, 1)) (hp : pc + 1 = pc') (hz : x >>> (y &&& 31) = z) (K : Fn g D M Q (T.setTop (mkF M.m pc' Ls (.int z :: S)))) : Fn g D M Q (T.setTop (mkF M.m pc Ls (.int y :: .int x :: S))) := by
  subst hp; subst hz
  exact K.go fun t => XS.ishr (g := mkF M.m pc Ls (.int y :: .int x :: S)) B.here B.hx rfl (hb B.cd hd) rfl
theorem p_iushr (B : Rn g D M T A cs ss) {x y z : Int32} (hd : decode D.cd pc = .ok (.iushr, 1)) (hp : pc + 1 = pc') (hz : (x.toUInt32 >>> (y &&& 31).toUInt32).toInt32 = z) (K : Fn g D M Q (T.setTop (mkF M.m pc' Ls (.int z :: S)))) : Fn g D M Q (T.setTop (mkF M.m pc Ls (.int y :: .int x :: S))) := by
  subst hp; subst hz
  exact K.go fun t => XS.iushr (g := mkF M.m pc Ls (.int y :: .int x :: S)) B.here B.hx rfl (hb B.cd hd) rfl
theorem p_idiv (B : Rn g D M T A cs ss) {x y z : Int32} (hd : decode D.cd pc = .ok (.idiv, 1)) (hp : pc + 1 = pc') (hy : y ≠ 0) (hz : x / y = z) (K : Fn g D M Q (T.setTop (mkF M.m pc' Ls (.int z :: S)))) : Fn g D M Q (T.setTop (mkF M.m pc Ls (.int y :: .int x :: S))) := by
  subst hp; subst hz
  exact K.go fun t => XS.idiv (g := mkF M.m pc Ls (.int y :: .int x :: S)) B.here B.hx rfl (hb B.cd hd) rfl hy
theorem p_irem (B : Rn g D M T A cs ss) {x y z : Int32} (hd : decode D.cd pc = .ok (.irem, 1)) (hp : pc + 1 = pc') (hy : y ≠ 0) (hz : x % y = z) (K : Fn g D M Q (T.setTop (mkF M.m pc' Ls (.int z :: S)))) : Fn g D M Q (T.setTop (mkF M.m pc Ls (.int y :: .int x :: S))) := by
  subst hp; subst hz; rw [← Jvm.irem_eq_mod] at K
  exact K.go fun t => XS.irem (g := mkF M.m pc Ls (.int y :: .int x :: S)) B.here B.hx rfl (hb B.cd hd) rfl hy
theorem p_ineg (B : Rn g D M T A cs ss) {x : Int32} (hd : decode D.cd pc = .ok (.ineg, 1)) (hp : pc + 1 = pc') (K : Fn g D M Q (T.setTop (mkF M.m pc' Ls (.int (-x) :: S)))) : Fn g D M Q (T.setTop (mkF M.m pc Ls (.int x :: S))) := by
  subst hp
  exact K.go fun t => XS.ineg (g := mkF M.m pc Ls (.int x :: S)) B.here B.hx rfl (hb B.cd hd) rfl
theorem p_ladd (B : Rn g D M T A cs ss) {x y : Int64} (hd : decode D.cd pc = .ok (.ladd, 1)) (hp : pc + 1 = pc') (K : Fn g D M Q (T.setTop (mkF M.m pc' Ls (.long (x + y) :: S)))) : Fn g D M Q (T.setTop (mkF M.m pc Ls (.long y :: .long x :: S))) := by
  subst hp
  exact K.go fun t => XS.ladd (g := mkF M.m pc Ls (.long y :: .long x :: S)) B.here B.hx rfl (hb B.cd hd) rfl
theorem p_lsub (B : Rn g D M T A cs ss) {x y : Int64} (hd : decode D.cd pc = .ok (.lsub, 1)) (hp : pc + 1 = pc') (K : Fn g D M Q (T.setTop (mkF M.m pc' Ls (.long (x - y) :: S)))) : Fn g D M Q (T.setTop (mkF M.m pc Ls (.long y :: .long x :: S))) := by
  subst hp
  exact K.go fun t => XS.lsub (g := mkF M.m pc Ls (.long y :: .long x :: S)) B.here B.hx rfl (hb B.cd hd) rfl
theorem p_lmul (B : Rn g D M T A cs ss) {x y : Int64} (hd : decode D.cd pc = .ok (.lmul, 1)) (hp : pc + 1 = pc') (K : Fn g D M Q (T.setTop (mkF M.m pc' Ls (.long (x * y) :: S)))) : Fn g D M Q (T.setTop (mkF M.m pc Ls (.long y :: .long x :: S))) := by
  subst hp
  exact K.go fun t => XS.lmul (g := mkF M.m pc Ls (.long y :: .long x :: S)) B.here B.hx rfl (hb B.cd hd) rfl
theorem p_land (B : Rn g D M T A cs ss) {x y : Int64} (hd : decode D.cd pc = .ok (.land, 1)) (hp : pc + 1 = pc') (K : Fn g D M Q (T.setTop (mkF M.m pc' Ls (.long (x &&& y) :: S)))) : Fn g D M Q (T.setTop (mkF M.m pc Ls (.long y :: .long x :: S))) := by
  subst hp
  exact K.go fun t => XS.land (g := mkF M.m pc Ls (.long y :: .long x :: S)) B.here B.hx rfl (hb B.cd hd) rfl
theorem p_lor (B : Rn g D M T A cs ss) {x y : Int64} (hd : decode D.cd pc = .ok (.lor, 1)) (hp : pc + 1 = pc') (K : Fn g D M Q (T.setTop (mkF M.m pc' Ls (.long (x ||| y) :: S)))) : Fn g D M Q (T.setTop (mkF M.m pc Ls (.long y :: .long x :: S))) := by
  subst hp
  exact K.go fun t => XS.lor (g := mkF M.m pc Ls (.long y :: .long x :: S)) B.here B.hx rfl (hb B.cd hd) rfl
theorem p_lxor (B : Rn g D M T A cs ss) {x y : Int64} (hd : decode D.cd pc = .ok (.lxor, 1)) (hp : pc + 1 = pc') (K : Fn g D M Q (T.setTop (mkF M.m pc' Ls (.long (x ^^^ y) :: S)))) : Fn g D M Q (T.setTop (mkF M.m pc Ls (.long y :: .long x :: S))) := by
  subst hp
  exact K.go fun t => XS.lxor (g := mkF M.m pc Ls (.long y :: .long x :: S)) B.here B.hx rfl (hb B.cd hd) rfl
theorem p_lshl (B : Rn g D M T A cs ss) {x : Int64} {y : Int32} (hd : decode D.cd pc = .ok (.lshl, 1)) (hp : pc + 1 = pc') (K : Fn g D M Q (T.setTop (mkF M.m pc' Ls (.long (x <<< (y &&& 0x3f).toInt64) :: S)))) : Fn g D M Q (T.setTop (mkF M.m pc Ls (.int y :: .long x :: S))) := by
  subst hp
  exact K.go fun t => XS.lshl (g := mkF M.m pc Ls (.int y :: .long x :: S)) B.here B.hx rfl (hb B.cd hd) rfl
theorem p_lshr (B : Rn g D M T A cs ss) {x : Int64} {y : Int32} (hd : decode D.cd pc = .ok (.lshr, 1)) (hp : pc + 1 = pc') (K : Fn g D M Q (T.setTop (mkF M.m pc' Ls (.long (x >>> (y &&& 0x3f).toInt64) :: S)))) : Fn g D M Q (T.setTop (mkF M.m pc Ls (.int y :: .long x :: S))) := by
  subst hp
  exact K.go fun t => XS.lshr (g := mkF M.m pc Ls (.int y :: .long x :: S)) B.here B.hx rfl (hb B.cd hd) rfl
theorem p_lushr (B : Rn g D M T A cs ss) {x : Int64} {y : Int32} (hd : decode D.cd pc = .ok (.lushr, 1)) (hp : pc + 1 = pc') (K : Fn g D M Q (T.setTop (mkF M.m pc' Ls (.long ((x.toUInt64 >>> (y &&& 0x3f).toInt64.toUInt64).toInt64) :: S)))) : Fn g D M Q (T.setTop (mkF M.m pc Ls (.int y :: .long x :: S))) := by
  subst hp
  exact K.go fun t => XS.lushr (g := mkF M.m pc Ls (.int y :: .long x :: S)) B.here B.hx rfl (hb B.cd hd) rfl
theorem p_ldiv (B : Rn g D M T A cs ss) {x y : Int64} (hd : decode D.cd pc = .ok (.ldiv, 1)) (hp : pc + 1 = pc') (hy : y ≠ 0) (K : Fn g D M Q (T.setTop (mkF M.m pc' Ls (.long (x / y) :: S)))) : Fn g D M Q (T.setTop (mkF M.m pc Ls (.long y :: .long x :: S))) := by
  subst hp
  exact K.go fun t => XS.ldiv (g := mkF M.m pc Ls (.long y :: .long x :: S)) B.here B.hx rfl (hb B.cd hd) rfl hy
theorem p_lrem (B : Rn g D M T A cs ss) {x y : Int64} (hd : decode D.cd pc = .ok (.lrem, 1)) (hp : pc + 1 = pc') (hy : y ≠ 0) (K : Fn g D M Q (T.setTop (mkF M.m pc' Ls (.long (x - (x / y) * y) :: S)))) : Fn g D M Q (T.setTop (mkF M.m pc Ls (.long y :: .long x :: S))) := by
  subst hp
  exact K.go fun t => XS.lrem (g := mkF M.m pc Ls (.long y :: .long x :: S)) B.here B.hx rfl (hb B.cd hd) rfl hy
theorem p_lcmp (B : Rn g D M T A cs ss) {x y : Int64} (hd : decode D.cd pc = .ok (.lcmp, 1)) (hp : pc + 1 = pc') (K : Fn g D M Q (T.setTop (mkF M.m pc' Ls (.int (lcmpW x y) :: S)))) : Fn g D M Q (T.setTop (mkF M.m pc Ls (.long y :: .long x :: S))) := by
  subst hp
  exact K.go fun t => XS.lcmp (g := mkF M.m pc Ls (.long y :: .long x :: S)) B.here B.hx rfl (hb B.cd hd) rfl
theorem p_i2l (B : Rn g D M T A cs ss) {x : Int32} (hd : decode D.cd pc = .ok (.i2l, 1)) (hp : pc + 1 = pc') (K : Fn g D M Q (T.setTop (mkF M.m pc' Ls (.long x.toInt64 :: S)))) : Fn g D M Q (T.setTop (mkF M.m pc Ls (.int x :: S))) := by
  subst hp
  exact K.go fun t => XS.i2l (g := mkF M.m pc Ls (.int x :: S)) B.here B.hx rfl (hb B.cd hd) rfl
theorem p_l2i (B : Rn g D M T A cs ss) {x : Int64} (hd : decode D.cd pc = .ok (.l2i, 1)) (hp : pc + 1 = pc') (K : Fn g D M Q (T.setTop (mkF M.m pc' Ls (.int x.toInt32 :: S)))) : Fn g D M Q (T.setTop (mkF M.m pc Ls (.long x :: S))) := by
  subst hp
  exact K.go fun t => XS.l2i (g := mkF M.m pc Ls (.long x :: S)) B.here B.hx rfl (hb B.cd hd) rfl
theorem p_i2b (B : Rn g D M T A cs ss) {x : Int32} (hd : decode D.cd pc = .ok (.i2b, 1)) (hp : pc + 1 = pc') (K : Fn g D M Q (T.setTop (mkF M.m pc' Ls (.int x.toInt8.toInt32 :: S)))) : Fn g D M Q (T.setTop (mkF M.m pc Ls (.int x :: S))) := by
  subst hp
  exact K.go fun t => XS.i2b (g := mkF M.m pc Ls (.int x :: S)) B.here B.hx rfl (hb B.cd hd) rfl
theorem p_i2c (B : Rn g D M T A cs ss) {x : Int32} (hd : decode D.cd pc = .ok (.i2c, 1)) (hp : pc + 1 = pc') (K : Fn g D M Q (T.setTop (mkF M.m pc' Ls (.int x.toUInt32.toUInt16.toUInt32.toInt32 :: S)))) : Fn g D M Q (T.setTop (mkF M.m pc Ls (.int x :: S))) := by
  subst hp
  exact K.go fun t => XS.i2c (g := mkF M.m pc Ls (.int x :: S)) B.here B.hx rfl (hb B.cd hd) rfl
theorem p_i2s (B : Rn g D M T A cs ss) {x : Int32} (hd : decode D.cd pc = .ok (.i2s, 1)) (hp : pc + 1 = pc') (K : Fn g D M Q (T.setTop (mkF M.m pc' Ls (.int x.toInt16.toInt32 :: S)))) : Fn g D M Q (T.setTop (mkF M.m pc Ls (.int x :: S))) := by
  subst hp
  exact K.go fun t => XS.i2s (g := mkF M.m pc Ls (.int x :: S)) B.here B.hx rfl (hb B.cd hd) rfl
theorem p_dup (B : Rn g D M T A cs ss) {x : Value} (hd : decode D.cd pc = .ok (.dup, 1)) (hp : pc + 1 = pc') (hc : x.category = 1) (K : Fn g D M Q (T.setTop (mkF M.m pc' Ls (x :: x :: S)))) : Fn g D M Q (T.setTop (mkF M.m pc Ls (x :: S))) := by
  subst hp
  exact K.go fun t => XS.dup (g := mkF M.m pc Ls (x :: S)) B.here B.hx rfl (hb B.cd hd) rfl hc
theorem p_pop (B : Rn g D M T A cs ss) {x : Value} (hd : decode D.cd pc = .ok (.pop, 1)) (hp : pc + 1 = pc') (hc : x.category = 1) (K : Fn g D M Q (T.setTop (mkF M.m pc' Ls (S)))) : Fn g D M Q (T.setTop (mkF M.m pc Ls (x :: S))) := by
  subst hp
  exact K.go fun t => XS.pop (g := mkF M.m pc Ls (x :: S)) B.here B.hx rfl (hb B.cd hd) rfl hc
theorem p_dupx1 (B : Rn g D M T A cs ss) {x y : Value} (hd : decode D.cd pc = .ok (.dup_x1, 1)) (hp : pc + 1 = pc') (hc : x.category = 1) (hc' : y.category = 1) (K : Fn g D M Q (T.setTop (mkF M.m pc' Ls (x :: y :: x :: S)))) : Fn g D M Q (T.setTop (mkF M.m pc Ls (x :: y :: S))) := by
  subst hp
  exact K.go fun t => XS.dupX1 (g := mkF M.m pc Ls (x :: y :: S)) B.here B.hx rfl (hb B.cd hd) rfl hc hc'
theorem p_dup2 (B : Rn g D M T A cs ss) {x y : Value} (hd : decode D.cd pc = .ok (.dup2, 1)) (hp : pc + 1 = pc') (hc : x.category = 1) (hc' : y.category = 1) (K : Fn g D M Q (T.setTop (mkF M.m pc' Ls (x :: y :: x :: y :: S)))) : Fn g D M Q (T.setTop (mkF M.m pc Ls (x :: y :: S))) := by
  subst hp
  exact K.go fun t => Jvm.Free.XT.dup2 (g := mkF M.m pc Ls (x :: y :: S)) B.here B.hx rfl (hb B.cd hd) rfl hc hc'
theorem p_dup2L (B : Rn g D M T A cs ss) {x : Int64} (hd : decode D.cd pc = .ok (.dup2, 1)) (hp : pc + 1 = pc') (K : Fn g D M Q (T.setTop (mkF M.m pc' Ls (.long x :: .long x :: S)))) : Fn g D M Q (T.setTop (mkF M.m pc Ls (.long x :: S))) := by
  subst hp
  exact K.go fun t => Jvm.Free.XT.dup2L (g := mkF M.m pc Ls (.long x :: S)) B.here B.hx rfl (hb B.cd hd) rfl
theorem p_iinc (B : Rn g D M T A cs ss) {k : Nat} {cst : Int} {x v z : Int32} (hd : decode D.cd pc = .ok (.iinc k cst, 3)) (hp : pc + 3 = pc') (hv : Int32.ofInt cst = v) (hl : Ls[k]? = some (.val (.int x))) (hz : x + v = z) (hl' : storeLocals Ls k (.int z) = some Ls') (K : Fn g D M Q (T.setTop (mkF M.m pc' Ls' (S)))) : Fn g D M Q (T.setTop (mkF M.m pc Ls (S))) := by
  subst hp; subst hz
  exact K.go fun t => Jvm.Free.XT.iincV (g := mkF M.m pc Ls (S)) B.here B.hx rfl v (hb B.cd hd) hv hl hl'
def hldT : ClassFile.Cond → Int32 → Int32 → Prop
  | .eq, x, y => x = y
  | .ne, x, y => ¬ x = y
  | .lt, x, y => x < y
  | .ge, x, y => ¬ x < y
  | .gt, x, y => y < x
  | .le, x, y => ¬ y < x
def hldF : ClassFile.Cond → Int32 → Int32 → Prop
  | .eq, x, y => ¬ x = y
  | .ne, x, y => x = y
  | .lt, x, y => ¬ x < y
  | .ge, x, y => x < y
  | .gt, x, y => ¬ y < x
  | .le, x, y => y < x
theorem hldT_ii {cd : ClassFile.Cond} {x y : Int32} (h : hldT cd x y) : if_icmp.holds cd x y = true := by
  cases cd
  · exact Jvm.Free.XT.ii_eq_t h
  · exact Jvm.Free.XT.ii_ne_t h
  · exact Jvm.Free.XT.ii_lt_t h
  · exact Jvm.Free.XT.ii_ge_t h
  · exact Jvm.Free.XT.ii_gt_t h
  · exact Jvm.Free.XT.ii_le_t h
theorem hldF_ii {cd : ClassFile.Cond} {x y : Int32} (h : hldF cd x y) : if_icmp.holds cd x y = false := by
  cases cd
  · exact Jvm.Free.XT.ii_eq_f h
  · exact Jvm.Free.XT.ii_ne_f h
  · exact Jvm.Free.XT.ii_lt_f h
  · exact Jvm.Free.XT.ii_ge_f h
  · exact Jvm.Free.XT.ii_gt_f h
  · exact Jvm.Free.XT.ii_le_f h
theorem b_ifT (B : Rn g D M T A cs ss) {cd : ClassFile.Cond} {x : Int32} {o : Int} (hd : decode D.cd pc = .ok (.ifCond cd o, 3)) (h : hldT cd x 0) (ho : 0 ≤ (pc : Int) + o) (hp : ((pc : Int) + o).toNat = pc') (K : Fn g D M Q (T.setTop (mkF M.m pc' Ls S))) : Fn g D M Q (T.setTop (mkF M.m pc Ls (.int x :: S))) :=
  K.go fun t => XS.ifYes (g := mkF M.m pc Ls (.int x :: S)) B.here B.hx rfl (pc0 := pc) (pc' := pc') rfl (hb B.cd hd) rfl ((if0 cd x).trans (hldT_ii h)) ho hp
theorem b_ifF (B : Rn g D M T A cs ss) {cd : ClassFile.Cond} {x : Int32} {o : Int} (hd : decode D.cd pc = .ok (.ifCond cd o, 3)) (hp : pc + 3 = pc') (h : hldF cd x 0) (K : Fn g D M Q (T.setTop (mkF M.m pc' Ls S))) : Fn g D M Q (T.setTop (mkF M.m pc Ls (.int x :: S))) := by
  subst hp
  exact K.go fun t => XS.ifNo (g := mkF M.m pc Ls (.int x :: S)) B.here B.hx rfl (hb B.cd hd) rfl ((if0 cd x).trans (hldF_ii h))
theorem b_icT (B : Rn g D M T A cs ss) {cd : ClassFile.Cond} {x y : Int32} {o : Int} (hd : decode D.cd pc = .ok (.if_icmp cd o, 3)) (h : hldT cd x y) (ho : 0 ≤ (pc : Int) + o) (hp : ((pc : Int) + o).toNat = pc') (K : Fn g D M Q (T.setTop (mkF M.m pc' Ls S))) : Fn g D M Q (T.setTop (mkF M.m pc Ls (.int y :: .int x :: S))) :=
  K.go fun t => XS.icmpYes (g := mkF M.m pc Ls (.int y :: .int x :: S)) B.here B.hx rfl (pc0 := pc) (pc' := pc') rfl (hb B.cd hd) rfl (hldT_ii h) ho hp
theorem b_icF (B : Rn g D M T A cs ss) {cd : ClassFile.Cond} {x y : Int32} {o : Int} (hd : decode D.cd pc = .ok (.if_icmp cd o, 3)) (hp : pc + 3 = pc') (h : hldF cd x y) (K : Fn g D M Q (T.setTop (mkF M.m pc' Ls S))) : Fn g D M Q (T.setTop (mkF M.m pc Ls (.int y :: .int x :: S))) := by
  subst hp
  exact K.go fun t => XS.icmpNo (g := mkF M.m pc Ls (.int y :: .int x :: S)) B.here B.hx rfl (hb B.cd hd) rfl (hldF_ii h)
theorem b_nuT (B : Rn g D M T A cs ss) {o : Int} (hd : decode D.cd pc = .ok (.ifnull o, 3)) (ho : 0 ≤ (pc : Int) + o) (hp : ((pc : Int) + o).toNat = pc') (K : Fn g D M Q (T.setTop (mkF M.m pc' Ls S))) : Fn g D M Q (T.setTop (mkF M.m pc Ls (.null :: S))) :=
  K.go fun t => XS.ifnullYes (g := mkF M.m pc Ls (.null :: S)) B.here B.hx rfl (pc0 := pc) (pc' := pc') rfl (hb B.cd hd) rfl ho hp
theorem b_nuF (B : Rn g D M T A cs ss) {b : Addr} {o : Int} (hd : decode D.cd pc = .ok (.ifnull o, 3)) (hp : pc + 3 = pc') (K : Fn g D M Q (T.setTop (mkF M.m pc' Ls S))) : Fn g D M Q (T.setTop (mkF M.m pc Ls (.ref b :: S))) := by
  subst hp
  exact K.go fun t => XS.ifnullNo (g := mkF M.m pc Ls (.ref b :: S)) B.here B.hx rfl (hb B.cd hd) rfl
theorem b_nnT (B : Rn g D M T A cs ss) {b : Addr} {o : Int} (hd : decode D.cd pc = .ok (.ifnonnull o, 3)) (ho : 0 ≤ (pc : Int) + o) (hp : ((pc : Int) + o).toNat = pc') (K : Fn g D M Q (T.setTop (mkF M.m pc' Ls S))) : Fn g D M Q (T.setTop (mkF M.m pc Ls (.ref b :: S))) :=
  K.go fun t => XS.ifnonnullYes (g := mkF M.m pc Ls (.ref b :: S)) B.here B.hx rfl (pc0 := pc) (pc' := pc') rfl (hb B.cd hd) rfl ho hp
theorem b_nnF (B : Rn g D M T A cs ss) {o : Int} (hd : decode D.cd pc = .ok (.ifnonnull o, 3)) (hp : pc + 3 = pc') (K : Fn g D M Q (T.setTop (mkF M.m pc' Ls S))) : Fn g D M Q (T.setTop (mkF M.m pc Ls (.null :: S))) := by
  subst hp
  exact K.go fun t => XS.ifnonnullNo (g := mkF M.m pc Ls (.null :: S)) B.here B.hx rfl (hb B.cd hd) rfl
theorem b_nnTV (B : Rn g D M T A cs ss) {v : Value} {o : Int} (hd : decode D.cd pc = .ok (.ifnonnull o, 3)) (hv : v.isRef = true) (h : ¬ v = .null) (ho : 0 ≤ (pc : Int) + o) (hp : ((pc : Int) + o).toNat = pc') (K : Fn g D M Q (T.setTop (mkF M.m pc' Ls S))) : Fn g D M Q (T.setTop (mkF M.m pc Ls (v :: S))) :=
  K.go fun t => Jvm.Free.XT.nonnullYes (g := mkF M.m pc Ls (v :: S)) B.here B.hx rfl (pc0 := pc) (pc' := pc') rfl (hb B.cd hd) rfl hv h ho hp
theorem b_nnFV (B : Rn g D M T A cs ss) {v : Value} {o : Int} (hd : decode D.cd pc = .ok (.ifnonnull o, 3)) (hp : pc + 3 = pc') (h : v = .null) (K : Fn g D M Q (T.setTop (mkF M.m pc' Ls S))) : Fn g D M Q (T.setTop (mkF M.m pc Ls (v :: S))) := by
  subst hp
  exact K.go fun t => Jvm.Free.XT.nonnullNo (g := mkF M.m pc Ls (v :: S)) B.here B.hx rfl (hb B.cd hd) rfl h
theorem b_nuTV (B : Rn g D M T A cs ss) {v : Value} {o : Int} (hd : decode D.cd pc = .ok (.ifnull o, 3)) (h : v = .null) (ho : 0 ≤ (pc : Int) + o) (hp : ((pc : Int) + o).toNat = pc') (K : Fn g D M Q (T.setTop (mkF M.m pc' Ls S))) : Fn g D M Q (T.setTop (mkF M.m pc Ls (v :: S))) :=
  K.go fun t => Jvm.Free.XT.nullYes (g := mkF M.m pc Ls (v :: S)) B.here B.hx rfl (pc0 := pc) (pc' := pc') rfl (hb B.cd hd) rfl h ho hp
theorem b_nuFV (B : Rn g D M T A cs ss) {v : Value} {o : Int} (hd : decode D.cd pc = .ok (.ifnull o, 3)) (hp : pc + 3 = pc') (hv : v.isRef = true) (h : ¬ v = .null) (K : Fn g D M Q (T.setTop (mkF M.m pc' Ls S))) : Fn g D M Q (T.setTop (mkF M.m pc Ls (v :: S))) := by
  subst hp
  exact K.go fun t => Jvm.Free.XT.nullNo (g := mkF M.m pc Ls (v :: S)) B.here B.hx rfl (hb B.cd hd) rfl hv h
theorem b_aeT (B : Rn g D M T A cs ss) {x y : Value} {o : Int} (hd : decode D.cd pc = .ok (.if_acmp .eq o, 3)) (hx : x.isRef = true) (hy : y.isRef = true) (h : x = y) (ho : 0 ≤ (pc : Int) + o) (hp : ((pc : Int) + o).toNat = pc') (K : Fn g D M Q (T.setTop (mkF M.m pc' Ls S))) : Fn g D M Q (T.setTop (mkF M.m pc Ls (y :: x :: S))) :=
  K.go fun t => Jvm.Free.XT.acmpYes (g := mkF M.m pc Ls (y :: x :: S)) B.here B.hx rfl (pc0 := pc) (pc' := pc') rfl (hb B.cd hd) rfl hx hy (Jvm.Free.XT.aa_eq_t h) ho hp
theorem b_aeF (B : Rn g D M T A cs ss) {x y : Value} {o : Int} (hd : decode D.cd pc = .ok (.if_acmp .eq o, 3)) (hp : pc + 3 = pc') (hx : x.isRef = true) (hy : y.isRef = true) (h : ¬ x = y) (K : Fn g D M Q (T.setTop (mkF M.m pc' Ls S))) : Fn g D M Q (T.setTop (mkF M.m pc Ls (y :: x :: S))) := by
  subst hp
  exact K.go fun t => Jvm.Free.XT.acmpNo (g := mkF M.m pc Ls (y :: x :: S)) B.here B.hx rfl (hb B.cd hd) rfl hx hy (Jvm.Free.XT.aa_eq_f h)
theorem b_anT (B : Rn g D M T A cs ss) {x y : Value} {o : Int} (hd : decode D.cd pc = .ok (.if_acmp .ne o, 3)) (hx : x.isRef = true) (hy : y.isRef = true) (h : ¬ x = y) (ho : 0 ≤ (pc : Int) + o) (hp : ((pc : Int) + o).toNat = pc') (K : Fn g D M Q (T.setTop (mkF M.m pc' Ls S))) : Fn g D M Q (T.setTop (mkF M.m pc Ls (y :: x :: S))) :=
  K.go fun t => Jvm.Free.XT.acmpYes (g := mkF M.m pc Ls (y :: x :: S)) B.here B.hx rfl (pc0 := pc) (pc' := pc') rfl (hb B.cd hd) rfl hx hy (Jvm.Free.XT.aa_ne_t h) ho hp
theorem b_anF (B : Rn g D M T A cs ss) {x y : Value} {o : Int} (hd : decode D.cd pc = .ok (.if_acmp .ne o, 3)) (hp : pc + 3 = pc') (hx : x.isRef = true) (hy : y.isRef = true) (h : x = y) (K : Fn g D M Q (T.setTop (mkF M.m pc' Ls S))) : Fn g D M Q (T.setTop (mkF M.m pc Ls (y :: x :: S))) := by
  subst hp
  exact K.go fun t => Jvm.Free.XT.acmpNo (g := mkF M.m pc Ls (y :: x :: S)) B.here B.hx rfl (hb B.cd hd) rfl hx hy (Jvm.Free.XT.aa_ne_f h)
theorem b_goto (B : Rn g D M T A cs ss) {o : Int} (hd : decode D.cd pc = .ok (.goto o, 3)) (ho : 0 ≤ (pc : Int) + o) (hp : ((pc : Int) + o).toNat = pc') (K : Fn g D M Q (T.setTop (mkF M.m pc' Ls S))) : Fn g D M Q (T.setTop (mkF M.m pc Ls S)) :=
  K.go fun t => XS.goto (g := mkF M.m pc Ls S) B.here B.hx rfl (pc0 := pc) (pc' := pc') rfl (hb B.cd hd) ho hp
/-! OWN WALKING KIT, part 4: calls, constants, casts. -/
theorem r_initO (B : RH g D M T H Lt cs ss) {ix W : Nat} {a : Addr} (hd : decode D.cd pc = .ok (.invokespecial ix, 3)) (hp : pc + 3 = pc') (w1 : (Jvm.Cond.methodLink D.y.cls ix Lib.objectInit).before g.a0 g.Z = true) (w2 : (Jvm.Cond.instanceMethod Lib.objectInit).before g.a0 g.Z = true)
    (w3 : (Jvm.Cond.code Lib.objectInit ⟨#[0xb1]⟩ 1 none).before g.a0 g.Z = true) (hsz : Ls.size = D.mx) (hf : 1 ≤ D.rm.frames) (hW : (S.map fun v => v.category).sum = W) (hl : W + 12 ≤ D.rm.locals)
    (K : ∀ T', RH g D M T' H Lt cs ss → Fn g D M Q (T'.setTop (mkF M.m pc' Ls S))) : Fn g D M Q (T.setTop (mkF M.m pc Ls (.ref a :: S))) := by
  subst hp
  obtain ⟨st, vm0, k0, locs, X, hS, hk, hZ, hown, hC, N, E0, hH⟩ := B
  obtain ⟨T', X', e', stp⟩ := initO (Z := g.Z) (a0 := g.a0) X st.2.1 hZ hown w1 w2 w3 rfl (g := mkF M.m pc Ls (.ref a :: S)) rfl (hsz.trans st.2.2.2.1.symm) rfl (hb st.2.2.1 hd) hf (W := W) (by show 2 * 0 + _ ≤ _; rw [hW]; omega) hl
  exact (K T' ⟨st, vm0, k0, locs, X', hS, by rw [e']; exact hk, hZ, hown, by rw [e']; exact hC, N, by rw [e']; exact E0, by rw [e']; exact hH⟩).go stp
theorem Ct.back {R : Room} {p : Program} {e : Env} {below : List Frame} {s : State} {args : Array Value} {vm0 : Vm} {h : Heap} {len Wt : Nat} (K : Ct g D' as H Lt Q') (W : GW g) (hZ : g.Z.Warmed39 vm0) (wc : (Jvm.Cond.code D'.y D'.cd D'.mx D'.rt).before g.a0 g.Z = true) (wz : (Jvm.Cond.initialized D'.y.cls).before g.a0 g.Z = true)
    (hf : D'.rm.frames + 1 ≤ R.frames) (hl : Wt + (D'.mx + 11) + D'.rm.locals ≤ R.locals) (HC : CHv g.Z g.EL vm0 h) (E0 : Ext g.Z.heap h) (P : Hp g vm0 h H Lt) :
    BackS g.l R p e below (s.setVm vm0) args D'.y len Wt (fun A a => a = as ∧ A.U.heap = h ∧ A.cells + D'.rm.cells ≤ R.cells ∧ A.slots + D'.rm.slots ≤ R.slots)
      (fun A _ v B => ∃ L, Q' v B.U.vm B.U.heap ∧ Fr g.Z.heap.size L ∧ Ext g.Z.heap B.U.heap ∧ B.locs = A.locs ++ L ∧ B.cells = A.cells + D'.rm.cells ∧ B.slots = A.slots + D'.rm.slots ∧ CHr g.Z g.EL vm0 h B.U.vm B.U.heap) :=
  BackS.of_freeW (bytes := D'.cd) (maxL := D'.mx) (ret := D'.rt) (E := fun _ first o t L k n => k = D'.rm.cells ∧ n = D'.rm.slots ∧ (∃ v, o = .returned v ∧ Q' v t.vm t.heap) ∧ Fr g.Z.heap.size L ∧ Ext g.Z.heap t.heap ∧ CHr g.Z g.EL first.vm first.heap t.vm t.heap) K hf hl
    (fun m meth c A a Y hp => have hU : g.Z.Warmed39 A.U.vm := wtrans (s := s.setVm vm0) hZ Y.warmed
      ⟨by show (Jvm.Cond.and _ .tt).before a A.U = true; rw [Cond.before_and, mv hU wc]; rfl, mv hU wc, mv hU wz, hp.2.2.1, hp.2.2.2⟩)
    (fun m meth c A a g' mk Y hp => by
      have hat := CHv.at Y hZ W.2.1 HC
      have e1 : (A.U.calling g' mk a).heap = h := hp.2.1
      have e2 : (A.U.calling g' mk a).vm = A.U.vm := rfl
      refine ⟨hp.1, wtrans (s := s.setVm vm0) hZ Y.warmed, ?_, ?_, ?_⟩
      · rw [e1, e2]; exact hat.1
      · rw [e1]; exact E0
      · rw [e1, e2]; exact P.move hat (ext_rfl _))
    (fun _ _ _ _ _ _ _ _ _ => trivial)
    (fun _ _ _ _ ⟨v, L, h1, h2, h3, h4, h5, h6⟩ => ⟨L, _, _, h6, rfl, rfl, ⟨v, h1, h2⟩, h3, h5, h4⟩)
    (fun m meth c A a g' mk v t L k n Y hp _ _ ⟨e1, e2, ⟨v', e3, e4⟩, e5, e6, e7⟩ => by
      cases e3; subst e1 e2
      refine ⟨L, e4, e5, e6, rfl, rfl, rfl, (CHv.at Y hZ W.2.1 HC).trans ?_⟩
      rw [← hp.2.1]; exact e7)
theorem Rn.after {vm0 : Vm} {k0 : Nat} {locs : List Loc} {B : Pt} {L : List Loc} {v : Option Value} {rc rs : Nat} (st : GW g ∧ M.p.tables.exec = Jvm.exec ∧ M.c.code = D.cd ∧ M.c.maxLocals = D.mx ∧ M.meth.sig.returnType = D.rt ∧ M.meth.locks = false ∧ M.meth.name = D.y.name)
    (hS : M.s.Since vm0 k0) (hk : k0 ≤ T.heap.size) (hZ : g.Z.Warmed39 vm0) (hown : vm0.findClass D.y.cls = some M.m.cls) (hC : CHr g.Z g.EL M.s.vm M.s.heap vm0 T.heap) (N : Fr g.Z.heap.size locs)
    (X' : Stand M.p g.l M.e D.rm ((M.s.setVm vm0).setVm B.U.vm) M.m M.args M.below M.meth M.c B.U B.locs B.cells B.slots) (hS' : (M.s.setVm vm0).Since B.U.vm B.U.heap.size) (hg' : T.heap.size ≤ B.U.heap.size)
    (hQ : Q' v B.U.vm B.U.heap) (hL : Fr g.Z.heap.size L) (hE : Ext g.Z.heap B.U.heap) (e1 : B.locs = locs ++ L) (e2 : B.cells = cs + rc) (e3 : B.slots = ss + rs) (hC' : CHr g.Z g.EL vm0 T.heap B.U.vm B.U.heap) : Rn g D M B.U (Q' v) (cs + rc) (ss + rs) := by
  obtain ⟨r1, r2, r3, r4⟩ := rebS (Z := g.Z) hS hk X' hS' hg' hZ hown
  rw [e1, e2, e3] at r1
  exact ⟨st, B.U.vm, B.U.heap.size, _, r1, r2, Nat.le_refl _, r3, r4, hC.trans hC', N.app hL, hE, hQ⟩
theorem r_static (B : RH g D M T H Lt cs ss) {ix W cs' ss' : Nat} {argsL rest : List Value} {ps : List FieldType} {r : Option FieldType} (hd : decode D.cd pc = .ok (.invokestatic ix, 3)) (hp : pc + 3 = pc')
    (w1 : (Jvm.Cond.methodLink D.y.cls ix D'.y).before g.a0 g.Z = true) (w2 : (Jvm.Cond.static D'.y).before g.a0 g.Z = true) (w3 : (Jvm.Cond.initialized D'.y.cls).before g.a0 g.Z = true) (w4 : (Jvm.Cond.code D'.y D'.cd D'.mx D'.rt).before g.a0 g.Z = true)
    (hy : D'.y.cls ≠ "java/lang/invoke/MethodHandle" ∧ D'.y.cls ≠ "java/lang/invoke/VarHandle") (C : Ct g D' as H Lt Q') (has : argsL.toArray = as) (pd : parseMethodDescriptor D'.y.desc = some ⟨ps, r⟩) (hlen : argsL.length = ps.length) (hst : S = argsL.reverse ++ rest)
    (hsz : Ls.size = D.mx) (hW : (rest.map fun v => v.category).sum = W) (hf : D'.rm.frames + 1 ≤ D.rm.frames) (hl : W + (D'.mx + 11) + D'.rm.locals ≤ D.rm.locals) (hc : cs + D'.rm.cells = cs') (hs : ss + D'.rm.slots = ss') (hc' : cs' ≤ D.rm.cells) (hs' : ss' ≤ D.rm.slots)
    (K : ∀ T' v, Rn g D M T' (Q' v) cs' ss' → Fn g D M Q (T'.setTop (mkF M.m pc' Ls (v.toList ++ rest)))) : Fn g D M Q (T.setTop (mkF M.m pc Ls S)) := by
  subst hp hc hs
  obtain ⟨st, vm0, k0, locs, X, hS, hk, hZ, hown, hC, N, E0, hH⟩ := B
  obtain ⟨v, vm1, Bp, -, X', hS', hg', ⟨L, hQ, hL, hE, e1, e2, e3, hC'⟩, stp⟩ := callSS X st.2.1 hown (mvT hZ w1) (mvT hZ w2) (mvT hZ w3) (mvT hZ w4) hy (Ct.back (p := M.p) (e := M.e) (below := M.below) (s := M.s) (args := M.args) (len := 3) (Wt := W) C st.1 hZ w4 w3 hf hl hC.1 E0 hH) (g := mkF M.m pc Ls S) rfl (hsz.trans st.2.2.2.1.symm) (argsL := argsL) (rest := rest) (lenOf pd hlen) hst (by show 2 * 0 + _ ≤ _; rw [hW]; omega) (hb st.2.2.1 hd) (fun _ _ => ⟨has, rfl, hc', hs'⟩)
  exact (K Bp.U v (Rn.after st hS hk hZ hown hC N X' hS' hg' hQ hL hE e1 e2 e3 hC')).go fun t => stp.trans
theorem r_special (B : RH g D M T H Lt cs ss) {ix W cs' ss' : Nat} {a : Addr} {argsL rest : List Value} {ps : List FieldType} {r : Option FieldType} (hd : decode D.cd pc = .ok (.invokespecial ix, 3)) (hp : pc + 3 = pc') (hy1 : D'.y.name = "<init>") (hrt : D'.rt = none)
    (w1 : (Jvm.Cond.methodLink D.y.cls ix D'.y).before g.a0 g.Z = true) (w2 : (Jvm.Cond.instanceMethod D'.y).before g.a0 g.Z = true) (w3 : (Jvm.Cond.initialized D'.y.cls).before g.a0 g.Z = true) (w4 : (Jvm.Cond.code D'.y D'.cd D'.mx D'.rt).before g.a0 g.Z = true)
    (hy : D'.y.cls ≠ "java/lang/invoke/MethodHandle" ∧ D'.y.cls ≠ "java/lang/invoke/VarHandle") (C : Ct g D' as H Lt Q') (has : (.ref a :: argsL).toArray = as) (pd : parseMethodDescriptor D'.y.desc = some ⟨ps, r⟩) (hlen : argsL.length = ps.length) (hst : S = argsL.reverse ++ .ref a :: rest)
    (hsz : Ls.size = D.mx) (hW : (rest.map fun v => v.category).sum = W) (hf : D'.rm.frames + 1 ≤ D.rm.frames) (hl : W + (D'.mx + 11) + D'.rm.locals ≤ D.rm.locals) (hc : cs + D'.rm.cells = cs') (hs : ss + D'.rm.slots = ss') (hc' : cs' ≤ D.rm.cells) (hs' : ss' ≤ D.rm.slots)
    (K : ∀ T' v, Rn g D M T' (Q' v) cs' ss' → Fn g D M Q (T'.setTop (mkF M.m pc' Ls (v.toList ++ rest)))) : Fn g D M Q (T.setTop (mkF M.m pc Ls S)) := by
  subst hp hc hs
  obtain ⟨st, vm0, k0, locs, X, hS, hk, hZ, hown, hC, N, E0, hH⟩ := B
  obtain ⟨v, vm1, Bp, -, X', hS', hg', ⟨L, hQ, hL, hE, e1, e2, e3, hC'⟩, stp⟩ := X.specialBackS st.2.1 hy1 hown (mvT hZ w1) (mvT hZ w2) (bytes := D'.cd) (maxL := D'.mx) (by rw [hrt] at w4; exact mvT hZ w4) hy (Ct.back (p := M.p) (e := M.e) (below := M.below) (s := M.s) (args := M.args) (len := 3) (Wt := W) C st.1 hZ w4 w3 hf hl hC.1 E0 hH) (g := mkF M.m pc Ls S) rfl (hsz.trans st.2.2.2.1.symm) (Steps.refl _) (a := a) (argsL := argsL) (rest := rest) (lenOf pd hlen) hst (by show 2 * 0 + _ ≤ _; rw [hW]; omega) (hb st.2.2.1 hd) (fun _ _ => ⟨has, rfl, hc', hs'⟩)
  exact (K Bp.U v (Rn.after st hS hk hZ hown hC N X' hS' hg' hQ hL hE e1 e2 e3 hC')).go fun t => stp.trans
theorem r_virtual (B : RH g D M T H Lt cs ss) {ix W cs' ss' : Nat} {y : MethodName} {C0 : String} {b : Addr} {argsL rest : List Value} {ps : List FieldType} {r : Option FieldType} (hd : decode D.cd pc = .ok (.invokevirtual ix, 3)) (hp : pc + 3 = pc')
    (w1 : (Jvm.Cond.methodLink D.y.cls ix y).before g.a0 g.Z = true) (wd : (Jvm.Cond.declares y).before g.a0 g.Z = true) (ws : (Jvm.Cond.selects C0 y D'.y).before g.a0 g.Z = true) (nf : ∀ vm0, g.Z.Warmed39 vm0 → NotFace (M.s.setVm vm0) y) (w2 : (Jvm.Cond.instanceMethod D'.y).before g.a0 g.Z = true) (w3 : (Jvm.Cond.initialized D'.y.cls).before g.a0 g.Z = true) (w4 : (Jvm.Cond.code D'.y D'.cd D'.mx D'.rt).before g.a0 g.Z = true)
    (hy : y.cls ≠ "java/lang/invoke/MethodHandle" ∧ y.cls ≠ "java/lang/invoke/VarHandle") (F : Al g H Lt fun h => Exa g.Z h b C0) (C : Ct g D' as H Lt Q') (has : (.ref b :: argsL).toArray = as) (pd : parseMethodDescriptor y.desc = some ⟨ps, r⟩) (hlen : argsL.length = ps.length) (hst : S = argsL.reverse ++ .ref b :: rest)
    (hsz : Ls.size = D.mx) (hW : (rest.map fun v => v.category).sum = W) (hf : D'.rm.frames + 1 ≤ D.rm.frames) (hl : W + (D'.mx + 11) + D'.rm.locals ≤ D.rm.locals) (hc : cs + D'.rm.cells = cs') (hs : ss + D'.rm.slots = ss') (hc' : cs' ≤ D.rm.cells) (hs' : ss' ≤ D.rm.slots)
    (K : ∀ T' v, Rn g D M T' (Q' v) cs' ss' → Fn g D M Q (T'.setTop (mkF M.m pc' Ls (v.toList ++ rest)))) : Fn g D M Q (T.setTop (mkF M.m pc Ls S)) := by
  subst hp hc hs
  obtain ⟨st, vm0, k0, locs, X, hS, hk, hZ, hown, hC, N, E0, hH⟩ := B
  obtain ⟨cB, kB, q1, q2, q3⟩ := isOf (s := M.s.setVm vm0) (T := T) hZ rfl (F _ _ E0 hH)
  obtain ⟨v, vm1, Bp, -, X', hS', hg', ⟨L, hQ, hL, hE, e1, e2, e3, hC'⟩, stp⟩ := X.virtualBackS st.2.1 hown (mvT hZ w1) (mvT hZ wd) (nf vm0 hZ) (mvT hZ ws) (mvT hZ w2) hy (Ct.back (p := M.p) (e := M.e) (below := M.below) (s := M.s) (args := M.args) (len := 3) (Wt := W) C st.1 hZ w4 w3 hf hl hC.1 E0 hH) q1 q3 (g := mkF M.m pc Ls S) rfl (hsz.trans st.2.2.2.1.symm) (Steps.refl _) (argsL := argsL) (rest := rest) (lenOf pd hlen) hst (by show 2 * 0 + _ ≤ _; rw [hW]; omega) (hb st.2.2.1 hd) (fun _ _ => ⟨has, rfl, hc', hs'⟩)
  exact (K Bp.U v (Rn.after st hS hk hZ hown hC N X' hS' hg' hQ hL hE e1 e2 e3 hC')).go fun t => stp.trans
theorem r_iface (B : RH g D M T H Lt cs ss) {ix cnt W cs' ss' : Nat} {y : MethodName} {C0 : String} {b : Addr} {argsL rest : List Value} {ps : List FieldType} {r : Option FieldType} (hd : decode D.cd pc = .ok (.invokeinterface ix cnt, 5)) (hp : pc + 5 = pc')
    (w1 : (Jvm.Cond.methodLink D.y.cls ix y).before g.a0 g.Z = true) (wd : (Jvm.Cond.declares y).before g.a0 g.Z = true) (wf : (Jvm.Cond.interfaceMethod y.cls y.cls y.name y.desc).before g.a0 g.Z = true) (hfa : ((Jvm.Cond.interfaceMethod y.cls y.cls y.name y.desc).onTables && (Jvm.Cond.interfaceMethod y.cls y.cls y.name y.desc).keepsFace) = true) (ws : (Jvm.Cond.selects C0 y D'.y).before g.a0 g.Z = true) (w2 : (Jvm.Cond.instanceMethod D'.y).before g.a0 g.Z = true)
    (wp : (Jvm.Cond.publicMethod D'.y).before g.a0 g.Z = true) (wu : (Jvm.Cond.unhidden C0 y.name y.desc).before g.a0 g.Z = true) (wk : (Jvm.Cond.castable C0 y.cls).before g.a0 g.Z = true)
    (w3 : (Jvm.Cond.initialized D'.y.cls).before g.a0 g.Z = true) (w4 : (Jvm.Cond.code D'.y D'.cd D'.mx D'.rt).before g.a0 g.Z = true)
    (hy : y.cls ≠ "java/lang/invoke/MethodHandle" ∧ y.cls ≠ "java/lang/invoke/VarHandle") (F : Al g H Lt fun h => Exa g.Z h b C0) (C : Ct g D' as H Lt Q') (has : (.ref b :: argsL).toArray = as) (pd : parseMethodDescriptor y.desc = some ⟨ps, r⟩) (hlen : argsL.length = ps.length) (hst : S = argsL.reverse ++ .ref b :: rest)
    (hsz : Ls.size = D.mx) (hW : (rest.map fun v => v.category).sum = W) (hf : D'.rm.frames + 1 ≤ D.rm.frames) (hl : W + (D'.mx + 11) + D'.rm.locals ≤ D.rm.locals) (hc : cs + D'.rm.cells = cs') (hs : ss + D'.rm.slots = ss') (hc' : cs' ≤ D.rm.cells) (hs' : ss' ≤ D.rm.slots)
    (K : ∀ T' v, Rn g D M T' (Q' v) cs' ss' → Fn g D M Q (T'.setTop (mkF M.m pc' Ls (v.toList ++ rest)))) : Fn g D M Q (T.setTop (mkF M.m pc Ls S)) := by
  subst hp hc hs
  obtain ⟨st, vm0, k0, locs, X, hS, hk, hZ, hown, hC, N, E0, hH⟩ := B
  obtain ⟨cB, kB, q1, q2, q3⟩ := isOf (s := M.s.setVm vm0) (T := T) hZ rfl (F _ _ E0 hH)
  obtain ⟨v, vm1, Bp, -, X', hS', hg', ⟨L, hQ, hL, hE, e1, e2, e3, hC'⟩, stp⟩ := X.interfaceBackS st.2.1 hown (mvT hZ w1) (mvT hZ wd) (mvT hZ wf hfa) (mvT hZ ws) (mvT hZ w2) (mvT hZ wp) (mvT hZ wu) (mvT hZ wk) hy (Ct.back (p := M.p) (e := M.e) (below := M.below) (s := M.s) (args := M.args) (len := 5) (Wt := W) C st.1 hZ w4 w3 hf hl hC.1 E0 hH) q1 q2 q3 (g := mkF M.m pc Ls S) rfl (hsz.trans st.2.2.2.1.symm) (Steps.refl _) (argsL := argsL) (rest := rest) (lenOf pd hlen) hst (by show 2 * 0 + _ ≤ _; rw [hW]; omega) (hb st.2.2.1 hd) (fun _ _ => ⟨has, rfl, hc', hs'⟩)
  exact (K Bp.U v (Rn.after st hS hk hZ hown hC N X' hS' hg' hQ hL hE e1 e2 e3 hC')).go fun t => stp.trans
/-! constants -/
theorem ary_of {Z : State} {h : Heap} {b : Addr} {k : ClassId} {z : Int32} {vs : List Value} {dv : Value} (A : Arv Z h b k .byte z vs dv) (hl : z.toNatClampNeg = vs.length) : Ary Z h b .byte "" vs := by
  obtain ⟨c, r1, r2, r3, r4, r5, r6⟩ := A
  have hs : c.slots.size = vs.length := r3.trans hl
  refine ⟨c, r1, ?_, ?_, fun v hv => ?_, nofun, fun q => absurd rfl q⟩
  · apply Array.ext_getElem?
    intro i
    by_cases hi : i < c.slots.size
    · rw [r5 i hi]
      have : i < vs.length := hs ▸ hi
      simp [this]
    · rw [Array.getElem?_eq_none (by omega), List.getElem?_toArray, List.getElem?_eq_none (by omega)]
  · have := (back32 r4).2
    omega
  · obtain ⟨i, hi, rfl⟩ := List.getElem_of_mem hv
    have := r6 i (by omega)
    simpa [hi] using this
theorem r_ldc (B : RH g D M T H Lt cs ss) {ix n cs' ss' : Nat} {text : String} {bs : List Value} {z : Int32} (hd : decode D.cd pc = .ok (.ldc ix, 2)) (hp : pc + 2 = pc') (w : (Jvm.Cond.stringLink D.y.cls ix text).before g.a0 g.Z = true) (wS : ∀ a ∈ Bundle.stringAtoms, a.before g.a0 g.Z = true) (hm : (D.y.cls, ix) ∈ g.EL)
    (ht : (∀ c ∈ text.toList, c.toNat < 256) ∧ text.toList.map (fun c => Value.int (Jvm.Lit.byteI c.toNat.toUInt16)) = bs) (hz : ¬ z < 0) (hzl : z.toNatClampNeg = bs.length) (hn : 4 * text.toList.length ≤ n) (hbig : n ≤ 536870912) (hc : cs + 2 = cs') (hs : ss + (n + 4) = ss') (hc' : cs' ≤ D.rm.cells) (hs' : ss' ≤ D.rm.slots)
    (K : ∀ T' a b, RH g D M T' H ((a, b, 0, bs) :: Lt) cs' ss' → Fn g D M Q (T'.setTop (mkF M.m pc' Ls (.ref a :: S)))) : Fn g D M Q (T.setTop (mkF M.m pc Ls S)) := by
  subst hp hc hs
  obtain ⟨st, vm0, k0, locs, X, hS, hk, hZ, hown, hC, N, E0, hH⟩ := B
  obtain ⟨a, T', h', k1, b, kk, X', e', E, hS', hk', hZ', hown', F1, F2, F3, F4, -, -, hC', -, hsafe, stp⟩ := ldcCH (Z := g.Z) (a0 := g.a0) (EL := g.EL) X st.2.1 hZ hown w wS rfl hS hk st.1.2.1 hm hC.1 ht hz hzl (g := mkF M.m pc Ls S) rfl (hb st.2.2.1 hd) hn hbig hc' hs'
  have P1 := hH.move hC' E
  have P' := P1.lit (y := (a, b, 0, bs)) ⟨F1, F3, F2, ary_of F4 hzl⟩ (fun x hx => hsafe x.1 (P1.1 x hx).2.2.2)
  subst e'
  exact (K T' a b ⟨st, T'.vm, k1, locs, X', hS', hk', hZ', hown', hC.trans hC', N, ext_trans E0 E, P'⟩).go stp
theorem r_ldcO (B : RH g D M T H Lt cs ss) {ix n cs' ss' : Nat} {text : String} (hd : decode D.cd pc = .ok (.ldc ix, 2)) (hp : pc + 2 = pc') (w : (Jvm.Cond.stringLink D.y.cls ix text).before g.a0 g.Z = true) (wS : ∀ a ∈ Bundle.stringAtoms, a.before g.a0 g.Z = true)
    (hn : 4 * text.toList.length ≤ n) (hbig : n ≤ 536870912) (hc : cs + 2 = cs') (hs : ss + (n + 4) = ss') (hc' : cs' ≤ D.rm.cells) (hs' : ss' ≤ D.rm.slots)
    (K : ∀ T' a, RH g D M T' H Lt cs' ss' → Fn g D M Q (T'.setTop (mkF M.m pc' Ls (.ref a :: S)))) : Fn g D M Q (T.setTop (mkF M.m pc Ls S)) := by
  subst hp hc hs
  obtain ⟨st, vm0, k0, locs, X, hS, hk, hZ, hown, hC, N, E0, hH⟩ := B
  obtain ⟨a, T', h', k1, X', e', E, hS', hk', hZ', hown', hC', -, stp⟩ := ldcOH (Z := g.Z) (a0 := g.a0) (EL := g.EL) X st.2.1 hZ hown w wS rfl hS hk st.1.2.1 hC.1 (g := mkF M.m pc Ls S) rfl (hb st.2.2.1 hd) hn hbig hc' hs'
  subst e'
  exact (K T' a ⟨st, T'.vm, k1, locs, X', hS', hk', hZ', hown', hC.trans hC', N, ext_trans E0 E, hH.move hC' E⟩).go stp
theorem r_ldcI (B : RH g D M T H Lt cs ss) {ix : Nat} {v : Int32} (hd : decode D.cd pc = .ok (.ldc ix, 2)) (hp : pc + 2 = pc') (w : (Jvm.Cond.constant D.y.cls ix v).before g.a0 g.Z = true) (K : Fn g D M Q (T.setTop (mkF M.m pc' Ls (.int v :: S)))) : Fn g D M Q (T.setTop (mkF M.m pc Ls S)) := by
  subst hp
  obtain ⟨st, vm0, k0, locs, X, hS, hk, hZ, hown, hC, N, E0, hH⟩ := B
  exact K.go fun t => X.ldcI (g := mkF M.m pc Ls S) st.2.1 hown (mvT hZ w) rfl (hb st.2.2.1 hd)
theorem r_ldcwI (B : RH g D M T H Lt cs ss) {ix : Nat} {v : Int32} (hd : decode D.cd pc = .ok (.ldc_w ix, 3)) (hp : pc + 3 = pc') (w : (Jvm.Cond.constant D.y.cls ix v).before g.a0 g.Z = true) (K : Fn g D M Q (T.setTop (mkF M.m pc' Ls (.int v :: S)))) : Fn g D M Q (T.setTop (mkF M.m pc Ls S)) := by
  subst hp
  obtain ⟨st, vm0, k0, locs, X, hS, hk, hZ, hown, hC, N, E0, hH⟩ := B
  exact K.go fun t => X.ldcWI (g := mkF M.m pc Ls S) st.2.1 hown (mvT hZ w) rfl (hb st.2.2.1 hd)
theorem r_ldcJ (B : RH g D M T H Lt cs ss) {ix : Nat} {v : Int64} (hd : decode D.cd pc = .ok (.ldc2_w ix, 3)) (hp : pc + 3 = pc') (w : (Jvm.Cond.constantLong D.y.cls ix v).before g.a0 g.Z = true) (K : Fn g D M Q (T.setTop (mkF M.m pc' Ls (.long v :: S)))) : Fn g D M Q (T.setTop (mkF M.m pc Ls S)) := by
  subst hp
  obtain ⟨st, vm0, k0, locs, X, hS, hk, hZ, hown, hC, N, E0, hH⟩ := B
  exact K.go fun t => X.ldc2J (g := mkF M.m pc Ls S) st.2.1 hown (mvT hZ w) rfl (hb st.2.2.1 hd)
/-! casts -/
theorem r_cast (B : RH g D M T H Lt cs ss) {ix : Nat} {C : String} {a : Addr} (hd : decode D.cd pc = .ok (.checkcast ix, 3)) (hp : pc + 3 = pc') (w : (Jvm.Cond.classLink D.y.cls ix C).before g.a0 g.Z = true) (F : Al g H Lt fun h => Ins g.Z h a C true)
    (K : ∀ T', RH g D M T' H Lt cs ss → Fn g D M Q (T'.setTop (mkF M.m pc' Ls (.ref a :: S)))) : Fn g D M Q (T.setTop (mkF M.m pc Ls (.ref a :: S))) := by
  subst hp
  obtain ⟨st, vm0, k0, locs, X, hS, hk, hZ, hown, hC, N, E0, hH⟩ := B
  obtain ⟨T', X', e', stp⟩ := castY (Z := g.Z) (a0 := g.a0) X st.2.1 hZ hown w rfl (F _ _ E0 hH) (g := mkF M.m pc Ls (.ref a :: S)) rfl rfl (hb st.2.2.1 hd)
  exact (K T' ⟨st, vm0, k0, locs, X', hS, by rw [e']; exact hk, hZ, hown, by rw [e']; exact hC, N, by rw [e']; exact E0, by rw [e']; exact hH⟩).go stp
theorem r_inst1 (B : RH g D M T H Lt cs ss) {ix : Nat} {C : String} {a : Addr} (hd : decode D.cd pc = .ok (.instanceof ix, 3)) (hp : pc + 3 = pc') (w : (Jvm.Cond.classLink D.y.cls ix C).before g.a0 g.Z = true) (F : Al g H Lt fun h => Ins g.Z h a C true)
    (K : ∀ T', RH g D M T' H Lt cs ss → Fn g D M Q (T'.setTop (mkF M.m pc' Ls (.int 1 :: S)))) : Fn g D M Q (T.setTop (mkF M.m pc Ls (.ref a :: S))) := by
  subst hp
  obtain ⟨st, vm0, k0, locs, X, hS, hk, hZ, hown, hC, N, E0, hH⟩ := B
  obtain ⟨T', X', e', stp⟩ := instY (Z := g.Z) (a0 := g.a0) X st.2.1 hZ hown w rfl (F _ _ E0 hH) (g := mkF M.m pc Ls (.ref a :: S)) rfl rfl (hb st.2.2.1 hd)
  exact (K T' ⟨st, vm0, k0, locs, X', hS, by rw [e']; exact hk, hZ, hown, by rw [e']; exact hC, N, by rw [e']; exact E0, by rw [e']; exact hH⟩).go stp
theorem r_inst0 (B : RH g D M T H Lt cs ss) {ix : Nat} {C C1 : String} {a : Addr} (hd : decode D.cd pc = .ok (.instanceof ix, 3)) (hp : pc + 3 = pc') (w : (Jvm.Cond.classLink D.y.cls ix C).before g.a0 g.Z = true) (F : Al g H Lt fun h => Ins g.Z h a C false) (F1 : Al g H Lt fun h => Exa g.Z h a C1)
    (K : ∀ T', RH g D M T' H Lt cs ss → Fn g D M Q (T'.setTop (mkF M.m pc' Ls (.int 0 :: S)))) : Fn g D M Q (T.setTop (mkF M.m pc Ls (.ref a :: S))) := by
  subst hp
  obtain ⟨st, vm0, k0, locs, X, hS, hk, hZ, hown, hC, N, E0, hH⟩ := B
  obtain ⟨cell, cT, h1, h2, h3⟩ := F _ _ E0 hH
  obtain ⟨cell', k, e1, -, e3, e4, -⟩ := F1 _ _ E0 hH
  cases h1.symm.trans e1
  obtain ⟨k', q, -⟩ := hZ.alike.2.2 _ _ e3
  obtain ⟨vm', X', stp⟩ := Jvm.Sym.instanceofNoAt X st.2.1 hown (mvT hZ w) h1 e4 q (by show vm0.findClass C = some cT; rw [hZ.alike.findClass]; exact h2) (by show vm0.assignable cell.cls cT = false; rw [hZ.alike.assignable]; simpa [e4] using h3) (g := mkF M.m pc Ls (.ref a :: S)) rfl rfl (hb st.2.2.1 hd)
  exact (K _ ⟨st, vm0, k0, locs, X', hS, hk, hZ, hown, hC, N, E0, hH⟩).go stp
theorem r_castN (B : RH g D M T H Lt cs ss) {ix : Nat} (hd : decode D.cd pc = .ok (.checkcast ix, 3)) (hp : pc + 3 = pc') (K : Fn g D M Q (T.setTop (mkF M.m pc' Ls (.null :: S)))) : Fn g D M Q (T.setTop (mkF M.m pc Ls (.null :: S))) := by
  subst hp
  obtain ⟨st, vm0, k0, locs, X, hS, hk, hZ, hown, hC, N, E0, hH⟩ := B
  exact K.go fun t => X.checkcastNull st.2.1 (g := mkF M.m pc Ls (.null :: S)) rfl rfl (hb st.2.2.1 hd) t
theorem r_instN (B : RH g D M T H Lt cs ss) {ix : Nat} (hd : decode D.cd pc = .ok (.instanceof ix, 3)) (hp : pc + 3 = pc') (K : Fn g D M Q (T.setTop (mkF M.m pc' Ls (.int 0 :: S)))) : Fn g D M Q (T.setTop (mkF M.m pc Ls (.null :: S))) := by
  subst hp
  obtain ⟨st, vm0, k0, locs, X, hS, hk, hZ, hown, hC, N, E0, hH⟩ := B
  exact K.go fun t => X.instanceofNull st.2.1 (g := mkF M.m pc Ls (.null :: S)) rfl rfl (hb st.2.2.1 hd) t
end Rules
theorem nar_ref {t : FieldType} {v : Value} (h : v.isRef = true) (ht : t.isReference = true) : narrow t v = v := by cases t <;> first | (cases v <;> first | rfl | (cases h; done)) | (cases ht; done)
theorem fit_ref {t : FieldType} {v : Value} (h : v.isRef = true) (ht : t.isReference = true) : fits t v = true := by cases t <;> first | (cases v <;> first | rfl | (cases h; done)) | (cases ht; done)
theorem cat_ref {v : Value} (h : v.isRef = true) : v.category = 1 := Jvm.Free.XT.cat1 h
theorem ins_no {Z : State} {h : Heap} {a : Addr} {a0 : Array Value} {C S K : String} {n : Nat} (E : Exa Z h a C) (w : (Jvm.Cond.superclass C S).before a0 Z = true) (w0 : (Jvm.Cond.noSuperclass S).before a0 Z = true) (wi : (Jvm.Cond.instantiable K n).before a0 Z = true) (h1 : C ≠ K) (h2 : S ≠ K) : Ins Z h a K false := by
  obtain ⟨cell, k, e1, e2, e3, e4, -⟩ := E
  obtain ⟨t, kt, t1, t2, t3, t4, -⟩ := Cond.instantiable_spec wi
  obtain ⟨p, kc, kp, q1, q2, q3, q4, q5, q6, q7⟩ := Cond.superclass_spec e2 w
  obtain ⟨p', kp', r1, r2, r3, r4, r5⟩ := Cond.noSuperclass_spec w0
  cases q1.symm.trans r1
  have n1 := ids_ne e2 t1 h1
  have n2 := ids_ne r1 t1 h2
  have hi : kt.isInterface = false := (Bool.or_eq_false_iff.mp t4).1
  have hs0 : ∀ fuel, Z.vm.isSubclassAux fuel p t = false := fun fuel => by
    cases fuel with
    | zero => rfl
    | succ f => simp [Vm.isSubclassAux, n2, r2, r3]
  have hs : ∀ fuel, Z.vm.isSubclassAux fuel cell.cls t = false := fun fuel => by
    cases fuel with
    | zero => rfl
    | succ f => simp [Vm.isSubclassAux, n1, q2, q4, hs0]
  have hA : Z.vm.assignable cell.cls t = false := by
    show Z.vm.assignableAux (255 + 1) cell.cls t = false
    simp [Vm.assignableAux, n1, q2, t2, q5, t3, hi, Vm.isSubclass, hs]
  exact ⟨cell, t, e1, t1, by simp [hA]⟩
theorem tl1 {α : Type} {a : α} {l : List α} : ∀ y ∈ l, y ∈ a :: l := fun _ h => List.mem_cons_of_mem _ h
theorem tl2 {α : Type} {a b : α} {l : List α} : ∀ y ∈ l, y ∈ a :: b :: l := fun _ h => List.mem_cons_of_mem _ (tl1 _ h)
theorem tl3 {α : Type} {a b c : α} {l : List α} : ∀ y ∈ l, y ∈ a :: b :: c :: l := fun _ h => List.mem_cons_of_mem _ (tl2 _ h)
theorem tl4 {α : Type} {a b c d : α} {l : List α} : ∀ y ∈ l, y ∈ a :: b :: c :: d :: l := fun _ h => List.mem_cons_of_mem _ (tl3 _ h)
theorem tlm {α : Type} {a b : α} {l : List α} : ∀ y ∈ a :: l, y ∈ a :: b :: l := fun _ h => (List.mem_cons.mp h).elim (fun e => e ▸ List.mem_cons_self ..) fun h => List.mem_cons_of_mem _ (tl1 _ h)
theorem tlh {α : Type} {a : α} {l : List α} (m : a ∈ l) : ∀ y ∈ a :: l, y ∈ l := fun _ h => (List.mem_cons.mp h).elim (fun e => e ▸ m) id
theorem Hp.nil {g : GG} {vm : Vm} {h : Heap} : Hp g vm h [] [] := ⟨nofun, List.nodup_nil, nofun, nofun⟩

theorem W0 {g : GG} (W : GW g) : (Jvm.Cond.classLink "com/example/polecenie/polecenie/core/ElementAncestorPinLaw" (7 : Nat) "java/lang/String").before g.a0 g.Z = true := W.1 _ (List.mem_of_getElem? (i := 0) rfl)
theorem W1 {g : GG} (W : GW g) : (Jvm.Cond.instantiable "java/lang/String" (4 : Nat)).before g.a0 g.Z = true := W.1 _ (List.mem_of_getElem? (i := 1) rfl)
theorem W2 {g : GG} (W : GW g) : (Jvm.Cond.initialized "java/lang/String").before g.a0 g.Z = true := W.1 _ (List.mem_of_getElem? (i := 2) rfl)
theorem W3 {g : GG} (W : GW g) : (Jvm.Cond.arrayClass Jvm.ClassFile.FieldType.char).before g.a0 g.Z = true := W.1 _ (List.mem_of_getElem? (i := 3) rfl)
theorem W4 {g : GG} (W : GW g) : (Jvm.Cond.methodLink "com/example/polecenie/polecenie/core/ElementAncestorPinLaw" (9 : Nat) ({ cls := "java/lang/String", name := "<init>", desc := "([C)V" } : Jvm.MethodName)).before g.a0 g.Z = true := W.1 _ (List.mem_of_getElem? (i := 4) rfl)
theorem W5 {g : GG} (W : GW g) : (Jvm.Cond.instanceMethod ({ cls := "java/lang/String", name := "<init>", desc := "([C)V" } : Jvm.MethodName)).before g.a0 g.Z = true := W.1 _ (List.mem_of_getElem? (i := 5) rfl)
theorem W6 {g : GG} (W : GW g) : (Jvm.Cond.code ({ cls := "java/lang/String", name := "<init>", desc := "([C)V" } : Jvm.MethodName) jdk_42_method_3_code (2 : Nat) (Option.none : Option Jvm.ClassFile.FieldType)).before g.a0 g.Z = true := W.1 _ (List.mem_of_getElem? (i := 6) rfl)
theorem W7 {g : GG} (W : GW g) : (Jvm.Cond.methodLink "java/lang/String" (27 : Nat) ({ cls := "java/lang/String", name := "<init>", desc := "([CIILjava/lang/Void;)V" } : Jvm.MethodName)).before g.a0 g.Z = true := W.1 _ (List.mem_of_getElem? (i := 7) rfl)
theorem W8 {g : GG} (W : GW g) : (Jvm.Cond.instanceMethod ({ cls := "java/lang/String", name := "<init>", desc := "([CIILjava/lang/Void;)V" } : Jvm.MethodName)).before g.a0 g.Z = true := W.1 _ (List.mem_of_getElem? (i := 8) rfl)
theorem W10 {g : GG} (W : GW g) : (Jvm.Cond.code ({ cls := "java/lang/String", name := "<init>", desc := "([CIILjava/lang/Void;)V" } : Jvm.MethodName) jdk_42_method_149_code (6 : Nat) (Option.none : Option Jvm.ClassFile.FieldType)).before g.a0 g.Z = true := W.1 _ (List.mem_of_getElem? (i := 10) rfl)
theorem W11 {g : GG} (W : GW g) : (Jvm.Cond.methodLink "java/lang/String" (1 : Nat) ({ cls := "java/lang/Object", name := "<init>", desc := "()V" } : Jvm.MethodName)).before g.a0 g.Z = true := W.1 _ (List.mem_of_getElem? (i := 11) rfl)
theorem W12 {g : GG} (W : GW g) : (Jvm.Cond.instanceMethod ({ cls := "java/lang/Object", name := "<init>", desc := "()V" } : Jvm.MethodName)).before g.a0 g.Z = true := W.1 _ (List.mem_of_getElem? (i := 12) rfl)
theorem W13 {g : GG} (W : GW g) : (Jvm.Cond.code ({ cls := "java/lang/Object", name := "<init>", desc := "()V" } : Jvm.MethodName) object_method_1_code (1 : Nat) (Option.none : Option Jvm.ClassFile.FieldType)).before g.a0 g.Z = true := W.1 _ (List.mem_of_getElem? (i := 13) rfl)
theorem W14 {g : GG} (W : GW g) : (Jvm.Cond.fieldLink "java/lang/String" (38 : Nat) "java/lang/String" "COMPACT_STRINGS" "Z").before g.a0 g.Z = true := W.1 _ (List.mem_of_getElem? (i := 14) rfl)
theorem W15 {g : GG} (W : GW g) : (Jvm.Cond.methodLink "java/lang/String" (177 : Nat) ({ cls := "java/lang/StringUTF16", name := "compress", desc := "([CII)[B" } : Jvm.MethodName)).before g.a0 g.Z = true := W.1 _ (List.mem_of_getElem? (i := 15) rfl)
theorem W16 {g : GG} (W : GW g) : (Jvm.Cond.static ({ cls := "java/lang/StringUTF16", name := "compress", desc := "([CII)[B" } : Jvm.MethodName)).before g.a0 g.Z = true := W.1 _ (List.mem_of_getElem? (i := 16) rfl)
theorem W17 {g : GG} (W : GW g) : (Jvm.Cond.initialized "java/lang/StringUTF16").before g.a0 g.Z = true := W.1 _ (List.mem_of_getElem? (i := 17) rfl)
theorem W18 {g : GG} (W : GW g) : (Jvm.Cond.code ({ cls := "java/lang/StringUTF16", name := "compress", desc := "([CII)[B" } : Jvm.MethodName) jdk_52_method_16_code (6 : Nat) (Option.some (Jvm.ClassFile.FieldType.array Jvm.ClassFile.FieldType.byte))).before g.a0 g.Z = true := W.1 _ (List.mem_of_getElem? (i := 18) rfl)
theorem W19 {g : GG} (W : GW g) : (Jvm.Cond.arrayClass Jvm.ClassFile.FieldType.byte).before g.a0 g.Z = true := W.1 _ (List.mem_of_getElem? (i := 19) rfl)
theorem W20 {g : GG} (W : GW g) : (Jvm.Cond.methodLink "java/lang/StringUTF16" (115 : Nat) ({ cls := "java/lang/StringUTF16", name := "compress", desc := "([CI[BII)I" } : Jvm.MethodName)).before g.a0 g.Z = true := W.1 _ (List.mem_of_getElem? (i := 20) rfl)
theorem W21 {g : GG} (W : GW g) : (Jvm.Cond.static ({ cls := "java/lang/StringUTF16", name := "compress", desc := "([CI[BII)I" } : Jvm.MethodName)).before g.a0 g.Z = true := W.1 _ (List.mem_of_getElem? (i := 21) rfl)
theorem W22 {g : GG} (W : GW g) : (Jvm.Cond.code ({ cls := "java/lang/StringUTF16", name := "compress", desc := "([CI[BII)I" } : Jvm.MethodName) jdk_52_method_21_code (7 : Nat) (Option.some Jvm.ClassFile.FieldType.int)).before g.a0 g.Z = true := W.1 _ (List.mem_of_getElem? (i := 22) rfl)
theorem W23 {g : GG} (W : GW g) : (Jvm.Cond.methodLink "java/lang/String" (47 : Nat) ({ cls := "java/lang/StringUTF16", name := "coderFromArrayLen", desc := "([BI)B" } : Jvm.MethodName)).before g.a0 g.Z = true := W.1 _ (List.mem_of_getElem? (i := 23) rfl)
theorem W24 {g : GG} (W : GW g) : (Jvm.Cond.static ({ cls := "java/lang/StringUTF16", name := "coderFromArrayLen", desc := "([BI)B" } : Jvm.MethodName)).before g.a0 g.Z = true := W.1 _ (List.mem_of_getElem? (i := 24) rfl)
theorem W25 {g : GG} (W : GW g) : (Jvm.Cond.code ({ cls := "java/lang/StringUTF16", name := "coderFromArrayLen", desc := "([BI)B" } : Jvm.MethodName) jdk_52_method_15_code (2 : Nat) (Option.some Jvm.ClassFile.FieldType.byte)).before g.a0 g.Z = true := W.1 _ (List.mem_of_getElem? (i := 25) rfl)
theorem W26 {g : GG} (W : GW g) : (Jvm.Cond.fieldLink "java/lang/String" (15 : Nat) "java/lang/String" "coder" "B").before g.a0 g.Z = true := W.1 _ (List.mem_of_getElem? (i := 26) rfl)
theorem W27 {g : GG} (W : GW g) : (Jvm.Cond.laysFinal "java/lang/String" "java/lang/String" "coder" "B").before g.a0 g.Z = true := W.1 _ (List.mem_of_getElem? (i := 27) rfl)
theorem W28 {g : GG} (W : GW g) : (Jvm.Cond.fieldLink "java/lang/String" (9 : Nat) "java/lang/String" "value" "[B").before g.a0 g.Z = true := W.1 _ (List.mem_of_getElem? (i := 28) rfl)
theorem W29 {g : GG} (W : GW g) : (Jvm.Cond.laysFinal "java/lang/String" "java/lang/String" "value" "[B").before g.a0 g.Z = true := W.1 _ (List.mem_of_getElem? (i := 29) rfl)
theorem W30 {g : GG} (W : GW g) : (Jvm.Cond.classLink "com/example/polecenie/polecenie/core/ElementAncestorPinLaw" (13 : Nat) "com/example/polecenie/polecenie/core/Pain001Reader$Element").before g.a0 g.Z = true := W.1 _ (List.mem_of_getElem? (i := 30) rfl)
theorem W31 {g : GG} (W : GW g) : (Jvm.Cond.instantiable "com/example/polecenie/polecenie/core/Pain001Reader$Element" (7 : Nat)).before g.a0 g.Z = true := W.1 _ (List.mem_of_getElem? (i := 31) rfl)
theorem W32 {g : GG} (W : GW g) : (Jvm.Cond.initialized "com/example/polecenie/polecenie/core/Pain001Reader$Element").before g.a0 g.Z = true := W.1 _ (List.mem_of_getElem? (i := 32) rfl)
theorem W33 {g : GG} (W : GW g) : (Jvm.Cond.methodLink "com/example/polecenie/polecenie/core/ElementAncestorPinLaw" (15 : Nat) ({ cls := "com/example/polecenie/polecenie/core/Pain001Reader$Element", name := "<init>", desc := "()V" } : Jvm.MethodName)).before g.a0 g.Z = true := W.1 _ (List.mem_of_getElem? (i := 33) rfl)
theorem W34 {g : GG} (W : GW g) : (Jvm.Cond.instanceMethod ({ cls := "com/example/polecenie/polecenie/core/Pain001Reader$Element", name := "<init>", desc := "()V" } : Jvm.MethodName)).before g.a0 g.Z = true := W.1 _ (List.mem_of_getElem? (i := 34) rfl)
theorem W35 {g : GG} (W : GW g) : (Jvm.Cond.code ({ cls := "com/example/polecenie/polecenie/core/Pain001Reader$Element", name := "<init>", desc := "()V" } : Jvm.MethodName) prog_35_method_1_code (1 : Nat) (Option.none : Option Jvm.ClassFile.FieldType)).before g.a0 g.Z = true := W.1 _ (List.mem_of_getElem? (i := 35) rfl)
theorem W36 {g : GG} (W : GW g) : (Jvm.Cond.methodLink "com/example/polecenie/polecenie/core/Pain001Reader$Element" (1 : Nat) ({ cls := "java/lang/Object", name := "<init>", desc := "()V" } : Jvm.MethodName)).before g.a0 g.Z = true := W.1 _ (List.mem_of_getElem? (i := 36) rfl)
theorem W37 {g : GG} (W : GW g) : (Jvm.Cond.classLink "com/example/polecenie/polecenie/core/Pain001Reader$Element" (7 : Nat) "java/lang/String").before g.a0 g.Z = true := W.1 _ (List.mem_of_getElem? (i := 37) rfl)
theorem W38 {g : GG} (W : GW g) : (Jvm.Cond.arrayOver (Jvm.ClassFile.FieldType.object "java/lang/String")).before g.a0 g.Z = true := W.1 _ (List.mem_of_getElem? (i := 38) rfl)
theorem W39 {g : GG} (W : GW g) : (Jvm.Cond.fieldLink "com/example/polecenie/polecenie/core/Pain001Reader$Element" (9 : Nat) "com/example/polecenie/polecenie/core/Pain001Reader$Element" "names" "[Ljava/lang/String;").before g.a0 g.Z = true := W.1 _ (List.mem_of_getElem? (i := 39) rfl)
theorem W40 {g : GG} (W : GW g) : (Jvm.Cond.lays "com/example/polecenie/polecenie/core/Pain001Reader$Element" "com/example/polecenie/polecenie/core/Pain001Reader$Element" "names" "[Ljava/lang/String;").before g.a0 g.Z = true := W.1 _ (List.mem_of_getElem? (i := 40) rfl)
theorem W41 {g : GG} (W : GW g) : (Jvm.Cond.methodLink "com/example/polecenie/polecenie/core/ElementAncestorPinLaw" (16 : Nat) ({ cls := "com/example/polecenie/polecenie/core/Pain001Reader$Element", name := "push", desc := "(Ljava/lang/String;)V" } : Jvm.MethodName)).before g.a0 g.Z = true := W.1 _ (List.mem_of_getElem? (i := 41) rfl)
theorem W42 {g : GG} (W : GW g) : (Jvm.Cond.declares ({ cls := "com/example/polecenie/polecenie/core/Pain001Reader$Element", name := "push", desc := "(Ljava/lang/String;)V" } : Jvm.MethodName)).before g.a0 g.Z = true := W.1 _ (List.mem_of_getElem? (i := 42) rfl)
theorem W43 {g : GG} (W : GW g) : (Jvm.Cond.instanceMethod ({ cls := "com/example/polecenie/polecenie/core/Pain001Reader$Element", name := "push", desc := "(Ljava/lang/String;)V" } : Jvm.MethodName)).before g.a0 g.Z = true := W.1 _ (List.mem_of_getElem? (i := 43) rfl)
theorem W44 {g : GG} (W : GW g) : (Jvm.Cond.selects "com/example/polecenie/polecenie/core/Pain001Reader$Element" ({ cls := "com/example/polecenie/polecenie/core/Pain001Reader$Element", name := "push", desc := "(Ljava/lang/String;)V" } : Jvm.MethodName) ({ cls := "com/example/polecenie/polecenie/core/Pain001Reader$Element", name := "push", desc := "(Ljava/lang/String;)V" } : Jvm.MethodName)).before g.a0 g.Z = true := W.1 _ (List.mem_of_getElem? (i := 44) rfl)
theorem W45 {g : GG} (W : GW g) : (Jvm.Cond.code ({ cls := "com/example/polecenie/polecenie/core/Pain001Reader$Element", name := "push", desc := "(Ljava/lang/String;)V" } : Jvm.MethodName) prog_35_method_12_code (2 : Nat) (Option.none : Option Jvm.ClassFile.FieldType)).before g.a0 g.Z = true := W.1 _ (List.mem_of_getElem? (i := 45) rfl)
theorem W46 {g : GG} (W : GW g) : (Jvm.Cond.fieldLink "com/example/polecenie/polecenie/core/Pain001Reader$Element" (15 : Nat) "com/example/polecenie/polecenie/core/Pain001Reader$Element" "depth" "I").before g.a0 g.Z = true := W.1 _ (List.mem_of_getElem? (i := 46) rfl)
theorem W47 {g : GG} (W : GW g) : (Jvm.Cond.lays "com/example/polecenie/polecenie/core/Pain001Reader$Element" "com/example/polecenie/polecenie/core/Pain001Reader$Element" "depth" "I").before g.a0 g.Z = true := W.1 _ (List.mem_of_getElem? (i := 47) rfl)
theorem W48 {g : GG} (W : GW g) : (Jvm.Cond.methodLink "com/example/polecenie/polecenie/core/Pain001Reader$Element" (62 : Nat) ({ cls := "com/example/polecenie/polecenie/core/Pain001Reader$Element", name := "isBlock", desc := "()Z" } : Jvm.MethodName)).before g.a0 g.Z = true := W.1 _ (List.mem_of_getElem? (i := 48) rfl)
theorem W49 {g : GG} (W : GW g) : (Jvm.Cond.declares ({ cls := "com/example/polecenie/polecenie/core/Pain001Reader$Element", name := "isBlock", desc := "()Z" } : Jvm.MethodName)).before g.a0 g.Z = true := W.1 _ (List.mem_of_getElem? (i := 49) rfl)
theorem W50 {g : GG} (W : GW g) : (Jvm.Cond.instanceMethod ({ cls := "com/example/polecenie/polecenie/core/Pain001Reader$Element", name := "isBlock", desc := "()Z" } : Jvm.MethodName)).before g.a0 g.Z = true := W.1 _ (List.mem_of_getElem? (i := 50) rfl)
theorem W51 {g : GG} (W : GW g) : (Jvm.Cond.selects "com/example/polecenie/polecenie/core/Pain001Reader$Element" ({ cls := "com/example/polecenie/polecenie/core/Pain001Reader$Element", name := "isBlock", desc := "()Z" } : Jvm.MethodName) ({ cls := "com/example/polecenie/polecenie/core/Pain001Reader$Element", name := "isBlock", desc := "()Z" } : Jvm.MethodName)).before g.a0 g.Z = true := W.1 _ (List.mem_of_getElem? (i := 51) rfl)
theorem W52 {g : GG} (W : GW g) : (Jvm.Cond.code ({ cls := "com/example/polecenie/polecenie/core/Pain001Reader$Element", name := "isBlock", desc := "()Z" } : Jvm.MethodName) prog_35_method_10_code (1 : Nat) (Option.some Jvm.ClassFile.FieldType.boolean)).before g.a0 g.Z = true := W.1 _ (List.mem_of_getElem? (i := 52) rfl)
theorem W53 {g : GG} (W : GW g) : (Jvm.Cond.methodLink "com/example/polecenie/polecenie/core/Pain001Reader$Element" (72 : Nat) ({ cls := "com/example/polecenie/polecenie/core/Pain001Reader$Element", name := "isTransaction", desc := "()Z" } : Jvm.MethodName)).before g.a0 g.Z = true := W.1 _ (List.mem_of_getElem? (i := 53) rfl)
theorem W54 {g : GG} (W : GW g) : (Jvm.Cond.declares ({ cls := "com/example/polecenie/polecenie/core/Pain001Reader$Element", name := "isTransaction", desc := "()Z" } : Jvm.MethodName)).before g.a0 g.Z = true := W.1 _ (List.mem_of_getElem? (i := 54) rfl)
theorem W55 {g : GG} (W : GW g) : (Jvm.Cond.instanceMethod ({ cls := "com/example/polecenie/polecenie/core/Pain001Reader$Element", name := "isTransaction", desc := "()Z" } : Jvm.MethodName)).before g.a0 g.Z = true := W.1 _ (List.mem_of_getElem? (i := 55) rfl)
theorem W56 {g : GG} (W : GW g) : (Jvm.Cond.selects "com/example/polecenie/polecenie/core/Pain001Reader$Element" ({ cls := "com/example/polecenie/polecenie/core/Pain001Reader$Element", name := "isTransaction", desc := "()Z" } : Jvm.MethodName) ({ cls := "com/example/polecenie/polecenie/core/Pain001Reader$Element", name := "isTransaction", desc := "()Z" } : Jvm.MethodName)).before g.a0 g.Z = true := W.1 _ (List.mem_of_getElem? (i := 56) rfl)
theorem W57 {g : GG} (W : GW g) : (Jvm.Cond.code ({ cls := "com/example/polecenie/polecenie/core/Pain001Reader$Element", name := "isTransaction", desc := "()Z" } : Jvm.MethodName) prog_35_method_11_code (1 : Nat) (Option.some Jvm.ClassFile.FieldType.boolean)).before g.a0 g.Z = true := W.1 _ (List.mem_of_getElem? (i := 57) rfl)
theorem W58 {g : GG} (W : GW g) : (Jvm.Cond.methodLink "com/example/polecenie/polecenie/core/ElementAncestorPinLaw" (20 : Nat) ({ cls := "com/example/polecenie/polecenie/core/Pain001Reader$Element", name := "pop", desc := "()V" } : Jvm.MethodName)).before g.a0 g.Z = true := W.1 _ (List.mem_of_getElem? (i := 58) rfl)
theorem W59 {g : GG} (W : GW g) : (Jvm.Cond.declares ({ cls := "com/example/polecenie/polecenie/core/Pain001Reader$Element", name := "pop", desc := "()V" } : Jvm.MethodName)).before g.a0 g.Z = true := W.1 _ (List.mem_of_getElem? (i := 59) rfl)
theorem W60 {g : GG} (W : GW g) : (Jvm.Cond.instanceMethod ({ cls := "com/example/polecenie/polecenie/core/Pain001Reader$Element", name := "pop", desc := "()V" } : Jvm.MethodName)).before g.a0 g.Z = true := W.1 _ (List.mem_of_getElem? (i := 60) rfl)
theorem W61 {g : GG} (W : GW g) : (Jvm.Cond.selects "com/example/polecenie/polecenie/core/Pain001Reader$Element" ({ cls := "com/example/polecenie/polecenie/core/Pain001Reader$Element", name := "pop", desc := "()V" } : Jvm.MethodName) ({ cls := "com/example/polecenie/polecenie/core/Pain001Reader$Element", name := "pop", desc := "()V" } : Jvm.MethodName)).before g.a0 g.Z = true := W.1 _ (List.mem_of_getElem? (i := 61) rfl)
theorem W62 {g : GG} (W : GW g) : (Jvm.Cond.code ({ cls := "com/example/polecenie/polecenie/core/Pain001Reader$Element", name := "pop", desc := "()V" } : Jvm.MethodName) prog_35_method_13_code (1 : Nat) (Option.none : Option Jvm.ClassFile.FieldType)).before g.a0 g.Z = true := W.1 _ (List.mem_of_getElem? (i := 62) rfl)
theorem W63 {g : GG} (W : GW g) : (Jvm.Cond.methodLink "com/example/polecenie/polecenie/core/ElementAncestorPinLaw" (23 : Nat) ({ cls := "com/example/polecenie/polecenie/core/Pain001Reader$Element", name := "ancestor", desc := "(I)Ljava/lang/String;" } : Jvm.MethodName)).before g.a0 g.Z = true := W.1 _ (List.mem_of_getElem? (i := 63) rfl)
theorem W64 {g : GG} (W : GW g) : (Jvm.Cond.declares ({ cls := "com/example/polecenie/polecenie/core/Pain001Reader$Element", name := "ancestor", desc := "(I)Ljava/lang/String;" } : Jvm.MethodName)).before g.a0 g.Z = true := W.1 _ (List.mem_of_getElem? (i := 64) rfl)
theorem W65 {g : GG} (W : GW g) : (Jvm.Cond.instanceMethod ({ cls := "com/example/polecenie/polecenie/core/Pain001Reader$Element", name := "ancestor", desc := "(I)Ljava/lang/String;" } : Jvm.MethodName)).before g.a0 g.Z = true := W.1 _ (List.mem_of_getElem? (i := 65) rfl)
theorem W66 {g : GG} (W : GW g) : (Jvm.Cond.selects "com/example/polecenie/polecenie/core/Pain001Reader$Element" ({ cls := "com/example/polecenie/polecenie/core/Pain001Reader$Element", name := "ancestor", desc := "(I)Ljava/lang/String;" } : Jvm.MethodName) ({ cls := "com/example/polecenie/polecenie/core/Pain001Reader$Element", name := "ancestor", desc := "(I)Ljava/lang/String;" } : Jvm.MethodName)).before g.a0 g.Z = true := W.1 _ (List.mem_of_getElem? (i := 66) rfl)
theorem W67 {g : GG} (W : GW g) : (Jvm.Cond.code ({ cls := "com/example/polecenie/polecenie/core/Pain001Reader$Element", name := "ancestor", desc := "(I)Ljava/lang/String;" } : Jvm.MethodName) prog_35_method_3_code (2 : Nat) (Option.some (Jvm.ClassFile.FieldType.object "java/lang/String"))).before g.a0 g.Z = true := W.1 _ (List.mem_of_getElem? (i := 67) rfl)
theorem W68 {g : GG} (W : GW g) : (Jvm.Cond.methodLink "com/example/polecenie/polecenie/core/ElementAncestorPinLaw" (27 : Nat) ({ cls := "com/example/polecenie/polecenie/core/ElementAncestorPinLaw", name := "expected", desc := "(IILjava/lang/String;Ljava/lang/String;Ljava/lang/String;)Ljava/lang/String;" } : Jvm.MethodName)).before g.a0 g.Z = true := W.1 _ (List.mem_of_getElem? (i := 68) rfl)
theorem W69 {g : GG} (W : GW g) : (Jvm.Cond.static ({ cls := "com/example/polecenie/polecenie/core/ElementAncestorPinLaw", name := "expected", desc := "(IILjava/lang/String;Ljava/lang/String;Ljava/lang/String;)Ljava/lang/String;" } : Jvm.MethodName)).before g.a0 g.Z = true := W.1 _ (List.mem_of_getElem? (i := 69) rfl)
theorem W70 {g : GG} (W : GW g) : (Jvm.Cond.initialized "com/example/polecenie/polecenie/core/ElementAncestorPinLaw").before g.a0 g.Z = true := W.1 _ (List.mem_of_getElem? (i := 70) rfl)
theorem W71 {g : GG} (W : GW g) : (Jvm.Cond.code ({ cls := "com/example/polecenie/polecenie/core/ElementAncestorPinLaw", name := "expected", desc := "(IILjava/lang/String;Ljava/lang/String;Ljava/lang/String;)Ljava/lang/String;" } : Jvm.MethodName) method_3_code (5 : Nat) (Option.some (Jvm.ClassFile.FieldType.object "java/lang/String"))).before g.a0 g.Z = true := W.1 _ (List.mem_of_getElem? (i := 71) rfl)
theorem W72 {g : GG} (W : GW g) : (Jvm.Cond.constant "com/example/polecenie/polecenie/core/ElementAncestorPinLaw" (12 : Nat) (2147483647 : Int32)).before g.a0 g.Z = true := W.1 _ (List.mem_of_getElem? (i := 72) rfl)
theorem W73 {g : GG} (W : GW g) : (Jvm.Cond.stringLink "com/example/polecenie/polecenie/core/Pain001Reader$Element" (41 : Nat) "Document").before g.a0 g.Z = true := W.1 _ (List.mem_of_getElem? (i := 73) rfl)
theorem W74 {g : GG} (W : GW g) : (Jvm.Cond.soleField "java/lang/String" "value").before g.a0 g.Z = true := W.1 _ (List.mem_of_getElem? (i := 74) rfl)
theorem W75 {g : GG} (W : GW g) : (Jvm.Cond.soleField "java/lang/String" "coder").before g.a0 g.Z = true := W.1 _ (List.mem_of_getElem? (i := 75) rfl)
theorem W76 {g : GG} (W : GW g) : (Jvm.Cond.stringLink "com/example/polecenie/polecenie/core/Pain001Reader$Element" (43 : Nat) "CstmrCdtTrfInitn").before g.a0 g.Z = true := W.1 _ (List.mem_of_getElem? (i := 76) rfl)
theorem W77 {g : GG} (W : GW g) : (Jvm.Cond.stringLink "com/example/polecenie/polecenie/core/Pain001Reader$Element" (51 : Nat) "PmtInf").before g.a0 g.Z = true := W.1 _ (List.mem_of_getElem? (i := 77) rfl)
theorem W78 {g : GG} (W : GW g) : (Jvm.Cond.methodLink "com/example/polecenie/polecenie/core/Pain001Reader$Element" (47 : Nat) ({ cls := "com/example/polecenie/polecenie/core/Pain001Reader$Element", name := "is", desc := "([Ljava/lang/String;)Z" } : Jvm.MethodName)).before g.a0 g.Z = true := W.1 _ (List.mem_of_getElem? (i := 78) rfl)
theorem W79 {g : GG} (W : GW g) : (Jvm.Cond.declares ({ cls := "com/example/polecenie/polecenie/core/Pain001Reader$Element", name := "is", desc := "([Ljava/lang/String;)Z" } : Jvm.MethodName)).before g.a0 g.Z = true := W.1 _ (List.mem_of_getElem? (i := 79) rfl)
theorem W80 {g : GG} (W : GW g) : (Jvm.Cond.instanceMethod ({ cls := "com/example/polecenie/polecenie/core/Pain001Reader$Element", name := "is", desc := "([Ljava/lang/String;)Z" } : Jvm.MethodName)).before g.a0 g.Z = true := W.1 _ (List.mem_of_getElem? (i := 80) rfl)
theorem W81 {g : GG} (W : GW g) : (Jvm.Cond.selects "com/example/polecenie/polecenie/core/Pain001Reader$Element" ({ cls := "com/example/polecenie/polecenie/core/Pain001Reader$Element", name := "is", desc := "([Ljava/lang/String;)Z" } : Jvm.MethodName) ({ cls := "com/example/polecenie/polecenie/core/Pain001Reader$Element", name := "is", desc := "([Ljava/lang/String;)Z" } : Jvm.MethodName)).before g.a0 g.Z = true := W.1 _ (List.mem_of_getElem? (i := 81) rfl)
theorem W82 {g : GG} (W : GW g) : (Jvm.Cond.code ({ cls := "com/example/polecenie/polecenie/core/Pain001Reader$Element", name := "is", desc := "([Ljava/lang/String;)Z" } : Jvm.MethodName) prog_35_method_6_code (3 : Nat) (Option.some Jvm.ClassFile.FieldType.boolean)).before g.a0 g.Z = true := W.1 _ (List.mem_of_getElem? (i := 82) rfl)
theorem W83 {g : GG} (W : GW g) : (Jvm.Cond.methodLink "com/example/polecenie/polecenie/core/Pain001Reader$Element" (31 : Nat) ({ cls := "java/lang/String", name := "equals", desc := "(Ljava/lang/Object;)Z" } : Jvm.MethodName)).before g.a0 g.Z = true := W.1 _ (List.mem_of_getElem? (i := 83) rfl)
theorem W84 {g : GG} (W : GW g) : (Jvm.Cond.declares ({ cls := "java/lang/String", name := "equals", desc := "(Ljava/lang/Object;)Z" } : Jvm.MethodName)).before g.a0 g.Z = true := W.1 _ (List.mem_of_getElem? (i := 84) rfl)
theorem W85 {g : GG} (W : GW g) : (Jvm.Cond.instanceMethod ({ cls := "java/lang/String", name := "equals", desc := "(Ljava/lang/Object;)Z" } : Jvm.MethodName)).before g.a0 g.Z = true := W.1 _ (List.mem_of_getElem? (i := 85) rfl)
theorem W86 {g : GG} (W : GW g) : (Jvm.Cond.selects "java/lang/String" ({ cls := "java/lang/String", name := "equals", desc := "(Ljava/lang/Object;)Z" } : Jvm.MethodName) ({ cls := "java/lang/String", name := "equals", desc := "(Ljava/lang/Object;)Z" } : Jvm.MethodName)).before g.a0 g.Z = true := W.1 _ (List.mem_of_getElem? (i := 86) rfl)
theorem W87 {g : GG} (W : GW g) : (Jvm.Cond.code ({ cls := "java/lang/String", name := "equals", desc := "(Ljava/lang/Object;)Z" } : Jvm.MethodName) jdk_42_method_66_code (3 : Nat) (Option.some Jvm.ClassFile.FieldType.boolean)).before g.a0 g.Z = true := W.1 _ (List.mem_of_getElem? (i := 87) rfl)
theorem W88 {g : GG} (W : GW g) : (Jvm.Cond.classLink "java/lang/String" (10 : Nat) "java/lang/String").before g.a0 g.Z = true := W.1 _ (List.mem_of_getElem? (i := 88) rfl)
theorem W89 {g : GG} (W : GW g) : (Jvm.Cond.methodLink "java/lang/String" (541 : Nat) ({ cls := "java/lang/StringLatin1", name := "equals", desc := "([B[B)Z" } : Jvm.MethodName)).before g.a0 g.Z = true := W.1 _ (List.mem_of_getElem? (i := 89) rfl)
theorem W90 {g : GG} (W : GW g) : (Jvm.Cond.static ({ cls := "java/lang/StringLatin1", name := "equals", desc := "([B[B)Z" } : Jvm.MethodName)).before g.a0 g.Z = true := W.1 _ (List.mem_of_getElem? (i := 90) rfl)
theorem W91 {g : GG} (W : GW g) : (Jvm.Cond.initialized "java/lang/StringLatin1").before g.a0 g.Z = true := W.1 _ (List.mem_of_getElem? (i := 91) rfl)
theorem W92 {g : GG} (W : GW g) : (Jvm.Cond.code ({ cls := "java/lang/StringLatin1", name := "equals", desc := "([B[B)Z" } : Jvm.MethodName) jdk_43_method_13_code (3 : Nat) (Option.some Jvm.ClassFile.FieldType.boolean)).before g.a0 g.Z = true := W.1 _ (List.mem_of_getElem? (i := 92) rfl)
theorem W93 {g : GG} (W : GW g) : (Jvm.Cond.fieldLink "com/example/polecenie/polecenie/core/Pain001Reader$Element" (35 : Nat) "com/example/polecenie/polecenie/core/Pain001Reader$Element" "block" "I").before g.a0 g.Z = true := W.1 _ (List.mem_of_getElem? (i := 93) rfl)
theorem W94 {g : GG} (W : GW g) : (Jvm.Cond.lays "com/example/polecenie/polecenie/core/Pain001Reader$Element" "com/example/polecenie/polecenie/core/Pain001Reader$Element" "block" "I").before g.a0 g.Z = true := W.1 _ (List.mem_of_getElem? (i := 94) rfl)
theorem W96 {g : GG} (W : GW g) : (Jvm.Cond.lays "com/example/polecenie/polecenie/core/Pain001Reader$Element" "com/example/polecenie/polecenie/core/Pain001Reader$Element" "blocks" "I").before g.a0 g.Z = true := W.1 _ (List.mem_of_getElem? (i := 96) rfl)
theorem W98 {g : GG} (W : GW g) : (Jvm.Cond.lays "com/example/polecenie/polecenie/core/Pain001Reader$Element" "com/example/polecenie/polecenie/core/Pain001Reader$Element" "transactions" "I").before g.a0 g.Z = true := W.1 _ (List.mem_of_getElem? (i := 98) rfl)
theorem W100 {g : GG} (W : GW g) : (Jvm.Cond.lays "com/example/polecenie/polecenie/core/Pain001Reader$Element" "com/example/polecenie/polecenie/core/Pain001Reader$Element" "transaction" "I").before g.a0 g.Z = true := W.1 _ (List.mem_of_getElem? (i := 100) rfl)
theorem d1_0 : decode jdk_42_method_3_code 0 = .ok (.aload_n 0, 1) := by decide +kernel
theorem d1_1 : decode jdk_42_method_3_code 1 = .ok (.aload_n 1, 1) := by decide +kernel
theorem d1_2 : decode jdk_42_method_3_code 2 = .ok (.iconst 0, 1) := by decide +kernel
theorem d1_3 : decode jdk_42_method_3_code 3 = .ok (.aload_n 1, 1) := by decide +kernel
theorem d1_4 : decode jdk_42_method_3_code 4 = .ok (.arraylength, 1) := by decide +kernel
theorem d1_5 : decode jdk_42_method_3_code 5 = .ok (.aconst_null, 1) := by decide +kernel
theorem d1_6 : decode jdk_42_method_3_code 6 = .ok (.invokespecial 27, 3) := by decide +kernel
theorem d1_9 : decode jdk_42_method_3_code 9 = .ok (.return_, 1) := by decide +kernel
theorem d2_0 : decode jdk_42_method_149_code 0 = .ok (.aload_n 0, 1) := by decide +kernel
theorem d2_1 : decode jdk_42_method_149_code 1 = .ok (.invokespecial 1, 3) := by decide +kernel
theorem d2_4 : decode jdk_42_method_149_code 4 = .ok (.iload_n 3, 1) := by decide +kernel
theorem d2_5 : decode jdk_42_method_149_code 5 = .ok (.ifCond .ne 22, 3) := by decide +kernel
theorem d2_27 : decode jdk_42_method_149_code 27 = .ok (.getstatic 38, 3) := by decide +kernel
theorem d2_30 : decode jdk_42_method_149_code 30 = .ok (.ifCond .eq 28, 3) := by decide +kernel
theorem d2_33 : decode jdk_42_method_149_code 33 = .ok (.aload_n 1, 1) := by decide +kernel
theorem d2_34 : decode jdk_42_method_149_code 34 = .ok (.iload_n 2, 1) := by decide +kernel
theorem d2_35 : decode jdk_42_method_149_code 35 = .ok (.iload_n 3, 1) := by decide +kernel
theorem d2_36 : decode jdk_42_method_149_code 36 = .ok (.invokestatic 177, 3) := by decide +kernel
theorem d2_39 : decode jdk_42_method_149_code 39 = .ok (.astore 5, 2) := by decide +kernel
theorem d2_41 : decode jdk_42_method_149_code 41 = .ok (.aload_n 0, 1) := by decide +kernel
theorem d2_42 : decode jdk_42_method_149_code 42 = .ok (.aload 5, 2) := by decide +kernel
theorem d2_44 : decode jdk_42_method_149_code 44 = .ok (.iload_n 3, 1) := by decide +kernel
theorem d2_45 : decode jdk_42_method_149_code 45 = .ok (.invokestatic 47, 3) := by decide +kernel
theorem d2_48 : decode jdk_42_method_149_code 48 = .ok (.putfield 15, 3) := by decide +kernel
theorem d2_51 : decode jdk_42_method_149_code 51 = .ok (.aload_n 0, 1) := by decide +kernel
theorem d2_52 : decode jdk_42_method_149_code 52 = .ok (.aload 5, 2) := by decide +kernel
theorem d2_54 : decode jdk_42_method_149_code 54 = .ok (.putfield 9, 3) := by decide +kernel
theorem d2_57 : decode jdk_42_method_149_code 57 = .ok (.return_, 1) := by decide +kernel
theorem d4_0 : decode jdk_52_method_16_code 0 = .ok (.iload_n 2, 1) := by decide +kernel
theorem d4_1 : decode jdk_52_method_16_code 1 = .ok (.newarray .byte, 2) := by decide +kernel
theorem d4_3 : decode jdk_52_method_16_code 3 = .ok (.astore_n 3, 1) := by decide +kernel
theorem d4_4 : decode jdk_52_method_16_code 4 = .ok (.aload_n 0, 1) := by decide +kernel
theorem d4_5 : decode jdk_52_method_16_code 5 = .ok (.iload_n 1, 1) := by decide +kernel
theorem d4_6 : decode jdk_52_method_16_code 6 = .ok (.aload_n 3, 1) := by decide +kernel
theorem d4_7 : decode jdk_52_method_16_code 7 = .ok (.iconst 0, 1) := by decide +kernel
theorem d4_8 : decode jdk_52_method_16_code 8 = .ok (.iload_n 2, 1) := by decide +kernel
theorem d4_9 : decode jdk_52_method_16_code 9 = .ok (.invokestatic 115, 3) := by decide +kernel
theorem d4_12 : decode jdk_52_method_16_code 12 = .ok (.istore 4, 2) := by decide +kernel
theorem d4_14 : decode jdk_52_method_16_code 14 = .ok (.iload 4, 2) := by decide +kernel
theorem d4_16 : decode jdk_52_method_16_code 16 = .ok (.iload_n 2, 1) := by decide +kernel
theorem d4_17 : decode jdk_52_method_16_code 17 = .ok (.if_icmp .eq 40, 3) := by decide +kernel
theorem d4_57 : decode jdk_52_method_16_code 57 = .ok (.aload_n 3, 1) := by decide +kernel
theorem d4_58 : decode jdk_52_method_16_code 58 = .ok (.areturn, 1) := by decide +kernel
theorem d5_0 : decode jdk_52_method_21_code 0 = .ok (.iconst 0, 1) := by decide +kernel
theorem d5_1 : decode jdk_52_method_21_code 1 = .ok (.istore 5, 2) := by decide +kernel
theorem d5_3 : decode jdk_52_method_21_code 3 = .ok (.iload 5, 2) := by decide +kernel
theorem d5_5 : decode jdk_52_method_21_code 5 = .ok (.iload 4, 2) := by decide +kernel
theorem d5_7 : decode jdk_52_method_21_code 7 = .ok (.if_icmp .ge 37, 3) := by decide +kernel
theorem d5_10 : decode jdk_52_method_21_code 10 = .ok (.aload_n 0, 1) := by decide +kernel
theorem d5_11 : decode jdk_52_method_21_code 11 = .ok (.iload_n 1, 1) := by decide +kernel
theorem d5_12 : decode jdk_52_method_21_code 12 = .ok (.caload, 1) := by decide +kernel
theorem d5_13 : decode jdk_52_method_21_code 13 = .ok (.istore 6, 2) := by decide +kernel
theorem d5_15 : decode jdk_52_method_21_code 15 = .ok (.iload 6, 2) := by decide +kernel
theorem d5_17 : decode jdk_52_method_21_code 17 = .ok (.sipush 255, 3) := by decide +kernel
theorem d5_20 : decode jdk_52_method_21_code 20 = .ok (.if_icmp .le 6, 3) := by decide +kernel
theorem d5_26 : decode jdk_52_method_21_code 26 = .ok (.aload_n 2, 1) := by decide +kernel
theorem d5_27 : decode jdk_52_method_21_code 27 = .ok (.iload_n 3, 1) := by decide +kernel
theorem d5_28 : decode jdk_52_method_21_code 28 = .ok (.iload 6, 2) := by decide +kernel
theorem d5_30 : decode jdk_52_method_21_code 30 = .ok (.i2b, 1) := by decide +kernel
theorem d5_31 : decode jdk_52_method_21_code 31 = .ok (.bastore, 1) := by decide +kernel
theorem d5_32 : decode jdk_52_method_21_code 32 = .ok (.iinc 1 1, 3) := by decide +kernel
theorem d5_35 : decode jdk_52_method_21_code 35 = .ok (.iinc 3 1, 3) := by decide +kernel
theorem d5_38 : decode jdk_52_method_21_code 38 = .ok (.iinc 5 1, 3) := by decide +kernel
theorem d5_41 : decode jdk_52_method_21_code 41 = .ok (.goto (-38), 3) := by decide +kernel
theorem d5_44 : decode jdk_52_method_21_code 44 = .ok (.iload 4, 2) := by decide +kernel
theorem d5_46 : decode jdk_52_method_21_code 46 = .ok (.ireturn, 1) := by decide +kernel
theorem d6_0 : decode jdk_52_method_15_code 0 = .ok (.iload_n 1, 1) := by decide +kernel
theorem d6_1 : decode jdk_52_method_15_code 1 = .ok (.aload_n 0, 1) := by decide +kernel
theorem d6_2 : decode jdk_52_method_15_code 2 = .ok (.arraylength, 1) := by decide +kernel
theorem d6_3 : decode jdk_52_method_15_code 3 = .ok (.isub, 1) := by decide +kernel
theorem d6_4 : decode jdk_52_method_15_code 4 = .ok (.bipush 31, 2) := by decide +kernel
theorem d6_6 : decode jdk_52_method_15_code 6 = .ok (.iushr, 1) := by decide +kernel
theorem d6_7 : decode jdk_52_method_15_code 7 = .ok (.i2b, 1) := by decide +kernel
theorem d6_8 : decode jdk_52_method_15_code 8 = .ok (.ireturn, 1) := by decide +kernel
theorem d7_0 : decode prog_35_method_1_code 0 = .ok (.aload_n 0, 1) := by decide +kernel
theorem d7_1 : decode prog_35_method_1_code 1 = .ok (.invokespecial 1, 3) := by decide +kernel
theorem d7_4 : decode prog_35_method_1_code 4 = .ok (.aload_n 0, 1) := by decide +kernel
theorem d7_5 : decode prog_35_method_1_code 5 = .ok (.bipush 16, 2) := by decide +kernel
theorem d7_7 : decode prog_35_method_1_code 7 = .ok (.anewarray 7, 3) := by decide +kernel
theorem d7_10 : decode prog_35_method_1_code 10 = .ok (.putfield 9, 3) := by decide +kernel
theorem d7_13 : decode prog_35_method_1_code 13 = .ok (.return_, 1) := by decide +kernel
theorem d8_0 : decode prog_35_method_12_code 0 = .ok (.aload_n 0, 1) := by decide +kernel
theorem d8_1 : decode prog_35_method_12_code 1 = .ok (.getfield 15, 3) := by decide +kernel
theorem d8_4 : decode prog_35_method_12_code 4 = .ok (.aload_n 0, 1) := by decide +kernel
theorem d8_5 : decode prog_35_method_12_code 5 = .ok (.getfield 9, 3) := by decide +kernel
theorem d8_8 : decode prog_35_method_12_code 8 = .ok (.arraylength, 1) := by decide +kernel
theorem d8_9 : decode prog_35_method_12_code 9 = .ok (.if_icmp .ne 23, 3) := by decide +kernel
theorem d8_32 : decode prog_35_method_12_code 32 = .ok (.aload_n 0, 1) := by decide +kernel
theorem d8_33 : decode prog_35_method_12_code 33 = .ok (.getfield 9, 3) := by decide +kernel
theorem d8_36 : decode prog_35_method_12_code 36 = .ok (.aload_n 0, 1) := by decide +kernel
theorem d8_37 : decode prog_35_method_12_code 37 = .ok (.dup, 1) := by decide +kernel
theorem d8_38 : decode prog_35_method_12_code 38 = .ok (.getfield 15, 3) := by decide +kernel
theorem d8_41 : decode prog_35_method_12_code 41 = .ok (.dup_x1, 1) := by decide +kernel
theorem d8_42 : decode prog_35_method_12_code 42 = .ok (.iconst 1, 1) := by decide +kernel
theorem d8_43 : decode prog_35_method_12_code 43 = .ok (.iadd, 1) := by decide +kernel
theorem d8_44 : decode prog_35_method_12_code 44 = .ok (.putfield 15, 3) := by decide +kernel
theorem d8_47 : decode prog_35_method_12_code 47 = .ok (.aload_n 1, 1) := by decide +kernel
theorem d8_48 : decode prog_35_method_12_code 48 = .ok (.aastore, 1) := by decide +kernel
theorem d8_49 : decode prog_35_method_12_code 49 = .ok (.aload_n 0, 1) := by decide +kernel
theorem d8_50 : decode prog_35_method_12_code 50 = .ok (.invokevirtual 62, 3) := by decide +kernel
theorem d8_53 : decode prog_35_method_12_code 53 = .ok (.ifCond .eq 26, 3) := by decide +kernel
theorem d8_79 : decode prog_35_method_12_code 79 = .ok (.aload_n 0, 1) := by decide +kernel
theorem d8_80 : decode prog_35_method_12_code 80 = .ok (.invokevirtual 72, 3) := by decide +kernel
theorem d8_83 : decode prog_35_method_12_code 83 = .ok (.ifCond .eq 18, 3) := by decide +kernel
theorem d8_101 : decode prog_35_method_12_code 101 = .ok (.return_, 1) := by decide +kernel
theorem d9_0 : decode prog_35_method_10_code 0 = .ok (.aload_n 0, 1) := by decide +kernel
theorem d9_1 : decode prog_35_method_10_code 1 = .ok (.getfield 15, 3) := by decide +kernel
theorem d9_4 : decode prog_35_method_10_code 4 = .ok (.iconst 3, 1) := by decide +kernel
theorem d9_5 : decode prog_35_method_10_code 5 = .ok (.if_icmp .ne 33, 3) := by decide +kernel
theorem d9_8 : decode prog_35_method_10_code 8 = .ok (.aload_n 0, 1) := by decide +kernel
theorem d9_9 : decode prog_35_method_10_code 9 = .ok (.iconst 3, 1) := by decide +kernel
theorem d9_10 : decode prog_35_method_10_code 10 = .ok (.anewarray 7, 3) := by decide +kernel
theorem d9_13 : decode prog_35_method_10_code 13 = .ok (.dup, 1) := by decide +kernel
theorem d9_14 : decode prog_35_method_10_code 14 = .ok (.iconst 0, 1) := by decide +kernel
theorem d9_15 : decode prog_35_method_10_code 15 = .ok (.ldc 41, 2) := by decide +kernel
theorem d9_17 : decode prog_35_method_10_code 17 = .ok (.aastore, 1) := by decide +kernel
theorem d9_18 : decode prog_35_method_10_code 18 = .ok (.dup, 1) := by decide +kernel
theorem d9_19 : decode prog_35_method_10_code 19 = .ok (.iconst 1, 1) := by decide +kernel
theorem d9_20 : decode prog_35_method_10_code 20 = .ok (.ldc 43, 2) := by decide +kernel
theorem d9_22 : decode prog_35_method_10_code 22 = .ok (.aastore, 1) := by decide +kernel
theorem d9_23 : decode prog_35_method_10_code 23 = .ok (.dup, 1) := by decide +kernel
theorem d9_24 : decode prog_35_method_10_code 24 = .ok (.iconst 2, 1) := by decide +kernel
theorem d9_25 : decode prog_35_method_10_code 25 = .ok (.ldc 51, 2) := by decide +kernel
theorem d9_27 : decode prog_35_method_10_code 27 = .ok (.aastore, 1) := by decide +kernel
theorem d9_28 : decode prog_35_method_10_code 28 = .ok (.invokevirtual 47, 3) := by decide +kernel
theorem d9_31 : decode prog_35_method_10_code 31 = .ok (.ifCond .eq 7, 3) := by decide +kernel
theorem d9_38 : decode prog_35_method_10_code 38 = .ok (.iconst 0, 1) := by decide +kernel
theorem d9_39 : decode prog_35_method_10_code 39 = .ok (.ireturn, 1) := by decide +kernel
theorem d10_0 : decode prog_35_method_11_code 0 = .ok (.aload_n 0, 1) := by decide +kernel
theorem d10_1 : decode prog_35_method_11_code 1 = .ok (.getfield 15, 3) := by decide +kernel
theorem d10_4 : decode prog_35_method_11_code 4 = .ok (.iconst 4, 1) := by decide +kernel
theorem d10_5 : decode prog_35_method_11_code 5 = .ok (.if_icmp .ne 30, 3) := by decide +kernel
theorem d10_8 : decode prog_35_method_11_code 8 = .ok (.aload_n 0, 1) := by decide +kernel
theorem d10_9 : decode prog_35_method_11_code 9 = .ok (.getfield 35, 3) := by decide +kernel
theorem d10_12 : decode prog_35_method_11_code 12 = .ok (.ifCond .eq 23, 3) := by decide +kernel
theorem d10_35 : decode prog_35_method_11_code 35 = .ok (.iconst 0, 1) := by decide +kernel
theorem d10_36 : decode prog_35_method_11_code 36 = .ok (.ireturn, 1) := by decide +kernel
theorem d11_0 : decode prog_35_method_13_code 0 = .ok (.aload_n 0, 1) := by decide +kernel
theorem d11_1 : decode prog_35_method_13_code 1 = .ok (.invokevirtual 62, 3) := by decide +kernel
theorem d11_4 : decode prog_35_method_13_code 4 = .ok (.ifCond .eq 11, 3) := by decide +kernel
theorem d11_15 : decode prog_35_method_13_code 15 = .ok (.aload_n 0, 1) := by decide +kernel
theorem d11_16 : decode prog_35_method_13_code 16 = .ok (.invokevirtual 72, 3) := by decide +kernel
theorem d11_19 : decode prog_35_method_13_code 19 = .ok (.ifCond .eq 8, 3) := by decide +kernel
theorem d11_27 : decode prog_35_method_13_code 27 = .ok (.aload_n 0, 1) := by decide +kernel
theorem d11_28 : decode prog_35_method_13_code 28 = .ok (.getfield 9, 3) := by decide +kernel
theorem d11_31 : decode prog_35_method_13_code 31 = .ok (.aload_n 0, 1) := by decide +kernel
theorem d11_32 : decode prog_35_method_13_code 32 = .ok (.dup, 1) := by decide +kernel
theorem d11_33 : decode prog_35_method_13_code 33 = .ok (.getfield 15, 3) := by decide +kernel
theorem d11_36 : decode prog_35_method_13_code 36 = .ok (.iconst 1, 1) := by decide +kernel
theorem d11_37 : decode prog_35_method_13_code 37 = .ok (.isub, 1) := by decide +kernel
theorem d11_38 : decode prog_35_method_13_code 38 = .ok (.dup_x1, 1) := by decide +kernel
theorem d11_39 : decode prog_35_method_13_code 39 = .ok (.putfield 15, 3) := by decide +kernel
theorem d11_42 : decode prog_35_method_13_code 42 = .ok (.aconst_null, 1) := by decide +kernel
theorem d11_43 : decode prog_35_method_13_code 43 = .ok (.aastore, 1) := by decide +kernel
theorem d11_44 : decode prog_35_method_13_code 44 = .ok (.return_, 1) := by decide +kernel
theorem d12_0 : decode prog_35_method_3_code 0 = .ok (.iload_n 1, 1) := by decide +kernel
theorem d12_1 : decode prog_35_method_3_code 1 = .ok (.aload_n 0, 1) := by decide +kernel
theorem d12_2 : decode prog_35_method_3_code 2 = .ok (.getfield 15, 3) := by decide +kernel
theorem d12_5 : decode prog_35_method_3_code 5 = .ok (.if_icmp .ge 19, 3) := by decide +kernel
theorem d12_8 : decode prog_35_method_3_code 8 = .ok (.aload_n 0, 1) := by decide +kernel
theorem d12_9 : decode prog_35_method_3_code 9 = .ok (.getfield 9, 3) := by decide +kernel
theorem d12_12 : decode prog_35_method_3_code 12 = .ok (.aload_n 0, 1) := by decide +kernel
theorem d12_13 : decode prog_35_method_3_code 13 = .ok (.getfield 15, 3) := by decide +kernel
theorem d12_16 : decode prog_35_method_3_code 16 = .ok (.iconst 1, 1) := by decide +kernel
theorem d12_17 : decode prog_35_method_3_code 17 = .ok (.isub, 1) := by decide +kernel
theorem d12_18 : decode prog_35_method_3_code 18 = .ok (.iload_n 1, 1) := by decide +kernel
theorem d12_19 : decode prog_35_method_3_code 19 = .ok (.isub, 1) := by decide +kernel
theorem d12_20 : decode prog_35_method_3_code 20 = .ok (.aaload, 1) := by decide +kernel
theorem d12_21 : decode prog_35_method_3_code 21 = .ok (.goto 4, 3) := by decide +kernel
theorem d12_24 : decode prog_35_method_3_code 24 = .ok (.aconst_null, 1) := by decide +kernel
theorem d12_25 : decode prog_35_method_3_code 25 = .ok (.areturn, 1) := by decide +kernel
theorem d13_0 : decode method_3_code 0 = .ok (.iload_n 0, 1) := by decide +kernel
theorem d13_1 : decode method_3_code 1 = .ok (.ifCond .ne 5, 3) := by decide +kernel
theorem d13_4 : decode method_3_code 4 = .ok (.aconst_null, 1) := by decide +kernel
theorem d13_5 : decode method_3_code 5 = .ok (.areturn, 1) := by decide +kernel
theorem d13_6 : decode method_3_code 6 = .ok (.iload_n 0, 1) := by decide +kernel
theorem d13_7 : decode method_3_code 7 = .ok (.iconst 1, 1) := by decide +kernel
theorem d13_8 : decode method_3_code 8 = .ok (.if_icmp .ne 13, 3) := by decide +kernel
theorem d13_11 : decode method_3_code 11 = .ok (.iload_n 1, 1) := by decide +kernel
theorem d13_12 : decode method_3_code 12 = .ok (.ifCond .ne 7, 3) := by decide +kernel
theorem d13_15 : decode method_3_code 15 = .ok (.aload_n 2, 1) := by decide +kernel
theorem d13_16 : decode method_3_code 16 = .ok (.goto 4, 3) := by decide +kernel
theorem d13_19 : decode method_3_code 19 = .ok (.aconst_null, 1) := by decide +kernel
theorem d13_20 : decode method_3_code 20 = .ok (.areturn, 1) := by decide +kernel
theorem d13_21 : decode method_3_code 21 = .ok (.iload_n 0, 1) := by decide +kernel
theorem d13_22 : decode method_3_code 22 = .ok (.iconst 2, 1) := by decide +kernel
theorem d13_23 : decode method_3_code 23 = .ok (.if_icmp .ne 18, 3) := by decide +kernel
theorem d13_26 : decode method_3_code 26 = .ok (.iload_n 1, 1) := by decide +kernel
theorem d13_27 : decode method_3_code 27 = .ok (.ifCond .ne 5, 3) := by decide +kernel
theorem d13_30 : decode method_3_code 30 = .ok (.aload_n 3, 1) := by decide +kernel
theorem d13_31 : decode method_3_code 31 = .ok (.areturn, 1) := by decide +kernel
theorem d13_32 : decode method_3_code 32 = .ok (.iload_n 1, 1) := by decide +kernel
theorem d13_33 : decode method_3_code 33 = .ok (.iconst 1, 1) := by decide +kernel
theorem d13_34 : decode method_3_code 34 = .ok (.if_icmp .ne 5, 3) := by decide +kernel
theorem d13_37 : decode method_3_code 37 = .ok (.aload_n 2, 1) := by decide +kernel
theorem d13_38 : decode method_3_code 38 = .ok (.areturn, 1) := by decide +kernel
theorem d13_39 : decode method_3_code 39 = .ok (.aconst_null, 1) := by decide +kernel
theorem d13_40 : decode method_3_code 40 = .ok (.areturn, 1) := by decide +kernel
theorem d13_41 : decode method_3_code 41 = .ok (.iload_n 1, 1) := by decide +kernel
theorem d13_42 : decode method_3_code 42 = .ok (.ifCond .ne 6, 3) := by decide +kernel
theorem d13_45 : decode method_3_code 45 = .ok (.aload 4, 2) := by decide +kernel
theorem d13_47 : decode method_3_code 47 = .ok (.areturn, 1) := by decide +kernel
theorem d13_48 : decode method_3_code 48 = .ok (.iload_n 1, 1) := by decide +kernel
theorem d13_49 : decode method_3_code 49 = .ok (.iconst 1, 1) := by decide +kernel
theorem d13_50 : decode method_3_code 50 = .ok (.if_icmp .ne 5, 3) := by decide +kernel
theorem d13_53 : decode method_3_code 53 = .ok (.aload_n 3, 1) := by decide +kernel
theorem d13_54 : decode method_3_code 54 = .ok (.areturn, 1) := by decide +kernel
theorem d13_55 : decode method_3_code 55 = .ok (.iload_n 1, 1) := by decide +kernel
theorem d13_56 : decode method_3_code 56 = .ok (.iconst 2, 1) := by decide +kernel
theorem d13_57 : decode method_3_code 57 = .ok (.if_icmp .ne 5, 3) := by decide +kernel
theorem d13_60 : decode method_3_code 60 = .ok (.aload_n 2, 1) := by decide +kernel
theorem d13_61 : decode method_3_code 61 = .ok (.areturn, 1) := by decide +kernel
theorem d13_62 : decode method_3_code 62 = .ok (.aconst_null, 1) := by decide +kernel
theorem d13_63 : decode method_3_code 63 = .ok (.areturn, 1) := by decide +kernel
theorem d14_0 : decode prog_35_method_6_code 0 = .ok (.aload_n 1, 1) := by decide +kernel
theorem d14_1 : decode prog_35_method_6_code 1 = .ok (.arraylength, 1) := by decide +kernel
theorem d14_2 : decode prog_35_method_6_code 2 = .ok (.aload_n 0, 1) := by decide +kernel
theorem d14_3 : decode prog_35_method_6_code 3 = .ok (.getfield 15, 3) := by decide +kernel
theorem d14_6 : decode prog_35_method_6_code 6 = .ok (.if_icmp .le 5, 3) := by decide +kernel
theorem d14_11 : decode prog_35_method_6_code 11 = .ok (.iconst 0, 1) := by decide +kernel
theorem d14_12 : decode prog_35_method_6_code 12 = .ok (.istore_n 2, 1) := by decide +kernel
theorem d14_13 : decode prog_35_method_6_code 13 = .ok (.iload_n 2, 1) := by decide +kernel
theorem d14_14 : decode prog_35_method_6_code 14 = .ok (.aload_n 1, 1) := by decide +kernel
theorem d14_15 : decode prog_35_method_6_code 15 = .ok (.arraylength, 1) := by decide +kernel
theorem d14_16 : decode prog_35_method_6_code 16 = .ok (.if_icmp .ge 38, 3) := by decide +kernel
theorem d14_19 : decode prog_35_method_6_code 19 = .ok (.aload_n 1, 1) := by decide +kernel
theorem d14_20 : decode prog_35_method_6_code 20 = .ok (.aload_n 1, 1) := by decide +kernel
theorem d14_21 : decode prog_35_method_6_code 21 = .ok (.arraylength, 1) := by decide +kernel
theorem d14_22 : decode prog_35_method_6_code 22 = .ok (.iconst 1, 1) := by decide +kernel
theorem d14_23 : decode prog_35_method_6_code 23 = .ok (.isub, 1) := by decide +kernel
theorem d14_24 : decode prog_35_method_6_code 24 = .ok (.iload_n 2, 1) := by decide +kernel
theorem d14_25 : decode prog_35_method_6_code 25 = .ok (.isub, 1) := by decide +kernel
theorem d14_26 : decode prog_35_method_6_code 26 = .ok (.aaload, 1) := by decide +kernel
theorem d14_27 : decode prog_35_method_6_code 27 = .ok (.aload_n 0, 1) := by decide +kernel
theorem d14_28 : decode prog_35_method_6_code 28 = .ok (.getfield 9, 3) := by decide +kernel
theorem d14_31 : decode prog_35_method_6_code 31 = .ok (.aload_n 0, 1) := by decide +kernel
theorem d14_32 : decode prog_35_method_6_code 32 = .ok (.getfield 15, 3) := by decide +kernel
theorem d14_35 : decode prog_35_method_6_code 35 = .ok (.iconst 1, 1) := by decide +kernel
theorem d14_36 : decode prog_35_method_6_code 36 = .ok (.isub, 1) := by decide +kernel
theorem d14_37 : decode prog_35_method_6_code 37 = .ok (.iload_n 2, 1) := by decide +kernel
theorem d14_38 : decode prog_35_method_6_code 38 = .ok (.isub, 1) := by decide +kernel
theorem d14_39 : decode prog_35_method_6_code 39 = .ok (.aaload, 1) := by decide +kernel
theorem d14_40 : decode prog_35_method_6_code 40 = .ok (.invokevirtual 31, 3) := by decide +kernel
theorem d14_43 : decode prog_35_method_6_code 43 = .ok (.ifCond .ne 5, 3) := by decide +kernel
theorem d14_46 : decode prog_35_method_6_code 46 = .ok (.iconst 0, 1) := by decide +kernel
theorem d14_47 : decode prog_35_method_6_code 47 = .ok (.ireturn, 1) := by decide +kernel
theorem d15_0 : decode jdk_42_method_66_code 0 = .ok (.aload_n 0, 1) := by decide +kernel
theorem d15_1 : decode jdk_42_method_66_code 1 = .ok (.aload_n 1, 1) := by decide +kernel
theorem d15_2 : decode jdk_42_method_66_code 2 = .ok (.if_acmp .ne 5, 3) := by decide +kernel
theorem d15_5 : decode jdk_42_method_66_code 5 = .ok (.iconst 1, 1) := by decide +kernel
theorem d15_6 : decode jdk_42_method_66_code 6 = .ok (.ireturn, 1) := by decide +kernel
theorem d15_7 : decode jdk_42_method_66_code 7 = .ok (.aload_n 1, 1) := by decide +kernel
theorem d15_8 : decode jdk_42_method_66_code 8 = .ok (.instanceof 10, 3) := by decide +kernel
theorem d15_11 : decode jdk_42_method_66_code 11 = .ok (.ifCond .eq 43, 3) := by decide +kernel
theorem d15_14 : decode jdk_42_method_66_code 14 = .ok (.aload_n 1, 1) := by decide +kernel
theorem d15_15 : decode jdk_42_method_66_code 15 = .ok (.checkcast 10, 3) := by decide +kernel
theorem d15_18 : decode jdk_42_method_66_code 18 = .ok (.astore_n 2, 1) := by decide +kernel
theorem d15_19 : decode jdk_42_method_66_code 19 = .ok (.getstatic 38, 3) := by decide +kernel
theorem d15_22 : decode jdk_42_method_66_code 22 = .ok (.ifCond .eq 14, 3) := by decide +kernel
theorem d15_25 : decode jdk_42_method_66_code 25 = .ok (.aload_n 0, 1) := by decide +kernel
theorem d15_26 : decode jdk_42_method_66_code 26 = .ok (.getfield 15, 3) := by decide +kernel
theorem d15_29 : decode jdk_42_method_66_code 29 = .ok (.aload_n 2, 1) := by decide +kernel
theorem d15_30 : decode jdk_42_method_66_code 30 = .ok (.getfield 15, 3) := by decide +kernel
theorem d15_33 : decode jdk_42_method_66_code 33 = .ok (.if_icmp .ne 21, 3) := by decide +kernel
theorem d15_36 : decode jdk_42_method_66_code 36 = .ok (.aload_n 0, 1) := by decide +kernel
theorem d15_37 : decode jdk_42_method_66_code 37 = .ok (.getfield 9, 3) := by decide +kernel
theorem d15_40 : decode jdk_42_method_66_code 40 = .ok (.aload_n 2, 1) := by decide +kernel
theorem d15_41 : decode jdk_42_method_66_code 41 = .ok (.getfield 9, 3) := by decide +kernel
theorem d15_44 : decode jdk_42_method_66_code 44 = .ok (.invokestatic 541, 3) := by decide +kernel
theorem d15_47 : decode jdk_42_method_66_code 47 = .ok (.ifCond .eq 7, 3) := by decide +kernel
theorem d15_50 : decode jdk_42_method_66_code 50 = .ok (.iconst 1, 1) := by decide +kernel
theorem d15_51 : decode jdk_42_method_66_code 51 = .ok (.goto 4, 3) := by decide +kernel
theorem d15_54 : decode jdk_42_method_66_code 54 = .ok (.iconst 0, 1) := by decide +kernel
theorem d15_55 : decode jdk_42_method_66_code 55 = .ok (.ireturn, 1) := by decide +kernel
theorem d16_0 : decode jdk_43_method_13_code 0 = .ok (.aload_n 0, 1) := by decide +kernel
theorem d16_1 : decode jdk_43_method_13_code 1 = .ok (.arraylength, 1) := by decide +kernel
theorem d16_2 : decode jdk_43_method_13_code 2 = .ok (.aload_n 1, 1) := by decide +kernel
theorem d16_3 : decode jdk_43_method_13_code 3 = .ok (.arraylength, 1) := by decide +kernel
theorem d16_4 : decode jdk_43_method_13_code 4 = .ok (.if_icmp .ne 30, 3) := by decide +kernel
theorem d16_7 : decode jdk_43_method_13_code 7 = .ok (.iconst 0, 1) := by decide +kernel
theorem d16_8 : decode jdk_43_method_13_code 8 = .ok (.istore_n 2, 1) := by decide +kernel
theorem d16_9 : decode jdk_43_method_13_code 9 = .ok (.iload_n 2, 1) := by decide +kernel
theorem d16_10 : decode jdk_43_method_13_code 10 = .ok (.aload_n 0, 1) := by decide +kernel
theorem d16_11 : decode jdk_43_method_13_code 11 = .ok (.arraylength, 1) := by decide +kernel
theorem d16_12 : decode jdk_43_method_13_code 12 = .ok (.if_icmp .ge 20, 3) := by decide +kernel
theorem d16_15 : decode jdk_43_method_13_code 15 = .ok (.aload_n 0, 1) := by decide +kernel
theorem d16_16 : decode jdk_43_method_13_code 16 = .ok (.iload_n 2, 1) := by decide +kernel
theorem d16_17 : decode jdk_43_method_13_code 17 = .ok (.baload, 1) := by decide +kernel
theorem d16_18 : decode jdk_43_method_13_code 18 = .ok (.aload_n 1, 1) := by decide +kernel
theorem d16_19 : decode jdk_43_method_13_code 19 = .ok (.iload_n 2, 1) := by decide +kernel
theorem d16_20 : decode jdk_43_method_13_code 20 = .ok (.baload, 1) := by decide +kernel
theorem d16_21 : decode jdk_43_method_13_code 21 = .ok (.if_icmp .eq 5, 3) := by decide +kernel
theorem d16_24 : decode jdk_43_method_13_code 24 = .ok (.iconst 0, 1) := by decide +kernel
theorem d16_25 : decode jdk_43_method_13_code 25 = .ok (.ireturn, 1) := by decide +kernel
theorem d16_26 : decode jdk_43_method_13_code 26 = .ok (.iinc 2 1, 3) := by decide +kernel
theorem d16_29 : decode jdk_43_method_13_code 29 = .ok (.goto (-20), 3) := by decide +kernel
theorem d16_32 : decode jdk_43_method_13_code 32 = .ok (.iconst 1, 1) := by decide +kernel
theorem d16_33 : decode jdk_43_method_13_code 33 = .ok (.ireturn, 1) := by decide +kernel
theorem d16_34 : decode jdk_43_method_13_code 34 = .ok (.iconst 0, 1) := by decide +kernel
theorem d16_35 : decode jdk_43_method_13_code 35 = .ok (.ireturn, 1) := by decide +kernel
theorem pd0 : parseMethodDescriptor "([CI[BII)I" = some ⟨[(.array .char), .int, (.array .byte), .int, .int], some .int⟩ := by decide +kernel
theorem pd1 : parseMethodDescriptor "([CII)[B" = some ⟨[(.array .char), .int, .int], some (.array .byte)⟩ := by decide +kernel
theorem pd2 : parseMethodDescriptor "([BI)B" = some ⟨[(.array .byte), .int], some .byte⟩ := by decide +kernel
theorem pd3 : parseMethodDescriptor "([CIILjava/lang/Void;)V" = some ⟨[(.array .char), .int, .int, (.object "java/lang/Void")], none⟩ := by decide +kernel
theorem pd4 : parseMethodDescriptor "([B[B)Z" = some ⟨[(.array .byte), (.array .byte)], some .boolean⟩ := by decide +kernel
theorem pd5 : parseMethodDescriptor "(Ljava/lang/Object;)Z" = some ⟨[(.object "java/lang/Object")], some .boolean⟩ := by decide +kernel
theorem pd6 : parseMethodDescriptor "([Ljava/lang/String;)Z" = some ⟨[(.array (.object "java/lang/String"))], some .boolean⟩ := by decide +kernel
theorem pd7 : parseMethodDescriptor "()Z" = some ⟨[], some .boolean⟩ := by decide +kernel
theorem pd8 : parseMethodDescriptor "([C)V" = some ⟨[(.array .char)], none⟩ := by decide +kernel
theorem pd9 : parseMethodDescriptor "()V" = some ⟨[], none⟩ := by decide +kernel
theorem pd10 : parseMethodDescriptor "(I)Ljava/lang/String;" = some ⟨[.int], some (.object "java/lang/String")⟩ := by decide +kernel
theorem pd11 : parseMethodDescriptor "(IILjava/lang/String;Ljava/lang/String;Ljava/lang/String;)Ljava/lang/String;" = some ⟨[.int, .int, (.object "java/lang/String"), (.object "java/lang/String"), (.object "java/lang/String")], some (.object "java/lang/String")⟩ := by decide +kernel
theorem pd12 : parseMethodDescriptor "(Ljava/lang/String;)V" = some ⟨[(.object "java/lang/String")], none⟩ := by decide +kernel
abbrev o_String (a : Addr) (v0 v1 : Value) : Ent := (a, .inl ("java/lang/String", [("java/lang/String", "coder", "B", v0), ("java/lang/String", "value", "[B", v1)]))
theorem Ly_o_String {g : GG} (W : GW g) : Lays g.Z g.a0 "java/lang/String" [("java/lang/String", "coder", "B", (.int (0 : Int32))), ("java/lang/String", "value", "[B", .null)] := by
  refine ⟨by decide, fun f hf => ?_⟩
  simp only [List.mem_cons, List.not_mem_nil, or_false] at hf
  rcases hf with rfl | rfl
  · exact ⟨Or.inr (W27 W), .byte, by decide⟩
  · exact ⟨Or.inr (W29 W), (.array .byte), by decide⟩
abbrev o_Pain001Reader_Element (a : Addr) (v0 v1 v2 v3 v4 v5 : Value) : Ent := (a, .inl ("com/example/polecenie/polecenie/core/Pain001Reader$Element", [("com/example/polecenie/polecenie/core/Pain001Reader$Element", "names", "[Ljava/lang/String;", v0), ("com/example/polecenie/polecenie/core/Pain001Reader$Element", "depth", "I", v1), ("com/example/polecenie/polecenie/core/Pain001Reader$Element", "block", "I", v2), ("com/example/polecenie/polecenie/core/Pain001Reader$Element", "blocks", "I", v3), ("com/example/polecenie/polecenie/core/Pain001Reader$Element", "transactions", "I", v4), ("com/example/polecenie/polecenie/core/Pain001Reader$Element", "transaction", "I", v5)]))
theorem Ly_o_Pain001Reader_Element {g : GG} (W : GW g) : Lays g.Z g.a0 "com/example/polecenie/polecenie/core/Pain001Reader$Element" [("com/example/polecenie/polecenie/core/Pain001Reader$Element", "names", "[Ljava/lang/String;", .null), ("com/example/polecenie/polecenie/core/Pain001Reader$Element", "depth", "I", (.int (0 : Int32))), ("com/example/polecenie/polecenie/core/Pain001Reader$Element", "block", "I", (.int (0 : Int32))), ("com/example/polecenie/polecenie/core/Pain001Reader$Element", "blocks", "I", (.int (0 : Int32))), ("com/example/polecenie/polecenie/core/Pain001Reader$Element", "transactions", "I", (.int (0 : Int32))), ("com/example/polecenie/polecenie/core/Pain001Reader$Element", "transaction", "I", (.int (0 : Int32)))] := by
  refine ⟨by decide, fun f hf => ?_⟩
  simp only [List.mem_cons, List.not_mem_nil, or_false] at hf
  rcases hf with rfl | rfl | rfl | rfl | rfl | rfl
  · exact ⟨Or.inl (W40 W), (.array (.object "java/lang/String")), by decide⟩
  · exact ⟨Or.inl (W47 W), .int, by decide⟩
  · exact ⟨Or.inl (W94 W), .int, by decide⟩
  · exact ⟨Or.inl (W96 W), .int, by decide⟩
  · exact ⟨Or.inl (W98 W), .int, by decide⟩
  · exact ⟨Or.inl (W100 W), .int, by decide⟩
theorem strW {g : GG} (W : GW g) : ∀ a ∈ Bundle.stringAtoms, a.before g.a0 g.Z = true := by
  intro a ha
  simp only [Bundle.stringAtoms, List.mem_cons, List.not_mem_nil, or_false] at ha
  rcases ha with rfl | rfl | rfl | rfl | rfl | rfl | rfl
  · exact W2 W
  · exact W1 W
  · exact W19 W
  · exact W29 W
  · exact W27 W
  · exact W74 W
  · exact W75 W
theorem inEL {g : GG} (W : GW g) {p : String × Nat} (h : p ∈ consts_1) : p ∈ g.EL := by
  show p ∈ g.2.2.2
  rw [W.2.2.2.2]
  exact h
/-! String's making: plain facts -/
abbrev bV (x : Int32) : Value := .int x.toInt8.toInt32
def bpre (cs : List Int32) (i : Nat) : List Value := (cs.take i).map bV ++ List.replicate (cs.length - i) (.int 0)
theorem ch_ch (x : Int32) : nar .char x.toUInt32.toUInt16.toUInt32.toInt32 = x.toUInt32.toUInt16.toUInt32.toInt32 := by simp only [nar, UInt32.toUInt32_toInt32, UInt16.toUInt16_toUInt32]
theorem by_by (x : Int32) : nar .byte x.toInt8.toInt32 = x.toInt8.toInt32 := by simp [nar]
theorem bpre0 (cs : List Int32) : bpre cs 0 = List.replicate cs.length (.int 0) := by simp [bpre]
theorem bpreN (cs : List Int32) : bpre cs cs.length = cs.map bV := by simp [bpre]
theorem bpre_len {cs : List Int32} {i : Nat} (h : i ≤ cs.length) : (bpre cs i).length = cs.length := by simp [bpre]; omega
theorem bpre_set {cs : List Int32} {i : Nat} {x : Int32} (h : cs[i]? = some x) : (bpre cs i).set i (bV x) = bpre cs (i + 1) := by
  obtain ⟨hl, rfl⟩ := List.getElem?_eq_some_iff.mp h
  have e : cs.length - i = (cs.length - (i + 1)) + 1 := by omega
  have ht : ((cs.take i).map bV).length = i := by simp; omega
  unfold bpre
  rw [e, List.replicate_succ, List.set_append_right _ _ (by omega), ht, Nat.sub_self, List.set_cons_zero, List.take_succ_eq_append_getElem hl, List.map_append, List.append_assoc]
  rfl
theorem n31 {n : Nat} (h : n < 2147483648) : ¬ Int32.ofNat n < 0 := Int32.ofNat_not_neg (by omega)
theorem n31c {n : Nat} (h : n < 2147483648) : (Int32.ofNat n).toNatClampNeg = n := Jvm.Free.XT.n32 (by omega)
theorem ltN {i n : Nat} (h : i < n) (hn : n < 2147483648) : Int32.ofNat i < Int32.ofNat n := by
  rw [Int32.lt_iff_toInt_lt, Int32.toInt_ofNat_small (by omega), Int32.toInt_ofNat_small (by omega)]; omega
theorem neN {n : Nat} (h : 0 < n) (hn : n < 2147483648) : ¬ Int32.ofNat n = 0 := fun e => by
  have := congrArg Int32.toInt e
  rw [Int32.toInt_ofNat_small (by omega)] at this
  have h0 : (0 : Int32).toInt = 0 := rfl
  omega
theorem injN {n k : Nat} (hn : n < 2147483648) (hk : k < 2147483648) (e : Int32.ofNat n = Int32.ofNat k) : n = k := by
  have := congrArg Int32.toInt e
  rw [Int32.toInt_ofNat_small (by omega), Int32.toInt_ofNat_small (by omega)] at this
  omega
theorem sucN (i : Nat) : Int32.ofNat i + (1 : Int32) = Int32.ofNat (i + 1) := by simp
theorem cdr0 (x : Int32) : (((x - x).toUInt32 >>> ((31 : Int32) &&& 31).toUInt32).toInt32).toInt8.toInt32 = 0 := by
  rw [Int32.sub_self]; decide

theorem le255 (x : Int32) : ¬ (255 : Int32) < (x &&& (255 : Int32)).toUInt32.toUInt16.toUInt32.toInt32 := by
  rw [i2c_mask]
  have h := c_mask x 255 8 (by decide) rfl
  rw [Int32.lt_iff_toInt_lt, h, show (255 : Int32).toInt = 255 from rfl]
  simp only [Nat.reducePow, Int.cast_ofNat_Int]
  omega

theorem compact {g : GG} (W : GW g) : ∃ z : Int32, Sta g.Z g.Z.heap "java/lang/String" "COMPACT_STRINGS" "Z" (.int z) ∧ ¬ z = 0 := by
  obtain ⟨z, e⟩ := is_v (Cond.before_iff.mp (W.2.2.1 _ (List.mem_of_getElem? (i := 1) rfl)))
  refine ⟨z, Sta.start e (Or.inl (W.2.2.1 _ (List.mem_of_getElem? (i := 0) rfl))), fun q => ?_⟩
  have n := not_v (Cond.before_iff.mp (W.2.2.1 _ (List.mem_of_getElem? (i := 2) rfl)))
  rw [eq_i e (Term.int_eval 0) (by rw [q])] at n
  cases n

theorem ef_c5 (c d : Addr) (n : Nat) (m : MethodId) : entryFrame m #[(.ref c), (.int (0 : Int32)), (.ref d), (.int (0 : Int32)), (.int (Int32.ofNat n))] 7 = mkF m 0 #[.val (.ref c), .val (.int (0 : Int32)), .val (.ref d), .val (.int (0 : Int32)), .val (.int (Int32.ofNat n)), .unset, .unset] [] := by first | (simp [entryFrame, mkF, argsToLocals, Value.category]; done) | rfl
abbrev D5 : DD := (⟨"java/lang/StringUTF16", "compress", "([CI[BII)I"⟩, jdk_52_method_21_code, 7, (some .int), { frames := 0, cells := 0, slots := 0, locals := 0 })
theorem lp_c5 {g : GG} (W : GW g) (c : Addr) (nm : String) (cs : List Int32) (hcs : ∀ x ∈ cs, ¬ (255 : Int32) < x) (hn : cs.length ≤ 8) {H0 : List Ent} {Lt : List SE} {M : MM} {d : Addr} : ∀ (k i : Nat), i + k = cs.length → ∀ (o : Slot), (o = .unset ∨ ∃ w, o = .val w ∧ w.category = 1) → ∀ {T : State}, RH g D5 M T ((d, .inr (.byte, "[B", bpre cs i)) :: (c, .inr (.char, nm, cs.map Value.int)) :: H0) Lt 0 0 →
    Fn g D5 M (fun v vm h => v = some (.int (Int32.ofNat cs.length)) ∧ Hp g vm h ((d, .inr (.byte, "[B", cs.map bV)) :: (c, .inr (.char, nm, cs.map Value.int)) :: H0) Lt) (T.setTop (mkF M.m 3 #[.val (.ref c), .val (.int (Int32.ofNat i)), .val (.ref d), .val (.int (Int32.ofNat i)), .val (.int (Int32.ofNat cs.length)), .val (.int (Int32.ofNat i)), o] [])) := by
  intro k
  induction k with
  | zero =>
    intro i hi o ho T B
    have hi' : i = cs.length := by omega
    refine p_iload B d5_3 (pc' := 5) rfl rfl ?_
    refine p_iload B d5_5 (pc' := 7) rfl rfl ?_
    refine b_icT B d5_7 (pc' := 44) (by subst hi'; exact Int32.lt_irrefl) (by decide) (by decide) ?_
    refine p_iload B d5_44 (pc' := 46) rfl rfl ?_
    exact r_reti B d5_46 rfl (by simp) rfl (by decide) (by decide) (fun vm h P => ⟨rfl, by subst hi'; rw [← bpreN cs]; exact P⟩)
  | succ k ih =>
    intro i hi o ho T B
    have hlt : i < cs.length := by omega
    obtain ⟨x, hx⟩ : ∃ x, cs[i]? = some x := ⟨_, List.getElem?_eq_getElem hlt⟩
    have hx2 : (cs.map Value.int)[i]? = some (.int x) := by rw [List.getElem?_map, hx]; rfl
    refine p_iload B d5_3 (pc' := 5) rfl rfl ?_
    refine p_iload B d5_5 (pc' := 7) rfl rfl ?_
    refine b_icF B d5_7 (pc' := 10) rfl (ltN hlt (by omega)) ?_
    refine p_aloadN B d5_10 (pc' := 11) rfl rfl rfl ?_
    refine p_iloadN B d5_11 (pc' := 12) rfl rfl ?_
    refine r_aget B d5_12 rfl (pc' := 13) rfl (aH (i := 1) rfl) (k := i) rfl hx2 ?_
    refine p_istore B d5_13 (pc' := 15) rfl (Ls' := #[.val (.ref c), .val (.int (Int32.ofNat i)), .val (.ref d), .val (.int (Int32.ofNat i)), .val (.int (Int32.ofNat cs.length)), .val (.int (Int32.ofNat i)), .val (.int x)]) (XS.store1 (o := o) rfl ho rfl) ?_
    refine p_iload B d5_15 (pc' := 17) rfl rfl ?_
    refine p_sipush B d5_17 (pc' := 20) rfl (v := (255 : Int32)) (by decide) ?_
    refine b_icT B d5_20 (pc' := 26) (hcs x (List.mem_of_getElem? hx)) (by decide) (by decide) ?_
    refine p_aloadN B d5_26 (pc' := 27) rfl rfl rfl ?_
    refine p_iloadN B d5_27 (pc' := 28) rfl rfl ?_
    refine p_iload B d5_28 (pc' := 30) rfl rfl ?_
    refine p_i2b B d5_30 (pc' := 31) rfl ?_
    refine r_bastore B d5_31 (pc' := 32) rfl (i := 0) rfl (n31 (by omega)) (k := i) (n31c (by omega)) (by rw [bpre_len (by omega)]; exact hlt) (by_by x) (H' := ((d, .inr (.byte, "[B", bpre cs (i + 1))) :: (c, .inr (.char, nm, cs.map Value.int)) :: H0)) (by rw [List.set_cons_zero, bpre_set hx]) ?_
    intro T2 B2
    refine p_iinc B2 d5_32 (pc' := 35) rfl (v := (1 : Int32)) (by decide) rfl (z := ((Int32.ofNat i) + (1 : Int32))) rfl (Ls' := #[.val (.ref c), .val (.int ((Int32.ofNat i) + (1 : Int32))), .val (.ref d), .val (.int (Int32.ofNat i)), .val (.int (Int32.ofNat cs.length)), .val (.int (Int32.ofNat i)), .val (.int x)]) rfl ?_
    refine p_iinc B2 d5_35 (pc' := 38) rfl (v := (1 : Int32)) (by decide) rfl (z := ((Int32.ofNat i) + (1 : Int32))) rfl (Ls' := #[.val (.ref c), .val (.int ((Int32.ofNat i) + (1 : Int32))), .val (.ref d), .val (.int ((Int32.ofNat i) + (1 : Int32))), .val (.int (Int32.ofNat cs.length)), .val (.int (Int32.ofNat i)), .val (.int x)]) rfl ?_
    refine p_iinc B2 d5_38 (pc' := 41) rfl (v := (1 : Int32)) (by decide) rfl (z := ((Int32.ofNat i) + (1 : Int32))) rfl (Ls' := #[.val (.ref c), .val (.int ((Int32.ofNat i) + (1 : Int32))), .val (.ref d), .val (.int ((Int32.ofNat i) + (1 : Int32))), .val (.int (Int32.ofNat cs.length)), .val (.int ((Int32.ofNat i) + (1 : Int32))), .val (.int x)]) rfl ?_
    refine b_goto B2 d5_41 (pc' := 3) (by decide) (by decide) ?_
    rw [sucN i]
    exact ih (i + 1) (by omega) _ (Or.inr ⟨_, rfl, rfl⟩) B2
theorem k_c5 {g : GG} (W : GW g) (c : Addr) (nm : String) (cs : List Int32) (hcs : ∀ x ∈ cs, ¬ (255 : Int32) < x) (hn : cs.length ≤ 8) (d : Addr) (H0 : List Ent) (Lt : List SE) : Ct g D5 #[.ref c, .int (0 : Int32), .ref d, .int (0 : Int32), .int (Int32.ofNat cs.length)] ((d, .inr (.byte, "[B", bpre cs 0)) :: (c, .inr (.char, nm, cs.map Value.int)) :: H0) Lt (fun v vm h => v = some (.int (Int32.ofNat cs.length)) ∧ Hp g vm h ((d, .inr (.byte, "[B", cs.map bV)) :: (c, .inr (.char, nm, cs.map Value.int)) :: H0) Lt) := by
  refine CtW.body W (by decide +kernel) (ef_c5 c d cs.length) ?_
  intro M T B
  refine p_iconst B d5_0 (pc' := 1) rfl (v := (0 : Int32)) (by decide) ?_
  refine p_istore B d5_1 (pc' := 3) rfl (Ls' := #[.val (.ref c), .val (.int (0 : Int32)), .val (.ref d), .val (.int (0 : Int32)), .val (.int (Int32.ofNat cs.length)), .val (.int (0 : Int32)), .unset]) rfl ?_
  exact lp_c5 W c nm cs hcs hn cs.length 0 (by omega) _ (Or.inl rfl) B
theorem ef_cf (d : Addr) (n : Nat) (m : MethodId) : entryFrame m #[(.ref d), (.int (Int32.ofNat n))] 2 = mkF m 0 #[.val (.ref d), .val (.int (Int32.ofNat n))] [] := by first | (simp [entryFrame, mkF, argsToLocals, Value.category]; done) | rfl
abbrev D6 : DD := (⟨"java/lang/StringUTF16", "coderFromArrayLen", "([BI)B"⟩, jdk_52_method_15_code, 2, (some .byte), { frames := 0, cells := 0, slots := 0, locals := 0 })
theorem k_cf {g : GG} (W : GW g) (d : Addr) (nm : String) (vs : List Value) (n : Nat) (hn : vs.length = n) (H0 : List Ent) (Lt : List SE) : Ct g D6 #[.ref d, .int (Int32.ofNat n)] ((d, .inr (.byte, nm, vs)) :: H0) Lt (fun v vm h => v = some (.int (0 : Int32)) ∧ Hp g vm h ((d, .inr (.byte, nm, vs)) :: H0) Lt) := by
  subst hn
  refine CtW.body W (by decide +kernel) (ef_cf d vs.length) ?_
  intro M T B
  refine p_iloadN B d6_0 (pc' := 1) rfl rfl ?_
  refine p_aloadN B d6_1 (pc' := 2) rfl rfl rfl ?_
  refine r_alen B d6_2 (pc' := 3) rfl (aH (i := 0) rfl) (z := (Int32.ofNat vs.length)) rfl ?_
  refine p_isub B d6_3 (pc' := 4) rfl rfl ?_
  refine p_bipush B d6_4 (pc' := 6) rfl (v := (31 : Int32)) (by decide) ?_
  refine p_iushr B d6_6 (pc' := 7) rfl rfl ?_
  refine p_i2b B d6_7 (pc' := 8) rfl ?_
  rw [cdr0]
  exact r_reti B d6_8 rfl (by simp) rfl (by decide) (by decide) (fun vm h P => ⟨rfl, P⟩)
theorem ef_c3 (c : Addr) (n : Nat) (m : MethodId) : entryFrame m #[(.ref c), (.int (0 : Int32)), (.int (Int32.ofNat n))] 6 = mkF m 0 #[.val (.ref c), .val (.int (0 : Int32)), .val (.int (Int32.ofNat n)), .unset, .unset, .unset] [] := by first | (simp [entryFrame, mkF, argsToLocals, Value.category]; done) | rfl
abbrev D4 : DD := (⟨"java/lang/StringUTF16", "compress", "([CII)[B"⟩, jdk_52_method_16_code, 6, (some (.array .byte)), { frames := 1, cells := 1, slots := 8, locals := 18 })
theorem k_c3 {g : GG} (W : GW g) (c : Addr) (nm : String) (cs : List Int32) (hcs : ∀ x ∈ cs, ¬ (255 : Int32) < x) (hn : cs.length ≤ 8) (H0 : List Ent) (Lt : List SE) : Ct g D4 #[.ref c, .int (0 : Int32), .int (Int32.ofNat cs.length)] ((c, .inr (.char, nm, cs.map Value.int)) :: H0) Lt (fun v vm h => ∃ d, v = some (.ref d) ∧ Hp g vm h ((d, .inr (.byte, "[B", cs.map bV)) :: (c, .inr (.char, nm, cs.map Value.int)) :: H0) Lt) := by
  refine CtW.body W (by decide +kernel) (ef_c3 c cs.length) ?_
  intro M T B
  refine p_iloadN B d4_0 (pc' := 1) rfl rfl ?_
  refine r_newp B d4_1 (pc' := 3) rfl (ty := .byte) (W19 B.gw) rfl (n31 (by omega)) (nn := cs.length) (n31c (by omega)) (cap := 8) hn (by decide) (cs' := 1) rfl (ss' := 8) rfl (by decide) (by decide) (ad := "[B") (by decide) (by decide) nofun (vs := bpre cs 0) (bpre0 cs).symm ?_
  intro T1 d B1
  refine p_astoreN B1 d4_3 (pc' := 4) rfl rfl (Ls' := #[.val (.ref c), .val (.int (0 : Int32)), .val (.int (Int32.ofNat cs.length)), .val (.ref d), .unset, .unset]) rfl ?_
  refine p_aloadN B1 d4_4 (pc' := 5) rfl rfl rfl ?_
  refine p_iloadN B1 d4_5 (pc' := 6) rfl rfl ?_
  refine p_aloadN B1 d4_6 (pc' := 7) rfl rfl rfl ?_
  refine p_iconst B1 d4_7 (pc' := 8) rfl (v := (0 : Int32)) (by decide) ?_
  refine p_iloadN B1 d4_8 (pc' := 9) rfl rfl ?_
  refine r_static (D' := D5) B1 d4_9 (pc' := 12) rfl (W20 B1.gw) (W21 B1.gw) (W17 B1.gw) (W22 B1.gw) (by decide) (k_c5 W c nm cs hcs hn d H0 Lt) (argsL := [(.ref c), (.int (0 : Int32)), (.ref d), (.int (0 : Int32)), (.int (Int32.ofNat cs.length))]) (rest := []) rfl pd0 rfl rfl rfl (W := 0) rfl (by decide) (by decide) (cs' := 1) rfl (ss' := 8) rfl (by decide) (by decide) ?_
  intro T1 v2 B3
  replace B3 := Rn.and B3
  obtain ⟨rfl, B3⟩ := B3
  show Fn g D4 M _ (T1.setTop (mkF M.m 12 #[.val (.ref c), .val (.int (0 : Int32)), .val (.int (Int32.ofNat cs.length)), .val (.ref d), .unset, .unset] [(.int (Int32.ofNat cs.length))]))
  refine p_istore B3 d4_12 (pc' := 14) rfl (Ls' := #[.val (.ref c), .val (.int (0 : Int32)), .val (.int (Int32.ofNat cs.length)), .val (.ref d), .val (.int (Int32.ofNat cs.length)), .unset]) rfl ?_
  refine p_iload B3 d4_14 (pc' := 16) rfl rfl ?_
  refine p_iloadN B3 d4_16 (pc' := 17) rfl rfl ?_
  refine b_icT B3 d4_17 (pc' := 57) rfl (by decide) (by decide) ?_
  refine p_aloadN B3 d4_57 (pc' := 58) rfl rfl rfl ?_
  exact r_reta B3 d4_58 rfl rfl rfl (by decide) (by decide) (fun vm h P => ⟨d, rfl, P⟩)
theorem ef_i4 (a c : Addr) (n : Nat) (m : MethodId) : entryFrame m #[(.ref a), (.ref c), (.int (0 : Int32)), (.int (Int32.ofNat n)), .null] 6 = mkF m 0 #[.val (.ref a), .val (.ref c), .val (.int (0 : Int32)), .val (.int (Int32.ofNat n)), .val .null, .unset] [] := by first | (simp [entryFrame, mkF, argsToLocals, Value.category]; done) | rfl
abbrev D2 : DD := (⟨"java/lang/String", "<init>", "([CIILjava/lang/Void;)V"⟩, jdk_42_method_149_code, 6, none, { frames := 2, cells := 1, slots := 8, locals := 35 })
theorem k_i4 {g : GG} (W : GW g) (a : Addr) (c : Addr) (nm : String) (cs : List Int32) (hcs : ∀ x ∈ cs, ¬ (255 : Int32) < x) (hn : cs.length ≤ 8) (hne : cs ≠ []) (H0 : List Ent) (Lt : List SE) : Ct g D2 #[.ref a, .ref c, .int (0 : Int32), .int (Int32.ofNat cs.length), .null] (o_String a (.int (0 : Int32)) .null :: (c, .inr (.char, nm, cs.map Value.int)) :: H0) Lt (fun v vm h => v = none ∧ ∃ d, Hp g vm h ((c, .inr (.char, nm, cs.map Value.int)) :: H0) ((a, d, 0, cs.map bV) :: Lt)) := by
  refine CtW.body W (by decide +kernel) (ef_i4 a c cs.length) ?_
  intro M T B
  refine p_aloadN B d2_0 (pc' := 1) rfl rfl rfl ?_
  refine r_initO B d2_1 (pc' := 4) rfl (W11 B.gw) (W12 B.gw) (W13 B.gw) rfl (by decide) (W := 0) rfl (by decide) ?_
  intro T1 B2
  refine p_iloadN B2 d2_4 (pc' := 5) rfl rfl ?_
  by_cases h0 : 0 < cs.length
  · refine b_ifT B2 d2_5 (pc' := 27) (neN h0 (by omega)) (by decide) (by decide) ?_
    obtain ⟨z, hz, hz0⟩ := compact W
    refine r_gets B2 d2_27 (pc' := 30) rfl (host := "") (Or.inl (W14 B2.gw)) Via.refl (v := (.int z)) hz ?_
    intro T3 B4
    refine b_ifF B4 d2_30 (pc' := 33) rfl hz0 ?_
    refine p_aloadN B4 d2_33 (pc' := 34) rfl rfl rfl ?_
    refine p_iloadN B4 d2_34 (pc' := 35) rfl rfl ?_
    refine p_iloadN B4 d2_35 (pc' := 36) rfl rfl ?_
    have B5 : RH g D2 M T3 ((c, .inr (.char, nm, (cs.map Value.int))) :: o_String a (.int (0 : Int32)) .null :: H0) (Lt) 0 0 := B4.front (i := 1) rfl rfl
    refine r_static (D' := D4) B5 d2_36 (pc' := 39) rfl (W15 B5.gw) (W16 B5.gw) (W17 B5.gw) (W18 B5.gw) (by decide) (k_c3 W c nm cs hcs hn (o_String a (.int (0 : Int32)) .null :: H0) Lt) (argsL := [(.ref c), (.int (0 : Int32)), (.int (Int32.ofNat cs.length))]) (rest := []) rfl pd1 rfl rfl rfl (W := 0) rfl (by decide) (by decide) (cs' := 1) rfl (ss' := 8) rfl (by decide) (by decide) ?_
    intro T6 v7 B8
    replace B8 := Rn.ex B8
    obtain ⟨d, B8⟩ := B8
    replace B8 := Rn.and B8
    obtain ⟨rfl, B8⟩ := B8
    show Fn g D2 M _ (T6.setTop (mkF M.m 39 #[.val (.ref a), .val (.ref c), .val (.int (0 : Int32)), .val (.int (Int32.ofNat cs.length)), .val .null, .unset] [(.ref d)]))
    refine p_astore B8 d2_39 (pc' := 41) rfl rfl (Ls' := #[.val (.ref a), .val (.ref c), .val (.int (0 : Int32)), .val (.int (Int32.ofNat cs.length)), .val .null, .val (.ref d)]) rfl ?_
    refine p_aloadN B8 d2_41 (pc' := 42) rfl rfl rfl ?_
    refine p_aload B8 d2_42 (pc' := 44) rfl rfl rfl ?_
    refine p_iloadN B8 d2_44 (pc' := 45) rfl rfl ?_
    refine r_static (D' := D6) B8 d2_45 (pc' := 48) rfl (W23 B8.gw) (W24 B8.gw) (W17 B8.gw) (W25 B8.gw) (by decide) (k_cf W d "[B" (cs.map bV) cs.length (List.length_map ..) _ Lt) (argsL := [(.ref d), (.int (Int32.ofNat cs.length))]) (rest := [(.ref a)]) rfl pd2 rfl rfl rfl (W := 1) rfl (by decide) (by decide) (cs' := 1) rfl (ss' := 8) rfl (by decide) (by decide) ?_
    intro T9 v10 B11
    replace B11 := Rn.and B11
    obtain ⟨rfl, B11⟩ := B11
    show Fn g D2 M _ (T9.setTop (mkF M.m 48 #[.val (.ref a), .val (.ref c), .val (.int (0 : Int32)), .val (.int (Int32.ofNat cs.length)), .val .null, .val (.ref d)] [(.int (0 : Int32)), (.ref a)]))
    refine r_put B11 d2_48 (pc' := 51) rfl (host := "") (Or.inl (W26 B11.gw)) Via.refl (i := 2) (j := 0) rfl rfl (Or.inr ⟨(W27 B11.gw), rfl, rfl⟩) (W1 B11.gw) (ty := .byte) (by decide) (by decide) (by decide) (H' := ((d, .inr (.byte, "[B", (cs.map bV))) :: (c, .inr (.char, nm, (cs.map Value.int))) :: o_String a (.int (0 : Int32)) .null :: H0)) rfl ?_
    intro T12 B13
    refine p_aloadN B13 d2_51 (pc' := 52) rfl rfl rfl ?_
    refine p_aload B13 d2_52 (pc' := 54) rfl rfl rfl ?_
    refine r_put B13 d2_54 (pc' := 57) rfl (host := "") (Or.inl (W28 B13.gw)) Via.refl (i := 2) (j := 1) rfl rfl (Or.inr ⟨(W29 B13.gw), rfl, rfl⟩) (W1 B13.gw) (ty := (.array .byte)) (by decide) rfl rfl (H' := ((d, .inr (.byte, "[B", (cs.map bV))) :: (c, .inr (.char, nm, (cs.map Value.int))) :: o_String a (.int (0 : Int32)) (.ref d) :: H0)) rfl ?_
    intro T14 B15
    have B16 : RH g D2 M T14 (o_String a (.int (0 : Int32)) (.ref d) :: (d, .inr (.byte, "[B", (cs.map bV))) :: (c, .inr (.char, nm, (cs.map Value.int))) :: H0) (Lt) 1 8 := B15.front (i := 2) rfl rfl
    exact r_ret B16 d2_57 rfl (by decide) (by decide) (fun vm h P => ⟨rfl, d, P.freeze (by simp) (by simp)⟩)
  · have e0 : cs = [] := List.eq_nil_of_length_eq_zero (by omega)
    exact absurd e0 hne
theorem ef_i1 (a c : Addr) (m : MethodId) : entryFrame m #[(.ref a), (.ref c)] 2 = mkF m 0 #[.val (.ref a), .val (.ref c)] [] := by first | (simp [entryFrame, mkF, argsToLocals, Value.category]; done) | rfl
abbrev D1 : DD := (⟨"java/lang/String", "<init>", "([C)V"⟩, jdk_42_method_3_code, 2, none, { frames := 3, cells := 1, slots := 8, locals := 52 })
theorem k_i1 {g : GG} (W : GW g) (a : Addr) (c : Addr) (nm : String) (cs : List Int32) (hcs : ∀ x ∈ cs, ¬ (255 : Int32) < x) (hn : cs.length ≤ 8) (hne : cs ≠ []) (H0 : List Ent) (Lt : List SE) : Ct g D1 #[.ref a, .ref c] (o_String a (.int (0 : Int32)) .null :: (c, .inr (.char, nm, cs.map Value.int)) :: H0) Lt (fun v vm h => v = none ∧ ∃ d, Hp g vm h ((c, .inr (.char, nm, cs.map Value.int)) :: H0) ((a, d, 0, cs.map bV) :: Lt)) := by
  refine CtW.body W (by decide +kernel) (ef_i1 a c) ?_
  intro M T B
  refine p_aloadN B d1_0 (pc' := 1) rfl rfl rfl ?_
  refine p_aloadN B d1_1 (pc' := 2) rfl rfl rfl ?_
  refine p_iconst B d1_2 (pc' := 3) rfl (v := (0 : Int32)) (by decide) ?_
  refine p_aloadN B d1_3 (pc' := 4) rfl rfl rfl ?_
  refine r_alen B d1_4 (pc' := 5) rfl (aH (i := 1) rfl) (z := Int32.ofNat cs.length) (by rw [List.length_map]) ?_
  refine p_null B d1_5 (pc' := 6) rfl ?_
  refine r_special (D' := D2) B d1_6 (pc' := 9) rfl rfl rfl (W7 B.gw) (W8 B.gw) (W2 B.gw) (W10 B.gw) (by decide) (k_i4 W a c nm cs hcs hn hne H0 Lt) (a := a) (argsL := [(.ref c), (.int (0 : Int32)), (.int (Int32.ofNat cs.length)), .null]) (rest := []) rfl pd3 rfl rfl rfl (W := 0) rfl (by decide) (by decide) (cs' := 1) rfl (ss' := 8) rfl (by decide) (by decide) ?_
  intro T1 v2 B3
  replace B3 := Rn.and B3
  obtain ⟨rfl, B3⟩ := B3
  replace B3 := Rn.ex B3
  obtain ⟨d, B3⟩ := B3
  show Fn g D1 M _ (T1.setTop (mkF M.m 9 #[.val (.ref a), .val (.ref c)] []))
  exact r_ret B3 d1_9 rfl (by decide) (by decide) (fun vm h P => ⟨rfl, d, P⟩)
theorem fld_one {Z : State} {h : Heap} {a : Addr} {C n d : String} {v w : Value} (F : Fld Z h a C n d v) (G : Fld Z h a C n d w) : v = w := by
  obtain ⟨c1, f1, k1, i1, q1, h1, h2, -, -, -, -, h7⟩ := F
  obtain ⟨c2, f2, k2, i2, q2, g1, g2, -, -, -, -, g7⟩ := G
  cases h1.symm.trans g1
  cases h2.symm.trans g2
  exact Option.some.inj (h7.symm.trans g7)
theorem Ary.one {Z : State} {h : Heap} {a : Addr} {t1 t2 : FieldType} {n1 n2 : String} {vs ws : List Value} (A : Ary Z h a t1 n1 vs) (B : Ary Z h a t2 n2 ws) : vs = ws := by
  obtain ⟨c1, r1, r2, -⟩ := A
  obtain ⟨c2, s1, s2, -⟩ := B
  cases r1.1.symm.trans s1.1
  have e := r2.symm.trans s2
  exact congrArg Array.toList e
theorem str_one {g : GG} {vm : Vm} {h : Heap} {H : List Ent} {Lt : List SE} (P : Hp g vm h H Lt) {a b b' : Addr} {c c' : Int32} {vs ws : List Value} (m1 : (a, b, c, vs) ∈ Lt) (m2 : (a, b', c', ws) ∈ Lt) : vs = ws := by
  have I := P.2.2.1 _ m1
  have J := P.2.2.1 _ m2
  have e : Value.ref b = Value.ref b' := fld_one I.2.1 J.2.1
  cases e
  exact I.2.2.2.one J.2.2.2
theorem map_int_inj {xs ys : List Int32} (h : xs.map Value.int = ys.map Value.int) : xs = ys := List.map_inj_right (fun a b q => by cases q; rfl) |>.mp h
theorem take_same {xs ys : List Int32} {i : Nat} {x : Int32} (h : xs.take i = ys.take i) (hx : xs[i]? = some x) (hy : ys[i]? = some x) : xs.take (i + 1) = ys.take (i + 1) := by
  rw [List.take_add_one, List.take_add_one, h, hx, hy]

theorem ef_le (b b' : Addr) (m : MethodId) : entryFrame m #[(.ref b), (.ref b')] 3 = mkF m 0 #[.val (.ref b), .val (.ref b'), .unset] [] := by first | (simp [entryFrame, mkF, argsToLocals, Value.category]; done) | rfl
abbrev D16 : DD := (⟨"java/lang/StringLatin1", "equals", "([B[B)Z"⟩, jdk_43_method_13_code, 3, (some .boolean), { frames := 0, cells := 0, slots := 0, locals := 0 })
theorem lp_le {g : GG} (W : GW g) {a a' b b' : Addr} {xs ys : List Int32} {H : List Ent} {Lt : List SE} (m1 : (a, b, 0, xs.map Value.int) ∈ Lt) (m2 : (a', b', 0, ys.map Value.int) ∈ Lt) (hx : xs.length < 2147483648) (hy : ys.length < 2147483648) {M : MM} (hl : xs.length = ys.length) : ∀ (k i : Nat), i + k = xs.length → xs.take i = ys.take i → ∀ {T : State}, RH g D16 M T H Lt 0 0 →
    Fn g D16 M (fun v vm h => ∃ z : Int32, v = some (.int z) ∧ (z = 1 ∧ xs = ys ∨ z = 0 ∧ ¬ xs = ys) ∧ Hp g vm h H Lt) (T.setTop (mkF M.m 9 #[.val (.ref b), .val (.ref b'), .val (.int (Int32.ofNat i))] [])) := by
  intro k
  induction k with
  | zero =>
    intro i hi ht T B
    refine p_iloadN B d16_9 (pc' := 10) rfl rfl ?_
    refine p_aloadN B d16_10 (pc' := 11) rfl rfl rfl ?_
    refine r_alen B d16_11 (pc' := 12) rfl (sA m1) (z := Int32.ofNat xs.length) (by rw [List.length_map]) ?_
    have hi' : i = xs.length := by omega
    refine b_icT B d16_12 (pc' := 32) (by subst hi'; exact Int32.lt_irrefl) (by decide) (by decide) ?_
    refine p_iconst B d16_32 (pc' := 33) rfl (v := (1 : Int32)) (by decide) ?_
    exact r_reti B d16_33 rfl (by simp) rfl (by decide) (by decide) (fun vm h P => ⟨_, rfl, Or.inl ⟨rfl, by rw [hi', List.take_length, hl, List.take_length] at ht; exact ht⟩, P⟩)
  | succ k ih =>
    intro i hi ht T B
    refine p_iloadN B d16_9 (pc' := 10) rfl rfl ?_
    refine p_aloadN B d16_10 (pc' := 11) rfl rfl rfl ?_
    refine r_alen B d16_11 (pc' := 12) rfl (sA m1) (z := Int32.ofNat xs.length) (by rw [List.length_map]) ?_
    have hlt : i < xs.length := by omega
    refine b_icF B d16_12 (pc' := 15) rfl (ltN hlt hx) ?_
    obtain ⟨x, ex⟩ : ∃ x, xs[i]? = some x := ⟨_, List.getElem?_eq_getElem hlt⟩
    obtain ⟨y, ey⟩ : ∃ y, ys[i]? = some y := ⟨_, List.getElem?_eq_getElem (by omega)⟩
    refine p_aloadN B d16_15 (pc' := 16) rfl rfl rfl ?_
    refine p_iloadN B d16_16 (pc' := 17) rfl rfl ?_
    refine r_aget B d16_17 rfl (pc' := 18) rfl (sA m1) (k := i) rfl (v := .int x) (by rw [List.getElem?_map, ex]; rfl) ?_
    refine p_aloadN B d16_18 (pc' := 19) rfl rfl rfl ?_
    refine p_iloadN B d16_19 (pc' := 20) rfl rfl ?_
    refine r_aget B d16_20 rfl (pc' := 21) rfl (sA m2) (k := i) rfl (v := .int y) (by rw [List.getElem?_map, ey]; rfl) ?_
    by_cases hxy : x = y
    · refine b_icT B d16_21 (pc' := 26) hxy (by decide) (by decide) ?_
      refine p_iinc B d16_26 (pc' := 29) rfl (v := (1 : Int32)) (by decide) rfl (z := ((Int32.ofNat i) + (1 : Int32))) rfl (Ls' := #[.val (.ref b), .val (.ref b'), .val (.int ((Int32.ofNat i) + (1 : Int32)))]) rfl ?_
      refine b_goto B d16_29 (pc' := 9) (by decide) (by decide) ?_
      subst hxy
      rw [sucN i]
      exact ih (i + 1) (by omega) (take_same ht ex ey) B
    · refine b_icF B d16_21 (pc' := 24) rfl hxy ?_
      refine p_iconst B d16_24 (pc' := 25) rfl (v := (0 : Int32)) (by decide) ?_
      exact r_reti B d16_25 rfl (by simp) rfl (by decide) (by decide) (fun vm h P => ⟨_, rfl, Or.inr ⟨rfl, fun q => hxy (by subst q; exact Option.some.inj (ex.symm.trans ey))⟩, P⟩)
theorem k_le {g : GG} (W : GW g) {a a' b b' : Addr} {xs ys : List Int32} {H : List Ent} {Lt : List SE} (m1 : (a, b, 0, xs.map Value.int) ∈ Lt) (m2 : (a', b', 0, ys.map Value.int) ∈ Lt) (hx : xs.length < 2147483648) (hy : ys.length < 2147483648) : Ct g D16 #[.ref b, .ref b'] H Lt (fun v vm h => ∃ z : Int32, v = some (.int z) ∧ (z = 1 ∧ xs = ys ∨ z = 0 ∧ ¬ xs = ys) ∧ Hp g vm h H Lt) := by
  refine CtW.body W (by decide +kernel) (ef_le b b') ?_
  intro M T B
  refine p_aloadN B d16_0 (pc' := 1) rfl rfl rfl ?_
  refine r_alen B d16_1 (pc' := 2) rfl (sA m1) (z := Int32.ofNat xs.length) (by rw [List.length_map]) ?_
  refine p_aloadN B d16_2 (pc' := 3) rfl rfl rfl ?_
  refine r_alen B d16_3 (pc' := 4) rfl (sA m2) (z := Int32.ofNat ys.length) (by rw [List.length_map]) ?_
  by_cases hn : (Int32.ofNat xs.length) = (Int32.ofNat ys.length)
  · refine b_icF B d16_4 (pc' := 7) rfl hn ?_
    refine p_iconst B d16_7 (pc' := 8) rfl (v := (0 : Int32)) (by decide) ?_
    refine p_istoreN B d16_8 (pc' := 9) rfl (Ls' := #[.val (.ref b), .val (.ref b'), .val (.int (0 : Int32))]) rfl ?_
    exact lp_le W m1 m2 hx hy (injN hx hy hn) xs.length 0 (by omega) rfl B
  · refine b_icT B d16_4 (pc' := 34) hn (by decide) (by decide) ?_
    refine p_iconst B d16_34 (pc' := 35) rfl (v := (0 : Int32)) (by decide) ?_
    exact r_reti B d16_35 rfl (by simp) rfl (by decide) (by decide) (fun vm h P => ⟨_, rfl, Or.inr ⟨rfl, fun q => hn (by rw [q])⟩, P⟩)
theorem ef_se (a a' : Addr) (m : MethodId) : entryFrame m #[(.ref a), (.ref a')] 3 = mkF m 0 #[.val (.ref a), .val (.ref a'), .unset] [] := by first | (simp [entryFrame, mkF, argsToLocals, Value.category]; done) | rfl
abbrev D15 : DD := (⟨"java/lang/String", "equals", "(Ljava/lang/Object;)Z"⟩, jdk_42_method_66_code, 3, (some .boolean), { frames := 1, cells := 0, slots := 0, locals := 14 })
theorem k_se {g : GG} (W : GW g) {a a' b b' : Addr} {xs ys : List Int32} {H : List Ent} {Lt : List SE} (m1 : (a, b, 0, xs.map Value.int) ∈ Lt) (m2 : (a', b', 0, ys.map Value.int) ∈ Lt) (hx : xs.length < 2147483648) (hy : ys.length < 2147483648) : Ct g D15 #[.ref a, .ref a'] H Lt (fun v vm h => ∃ z : Int32, v = some (.int z) ∧ (z = 1 ∧ xs = ys ∨ z = 0 ∧ ¬ xs = ys) ∧ Hp g vm h H Lt) := by
  refine CtW.body W (by decide +kernel) (ef_se a a') ?_
  intro M T B
  refine p_aloadN B d15_0 (pc' := 1) rfl rfl rfl ?_
  refine p_aloadN B d15_1 (pc' := 2) rfl rfl rfl ?_
  by_cases ha : (Value.ref a) = (Value.ref a')
  · refine b_anF B d15_2 (pc' := 5) rfl rfl rfl ha ?_
    refine p_iconst B d15_5 (pc' := 6) rfl (v := (1 : Int32)) (by decide) ?_
    exact r_reti B d15_6 rfl (by simp) rfl (by decide) (by decide) (fun vm h P => ⟨_, rfl, Or.inl ⟨rfl, map_int_inj (str_one P m1 (by cases ha; exact m2))⟩, P⟩)
  · refine b_anT B d15_2 (pc' := 7) rfl rfl ha (by decide) (by decide) ?_
    refine p_aloadN B d15_7 (pc' := 8) rfl rfl rfl ?_
    refine r_inst1 B d15_8 (pc' := 11) rfl (W88 B.gw) (fun vm h E P => Ins.self (sE m2 vm h E P)) ?_
    intro T1 B2
    refine b_ifF B2 d15_11 (pc' := 14) rfl (show ¬ (1 : Int32) = (0 : Int32) from by decide) ?_
    refine p_aloadN B2 d15_14 (pc' := 15) rfl rfl rfl ?_
    refine r_cast B2 d15_15 (pc' := 18) rfl (W88 B2.gw) (fun vm h E P => Ins.self (sE m2 vm h E P)) ?_
    intro T3 B4
    refine p_astoreN B4 d15_18 (pc' := 19) rfl rfl (Ls' := #[.val (.ref a), .val (.ref a'), .val (.ref a')]) rfl ?_
    obtain ⟨z, hz, hz0⟩ := compact W
    refine r_gets B4 d15_19 (pc' := 22) rfl (host := "") (Or.inl (W14 B4.gw)) Via.refl (v := (.int z)) hz ?_
    intro T5 B6
    refine b_ifF B6 d15_22 (pc' := 25) rfl hz0 ?_
    refine p_aloadN B6 d15_25 (pc' := 26) rfl rfl rfl ?_
    refine r_get B6 d15_26 (pc' := 29) rfl (host := "") (Or.inl (W26 B6.gw)) Via.refl (v := (.int (0 : Int32))) (sC m1) ?_
    intro T7 B8
    refine p_aloadN B8 d15_29 (pc' := 30) rfl rfl rfl ?_
    refine r_get B8 d15_30 (pc' := 33) rfl (host := "") (Or.inl (W26 B8.gw)) Via.refl (v := (.int (0 : Int32))) (sC m2) ?_
    intro T9 B10
    refine b_icF B10 d15_33 (pc' := 36) rfl (show (0 : Int32) = (0 : Int32) from by decide) ?_
    refine p_aloadN B10 d15_36 (pc' := 37) rfl rfl rfl ?_
    refine r_get B10 d15_37 (pc' := 40) rfl (host := "") (Or.inl (W28 B10.gw)) Via.refl (v := (.ref b)) (sV m1) ?_
    intro T11 B12
    refine p_aloadN B12 d15_40 (pc' := 41) rfl rfl rfl ?_
    refine r_get B12 d15_41 (pc' := 44) rfl (host := "") (Or.inl (W28 B12.gw)) Via.refl (v := (.ref b')) (sV m2) ?_
    intro T13 B14
    refine r_static (D' := D16) B14 d15_44 (pc' := 47) rfl (W89 B14.gw) (W90 B14.gw) (W91 B14.gw) (W92 B14.gw) (by decide) (k_le W m1 m2 hx hy) (argsL := [(.ref b), (.ref b')]) (rest := []) rfl pd4 rfl rfl rfl (W := 0) rfl (by decide) (by decide) (cs' := 0) rfl (ss' := 0) rfl (by decide) (by decide) ?_
    intro T15 v16 B17
    replace B17 := Rn.ex B17
    obtain ⟨z, B17⟩ := B17
    replace B17 := Rn.and B17
    obtain ⟨rfl, B17⟩ := B17
    replace B17 := Rn.and B17
    obtain ⟨hz, B17⟩ := B17
    show Fn g D15 M _ (T15.setTop (mkF M.m 47 #[.val (.ref a), .val (.ref a'), .val (.ref a')] [(.int z)]))
    rcases hz with ⟨rfl, hz⟩ | ⟨rfl, hz⟩
    · refine b_ifF B17 d15_47 (pc' := 50) rfl (show ¬ (1 : Int32) = (0 : Int32) from by decide) ?_
      refine p_iconst B17 d15_50 (pc' := 51) rfl (v := (1 : Int32)) (by decide) ?_
      refine b_goto B17 d15_51 (pc' := 55) (by decide) (by decide) ?_
      exact r_reti B17 d15_55 rfl (by simp) rfl (by decide) (by decide) (fun vm h P => ⟨_, rfl, Or.inl ⟨rfl, hz⟩, P⟩)
    · refine b_ifT B17 d15_47 (pc' := 54) (show (0 : Int32) = (0 : Int32) from by decide) (by decide) (by decide) ?_
      refine p_iconst B17 d15_54 (pc' := 55) rfl (v := (0 : Int32)) (by decide) ?_
      exact r_reti B17 d15_55 rfl (by simp) rfl (by decide) (by decide) (fun vm h P => ⟨_, rfl, Or.inr ⟨rfl, hz⟩, P⟩)
abbrev D14_is3_3 : DD := (⟨"com/example/polecenie/polecenie/core/Pain001Reader$Element", "is", "([Ljava/lang/String;)Z"⟩, prog_35_method_6_code, 3, (some .boolean), { frames := 2, cells := 0, slots := 0, locals := 28 })
theorem ef_is3_3 (e ar : Addr) (m : MethodId) : entryFrame m #[(.ref e), (.ref ar)] 3 = mkF m 0 #[.val (.ref e), .val (.ref ar), .unset] [] := by first | (simp [entryFrame, mkF, argsToLocals, Value.category]; done) | rfl
theorem k_is3_3 {g : GG} (W : GW g) (e ar na : Addr) (x0 : Addr) (x1 : Addr) (x2 : Addr) (l0 : Addr) {bl0 : Addr} (l1 : Addr) {bl1 : Addr} (l2 : Addr) {bl2 : Addr} (H0 : List Ent) {Lt : List SE} {bx0 : Addr} {xx0 : List Int32} (mx0 : (x0, bx0, 0, xx0.map Value.int) ∈ Lt) (hl0 : xx0.length < 2147483648) {bx1 : Addr} {xx1 : List Int32} (mx1 : (x1, bx1, 0, xx1.map Value.int) ∈ Lt) (hl1 : xx1.length < 2147483648) {bx2 : Addr} {xx2 : List Int32} (mx2 : (x2, bx2, 0, xx2.map Value.int) ∈ Lt) (hl2 : xx2.length < 2147483648) (hs0 : xx0.length = 1) (hs1 : xx1.length = 1) (hs2 : xx2.length = 1) (ml0 : (l0, bl0, 0, [(.int (68 : Int32)), (.int (111 : Int32)), (.int (99 : Int32)), (.int (117 : Int32)), (.int (109 : Int32)), (.int (101 : Int32)), (.int (110 : Int32)), (.int (116 : Int32))]) ∈ Lt) (ml1 : (l1, bl1, 0, [(.int (67 : Int32)), (.int (115 : Int32)), (.int (116 : Int32)), (.int (109 : Int32)), (.int (114 : Int32)), (.int (67 : Int32)), (.int (100 : Int32)), (.int (116 : Int32)), (.int (84 : Int32)), (.int (114 : Int32)), (.int (102 : Int32)), (.int (73 : Int32)), (.int (110 : Int32)), (.int (105 : Int32)), (.int (116 : Int32)), (.int (110 : Int32))]) ∈ Lt) (ml2 : (l2, bl2, 0, [(.int (80 : Int32)), (.int (109 : Int32)), (.int (116 : Int32)), (.int (73 : Int32)), (.int (110 : Int32)), (.int (102 : Int32))]) ∈ Lt) : Ct g D14_is3_3 #[.ref e, .ref ar] ((ar, .inr ((.object "java/lang/String"), "[Ljava/lang/String;", [(.ref l0), (.ref l1), (.ref l2)])) :: o_Pain001Reader_Element e (.ref na) (.int (3 : Int32)) (.int (0 : Int32)) (.int (0 : Int32)) (.int (0 : Int32)) (.int (0 : Int32)) :: (na, .inr ((.object "java/lang/String"), "[Ljava/lang/String;", [(.ref x0), (.ref x1), (.ref x2), .null, .null, .null, .null, .null, .null, .null, .null, .null, .null, .null, .null, .null])) :: H0) Lt (fun v vm h => v = some (.int (0 : Int32)) ∧ Hp g vm h ((ar, .inr ((.object "java/lang/String"), "[Ljava/lang/String;", [(.ref l0), (.ref l1), (.ref l2)])) :: o_Pain001Reader_Element e (.ref na) (.int (3 : Int32)) (.int (0 : Int32)) (.int (0 : Int32)) (.int (0 : Int32)) (.int (0 : Int32)) :: (na, .inr ((.object "java/lang/String"), "[Ljava/lang/String;", [(.ref x0), (.ref x1), (.ref x2), .null, .null, .null, .null, .null, .null, .null, .null, .null, .null, .null, .null, .null])) :: H0) Lt) := by
  refine CtW.body W (by decide +kernel) (ef_is3_3 e ar) ?_
  intro M T B
  refine p_aloadN B d14_0 (pc' := 1) rfl rfl rfl ?_
  refine r_alen B d14_1 (pc' := 2) rfl (aH (i := 0) rfl) (z := (3 : Int32)) rfl ?_
  refine p_aloadN B d14_2 (pc' := 3) rfl rfl rfl ?_
  refine r_get B d14_3 (pc' := 6) rfl (host := "") (Or.inl (W46 B.gw)) Via.refl (v := (.int (3 : Int32))) (fO (i := 1) (j := 1) rfl rfl) ?_
  intro T1 B2
  refine b_icT B2 d14_6 (pc' := 11) (show ¬ (3 : Int32) < (3 : Int32) from by decide) (by decide) (by decide) ?_
  refine p_iconst B2 d14_11 (pc' := 12) rfl (v := (0 : Int32)) (by decide) ?_
  refine p_istoreN B2 d14_12 (pc' := 13) rfl (Ls' := #[.val (.ref e), .val (.ref ar), .val (.int (0 : Int32))]) rfl ?_
  refine p_iloadN B2 d14_13 (pc' := 14) rfl rfl ?_
  refine p_aloadN B2 d14_14 (pc' := 15) rfl rfl rfl ?_
  refine r_alen B2 d14_15 (pc' := 16) rfl (aH (i := 0) rfl) (z := (3 : Int32)) rfl ?_
  refine b_icF B2 d14_16 (pc' := 19) rfl (show (0 : Int32) < (3 : Int32) from by decide) ?_
  refine p_aloadN B2 d14_19 (pc' := 20) rfl rfl rfl ?_
  refine p_aloadN B2 d14_20 (pc' := 21) rfl rfl rfl ?_
  refine r_alen B2 d14_21 (pc' := 22) rfl (aH (i := 0) rfl) (z := (3 : Int32)) rfl ?_
  refine p_iconst B2 d14_22 (pc' := 23) rfl (v := (1 : Int32)) (by decide) ?_
  refine p_isub B2 d14_23 (pc' := 24) rfl (z := (2 : Int32)) (by decide) ?_
  refine p_iloadN B2 d14_24 (pc' := 25) rfl rfl ?_
  refine p_isub B2 d14_25 (pc' := 26) rfl (z := (2 : Int32)) (by decide) ?_
  refine r_aget B2 d14_26 rfl (pc' := 27) rfl (aH (i := 0) rfl) (k := 2) (by decide) rfl ?_
  refine p_aloadN B2 d14_27 (pc' := 28) rfl rfl rfl ?_
  refine r_get B2 d14_28 (pc' := 31) rfl (host := "") (Or.inl (W39 B2.gw)) Via.refl (v := (.ref na)) (fO (i := 1) (j := 0) rfl rfl) ?_
  intro T3 B4
  refine p_aloadN B4 d14_31 (pc' := 32) rfl rfl rfl ?_
  refine r_get B4 d14_32 (pc' := 35) rfl (host := "") (Or.inl (W46 B4.gw)) Via.refl (v := (.int (3 : Int32))) (fO (i := 1) (j := 1) rfl rfl) ?_
  intro T5 B6
  refine p_iconst B6 d14_35 (pc' := 36) rfl (v := (1 : Int32)) (by decide) ?_
  refine p_isub B6 d14_36 (pc' := 37) rfl (z := (2 : Int32)) (by decide) ?_
  refine p_iloadN B6 d14_37 (pc' := 38) rfl rfl ?_
  refine p_isub B6 d14_38 (pc' := 39) rfl (z := (2 : Int32)) (by decide) ?_
  refine r_aget B6 d14_39 rfl (pc' := 40) rfl (aH (i := 2) rfl) (k := 2) (by decide) rfl ?_
  refine r_virtual (D' := D15) B6 d14_40 (pc' := 43) rfl (W83 B6.gw) (W84 B6.gw) (W86 B6.gw) (fun vm0 hZ => notFace_of_selects (args := #[]) (mvT hZ (W86 B6.gw))) (W85 B6.gw) (W2 B6.gw) (W87 B6.gw) (by decide) (sE ml2) (k_se W (xs := ([(80 : Int32), (109 : Int32), (116 : Int32), (73 : Int32), (110 : Int32), (102 : Int32)] : List Int32)) (ys := xx2) ml2 mx2 (by simp) hl2) (argsL := [(.ref x2)]) (rest := []) rfl pd5 rfl rfl rfl (W := 0) rfl (by decide) (by decide) (cs' := 0) rfl (ss' := 0) rfl (by decide) (by decide) ?_
  intro T7 v8 B9
  replace B9 := Rn.ex B9
  obtain ⟨z, B9⟩ := B9
  replace B9 := Rn.and B9
  obtain ⟨rfl, B9⟩ := B9
  replace B9 := Rn.and B9
  obtain ⟨hz10, B9⟩ := B9
  show Fn g D14_is3_3 M _ (T7.setTop (mkF M.m 43 #[.val (.ref e), .val (.ref ar), .val (.int (0 : Int32))] [(.int z)]))
  rcases hz10 with ⟨rfl, hz10⟩ | ⟨rfl, hz10⟩
  · have q := congrArg List.length hz10
    rw [hs2] at q
    exact absurd q (by decide)
  · refine b_ifF B9 d14_43 (pc' := 46) rfl (show (0 : Int32) = (0 : Int32) from by decide) ?_
    refine p_iconst B9 d14_46 (pc' := 47) rfl (v := (0 : Int32)) (by decide) ?_
    exact r_reti B9 d14_47 rfl (by simp) rfl (by decide) (by decide) (fun vm h P => ⟨rfl, P⟩)
abbrev D9_ib1 : DD := (⟨"com/example/polecenie/polecenie/core/Pain001Reader$Element", "isBlock", "()Z"⟩, prog_35_method_10_code, 1, (some .boolean), { frames := 0, cells := 0, slots := 0, locals := 0 })
theorem ef_ib1 (e : Addr) (m : MethodId) : entryFrame m #[(.ref e)] 1 = mkF m 0 #[.val (.ref e)] [] := by first | (simp [entryFrame, mkF, argsToLocals, Value.category]; done) | rfl
theorem k_ib1 {g : GG} (W : GW g) (e na : Addr) (x0 : Addr) (H0 : List Ent) {Lt : List SE} {bx0 : Addr} {xx0 : List Int32} (mx0 : (x0, bx0, 0, xx0.map Value.int) ∈ Lt) (hl0 : xx0.length < 2147483648) (hs0 : xx0.length = 1) : Ct g D9_ib1 #[.ref e] (o_Pain001Reader_Element e (.ref na) (.int (1 : Int32)) (.int (0 : Int32)) (.int (0 : Int32)) (.int (0 : Int32)) (.int (0 : Int32)) :: (na, .inr ((.object "java/lang/String"), "[Ljava/lang/String;", [(.ref x0), .null, .null, .null, .null, .null, .null, .null, .null, .null, .null, .null, .null, .null, .null, .null])) :: H0) Lt (fun v vm h => v = some (.int (0 : Int32)) ∧ Hp g vm h (o_Pain001Reader_Element e (.ref na) (.int (1 : Int32)) (.int (0 : Int32)) (.int (0 : Int32)) (.int (0 : Int32)) (.int (0 : Int32)) :: (na, .inr ((.object "java/lang/String"), "[Ljava/lang/String;", [(.ref x0), .null, .null, .null, .null, .null, .null, .null, .null, .null, .null, .null, .null, .null, .null, .null])) :: H0) Lt) := by
  refine CtW.body W (by decide +kernel) (ef_ib1 e) ?_
  intro M T B
  refine p_aloadN B d9_0 (pc' := 1) rfl rfl rfl ?_
  refine r_get B d9_1 (pc' := 4) rfl (host := "") (Or.inl (W46 B.gw)) Via.refl (v := (.int (1 : Int32))) (fO (i := 0) (j := 1) rfl rfl) ?_
  intro T1 B2
  refine p_iconst B2 d9_4 (pc' := 5) rfl (v := (3 : Int32)) (by decide) ?_
  refine b_icT B2 d9_5 (pc' := 38) (show ¬ (1 : Int32) = (3 : Int32) from by decide) (by decide) (by decide) ?_
  refine p_iconst B2 d9_38 (pc' := 39) rfl (v := (0 : Int32)) (by decide) ?_
  exact r_reti B2 d9_39 rfl (by simp) rfl (by decide) (by decide) (fun vm h P => ⟨rfl, P⟩)
abbrev D9_ib2 : DD := (⟨"com/example/polecenie/polecenie/core/Pain001Reader$Element", "isBlock", "()Z"⟩, prog_35_method_10_code, 1, (some .boolean), { frames := 0, cells := 0, slots := 0, locals := 0 })
theorem ef_ib2 (e : Addr) (m : MethodId) : entryFrame m #[(.ref e)] 1 = mkF m 0 #[.val (.ref e)] [] := by first | (simp [entryFrame, mkF, argsToLocals, Value.category]; done) | rfl
theorem k_ib2 {g : GG} (W : GW g) (e na : Addr) (x0 : Addr) (x1 : Addr) (H0 : List Ent) {Lt : List SE} {bx0 : Addr} {xx0 : List Int32} (mx0 : (x0, bx0, 0, xx0.map Value.int) ∈ Lt) (hl0 : xx0.length < 2147483648) {bx1 : Addr} {xx1 : List Int32} (mx1 : (x1, bx1, 0, xx1.map Value.int) ∈ Lt) (hl1 : xx1.length < 2147483648) (hs0 : xx0.length = 1) (hs1 : xx1.length = 1) : Ct g D9_ib2 #[.ref e] (o_Pain001Reader_Element e (.ref na) (.int (2 : Int32)) (.int (0 : Int32)) (.int (0 : Int32)) (.int (0 : Int32)) (.int (0 : Int32)) :: (na, .inr ((.object "java/lang/String"), "[Ljava/lang/String;", [(.ref x0), (.ref x1), .null, .null, .null, .null, .null, .null, .null, .null, .null, .null, .null, .null, .null, .null])) :: H0) Lt (fun v vm h => v = some (.int (0 : Int32)) ∧ Hp g vm h (o_Pain001Reader_Element e (.ref na) (.int (2 : Int32)) (.int (0 : Int32)) (.int (0 : Int32)) (.int (0 : Int32)) (.int (0 : Int32)) :: (na, .inr ((.object "java/lang/String"), "[Ljava/lang/String;", [(.ref x0), (.ref x1), .null, .null, .null, .null, .null, .null, .null, .null, .null, .null, .null, .null, .null, .null])) :: H0) Lt) := by
  refine CtW.body W (by decide +kernel) (ef_ib2 e) ?_
  intro M T B
  refine p_aloadN B d9_0 (pc' := 1) rfl rfl rfl ?_
  refine r_get B d9_1 (pc' := 4) rfl (host := "") (Or.inl (W46 B.gw)) Via.refl (v := (.int (2 : Int32))) (fO (i := 0) (j := 1) rfl rfl) ?_
  intro T1 B2
  refine p_iconst B2 d9_4 (pc' := 5) rfl (v := (3 : Int32)) (by decide) ?_
  refine b_icT B2 d9_5 (pc' := 38) (show ¬ (2 : Int32) = (3 : Int32) from by decide) (by decide) (by decide) ?_
  refine p_iconst B2 d9_38 (pc' := 39) rfl (v := (0 : Int32)) (by decide) ?_
  exact r_reti B2 d9_39 rfl (by simp) rfl (by decide) (by decide) (fun vm h P => ⟨rfl, P⟩)
abbrev D9_ib3 : DD := (⟨"com/example/polecenie/polecenie/core/Pain001Reader$Element", "isBlock", "()Z"⟩, prog_35_method_10_code, 1, (some .boolean), { frames := 3, cells := 7, slots := 135, locals := 42 })
theorem ef_ib3 (e : Addr) (m : MethodId) : entryFrame m #[(.ref e)] 1 = mkF m 0 #[.val (.ref e)] [] := by first | (simp [entryFrame, mkF, argsToLocals, Value.category]; done) | rfl
theorem k_ib3 {g : GG} (W : GW g) (e na : Addr) (x0 : Addr) (x1 : Addr) (x2 : Addr) (H0 : List Ent) {Lt : List SE} {bx0 : Addr} {xx0 : List Int32} (mx0 : (x0, bx0, 0, xx0.map Value.int) ∈ Lt) (hl0 : xx0.length < 2147483648) {bx1 : Addr} {xx1 : List Int32} (mx1 : (x1, bx1, 0, xx1.map Value.int) ∈ Lt) (hl1 : xx1.length < 2147483648) {bx2 : Addr} {xx2 : List Int32} (mx2 : (x2, bx2, 0, xx2.map Value.int) ∈ Lt) (hl2 : xx2.length < 2147483648) (hs0 : xx0.length = 1) (hs1 : xx1.length = 1) (hs2 : xx2.length = 1) : Ct g D9_ib3 #[.ref e] (o_Pain001Reader_Element e (.ref na) (.int (3 : Int32)) (.int (0 : Int32)) (.int (0 : Int32)) (.int (0 : Int32)) (.int (0 : Int32)) :: (na, .inr ((.object "java/lang/String"), "[Ljava/lang/String;", [(.ref x0), (.ref x1), (.ref x2), .null, .null, .null, .null, .null, .null, .null, .null, .null, .null, .null, .null, .null])) :: H0) Lt (fun v vm h => v = some (.int (0 : Int32)) ∧ Hp g vm h (o_Pain001Reader_Element e (.ref na) (.int (3 : Int32)) (.int (0 : Int32)) (.int (0 : Int32)) (.int (0 : Int32)) (.int (0 : Int32)) :: (na, .inr ((.object "java/lang/String"), "[Ljava/lang/String;", [(.ref x0), (.ref x1), (.ref x2), .null, .null, .null, .null, .null, .null, .null, .null, .null, .null, .null, .null, .null])) :: H0) Lt) := by
  refine CtW.body W (by decide +kernel) (ef_ib3 e) ?_
  intro M T B
  refine p_aloadN B d9_0 (pc' := 1) rfl rfl rfl ?_
  refine r_get B d9_1 (pc' := 4) rfl (host := "") (Or.inl (W46 B.gw)) Via.refl (v := (.int (3 : Int32))) (fO (i := 0) (j := 1) rfl rfl) ?_
  intro T1 B2
  refine p_iconst B2 d9_4 (pc' := 5) rfl (v := (3 : Int32)) (by decide) ?_
  refine b_icF B2 d9_5 (pc' := 8) rfl (show (3 : Int32) = (3 : Int32) from by decide) ?_
  refine p_aloadN B2 d9_8 (pc' := 9) rfl rfl rfl ?_
  refine p_iconst B2 d9_9 (pc' := 10) rfl (v := (3 : Int32)) (by decide) ?_
  refine r_newr B2 d9_10 (pc' := 13) rfl (W37 B2.gw) (W38 B2.gw) (by decide) (nn := 3) (by decide) (cap := 3) (by decide) (by decide) (cs' := 1) rfl (ss' := 3) rfl (by decide) (by decide) (ad := "[Ljava/lang/String;") (by decide) (vs := [.null, .null, .null]) rfl ?_
  intro T3 a5 B4
  refine p_dup B4 d9_13 (pc' := 14) rfl rfl ?_
  refine p_iconst B4 d9_14 (pc' := 15) rfl (v := (0 : Int32)) (by decide) ?_
  refine r_ldc B4 d9_15 (pc' := 17) rfl (W73 B4.gw) (strW B4.gw) (inEL B4.gw (by decide)) (bs := [(.int (68 : Int32)), (.int (111 : Int32)), (.int (99 : Int32)), (.int (117 : Int32)), (.int (109 : Int32)), (.int (101 : Int32)), (.int (110 : Int32)), (.int (116 : Int32))]) ⟨by decide, by decide⟩ (z := (8 : Int32)) (by decide) (by decide) (n := 32) (by decide) (by decide) (cs' := 3) rfl (ss' := 39) rfl (by decide) (by decide) ?_
  intro T6 a8 b9 B7
  refine r_aastore B7 d9_17 (pc' := 18) rfl (i := 0) rfl (by decide) (k := 0) (by decide) (by simp) (Or.inr ⟨_, rfl, (fun vm h E P => Ins.self ((sE (List.mem_of_getElem? (i := 0) rfl)) vm h E P))⟩) (H' := ((a5, .inr ((.object "java/lang/String"), "[Ljava/lang/String;", [(.ref a8), .null, .null])) :: o_Pain001Reader_Element e (.ref na) (.int (3 : Int32)) (.int (0 : Int32)) (.int (0 : Int32)) (.int (0 : Int32)) (.int (0 : Int32)) :: (na, .inr ((.object "java/lang/String"), "[Ljava/lang/String;", [(.ref x0), (.ref x1), (.ref x2), .null, .null, .null, .null, .null, .null, .null, .null, .null, .null, .null, .null, .null])) :: H0)) rfl ?_
  intro T10 B11
  refine p_dup B11 d9_18 (pc' := 19) rfl rfl ?_
  refine p_iconst B11 d9_19 (pc' := 20) rfl (v := (1 : Int32)) (by decide) ?_
  refine r_ldc B11 d9_20 (pc' := 22) rfl (W76 B11.gw) (strW B11.gw) (inEL B11.gw (by decide)) (bs := [(.int (67 : Int32)), (.int (115 : Int32)), (.int (116 : Int32)), (.int (109 : Int32)), (.int (114 : Int32)), (.int (67 : Int32)), (.int (100 : Int32)), (.int (116 : Int32)), (.int (84 : Int32)), (.int (114 : Int32)), (.int (102 : Int32)), (.int (73 : Int32)), (.int (110 : Int32)), (.int (105 : Int32)), (.int (116 : Int32)), (.int (110 : Int32))]) ⟨by decide, by decide⟩ (z := (16 : Int32)) (by decide) (by decide) (n := 64) (by decide) (by decide) (cs' := 5) rfl (ss' := 107) rfl (by decide) (by decide) ?_
  intro T12 a14 b15 B13
  refine r_aastore B13 d9_22 (pc' := 23) rfl (i := 0) rfl (by decide) (k := 1) (by decide) (by simp) (Or.inr ⟨_, rfl, (fun vm h E P => Ins.self ((sE (List.mem_of_getElem? (i := 0) rfl)) vm h E P))⟩) (H' := ((a5, .inr ((.object "java/lang/String"), "[Ljava/lang/String;", [(.ref a8), (.ref a14), .null])) :: o_Pain001Reader_Element e (.ref na) (.int (3 : Int32)) (.int (0 : Int32)) (.int (0 : Int32)) (.int (0 : Int32)) (.int (0 : Int32)) :: (na, .inr ((.object "java/lang/String"), "[Ljava/lang/String;", [(.ref x0), (.ref x1), (.ref x2), .null, .null, .null, .null, .null, .null, .null, .null, .null, .null, .null, .null, .null])) :: H0)) rfl ?_
  intro T16 B17
  refine p_dup B17 d9_23 (pc' := 24) rfl rfl ?_
  refine p_iconst B17 d9_24 (pc' := 25) rfl (v := (2 : Int32)) (by decide) ?_
  refine r_ldc B17 d9_25 (pc' := 27) rfl (W77 B17.gw) (strW B17.gw) (inEL B17.gw (by decide)) (bs := [(.int (80 : Int32)), (.int (109 : Int32)), (.int (116 : Int32)), (.int (73 : Int32)), (.int (110 : Int32)), (.int (102 : Int32))]) ⟨by decide, by decide⟩ (z := (6 : Int32)) (by decide) (by decide) (n := 24) (by decide) (by decide) (cs' := 7) rfl (ss' := 135) rfl (by decide) (by decide) ?_
  intro T18 a20 b21 B19
  refine r_aastore B19 d9_27 (pc' := 28) rfl (i := 0) rfl (by decide) (k := 2) (by decide) (by simp) (Or.inr ⟨_, rfl, (fun vm h E P => Ins.self ((sE (List.mem_of_getElem? (i := 0) rfl)) vm h E P))⟩) (H' := ((a5, .inr ((.object "java/lang/String"), "[Ljava/lang/String;", [(.ref a8), (.ref a14), (.ref a20)])) :: o_Pain001Reader_Element e (.ref na) (.int (3 : Int32)) (.int (0 : Int32)) (.int (0 : Int32)) (.int (0 : Int32)) (.int (0 : Int32)) :: (na, .inr ((.object "java/lang/String"), "[Ljava/lang/String;", [(.ref x0), (.ref x1), (.ref x2), .null, .null, .null, .null, .null, .null, .null, .null, .null, .null, .null, .null, .null])) :: H0)) rfl ?_
  intro T22 B23
  have B24 : RH g D9_ib3 M T22 (o_Pain001Reader_Element e (.ref na) (.int (3 : Int32)) (.int (0 : Int32)) (.int (0 : Int32)) (.int (0 : Int32)) (.int (0 : Int32)) :: (a5, .inr ((.object "java/lang/String"), "[Ljava/lang/String;", [(.ref a8), (.ref a14), (.ref a20)])) :: (na, .inr ((.object "java/lang/String"), "[Ljava/lang/String;", [(.ref x0), (.ref x1), (.ref x2), .null, .null, .null, .null, .null, .null, .null, .null, .null, .null, .null, .null, .null])) :: H0) ((a20, b21, 0, [(.int (80 : Int32)), (.int (109 : Int32)), (.int (116 : Int32)), (.int (73 : Int32)), (.int (110 : Int32)), (.int (102 : Int32))]) :: (a14, b15, 0, [(.int (67 : Int32)), (.int (115 : Int32)), (.int (116 : Int32)), (.int (109 : Int32)), (.int (114 : Int32)), (.int (67 : Int32)), (.int (100 : Int32)), (.int (116 : Int32)), (.int (84 : Int32)), (.int (114 : Int32)), (.int (102 : Int32)), (.int (73 : Int32)), (.int (110 : Int32)), (.int (105 : Int32)), (.int (116 : Int32)), (.int (110 : Int32))]) :: (a8, b9, 0, [(.int (68 : Int32)), (.int (111 : Int32)), (.int (99 : Int32)), (.int (117 : Int32)), (.int (109 : Int32)), (.int (101 : Int32)), (.int (110 : Int32)), (.int (116 : Int32))]) :: Lt) 7 135 := B23.front (i := 1) rfl rfl
  have B25 : RH g D9_ib3 M T22 ((a5, .inr ((.object "java/lang/String"), "[Ljava/lang/String;", [(.ref a8), (.ref a14), (.ref a20)])) :: o_Pain001Reader_Element e (.ref na) (.int (3 : Int32)) (.int (0 : Int32)) (.int (0 : Int32)) (.int (0 : Int32)) (.int (0 : Int32)) :: (na, .inr ((.object "java/lang/String"), "[Ljava/lang/String;", [(.ref x0), (.ref x1), (.ref x2), .null, .null, .null, .null, .null, .null, .null, .null, .null, .null, .null, .null, .null])) :: H0) ((a20, b21, 0, [(.int (80 : Int32)), (.int (109 : Int32)), (.int (116 : Int32)), (.int (73 : Int32)), (.int (110 : Int32)), (.int (102 : Int32))]) :: (a14, b15, 0, [(.int (67 : Int32)), (.int (115 : Int32)), (.int (116 : Int32)), (.int (109 : Int32)), (.int (114 : Int32)), (.int (67 : Int32)), (.int (100 : Int32)), (.int (116 : Int32)), (.int (84 : Int32)), (.int (114 : Int32)), (.int (102 : Int32)), (.int (73 : Int32)), (.int (110 : Int32)), (.int (105 : Int32)), (.int (116 : Int32)), (.int (110 : Int32))]) :: (a8, b9, 0, [(.int (68 : Int32)), (.int (111 : Int32)), (.int (99 : Int32)), (.int (117 : Int32)), (.int (109 : Int32)), (.int (101 : Int32)), (.int (110 : Int32)), (.int (116 : Int32))]) :: Lt) 7 135 := B24.front (i := 1) rfl rfl
  refine r_virtual (D' := D14_is3_3) B25 d9_28 (pc' := 31) rfl (W78 B25.gw) (W79 B25.gw) (W81 B25.gw) (fun vm0 hZ => notFace_of_selects (args := #[]) (mvT hZ (W81 B25.gw))) (W80 B25.gw) (W32 B25.gw) (W82 B25.gw) (by decide) (fE (i := 1) rfl) (k_is3_3 W e a5 na x0 x1 x2 a8 a14 a20 H0 (List.mem_cons_of_mem _ (List.mem_cons_of_mem _ (List.mem_cons_of_mem _ mx0))) hl0 (List.mem_cons_of_mem _ (List.mem_cons_of_mem _ (List.mem_cons_of_mem _ mx1))) hl1 (List.mem_cons_of_mem _ (List.mem_cons_of_mem _ (List.mem_cons_of_mem _ mx2))) hl2 hs0 hs1 hs2 (List.mem_of_getElem? (i := 2) rfl) (List.mem_of_getElem? (i := 1) rfl) (List.mem_of_getElem? (i := 0) rfl)) (argsL := [(.ref a5)]) (rest := []) rfl pd6 rfl rfl rfl (W := 0) rfl (by decide) (by decide) (cs' := 7) rfl (ss' := 135) rfl (by decide) (by decide) ?_
  intro T26 v27 B28
  replace B28 := Rn.and B28
  obtain ⟨rfl, B28⟩ := B28
  show Fn g D9_ib3 M _ (T26.setTop (mkF M.m 31 #[.val (.ref e)] [(.int (0 : Int32))]))
  refine b_ifT B28 d9_31 (pc' := 38) (show (0 : Int32) = (0 : Int32) from by decide) (by decide) (by decide) ?_
  refine p_iconst B28 d9_38 (pc' := 39) rfl (v := (0 : Int32)) (by decide) ?_
  have B29 : RH g D9_ib3 M T26 (o_Pain001Reader_Element e (.ref na) (.int (3 : Int32)) (.int (0 : Int32)) (.int (0 : Int32)) (.int (0 : Int32)) (.int (0 : Int32)) :: (na, .inr ((.object "java/lang/String"), "[Ljava/lang/String;", [(.ref x0), (.ref x1), (.ref x2), .null, .null, .null, .null, .null, .null, .null, .null, .null, .null, .null, .null, .null])) :: H0) ((a20, b21, 0, [(.int (80 : Int32)), (.int (109 : Int32)), (.int (116 : Int32)), (.int (73 : Int32)), (.int (110 : Int32)), (.int (102 : Int32))]) :: (a14, b15, 0, [(.int (67 : Int32)), (.int (115 : Int32)), (.int (116 : Int32)), (.int (109 : Int32)), (.int (114 : Int32)), (.int (67 : Int32)), (.int (100 : Int32)), (.int (116 : Int32)), (.int (84 : Int32)), (.int (114 : Int32)), (.int (102 : Int32)), (.int (73 : Int32)), (.int (110 : Int32)), (.int (105 : Int32)), (.int (116 : Int32)), (.int (110 : Int32))]) :: (a8, b9, 0, [(.int (68 : Int32)), (.int (111 : Int32)), (.int (99 : Int32)), (.int (117 : Int32)), (.int (109 : Int32)), (.int (101 : Int32)), (.int (110 : Int32)), (.int (116 : Int32))]) :: Lt) 7 135 := B28.del 0 rfl
  exact r_reti B29 d9_39 rfl (by simp) rfl (by decide) (by decide) (fun vm h P => ⟨rfl, (P.lsub tl3)⟩)
abbrev D9_ib4 : DD := (⟨"com/example/polecenie/polecenie/core/Pain001Reader$Element", "isBlock", "()Z"⟩, prog_35_method_10_code, 1, (some .boolean), { frames := 0, cells := 0, slots := 0, locals := 0 })
theorem ef_ib4 (e : Addr) (m : MethodId) : entryFrame m #[(.ref e)] 1 = mkF m 0 #[.val (.ref e)] [] := by first | (simp [entryFrame, mkF, argsToLocals, Value.category]; done) | rfl
theorem k_ib4 {g : GG} (W : GW g) (e na : Addr) (x0 : Addr) (x1 : Addr) (x2 : Addr) (x3 : Addr) (H0 : List Ent) {Lt : List SE} {bx0 : Addr} {xx0 : List Int32} (mx0 : (x0, bx0, 0, xx0.map Value.int) ∈ Lt) (hl0 : xx0.length < 2147483648) {bx1 : Addr} {xx1 : List Int32} (mx1 : (x1, bx1, 0, xx1.map Value.int) ∈ Lt) (hl1 : xx1.length < 2147483648) {bx2 : Addr} {xx2 : List Int32} (mx2 : (x2, bx2, 0, xx2.map Value.int) ∈ Lt) (hl2 : xx2.length < 2147483648) {bx3 : Addr} {xx3 : List Int32} (mx3 : (x3, bx3, 0, xx3.map Value.int) ∈ Lt) (hl3 : xx3.length < 2147483648) (hs0 : xx0.length = 1) (hs1 : xx1.length = 1) (hs2 : xx2.length = 1) (hs3 : xx3.length = 1) : Ct g D9_ib4 #[.ref e] (o_Pain001Reader_Element e (.ref na) (.int (4 : Int32)) (.int (0 : Int32)) (.int (0 : Int32)) (.int (0 : Int32)) (.int (0 : Int32)) :: (na, .inr ((.object "java/lang/String"), "[Ljava/lang/String;", [(.ref x0), (.ref x1), (.ref x2), (.ref x3), .null, .null, .null, .null, .null, .null, .null, .null, .null, .null, .null, .null])) :: H0) Lt (fun v vm h => v = some (.int (0 : Int32)) ∧ Hp g vm h (o_Pain001Reader_Element e (.ref na) (.int (4 : Int32)) (.int (0 : Int32)) (.int (0 : Int32)) (.int (0 : Int32)) (.int (0 : Int32)) :: (na, .inr ((.object "java/lang/String"), "[Ljava/lang/String;", [(.ref x0), (.ref x1), (.ref x2), (.ref x3), .null, .null, .null, .null, .null, .null, .null, .null, .null, .null, .null, .null])) :: H0) Lt) := by
  refine CtW.body W (by decide +kernel) (ef_ib4 e) ?_
  intro M T B
  refine p_aloadN B d9_0 (pc' := 1) rfl rfl rfl ?_
  refine r_get B d9_1 (pc' := 4) rfl (host := "") (Or.inl (W46 B.gw)) Via.refl (v := (.int (4 : Int32))) (fO (i := 0) (j := 1) rfl rfl) ?_
  intro T1 B2
  refine p_iconst B2 d9_4 (pc' := 5) rfl (v := (3 : Int32)) (by decide) ?_
  refine b_icT B2 d9_5 (pc' := 38) (show ¬ (4 : Int32) = (3 : Int32) from by decide) (by decide) (by decide) ?_
  refine p_iconst B2 d9_38 (pc' := 39) rfl (v := (0 : Int32)) (by decide) ?_
  exact r_reti B2 d9_39 rfl (by simp) rfl (by decide) (by decide) (fun vm h P => ⟨rfl, P⟩)
abbrev D10_it1 : DD := (⟨"com/example/polecenie/polecenie/core/Pain001Reader$Element", "isTransaction", "()Z"⟩, prog_35_method_11_code, 1, (some .boolean), { frames := 0, cells := 0, slots := 0, locals := 0 })
theorem ef_it1 (e : Addr) (m : MethodId) : entryFrame m #[(.ref e)] 1 = mkF m 0 #[.val (.ref e)] [] := by first | (simp [entryFrame, mkF, argsToLocals, Value.category]; done) | rfl
theorem k_it1 {g : GG} (W : GW g) (e na : Addr) (x0 : Addr) (H0 : List Ent) {Lt : List SE} {bx0 : Addr} {xx0 : List Int32} (mx0 : (x0, bx0, 0, xx0.map Value.int) ∈ Lt) (hl0 : xx0.length < 2147483648) (hs0 : xx0.length = 1) : Ct g D10_it1 #[.ref e] (o_Pain001Reader_Element e (.ref na) (.int (1 : Int32)) (.int (0 : Int32)) (.int (0 : Int32)) (.int (0 : Int32)) (.int (0 : Int32)) :: (na, .inr ((.object "java/lang/String"), "[Ljava/lang/String;", [(.ref x0), .null, .null, .null, .null, .null, .null, .null, .null, .null, .null, .null, .null, .null, .null, .null])) :: H0) Lt (fun v vm h => v = some (.int (0 : Int32)) ∧ Hp g vm h (o_Pain001Reader_Element e (.ref na) (.int (1 : Int32)) (.int (0 : Int32)) (.int (0 : Int32)) (.int (0 : Int32)) (.int (0 : Int32)) :: (na, .inr ((.object "java/lang/String"), "[Ljava/lang/String;", [(.ref x0), .null, .null, .null, .null, .null, .null, .null, .null, .null, .null, .null, .null, .null, .null, .null])) :: H0) Lt) := by
  refine CtW.body W (by decide +kernel) (ef_it1 e) ?_
  intro M T B
  refine p_aloadN B d10_0 (pc' := 1) rfl rfl rfl ?_
  refine r_get B d10_1 (pc' := 4) rfl (host := "") (Or.inl (W46 B.gw)) Via.refl (v := (.int (1 : Int32))) (fO (i := 0) (j := 1) rfl rfl) ?_
  intro T1 B2
  refine p_iconst B2 d10_4 (pc' := 5) rfl (v := (4 : Int32)) (by decide) ?_
  refine b_icT B2 d10_5 (pc' := 35) (show ¬ (1 : Int32) = (4 : Int32) from by decide) (by decide) (by decide) ?_
  refine p_iconst B2 d10_35 (pc' := 36) rfl (v := (0 : Int32)) (by decide) ?_
  exact r_reti B2 d10_36 rfl (by simp) rfl (by decide) (by decide) (fun vm h P => ⟨rfl, P⟩)
abbrev D10_it2 : DD := (⟨"com/example/polecenie/polecenie/core/Pain001Reader$Element", "isTransaction", "()Z"⟩, prog_35_method_11_code, 1, (some .boolean), { frames := 0, cells := 0, slots := 0, locals := 0 })
theorem ef_it2 (e : Addr) (m : MethodId) : entryFrame m #[(.ref e)] 1 = mkF m 0 #[.val (.ref e)] [] := by first | (simp [entryFrame, mkF, argsToLocals, Value.category]; done) | rfl
theorem k_it2 {g : GG} (W : GW g) (e na : Addr) (x0 : Addr) (x1 : Addr) (H0 : List Ent) {Lt : List SE} {bx0 : Addr} {xx0 : List Int32} (mx0 : (x0, bx0, 0, xx0.map Value.int) ∈ Lt) (hl0 : xx0.length < 2147483648) {bx1 : Addr} {xx1 : List Int32} (mx1 : (x1, bx1, 0, xx1.map Value.int) ∈ Lt) (hl1 : xx1.length < 2147483648) (hs0 : xx0.length = 1) (hs1 : xx1.length = 1) : Ct g D10_it2 #[.ref e] (o_Pain001Reader_Element e (.ref na) (.int (2 : Int32)) (.int (0 : Int32)) (.int (0 : Int32)) (.int (0 : Int32)) (.int (0 : Int32)) :: (na, .inr ((.object "java/lang/String"), "[Ljava/lang/String;", [(.ref x0), (.ref x1), .null, .null, .null, .null, .null, .null, .null, .null, .null, .null, .null, .null, .null, .null])) :: H0) Lt (fun v vm h => v = some (.int (0 : Int32)) ∧ Hp g vm h (o_Pain001Reader_Element e (.ref na) (.int (2 : Int32)) (.int (0 : Int32)) (.int (0 : Int32)) (.int (0 : Int32)) (.int (0 : Int32)) :: (na, .inr ((.object "java/lang/String"), "[Ljava/lang/String;", [(.ref x0), (.ref x1), .null, .null, .null, .null, .null, .null, .null, .null, .null, .null, .null, .null, .null, .null])) :: H0) Lt) := by
  refine CtW.body W (by decide +kernel) (ef_it2 e) ?_
  intro M T B
  refine p_aloadN B d10_0 (pc' := 1) rfl rfl rfl ?_
  refine r_get B d10_1 (pc' := 4) rfl (host := "") (Or.inl (W46 B.gw)) Via.refl (v := (.int (2 : Int32))) (fO (i := 0) (j := 1) rfl rfl) ?_
  intro T1 B2
  refine p_iconst B2 d10_4 (pc' := 5) rfl (v := (4 : Int32)) (by decide) ?_
  refine b_icT B2 d10_5 (pc' := 35) (show ¬ (2 : Int32) = (4 : Int32) from by decide) (by decide) (by decide) ?_
  refine p_iconst B2 d10_35 (pc' := 36) rfl (v := (0 : Int32)) (by decide) ?_
  exact r_reti B2 d10_36 rfl (by simp) rfl (by decide) (by decide) (fun vm h P => ⟨rfl, P⟩)
abbrev D10_it3 : DD := (⟨"com/example/polecenie/polecenie/core/Pain001Reader$Element", "isTransaction", "()Z"⟩, prog_35_method_11_code, 1, (some .boolean), { frames := 0, cells := 0, slots := 0, locals := 0 })
theorem ef_it3 (e : Addr) (m : MethodId) : entryFrame m #[(.ref e)] 1 = mkF m 0 #[.val (.ref e)] [] := by first | (simp [entryFrame, mkF, argsToLocals, Value.category]; done) | rfl
theorem k_it3 {g : GG} (W : GW g) (e na : Addr) (x0 : Addr) (x1 : Addr) (x2 : Addr) (H0 : List Ent) {Lt : List SE} {bx0 : Addr} {xx0 : List Int32} (mx0 : (x0, bx0, 0, xx0.map Value.int) ∈ Lt) (hl0 : xx0.length < 2147483648) {bx1 : Addr} {xx1 : List Int32} (mx1 : (x1, bx1, 0, xx1.map Value.int) ∈ Lt) (hl1 : xx1.length < 2147483648) {bx2 : Addr} {xx2 : List Int32} (mx2 : (x2, bx2, 0, xx2.map Value.int) ∈ Lt) (hl2 : xx2.length < 2147483648) (hs0 : xx0.length = 1) (hs1 : xx1.length = 1) (hs2 : xx2.length = 1) : Ct g D10_it3 #[.ref e] (o_Pain001Reader_Element e (.ref na) (.int (3 : Int32)) (.int (0 : Int32)) (.int (0 : Int32)) (.int (0 : Int32)) (.int (0 : Int32)) :: (na, .inr ((.object "java/lang/String"), "[Ljava/lang/String;", [(.ref x0), (.ref x1), (.ref x2), .null, .null, .null, .null, .null, .null, .null, .null, .null, .null, .null, .null, .null])) :: H0) Lt (fun v vm h => v = some (.int (0 : Int32)) ∧ Hp g vm h (o_Pain001Reader_Element e (.ref na) (.int (3 : Int32)) (.int (0 : Int32)) (.int (0 : Int32)) (.int (0 : Int32)) (.int (0 : Int32)) :: (na, .inr ((.object "java/lang/String"), "[Ljava/lang/String;", [(.ref x0), (.ref x1), (.ref x2), .null, .null, .null, .null, .null, .null, .null, .null, .null, .null, .null, .null, .null])) :: H0) Lt) := by
  refine CtW.body W (by decide +kernel) (ef_it3 e) ?_
  intro M T B
  refine p_aloadN B d10_0 (pc' := 1) rfl rfl rfl ?_
  refine r_get B d10_1 (pc' := 4) rfl (host := "") (Or.inl (W46 B.gw)) Via.refl (v := (.int (3 : Int32))) (fO (i := 0) (j := 1) rfl rfl) ?_
  intro T1 B2
  refine p_iconst B2 d10_4 (pc' := 5) rfl (v := (4 : Int32)) (by decide) ?_
  refine b_icT B2 d10_5 (pc' := 35) (show ¬ (3 : Int32) = (4 : Int32) from by decide) (by decide) (by decide) ?_
  refine p_iconst B2 d10_35 (pc' := 36) rfl (v := (0 : Int32)) (by decide) ?_
  exact r_reti B2 d10_36 rfl (by simp) rfl (by decide) (by decide) (fun vm h P => ⟨rfl, P⟩)
abbrev D10_it4 : DD := (⟨"com/example/polecenie/polecenie/core/Pain001Reader$Element", "isTransaction", "()Z"⟩, prog_35_method_11_code, 1, (some .boolean), { frames := 0, cells := 0, slots := 0, locals := 0 })
theorem ef_it4 (e : Addr) (m : MethodId) : entryFrame m #[(.ref e)] 1 = mkF m 0 #[.val (.ref e)] [] := by first | (simp [entryFrame, mkF, argsToLocals, Value.category]; done) | rfl
theorem k_it4 {g : GG} (W : GW g) (e na : Addr) (x0 : Addr) (x1 : Addr) (x2 : Addr) (x3 : Addr) (H0 : List Ent) {Lt : List SE} {bx0 : Addr} {xx0 : List Int32} (mx0 : (x0, bx0, 0, xx0.map Value.int) ∈ Lt) (hl0 : xx0.length < 2147483648) {bx1 : Addr} {xx1 : List Int32} (mx1 : (x1, bx1, 0, xx1.map Value.int) ∈ Lt) (hl1 : xx1.length < 2147483648) {bx2 : Addr} {xx2 : List Int32} (mx2 : (x2, bx2, 0, xx2.map Value.int) ∈ Lt) (hl2 : xx2.length < 2147483648) {bx3 : Addr} {xx3 : List Int32} (mx3 : (x3, bx3, 0, xx3.map Value.int) ∈ Lt) (hl3 : xx3.length < 2147483648) (hs0 : xx0.length = 1) (hs1 : xx1.length = 1) (hs2 : xx2.length = 1) (hs3 : xx3.length = 1) : Ct g D10_it4 #[.ref e] (o_Pain001Reader_Element e (.ref na) (.int (4 : Int32)) (.int (0 : Int32)) (.int (0 : Int32)) (.int (0 : Int32)) (.int (0 : Int32)) :: (na, .inr ((.object "java/lang/String"), "[Ljava/lang/String;", [(.ref x0), (.ref x1), (.ref x2), (.ref x3), .null, .null, .null, .null, .null, .null, .null, .null, .null, .null, .null, .null])) :: H0) Lt (fun v vm h => v = some (.int (0 : Int32)) ∧ Hp g vm h (o_Pain001Reader_Element e (.ref na) (.int (4 : Int32)) (.int (0 : Int32)) (.int (0 : Int32)) (.int (0 : Int32)) (.int (0 : Int32)) :: (na, .inr ((.object "java/lang/String"), "[Ljava/lang/String;", [(.ref x0), (.ref x1), (.ref x2), (.ref x3), .null, .null, .null, .null, .null, .null, .null, .null, .null, .null, .null, .null])) :: H0) Lt) := by
  refine CtW.body W (by decide +kernel) (ef_it4 e) ?_
  intro M T B
  refine p_aloadN B d10_0 (pc' := 1) rfl rfl rfl ?_
  refine r_get B d10_1 (pc' := 4) rfl (host := "") (Or.inl (W46 B.gw)) Via.refl (v := (.int (4 : Int32))) (fO (i := 0) (j := 1) rfl rfl) ?_
  intro T1 B2
  refine p_iconst B2 d10_4 (pc' := 5) rfl (v := (4 : Int32)) (by decide) ?_
  refine b_icF B2 d10_5 (pc' := 8) rfl (show (4 : Int32) = (4 : Int32) from by decide) ?_
  refine p_aloadN B2 d10_8 (pc' := 9) rfl rfl rfl ?_
  refine r_get B2 d10_9 (pc' := 12) rfl (host := "") (Or.inl (W93 B2.gw)) Via.refl (v := (.int (0 : Int32))) (fO (i := 0) (j := 2) rfl rfl) ?_
  intro T3 B4
  refine b_ifT B4 d10_12 (pc' := 35) (show (0 : Int32) = (0 : Int32) from by decide) (by decide) (by decide) ?_
  refine p_iconst B4 d10_35 (pc' := 36) rfl (v := (0 : Int32)) (by decide) ?_
  exact r_reti B4 d10_36 rfl (by simp) rfl (by decide) (by decide) (fun vm h P => ⟨rfl, P⟩)
abbrev D8_push0 : DD := (⟨"com/example/polecenie/polecenie/core/Pain001Reader$Element", "push", "(Ljava/lang/String;)V"⟩, prog_35_method_12_code, 2, none, { frames := 1, cells := 0, slots := 0, locals := 12 })
theorem ef_push0 (e x0 : Addr) (m : MethodId) : entryFrame m #[(.ref e), (.ref x0)] 2 = mkF m 0 #[.val (.ref e), .val (.ref x0)] [] := by first | (simp [entryFrame, mkF, argsToLocals, Value.category]; done) | rfl
theorem k_push0 {g : GG} (W : GW g) (e na : Addr) (x0 : Addr) (H0 : List Ent) {Lt : List SE} {bx0 : Addr} {xx0 : List Int32} (mx0 : (x0, bx0, 0, xx0.map Value.int) ∈ Lt) (hl0 : xx0.length < 2147483648) (hs0 : xx0.length = 1) : Ct g D8_push0 #[(.ref e), (.ref x0)] (o_Pain001Reader_Element e (.ref na) (.int (0 : Int32)) (.int (0 : Int32)) (.int (0 : Int32)) (.int (0 : Int32)) (.int (0 : Int32)) :: (na, .inr ((.object "java/lang/String"), "[Ljava/lang/String;", [.null, .null, .null, .null, .null, .null, .null, .null, .null, .null, .null, .null, .null, .null, .null, .null])) :: H0) Lt (fun v vm h => v = none ∧ Hp g vm h (o_Pain001Reader_Element e (.ref na) (.int (1 : Int32)) (.int (0 : Int32)) (.int (0 : Int32)) (.int (0 : Int32)) (.int (0 : Int32)) :: (na, .inr ((.object "java/lang/String"), "[Ljava/lang/String;", [(.ref x0), .null, .null, .null, .null, .null, .null, .null, .null, .null, .null, .null, .null, .null, .null, .null])) :: H0) Lt) := by
  refine CtW.body W (by decide +kernel) (ef_push0 e x0) ?_
  intro M T B
  refine p_aloadN B d8_0 (pc' := 1) rfl rfl rfl ?_
  refine r_get B d8_1 (pc' := 4) rfl (host := "") (Or.inl (W46 B.gw)) Via.refl (v := (.int (0 : Int32))) (fO (i := 0) (j := 1) rfl rfl) ?_
  intro T1 B2
  refine p_aloadN B2 d8_4 (pc' := 5) rfl rfl rfl ?_
  refine r_get B2 d8_5 (pc' := 8) rfl (host := "") (Or.inl (W39 B2.gw)) Via.refl (v := (.ref na)) (fO (i := 0) (j := 0) rfl rfl) ?_
  intro T3 B4
  refine r_alen B4 d8_8 (pc' := 9) rfl (aH (i := 1) rfl) (z := (16 : Int32)) rfl ?_
  refine b_icT B4 d8_9 (pc' := 32) (show ¬ (0 : Int32) = (16 : Int32) from by decide) (by decide) (by decide) ?_
  refine p_aloadN B4 d8_32 (pc' := 33) rfl rfl rfl ?_
  refine r_get B4 d8_33 (pc' := 36) rfl (host := "") (Or.inl (W39 B4.gw)) Via.refl (v := (.ref na)) (fO (i := 0) (j := 0) rfl rfl) ?_
  intro T5 B6
  refine p_aloadN B6 d8_36 (pc' := 37) rfl rfl rfl ?_
  refine p_dup B6 d8_37 (pc' := 38) rfl rfl ?_
  refine r_get B6 d8_38 (pc' := 41) rfl (host := "") (Or.inl (W46 B6.gw)) Via.refl (v := (.int (0 : Int32))) (fO (i := 0) (j := 1) rfl rfl) ?_
  intro T7 B8
  refine p_dupx1 B8 d8_41 (pc' := 42) rfl rfl rfl ?_
  refine p_iconst B8 d8_42 (pc' := 43) rfl (v := (1 : Int32)) (by decide) ?_
  refine p_iadd B8 d8_43 (pc' := 44) rfl (z := (1 : Int32)) (by decide) ?_
  refine r_put B8 d8_44 (pc' := 47) rfl (host := "") (Or.inl (W46 B8.gw)) Via.refl (i := 0) (j := 1) rfl rfl (Or.inl (W47 B8.gw)) (W31 B8.gw) (ty := .int) (by decide) rfl rfl (H' := (o_Pain001Reader_Element e (.ref na) (.int (1 : Int32)) (.int (0 : Int32)) (.int (0 : Int32)) (.int (0 : Int32)) (.int (0 : Int32)) :: (na, .inr ((.object "java/lang/String"), "[Ljava/lang/String;", [.null, .null, .null, .null, .null, .null, .null, .null, .null, .null, .null, .null, .null, .null, .null, .null])) :: H0)) rfl ?_
  intro T9 B10
  refine p_aloadN B10 d8_47 (pc' := 48) rfl rfl rfl ?_
  refine r_aastore B10 d8_48 (pc' := 49) rfl (i := 1) rfl (by decide) (k := 0) (by decide) (by simp) (Or.inr ⟨_, rfl, (fun vm h E P => Ins.self ((sE mx0) vm h E P))⟩) (H' := (o_Pain001Reader_Element e (.ref na) (.int (1 : Int32)) (.int (0 : Int32)) (.int (0 : Int32)) (.int (0 : Int32)) (.int (0 : Int32)) :: (na, .inr ((.object "java/lang/String"), "[Ljava/lang/String;", [(.ref x0), .null, .null, .null, .null, .null, .null, .null, .null, .null, .null, .null, .null, .null, .null, .null])) :: H0)) rfl ?_
  intro T11 B12
  refine p_aloadN B12 d8_49 (pc' := 50) rfl rfl rfl ?_
  have B13 : RH g D8_push0 M T11 ((na, .inr ((.object "java/lang/String"), "[Ljava/lang/String;", [(.ref x0), .null, .null, .null, .null, .null, .null, .null, .null, .null, .null, .null, .null, .null, .null, .null])) :: o_Pain001Reader_Element e (.ref na) (.int (1 : Int32)) (.int (0 : Int32)) (.int (0 : Int32)) (.int (0 : Int32)) (.int (0 : Int32)) :: H0) (Lt) 0 0 := B12.front (i := 1) rfl rfl
  have B14 : RH g D8_push0 M T11 (o_Pain001Reader_Element e (.ref na) (.int (1 : Int32)) (.int (0 : Int32)) (.int (0 : Int32)) (.int (0 : Int32)) (.int (0 : Int32)) :: (na, .inr ((.object "java/lang/String"), "[Ljava/lang/String;", [(.ref x0), .null, .null, .null, .null, .null, .null, .null, .null, .null, .null, .null, .null, .null, .null, .null])) :: H0) (Lt) 0 0 := B13.front (i := 1) rfl rfl
  refine r_virtual (D' := D9_ib1) B14 d8_50 (pc' := 53) rfl (W48 B14.gw) (W49 B14.gw) (W51 B14.gw) (fun vm0 hZ => notFace_of_selects (args := #[]) (mvT hZ (W51 B14.gw))) (W50 B14.gw) (W32 B14.gw) (W52 B14.gw) (by decide) (fE (i := 0) rfl) (k_ib1 W e na x0 H0 mx0 hl0 hs0) (argsL := []) (rest := []) rfl pd7 rfl rfl rfl (W := 0) rfl (by decide) (by decide) (cs' := 0) rfl (ss' := 0) rfl (by decide) (by decide) ?_
  intro T15 v16 B17
  replace B17 := Rn.and B17
  obtain ⟨rfl, B17⟩ := B17
  show Fn g D8_push0 M _ (T15.setTop (mkF M.m 53 #[.val (.ref e), .val (.ref x0)] [(.int (0 : Int32))]))
  refine b_ifT B17 d8_53 (pc' := 79) (show (0 : Int32) = (0 : Int32) from by decide) (by decide) (by decide) ?_
  refine p_aloadN B17 d8_79 (pc' := 80) rfl rfl rfl ?_
  have B18 : RH g D8_push0 M T15 ((na, .inr ((.object "java/lang/String"), "[Ljava/lang/String;", [(.ref x0), .null, .null, .null, .null, .null, .null, .null, .null, .null, .null, .null, .null, .null, .null, .null])) :: o_Pain001Reader_Element e (.ref na) (.int (1 : Int32)) (.int (0 : Int32)) (.int (0 : Int32)) (.int (0 : Int32)) (.int (0 : Int32)) :: H0) (Lt) 0 0 := B17.front (i := 1) rfl rfl
  have B19 : RH g D8_push0 M T15 (o_Pain001Reader_Element e (.ref na) (.int (1 : Int32)) (.int (0 : Int32)) (.int (0 : Int32)) (.int (0 : Int32)) (.int (0 : Int32)) :: (na, .inr ((.object "java/lang/String"), "[Ljava/lang/String;", [(.ref x0), .null, .null, .null, .null, .null, .null, .null, .null, .null, .null, .null, .null, .null, .null, .null])) :: H0) (Lt) 0 0 := B18.front (i := 1) rfl rfl
  refine r_virtual (D' := D10_it1) B19 d8_80 (pc' := 83) rfl (W53 B19.gw) (W54 B19.gw) (W56 B19.gw) (fun vm0 hZ => notFace_of_selects (args := #[]) (mvT hZ (W56 B19.gw))) (W55 B19.gw) (W32 B19.gw) (W57 B19.gw) (by decide) (fE (i := 0) rfl) (k_it1 W e na x0 H0 mx0 hl0 hs0) (argsL := []) (rest := []) rfl pd7 rfl rfl rfl (W := 0) rfl (by decide) (by decide) (cs' := 0) rfl (ss' := 0) rfl (by decide) (by decide) ?_
  intro T20 v21 B22
  replace B22 := Rn.and B22
  obtain ⟨rfl, B22⟩ := B22
  show Fn g D8_push0 M _ (T20.setTop (mkF M.m 83 #[.val (.ref e), .val (.ref x0)] [(.int (0 : Int32))]))
  refine b_ifT B22 d8_83 (pc' := 101) (show (0 : Int32) = (0 : Int32) from by decide) (by decide) (by decide) ?_
  have B23 : RH g D8_push0 M T20 ((na, .inr ((.object "java/lang/String"), "[Ljava/lang/String;", [(.ref x0), .null, .null, .null, .null, .null, .null, .null, .null, .null, .null, .null, .null, .null, .null, .null])) :: o_Pain001Reader_Element e (.ref na) (.int (1 : Int32)) (.int (0 : Int32)) (.int (0 : Int32)) (.int (0 : Int32)) (.int (0 : Int32)) :: H0) (Lt) 0 0 := B22.front (i := 1) rfl rfl
  have B24 : RH g D8_push0 M T20 (o_Pain001Reader_Element e (.ref na) (.int (1 : Int32)) (.int (0 : Int32)) (.int (0 : Int32)) (.int (0 : Int32)) (.int (0 : Int32)) :: (na, .inr ((.object "java/lang/String"), "[Ljava/lang/String;", [(.ref x0), .null, .null, .null, .null, .null, .null, .null, .null, .null, .null, .null, .null, .null, .null, .null])) :: H0) (Lt) 0 0 := B23.front (i := 1) rfl rfl
  exact r_ret B24 d8_101 rfl (by decide) (by decide) (fun vm h P => ⟨rfl, P⟩)
abbrev D8_push1 : DD := (⟨"com/example/polecenie/polecenie/core/Pain001Reader$Element", "push", "(Ljava/lang/String;)V"⟩, prog_35_method_12_code, 2, none, { frames := 1, cells := 0, slots := 0, locals := 12 })
theorem ef_push1 (e x1 : Addr) (m : MethodId) : entryFrame m #[(.ref e), (.ref x1)] 2 = mkF m 0 #[.val (.ref e), .val (.ref x1)] [] := by first | (simp [entryFrame, mkF, argsToLocals, Value.category]; done) | rfl
theorem k_push1 {g : GG} (W : GW g) (e na : Addr) (x0 : Addr) (x1 : Addr) (H0 : List Ent) {Lt : List SE} {bx0 : Addr} {xx0 : List Int32} (mx0 : (x0, bx0, 0, xx0.map Value.int) ∈ Lt) (hl0 : xx0.length < 2147483648) {bx1 : Addr} {xx1 : List Int32} (mx1 : (x1, bx1, 0, xx1.map Value.int) ∈ Lt) (hl1 : xx1.length < 2147483648) (hs0 : xx0.length = 1) (hs1 : xx1.length = 1) : Ct g D8_push1 #[(.ref e), (.ref x1)] (o_Pain001Reader_Element e (.ref na) (.int (1 : Int32)) (.int (0 : Int32)) (.int (0 : Int32)) (.int (0 : Int32)) (.int (0 : Int32)) :: (na, .inr ((.object "java/lang/String"), "[Ljava/lang/String;", [(.ref x0), .null, .null, .null, .null, .null, .null, .null, .null, .null, .null, .null, .null, .null, .null, .null])) :: H0) Lt (fun v vm h => v = none ∧ Hp g vm h (o_Pain001Reader_Element e (.ref na) (.int (2 : Int32)) (.int (0 : Int32)) (.int (0 : Int32)) (.int (0 : Int32)) (.int (0 : Int32)) :: (na, .inr ((.object "java/lang/String"), "[Ljava/lang/String;", [(.ref x0), (.ref x1), .null, .null, .null, .null, .null, .null, .null, .null, .null, .null, .null, .null, .null, .null])) :: H0) Lt) := by
  refine CtW.body W (by decide +kernel) (ef_push1 e x1) ?_
  intro M T B
  refine p_aloadN B d8_0 (pc' := 1) rfl rfl rfl ?_
  refine r_get B d8_1 (pc' := 4) rfl (host := "") (Or.inl (W46 B.gw)) Via.refl (v := (.int (1 : Int32))) (fO (i := 0) (j := 1) rfl rfl) ?_
  intro T1 B2
  refine p_aloadN B2 d8_4 (pc' := 5) rfl rfl rfl ?_
  refine r_get B2 d8_5 (pc' := 8) rfl (host := "") (Or.inl (W39 B2.gw)) Via.refl (v := (.ref na)) (fO (i := 0) (j := 0) rfl rfl) ?_
  intro T3 B4
  refine r_alen B4 d8_8 (pc' := 9) rfl (aH (i := 1) rfl) (z := (16 : Int32)) rfl ?_
  refine b_icT B4 d8_9 (pc' := 32) (show ¬ (1 : Int32) = (16 : Int32) from by decide) (by decide) (by decide) ?_
  refine p_aloadN B4 d8_32 (pc' := 33) rfl rfl rfl ?_
  refine r_get B4 d8_33 (pc' := 36) rfl (host := "") (Or.inl (W39 B4.gw)) Via.refl (v := (.ref na)) (fO (i := 0) (j := 0) rfl rfl) ?_
  intro T5 B6
  refine p_aloadN B6 d8_36 (pc' := 37) rfl rfl rfl ?_
  refine p_dup B6 d8_37 (pc' := 38) rfl rfl ?_
  refine r_get B6 d8_38 (pc' := 41) rfl (host := "") (Or.inl (W46 B6.gw)) Via.refl (v := (.int (1 : Int32))) (fO (i := 0) (j := 1) rfl rfl) ?_
  intro T7 B8
  refine p_dupx1 B8 d8_41 (pc' := 42) rfl rfl rfl ?_
  refine p_iconst B8 d8_42 (pc' := 43) rfl (v := (1 : Int32)) (by decide) ?_
  refine p_iadd B8 d8_43 (pc' := 44) rfl (z := (2 : Int32)) (by decide) ?_
  refine r_put B8 d8_44 (pc' := 47) rfl (host := "") (Or.inl (W46 B8.gw)) Via.refl (i := 0) (j := 1) rfl rfl (Or.inl (W47 B8.gw)) (W31 B8.gw) (ty := .int) (by decide) rfl rfl (H' := (o_Pain001Reader_Element e (.ref na) (.int (2 : Int32)) (.int (0 : Int32)) (.int (0 : Int32)) (.int (0 : Int32)) (.int (0 : Int32)) :: (na, .inr ((.object "java/lang/String"), "[Ljava/lang/String;", [(.ref x0), .null, .null, .null, .null, .null, .null, .null, .null, .null, .null, .null, .null, .null, .null, .null])) :: H0)) rfl ?_
  intro T9 B10
  refine p_aloadN B10 d8_47 (pc' := 48) rfl rfl rfl ?_
  refine r_aastore B10 d8_48 (pc' := 49) rfl (i := 1) rfl (by decide) (k := 1) (by decide) (by simp) (Or.inr ⟨_, rfl, (fun vm h E P => Ins.self ((sE mx1) vm h E P))⟩) (H' := (o_Pain001Reader_Element e (.ref na) (.int (2 : Int32)) (.int (0 : Int32)) (.int (0 : Int32)) (.int (0 : Int32)) (.int (0 : Int32)) :: (na, .inr ((.object "java/lang/String"), "[Ljava/lang/String;", [(.ref x0), (.ref x1), .null, .null, .null, .null, .null, .null, .null, .null, .null, .null, .null, .null, .null, .null])) :: H0)) rfl ?_
  intro T11 B12
  refine p_aloadN B12 d8_49 (pc' := 50) rfl rfl rfl ?_
  have B13 : RH g D8_push1 M T11 ((na, .inr ((.object "java/lang/String"), "[Ljava/lang/String;", [(.ref x0), (.ref x1), .null, .null, .null, .null, .null, .null, .null, .null, .null, .null, .null, .null, .null, .null])) :: o_Pain001Reader_Element e (.ref na) (.int (2 : Int32)) (.int (0 : Int32)) (.int (0 : Int32)) (.int (0 : Int32)) (.int (0 : Int32)) :: H0) (Lt) 0 0 := B12.front (i := 1) rfl rfl
  have B14 : RH g D8_push1 M T11 (o_Pain001Reader_Element e (.ref na) (.int (2 : Int32)) (.int (0 : Int32)) (.int (0 : Int32)) (.int (0 : Int32)) (.int (0 : Int32)) :: (na, .inr ((.object "java/lang/String"), "[Ljava/lang/String;", [(.ref x0), (.ref x1), .null, .null, .null, .null, .null, .null, .null, .null, .null, .null, .null, .null, .null, .null])) :: H0) (Lt) 0 0 := B13.front (i := 1) rfl rfl
  refine r_virtual (D' := D9_ib2) B14 d8_50 (pc' := 53) rfl (W48 B14.gw) (W49 B14.gw) (W51 B14.gw) (fun vm0 hZ => notFace_of_selects (args := #[]) (mvT hZ (W51 B14.gw))) (W50 B14.gw) (W32 B14.gw) (W52 B14.gw) (by decide) (fE (i := 0) rfl) (k_ib2 W e na x0 x1 H0 mx0 hl0 mx1 hl1 hs0 hs1) (argsL := []) (rest := []) rfl pd7 rfl rfl rfl (W := 0) rfl (by decide) (by decide) (cs' := 0) rfl (ss' := 0) rfl (by decide) (by decide) ?_
  intro T15 v16 B17
  replace B17 := Rn.and B17
  obtain ⟨rfl, B17⟩ := B17
  show Fn g D8_push1 M _ (T15.setTop (mkF M.m 53 #[.val (.ref e), .val (.ref x1)] [(.int (0 : Int32))]))
  refine b_ifT B17 d8_53 (pc' := 79) (show (0 : Int32) = (0 : Int32) from by decide) (by decide) (by decide) ?_
  refine p_aloadN B17 d8_79 (pc' := 80) rfl rfl rfl ?_
  have B18 : RH g D8_push1 M T15 ((na, .inr ((.object "java/lang/String"), "[Ljava/lang/String;", [(.ref x0), (.ref x1), .null, .null, .null, .null, .null, .null, .null, .null, .null, .null, .null, .null, .null, .null])) :: o_Pain001Reader_Element e (.ref na) (.int (2 : Int32)) (.int (0 : Int32)) (.int (0 : Int32)) (.int (0 : Int32)) (.int (0 : Int32)) :: H0) (Lt) 0 0 := B17.front (i := 1) rfl rfl
  have B19 : RH g D8_push1 M T15 (o_Pain001Reader_Element e (.ref na) (.int (2 : Int32)) (.int (0 : Int32)) (.int (0 : Int32)) (.int (0 : Int32)) (.int (0 : Int32)) :: (na, .inr ((.object "java/lang/String"), "[Ljava/lang/String;", [(.ref x0), (.ref x1), .null, .null, .null, .null, .null, .null, .null, .null, .null, .null, .null, .null, .null, .null])) :: H0) (Lt) 0 0 := B18.front (i := 1) rfl rfl
  refine r_virtual (D' := D10_it2) B19 d8_80 (pc' := 83) rfl (W53 B19.gw) (W54 B19.gw) (W56 B19.gw) (fun vm0 hZ => notFace_of_selects (args := #[]) (mvT hZ (W56 B19.gw))) (W55 B19.gw) (W32 B19.gw) (W57 B19.gw) (by decide) (fE (i := 0) rfl) (k_it2 W e na x0 x1 H0 mx0 hl0 mx1 hl1 hs0 hs1) (argsL := []) (rest := []) rfl pd7 rfl rfl rfl (W := 0) rfl (by decide) (by decide) (cs' := 0) rfl (ss' := 0) rfl (by decide) (by decide) ?_
  intro T20 v21 B22
  replace B22 := Rn.and B22
  obtain ⟨rfl, B22⟩ := B22
  show Fn g D8_push1 M _ (T20.setTop (mkF M.m 83 #[.val (.ref e), .val (.ref x1)] [(.int (0 : Int32))]))
  refine b_ifT B22 d8_83 (pc' := 101) (show (0 : Int32) = (0 : Int32) from by decide) (by decide) (by decide) ?_
  have B23 : RH g D8_push1 M T20 ((na, .inr ((.object "java/lang/String"), "[Ljava/lang/String;", [(.ref x0), (.ref x1), .null, .null, .null, .null, .null, .null, .null, .null, .null, .null, .null, .null, .null, .null])) :: o_Pain001Reader_Element e (.ref na) (.int (2 : Int32)) (.int (0 : Int32)) (.int (0 : Int32)) (.int (0 : Int32)) (.int (0 : Int32)) :: H0) (Lt) 0 0 := B22.front (i := 1) rfl rfl
  have B24 : RH g D8_push1 M T20 (o_Pain001Reader_Element e (.ref na) (.int (2 : Int32)) (.int (0 : Int32)) (.int (0 : Int32)) (.int (0 : Int32)) (.int (0 : Int32)) :: (na, .inr ((.object "java/lang/String"), "[Ljava/lang/String;", [(.ref x0), (.ref x1), .null, .null, .null, .null, .null, .null, .null, .null, .null, .null, .null, .null, .null, .null])) :: H0) (Lt) 0 0 := B23.front (i := 1) rfl rfl
  exact r_ret B24 d8_101 rfl (by decide) (by decide) (fun vm h P => ⟨rfl, P⟩)
abbrev D8_push2 : DD := (⟨"com/example/polecenie/polecenie/core/Pain001Reader$Element", "push", "(Ljava/lang/String;)V"⟩, prog_35_method_12_code, 2, none, { frames := 4, cells := 7, slots := 135, locals := 54 })
theorem ef_push2 (e x2 : Addr) (m : MethodId) : entryFrame m #[(.ref e), (.ref x2)] 2 = mkF m 0 #[.val (.ref e), .val (.ref x2)] [] := by first | (simp [entryFrame, mkF, argsToLocals, Value.category]; done) | rfl
theorem k_push2 {g : GG} (W : GW g) (e na : Addr) (x0 : Addr) (x1 : Addr) (x2 : Addr) (H0 : List Ent) {Lt : List SE} {bx0 : Addr} {xx0 : List Int32} (mx0 : (x0, bx0, 0, xx0.map Value.int) ∈ Lt) (hl0 : xx0.length < 2147483648) {bx1 : Addr} {xx1 : List Int32} (mx1 : (x1, bx1, 0, xx1.map Value.int) ∈ Lt) (hl1 : xx1.length < 2147483648) {bx2 : Addr} {xx2 : List Int32} (mx2 : (x2, bx2, 0, xx2.map Value.int) ∈ Lt) (hl2 : xx2.length < 2147483648) (hs0 : xx0.length = 1) (hs1 : xx1.length = 1) (hs2 : xx2.length = 1) : Ct g D8_push2 #[(.ref e), (.ref x2)] (o_Pain001Reader_Element e (.ref na) (.int (2 : Int32)) (.int (0 : Int32)) (.int (0 : Int32)) (.int (0 : Int32)) (.int (0 : Int32)) :: (na, .inr ((.object "java/lang/String"), "[Ljava/lang/String;", [(.ref x0), (.ref x1), .null, .null, .null, .null, .null, .null, .null, .null, .null, .null, .null, .null, .null, .null])) :: H0) Lt (fun v vm h => v = none ∧ Hp g vm h (o_Pain001Reader_Element e (.ref na) (.int (3 : Int32)) (.int (0 : Int32)) (.int (0 : Int32)) (.int (0 : Int32)) (.int (0 : Int32)) :: (na, .inr ((.object "java/lang/String"), "[Ljava/lang/String;", [(.ref x0), (.ref x1), (.ref x2), .null, .null, .null, .null, .null, .null, .null, .null, .null, .null, .null, .null, .null])) :: H0) Lt) := by
  refine CtW.body W (by decide +kernel) (ef_push2 e x2) ?_
  intro M T B
  refine p_aloadN B d8_0 (pc' := 1) rfl rfl rfl ?_
  refine r_get B d8_1 (pc' := 4) rfl (host := "") (Or.inl (W46 B.gw)) Via.refl (v := (.int (2 : Int32))) (fO (i := 0) (j := 1) rfl rfl) ?_
  intro T1 B2
  refine p_aloadN B2 d8_4 (pc' := 5) rfl rfl rfl ?_
  refine r_get B2 d8_5 (pc' := 8) rfl (host := "") (Or.inl (W39 B2.gw)) Via.refl (v := (.ref na)) (fO (i := 0) (j := 0) rfl rfl) ?_
  intro T3 B4
  refine r_alen B4 d8_8 (pc' := 9) rfl (aH (i := 1) rfl) (z := (16 : Int32)) rfl ?_
  refine b_icT B4 d8_9 (pc' := 32) (show ¬ (2 : Int32) = (16 : Int32) from by decide) (by decide) (by decide) ?_
  refine p_aloadN B4 d8_32 (pc' := 33) rfl rfl rfl ?_
  refine r_get B4 d8_33 (pc' := 36) rfl (host := "") (Or.inl (W39 B4.gw)) Via.refl (v := (.ref na)) (fO (i := 0) (j := 0) rfl rfl) ?_
  intro T5 B6
  refine p_aloadN B6 d8_36 (pc' := 37) rfl rfl rfl ?_
  refine p_dup B6 d8_37 (pc' := 38) rfl rfl ?_
  refine r_get B6 d8_38 (pc' := 41) rfl (host := "") (Or.inl (W46 B6.gw)) Via.refl (v := (.int (2 : Int32))) (fO (i := 0) (j := 1) rfl rfl) ?_
  intro T7 B8
  refine p_dupx1 B8 d8_41 (pc' := 42) rfl rfl rfl ?_
  refine p_iconst B8 d8_42 (pc' := 43) rfl (v := (1 : Int32)) (by decide) ?_
  refine p_iadd B8 d8_43 (pc' := 44) rfl (z := (3 : Int32)) (by decide) ?_
  refine r_put B8 d8_44 (pc' := 47) rfl (host := "") (Or.inl (W46 B8.gw)) Via.refl (i := 0) (j := 1) rfl rfl (Or.inl (W47 B8.gw)) (W31 B8.gw) (ty := .int) (by decide) rfl rfl (H' := (o_Pain001Reader_Element e (.ref na) (.int (3 : Int32)) (.int (0 : Int32)) (.int (0 : Int32)) (.int (0 : Int32)) (.int (0 : Int32)) :: (na, .inr ((.object "java/lang/String"), "[Ljava/lang/String;", [(.ref x0), (.ref x1), .null, .null, .null, .null, .null, .null, .null, .null, .null, .null, .null, .null, .null, .null])) :: H0)) rfl ?_
  intro T9 B10
  refine p_aloadN B10 d8_47 (pc' := 48) rfl rfl rfl ?_
  refine r_aastore B10 d8_48 (pc' := 49) rfl (i := 1) rfl (by decide) (k := 2) (by decide) (by simp) (Or.inr ⟨_, rfl, (fun vm h E P => Ins.self ((sE mx2) vm h E P))⟩) (H' := (o_Pain001Reader_Element e (.ref na) (.int (3 : Int32)) (.int (0 : Int32)) (.int (0 : Int32)) (.int (0 : Int32)) (.int (0 : Int32)) :: (na, .inr ((.object "java/lang/String"), "[Ljava/lang/String;", [(.ref x0), (.ref x1), (.ref x2), .null, .null, .null, .null, .null, .null, .null, .null, .null, .null, .null, .null, .null])) :: H0)) rfl ?_
  intro T11 B12
  refine p_aloadN B12 d8_49 (pc' := 50) rfl rfl rfl ?_
  have B13 : RH g D8_push2 M T11 ((na, .inr ((.object "java/lang/String"), "[Ljava/lang/String;", [(.ref x0), (.ref x1), (.ref x2), .null, .null, .null, .null, .null, .null, .null, .null, .null, .null, .null, .null, .null])) :: o_Pain001Reader_Element e (.ref na) (.int (3 : Int32)) (.int (0 : Int32)) (.int (0 : Int32)) (.int (0 : Int32)) (.int (0 : Int32)) :: H0) (Lt) 0 0 := B12.front (i := 1) rfl rfl
  have B14 : RH g D8_push2 M T11 (o_Pain001Reader_Element e (.ref na) (.int (3 : Int32)) (.int (0 : Int32)) (.int (0 : Int32)) (.int (0 : Int32)) (.int (0 : Int32)) :: (na, .inr ((.object "java/lang/String"), "[Ljava/lang/String;", [(.ref x0), (.ref x1), (.ref x2), .null, .null, .null, .null, .null, .null, .null, .null, .null, .null, .null, .null, .null])) :: H0) (Lt) 0 0 := B13.front (i := 1) rfl rfl
  refine r_virtual (D' := D9_ib3) B14 d8_50 (pc' := 53) rfl (W48 B14.gw) (W49 B14.gw) (W51 B14.gw) (fun vm0 hZ => notFace_of_selects (args := #[]) (mvT hZ (W51 B14.gw))) (W50 B14.gw) (W32 B14.gw) (W52 B14.gw) (by decide) (fE (i := 0) rfl) (k_ib3 W e na x0 x1 x2 H0 mx0 hl0 mx1 hl1 mx2 hl2 hs0 hs1 hs2) (argsL := []) (rest := []) rfl pd7 rfl rfl rfl (W := 0) rfl (by decide) (by decide) (cs' := 7) rfl (ss' := 135) rfl (by decide) (by decide) ?_
  intro T15 v16 B17
  replace B17 := Rn.and B17
  obtain ⟨rfl, B17⟩ := B17
  show Fn g D8_push2 M _ (T15.setTop (mkF M.m 53 #[.val (.ref e), .val (.ref x2)] [(.int (0 : Int32))]))
  refine b_ifT B17 d8_53 (pc' := 79) (show (0 : Int32) = (0 : Int32) from by decide) (by decide) (by decide) ?_
  refine p_aloadN B17 d8_79 (pc' := 80) rfl rfl rfl ?_
  have B18 : RH g D8_push2 M T15 ((na, .inr ((.object "java/lang/String"), "[Ljava/lang/String;", [(.ref x0), (.ref x1), (.ref x2), .null, .null, .null, .null, .null, .null, .null, .null, .null, .null, .null, .null, .null])) :: o_Pain001Reader_Element e (.ref na) (.int (3 : Int32)) (.int (0 : Int32)) (.int (0 : Int32)) (.int (0 : Int32)) (.int (0 : Int32)) :: H0) (Lt) 7 135 := B17.front (i := 1) rfl rfl
  have B19 : RH g D8_push2 M T15 (o_Pain001Reader_Element e (.ref na) (.int (3 : Int32)) (.int (0 : Int32)) (.int (0 : Int32)) (.int (0 : Int32)) (.int (0 : Int32)) :: (na, .inr ((.object "java/lang/String"), "[Ljava/lang/String;", [(.ref x0), (.ref x1), (.ref x2), .null, .null, .null, .null, .null, .null, .null, .null, .null, .null, .null, .null, .null])) :: H0) (Lt) 7 135 := B18.front (i := 1) rfl rfl
  refine r_virtual (D' := D10_it3) B19 d8_80 (pc' := 83) rfl (W53 B19.gw) (W54 B19.gw) (W56 B19.gw) (fun vm0 hZ => notFace_of_selects (args := #[]) (mvT hZ (W56 B19.gw))) (W55 B19.gw) (W32 B19.gw) (W57 B19.gw) (by decide) (fE (i := 0) rfl) (k_it3 W e na x0 x1 x2 H0 mx0 hl0 mx1 hl1 mx2 hl2 hs0 hs1 hs2) (argsL := []) (rest := []) rfl pd7 rfl rfl rfl (W := 0) rfl (by decide) (by decide) (cs' := 7) rfl (ss' := 135) rfl (by decide) (by decide) ?_
  intro T20 v21 B22
  replace B22 := Rn.and B22
  obtain ⟨rfl, B22⟩ := B22
  show Fn g D8_push2 M _ (T20.setTop (mkF M.m 83 #[.val (.ref e), .val (.ref x2)] [(.int (0 : Int32))]))
  refine b_ifT B22 d8_83 (pc' := 101) (show (0 : Int32) = (0 : Int32) from by decide) (by decide) (by decide) ?_
  have B23 : RH g D8_push2 M T20 ((na, .inr ((.object "java/lang/String"), "[Ljava/lang/String;", [(.ref x0), (.ref x1), (.ref x2), .null, .null, .null, .null, .null, .null, .null, .null, .null, .null, .null, .null, .null])) :: o_Pain001Reader_Element e (.ref na) (.int (3 : Int32)) (.int (0 : Int32)) (.int (0 : Int32)) (.int (0 : Int32)) (.int (0 : Int32)) :: H0) (Lt) 7 135 := B22.front (i := 1) rfl rfl
  have B24 : RH g D8_push2 M T20 (o_Pain001Reader_Element e (.ref na) (.int (3 : Int32)) (.int (0 : Int32)) (.int (0 : Int32)) (.int (0 : Int32)) (.int (0 : Int32)) :: (na, .inr ((.object "java/lang/String"), "[Ljava/lang/String;", [(.ref x0), (.ref x1), (.ref x2), .null, .null, .null, .null, .null, .null, .null, .null, .null, .null, .null, .null, .null])) :: H0) (Lt) 7 135 := B23.front (i := 1) rfl rfl
  exact r_ret B24 d8_101 rfl (by decide) (by decide) (fun vm h P => ⟨rfl, P⟩)
abbrev D8_push3 : DD := (⟨"com/example/polecenie/polecenie/core/Pain001Reader$Element", "push", "(Ljava/lang/String;)V"⟩, prog_35_method_12_code, 2, none, { frames := 1, cells := 0, slots := 0, locals := 12 })
theorem ef_push3 (e x3 : Addr) (m : MethodId) : entryFrame m #[(.ref e), (.ref x3)] 2 = mkF m 0 #[.val (.ref e), .val (.ref x3)] [] := by first | (simp [entryFrame, mkF, argsToLocals, Value.category]; done) | rfl
theorem k_push3 {g : GG} (W : GW g) (e na : Addr) (x0 : Addr) (x1 : Addr) (x2 : Addr) (x3 : Addr) (H0 : List Ent) {Lt : List SE} {bx0 : Addr} {xx0 : List Int32} (mx0 : (x0, bx0, 0, xx0.map Value.int) ∈ Lt) (hl0 : xx0.length < 2147483648) {bx1 : Addr} {xx1 : List Int32} (mx1 : (x1, bx1, 0, xx1.map Value.int) ∈ Lt) (hl1 : xx1.length < 2147483648) {bx2 : Addr} {xx2 : List Int32} (mx2 : (x2, bx2, 0, xx2.map Value.int) ∈ Lt) (hl2 : xx2.length < 2147483648) {bx3 : Addr} {xx3 : List Int32} (mx3 : (x3, bx3, 0, xx3.map Value.int) ∈ Lt) (hl3 : xx3.length < 2147483648) (hs0 : xx0.length = 1) (hs1 : xx1.length = 1) (hs2 : xx2.length = 1) (hs3 : xx3.length = 1) : Ct g D8_push3 #[(.ref e), (.ref x3)] (o_Pain001Reader_Element e (.ref na) (.int (3 : Int32)) (.int (0 : Int32)) (.int (0 : Int32)) (.int (0 : Int32)) (.int (0 : Int32)) :: (na, .inr ((.object "java/lang/String"), "[Ljava/lang/String;", [(.ref x0), (.ref x1), (.ref x2), .null, .null, .null, .null, .null, .null, .null, .null, .null, .null, .null, .null, .null])) :: H0) Lt (fun v vm h => v = none ∧ Hp g vm h (o_Pain001Reader_Element e (.ref na) (.int (4 : Int32)) (.int (0 : Int32)) (.int (0 : Int32)) (.int (0 : Int32)) (.int (0 : Int32)) :: (na, .inr ((.object "java/lang/String"), "[Ljava/lang/String;", [(.ref x0), (.ref x1), (.ref x2), (.ref x3), .null, .null, .null, .null, .null, .null, .null, .null, .null, .null, .null, .null])) :: H0) Lt) := by
  refine CtW.body W (by decide +kernel) (ef_push3 e x3) ?_
  intro M T B
  refine p_aloadN B d8_0 (pc' := 1) rfl rfl rfl ?_
  refine r_get B d8_1 (pc' := 4) rfl (host := "") (Or.inl (W46 B.gw)) Via.refl (v := (.int (3 : Int32))) (fO (i := 0) (j := 1) rfl rfl) ?_
  intro T1 B2
  refine p_aloadN B2 d8_4 (pc' := 5) rfl rfl rfl ?_
  refine r_get B2 d8_5 (pc' := 8) rfl (host := "") (Or.inl (W39 B2.gw)) Via.refl (v := (.ref na)) (fO (i := 0) (j := 0) rfl rfl) ?_
  intro T3 B4
  refine r_alen B4 d8_8 (pc' := 9) rfl (aH (i := 1) rfl) (z := (16 : Int32)) rfl ?_
  refine b_icT B4 d8_9 (pc' := 32) (show ¬ (3 : Int32) = (16 : Int32) from by decide) (by decide) (by decide) ?_
  refine p_aloadN B4 d8_32 (pc' := 33) rfl rfl rfl ?_
  refine r_get B4 d8_33 (pc' := 36) rfl (host := "") (Or.inl (W39 B4.gw)) Via.refl (v := (.ref na)) (fO (i := 0) (j := 0) rfl rfl) ?_
  intro T5 B6
  refine p_aloadN B6 d8_36 (pc' := 37) rfl rfl rfl ?_
  refine p_dup B6 d8_37 (pc' := 38) rfl rfl ?_
  refine r_get B6 d8_38 (pc' := 41) rfl (host := "") (Or.inl (W46 B6.gw)) Via.refl (v := (.int (3 : Int32))) (fO (i := 0) (j := 1) rfl rfl) ?_
  intro T7 B8
  refine p_dupx1 B8 d8_41 (pc' := 42) rfl rfl rfl ?_
  refine p_iconst B8 d8_42 (pc' := 43) rfl (v := (1 : Int32)) (by decide) ?_
  refine p_iadd B8 d8_43 (pc' := 44) rfl (z := (4 : Int32)) (by decide) ?_
  refine r_put B8 d8_44 (pc' := 47) rfl (host := "") (Or.inl (W46 B8.gw)) Via.refl (i := 0) (j := 1) rfl rfl (Or.inl (W47 B8.gw)) (W31 B8.gw) (ty := .int) (by decide) rfl rfl (H' := (o_Pain001Reader_Element e (.ref na) (.int (4 : Int32)) (.int (0 : Int32)) (.int (0 : Int32)) (.int (0 : Int32)) (.int (0 : Int32)) :: (na, .inr ((.object "java/lang/String"), "[Ljava/lang/String;", [(.ref x0), (.ref x1), (.ref x2), .null, .null, .null, .null, .null, .null, .null, .null, .null, .null, .null, .null, .null])) :: H0)) rfl ?_
  intro T9 B10
  refine p_aloadN B10 d8_47 (pc' := 48) rfl rfl rfl ?_
  refine r_aastore B10 d8_48 (pc' := 49) rfl (i := 1) rfl (by decide) (k := 3) (by decide) (by simp) (Or.inr ⟨_, rfl, (fun vm h E P => Ins.self ((sE mx3) vm h E P))⟩) (H' := (o_Pain001Reader_Element e (.ref na) (.int (4 : Int32)) (.int (0 : Int32)) (.int (0 : Int32)) (.int (0 : Int32)) (.int (0 : Int32)) :: (na, .inr ((.object "java/lang/String"), "[Ljava/lang/String;", [(.ref x0), (.ref x1), (.ref x2), (.ref x3), .null, .null, .null, .null, .null, .null, .null, .null, .null, .null, .null, .null])) :: H0)) rfl ?_
  intro T11 B12
  refine p_aloadN B12 d8_49 (pc' := 50) rfl rfl rfl ?_
  have B13 : RH g D8_push3 M T11 ((na, .inr ((.object "java/lang/String"), "[Ljava/lang/String;", [(.ref x0), (.ref x1), (.ref x2), (.ref x3), .null, .null, .null, .null, .null, .null, .null, .null, .null, .null, .null, .null])) :: o_Pain001Reader_Element e (.ref na) (.int (4 : Int32)) (.int (0 : Int32)) (.int (0 : Int32)) (.int (0 : Int32)) (.int (0 : Int32)) :: H0) (Lt) 0 0 := B12.front (i := 1) rfl rfl
  have B14 : RH g D8_push3 M T11 (o_Pain001Reader_Element e (.ref na) (.int (4 : Int32)) (.int (0 : Int32)) (.int (0 : Int32)) (.int (0 : Int32)) (.int (0 : Int32)) :: (na, .inr ((.object "java/lang/String"), "[Ljava/lang/String;", [(.ref x0), (.ref x1), (.ref x2), (.ref x3), .null, .null, .null, .null, .null, .null, .null, .null, .null, .null, .null, .null])) :: H0) (Lt) 0 0 := B13.front (i := 1) rfl rfl
  refine r_virtual (D' := D9_ib4) B14 d8_50 (pc' := 53) rfl (W48 B14.gw) (W49 B14.gw) (W51 B14.gw) (fun vm0 hZ => notFace_of_selects (args := #[]) (mvT hZ (W51 B14.gw))) (W50 B14.gw) (W32 B14.gw) (W52 B14.gw) (by decide) (fE (i := 0) rfl) (k_ib4 W e na x0 x1 x2 x3 H0 mx0 hl0 mx1 hl1 mx2 hl2 mx3 hl3 hs0 hs1 hs2 hs3) (argsL := []) (rest := []) rfl pd7 rfl rfl rfl (W := 0) rfl (by decide) (by decide) (cs' := 0) rfl (ss' := 0) rfl (by decide) (by decide) ?_
  intro T15 v16 B17
  replace B17 := Rn.and B17
  obtain ⟨rfl, B17⟩ := B17
  show Fn g D8_push3 M _ (T15.setTop (mkF M.m 53 #[.val (.ref e), .val (.ref x3)] [(.int (0 : Int32))]))
  refine b_ifT B17 d8_53 (pc' := 79) (show (0 : Int32) = (0 : Int32) from by decide) (by decide) (by decide) ?_
  refine p_aloadN B17 d8_79 (pc' := 80) rfl rfl rfl ?_
  have B18 : RH g D8_push3 M T15 ((na, .inr ((.object "java/lang/String"), "[Ljava/lang/String;", [(.ref x0), (.ref x1), (.ref x2), (.ref x3), .null, .null, .null, .null, .null, .null, .null, .null, .null, .null, .null, .null])) :: o_Pain001Reader_Element e (.ref na) (.int (4 : Int32)) (.int (0 : Int32)) (.int (0 : Int32)) (.int (0 : Int32)) (.int (0 : Int32)) :: H0) (Lt) 0 0 := B17.front (i := 1) rfl rfl
  have B19 : RH g D8_push3 M T15 (o_Pain001Reader_Element e (.ref na) (.int (4 : Int32)) (.int (0 : Int32)) (.int (0 : Int32)) (.int (0 : Int32)) (.int (0 : Int32)) :: (na, .inr ((.object "java/lang/String"), "[Ljava/lang/String;", [(.ref x0), (.ref x1), (.ref x2), (.ref x3), .null, .null, .null, .null, .null, .null, .null, .null, .null, .null, .null, .null])) :: H0) (Lt) 0 0 := B18.front (i := 1) rfl rfl
  refine r_virtual (D' := D10_it4) B19 d8_80 (pc' := 83) rfl (W53 B19.gw) (W54 B19.gw) (W56 B19.gw) (fun vm0 hZ => notFace_of_selects (args := #[]) (mvT hZ (W56 B19.gw))) (W55 B19.gw) (W32 B19.gw) (W57 B19.gw) (by decide) (fE (i := 0) rfl) (k_it4 W e na x0 x1 x2 x3 H0 mx0 hl0 mx1 hl1 mx2 hl2 mx3 hl3 hs0 hs1 hs2 hs3) (argsL := []) (rest := []) rfl pd7 rfl rfl rfl (W := 0) rfl (by decide) (by decide) (cs' := 0) rfl (ss' := 0) rfl (by decide) (by decide) ?_
  intro T20 v21 B22
  replace B22 := Rn.and B22
  obtain ⟨rfl, B22⟩ := B22
  show Fn g D8_push3 M _ (T20.setTop (mkF M.m 83 #[.val (.ref e), .val (.ref x3)] [(.int (0 : Int32))]))
  refine b_ifT B22 d8_83 (pc' := 101) (show (0 : Int32) = (0 : Int32) from by decide) (by decide) (by decide) ?_
  have B23 : RH g D8_push3 M T20 ((na, .inr ((.object "java/lang/String"), "[Ljava/lang/String;", [(.ref x0), (.ref x1), (.ref x2), (.ref x3), .null, .null, .null, .null, .null, .null, .null, .null, .null, .null, .null, .null])) :: o_Pain001Reader_Element e (.ref na) (.int (4 : Int32)) (.int (0 : Int32)) (.int (0 : Int32)) (.int (0 : Int32)) (.int (0 : Int32)) :: H0) (Lt) 0 0 := B22.front (i := 1) rfl rfl
  have B24 : RH g D8_push3 M T20 (o_Pain001Reader_Element e (.ref na) (.int (4 : Int32)) (.int (0 : Int32)) (.int (0 : Int32)) (.int (0 : Int32)) (.int (0 : Int32)) :: (na, .inr ((.object "java/lang/String"), "[Ljava/lang/String;", [(.ref x0), (.ref x1), (.ref x2), (.ref x3), .null, .null, .null, .null, .null, .null, .null, .null, .null, .null, .null, .null])) :: H0) (Lt) 0 0 := B23.front (i := 1) rfl rfl
  exact r_ret B24 d8_101 rfl (by decide) (by decide) (fun vm h P => ⟨rfl, P⟩)
abbrev D11_pop1 : DD := (⟨"com/example/polecenie/polecenie/core/Pain001Reader$Element", "pop", "()V"⟩, prog_35_method_13_code, 1, none, { frames := 1, cells := 0, slots := 0, locals := 12 })
theorem ef_pop1 (e : Addr) (m : MethodId) : entryFrame m #[(.ref e)] 1 = mkF m 0 #[.val (.ref e)] [] := by first | (simp [entryFrame, mkF, argsToLocals, Value.category]; done) | rfl
theorem k_pop1 {g : GG} (W : GW g) (e na : Addr) (x0 : Addr) (H0 : List Ent) {Lt : List SE} {bx0 : Addr} {xx0 : List Int32} (mx0 : (x0, bx0, 0, xx0.map Value.int) ∈ Lt) (hl0 : xx0.length < 2147483648) (hs0 : xx0.length = 1) : Ct g D11_pop1 #[(.ref e)] (o_Pain001Reader_Element e (.ref na) (.int (1 : Int32)) (.int (0 : Int32)) (.int (0 : Int32)) (.int (0 : Int32)) (.int (0 : Int32)) :: (na, .inr ((.object "java/lang/String"), "[Ljava/lang/String;", [(.ref x0), .null, .null, .null, .null, .null, .null, .null, .null, .null, .null, .null, .null, .null, .null, .null])) :: H0) Lt (fun v vm h => v = none ∧ Hp g vm h (o_Pain001Reader_Element e (.ref na) (.int (0 : Int32)) (.int (0 : Int32)) (.int (0 : Int32)) (.int (0 : Int32)) (.int (0 : Int32)) :: (na, .inr ((.object "java/lang/String"), "[Ljava/lang/String;", [.null, .null, .null, .null, .null, .null, .null, .null, .null, .null, .null, .null, .null, .null, .null, .null])) :: H0) Lt) := by
  refine CtW.body W (by decide +kernel) (ef_pop1 e) ?_
  intro M T B
  refine p_aloadN B d11_0 (pc' := 1) rfl rfl rfl ?_
  have B1 : RH g D11_pop1 M T ((na, .inr ((.object "java/lang/String"), "[Ljava/lang/String;", [(.ref x0), .null, .null, .null, .null, .null, .null, .null, .null, .null, .null, .null, .null, .null, .null, .null])) :: o_Pain001Reader_Element e (.ref na) (.int (1 : Int32)) (.int (0 : Int32)) (.int (0 : Int32)) (.int (0 : Int32)) (.int (0 : Int32)) :: H0) (Lt) 0 0 := B.front (i := 1) rfl rfl
  have B2 : RH g D11_pop1 M T (o_Pain001Reader_Element e (.ref na) (.int (1 : Int32)) (.int (0 : Int32)) (.int (0 : Int32)) (.int (0 : Int32)) (.int (0 : Int32)) :: (na, .inr ((.object "java/lang/String"), "[Ljava/lang/String;", [(.ref x0), .null, .null, .null, .null, .null, .null, .null, .null, .null, .null, .null, .null, .null, .null, .null])) :: H0) (Lt) 0 0 := B1.front (i := 1) rfl rfl
  refine r_virtual (D' := D9_ib1) B2 d11_1 (pc' := 4) rfl (W48 B2.gw) (W49 B2.gw) (W51 B2.gw) (fun vm0 hZ => notFace_of_selects (args := #[]) (mvT hZ (W51 B2.gw))) (W50 B2.gw) (W32 B2.gw) (W52 B2.gw) (by decide) (fE (i := 0) rfl) (k_ib1 W e na x0 H0 mx0 hl0 hs0) (argsL := []) (rest := []) rfl pd7 rfl rfl rfl (W := 0) rfl (by decide) (by decide) (cs' := 0) rfl (ss' := 0) rfl (by decide) (by decide) ?_
  intro T3 v4 B5
  replace B5 := Rn.and B5
  obtain ⟨rfl, B5⟩ := B5
  show Fn g D11_pop1 M _ (T3.setTop (mkF M.m 4 #[.val (.ref e)] [(.int (0 : Int32))]))
  refine b_ifT B5 d11_4 (pc' := 15) (show (0 : Int32) = (0 : Int32) from by decide) (by decide) (by decide) ?_
  refine p_aloadN B5 d11_15 (pc' := 16) rfl rfl rfl ?_
  have B6 : RH g D11_pop1 M T3 ((na, .inr ((.object "java/lang/String"), "[Ljava/lang/String;", [(.ref x0), .null, .null, .null, .null, .null, .null, .null, .null, .null, .null, .null, .null, .null, .null, .null])) :: o_Pain001Reader_Element e (.ref na) (.int (1 : Int32)) (.int (0 : Int32)) (.int (0 : Int32)) (.int (0 : Int32)) (.int (0 : Int32)) :: H0) (Lt) 0 0 := B5.front (i := 1) rfl rfl
  have B7 : RH g D11_pop1 M T3 (o_Pain001Reader_Element e (.ref na) (.int (1 : Int32)) (.int (0 : Int32)) (.int (0 : Int32)) (.int (0 : Int32)) (.int (0 : Int32)) :: (na, .inr ((.object "java/lang/String"), "[Ljava/lang/String;", [(.ref x0), .null, .null, .null, .null, .null, .null, .null, .null, .null, .null, .null, .null, .null, .null, .null])) :: H0) (Lt) 0 0 := B6.front (i := 1) rfl rfl
  refine r_virtual (D' := D10_it1) B7 d11_16 (pc' := 19) rfl (W53 B7.gw) (W54 B7.gw) (W56 B7.gw) (fun vm0 hZ => notFace_of_selects (args := #[]) (mvT hZ (W56 B7.gw))) (W55 B7.gw) (W32 B7.gw) (W57 B7.gw) (by decide) (fE (i := 0) rfl) (k_it1 W e na x0 H0 mx0 hl0 hs0) (argsL := []) (rest := []) rfl pd7 rfl rfl rfl (W := 0) rfl (by decide) (by decide) (cs' := 0) rfl (ss' := 0) rfl (by decide) (by decide) ?_
  intro T8 v9 B10
  replace B10 := Rn.and B10
  obtain ⟨rfl, B10⟩ := B10
  show Fn g D11_pop1 M _ (T8.setTop (mkF M.m 19 #[.val (.ref e)] [(.int (0 : Int32))]))
  refine b_ifT B10 d11_19 (pc' := 27) (show (0 : Int32) = (0 : Int32) from by decide) (by decide) (by decide) ?_
  refine p_aloadN B10 d11_27 (pc' := 28) rfl rfl rfl ?_
  refine r_get B10 d11_28 (pc' := 31) rfl (host := "") (Or.inl (W39 B10.gw)) Via.refl (v := (.ref na)) (fO (i := 0) (j := 0) rfl rfl) ?_
  intro T11 B12
  refine p_aloadN B12 d11_31 (pc' := 32) rfl rfl rfl ?_
  refine p_dup B12 d11_32 (pc' := 33) rfl rfl ?_
  refine r_get B12 d11_33 (pc' := 36) rfl (host := "") (Or.inl (W46 B12.gw)) Via.refl (v := (.int (1 : Int32))) (fO (i := 0) (j := 1) rfl rfl) ?_
  intro T13 B14
  refine p_iconst B14 d11_36 (pc' := 37) rfl (v := (1 : Int32)) (by decide) ?_
  refine p_isub B14 d11_37 (pc' := 38) rfl (z := (0 : Int32)) (by decide) ?_
  refine p_dupx1 B14 d11_38 (pc' := 39) rfl rfl rfl ?_
  refine r_put B14 d11_39 (pc' := 42) rfl (host := "") (Or.inl (W46 B14.gw)) Via.refl (i := 0) (j := 1) rfl rfl (Or.inl (W47 B14.gw)) (W31 B14.gw) (ty := .int) (by decide) rfl rfl (H' := (o_Pain001Reader_Element e (.ref na) (.int (0 : Int32)) (.int (0 : Int32)) (.int (0 : Int32)) (.int (0 : Int32)) (.int (0 : Int32)) :: (na, .inr ((.object "java/lang/String"), "[Ljava/lang/String;", [(.ref x0), .null, .null, .null, .null, .null, .null, .null, .null, .null, .null, .null, .null, .null, .null, .null])) :: H0)) rfl ?_
  intro T15 B16
  refine p_null B16 d11_42 (pc' := 43) rfl ?_
  refine r_aastore B16 d11_43 (pc' := 44) rfl (i := 1) rfl (by decide) (k := 0) (by decide) (by simp) (Or.inl rfl) (H' := (o_Pain001Reader_Element e (.ref na) (.int (0 : Int32)) (.int (0 : Int32)) (.int (0 : Int32)) (.int (0 : Int32)) (.int (0 : Int32)) :: (na, .inr ((.object "java/lang/String"), "[Ljava/lang/String;", [.null, .null, .null, .null, .null, .null, .null, .null, .null, .null, .null, .null, .null, .null, .null, .null])) :: H0)) rfl ?_
  intro T17 B18
  have B19 : RH g D11_pop1 M T17 ((na, .inr ((.object "java/lang/String"), "[Ljava/lang/String;", [.null, .null, .null, .null, .null, .null, .null, .null, .null, .null, .null, .null, .null, .null, .null, .null])) :: o_Pain001Reader_Element e (.ref na) (.int (0 : Int32)) (.int (0 : Int32)) (.int (0 : Int32)) (.int (0 : Int32)) (.int (0 : Int32)) :: H0) (Lt) 0 0 := B18.front (i := 1) rfl rfl
  have B20 : RH g D11_pop1 M T17 (o_Pain001Reader_Element e (.ref na) (.int (0 : Int32)) (.int (0 : Int32)) (.int (0 : Int32)) (.int (0 : Int32)) (.int (0 : Int32)) :: (na, .inr ((.object "java/lang/String"), "[Ljava/lang/String;", [.null, .null, .null, .null, .null, .null, .null, .null, .null, .null, .null, .null, .null, .null, .null, .null])) :: H0) (Lt) 0 0 := B19.front (i := 1) rfl rfl
  exact r_ret B20 d11_44 rfl (by decide) (by decide) (fun vm h P => ⟨rfl, P⟩)
abbrev D11_pop2 : DD := (⟨"com/example/polecenie/polecenie/core/Pain001Reader$Element", "pop", "()V"⟩, prog_35_method_13_code, 1, none, { frames := 1, cells := 0, slots := 0, locals := 12 })
theorem ef_pop2 (e : Addr) (m : MethodId) : entryFrame m #[(.ref e)] 1 = mkF m 0 #[.val (.ref e)] [] := by first | (simp [entryFrame, mkF, argsToLocals, Value.category]; done) | rfl
theorem k_pop2 {g : GG} (W : GW g) (e na : Addr) (x0 : Addr) (x1 : Addr) (H0 : List Ent) {Lt : List SE} {bx0 : Addr} {xx0 : List Int32} (mx0 : (x0, bx0, 0, xx0.map Value.int) ∈ Lt) (hl0 : xx0.length < 2147483648) {bx1 : Addr} {xx1 : List Int32} (mx1 : (x1, bx1, 0, xx1.map Value.int) ∈ Lt) (hl1 : xx1.length < 2147483648) (hs0 : xx0.length = 1) (hs1 : xx1.length = 1) : Ct g D11_pop2 #[(.ref e)] (o_Pain001Reader_Element e (.ref na) (.int (2 : Int32)) (.int (0 : Int32)) (.int (0 : Int32)) (.int (0 : Int32)) (.int (0 : Int32)) :: (na, .inr ((.object "java/lang/String"), "[Ljava/lang/String;", [(.ref x0), (.ref x1), .null, .null, .null, .null, .null, .null, .null, .null, .null, .null, .null, .null, .null, .null])) :: H0) Lt (fun v vm h => v = none ∧ Hp g vm h (o_Pain001Reader_Element e (.ref na) (.int (1 : Int32)) (.int (0 : Int32)) (.int (0 : Int32)) (.int (0 : Int32)) (.int (0 : Int32)) :: (na, .inr ((.object "java/lang/String"), "[Ljava/lang/String;", [(.ref x0), .null, .null, .null, .null, .null, .null, .null, .null, .null, .null, .null, .null, .null, .null, .null])) :: H0) Lt) := by
  refine CtW.body W (by decide +kernel) (ef_pop2 e) ?_
  intro M T B
  refine p_aloadN B d11_0 (pc' := 1) rfl rfl rfl ?_
  have B1 : RH g D11_pop2 M T ((na, .inr ((.object "java/lang/String"), "[Ljava/lang/String;", [(.ref x0), (.ref x1), .null, .null, .null, .null, .null, .null, .null, .null, .null, .null, .null, .null, .null, .null])) :: o_Pain001Reader_Element e (.ref na) (.int (2 : Int32)) (.int (0 : Int32)) (.int (0 : Int32)) (.int (0 : Int32)) (.int (0 : Int32)) :: H0) (Lt) 0 0 := B.front (i := 1) rfl rfl
  have B2 : RH g D11_pop2 M T (o_Pain001Reader_Element e (.ref na) (.int (2 : Int32)) (.int (0 : Int32)) (.int (0 : Int32)) (.int (0 : Int32)) (.int (0 : Int32)) :: (na, .inr ((.object "java/lang/String"), "[Ljava/lang/String;", [(.ref x0), (.ref x1), .null, .null, .null, .null, .null, .null, .null, .null, .null, .null, .null, .null, .null, .null])) :: H0) (Lt) 0 0 := B1.front (i := 1) rfl rfl
  refine r_virtual (D' := D9_ib2) B2 d11_1 (pc' := 4) rfl (W48 B2.gw) (W49 B2.gw) (W51 B2.gw) (fun vm0 hZ => notFace_of_selects (args := #[]) (mvT hZ (W51 B2.gw))) (W50 B2.gw) (W32 B2.gw) (W52 B2.gw) (by decide) (fE (i := 0) rfl) (k_ib2 W e na x0 x1 H0 mx0 hl0 mx1 hl1 hs0 hs1) (argsL := []) (rest := []) rfl pd7 rfl rfl rfl (W := 0) rfl (by decide) (by decide) (cs' := 0) rfl (ss' := 0) rfl (by decide) (by decide) ?_
  intro T3 v4 B5
  replace B5 := Rn.and B5
  obtain ⟨rfl, B5⟩ := B5
  show Fn g D11_pop2 M _ (T3.setTop (mkF M.m 4 #[.val (.ref e)] [(.int (0 : Int32))]))
  refine b_ifT B5 d11_4 (pc' := 15) (show (0 : Int32) = (0 : Int32) from by decide) (by decide) (by decide) ?_
  refine p_aloadN B5 d11_15 (pc' := 16) rfl rfl rfl ?_
  have B6 : RH g D11_pop2 M T3 ((na, .inr ((.object "java/lang/String"), "[Ljava/lang/String;", [(.ref x0), (.ref x1), .null, .null, .null, .null, .null, .null, .null, .null, .null, .null, .null, .null, .null, .null])) :: o_Pain001Reader_Element e (.ref na) (.int (2 : Int32)) (.int (0 : Int32)) (.int (0 : Int32)) (.int (0 : Int32)) (.int (0 : Int32)) :: H0) (Lt) 0 0 := B5.front (i := 1) rfl rfl
  have B7 : RH g D11_pop2 M T3 (o_Pain001Reader_Element e (.ref na) (.int (2 : Int32)) (.int (0 : Int32)) (.int (0 : Int32)) (.int (0 : Int32)) (.int (0 : Int32)) :: (na, .inr ((.object "java/lang/String"), "[Ljava/lang/String;", [(.ref x0), (.ref x1), .null, .null, .null, .null, .null, .null, .null, .null, .null, .null, .null, .null, .null, .null])) :: H0) (Lt) 0 0 := B6.front (i := 1) rfl rfl
  refine r_virtual (D' := D10_it2) B7 d11_16 (pc' := 19) rfl (W53 B7.gw) (W54 B7.gw) (W56 B7.gw) (fun vm0 hZ => notFace_of_selects (args := #[]) (mvT hZ (W56 B7.gw))) (W55 B7.gw) (W32 B7.gw) (W57 B7.gw) (by decide) (fE (i := 0) rfl) (k_it2 W e na x0 x1 H0 mx0 hl0 mx1 hl1 hs0 hs1) (argsL := []) (rest := []) rfl pd7 rfl rfl rfl (W := 0) rfl (by decide) (by decide) (cs' := 0) rfl (ss' := 0) rfl (by decide) (by decide) ?_
  intro T8 v9 B10
  replace B10 := Rn.and B10
  obtain ⟨rfl, B10⟩ := B10
  show Fn g D11_pop2 M _ (T8.setTop (mkF M.m 19 #[.val (.ref e)] [(.int (0 : Int32))]))
  refine b_ifT B10 d11_19 (pc' := 27) (show (0 : Int32) = (0 : Int32) from by decide) (by decide) (by decide) ?_
  refine p_aloadN B10 d11_27 (pc' := 28) rfl rfl rfl ?_
  refine r_get B10 d11_28 (pc' := 31) rfl (host := "") (Or.inl (W39 B10.gw)) Via.refl (v := (.ref na)) (fO (i := 0) (j := 0) rfl rfl) ?_
  intro T11 B12
  refine p_aloadN B12 d11_31 (pc' := 32) rfl rfl rfl ?_
  refine p_dup B12 d11_32 (pc' := 33) rfl rfl ?_
  refine r_get B12 d11_33 (pc' := 36) rfl (host := "") (Or.inl (W46 B12.gw)) Via.refl (v := (.int (2 : Int32))) (fO (i := 0) (j := 1) rfl rfl) ?_
  intro T13 B14
  refine p_iconst B14 d11_36 (pc' := 37) rfl (v := (1 : Int32)) (by decide) ?_
  refine p_isub B14 d11_37 (pc' := 38) rfl (z := (1 : Int32)) (by decide) ?_
  refine p_dupx1 B14 d11_38 (pc' := 39) rfl rfl rfl ?_
  refine r_put B14 d11_39 (pc' := 42) rfl (host := "") (Or.inl (W46 B14.gw)) Via.refl (i := 0) (j := 1) rfl rfl (Or.inl (W47 B14.gw)) (W31 B14.gw) (ty := .int) (by decide) rfl rfl (H' := (o_Pain001Reader_Element e (.ref na) (.int (1 : Int32)) (.int (0 : Int32)) (.int (0 : Int32)) (.int (0 : Int32)) (.int (0 : Int32)) :: (na, .inr ((.object "java/lang/String"), "[Ljava/lang/String;", [(.ref x0), (.ref x1), .null, .null, .null, .null, .null, .null, .null, .null, .null, .null, .null, .null, .null, .null])) :: H0)) rfl ?_
  intro T15 B16
  refine p_null B16 d11_42 (pc' := 43) rfl ?_
  refine r_aastore B16 d11_43 (pc' := 44) rfl (i := 1) rfl (by decide) (k := 1) (by decide) (by simp) (Or.inl rfl) (H' := (o_Pain001Reader_Element e (.ref na) (.int (1 : Int32)) (.int (0 : Int32)) (.int (0 : Int32)) (.int (0 : Int32)) (.int (0 : Int32)) :: (na, .inr ((.object "java/lang/String"), "[Ljava/lang/String;", [(.ref x0), .null, .null, .null, .null, .null, .null, .null, .null, .null, .null, .null, .null, .null, .null, .null])) :: H0)) rfl ?_
  intro T17 B18
  have B19 : RH g D11_pop2 M T17 ((na, .inr ((.object "java/lang/String"), "[Ljava/lang/String;", [(.ref x0), .null, .null, .null, .null, .null, .null, .null, .null, .null, .null, .null, .null, .null, .null, .null])) :: o_Pain001Reader_Element e (.ref na) (.int (1 : Int32)) (.int (0 : Int32)) (.int (0 : Int32)) (.int (0 : Int32)) (.int (0 : Int32)) :: H0) (Lt) 0 0 := B18.front (i := 1) rfl rfl
  have B20 : RH g D11_pop2 M T17 (o_Pain001Reader_Element e (.ref na) (.int (1 : Int32)) (.int (0 : Int32)) (.int (0 : Int32)) (.int (0 : Int32)) (.int (0 : Int32)) :: (na, .inr ((.object "java/lang/String"), "[Ljava/lang/String;", [(.ref x0), .null, .null, .null, .null, .null, .null, .null, .null, .null, .null, .null, .null, .null, .null, .null])) :: H0) (Lt) 0 0 := B19.front (i := 1) rfl rfl
  exact r_ret B20 d11_44 rfl (by decide) (by decide) (fun vm h P => ⟨rfl, P⟩)
abbrev D11_pop3 : DD := (⟨"com/example/polecenie/polecenie/core/Pain001Reader$Element", "pop", "()V"⟩, prog_35_method_13_code, 1, none, { frames := 4, cells := 7, slots := 135, locals := 54 })
theorem ef_pop3 (e : Addr) (m : MethodId) : entryFrame m #[(.ref e)] 1 = mkF m 0 #[.val (.ref e)] [] := by first | (simp [entryFrame, mkF, argsToLocals, Value.category]; done) | rfl
theorem k_pop3 {g : GG} (W : GW g) (e na : Addr) (x0 : Addr) (x1 : Addr) (x2 : Addr) (H0 : List Ent) {Lt : List SE} {bx0 : Addr} {xx0 : List Int32} (mx0 : (x0, bx0, 0, xx0.map Value.int) ∈ Lt) (hl0 : xx0.length < 2147483648) {bx1 : Addr} {xx1 : List Int32} (mx1 : (x1, bx1, 0, xx1.map Value.int) ∈ Lt) (hl1 : xx1.length < 2147483648) {bx2 : Addr} {xx2 : List Int32} (mx2 : (x2, bx2, 0, xx2.map Value.int) ∈ Lt) (hl2 : xx2.length < 2147483648) (hs0 : xx0.length = 1) (hs1 : xx1.length = 1) (hs2 : xx2.length = 1) : Ct g D11_pop3 #[(.ref e)] (o_Pain001Reader_Element e (.ref na) (.int (3 : Int32)) (.int (0 : Int32)) (.int (0 : Int32)) (.int (0 : Int32)) (.int (0 : Int32)) :: (na, .inr ((.object "java/lang/String"), "[Ljava/lang/String;", [(.ref x0), (.ref x1), (.ref x2), .null, .null, .null, .null, .null, .null, .null, .null, .null, .null, .null, .null, .null])) :: H0) Lt (fun v vm h => v = none ∧ Hp g vm h (o_Pain001Reader_Element e (.ref na) (.int (2 : Int32)) (.int (0 : Int32)) (.int (0 : Int32)) (.int (0 : Int32)) (.int (0 : Int32)) :: (na, .inr ((.object "java/lang/String"), "[Ljava/lang/String;", [(.ref x0), (.ref x1), .null, .null, .null, .null, .null, .null, .null, .null, .null, .null, .null, .null, .null, .null])) :: H0) Lt) := by
  refine CtW.body W (by decide +kernel) (ef_pop3 e) ?_
  intro M T B
  refine p_aloadN B d11_0 (pc' := 1) rfl rfl rfl ?_
  have B1 : RH g D11_pop3 M T ((na, .inr ((.object "java/lang/String"), "[Ljava/lang/String;", [(.ref x0), (.ref x1), (.ref x2), .null, .null, .null, .null, .null, .null, .null, .null, .null, .null, .null, .null, .null])) :: o_Pain001Reader_Element e (.ref na) (.int (3 : Int32)) (.int (0 : Int32)) (.int (0 : Int32)) (.int (0 : Int32)) (.int (0 : Int32)) :: H0) (Lt) 0 0 := B.front (i := 1) rfl rfl
  have B2 : RH g D11_pop3 M T (o_Pain001Reader_Element e (.ref na) (.int (3 : Int32)) (.int (0 : Int32)) (.int (0 : Int32)) (.int (0 : Int32)) (.int (0 : Int32)) :: (na, .inr ((.object "java/lang/String"), "[Ljava/lang/String;", [(.ref x0), (.ref x1), (.ref x2), .null, .null, .null, .null, .null, .null, .null, .null, .null, .null, .null, .null, .null])) :: H0) (Lt) 0 0 := B1.front (i := 1) rfl rfl
  refine r_virtual (D' := D9_ib3) B2 d11_1 (pc' := 4) rfl (W48 B2.gw) (W49 B2.gw) (W51 B2.gw) (fun vm0 hZ => notFace_of_selects (args := #[]) (mvT hZ (W51 B2.gw))) (W50 B2.gw) (W32 B2.gw) (W52 B2.gw) (by decide) (fE (i := 0) rfl) (k_ib3 W e na x0 x1 x2 H0 mx0 hl0 mx1 hl1 mx2 hl2 hs0 hs1 hs2) (argsL := []) (rest := []) rfl pd7 rfl rfl rfl (W := 0) rfl (by decide) (by decide) (cs' := 7) rfl (ss' := 135) rfl (by decide) (by decide) ?_
  intro T3 v4 B5
  replace B5 := Rn.and B5
  obtain ⟨rfl, B5⟩ := B5
  show Fn g D11_pop3 M _ (T3.setTop (mkF M.m 4 #[.val (.ref e)] [(.int (0 : Int32))]))
  refine b_ifT B5 d11_4 (pc' := 15) (show (0 : Int32) = (0 : Int32) from by decide) (by decide) (by decide) ?_
  refine p_aloadN B5 d11_15 (pc' := 16) rfl rfl rfl ?_
  have B6 : RH g D11_pop3 M T3 ((na, .inr ((.object "java/lang/String"), "[Ljava/lang/String;", [(.ref x0), (.ref x1), (.ref x2), .null, .null, .null, .null, .null, .null, .null, .null, .null, .null, .null, .null, .null])) :: o_Pain001Reader_Element e (.ref na) (.int (3 : Int32)) (.int (0 : Int32)) (.int (0 : Int32)) (.int (0 : Int32)) (.int (0 : Int32)) :: H0) (Lt) 7 135 := B5.front (i := 1) rfl rfl
  have B7 : RH g D11_pop3 M T3 (o_Pain001Reader_Element e (.ref na) (.int (3 : Int32)) (.int (0 : Int32)) (.int (0 : Int32)) (.int (0 : Int32)) (.int (0 : Int32)) :: (na, .inr ((.object "java/lang/String"), "[Ljava/lang/String;", [(.ref x0), (.ref x1), (.ref x2), .null, .null, .null, .null, .null, .null, .null, .null, .null, .null, .null, .null, .null])) :: H0) (Lt) 7 135 := B6.front (i := 1) rfl rfl
  refine r_virtual (D' := D10_it3) B7 d11_16 (pc' := 19) rfl (W53 B7.gw) (W54 B7.gw) (W56 B7.gw) (fun vm0 hZ => notFace_of_selects (args := #[]) (mvT hZ (W56 B7.gw))) (W55 B7.gw) (W32 B7.gw) (W57 B7.gw) (by decide) (fE (i := 0) rfl) (k_it3 W e na x0 x1 x2 H0 mx0 hl0 mx1 hl1 mx2 hl2 hs0 hs1 hs2) (argsL := []) (rest := []) rfl pd7 rfl rfl rfl (W := 0) rfl (by decide) (by decide) (cs' := 7) rfl (ss' := 135) rfl (by decide) (by decide) ?_
  intro T8 v9 B10
  replace B10 := Rn.and B10
  obtain ⟨rfl, B10⟩ := B10
  show Fn g D11_pop3 M _ (T8.setTop (mkF M.m 19 #[.val (.ref e)] [(.int (0 : Int32))]))
  refine b_ifT B10 d11_19 (pc' := 27) (show (0 : Int32) = (0 : Int32) from by decide) (by decide) (by decide) ?_
  refine p_aloadN B10 d11_27 (pc' := 28) rfl rfl rfl ?_
  refine r_get B10 d11_28 (pc' := 31) rfl (host := "") (Or.inl (W39 B10.gw)) Via.refl (v := (.ref na)) (fO (i := 0) (j := 0) rfl rfl) ?_
  intro T11 B12
  refine p_aloadN B12 d11_31 (pc' := 32) rfl rfl rfl ?_
  refine p_dup B12 d11_32 (pc' := 33) rfl rfl ?_
  refine r_get B12 d11_33 (pc' := 36) rfl (host := "") (Or.inl (W46 B12.gw)) Via.refl (v := (.int (3 : Int32))) (fO (i := 0) (j := 1) rfl rfl) ?_
  intro T13 B14
  refine p_iconst B14 d11_36 (pc' := 37) rfl (v := (1 : Int32)) (by decide) ?_
  refine p_isub B14 d11_37 (pc' := 38) rfl (z := (2 : Int32)) (by decide) ?_
  refine p_dupx1 B14 d11_38 (pc' := 39) rfl rfl rfl ?_
  refine r_put B14 d11_39 (pc' := 42) rfl (host := "") (Or.inl (W46 B14.gw)) Via.refl (i := 0) (j := 1) rfl rfl (Or.inl (W47 B14.gw)) (W31 B14.gw) (ty := .int) (by decide) rfl rfl (H' := (o_Pain001Reader_Element e (.ref na) (.int (2 : Int32)) (.int (0 : Int32)) (.int (0 : Int32)) (.int (0 : Int32)) (.int (0 : Int32)) :: (na, .inr ((.object "java/lang/String"), "[Ljava/lang/String;", [(.ref x0), (.ref x1), (.ref x2), .null, .null, .null, .null, .null, .null, .null, .null, .null, .null, .null, .null, .null])) :: H0)) rfl ?_
  intro T15 B16
  refine p_null B16 d11_42 (pc' := 43) rfl ?_
  refine r_aastore B16 d11_43 (pc' := 44) rfl (i := 1) rfl (by decide) (k := 2) (by decide) (by simp) (Or.inl rfl) (H' := (o_Pain001Reader_Element e (.ref na) (.int (2 : Int32)) (.int (0 : Int32)) (.int (0 : Int32)) (.int (0 : Int32)) (.int (0 : Int32)) :: (na, .inr ((.object "java/lang/String"), "[Ljava/lang/String;", [(.ref x0), (.ref x1), .null, .null, .null, .null, .null, .null, .null, .null, .null, .null, .null, .null, .null, .null])) :: H0)) rfl ?_
  intro T17 B18
  have B19 : RH g D11_pop3 M T17 ((na, .inr ((.object "java/lang/String"), "[Ljava/lang/String;", [(.ref x0), (.ref x1), .null, .null, .null, .null, .null, .null, .null, .null, .null, .null, .null, .null, .null, .null])) :: o_Pain001Reader_Element e (.ref na) (.int (2 : Int32)) (.int (0 : Int32)) (.int (0 : Int32)) (.int (0 : Int32)) (.int (0 : Int32)) :: H0) (Lt) 7 135 := B18.front (i := 1) rfl rfl
  have B20 : RH g D11_pop3 M T17 (o_Pain001Reader_Element e (.ref na) (.int (2 : Int32)) (.int (0 : Int32)) (.int (0 : Int32)) (.int (0 : Int32)) (.int (0 : Int32)) :: (na, .inr ((.object "java/lang/String"), "[Ljava/lang/String;", [(.ref x0), (.ref x1), .null, .null, .null, .null, .null, .null, .null, .null, .null, .null, .null, .null, .null, .null])) :: H0) (Lt) 7 135 := B19.front (i := 1) rfl rfl
  exact r_ret B20 d11_44 rfl (by decide) (by decide) (fun vm h P => ⟨rfl, P⟩)
abbrev D11_pop4 : DD := (⟨"com/example/polecenie/polecenie/core/Pain001Reader$Element", "pop", "()V"⟩, prog_35_method_13_code, 1, none, { frames := 1, cells := 0, slots := 0, locals := 12 })
theorem ef_pop4 (e : Addr) (m : MethodId) : entryFrame m #[(.ref e)] 1 = mkF m 0 #[.val (.ref e)] [] := by first | (simp [entryFrame, mkF, argsToLocals, Value.category]; done) | rfl
theorem k_pop4 {g : GG} (W : GW g) (e na : Addr) (x0 : Addr) (x1 : Addr) (x2 : Addr) (x3 : Addr) (H0 : List Ent) {Lt : List SE} {bx0 : Addr} {xx0 : List Int32} (mx0 : (x0, bx0, 0, xx0.map Value.int) ∈ Lt) (hl0 : xx0.length < 2147483648) {bx1 : Addr} {xx1 : List Int32} (mx1 : (x1, bx1, 0, xx1.map Value.int) ∈ Lt) (hl1 : xx1.length < 2147483648) {bx2 : Addr} {xx2 : List Int32} (mx2 : (x2, bx2, 0, xx2.map Value.int) ∈ Lt) (hl2 : xx2.length < 2147483648) {bx3 : Addr} {xx3 : List Int32} (mx3 : (x3, bx3, 0, xx3.map Value.int) ∈ Lt) (hl3 : xx3.length < 2147483648) (hs0 : xx0.length = 1) (hs1 : xx1.length = 1) (hs2 : xx2.length = 1) (hs3 : xx3.length = 1) : Ct g D11_pop4 #[(.ref e)] (o_Pain001Reader_Element e (.ref na) (.int (4 : Int32)) (.int (0 : Int32)) (.int (0 : Int32)) (.int (0 : Int32)) (.int (0 : Int32)) :: (na, .inr ((.object "java/lang/String"), "[Ljava/lang/String;", [(.ref x0), (.ref x1), (.ref x2), (.ref x3), .null, .null, .null, .null, .null, .null, .null, .null, .null, .null, .null, .null])) :: H0) Lt (fun v vm h => v = none ∧ Hp g vm h (o_Pain001Reader_Element e (.ref na) (.int (3 : Int32)) (.int (0 : Int32)) (.int (0 : Int32)) (.int (0 : Int32)) (.int (0 : Int32)) :: (na, .inr ((.object "java/lang/String"), "[Ljava/lang/String;", [(.ref x0), (.ref x1), (.ref x2), .null, .null, .null, .null, .null, .null, .null, .null, .null, .null, .null, .null, .null])) :: H0) Lt) := by
  refine CtW.body W (by decide +kernel) (ef_pop4 e) ?_
  intro M T B
  refine p_aloadN B d11_0 (pc' := 1) rfl rfl rfl ?_
  have B1 : RH g D11_pop4 M T ((na, .inr ((.object "java/lang/String"), "[Ljava/lang/String;", [(.ref x0), (.ref x1), (.ref x2), (.ref x3), .null, .null, .null, .null, .null, .null, .null, .null, .null, .null, .null, .null])) :: o_Pain001Reader_Element e (.ref na) (.int (4 : Int32)) (.int (0 : Int32)) (.int (0 : Int32)) (.int (0 : Int32)) (.int (0 : Int32)) :: H0) (Lt) 0 0 := B.front (i := 1) rfl rfl
  have B2 : RH g D11_pop4 M T (o_Pain001Reader_Element e (.ref na) (.int (4 : Int32)) (.int (0 : Int32)) (.int (0 : Int32)) (.int (0 : Int32)) (.int (0 : Int32)) :: (na, .inr ((.object "java/lang/String"), "[Ljava/lang/String;", [(.ref x0), (.ref x1), (.ref x2), (.ref x3), .null, .null, .null, .null, .null, .null, .null, .null, .null, .null, .null, .null])) :: H0) (Lt) 0 0 := B1.front (i := 1) rfl rfl
  refine r_virtual (D' := D9_ib4) B2 d11_1 (pc' := 4) rfl (W48 B2.gw) (W49 B2.gw) (W51 B2.gw) (fun vm0 hZ => notFace_of_selects (args := #[]) (mvT hZ (W51 B2.gw))) (W50 B2.gw) (W32 B2.gw) (W52 B2.gw) (by decide) (fE (i := 0) rfl) (k_ib4 W e na x0 x1 x2 x3 H0 mx0 hl0 mx1 hl1 mx2 hl2 mx3 hl3 hs0 hs1 hs2 hs3) (argsL := []) (rest := []) rfl pd7 rfl rfl rfl (W := 0) rfl (by decide) (by decide) (cs' := 0) rfl (ss' := 0) rfl (by decide) (by decide) ?_
  intro T3 v4 B5
  replace B5 := Rn.and B5
  obtain ⟨rfl, B5⟩ := B5
  show Fn g D11_pop4 M _ (T3.setTop (mkF M.m 4 #[.val (.ref e)] [(.int (0 : Int32))]))
  refine b_ifT B5 d11_4 (pc' := 15) (show (0 : Int32) = (0 : Int32) from by decide) (by decide) (by decide) ?_
  refine p_aloadN B5 d11_15 (pc' := 16) rfl rfl rfl ?_
  have B6 : RH g D11_pop4 M T3 ((na, .inr ((.object "java/lang/String"), "[Ljava/lang/String;", [(.ref x0), (.ref x1), (.ref x2), (.ref x3), .null, .null, .null, .null, .null, .null, .null, .null, .null, .null, .null, .null])) :: o_Pain001Reader_Element e (.ref na) (.int (4 : Int32)) (.int (0 : Int32)) (.int (0 : Int32)) (.int (0 : Int32)) (.int (0 : Int32)) :: H0) (Lt) 0 0 := B5.front (i := 1) rfl rfl
  have B7 : RH g D11_pop4 M T3 (o_Pain001Reader_Element e (.ref na) (.int (4 : Int32)) (.int (0 : Int32)) (.int (0 : Int32)) (.int (0 : Int32)) (.int (0 : Int32)) :: (na, .inr ((.object "java/lang/String"), "[Ljava/lang/String;", [(.ref x0), (.ref x1), (.ref x2), (.ref x3), .null, .null, .null, .null, .null, .null, .null, .null, .null, .null, .null, .null])) :: H0) (Lt) 0 0 := B6.front (i := 1) rfl rfl
  refine r_virtual (D' := D10_it4) B7 d11_16 (pc' := 19) rfl (W53 B7.gw) (W54 B7.gw) (W56 B7.gw) (fun vm0 hZ => notFace_of_selects (args := #[]) (mvT hZ (W56 B7.gw))) (W55 B7.gw) (W32 B7.gw) (W57 B7.gw) (by decide) (fE (i := 0) rfl) (k_it4 W e na x0 x1 x2 x3 H0 mx0 hl0 mx1 hl1 mx2 hl2 mx3 hl3 hs0 hs1 hs2 hs3) (argsL := []) (rest := []) rfl pd7 rfl rfl rfl (W := 0) rfl (by decide) (by decide) (cs' := 0) rfl (ss' := 0) rfl (by decide) (by decide) ?_
  intro T8 v9 B10
  replace B10 := Rn.and B10
  obtain ⟨rfl, B10⟩ := B10
  show Fn g D11_pop4 M _ (T8.setTop (mkF M.m 19 #[.val (.ref e)] [(.int (0 : Int32))]))
  refine b_ifT B10 d11_19 (pc' := 27) (show (0 : Int32) = (0 : Int32) from by decide) (by decide) (by decide) ?_
  refine p_aloadN B10 d11_27 (pc' := 28) rfl rfl rfl ?_
  refine r_get B10 d11_28 (pc' := 31) rfl (host := "") (Or.inl (W39 B10.gw)) Via.refl (v := (.ref na)) (fO (i := 0) (j := 0) rfl rfl) ?_
  intro T11 B12
  refine p_aloadN B12 d11_31 (pc' := 32) rfl rfl rfl ?_
  refine p_dup B12 d11_32 (pc' := 33) rfl rfl ?_
  refine r_get B12 d11_33 (pc' := 36) rfl (host := "") (Or.inl (W46 B12.gw)) Via.refl (v := (.int (4 : Int32))) (fO (i := 0) (j := 1) rfl rfl) ?_
  intro T13 B14
  refine p_iconst B14 d11_36 (pc' := 37) rfl (v := (1 : Int32)) (by decide) ?_
  refine p_isub B14 d11_37 (pc' := 38) rfl (z := (3 : Int32)) (by decide) ?_
  refine p_dupx1 B14 d11_38 (pc' := 39) rfl rfl rfl ?_
  refine r_put B14 d11_39 (pc' := 42) rfl (host := "") (Or.inl (W46 B14.gw)) Via.refl (i := 0) (j := 1) rfl rfl (Or.inl (W47 B14.gw)) (W31 B14.gw) (ty := .int) (by decide) rfl rfl (H' := (o_Pain001Reader_Element e (.ref na) (.int (3 : Int32)) (.int (0 : Int32)) (.int (0 : Int32)) (.int (0 : Int32)) (.int (0 : Int32)) :: (na, .inr ((.object "java/lang/String"), "[Ljava/lang/String;", [(.ref x0), (.ref x1), (.ref x2), (.ref x3), .null, .null, .null, .null, .null, .null, .null, .null, .null, .null, .null, .null])) :: H0)) rfl ?_
  intro T15 B16
  refine p_null B16 d11_42 (pc' := 43) rfl ?_
  refine r_aastore B16 d11_43 (pc' := 44) rfl (i := 1) rfl (by decide) (k := 3) (by decide) (by simp) (Or.inl rfl) (H' := (o_Pain001Reader_Element e (.ref na) (.int (3 : Int32)) (.int (0 : Int32)) (.int (0 : Int32)) (.int (0 : Int32)) (.int (0 : Int32)) :: (na, .inr ((.object "java/lang/String"), "[Ljava/lang/String;", [(.ref x0), (.ref x1), (.ref x2), .null, .null, .null, .null, .null, .null, .null, .null, .null, .null, .null, .null, .null])) :: H0)) rfl ?_
  intro T17 B18
  have B19 : RH g D11_pop4 M T17 ((na, .inr ((.object "java/lang/String"), "[Ljava/lang/String;", [(.ref x0), (.ref x1), (.ref x2), .null, .null, .null, .null, .null, .null, .null, .null, .null, .null, .null, .null, .null])) :: o_Pain001Reader_Element e (.ref na) (.int (3 : Int32)) (.int (0 : Int32)) (.int (0 : Int32)) (.int (0 : Int32)) (.int (0 : Int32)) :: H0) (Lt) 0 0 := B18.front (i := 1) rfl rfl
  have B20 : RH g D11_pop4 M T17 (o_Pain001Reader_Element e (.ref na) (.int (3 : Int32)) (.int (0 : Int32)) (.int (0 : Int32)) (.int (0 : Int32)) (.int (0 : Int32)) :: (na, .inr ((.object "java/lang/String"), "[Ljava/lang/String;", [(.ref x0), (.ref x1), (.ref x2), .null, .null, .null, .null, .null, .null, .null, .null, .null, .null, .null, .null, .null])) :: H0) (Lt) 0 0 := B19.front (i := 1) rfl rfl
  exact r_ret B20 d11_44 rfl (by decide) (by decide) (fun vm h P => ⟨rfl, P⟩)
theorem ef_ei (e : Addr) (m : MethodId) : entryFrame m #[(.ref e)] 1 = mkF m 0 #[.val (.ref e)] [] := by first | (simp [entryFrame, mkF, argsToLocals, Value.category]; done) | rfl
abbrev D7 : DD := (⟨"com/example/polecenie/polecenie/core/Pain001Reader$Element", "<init>", "()V"⟩, prog_35_method_1_code, 1, none, { frames := 1, cells := 1, slots := 16, locals := 12 })
theorem k_ei {g : GG} (W : GW g) (e : Addr) (H0 : List Ent) (Lt : List SE) : Ct g D7 #[.ref e] (o_Pain001Reader_Element e .null (.int (0 : Int32)) (.int (0 : Int32)) (.int (0 : Int32)) (.int (0 : Int32)) (.int (0 : Int32)) :: H0) Lt (fun v vm h => v = none ∧ ∃ na, Hp g vm h (o_Pain001Reader_Element e (.ref na) (.int (0 : Int32)) (.int (0 : Int32)) (.int (0 : Int32)) (.int (0 : Int32)) (.int (0 : Int32)) :: (na, .inr ((.object "java/lang/String"), "[Ljava/lang/String;", [.null, .null, .null, .null, .null, .null, .null, .null, .null, .null, .null, .null, .null, .null, .null, .null])) :: H0) Lt) := by
  refine CtW.body W (by decide +kernel) (ef_ei e) ?_
  intro M T B
  refine p_aloadN B d7_0 (pc' := 1) rfl rfl rfl ?_
  refine r_initO B d7_1 (pc' := 4) rfl (W36 B.gw) (W12 B.gw) (W13 B.gw) rfl (by decide) (W := 0) rfl (by decide) ?_
  intro T1 B2
  refine p_aloadN B2 d7_4 (pc' := 5) rfl rfl rfl ?_
  refine p_bipush B2 d7_5 (pc' := 7) rfl (v := (16 : Int32)) (by decide) ?_
  refine r_newr B2 d7_7 (pc' := 10) rfl (W37 B2.gw) (W38 B2.gw) (by decide) (nn := 16) (by decide) (cap := 16) (by decide) (by decide) (cs' := 1) rfl (ss' := 16) rfl (by decide) (by decide) (ad := "[Ljava/lang/String;") (by decide) (vs := [.null, .null, .null, .null, .null, .null, .null, .null, .null, .null, .null, .null, .null, .null, .null, .null]) rfl ?_
  intro T3 a5 B4
  refine r_put B4 d7_10 (pc' := 13) rfl (host := "") (Or.inl (W39 B4.gw)) Via.refl (i := 1) (j := 0) rfl rfl (Or.inl (W40 B4.gw)) (W31 B4.gw) (ty := (.array (.object "java/lang/String"))) (by decide) rfl rfl (H' := ((a5, .inr ((.object "java/lang/String"), "[Ljava/lang/String;", [.null, .null, .null, .null, .null, .null, .null, .null, .null, .null, .null, .null, .null, .null, .null, .null])) :: o_Pain001Reader_Element e (.ref a5) (.int (0 : Int32)) (.int (0 : Int32)) (.int (0 : Int32)) (.int (0 : Int32)) (.int (0 : Int32)) :: H0)) rfl ?_
  intro T6 B7
  have B8 : RH g D7 M T6 (o_Pain001Reader_Element e (.ref a5) (.int (0 : Int32)) (.int (0 : Int32)) (.int (0 : Int32)) (.int (0 : Int32)) (.int (0 : Int32)) :: (a5, .inr ((.object "java/lang/String"), "[Ljava/lang/String;", [.null, .null, .null, .null, .null, .null, .null, .null, .null, .null, .null, .null, .null, .null, .null, .null])) :: H0) (Lt) 1 16 := B7.front (i := 1) rfl rfl
  exact r_ret B8 d7_13 rfl (by decide) (by decide) (fun vm h P => ⟨rfl, _, P⟩)
abbrev D12_an0_x : DD := (⟨"com/example/polecenie/polecenie/core/Pain001Reader$Element", "ancestor", "(I)Ljava/lang/String;"⟩, prog_35_method_3_code, 2, (some (.object "java/lang/String")), { frames := 0, cells := 0, slots := 0, locals := 0 })
theorem ef_an0_x (e : Addr) (q : Int32) (m : MethodId) : entryFrame m #[(.ref e), (.int q)] 2 = mkF m 0 #[.val (.ref e), .val (.int q)] [] := by first | (simp [entryFrame, mkF, argsToLocals, Value.category]; done) | rfl
theorem k_an0_x {g : GG} (W : GW g) (e na : Addr) (q : Int32) (hq : ¬ q < (0 : Int32)) (H0 : List Ent) (Lt : List SE) : Ct g D12_an0_x #[.ref e, (.int q)] (o_Pain001Reader_Element e (.ref na) (.int (0 : Int32)) (.int (0 : Int32)) (.int (0 : Int32)) (.int (0 : Int32)) (.int (0 : Int32)) :: (na, .inr ((.object "java/lang/String"), "[Ljava/lang/String;", [.null, .null, .null, .null, .null, .null, .null, .null, .null, .null, .null, .null, .null, .null, .null, .null])) :: H0) Lt (fun v vm h => v = some .null ∧ Hp g vm h (o_Pain001Reader_Element e (.ref na) (.int (0 : Int32)) (.int (0 : Int32)) (.int (0 : Int32)) (.int (0 : Int32)) (.int (0 : Int32)) :: (na, .inr ((.object "java/lang/String"), "[Ljava/lang/String;", [.null, .null, .null, .null, .null, .null, .null, .null, .null, .null, .null, .null, .null, .null, .null, .null])) :: H0) Lt) := by
  refine CtW.body W (by decide +kernel) (ef_an0_x e q) ?_
  intro M T B
  refine p_iloadN B d12_0 (pc' := 1) rfl rfl ?_
  refine p_aloadN B d12_1 (pc' := 2) rfl rfl rfl ?_
  refine r_get B d12_2 (pc' := 5) rfl (host := "") (Or.inl (W46 B.gw)) Via.refl (v := (.int (0 : Int32))) (fO (i := 0) (j := 1) rfl rfl) ?_
  intro T1 B2
  refine b_icT B2 d12_5 (pc' := 24) hq (by decide) (by decide) ?_
  refine p_null B2 d12_24 (pc' := 25) rfl ?_
  exact r_reta B2 d12_25 rfl rfl rfl (by decide) (by decide) (fun vm h P => ⟨rfl, P⟩)
abbrev D12_an1_0 : DD := (⟨"com/example/polecenie/polecenie/core/Pain001Reader$Element", "ancestor", "(I)Ljava/lang/String;"⟩, prog_35_method_3_code, 2, (some (.object "java/lang/String")), { frames := 0, cells := 0, slots := 0, locals := 0 })
theorem ef_an1_0 (e : Addr) (m : MethodId) : entryFrame m #[(.ref e), (.int (0 : Int32))] 2 = mkF m 0 #[.val (.ref e), .val (.int (0 : Int32))] [] := by first | (simp [entryFrame, mkF, argsToLocals, Value.category]; done) | rfl
theorem k_an1_0 {g : GG} (W : GW g) (e na : Addr) (x0 : Addr) (H0 : List Ent) (Lt : List SE) : Ct g D12_an1_0 #[.ref e, (.int (0 : Int32))] (o_Pain001Reader_Element e (.ref na) (.int (1 : Int32)) (.int (0 : Int32)) (.int (0 : Int32)) (.int (0 : Int32)) (.int (0 : Int32)) :: (na, .inr ((.object "java/lang/String"), "[Ljava/lang/String;", [(.ref x0), .null, .null, .null, .null, .null, .null, .null, .null, .null, .null, .null, .null, .null, .null, .null])) :: H0) Lt (fun v vm h => v = some (.ref x0) ∧ Hp g vm h (o_Pain001Reader_Element e (.ref na) (.int (1 : Int32)) (.int (0 : Int32)) (.int (0 : Int32)) (.int (0 : Int32)) (.int (0 : Int32)) :: (na, .inr ((.object "java/lang/String"), "[Ljava/lang/String;", [(.ref x0), .null, .null, .null, .null, .null, .null, .null, .null, .null, .null, .null, .null, .null, .null, .null])) :: H0) Lt) := by
  refine CtW.body W (by decide +kernel) (ef_an1_0 e) ?_
  intro M T B
  refine p_iloadN B d12_0 (pc' := 1) rfl rfl ?_
  refine p_aloadN B d12_1 (pc' := 2) rfl rfl rfl ?_
  refine r_get B d12_2 (pc' := 5) rfl (host := "") (Or.inl (W46 B.gw)) Via.refl (v := (.int (1 : Int32))) (fO (i := 0) (j := 1) rfl rfl) ?_
  intro T1 B2
  refine b_icF B2 d12_5 (pc' := 8) rfl (show (0 : Int32) < (1 : Int32) from by decide) ?_
  refine p_aloadN B2 d12_8 (pc' := 9) rfl rfl rfl ?_
  refine r_get B2 d12_9 (pc' := 12) rfl (host := "") (Or.inl (W39 B2.gw)) Via.refl (v := (.ref na)) (fO (i := 0) (j := 0) rfl rfl) ?_
  intro T3 B4
  refine p_aloadN B4 d12_12 (pc' := 13) rfl rfl rfl ?_
  refine r_get B4 d12_13 (pc' := 16) rfl (host := "") (Or.inl (W46 B4.gw)) Via.refl (v := (.int (1 : Int32))) (fO (i := 0) (j := 1) rfl rfl) ?_
  intro T5 B6
  refine p_iconst B6 d12_16 (pc' := 17) rfl (v := (1 : Int32)) (by decide) ?_
  refine p_isub B6 d12_17 (pc' := 18) rfl (z := (0 : Int32)) (by decide) ?_
  refine p_iloadN B6 d12_18 (pc' := 19) rfl rfl ?_
  refine p_isub B6 d12_19 (pc' := 20) rfl (z := (0 : Int32)) (by decide) ?_
  refine r_aget B6 d12_20 rfl (pc' := 21) rfl (aH (i := 1) rfl) (k := 0) (by decide) rfl ?_
  refine b_goto B6 d12_21 (pc' := 25) (by decide) (by decide) ?_
  exact r_reta B6 d12_25 rfl rfl rfl (by decide) (by decide) (fun vm h P => ⟨rfl, P⟩)
abbrev D12_an1_x : DD := (⟨"com/example/polecenie/polecenie/core/Pain001Reader$Element", "ancestor", "(I)Ljava/lang/String;"⟩, prog_35_method_3_code, 2, (some (.object "java/lang/String")), { frames := 0, cells := 0, slots := 0, locals := 0 })
theorem ef_an1_x (e : Addr) (q : Int32) (m : MethodId) : entryFrame m #[(.ref e), (.int q)] 2 = mkF m 0 #[.val (.ref e), .val (.int q)] [] := by first | (simp [entryFrame, mkF, argsToLocals, Value.category]; done) | rfl
theorem k_an1_x {g : GG} (W : GW g) (e na : Addr) (x0 : Addr) (q : Int32) (hq : ¬ q < (1 : Int32)) (H0 : List Ent) (Lt : List SE) : Ct g D12_an1_x #[.ref e, (.int q)] (o_Pain001Reader_Element e (.ref na) (.int (1 : Int32)) (.int (0 : Int32)) (.int (0 : Int32)) (.int (0 : Int32)) (.int (0 : Int32)) :: (na, .inr ((.object "java/lang/String"), "[Ljava/lang/String;", [(.ref x0), .null, .null, .null, .null, .null, .null, .null, .null, .null, .null, .null, .null, .null, .null, .null])) :: H0) Lt (fun v vm h => v = some .null ∧ Hp g vm h (o_Pain001Reader_Element e (.ref na) (.int (1 : Int32)) (.int (0 : Int32)) (.int (0 : Int32)) (.int (0 : Int32)) (.int (0 : Int32)) :: (na, .inr ((.object "java/lang/String"), "[Ljava/lang/String;", [(.ref x0), .null, .null, .null, .null, .null, .null, .null, .null, .null, .null, .null, .null, .null, .null, .null])) :: H0) Lt) := by
  refine CtW.body W (by decide +kernel) (ef_an1_x e q) ?_
  intro M T B
  refine p_iloadN B d12_0 (pc' := 1) rfl rfl ?_
  refine p_aloadN B d12_1 (pc' := 2) rfl rfl rfl ?_
  refine r_get B d12_2 (pc' := 5) rfl (host := "") (Or.inl (W46 B.gw)) Via.refl (v := (.int (1 : Int32))) (fO (i := 0) (j := 1) rfl rfl) ?_
  intro T1 B2
  refine b_icT B2 d12_5 (pc' := 24) hq (by decide) (by decide) ?_
  refine p_null B2 d12_24 (pc' := 25) rfl ?_
  exact r_reta B2 d12_25 rfl rfl rfl (by decide) (by decide) (fun vm h P => ⟨rfl, P⟩)
abbrev D12_an2_0 : DD := (⟨"com/example/polecenie/polecenie/core/Pain001Reader$Element", "ancestor", "(I)Ljava/lang/String;"⟩, prog_35_method_3_code, 2, (some (.object "java/lang/String")), { frames := 0, cells := 0, slots := 0, locals := 0 })
theorem ef_an2_0 (e : Addr) (m : MethodId) : entryFrame m #[(.ref e), (.int (0 : Int32))] 2 = mkF m 0 #[.val (.ref e), .val (.int (0 : Int32))] [] := by first | (simp [entryFrame, mkF, argsToLocals, Value.category]; done) | rfl
theorem k_an2_0 {g : GG} (W : GW g) (e na : Addr) (x0 : Addr) (x1 : Addr) (H0 : List Ent) (Lt : List SE) : Ct g D12_an2_0 #[.ref e, (.int (0 : Int32))] (o_Pain001Reader_Element e (.ref na) (.int (2 : Int32)) (.int (0 : Int32)) (.int (0 : Int32)) (.int (0 : Int32)) (.int (0 : Int32)) :: (na, .inr ((.object "java/lang/String"), "[Ljava/lang/String;", [(.ref x0), (.ref x1), .null, .null, .null, .null, .null, .null, .null, .null, .null, .null, .null, .null, .null, .null])) :: H0) Lt (fun v vm h => v = some (.ref x1) ∧ Hp g vm h (o_Pain001Reader_Element e (.ref na) (.int (2 : Int32)) (.int (0 : Int32)) (.int (0 : Int32)) (.int (0 : Int32)) (.int (0 : Int32)) :: (na, .inr ((.object "java/lang/String"), "[Ljava/lang/String;", [(.ref x0), (.ref x1), .null, .null, .null, .null, .null, .null, .null, .null, .null, .null, .null, .null, .null, .null])) :: H0) Lt) := by
  refine CtW.body W (by decide +kernel) (ef_an2_0 e) ?_
  intro M T B
  refine p_iloadN B d12_0 (pc' := 1) rfl rfl ?_
  refine p_aloadN B d12_1 (pc' := 2) rfl rfl rfl ?_
  refine r_get B d12_2 (pc' := 5) rfl (host := "") (Or.inl (W46 B.gw)) Via.refl (v := (.int (2 : Int32))) (fO (i := 0) (j := 1) rfl rfl) ?_
  intro T1 B2
  refine b_icF B2 d12_5 (pc' := 8) rfl (show (0 : Int32) < (2 : Int32) from by decide) ?_
  refine p_aloadN B2 d12_8 (pc' := 9) rfl rfl rfl ?_
  refine r_get B2 d12_9 (pc' := 12) rfl (host := "") (Or.inl (W39 B2.gw)) Via.refl (v := (.ref na)) (fO (i := 0) (j := 0) rfl rfl) ?_
  intro T3 B4
  refine p_aloadN B4 d12_12 (pc' := 13) rfl rfl rfl ?_
  refine r_get B4 d12_13 (pc' := 16) rfl (host := "") (Or.inl (W46 B4.gw)) Via.refl (v := (.int (2 : Int32))) (fO (i := 0) (j := 1) rfl rfl) ?_
  intro T5 B6
  refine p_iconst B6 d12_16 (pc' := 17) rfl (v := (1 : Int32)) (by decide) ?_
  refine p_isub B6 d12_17 (pc' := 18) rfl (z := (1 : Int32)) (by decide) ?_
  refine p_iloadN B6 d12_18 (pc' := 19) rfl rfl ?_
  refine p_isub B6 d12_19 (pc' := 20) rfl (z := (1 : Int32)) (by decide) ?_
  refine r_aget B6 d12_20 rfl (pc' := 21) rfl (aH (i := 1) rfl) (k := 1) (by decide) rfl ?_
  refine b_goto B6 d12_21 (pc' := 25) (by decide) (by decide) ?_
  exact r_reta B6 d12_25 rfl rfl rfl (by decide) (by decide) (fun vm h P => ⟨rfl, P⟩)
abbrev D12_an2_1 : DD := (⟨"com/example/polecenie/polecenie/core/Pain001Reader$Element", "ancestor", "(I)Ljava/lang/String;"⟩, prog_35_method_3_code, 2, (some (.object "java/lang/String")), { frames := 0, cells := 0, slots := 0, locals := 0 })
theorem ef_an2_1 (e : Addr) (m : MethodId) : entryFrame m #[(.ref e), (.int (1 : Int32))] 2 = mkF m 0 #[.val (.ref e), .val (.int (1 : Int32))] [] := by first | (simp [entryFrame, mkF, argsToLocals, Value.category]; done) | rfl
theorem k_an2_1 {g : GG} (W : GW g) (e na : Addr) (x0 : Addr) (x1 : Addr) (H0 : List Ent) (Lt : List SE) : Ct g D12_an2_1 #[.ref e, (.int (1 : Int32))] (o_Pain001Reader_Element e (.ref na) (.int (2 : Int32)) (.int (0 : Int32)) (.int (0 : Int32)) (.int (0 : Int32)) (.int (0 : Int32)) :: (na, .inr ((.object "java/lang/String"), "[Ljava/lang/String;", [(.ref x0), (.ref x1), .null, .null, .null, .null, .null, .null, .null, .null, .null, .null, .null, .null, .null, .null])) :: H0) Lt (fun v vm h => v = some (.ref x0) ∧ Hp g vm h (o_Pain001Reader_Element e (.ref na) (.int (2 : Int32)) (.int (0 : Int32)) (.int (0 : Int32)) (.int (0 : Int32)) (.int (0 : Int32)) :: (na, .inr ((.object "java/lang/String"), "[Ljava/lang/String;", [(.ref x0), (.ref x1), .null, .null, .null, .null, .null, .null, .null, .null, .null, .null, .null, .null, .null, .null])) :: H0) Lt) := by
  refine CtW.body W (by decide +kernel) (ef_an2_1 e) ?_
  intro M T B
  refine p_iloadN B d12_0 (pc' := 1) rfl rfl ?_
  refine p_aloadN B d12_1 (pc' := 2) rfl rfl rfl ?_
  refine r_get B d12_2 (pc' := 5) rfl (host := "") (Or.inl (W46 B.gw)) Via.refl (v := (.int (2 : Int32))) (fO (i := 0) (j := 1) rfl rfl) ?_
  intro T1 B2
  refine b_icF B2 d12_5 (pc' := 8) rfl (show (1 : Int32) < (2 : Int32) from by decide) ?_
  refine p_aloadN B2 d12_8 (pc' := 9) rfl rfl rfl ?_
  refine r_get B2 d12_9 (pc' := 12) rfl (host := "") (Or.inl (W39 B2.gw)) Via.refl (v := (.ref na)) (fO (i := 0) (j := 0) rfl rfl) ?_
  intro T3 B4
  refine p_aloadN B4 d12_12 (pc' := 13) rfl rfl rfl ?_
  refine r_get B4 d12_13 (pc' := 16) rfl (host := "") (Or.inl (W46 B4.gw)) Via.refl (v := (.int (2 : Int32))) (fO (i := 0) (j := 1) rfl rfl) ?_
  intro T5 B6
  refine p_iconst B6 d12_16 (pc' := 17) rfl (v := (1 : Int32)) (by decide) ?_
  refine p_isub B6 d12_17 (pc' := 18) rfl (z := (1 : Int32)) (by decide) ?_
  refine p_iloadN B6 d12_18 (pc' := 19) rfl rfl ?_
  refine p_isub B6 d12_19 (pc' := 20) rfl (z := (0 : Int32)) (by decide) ?_
  refine r_aget B6 d12_20 rfl (pc' := 21) rfl (aH (i := 1) rfl) (k := 0) (by decide) rfl ?_
  refine b_goto B6 d12_21 (pc' := 25) (by decide) (by decide) ?_
  exact r_reta B6 d12_25 rfl rfl rfl (by decide) (by decide) (fun vm h P => ⟨rfl, P⟩)
abbrev D12_an2_x : DD := (⟨"com/example/polecenie/polecenie/core/Pain001Reader$Element", "ancestor", "(I)Ljava/lang/String;"⟩, prog_35_method_3_code, 2, (some (.object "java/lang/String")), { frames := 0, cells := 0, slots := 0, locals := 0 })
theorem ef_an2_x (e : Addr) (q : Int32) (m : MethodId) : entryFrame m #[(.ref e), (.int q)] 2 = mkF m 0 #[.val (.ref e), .val (.int q)] [] := by first | (simp [entryFrame, mkF, argsToLocals, Value.category]; done) | rfl
theorem k_an2_x {g : GG} (W : GW g) (e na : Addr) (x0 : Addr) (x1 : Addr) (q : Int32) (hq : ¬ q < (2 : Int32)) (H0 : List Ent) (Lt : List SE) : Ct g D12_an2_x #[.ref e, (.int q)] (o_Pain001Reader_Element e (.ref na) (.int (2 : Int32)) (.int (0 : Int32)) (.int (0 : Int32)) (.int (0 : Int32)) (.int (0 : Int32)) :: (na, .inr ((.object "java/lang/String"), "[Ljava/lang/String;", [(.ref x0), (.ref x1), .null, .null, .null, .null, .null, .null, .null, .null, .null, .null, .null, .null, .null, .null])) :: H0) Lt (fun v vm h => v = some .null ∧ Hp g vm h (o_Pain001Reader_Element e (.ref na) (.int (2 : Int32)) (.int (0 : Int32)) (.int (0 : Int32)) (.int (0 : Int32)) (.int (0 : Int32)) :: (na, .inr ((.object "java/lang/String"), "[Ljava/lang/String;", [(.ref x0), (.ref x1), .null, .null, .null, .null, .null, .null, .null, .null, .null, .null, .null, .null, .null, .null])) :: H0) Lt) := by
  refine CtW.body W (by decide +kernel) (ef_an2_x e q) ?_
  intro M T B
  refine p_iloadN B d12_0 (pc' := 1) rfl rfl ?_
  refine p_aloadN B d12_1 (pc' := 2) rfl rfl rfl ?_
  refine r_get B d12_2 (pc' := 5) rfl (host := "") (Or.inl (W46 B.gw)) Via.refl (v := (.int (2 : Int32))) (fO (i := 0) (j := 1) rfl rfl) ?_
  intro T1 B2
  refine b_icT B2 d12_5 (pc' := 24) hq (by decide) (by decide) ?_
  refine p_null B2 d12_24 (pc' := 25) rfl ?_
  exact r_reta B2 d12_25 rfl rfl rfl (by decide) (by decide) (fun vm h P => ⟨rfl, P⟩)
abbrev D12_an3_0 : DD := (⟨"com/example/polecenie/polecenie/core/Pain001Reader$Element", "ancestor", "(I)Ljava/lang/String;"⟩, prog_35_method_3_code, 2, (some (.object "java/lang/String")), { frames := 0, cells := 0, slots := 0, locals := 0 })
theorem ef_an3_0 (e : Addr) (m : MethodId) : entryFrame m #[(.ref e), (.int (0 : Int32))] 2 = mkF m 0 #[.val (.ref e), .val (.int (0 : Int32))] [] := by first | (simp [entryFrame, mkF, argsToLocals, Value.category]; done) | rfl
theorem k_an3_0 {g : GG} (W : GW g) (e na : Addr) (x0 : Addr) (x1 : Addr) (x2 : Addr) (H0 : List Ent) (Lt : List SE) : Ct g D12_an3_0 #[.ref e, (.int (0 : Int32))] (o_Pain001Reader_Element e (.ref na) (.int (3 : Int32)) (.int (0 : Int32)) (.int (0 : Int32)) (.int (0 : Int32)) (.int (0 : Int32)) :: (na, .inr ((.object "java/lang/String"), "[Ljava/lang/String;", [(.ref x0), (.ref x1), (.ref x2), .null, .null, .null, .null, .null, .null, .null, .null, .null, .null, .null, .null, .null])) :: H0) Lt (fun v vm h => v = some (.ref x2) ∧ Hp g vm h (o_Pain001Reader_Element e (.ref na) (.int (3 : Int32)) (.int (0 : Int32)) (.int (0 : Int32)) (.int (0 : Int32)) (.int (0 : Int32)) :: (na, .inr ((.object "java/lang/String"), "[Ljava/lang/String;", [(.ref x0), (.ref x1), (.ref x2), .null, .null, .null, .null, .null, .null, .null, .null, .null, .null, .null, .null, .null])) :: H0) Lt) := by
  refine CtW.body W (by decide +kernel) (ef_an3_0 e) ?_
  intro M T B
  refine p_iloadN B d12_0 (pc' := 1) rfl rfl ?_
  refine p_aloadN B d12_1 (pc' := 2) rfl rfl rfl ?_
  refine r_get B d12_2 (pc' := 5) rfl (host := "") (Or.inl (W46 B.gw)) Via.refl (v := (.int (3 : Int32))) (fO (i := 0) (j := 1) rfl rfl) ?_
  intro T1 B2
  refine b_icF B2 d12_5 (pc' := 8) rfl (show (0 : Int32) < (3 : Int32) from by decide) ?_
  refine p_aloadN B2 d12_8 (pc' := 9) rfl rfl rfl ?_
  refine r_get B2 d12_9 (pc' := 12) rfl (host := "") (Or.inl (W39 B2.gw)) Via.refl (v := (.ref na)) (fO (i := 0) (j := 0) rfl rfl) ?_
  intro T3 B4
  refine p_aloadN B4 d12_12 (pc' := 13) rfl rfl rfl ?_
  refine r_get B4 d12_13 (pc' := 16) rfl (host := "") (Or.inl (W46 B4.gw)) Via.refl (v := (.int (3 : Int32))) (fO (i := 0) (j := 1) rfl rfl) ?_
  intro T5 B6
  refine p_iconst B6 d12_16 (pc' := 17) rfl (v := (1 : Int32)) (by decide) ?_
  refine p_isub B6 d12_17 (pc' := 18) rfl (z := (2 : Int32)) (by decide) ?_
  refine p_iloadN B6 d12_18 (pc' := 19) rfl rfl ?_
  refine p_isub B6 d12_19 (pc' := 20) rfl (z := (2 : Int32)) (by decide) ?_
  refine r_aget B6 d12_20 rfl (pc' := 21) rfl (aH (i := 1) rfl) (k := 2) (by decide) rfl ?_
  refine b_goto B6 d12_21 (pc' := 25) (by decide) (by decide) ?_
  exact r_reta B6 d12_25 rfl rfl rfl (by decide) (by decide) (fun vm h P => ⟨rfl, P⟩)
abbrev D12_an3_1 : DD := (⟨"com/example/polecenie/polecenie/core/Pain001Reader$Element", "ancestor", "(I)Ljava/lang/String;"⟩, prog_35_method_3_code, 2, (some (.object "java/lang/String")), { frames := 0, cells := 0, slots := 0, locals := 0 })
theorem ef_an3_1 (e : Addr) (m : MethodId) : entryFrame m #[(.ref e), (.int (1 : Int32))] 2 = mkF m 0 #[.val (.ref e), .val (.int (1 : Int32))] [] := by first | (simp [entryFrame, mkF, argsToLocals, Value.category]; done) | rfl
theorem k_an3_1 {g : GG} (W : GW g) (e na : Addr) (x0 : Addr) (x1 : Addr) (x2 : Addr) (H0 : List Ent) (Lt : List SE) : Ct g D12_an3_1 #[.ref e, (.int (1 : Int32))] (o_Pain001Reader_Element e (.ref na) (.int (3 : Int32)) (.int (0 : Int32)) (.int (0 : Int32)) (.int (0 : Int32)) (.int (0 : Int32)) :: (na, .inr ((.object "java/lang/String"), "[Ljava/lang/String;", [(.ref x0), (.ref x1), (.ref x2), .null, .null, .null, .null, .null, .null, .null, .null, .null, .null, .null, .null, .null])) :: H0) Lt (fun v vm h => v = some (.ref x1) ∧ Hp g vm h (o_Pain001Reader_Element e (.ref na) (.int (3 : Int32)) (.int (0 : Int32)) (.int (0 : Int32)) (.int (0 : Int32)) (.int (0 : Int32)) :: (na, .inr ((.object "java/lang/String"), "[Ljava/lang/String;", [(.ref x0), (.ref x1), (.ref x2), .null, .null, .null, .null, .null, .null, .null, .null, .null, .null, .null, .null, .null])) :: H0) Lt) := by
  refine CtW.body W (by decide +kernel) (ef_an3_1 e) ?_
  intro M T B
  refine p_iloadN B d12_0 (pc' := 1) rfl rfl ?_
  refine p_aloadN B d12_1 (pc' := 2) rfl rfl rfl ?_
  refine r_get B d12_2 (pc' := 5) rfl (host := "") (Or.inl (W46 B.gw)) Via.refl (v := (.int (3 : Int32))) (fO (i := 0) (j := 1) rfl rfl) ?_
  intro T1 B2
  refine b_icF B2 d12_5 (pc' := 8) rfl (show (1 : Int32) < (3 : Int32) from by decide) ?_
  refine p_aloadN B2 d12_8 (pc' := 9) rfl rfl rfl ?_
  refine r_get B2 d12_9 (pc' := 12) rfl (host := "") (Or.inl (W39 B2.gw)) Via.refl (v := (.ref na)) (fO (i := 0) (j := 0) rfl rfl) ?_
  intro T3 B4
  refine p_aloadN B4 d12_12 (pc' := 13) rfl rfl rfl ?_
  refine r_get B4 d12_13 (pc' := 16) rfl (host := "") (Or.inl (W46 B4.gw)) Via.refl (v := (.int (3 : Int32))) (fO (i := 0) (j := 1) rfl rfl) ?_
  intro T5 B6
  refine p_iconst B6 d12_16 (pc' := 17) rfl (v := (1 : Int32)) (by decide) ?_
  refine p_isub B6 d12_17 (pc' := 18) rfl (z := (2 : Int32)) (by decide) ?_
  refine p_iloadN B6 d12_18 (pc' := 19) rfl rfl ?_
  refine p_isub B6 d12_19 (pc' := 20) rfl (z := (1 : Int32)) (by decide) ?_
  refine r_aget B6 d12_20 rfl (pc' := 21) rfl (aH (i := 1) rfl) (k := 1) (by decide) rfl ?_
  refine b_goto B6 d12_21 (pc' := 25) (by decide) (by decide) ?_
  exact r_reta B6 d12_25 rfl rfl rfl (by decide) (by decide) (fun vm h P => ⟨rfl, P⟩)
abbrev D12_an3_2 : DD := (⟨"com/example/polecenie/polecenie/core/Pain001Reader$Element", "ancestor", "(I)Ljava/lang/String;"⟩, prog_35_method_3_code, 2, (some (.object "java/lang/String")), { frames := 0, cells := 0, slots := 0, locals := 0 })
theorem ef_an3_2 (e : Addr) (m : MethodId) : entryFrame m #[(.ref e), (.int (2 : Int32))] 2 = mkF m 0 #[.val (.ref e), .val (.int (2 : Int32))] [] := by first | (simp [entryFrame, mkF, argsToLocals, Value.category]; done) | rfl
theorem k_an3_2 {g : GG} (W : GW g) (e na : Addr) (x0 : Addr) (x1 : Addr) (x2 : Addr) (H0 : List Ent) (Lt : List SE) : Ct g D12_an3_2 #[.ref e, (.int (2 : Int32))] (o_Pain001Reader_Element e (.ref na) (.int (3 : Int32)) (.int (0 : Int32)) (.int (0 : Int32)) (.int (0 : Int32)) (.int (0 : Int32)) :: (na, .inr ((.object "java/lang/String"), "[Ljava/lang/String;", [(.ref x0), (.ref x1), (.ref x2), .null, .null, .null, .null, .null, .null, .null, .null, .null, .null, .null, .null, .null])) :: H0) Lt (fun v vm h => v = some (.ref x0) ∧ Hp g vm h (o_Pain001Reader_Element e (.ref na) (.int (3 : Int32)) (.int (0 : Int32)) (.int (0 : Int32)) (.int (0 : Int32)) (.int (0 : Int32)) :: (na, .inr ((.object "java/lang/String"), "[Ljava/lang/String;", [(.ref x0), (.ref x1), (.ref x2), .null, .null, .null, .null, .null, .null, .null, .null, .null, .null, .null, .null, .null])) :: H0) Lt) := by
  refine CtW.body W (by decide +kernel) (ef_an3_2 e) ?_
  intro M T B
  refine p_iloadN B d12_0 (pc' := 1) rfl rfl ?_
  refine p_aloadN B d12_1 (pc' := 2) rfl rfl rfl ?_
  refine r_get B d12_2 (pc' := 5) rfl (host := "") (Or.inl (W46 B.gw)) Via.refl (v := (.int (3 : Int32))) (fO (i := 0) (j := 1) rfl rfl) ?_
  intro T1 B2
  refine b_icF B2 d12_5 (pc' := 8) rfl (show (2 : Int32) < (3 : Int32) from by decide) ?_
  refine p_aloadN B2 d12_8 (pc' := 9) rfl rfl rfl ?_
  refine r_get B2 d12_9 (pc' := 12) rfl (host := "") (Or.inl (W39 B2.gw)) Via.refl (v := (.ref na)) (fO (i := 0) (j := 0) rfl rfl) ?_
  intro T3 B4
  refine p_aloadN B4 d12_12 (pc' := 13) rfl rfl rfl ?_
  refine r_get B4 d12_13 (pc' := 16) rfl (host := "") (Or.inl (W46 B4.gw)) Via.refl (v := (.int (3 : Int32))) (fO (i := 0) (j := 1) rfl rfl) ?_
  intro T5 B6
  refine p_iconst B6 d12_16 (pc' := 17) rfl (v := (1 : Int32)) (by decide) ?_
  refine p_isub B6 d12_17 (pc' := 18) rfl (z := (2 : Int32)) (by decide) ?_
  refine p_iloadN B6 d12_18 (pc' := 19) rfl rfl ?_
  refine p_isub B6 d12_19 (pc' := 20) rfl (z := (0 : Int32)) (by decide) ?_
  refine r_aget B6 d12_20 rfl (pc' := 21) rfl (aH (i := 1) rfl) (k := 0) (by decide) rfl ?_
  refine b_goto B6 d12_21 (pc' := 25) (by decide) (by decide) ?_
  exact r_reta B6 d12_25 rfl rfl rfl (by decide) (by decide) (fun vm h P => ⟨rfl, P⟩)
abbrev D12_an3_x : DD := (⟨"com/example/polecenie/polecenie/core/Pain001Reader$Element", "ancestor", "(I)Ljava/lang/String;"⟩, prog_35_method_3_code, 2, (some (.object "java/lang/String")), { frames := 0, cells := 0, slots := 0, locals := 0 })
theorem ef_an3_x (e : Addr) (q : Int32) (m : MethodId) : entryFrame m #[(.ref e), (.int q)] 2 = mkF m 0 #[.val (.ref e), .val (.int q)] [] := by first | (simp [entryFrame, mkF, argsToLocals, Value.category]; done) | rfl
theorem k_an3_x {g : GG} (W : GW g) (e na : Addr) (x0 : Addr) (x1 : Addr) (x2 : Addr) (q : Int32) (hq : ¬ q < (3 : Int32)) (H0 : List Ent) (Lt : List SE) : Ct g D12_an3_x #[.ref e, (.int q)] (o_Pain001Reader_Element e (.ref na) (.int (3 : Int32)) (.int (0 : Int32)) (.int (0 : Int32)) (.int (0 : Int32)) (.int (0 : Int32)) :: (na, .inr ((.object "java/lang/String"), "[Ljava/lang/String;", [(.ref x0), (.ref x1), (.ref x2), .null, .null, .null, .null, .null, .null, .null, .null, .null, .null, .null, .null, .null])) :: H0) Lt (fun v vm h => v = some .null ∧ Hp g vm h (o_Pain001Reader_Element e (.ref na) (.int (3 : Int32)) (.int (0 : Int32)) (.int (0 : Int32)) (.int (0 : Int32)) (.int (0 : Int32)) :: (na, .inr ((.object "java/lang/String"), "[Ljava/lang/String;", [(.ref x0), (.ref x1), (.ref x2), .null, .null, .null, .null, .null, .null, .null, .null, .null, .null, .null, .null, .null])) :: H0) Lt) := by
  refine CtW.body W (by decide +kernel) (ef_an3_x e q) ?_
  intro M T B
  refine p_iloadN B d12_0 (pc' := 1) rfl rfl ?_
  refine p_aloadN B d12_1 (pc' := 2) rfl rfl rfl ?_
  refine r_get B d12_2 (pc' := 5) rfl (host := "") (Or.inl (W46 B.gw)) Via.refl (v := (.int (3 : Int32))) (fO (i := 0) (j := 1) rfl rfl) ?_
  intro T1 B2
  refine b_icT B2 d12_5 (pc' := 24) hq (by decide) (by decide) ?_
  refine p_null B2 d12_24 (pc' := 25) rfl ?_
  exact r_reta B2 d12_25 rfl rfl rfl (by decide) (by decide) (fun vm h P => ⟨rfl, P⟩)
def expf (n q : Int32) (s0 s1 s2 : Addr) : Value :=
  if n = (0 : Int32) then .null else if n = (1 : Int32) then (if q = (0 : Int32) then .ref s0 else .null) else if n = (2 : Int32) then (if q = (0 : Int32) then .ref s1 else if q = (1 : Int32) then .ref s0 else .null)
  else (if q = (0 : Int32) then .ref s2 else if q = (1 : Int32) then .ref s1 else if q = (2 : Int32) then .ref s0 else .null)
theorem expf_ref (n q : Int32) (s0 s1 s2 : Addr) : (expf n q s0 s1 s2).isRef = true := by
  unfold expf; (repeat' split) <;> rfl
theorem beyond {q : Int32} {n : Int32} (h : ¬ q < n) {k : Int32} (hk : k < n) : ¬ q = k := fun e => h (e ▸ hk)
theorem below {n : Nat} {q : Int32} (h0 : ¬ q < (0 : Int32)) (hn : n ≤ 3) (h : q < Int32.ofNat n) : ∃ k, k < n ∧ q = Int32.ofNat k := by
  rw [Int32.lt_iff_toInt_lt] at h h0
  rw [Int32.toInt_ofNat_small (by omega)] at h
  have e0 : (0 : Int32).toInt = 0 := rfl
  refine ⟨q.toInt.toNat, by omega, ?_⟩
  rw [← Int32.toInt_inj, Int32.toInt_ofNat_small (by omega)]
  omega
theorem qc (n : Nat) (hn : n ≤ 3) (q : Int32) (h0 : ¬ q < (0 : Int32)) : (∃ k, k < n ∧ q = Int32.ofNat k) ∨ ¬ q < Int32.ofNat n := by
  by_cases h : q < Int32.ofNat n
  · exact Or.inl (below h0 hn h)
  · exact Or.inr h
theorem qc0 (q : Int32) (h0 : ¬ q < (0 : Int32)) : ¬ q < (0 : Int32) := h0
theorem qc1 (q : Int32) (h0 : ¬ q < (0 : Int32)) : q = (0 : Int32) ∨ ¬ q < (1 : Int32) := by
  rcases qc 1 (by decide) q h0 with ⟨k, hk, e⟩ | h
  · match k, hk with
    | 0, _ => exact Or.inl e
  · exact Or.inr h
theorem qc2 (q : Int32) (h0 : ¬ q < (0 : Int32)) : q = (0 : Int32) ∨ q = (1 : Int32) ∨ ¬ q < (2 : Int32) := by
  rcases qc 2 (by decide) q h0 with ⟨k, hk, e⟩ | h
  · match k, hk with
    | 0, _ => exact Or.inl e
    | 1, _ => exact Or.inr (Or.inl e)
  · exact Or.inr (Or.inr h)
theorem qc3 (q : Int32) (h0 : ¬ q < (0 : Int32)) : q = (0 : Int32) ∨ q = (1 : Int32) ∨ q = (2 : Int32) ∨ ¬ q < (3 : Int32) := by
  rcases qc 3 (by decide) q h0 with ⟨k, hk, e⟩ | h
  · match k, hk with
    | 0, _ => exact Or.inl e
    | 1, _ => exact Or.inr (Or.inl e)
    | 2, _ => exact Or.inr (Or.inr (Or.inl e))
  · exact Or.inr (Or.inr (Or.inr h))
theorem m3 (x : Int32) : x &&& (3 : Int32) = (0 : Int32) ∨ x &&& (3 : Int32) = (1 : Int32) ∨ x &&& (3 : Int32) = (2 : Int32) ∨ x &&& (3 : Int32) = (3 : Int32) := by
  have a := c_mask x 3 2 (by decide) rfl
  simp only [Nat.reducePow, Int.cast_ofNat_Int] at a
  simp only [← Int32.toInt_inj, show (0 : Int32).toInt = 0 from rfl, show (1 : Int32).toInt = 1 from rfl, show (2 : Int32).toInt = 2 from rfl, show (3 : Int32).toInt = 3 from rfl]
  omega
theorem msk (x m : Int32) (h : 0 ≤ m.toInt) : ¬ x &&& m < (0 : Int32) := by
  rw [Int32.lt_iff_toInt_lt]
  have := (c_and x m h).1
  have e0 : (0 : Int32).toInt = 0 := rfl
  omega

theorem ef_ex (n q : Int32) (s0 s1 s2 : Addr) (m : MethodId) : entryFrame m #[(.int n), (.int q), (.ref s0), (.ref s1), (.ref s2)] 5 = mkF m 0 #[.val (.int n), .val (.int q), .val (.ref s0), .val (.ref s1), .val (.ref s2)] [] := by first | (simp [entryFrame, mkF, argsToLocals, Value.category]; done) | rfl
abbrev D13 : DD := (⟨"com/example/polecenie/polecenie/core/ElementAncestorPinLaw", "expected", "(IILjava/lang/String;Ljava/lang/String;Ljava/lang/String;)Ljava/lang/String;"⟩, method_3_code, 5, (some (.object "java/lang/String")), { frames := 0, cells := 0, slots := 0, locals := 0 })
theorem k_ex {g : GG} (W : GW g) (n q : Int32) (s0 s1 s2 : Addr) (H : List Ent) (Lt : List SE) : Ct g D13 #[.int n, .int q, .ref s0, .ref s1, .ref s2] H Lt (fun v vm h => v = some (expf n q s0 s1 s2) ∧ Hp g vm h H Lt) := by
  refine CtW.body W (by decide +kernel) (ef_ex n q s0 s1 s2) ?_
  intro M T B
  refine p_iloadN B d13_0 (pc' := 1) rfl rfl ?_
  by_cases h1 : n = (0 : Int32)
  · refine b_ifF B d13_1 (pc' := 4) rfl h1 ?_
    refine p_null B d13_4 (pc' := 5) rfl ?_
    exact r_reta B d13_5 rfl rfl rfl (by decide) (by decide) (fun vm h P => ⟨by simp [expf, h1], P⟩)
  · refine b_ifT B d13_1 (pc' := 6) h1 (by decide) (by decide) ?_
    refine p_iloadN B d13_6 (pc' := 7) rfl rfl ?_
    refine p_iconst B d13_7 (pc' := 8) rfl (v := (1 : Int32)) (by decide) ?_
    by_cases h2 : n = (1 : Int32)
    · refine b_icF B d13_8 (pc' := 11) rfl h2 ?_
      refine p_iloadN B d13_11 (pc' := 12) rfl rfl ?_
      by_cases h3 : q = (0 : Int32)
      · refine b_ifF B d13_12 (pc' := 15) rfl h3 ?_
        refine p_aloadN B d13_15 (pc' := 16) rfl rfl rfl ?_
        refine b_goto B d13_16 (pc' := 20) (by decide) (by decide) ?_
        exact r_reta B d13_20 rfl rfl rfl (by decide) (by decide) (fun vm h P => ⟨by simp [expf, h1, h2, h3], P⟩)
      · refine b_ifT B d13_12 (pc' := 19) h3 (by decide) (by decide) ?_
        refine p_null B d13_19 (pc' := 20) rfl ?_
        exact r_reta B d13_20 rfl rfl rfl (by decide) (by decide) (fun vm h P => ⟨by simp [expf, h1, h2, h3], P⟩)
    · refine b_icT B d13_8 (pc' := 21) h2 (by decide) (by decide) ?_
      refine p_iloadN B d13_21 (pc' := 22) rfl rfl ?_
      refine p_iconst B d13_22 (pc' := 23) rfl (v := (2 : Int32)) (by decide) ?_
      by_cases h4 : n = (2 : Int32)
      · refine b_icF B d13_23 (pc' := 26) rfl h4 ?_
        refine p_iloadN B d13_26 (pc' := 27) rfl rfl ?_
        by_cases h5 : q = (0 : Int32)
        · refine b_ifF B d13_27 (pc' := 30) rfl h5 ?_
          refine p_aloadN B d13_30 (pc' := 31) rfl rfl rfl ?_
          exact r_reta B d13_31 rfl rfl rfl (by decide) (by decide) (fun vm h P => ⟨by simp [expf, h1, h2, h4, h5], P⟩)
        · refine b_ifT B d13_27 (pc' := 32) h5 (by decide) (by decide) ?_
          refine p_iloadN B d13_32 (pc' := 33) rfl rfl ?_
          refine p_iconst B d13_33 (pc' := 34) rfl (v := (1 : Int32)) (by decide) ?_
          by_cases h6 : q = (1 : Int32)
          · refine b_icF B d13_34 (pc' := 37) rfl h6 ?_
            refine p_aloadN B d13_37 (pc' := 38) rfl rfl rfl ?_
            exact r_reta B d13_38 rfl rfl rfl (by decide) (by decide) (fun vm h P => ⟨by simp [expf, h1, h2, h4, h5, h6], P⟩)
          · refine b_icT B d13_34 (pc' := 39) h6 (by decide) (by decide) ?_
            refine p_null B d13_39 (pc' := 40) rfl ?_
            exact r_reta B d13_40 rfl rfl rfl (by decide) (by decide) (fun vm h P => ⟨by simp [expf, h1, h2, h4, h5, h6], P⟩)
      · refine b_icT B d13_23 (pc' := 41) h4 (by decide) (by decide) ?_
        refine p_iloadN B d13_41 (pc' := 42) rfl rfl ?_
        by_cases h7 : q = (0 : Int32)
        · refine b_ifF B d13_42 (pc' := 45) rfl h7 ?_
          refine p_aload B d13_45 (pc' := 47) rfl rfl rfl ?_
          exact r_reta B d13_47 rfl rfl rfl (by decide) (by decide) (fun vm h P => ⟨by simp [expf, h1, h2, h4, h7], P⟩)
        · refine b_ifT B d13_42 (pc' := 48) h7 (by decide) (by decide) ?_
          refine p_iloadN B d13_48 (pc' := 49) rfl rfl ?_
          refine p_iconst B d13_49 (pc' := 50) rfl (v := (1 : Int32)) (by decide) ?_
          by_cases h8 : q = (1 : Int32)
          · refine b_icF B d13_50 (pc' := 53) rfl h8 ?_
            refine p_aloadN B d13_53 (pc' := 54) rfl rfl rfl ?_
            exact r_reta B d13_54 rfl rfl rfl (by decide) (by decide) (fun vm h P => ⟨by simp [expf, h1, h2, h4, h7, h8], P⟩)
          · refine b_icT B d13_50 (pc' := 55) h8 (by decide) (by decide) ?_
            refine p_iloadN B d13_55 (pc' := 56) rfl rfl ?_
            refine p_iconst B d13_56 (pc' := 57) rfl (v := (2 : Int32)) (by decide) ?_
            by_cases h9 : q = (2 : Int32)
            · refine b_icF B d13_57 (pc' := 60) rfl h9 ?_
              refine p_aloadN B d13_60 (pc' := 61) rfl rfl rfl ?_
              exact r_reta B d13_61 rfl rfl rfl (by decide) (by decide) (fun vm h P => ⟨by simp [expf, h1, h2, h4, h7, h8, h9], P⟩)
            · refine b_icT B d13_57 (pc' := 62) h9 (by decide) (by decide) ?_
              refine p_null B d13_62 (pc' := 63) rfl ?_
              exact r_reta B d13_63 rfl rfl rfl (by decide) (by decide) (fun vm h P => ⟨by simp [expf, h1, h2, h4, h7, h8, h9], P⟩)
abbrev D0 : DD := (x, code, maxLocals, ret, room_1)
theorem ef_law (p0 p1 p2 p3 p4 p5 : Int32) (m : MethodId) : entryFrame m #[(.int p0), (.int p1), (.int p2), (.int p3), (.int p4), (.int p5)] maxLocals = mkF m 0 #[.val (.int p0), .val (.int p1), .val (.int p2), .val (.int p3), .val (.int p4), .val (.int p5), .unset, .unset, .unset, .unset, .unset, .unset, .unset, .unset] [] := by first | (simp [entryFrame, mkF, argsToLocals, Value.category, maxLocals]; done) | rfl
theorem law113 {g : GG} (W : GW g) (p0 p1 p2 p3 p4 p5 n q : Int32) (s0 b0 : Addr) (c0 : Int32) (s1 b1 : Addr) (c1 : Int32) (s2 b2 : Addr) (c2 : Int32) (s3 b3 : Addr) (c3 : Int32) (hn : n = (0 : Int32) ∨ n = (1 : Int32) ∨ n = (2 : Int32) ∨ n = (3 : Int32)) (hq : ¬ q < (0 : Int32)) {M : MM} {T : State} (B : RH g D0 M T [] [(s3, b3, 0, [(.int c3)]), (s2, b2, 0, [(.int c2)]), (s1, b1, 0, [(.int c1)]), (s0, b0, 0, [(.int c0)])] 12 52) : Fn g D0 M (fun v _ _ => v = some (.int 1)) (T.setTop (mkF M.m 113 #[.val (.int p0), .val (.int p1), .val (.int p2), .val (.int p3), .val (.int p4), .val (.int p5), .val (.int n), .val (.ref s0), .val (.ref s1), .val (.ref s2), .val (.ref s3), .val (.int q), .unset, .unset] [])) := by
  refine r_new B at_113 (pc' := 116) rfl (W30 B.gw) (W31 B.gw) (W32 B.gw) (Ly_o_Pain001Reader_Element B.gw) (by decide) (cs' := 13) rfl (ss' := 59) rfl (by decide) (by decide) ?_
  intro T1 a3 B2
  refine p_dup B2 at_116 (pc' := 117) rfl rfl ?_
  refine r_special (D' := D7) B2 at_117 (pc' := 120) rfl rfl rfl (W33 B2.gw) (W34 B2.gw) (W32 B2.gw) (W35 B2.gw) (by decide) (k_ei W a3 [] _) (a := a3) (argsL := []) (rest := [(.ref a3)]) rfl pd9 rfl rfl rfl (W := 1) rfl (by decide) (by decide) (cs' := 14) rfl (ss' := 75) rfl (by decide) (by decide) ?_
  intro T4 v5 B6
  replace B6 := Rn.and B6
  obtain ⟨rfl, B6⟩ := B6
  replace B6 := Rn.ex B6
  obtain ⟨na, B6⟩ := B6
  show Fn g D0 M _ (T4.setTop (mkF M.m 120 #[.val (.int p0), .val (.int p1), .val (.int p2), .val (.int p3), .val (.int p4), .val (.int p5), .val (.int n), .val (.ref s0), .val (.ref s1), .val (.ref s2), .val (.ref s3), .val (.int q), .unset, .unset] [(.ref a3)]))
  rcases hn with rfl | rfl | rfl | rfl
  · refine p_astore B6 at_120 (pc' := 122) rfl rfl (Ls' := #[.val (.int p0), .val (.int p1), .val (.int p2), .val (.int p3), .val (.int p4), .val (.int p5), .val (.int (0 : Int32)), .val (.ref s0), .val (.ref s1), .val (.ref s2), .val (.ref s3), .val (.int q), .val (.ref a3), .unset]) rfl ?_
    refine p_iload B6 at_122 (pc' := 124) rfl rfl ?_
    refine p_iconst B6 at_124 (pc' := 125) rfl (v := (1 : Int32)) (by decide) ?_
    refine b_icT B6 at_125 (pc' := 135) (show (0 : Int32) < (1 : Int32) from by decide) (by decide) (by decide) ?_
    refine p_iload B6 at_135 (pc' := 137) rfl rfl ?_
    refine p_iconst B6 at_137 (pc' := 138) rfl (v := (2 : Int32)) (by decide) ?_
    refine b_icT B6 at_138 (pc' := 148) (show (0 : Int32) < (2 : Int32) from by decide) (by decide) (by decide) ?_
    refine p_iload B6 at_148 (pc' := 150) rfl rfl ?_
    refine p_iconst B6 at_150 (pc' := 151) rfl (v := (3 : Int32)) (by decide) ?_
    refine b_icT B6 at_151 (pc' := 161) (show (0 : Int32) < (3 : Int32) from by decide) (by decide) (by decide) ?_
    refine p_iload B6 at_161 (pc' := 163) rfl rfl ?_
    refine p_iconst B6 at_163 (pc' := 164) rfl (v := (1 : Int32)) (by decide) ?_
    refine p_iand B6 at_164 (pc' := 165) rfl rfl ?_
    by_cases h7 : (p5 &&& (1 : Int32)) = (0 : Int32)
    · refine b_ifT B6 at_165 (pc' := 180) h7 (by decide) (by decide) ?_
      have hge := hq
      refine p_aload B6 at_180 (pc' := 182) rfl rfl rfl ?_
      refine p_iload B6 at_182 (pc' := 184) rfl rfl ?_
      have B8 : RH g D0 M T4 [(na, .inr ((.object "java/lang/String"), "[Ljava/lang/String;", [.null, .null, .null, .null, .null, .null, .null, .null, .null, .null, .null, .null, .null, .null, .null, .null])), o_Pain001Reader_Element a3 (.ref na) (.int (0 : Int32)) (.int (0 : Int32)) (.int (0 : Int32)) (.int (0 : Int32)) (.int (0 : Int32))] [(s3, b3, 0, [(.int c3)]), (s2, b2, 0, [(.int c2)]), (s1, b1, 0, [(.int c1)]), (s0, b0, 0, [(.int c0)])] 14 75 := B6.front (i := 1) rfl rfl
      have B9 : RH g D0 M T4 [o_Pain001Reader_Element a3 (.ref na) (.int (0 : Int32)) (.int (0 : Int32)) (.int (0 : Int32)) (.int (0 : Int32)) (.int (0 : Int32)), (na, .inr ((.object "java/lang/String"), "[Ljava/lang/String;", [.null, .null, .null, .null, .null, .null, .null, .null, .null, .null, .null, .null, .null, .null, .null, .null]))] [(s3, b3, 0, [(.int c3)]), (s2, b2, 0, [(.int c2)]), (s1, b1, 0, [(.int c1)]), (s0, b0, 0, [(.int c0)])] 14 75 := B8.front (i := 1) rfl rfl
      refine r_virtual (D' := D12_an0_x) B9 at_184 (pc' := 187) rfl (W63 B9.gw) (W64 B9.gw) (W66 B9.gw) (fun vm0 hZ => notFace_of_selects (args := #[]) (mvT hZ (W66 B9.gw))) (W65 B9.gw) (W32 B9.gw) (W67 B9.gw) (by decide) (fE (i := 0) rfl) (k_an0_x W a3 na q hge [] _) (argsL := [(.int q)]) (rest := []) rfl pd10 rfl rfl rfl (W := 0) rfl (by decide) (by decide) (cs' := 14) rfl (ss' := 75) rfl (by decide) (by decide) ?_
      intro T10 v11 B12
      replace B12 := Rn.and B12
      obtain ⟨rfl, B12⟩ := B12
      show Fn g D0 M _ (T10.setTop (mkF M.m 187 #[.val (.int p0), .val (.int p1), .val (.int p2), .val (.int p3), .val (.int p4), .val (.int p5), .val (.int (0 : Int32)), .val (.ref s0), .val (.ref s1), .val (.ref s2), .val (.ref s3), .val (.int q), .val (.ref a3), .unset] [.null]))
      refine p_astore B12 at_187 (pc' := 189) rfl rfl (Ls' := #[.val (.int p0), .val (.int p1), .val (.int p2), .val (.int p3), .val (.int p4), .val (.int p5), .val (.int (0 : Int32)), .val (.ref s0), .val (.ref s1), .val (.ref s2), .val (.ref s3), .val (.int q), .val (.ref a3), .val .null]) rfl ?_
      refine p_aload B12 at_189 (pc' := 191) rfl rfl rfl ?_
      refine p_iload B12 at_191 (pc' := 193) rfl rfl ?_
      refine p_iload B12 at_193 (pc' := 195) rfl rfl ?_
      refine p_aload B12 at_195 (pc' := 197) rfl rfl rfl ?_
      refine p_aload B12 at_197 (pc' := 199) rfl rfl rfl ?_
      refine p_aload B12 at_199 (pc' := 201) rfl rfl rfl ?_
      refine r_static (D' := D13) B12 at_201 (pc' := 204) rfl (W68 B12.gw) (W69 B12.gw) (W70 B12.gw) (W71 B12.gw) (by decide) (k_ex W (0 : Int32) q s0 s1 s2 _ _) (argsL := [(.int (0 : Int32)), (.int q), (.ref s0), (.ref s1), (.ref s2)]) (rest := [.null]) rfl pd11 rfl rfl rfl (W := 1) rfl (by decide) (by decide) (cs' := 14) rfl (ss' := 75) rfl (by decide) (by decide) ?_
      intro T13 v14 B15
      replace B15 := Rn.and B15
      obtain ⟨rfl, B15⟩ := B15
      show Fn g D0 M _ (T13.setTop (mkF M.m 204 #[.val (.int p0), .val (.int p1), .val (.int p2), .val (.int p3), .val (.int p4), .val (.int p5), .val (.int (0 : Int32)), .val (.ref s0), .val (.ref s1), .val (.ref s2), .val (.ref s3), .val (.int q), .val (.ref a3), .val .null] [(expf (0 : Int32) q s0 s1 s2), .null]))
      refine b_anF B15 at_204 (pc' := 207) rfl rfl (expf_ref _ _ _ _ _) (show Value.null = (expf (0 : Int32) q s0 s1 s2) from (by simp [expf])) ?_
      refine p_iconst B15 at_207 (pc' := 208) rfl (v := (1 : Int32)) (by decide) ?_
      refine b_goto B15 at_208 (pc' := 212) (by decide) (by decide) ?_
      exact r_reti B15 at_212 rfl (by simp) rfl (by decide) (by decide) (fun vm h P => rfl)
    · refine b_ifF B6 at_165 (pc' := 168) rfl h7 ?_
      refine p_aload B6 at_168 (pc' := 170) rfl rfl rfl ?_
      refine p_aload B6 at_170 (pc' := 172) rfl rfl rfl ?_
      have B16 : RH g D0 M T4 [(na, .inr ((.object "java/lang/String"), "[Ljava/lang/String;", [.null, .null, .null, .null, .null, .null, .null, .null, .null, .null, .null, .null, .null, .null, .null, .null])), o_Pain001Reader_Element a3 (.ref na) (.int (0 : Int32)) (.int (0 : Int32)) (.int (0 : Int32)) (.int (0 : Int32)) (.int (0 : Int32))] [(s3, b3, 0, [(.int c3)]), (s2, b2, 0, [(.int c2)]), (s1, b1, 0, [(.int c1)]), (s0, b0, 0, [(.int c0)])] 14 75 := B6.front (i := 1) rfl rfl
      have B17 : RH g D0 M T4 [o_Pain001Reader_Element a3 (.ref na) (.int (0 : Int32)) (.int (0 : Int32)) (.int (0 : Int32)) (.int (0 : Int32)) (.int (0 : Int32)), (na, .inr ((.object "java/lang/String"), "[Ljava/lang/String;", [.null, .null, .null, .null, .null, .null, .null, .null, .null, .null, .null, .null, .null, .null, .null, .null]))] [(s3, b3, 0, [(.int c3)]), (s2, b2, 0, [(.int c2)]), (s1, b1, 0, [(.int c1)]), (s0, b0, 0, [(.int c0)])] 14 75 := B16.front (i := 1) rfl rfl
      refine r_virtual (D' := D8_push0) B17 at_172 (pc' := 175) rfl (W41 B17.gw) (W42 B17.gw) (W44 B17.gw) (fun vm0 hZ => notFace_of_selects (args := #[]) (mvT hZ (W44 B17.gw))) (W43 B17.gw) (W32 B17.gw) (W45 B17.gw) (by decide) (fE (i := 0) rfl) (k_push0 W a3 na s3 [] (xx0 := ([c3] : List Int32)) (List.mem_of_getElem? (i := 0) rfl) (by simp) rfl) (argsL := [(.ref s3)]) (rest := []) rfl pd12 rfl rfl rfl (W := 0) rfl (by decide) (by decide) (cs' := 14) rfl (ss' := 75) rfl (by decide) (by decide) ?_
      intro T18 v19 B20
      replace B20 := Rn.and B20
      obtain ⟨rfl, B20⟩ := B20
      show Fn g D0 M _ (T18.setTop (mkF M.m 175 #[.val (.int p0), .val (.int p1), .val (.int p2), .val (.int p3), .val (.int p4), .val (.int p5), .val (.int (0 : Int32)), .val (.ref s0), .val (.ref s1), .val (.ref s2), .val (.ref s3), .val (.int q), .val (.ref a3), .unset] []))
      refine p_aload B20 at_175 (pc' := 177) rfl rfl rfl ?_
      have B21 : RH g D0 M T18 [(na, .inr ((.object "java/lang/String"), "[Ljava/lang/String;", [(.ref s3), .null, .null, .null, .null, .null, .null, .null, .null, .null, .null, .null, .null, .null, .null, .null])), o_Pain001Reader_Element a3 (.ref na) (.int (1 : Int32)) (.int (0 : Int32)) (.int (0 : Int32)) (.int (0 : Int32)) (.int (0 : Int32))] [(s3, b3, 0, [(.int c3)]), (s2, b2, 0, [(.int c2)]), (s1, b1, 0, [(.int c1)]), (s0, b0, 0, [(.int c0)])] 14 75 := B20.front (i := 1) rfl rfl
      have B22 : RH g D0 M T18 [o_Pain001Reader_Element a3 (.ref na) (.int (1 : Int32)) (.int (0 : Int32)) (.int (0 : Int32)) (.int (0 : Int32)) (.int (0 : Int32)), (na, .inr ((.object "java/lang/String"), "[Ljava/lang/String;", [(.ref s3), .null, .null, .null, .null, .null, .null, .null, .null, .null, .null, .null, .null, .null, .null, .null]))] [(s3, b3, 0, [(.int c3)]), (s2, b2, 0, [(.int c2)]), (s1, b1, 0, [(.int c1)]), (s0, b0, 0, [(.int c0)])] 14 75 := B21.front (i := 1) rfl rfl
      refine r_virtual (D' := D11_pop1) B22 at_177 (pc' := 180) rfl (W58 B22.gw) (W59 B22.gw) (W61 B22.gw) (fun vm0 hZ => notFace_of_selects (args := #[]) (mvT hZ (W61 B22.gw))) (W60 B22.gw) (W32 B22.gw) (W62 B22.gw) (by decide) (fE (i := 0) rfl) (k_pop1 W a3 na s3 [] (xx0 := ([c3] : List Int32)) (List.mem_of_getElem? (i := 0) rfl) (by simp) rfl) (argsL := []) (rest := []) rfl pd9 rfl rfl rfl (W := 0) rfl (by decide) (by decide) (cs' := 14) rfl (ss' := 75) rfl (by decide) (by decide) ?_
      intro T23 v24 B25
      replace B25 := Rn.and B25
      obtain ⟨rfl, B25⟩ := B25
      show Fn g D0 M _ (T23.setTop (mkF M.m 180 #[.val (.int p0), .val (.int p1), .val (.int p2), .val (.int p3), .val (.int p4), .val (.int p5), .val (.int (0 : Int32)), .val (.ref s0), .val (.ref s1), .val (.ref s2), .val (.ref s3), .val (.int q), .val (.ref a3), .unset] []))
      have hge := hq
      refine p_aload B25 at_180 (pc' := 182) rfl rfl rfl ?_
      refine p_iload B25 at_182 (pc' := 184) rfl rfl ?_
      have B26 : RH g D0 M T23 [(na, .inr ((.object "java/lang/String"), "[Ljava/lang/String;", [.null, .null, .null, .null, .null, .null, .null, .null, .null, .null, .null, .null, .null, .null, .null, .null])), o_Pain001Reader_Element a3 (.ref na) (.int (0 : Int32)) (.int (0 : Int32)) (.int (0 : Int32)) (.int (0 : Int32)) (.int (0 : Int32))] [(s3, b3, 0, [(.int c3)]), (s2, b2, 0, [(.int c2)]), (s1, b1, 0, [(.int c1)]), (s0, b0, 0, [(.int c0)])] 14 75 := B25.front (i := 1) rfl rfl
      have B27 : RH g D0 M T23 [o_Pain001Reader_Element a3 (.ref na) (.int (0 : Int32)) (.int (0 : Int32)) (.int (0 : Int32)) (.int (0 : Int32)) (.int (0 : Int32)), (na, .inr ((.object "java/lang/String"), "[Ljava/lang/String;", [.null, .null, .null, .null, .null, .null, .null, .null, .null, .null, .null, .null, .null, .null, .null, .null]))] [(s3, b3, 0, [(.int c3)]), (s2, b2, 0, [(.int c2)]), (s1, b1, 0, [(.int c1)]), (s0, b0, 0, [(.int c0)])] 14 75 := B26.front (i := 1) rfl rfl
      refine r_virtual (D' := D12_an0_x) B27 at_184 (pc' := 187) rfl (W63 B27.gw) (W64 B27.gw) (W66 B27.gw) (fun vm0 hZ => notFace_of_selects (args := #[]) (mvT hZ (W66 B27.gw))) (W65 B27.gw) (W32 B27.gw) (W67 B27.gw) (by decide) (fE (i := 0) rfl) (k_an0_x W a3 na q hge [] _) (argsL := [(.int q)]) (rest := []) rfl pd10 rfl rfl rfl (W := 0) rfl (by decide) (by decide) (cs' := 14) rfl (ss' := 75) rfl (by decide) (by decide) ?_
      intro T28 v29 B30
      replace B30 := Rn.and B30
      obtain ⟨rfl, B30⟩ := B30
      show Fn g D0 M _ (T28.setTop (mkF M.m 187 #[.val (.int p0), .val (.int p1), .val (.int p2), .val (.int p3), .val (.int p4), .val (.int p5), .val (.int (0 : Int32)), .val (.ref s0), .val (.ref s1), .val (.ref s2), .val (.ref s3), .val (.int q), .val (.ref a3), .unset] [.null]))
      refine p_astore B30 at_187 (pc' := 189) rfl rfl (Ls' := #[.val (.int p0), .val (.int p1), .val (.int p2), .val (.int p3), .val (.int p4), .val (.int p5), .val (.int (0 : Int32)), .val (.ref s0), .val (.ref s1), .val (.ref s2), .val (.ref s3), .val (.int q), .val (.ref a3), .val .null]) rfl ?_
      refine p_aload B30 at_189 (pc' := 191) rfl rfl rfl ?_
      refine p_iload B30 at_191 (pc' := 193) rfl rfl ?_
      refine p_iload B30 at_193 (pc' := 195) rfl rfl ?_
      refine p_aload B30 at_195 (pc' := 197) rfl rfl rfl ?_
      refine p_aload B30 at_197 (pc' := 199) rfl rfl rfl ?_
      refine p_aload B30 at_199 (pc' := 201) rfl rfl rfl ?_
      refine r_static (D' := D13) B30 at_201 (pc' := 204) rfl (W68 B30.gw) (W69 B30.gw) (W70 B30.gw) (W71 B30.gw) (by decide) (k_ex W (0 : Int32) q s0 s1 s2 _ _) (argsL := [(.int (0 : Int32)), (.int q), (.ref s0), (.ref s1), (.ref s2)]) (rest := [.null]) rfl pd11 rfl rfl rfl (W := 1) rfl (by decide) (by decide) (cs' := 14) rfl (ss' := 75) rfl (by decide) (by decide) ?_
      intro T31 v32 B33
      replace B33 := Rn.and B33
      obtain ⟨rfl, B33⟩ := B33
      show Fn g D0 M _ (T31.setTop (mkF M.m 204 #[.val (.int p0), .val (.int p1), .val (.int p2), .val (.int p3), .val (.int p4), .val (.int p5), .val (.int (0 : Int32)), .val (.ref s0), .val (.ref s1), .val (.ref s2), .val (.ref s3), .val (.int q), .val (.ref a3), .val .null] [(expf (0 : Int32) q s0 s1 s2), .null]))
      refine b_anF B33 at_204 (pc' := 207) rfl rfl (expf_ref _ _ _ _ _) (show Value.null = (expf (0 : Int32) q s0 s1 s2) from (by simp [expf])) ?_
      refine p_iconst B33 at_207 (pc' := 208) rfl (v := (1 : Int32)) (by decide) ?_
      refine b_goto B33 at_208 (pc' := 212) (by decide) (by decide) ?_
      exact r_reti B33 at_212 rfl (by simp) rfl (by decide) (by decide) (fun vm h P => rfl)
  · refine p_astore B6 at_120 (pc' := 122) rfl rfl (Ls' := #[.val (.int p0), .val (.int p1), .val (.int p2), .val (.int p3), .val (.int p4), .val (.int p5), .val (.int (1 : Int32)), .val (.ref s0), .val (.ref s1), .val (.ref s2), .val (.ref s3), .val (.int q), .val (.ref a3), .unset]) rfl ?_
    refine p_iload B6 at_122 (pc' := 124) rfl rfl ?_
    refine p_iconst B6 at_124 (pc' := 125) rfl (v := (1 : Int32)) (by decide) ?_
    refine b_icF B6 at_125 (pc' := 128) rfl (show ¬ (1 : Int32) < (1 : Int32) from by decide) ?_
    refine p_aload B6 at_128 (pc' := 130) rfl rfl rfl ?_
    refine p_aload B6 at_130 (pc' := 132) rfl rfl rfl ?_
    have B34 : RH g D0 M T4 [(na, .inr ((.object "java/lang/String"), "[Ljava/lang/String;", [.null, .null, .null, .null, .null, .null, .null, .null, .null, .null, .null, .null, .null, .null, .null, .null])), o_Pain001Reader_Element a3 (.ref na) (.int (0 : Int32)) (.int (0 : Int32)) (.int (0 : Int32)) (.int (0 : Int32)) (.int (0 : Int32))] [(s3, b3, 0, [(.int c3)]), (s2, b2, 0, [(.int c2)]), (s1, b1, 0, [(.int c1)]), (s0, b0, 0, [(.int c0)])] 14 75 := B6.front (i := 1) rfl rfl
    have B35 : RH g D0 M T4 [o_Pain001Reader_Element a3 (.ref na) (.int (0 : Int32)) (.int (0 : Int32)) (.int (0 : Int32)) (.int (0 : Int32)) (.int (0 : Int32)), (na, .inr ((.object "java/lang/String"), "[Ljava/lang/String;", [.null, .null, .null, .null, .null, .null, .null, .null, .null, .null, .null, .null, .null, .null, .null, .null]))] [(s3, b3, 0, [(.int c3)]), (s2, b2, 0, [(.int c2)]), (s1, b1, 0, [(.int c1)]), (s0, b0, 0, [(.int c0)])] 14 75 := B34.front (i := 1) rfl rfl
    refine r_virtual (D' := D8_push0) B35 at_132 (pc' := 135) rfl (W41 B35.gw) (W42 B35.gw) (W44 B35.gw) (fun vm0 hZ => notFace_of_selects (args := #[]) (mvT hZ (W44 B35.gw))) (W43 B35.gw) (W32 B35.gw) (W45 B35.gw) (by decide) (fE (i := 0) rfl) (k_push0 W a3 na s0 [] (xx0 := ([c0] : List Int32)) (List.mem_of_getElem? (i := 3) rfl) (by simp) rfl) (argsL := [(.ref s0)]) (rest := []) rfl pd12 rfl rfl rfl (W := 0) rfl (by decide) (by decide) (cs' := 14) rfl (ss' := 75) rfl (by decide) (by decide) ?_
    intro T36 v37 B38
    replace B38 := Rn.and B38
    obtain ⟨rfl, B38⟩ := B38
    show Fn g D0 M _ (T36.setTop (mkF M.m 135 #[.val (.int p0), .val (.int p1), .val (.int p2), .val (.int p3), .val (.int p4), .val (.int p5), .val (.int (1 : Int32)), .val (.ref s0), .val (.ref s1), .val (.ref s2), .val (.ref s3), .val (.int q), .val (.ref a3), .unset] []))
    refine p_iload B38 at_135 (pc' := 137) rfl rfl ?_
    refine p_iconst B38 at_137 (pc' := 138) rfl (v := (2 : Int32)) (by decide) ?_
    refine b_icT B38 at_138 (pc' := 148) (show (1 : Int32) < (2 : Int32) from by decide) (by decide) (by decide) ?_
    refine p_iload B38 at_148 (pc' := 150) rfl rfl ?_
    refine p_iconst B38 at_150 (pc' := 151) rfl (v := (3 : Int32)) (by decide) ?_
    refine b_icT B38 at_151 (pc' := 161) (show (1 : Int32) < (3 : Int32) from by decide) (by decide) (by decide) ?_
    refine p_iload B38 at_161 (pc' := 163) rfl rfl ?_
    refine p_iconst B38 at_163 (pc' := 164) rfl (v := (1 : Int32)) (by decide) ?_
    refine p_iand B38 at_164 (pc' := 165) rfl rfl ?_
    by_cases h39 : (p5 &&& (1 : Int32)) = (0 : Int32)
    · refine b_ifT B38 at_165 (pc' := 180) h39 (by decide) (by decide) ?_
      rcases qc1 q hq with rfl | hge
      · refine p_aload B38 at_180 (pc' := 182) rfl rfl rfl ?_
        refine p_iload B38 at_182 (pc' := 184) rfl rfl ?_
        have B40 : RH g D0 M T36 [(na, .inr ((.object "java/lang/String"), "[Ljava/lang/String;", [(.ref s0), .null, .null, .null, .null, .null, .null, .null, .null, .null, .null, .null, .null, .null, .null, .null])), o_Pain001Reader_Element a3 (.ref na) (.int (1 : Int32)) (.int (0 : Int32)) (.int (0 : Int32)) (.int (0 : Int32)) (.int (0 : Int32))] [(s3, b3, 0, [(.int c3)]), (s2, b2, 0, [(.int c2)]), (s1, b1, 0, [(.int c1)]), (s0, b0, 0, [(.int c0)])] 14 75 := B38.front (i := 1) rfl rfl
        have B41 : RH g D0 M T36 [o_Pain001Reader_Element a3 (.ref na) (.int (1 : Int32)) (.int (0 : Int32)) (.int (0 : Int32)) (.int (0 : Int32)) (.int (0 : Int32)), (na, .inr ((.object "java/lang/String"), "[Ljava/lang/String;", [(.ref s0), .null, .null, .null, .null, .null, .null, .null, .null, .null, .null, .null, .null, .null, .null, .null]))] [(s3, b3, 0, [(.int c3)]), (s2, b2, 0, [(.int c2)]), (s1, b1, 0, [(.int c1)]), (s0, b0, 0, [(.int c0)])] 14 75 := B40.front (i := 1) rfl rfl
        refine r_virtual (D' := D12_an1_0) B41 at_184 (pc' := 187) rfl (W63 B41.gw) (W64 B41.gw) (W66 B41.gw) (fun vm0 hZ => notFace_of_selects (args := #[]) (mvT hZ (W66 B41.gw))) (W65 B41.gw) (W32 B41.gw) (W67 B41.gw) (by decide) (fE (i := 0) rfl) (k_an1_0 W a3 na s0 [] _) (argsL := [(.int (0 : Int32))]) (rest := []) rfl pd10 rfl rfl rfl (W := 0) rfl (by decide) (by decide) (cs' := 14) rfl (ss' := 75) rfl (by decide) (by decide) ?_
        intro T42 v43 B44
        replace B44 := Rn.and B44
        obtain ⟨rfl, B44⟩ := B44
        show Fn g D0 M _ (T42.setTop (mkF M.m 187 #[.val (.int p0), .val (.int p1), .val (.int p2), .val (.int p3), .val (.int p4), .val (.int p5), .val (.int (1 : Int32)), .val (.ref s0), .val (.ref s1), .val (.ref s2), .val (.ref s3), .val (.int (0 : Int32)), .val (.ref a3), .unset] [(.ref s0)]))
        refine p_astore B44 at_187 (pc' := 189) rfl rfl (Ls' := #[.val (.int p0), .val (.int p1), .val (.int p2), .val (.int p3), .val (.int p4), .val (.int p5), .val (.int (1 : Int32)), .val (.ref s0), .val (.ref s1), .val (.ref s2), .val (.ref s3), .val (.int (0 : Int32)), .val (.ref a3), .val (.ref s0)]) rfl ?_
        refine p_aload B44 at_189 (pc' := 191) rfl rfl rfl ?_
        refine p_iload B44 at_191 (pc' := 193) rfl rfl ?_
        refine p_iload B44 at_193 (pc' := 195) rfl rfl ?_
        refine p_aload B44 at_195 (pc' := 197) rfl rfl rfl ?_
        refine p_aload B44 at_197 (pc' := 199) rfl rfl rfl ?_
        refine p_aload B44 at_199 (pc' := 201) rfl rfl rfl ?_
        refine r_static (D' := D13) B44 at_201 (pc' := 204) rfl (W68 B44.gw) (W69 B44.gw) (W70 B44.gw) (W71 B44.gw) (by decide) (k_ex W (1 : Int32) (0 : Int32) s0 s1 s2 _ _) (argsL := [(.int (1 : Int32)), (.int (0 : Int32)), (.ref s0), (.ref s1), (.ref s2)]) (rest := [(.ref s0)]) rfl pd11 rfl rfl rfl (W := 1) rfl (by decide) (by decide) (cs' := 14) rfl (ss' := 75) rfl (by decide) (by decide) ?_
        intro T45 v46 B47
        replace B47 := Rn.and B47
        obtain ⟨rfl, B47⟩ := B47
        show Fn g D0 M _ (T45.setTop (mkF M.m 204 #[.val (.int p0), .val (.int p1), .val (.int p2), .val (.int p3), .val (.int p4), .val (.int p5), .val (.int (1 : Int32)), .val (.ref s0), .val (.ref s1), .val (.ref s2), .val (.ref s3), .val (.int (0 : Int32)), .val (.ref a3), .val (.ref s0)] [(expf (1 : Int32) (0 : Int32) s0 s1 s2), (.ref s0)]))
        refine b_anF B47 at_204 (pc' := 207) rfl rfl (expf_ref _ _ _ _ _) (show (Value.ref s0) = (expf (1 : Int32) (0 : Int32) s0 s1 s2) from by simp [expf]) ?_
        refine p_iconst B47 at_207 (pc' := 208) rfl (v := (1 : Int32)) (by decide) ?_
        refine b_goto B47 at_208 (pc' := 212) (by decide) (by decide) ?_
        exact r_reti B47 at_212 rfl (by simp) rfl (by decide) (by decide) (fun vm h P => rfl)
      · refine p_aload B38 at_180 (pc' := 182) rfl rfl rfl ?_
        refine p_iload B38 at_182 (pc' := 184) rfl rfl ?_
        have B48 : RH g D0 M T36 [(na, .inr ((.object "java/lang/String"), "[Ljava/lang/String;", [(.ref s0), .null, .null, .null, .null, .null, .null, .null, .null, .null, .null, .null, .null, .null, .null, .null])), o_Pain001Reader_Element a3 (.ref na) (.int (1 : Int32)) (.int (0 : Int32)) (.int (0 : Int32)) (.int (0 : Int32)) (.int (0 : Int32))] [(s3, b3, 0, [(.int c3)]), (s2, b2, 0, [(.int c2)]), (s1, b1, 0, [(.int c1)]), (s0, b0, 0, [(.int c0)])] 14 75 := B38.front (i := 1) rfl rfl
        have B49 : RH g D0 M T36 [o_Pain001Reader_Element a3 (.ref na) (.int (1 : Int32)) (.int (0 : Int32)) (.int (0 : Int32)) (.int (0 : Int32)) (.int (0 : Int32)), (na, .inr ((.object "java/lang/String"), "[Ljava/lang/String;", [(.ref s0), .null, .null, .null, .null, .null, .null, .null, .null, .null, .null, .null, .null, .null, .null, .null]))] [(s3, b3, 0, [(.int c3)]), (s2, b2, 0, [(.int c2)]), (s1, b1, 0, [(.int c1)]), (s0, b0, 0, [(.int c0)])] 14 75 := B48.front (i := 1) rfl rfl
        refine r_virtual (D' := D12_an1_x) B49 at_184 (pc' := 187) rfl (W63 B49.gw) (W64 B49.gw) (W66 B49.gw) (fun vm0 hZ => notFace_of_selects (args := #[]) (mvT hZ (W66 B49.gw))) (W65 B49.gw) (W32 B49.gw) (W67 B49.gw) (by decide) (fE (i := 0) rfl) (k_an1_x W a3 na s0 q hge [] _) (argsL := [(.int q)]) (rest := []) rfl pd10 rfl rfl rfl (W := 0) rfl (by decide) (by decide) (cs' := 14) rfl (ss' := 75) rfl (by decide) (by decide) ?_
        intro T50 v51 B52
        replace B52 := Rn.and B52
        obtain ⟨rfl, B52⟩ := B52
        show Fn g D0 M _ (T50.setTop (mkF M.m 187 #[.val (.int p0), .val (.int p1), .val (.int p2), .val (.int p3), .val (.int p4), .val (.int p5), .val (.int (1 : Int32)), .val (.ref s0), .val (.ref s1), .val (.ref s2), .val (.ref s3), .val (.int q), .val (.ref a3), .unset] [.null]))
        refine p_astore B52 at_187 (pc' := 189) rfl rfl (Ls' := #[.val (.int p0), .val (.int p1), .val (.int p2), .val (.int p3), .val (.int p4), .val (.int p5), .val (.int (1 : Int32)), .val (.ref s0), .val (.ref s1), .val (.ref s2), .val (.ref s3), .val (.int q), .val (.ref a3), .val .null]) rfl ?_
        refine p_aload B52 at_189 (pc' := 191) rfl rfl rfl ?_
        refine p_iload B52 at_191 (pc' := 193) rfl rfl ?_
        refine p_iload B52 at_193 (pc' := 195) rfl rfl ?_
        refine p_aload B52 at_195 (pc' := 197) rfl rfl rfl ?_
        refine p_aload B52 at_197 (pc' := 199) rfl rfl rfl ?_
        refine p_aload B52 at_199 (pc' := 201) rfl rfl rfl ?_
        refine r_static (D' := D13) B52 at_201 (pc' := 204) rfl (W68 B52.gw) (W69 B52.gw) (W70 B52.gw) (W71 B52.gw) (by decide) (k_ex W (1 : Int32) q s0 s1 s2 _ _) (argsL := [(.int (1 : Int32)), (.int q), (.ref s0), (.ref s1), (.ref s2)]) (rest := [.null]) rfl pd11 rfl rfl rfl (W := 1) rfl (by decide) (by decide) (cs' := 14) rfl (ss' := 75) rfl (by decide) (by decide) ?_
        intro T53 v54 B55
        replace B55 := Rn.and B55
        obtain ⟨rfl, B55⟩ := B55
        show Fn g D0 M _ (T53.setTop (mkF M.m 204 #[.val (.int p0), .val (.int p1), .val (.int p2), .val (.int p3), .val (.int p4), .val (.int p5), .val (.int (1 : Int32)), .val (.ref s0), .val (.ref s1), .val (.ref s2), .val (.ref s3), .val (.int q), .val (.ref a3), .val .null] [(expf (1 : Int32) q s0 s1 s2), .null]))
        refine b_anF B55 at_204 (pc' := 207) rfl rfl (expf_ref _ _ _ _ _) (show Value.null = (expf (1 : Int32) q s0 s1 s2) from (by simp [expf, beyond hge (show (0 : Int32) < (1 : Int32) from by decide)])) ?_
        refine p_iconst B55 at_207 (pc' := 208) rfl (v := (1 : Int32)) (by decide) ?_
        refine b_goto B55 at_208 (pc' := 212) (by decide) (by decide) ?_
        exact r_reti B55 at_212 rfl (by simp) rfl (by decide) (by decide) (fun vm h P => rfl)
    · refine b_ifF B38 at_165 (pc' := 168) rfl h39 ?_
      refine p_aload B38 at_168 (pc' := 170) rfl rfl rfl ?_
      refine p_aload B38 at_170 (pc' := 172) rfl rfl rfl ?_
      have B56 : RH g D0 M T36 [(na, .inr ((.object "java/lang/String"), "[Ljava/lang/String;", [(.ref s0), .null, .null, .null, .null, .null, .null, .null, .null, .null, .null, .null, .null, .null, .null, .null])), o_Pain001Reader_Element a3 (.ref na) (.int (1 : Int32)) (.int (0 : Int32)) (.int (0 : Int32)) (.int (0 : Int32)) (.int (0 : Int32))] [(s3, b3, 0, [(.int c3)]), (s2, b2, 0, [(.int c2)]), (s1, b1, 0, [(.int c1)]), (s0, b0, 0, [(.int c0)])] 14 75 := B38.front (i := 1) rfl rfl
      have B57 : RH g D0 M T36 [o_Pain001Reader_Element a3 (.ref na) (.int (1 : Int32)) (.int (0 : Int32)) (.int (0 : Int32)) (.int (0 : Int32)) (.int (0 : Int32)), (na, .inr ((.object "java/lang/String"), "[Ljava/lang/String;", [(.ref s0), .null, .null, .null, .null, .null, .null, .null, .null, .null, .null, .null, .null, .null, .null, .null]))] [(s3, b3, 0, [(.int c3)]), (s2, b2, 0, [(.int c2)]), (s1, b1, 0, [(.int c1)]), (s0, b0, 0, [(.int c0)])] 14 75 := B56.front (i := 1) rfl rfl
      refine r_virtual (D' := D8_push1) B57 at_172 (pc' := 175) rfl (W41 B57.gw) (W42 B57.gw) (W44 B57.gw) (fun vm0 hZ => notFace_of_selects (args := #[]) (mvT hZ (W44 B57.gw))) (W43 B57.gw) (W32 B57.gw) (W45 B57.gw) (by decide) (fE (i := 0) rfl) (k_push1 W a3 na s0 s3 [] (xx0 := ([c0] : List Int32)) (List.mem_of_getElem? (i := 3) rfl) (by simp) (xx1 := ([c3] : List Int32)) (List.mem_of_getElem? (i := 0) rfl) (by simp) rfl rfl) (argsL := [(.ref s3)]) (rest := []) rfl pd12 rfl rfl rfl (W := 0) rfl (by decide) (by decide) (cs' := 14) rfl (ss' := 75) rfl (by decide) (by decide) ?_
      intro T58 v59 B60
      replace B60 := Rn.and B60
      obtain ⟨rfl, B60⟩ := B60
      show Fn g D0 M _ (T58.setTop (mkF M.m 175 #[.val (.int p0), .val (.int p1), .val (.int p2), .val (.int p3), .val (.int p4), .val (.int p5), .val (.int (1 : Int32)), .val (.ref s0), .val (.ref s1), .val (.ref s2), .val (.ref s3), .val (.int q), .val (.ref a3), .unset] []))
      refine p_aload B60 at_175 (pc' := 177) rfl rfl rfl ?_
      have B61 : RH g D0 M T58 [(na, .inr ((.object "java/lang/String"), "[Ljava/lang/String;", [(.ref s0), (.ref s3), .null, .null, .null, .null, .null, .null, .null, .null, .null, .null, .null, .null, .null, .null])), o_Pain001Reader_Element a3 (.ref na) (.int (2 : Int32)) (.int (0 : Int32)) (.int (0 : Int32)) (.int (0 : Int32)) (.int (0 : Int32))] [(s3, b3, 0, [(.int c3)]), (s2, b2, 0, [(.int c2)]), (s1, b1, 0, [(.int c1)]), (s0, b0, 0, [(.int c0)])] 14 75 := B60.front (i := 1) rfl rfl
      have B62 : RH g D0 M T58 [o_Pain001Reader_Element a3 (.ref na) (.int (2 : Int32)) (.int (0 : Int32)) (.int (0 : Int32)) (.int (0 : Int32)) (.int (0 : Int32)), (na, .inr ((.object "java/lang/String"), "[Ljava/lang/String;", [(.ref s0), (.ref s3), .null, .null, .null, .null, .null, .null, .null, .null, .null, .null, .null, .null, .null, .null]))] [(s3, b3, 0, [(.int c3)]), (s2, b2, 0, [(.int c2)]), (s1, b1, 0, [(.int c1)]), (s0, b0, 0, [(.int c0)])] 14 75 := B61.front (i := 1) rfl rfl
      refine r_virtual (D' := D11_pop2) B62 at_177 (pc' := 180) rfl (W58 B62.gw) (W59 B62.gw) (W61 B62.gw) (fun vm0 hZ => notFace_of_selects (args := #[]) (mvT hZ (W61 B62.gw))) (W60 B62.gw) (W32 B62.gw) (W62 B62.gw) (by decide) (fE (i := 0) rfl) (k_pop2 W a3 na s0 s3 [] (xx0 := ([c0] : List Int32)) (List.mem_of_getElem? (i := 3) rfl) (by simp) (xx1 := ([c3] : List Int32)) (List.mem_of_getElem? (i := 0) rfl) (by simp) rfl rfl) (argsL := []) (rest := []) rfl pd9 rfl rfl rfl (W := 0) rfl (by decide) (by decide) (cs' := 14) rfl (ss' := 75) rfl (by decide) (by decide) ?_
      intro T63 v64 B65
      replace B65 := Rn.and B65
      obtain ⟨rfl, B65⟩ := B65
      show Fn g D0 M _ (T63.setTop (mkF M.m 180 #[.val (.int p0), .val (.int p1), .val (.int p2), .val (.int p3), .val (.int p4), .val (.int p5), .val (.int (1 : Int32)), .val (.ref s0), .val (.ref s1), .val (.ref s2), .val (.ref s3), .val (.int q), .val (.ref a3), .unset] []))
      rcases qc1 q hq with rfl | hge
      · refine p_aload B65 at_180 (pc' := 182) rfl rfl rfl ?_
        refine p_iload B65 at_182 (pc' := 184) rfl rfl ?_
        have B66 : RH g D0 M T63 [(na, .inr ((.object "java/lang/String"), "[Ljava/lang/String;", [(.ref s0), .null, .null, .null, .null, .null, .null, .null, .null, .null, .null, .null, .null, .null, .null, .null])), o_Pain001Reader_Element a3 (.ref na) (.int (1 : Int32)) (.int (0 : Int32)) (.int (0 : Int32)) (.int (0 : Int32)) (.int (0 : Int32))] [(s3, b3, 0, [(.int c3)]), (s2, b2, 0, [(.int c2)]), (s1, b1, 0, [(.int c1)]), (s0, b0, 0, [(.int c0)])] 14 75 := B65.front (i := 1) rfl rfl
        have B67 : RH g D0 M T63 [o_Pain001Reader_Element a3 (.ref na) (.int (1 : Int32)) (.int (0 : Int32)) (.int (0 : Int32)) (.int (0 : Int32)) (.int (0 : Int32)), (na, .inr ((.object "java/lang/String"), "[Ljava/lang/String;", [(.ref s0), .null, .null, .null, .null, .null, .null, .null, .null, .null, .null, .null, .null, .null, .null, .null]))] [(s3, b3, 0, [(.int c3)]), (s2, b2, 0, [(.int c2)]), (s1, b1, 0, [(.int c1)]), (s0, b0, 0, [(.int c0)])] 14 75 := B66.front (i := 1) rfl rfl
        refine r_virtual (D' := D12_an1_0) B67 at_184 (pc' := 187) rfl (W63 B67.gw) (W64 B67.gw) (W66 B67.gw) (fun vm0 hZ => notFace_of_selects (args := #[]) (mvT hZ (W66 B67.gw))) (W65 B67.gw) (W32 B67.gw) (W67 B67.gw) (by decide) (fE (i := 0) rfl) (k_an1_0 W a3 na s0 [] _) (argsL := [(.int (0 : Int32))]) (rest := []) rfl pd10 rfl rfl rfl (W := 0) rfl (by decide) (by decide) (cs' := 14) rfl (ss' := 75) rfl (by decide) (by decide) ?_
        intro T68 v69 B70
        replace B70 := Rn.and B70
        obtain ⟨rfl, B70⟩ := B70
        show Fn g D0 M _ (T68.setTop (mkF M.m 187 #[.val (.int p0), .val (.int p1), .val (.int p2), .val (.int p3), .val (.int p4), .val (.int p5), .val (.int (1 : Int32)), .val (.ref s0), .val (.ref s1), .val (.ref s2), .val (.ref s3), .val (.int (0 : Int32)), .val (.ref a3), .unset] [(.ref s0)]))
        refine p_astore B70 at_187 (pc' := 189) rfl rfl (Ls' := #[.val (.int p0), .val (.int p1), .val (.int p2), .val (.int p3), .val (.int p4), .val (.int p5), .val (.int (1 : Int32)), .val (.ref s0), .val (.ref s1), .val (.ref s2), .val (.ref s3), .val (.int (0 : Int32)), .val (.ref a3), .val (.ref s0)]) rfl ?_
        refine p_aload B70 at_189 (pc' := 191) rfl rfl rfl ?_
        refine p_iload B70 at_191 (pc' := 193) rfl rfl ?_
        refine p_iload B70 at_193 (pc' := 195) rfl rfl ?_
        refine p_aload B70 at_195 (pc' := 197) rfl rfl rfl ?_
        refine p_aload B70 at_197 (pc' := 199) rfl rfl rfl ?_
        refine p_aload B70 at_199 (pc' := 201) rfl rfl rfl ?_
        refine r_static (D' := D13) B70 at_201 (pc' := 204) rfl (W68 B70.gw) (W69 B70.gw) (W70 B70.gw) (W71 B70.gw) (by decide) (k_ex W (1 : Int32) (0 : Int32) s0 s1 s2 _ _) (argsL := [(.int (1 : Int32)), (.int (0 : Int32)), (.ref s0), (.ref s1), (.ref s2)]) (rest := [(.ref s0)]) rfl pd11 rfl rfl rfl (W := 1) rfl (by decide) (by decide) (cs' := 14) rfl (ss' := 75) rfl (by decide) (by decide) ?_
        intro T71 v72 B73
        replace B73 := Rn.and B73
        obtain ⟨rfl, B73⟩ := B73
        show Fn g D0 M _ (T71.setTop (mkF M.m 204 #[.val (.int p0), .val (.int p1), .val (.int p2), .val (.int p3), .val (.int p4), .val (.int p5), .val (.int (1 : Int32)), .val (.ref s0), .val (.ref s1), .val (.ref s2), .val (.ref s3), .val (.int (0 : Int32)), .val (.ref a3), .val (.ref s0)] [(expf (1 : Int32) (0 : Int32) s0 s1 s2), (.ref s0)]))
        refine b_anF B73 at_204 (pc' := 207) rfl rfl (expf_ref _ _ _ _ _) (show (Value.ref s0) = (expf (1 : Int32) (0 : Int32) s0 s1 s2) from by simp [expf]) ?_
        refine p_iconst B73 at_207 (pc' := 208) rfl (v := (1 : Int32)) (by decide) ?_
        refine b_goto B73 at_208 (pc' := 212) (by decide) (by decide) ?_
        exact r_reti B73 at_212 rfl (by simp) rfl (by decide) (by decide) (fun vm h P => rfl)
      · refine p_aload B65 at_180 (pc' := 182) rfl rfl rfl ?_
        refine p_iload B65 at_182 (pc' := 184) rfl rfl ?_
        have B74 : RH g D0 M T63 [(na, .inr ((.object "java/lang/String"), "[Ljava/lang/String;", [(.ref s0), .null, .null, .null, .null, .null, .null, .null, .null, .null, .null, .null, .null, .null, .null, .null])), o_Pain001Reader_Element a3 (.ref na) (.int (1 : Int32)) (.int (0 : Int32)) (.int (0 : Int32)) (.int (0 : Int32)) (.int (0 : Int32))] [(s3, b3, 0, [(.int c3)]), (s2, b2, 0, [(.int c2)]), (s1, b1, 0, [(.int c1)]), (s0, b0, 0, [(.int c0)])] 14 75 := B65.front (i := 1) rfl rfl
        have B75 : RH g D0 M T63 [o_Pain001Reader_Element a3 (.ref na) (.int (1 : Int32)) (.int (0 : Int32)) (.int (0 : Int32)) (.int (0 : Int32)) (.int (0 : Int32)), (na, .inr ((.object "java/lang/String"), "[Ljava/lang/String;", [(.ref s0), .null, .null, .null, .null, .null, .null, .null, .null, .null, .null, .null, .null, .null, .null, .null]))] [(s3, b3, 0, [(.int c3)]), (s2, b2, 0, [(.int c2)]), (s1, b1, 0, [(.int c1)]), (s0, b0, 0, [(.int c0)])] 14 75 := B74.front (i := 1) rfl rfl
        refine r_virtual (D' := D12_an1_x) B75 at_184 (pc' := 187) rfl (W63 B75.gw) (W64 B75.gw) (W66 B75.gw) (fun vm0 hZ => notFace_of_selects (args := #[]) (mvT hZ (W66 B75.gw))) (W65 B75.gw) (W32 B75.gw) (W67 B75.gw) (by decide) (fE (i := 0) rfl) (k_an1_x W a3 na s0 q hge [] _) (argsL := [(.int q)]) (rest := []) rfl pd10 rfl rfl rfl (W := 0) rfl (by decide) (by decide) (cs' := 14) rfl (ss' := 75) rfl (by decide) (by decide) ?_
        intro T76 v77 B78
        replace B78 := Rn.and B78
        obtain ⟨rfl, B78⟩ := B78
        show Fn g D0 M _ (T76.setTop (mkF M.m 187 #[.val (.int p0), .val (.int p1), .val (.int p2), .val (.int p3), .val (.int p4), .val (.int p5), .val (.int (1 : Int32)), .val (.ref s0), .val (.ref s1), .val (.ref s2), .val (.ref s3), .val (.int q), .val (.ref a3), .unset] [.null]))
        refine p_astore B78 at_187 (pc' := 189) rfl rfl (Ls' := #[.val (.int p0), .val (.int p1), .val (.int p2), .val (.int p3), .val (.int p4), .val (.int p5), .val (.int (1 : Int32)), .val (.ref s0), .val (.ref s1), .val (.ref s2), .val (.ref s3), .val (.int q), .val (.ref a3), .val .null]) rfl ?_
        refine p_aload B78 at_189 (pc' := 191) rfl rfl rfl ?_
        refine p_iload B78 at_191 (pc' := 193) rfl rfl ?_
        refine p_iload B78 at_193 (pc' := 195) rfl rfl ?_
        refine p_aload B78 at_195 (pc' := 197) rfl rfl rfl ?_
        refine p_aload B78 at_197 (pc' := 199) rfl rfl rfl ?_
        refine p_aload B78 at_199 (pc' := 201) rfl rfl rfl ?_
        refine r_static (D' := D13) B78 at_201 (pc' := 204) rfl (W68 B78.gw) (W69 B78.gw) (W70 B78.gw) (W71 B78.gw) (by decide) (k_ex W (1 : Int32) q s0 s1 s2 _ _) (argsL := [(.int (1 : Int32)), (.int q), (.ref s0), (.ref s1), (.ref s2)]) (rest := [.null]) rfl pd11 rfl rfl rfl (W := 1) rfl (by decide) (by decide) (cs' := 14) rfl (ss' := 75) rfl (by decide) (by decide) ?_
        intro T79 v80 B81
        replace B81 := Rn.and B81
        obtain ⟨rfl, B81⟩ := B81
        show Fn g D0 M _ (T79.setTop (mkF M.m 204 #[.val (.int p0), .val (.int p1), .val (.int p2), .val (.int p3), .val (.int p4), .val (.int p5), .val (.int (1 : Int32)), .val (.ref s0), .val (.ref s1), .val (.ref s2), .val (.ref s3), .val (.int q), .val (.ref a3), .val .null] [(expf (1 : Int32) q s0 s1 s2), .null]))
        refine b_anF B81 at_204 (pc' := 207) rfl rfl (expf_ref _ _ _ _ _) (show Value.null = (expf (1 : Int32) q s0 s1 s2) from (by simp [expf, beyond hge (show (0 : Int32) < (1 : Int32) from by decide)])) ?_
        refine p_iconst B81 at_207 (pc' := 208) rfl (v := (1 : Int32)) (by decide) ?_
        refine b_goto B81 at_208 (pc' := 212) (by decide) (by decide) ?_
        exact r_reti B81 at_212 rfl (by simp) rfl (by decide) (by decide) (fun vm h P => rfl)
  · refine p_astore B6 at_120 (pc' := 122) rfl rfl (Ls' := #[.val (.int p0), .val (.int p1), .val (.int p2), .val (.int p3), .val (.int p4), .val (.int p5), .val (.int (2 : Int32)), .val (.ref s0), .val (.ref s1), .val (.ref s2), .val (.ref s3), .val (.int q), .val (.ref a3), .unset]) rfl ?_
    refine p_iload B6 at_122 (pc' := 124) rfl rfl ?_
    refine p_iconst B6 at_124 (pc' := 125) rfl (v := (1 : Int32)) (by decide) ?_
    refine b_icF B6 at_125 (pc' := 128) rfl (show ¬ (2 : Int32) < (1 : Int32) from by decide) ?_
    refine p_aload B6 at_128 (pc' := 130) rfl rfl rfl ?_
    refine p_aload B6 at_130 (pc' := 132) rfl rfl rfl ?_
    have B82 : RH g D0 M T4 [(na, .inr ((.object "java/lang/String"), "[Ljava/lang/String;", [.null, .null, .null, .null, .null, .null, .null, .null, .null, .null, .null, .null, .null, .null, .null, .null])), o_Pain001Reader_Element a3 (.ref na) (.int (0 : Int32)) (.int (0 : Int32)) (.int (0 : Int32)) (.int (0 : Int32)) (.int (0 : Int32))] [(s3, b3, 0, [(.int c3)]), (s2, b2, 0, [(.int c2)]), (s1, b1, 0, [(.int c1)]), (s0, b0, 0, [(.int c0)])] 14 75 := B6.front (i := 1) rfl rfl
    have B83 : RH g D0 M T4 [o_Pain001Reader_Element a3 (.ref na) (.int (0 : Int32)) (.int (0 : Int32)) (.int (0 : Int32)) (.int (0 : Int32)) (.int (0 : Int32)), (na, .inr ((.object "java/lang/String"), "[Ljava/lang/String;", [.null, .null, .null, .null, .null, .null, .null, .null, .null, .null, .null, .null, .null, .null, .null, .null]))] [(s3, b3, 0, [(.int c3)]), (s2, b2, 0, [(.int c2)]), (s1, b1, 0, [(.int c1)]), (s0, b0, 0, [(.int c0)])] 14 75 := B82.front (i := 1) rfl rfl
    refine r_virtual (D' := D8_push0) B83 at_132 (pc' := 135) rfl (W41 B83.gw) (W42 B83.gw) (W44 B83.gw) (fun vm0 hZ => notFace_of_selects (args := #[]) (mvT hZ (W44 B83.gw))) (W43 B83.gw) (W32 B83.gw) (W45 B83.gw) (by decide) (fE (i := 0) rfl) (k_push0 W a3 na s0 [] (xx0 := ([c0] : List Int32)) (List.mem_of_getElem? (i := 3) rfl) (by simp) rfl) (argsL := [(.ref s0)]) (rest := []) rfl pd12 rfl rfl rfl (W := 0) rfl (by decide) (by decide) (cs' := 14) rfl (ss' := 75) rfl (by decide) (by decide) ?_
    intro T84 v85 B86
    replace B86 := Rn.and B86
    obtain ⟨rfl, B86⟩ := B86
    show Fn g D0 M _ (T84.setTop (mkF M.m 135 #[.val (.int p0), .val (.int p1), .val (.int p2), .val (.int p3), .val (.int p4), .val (.int p5), .val (.int (2 : Int32)), .val (.ref s0), .val (.ref s1), .val (.ref s2), .val (.ref s3), .val (.int q), .val (.ref a3), .unset] []))
    refine p_iload B86 at_135 (pc' := 137) rfl rfl ?_
    refine p_iconst B86 at_137 (pc' := 138) rfl (v := (2 : Int32)) (by decide) ?_
    refine b_icF B86 at_138 (pc' := 141) rfl (show ¬ (2 : Int32) < (2 : Int32) from by decide) ?_
    refine p_aload B86 at_141 (pc' := 143) rfl rfl rfl ?_
    refine p_aload B86 at_143 (pc' := 145) rfl rfl rfl ?_
    have B87 : RH g D0 M T84 [(na, .inr ((.object "java/lang/String"), "[Ljava/lang/String;", [(.ref s0), .null, .null, .null, .null, .null, .null, .null, .null, .null, .null, .null, .null, .null, .null, .null])), o_Pain001Reader_Element a3 (.ref na) (.int (1 : Int32)) (.int (0 : Int32)) (.int (0 : Int32)) (.int (0 : Int32)) (.int (0 : Int32))] [(s3, b3, 0, [(.int c3)]), (s2, b2, 0, [(.int c2)]), (s1, b1, 0, [(.int c1)]), (s0, b0, 0, [(.int c0)])] 14 75 := B86.front (i := 1) rfl rfl
    have B88 : RH g D0 M T84 [o_Pain001Reader_Element a3 (.ref na) (.int (1 : Int32)) (.int (0 : Int32)) (.int (0 : Int32)) (.int (0 : Int32)) (.int (0 : Int32)), (na, .inr ((.object "java/lang/String"), "[Ljava/lang/String;", [(.ref s0), .null, .null, .null, .null, .null, .null, .null, .null, .null, .null, .null, .null, .null, .null, .null]))] [(s3, b3, 0, [(.int c3)]), (s2, b2, 0, [(.int c2)]), (s1, b1, 0, [(.int c1)]), (s0, b0, 0, [(.int c0)])] 14 75 := B87.front (i := 1) rfl rfl
    refine r_virtual (D' := D8_push1) B88 at_145 (pc' := 148) rfl (W41 B88.gw) (W42 B88.gw) (W44 B88.gw) (fun vm0 hZ => notFace_of_selects (args := #[]) (mvT hZ (W44 B88.gw))) (W43 B88.gw) (W32 B88.gw) (W45 B88.gw) (by decide) (fE (i := 0) rfl) (k_push1 W a3 na s0 s1 [] (xx0 := ([c0] : List Int32)) (List.mem_of_getElem? (i := 3) rfl) (by simp) (xx1 := ([c1] : List Int32)) (List.mem_of_getElem? (i := 2) rfl) (by simp) rfl rfl) (argsL := [(.ref s1)]) (rest := []) rfl pd12 rfl rfl rfl (W := 0) rfl (by decide) (by decide) (cs' := 14) rfl (ss' := 75) rfl (by decide) (by decide) ?_
    intro T89 v90 B91
    replace B91 := Rn.and B91
    obtain ⟨rfl, B91⟩ := B91
    show Fn g D0 M _ (T89.setTop (mkF M.m 148 #[.val (.int p0), .val (.int p1), .val (.int p2), .val (.int p3), .val (.int p4), .val (.int p5), .val (.int (2 : Int32)), .val (.ref s0), .val (.ref s1), .val (.ref s2), .val (.ref s3), .val (.int q), .val (.ref a3), .unset] []))
    refine p_iload B91 at_148 (pc' := 150) rfl rfl ?_
    refine p_iconst B91 at_150 (pc' := 151) rfl (v := (3 : Int32)) (by decide) ?_
    refine b_icT B91 at_151 (pc' := 161) (show (2 : Int32) < (3 : Int32) from by decide) (by decide) (by decide) ?_
    refine p_iload B91 at_161 (pc' := 163) rfl rfl ?_
    refine p_iconst B91 at_163 (pc' := 164) rfl (v := (1 : Int32)) (by decide) ?_
    refine p_iand B91 at_164 (pc' := 165) rfl rfl ?_
    by_cases h92 : (p5 &&& (1 : Int32)) = (0 : Int32)
    · refine b_ifT B91 at_165 (pc' := 180) h92 (by decide) (by decide) ?_
      rcases qc2 q hq with rfl | rfl | hge
      · refine p_aload B91 at_180 (pc' := 182) rfl rfl rfl ?_
        refine p_iload B91 at_182 (pc' := 184) rfl rfl ?_
        have B93 : RH g D0 M T89 [(na, .inr ((.object "java/lang/String"), "[Ljava/lang/String;", [(.ref s0), (.ref s1), .null, .null, .null, .null, .null, .null, .null, .null, .null, .null, .null, .null, .null, .null])), o_Pain001Reader_Element a3 (.ref na) (.int (2 : Int32)) (.int (0 : Int32)) (.int (0 : Int32)) (.int (0 : Int32)) (.int (0 : Int32))] [(s3, b3, 0, [(.int c3)]), (s2, b2, 0, [(.int c2)]), (s1, b1, 0, [(.int c1)]), (s0, b0, 0, [(.int c0)])] 14 75 := B91.front (i := 1) rfl rfl
        have B94 : RH g D0 M T89 [o_Pain001Reader_Element a3 (.ref na) (.int (2 : Int32)) (.int (0 : Int32)) (.int (0 : Int32)) (.int (0 : Int32)) (.int (0 : Int32)), (na, .inr ((.object "java/lang/String"), "[Ljava/lang/String;", [(.ref s0), (.ref s1), .null, .null, .null, .null, .null, .null, .null, .null, .null, .null, .null, .null, .null, .null]))] [(s3, b3, 0, [(.int c3)]), (s2, b2, 0, [(.int c2)]), (s1, b1, 0, [(.int c1)]), (s0, b0, 0, [(.int c0)])] 14 75 := B93.front (i := 1) rfl rfl
        refine r_virtual (D' := D12_an2_0) B94 at_184 (pc' := 187) rfl (W63 B94.gw) (W64 B94.gw) (W66 B94.gw) (fun vm0 hZ => notFace_of_selects (args := #[]) (mvT hZ (W66 B94.gw))) (W65 B94.gw) (W32 B94.gw) (W67 B94.gw) (by decide) (fE (i := 0) rfl) (k_an2_0 W a3 na s0 s1 [] _) (argsL := [(.int (0 : Int32))]) (rest := []) rfl pd10 rfl rfl rfl (W := 0) rfl (by decide) (by decide) (cs' := 14) rfl (ss' := 75) rfl (by decide) (by decide) ?_
        intro T95 v96 B97
        replace B97 := Rn.and B97
        obtain ⟨rfl, B97⟩ := B97
        show Fn g D0 M _ (T95.setTop (mkF M.m 187 #[.val (.int p0), .val (.int p1), .val (.int p2), .val (.int p3), .val (.int p4), .val (.int p5), .val (.int (2 : Int32)), .val (.ref s0), .val (.ref s1), .val (.ref s2), .val (.ref s3), .val (.int (0 : Int32)), .val (.ref a3), .unset] [(.ref s1)]))
        refine p_astore B97 at_187 (pc' := 189) rfl rfl (Ls' := #[.val (.int p0), .val (.int p1), .val (.int p2), .val (.int p3), .val (.int p4), .val (.int p5), .val (.int (2 : Int32)), .val (.ref s0), .val (.ref s1), .val (.ref s2), .val (.ref s3), .val (.int (0 : Int32)), .val (.ref a3), .val (.ref s1)]) rfl ?_
        refine p_aload B97 at_189 (pc' := 191) rfl rfl rfl ?_
        refine p_iload B97 at_191 (pc' := 193) rfl rfl ?_
        refine p_iload B97 at_193 (pc' := 195) rfl rfl ?_
        refine p_aload B97 at_195 (pc' := 197) rfl rfl rfl ?_
        refine p_aload B97 at_197 (pc' := 199) rfl rfl rfl ?_
        refine p_aload B97 at_199 (pc' := 201) rfl rfl rfl ?_
        refine r_static (D' := D13) B97 at_201 (pc' := 204) rfl (W68 B97.gw) (W69 B97.gw) (W70 B97.gw) (W71 B97.gw) (by decide) (k_ex W (2 : Int32) (0 : Int32) s0 s1 s2 _ _) (argsL := [(.int (2 : Int32)), (.int (0 : Int32)), (.ref s0), (.ref s1), (.ref s2)]) (rest := [(.ref s1)]) rfl pd11 rfl rfl rfl (W := 1) rfl (by decide) (by decide) (cs' := 14) rfl (ss' := 75) rfl (by decide) (by decide) ?_
        intro T98 v99 B100
        replace B100 := Rn.and B100
        obtain ⟨rfl, B100⟩ := B100
        show Fn g D0 M _ (T98.setTop (mkF M.m 204 #[.val (.int p0), .val (.int p1), .val (.int p2), .val (.int p3), .val (.int p4), .val (.int p5), .val (.int (2 : Int32)), .val (.ref s0), .val (.ref s1), .val (.ref s2), .val (.ref s3), .val (.int (0 : Int32)), .val (.ref a3), .val (.ref s1)] [(expf (2 : Int32) (0 : Int32) s0 s1 s2), (.ref s1)]))
        refine b_anF B100 at_204 (pc' := 207) rfl rfl (expf_ref _ _ _ _ _) (show (Value.ref s1) = (expf (2 : Int32) (0 : Int32) s0 s1 s2) from by simp [expf]) ?_
        refine p_iconst B100 at_207 (pc' := 208) rfl (v := (1 : Int32)) (by decide) ?_
        refine b_goto B100 at_208 (pc' := 212) (by decide) (by decide) ?_
        exact r_reti B100 at_212 rfl (by simp) rfl (by decide) (by decide) (fun vm h P => rfl)
      · refine p_aload B91 at_180 (pc' := 182) rfl rfl rfl ?_
        refine p_iload B91 at_182 (pc' := 184) rfl rfl ?_
        have B101 : RH g D0 M T89 [(na, .inr ((.object "java/lang/String"), "[Ljava/lang/String;", [(.ref s0), (.ref s1), .null, .null, .null, .null, .null, .null, .null, .null, .null, .null, .null, .null, .null, .null])), o_Pain001Reader_Element a3 (.ref na) (.int (2 : Int32)) (.int (0 : Int32)) (.int (0 : Int32)) (.int (0 : Int32)) (.int (0 : Int32))] [(s3, b3, 0, [(.int c3)]), (s2, b2, 0, [(.int c2)]), (s1, b1, 0, [(.int c1)]), (s0, b0, 0, [(.int c0)])] 14 75 := B91.front (i := 1) rfl rfl
        have B102 : RH g D0 M T89 [o_Pain001Reader_Element a3 (.ref na) (.int (2 : Int32)) (.int (0 : Int32)) (.int (0 : Int32)) (.int (0 : Int32)) (.int (0 : Int32)), (na, .inr ((.object "java/lang/String"), "[Ljava/lang/String;", [(.ref s0), (.ref s1), .null, .null, .null, .null, .null, .null, .null, .null, .null, .null, .null, .null, .null, .null]))] [(s3, b3, 0, [(.int c3)]), (s2, b2, 0, [(.int c2)]), (s1, b1, 0, [(.int c1)]), (s0, b0, 0, [(.int c0)])] 14 75 := B101.front (i := 1) rfl rfl
        refine r_virtual (D' := D12_an2_1) B102 at_184 (pc' := 187) rfl (W63 B102.gw) (W64 B102.gw) (W66 B102.gw) (fun vm0 hZ => notFace_of_selects (args := #[]) (mvT hZ (W66 B102.gw))) (W65 B102.gw) (W32 B102.gw) (W67 B102.gw) (by decide) (fE (i := 0) rfl) (k_an2_1 W a3 na s0 s1 [] _) (argsL := [(.int (1 : Int32))]) (rest := []) rfl pd10 rfl rfl rfl (W := 0) rfl (by decide) (by decide) (cs' := 14) rfl (ss' := 75) rfl (by decide) (by decide) ?_
        intro T103 v104 B105
        replace B105 := Rn.and B105
        obtain ⟨rfl, B105⟩ := B105
        show Fn g D0 M _ (T103.setTop (mkF M.m 187 #[.val (.int p0), .val (.int p1), .val (.int p2), .val (.int p3), .val (.int p4), .val (.int p5), .val (.int (2 : Int32)), .val (.ref s0), .val (.ref s1), .val (.ref s2), .val (.ref s3), .val (.int (1 : Int32)), .val (.ref a3), .unset] [(.ref s0)]))
        refine p_astore B105 at_187 (pc' := 189) rfl rfl (Ls' := #[.val (.int p0), .val (.int p1), .val (.int p2), .val (.int p3), .val (.int p4), .val (.int p5), .val (.int (2 : Int32)), .val (.ref s0), .val (.ref s1), .val (.ref s2), .val (.ref s3), .val (.int (1 : Int32)), .val (.ref a3), .val (.ref s0)]) rfl ?_
        refine p_aload B105 at_189 (pc' := 191) rfl rfl rfl ?_
        refine p_iload B105 at_191 (pc' := 193) rfl rfl ?_
        refine p_iload B105 at_193 (pc' := 195) rfl rfl ?_
        refine p_aload B105 at_195 (pc' := 197) rfl rfl rfl ?_
        refine p_aload B105 at_197 (pc' := 199) rfl rfl rfl ?_
        refine p_aload B105 at_199 (pc' := 201) rfl rfl rfl ?_
        refine r_static (D' := D13) B105 at_201 (pc' := 204) rfl (W68 B105.gw) (W69 B105.gw) (W70 B105.gw) (W71 B105.gw) (by decide) (k_ex W (2 : Int32) (1 : Int32) s0 s1 s2 _ _) (argsL := [(.int (2 : Int32)), (.int (1 : Int32)), (.ref s0), (.ref s1), (.ref s2)]) (rest := [(.ref s0)]) rfl pd11 rfl rfl rfl (W := 1) rfl (by decide) (by decide) (cs' := 14) rfl (ss' := 75) rfl (by decide) (by decide) ?_
        intro T106 v107 B108
        replace B108 := Rn.and B108
        obtain ⟨rfl, B108⟩ := B108
        show Fn g D0 M _ (T106.setTop (mkF M.m 204 #[.val (.int p0), .val (.int p1), .val (.int p2), .val (.int p3), .val (.int p4), .val (.int p5), .val (.int (2 : Int32)), .val (.ref s0), .val (.ref s1), .val (.ref s2), .val (.ref s3), .val (.int (1 : Int32)), .val (.ref a3), .val (.ref s0)] [(expf (2 : Int32) (1 : Int32) s0 s1 s2), (.ref s0)]))
        refine b_anF B108 at_204 (pc' := 207) rfl rfl (expf_ref _ _ _ _ _) (show (Value.ref s0) = (expf (2 : Int32) (1 : Int32) s0 s1 s2) from by simp [expf]) ?_
        refine p_iconst B108 at_207 (pc' := 208) rfl (v := (1 : Int32)) (by decide) ?_
        refine b_goto B108 at_208 (pc' := 212) (by decide) (by decide) ?_
        exact r_reti B108 at_212 rfl (by simp) rfl (by decide) (by decide) (fun vm h P => rfl)
      · refine p_aload B91 at_180 (pc' := 182) rfl rfl rfl ?_
        refine p_iload B91 at_182 (pc' := 184) rfl rfl ?_
        have B109 : RH g D0 M T89 [(na, .inr ((.object "java/lang/String"), "[Ljava/lang/String;", [(.ref s0), (.ref s1), .null, .null, .null, .null, .null, .null, .null, .null, .null, .null, .null, .null, .null, .null])), o_Pain001Reader_Element a3 (.ref na) (.int (2 : Int32)) (.int (0 : Int32)) (.int (0 : Int32)) (.int (0 : Int32)) (.int (0 : Int32))] [(s3, b3, 0, [(.int c3)]), (s2, b2, 0, [(.int c2)]), (s1, b1, 0, [(.int c1)]), (s0, b0, 0, [(.int c0)])] 14 75 := B91.front (i := 1) rfl rfl
        have B110 : RH g D0 M T89 [o_Pain001Reader_Element a3 (.ref na) (.int (2 : Int32)) (.int (0 : Int32)) (.int (0 : Int32)) (.int (0 : Int32)) (.int (0 : Int32)), (na, .inr ((.object "java/lang/String"), "[Ljava/lang/String;", [(.ref s0), (.ref s1), .null, .null, .null, .null, .null, .null, .null, .null, .null, .null, .null, .null, .null, .null]))] [(s3, b3, 0, [(.int c3)]), (s2, b2, 0, [(.int c2)]), (s1, b1, 0, [(.int c1)]), (s0, b0, 0, [(.int c0)])] 14 75 := B109.front (i := 1) rfl rfl
        refine r_virtual (D' := D12_an2_x) B110 at_184 (pc' := 187) rfl (W63 B110.gw) (W64 B110.gw) (W66 B110.gw) (fun vm0 hZ => notFace_of_selects (args := #[]) (mvT hZ (W66 B110.gw))) (W65 B110.gw) (W32 B110.gw) (W67 B110.gw) (by decide) (fE (i := 0) rfl) (k_an2_x W a3 na s0 s1 q hge [] _) (argsL := [(.int q)]) (rest := []) rfl pd10 rfl rfl rfl (W := 0) rfl (by decide) (by decide) (cs' := 14) rfl (ss' := 75) rfl (by decide) (by decide) ?_
        intro T111 v112 B113
        replace B113 := Rn.and B113
        obtain ⟨rfl, B113⟩ := B113
        show Fn g D0 M _ (T111.setTop (mkF M.m 187 #[.val (.int p0), .val (.int p1), .val (.int p2), .val (.int p3), .val (.int p4), .val (.int p5), .val (.int (2 : Int32)), .val (.ref s0), .val (.ref s1), .val (.ref s2), .val (.ref s3), .val (.int q), .val (.ref a3), .unset] [.null]))
        refine p_astore B113 at_187 (pc' := 189) rfl rfl (Ls' := #[.val (.int p0), .val (.int p1), .val (.int p2), .val (.int p3), .val (.int p4), .val (.int p5), .val (.int (2 : Int32)), .val (.ref s0), .val (.ref s1), .val (.ref s2), .val (.ref s3), .val (.int q), .val (.ref a3), .val .null]) rfl ?_
        refine p_aload B113 at_189 (pc' := 191) rfl rfl rfl ?_
        refine p_iload B113 at_191 (pc' := 193) rfl rfl ?_
        refine p_iload B113 at_193 (pc' := 195) rfl rfl ?_
        refine p_aload B113 at_195 (pc' := 197) rfl rfl rfl ?_
        refine p_aload B113 at_197 (pc' := 199) rfl rfl rfl ?_
        refine p_aload B113 at_199 (pc' := 201) rfl rfl rfl ?_
        refine r_static (D' := D13) B113 at_201 (pc' := 204) rfl (W68 B113.gw) (W69 B113.gw) (W70 B113.gw) (W71 B113.gw) (by decide) (k_ex W (2 : Int32) q s0 s1 s2 _ _) (argsL := [(.int (2 : Int32)), (.int q), (.ref s0), (.ref s1), (.ref s2)]) (rest := [.null]) rfl pd11 rfl rfl rfl (W := 1) rfl (by decide) (by decide) (cs' := 14) rfl (ss' := 75) rfl (by decide) (by decide) ?_
        intro T114 v115 B116
        replace B116 := Rn.and B116
        obtain ⟨rfl, B116⟩ := B116
        show Fn g D0 M _ (T114.setTop (mkF M.m 204 #[.val (.int p0), .val (.int p1), .val (.int p2), .val (.int p3), .val (.int p4), .val (.int p5), .val (.int (2 : Int32)), .val (.ref s0), .val (.ref s1), .val (.ref s2), .val (.ref s3), .val (.int q), .val (.ref a3), .val .null] [(expf (2 : Int32) q s0 s1 s2), .null]))
        refine b_anF B116 at_204 (pc' := 207) rfl rfl (expf_ref _ _ _ _ _) (show Value.null = (expf (2 : Int32) q s0 s1 s2) from (by simp [expf, beyond hge (show (0 : Int32) < (2 : Int32) from by decide), beyond hge (show (1 : Int32) < (2 : Int32) from by decide)])) ?_
        refine p_iconst B116 at_207 (pc' := 208) rfl (v := (1 : Int32)) (by decide) ?_
        refine b_goto B116 at_208 (pc' := 212) (by decide) (by decide) ?_
        exact r_reti B116 at_212 rfl (by simp) rfl (by decide) (by decide) (fun vm h P => rfl)
    · refine b_ifF B91 at_165 (pc' := 168) rfl h92 ?_
      refine p_aload B91 at_168 (pc' := 170) rfl rfl rfl ?_
      refine p_aload B91 at_170 (pc' := 172) rfl rfl rfl ?_
      have B117 : RH g D0 M T89 [(na, .inr ((.object "java/lang/String"), "[Ljava/lang/String;", [(.ref s0), (.ref s1), .null, .null, .null, .null, .null, .null, .null, .null, .null, .null, .null, .null, .null, .null])), o_Pain001Reader_Element a3 (.ref na) (.int (2 : Int32)) (.int (0 : Int32)) (.int (0 : Int32)) (.int (0 : Int32)) (.int (0 : Int32))] [(s3, b3, 0, [(.int c3)]), (s2, b2, 0, [(.int c2)]), (s1, b1, 0, [(.int c1)]), (s0, b0, 0, [(.int c0)])] 14 75 := B91.front (i := 1) rfl rfl
      have B118 : RH g D0 M T89 [o_Pain001Reader_Element a3 (.ref na) (.int (2 : Int32)) (.int (0 : Int32)) (.int (0 : Int32)) (.int (0 : Int32)) (.int (0 : Int32)), (na, .inr ((.object "java/lang/String"), "[Ljava/lang/String;", [(.ref s0), (.ref s1), .null, .null, .null, .null, .null, .null, .null, .null, .null, .null, .null, .null, .null, .null]))] [(s3, b3, 0, [(.int c3)]), (s2, b2, 0, [(.int c2)]), (s1, b1, 0, [(.int c1)]), (s0, b0, 0, [(.int c0)])] 14 75 := B117.front (i := 1) rfl rfl
      refine r_virtual (D' := D8_push2) B118 at_172 (pc' := 175) rfl (W41 B118.gw) (W42 B118.gw) (W44 B118.gw) (fun vm0 hZ => notFace_of_selects (args := #[]) (mvT hZ (W44 B118.gw))) (W43 B118.gw) (W32 B118.gw) (W45 B118.gw) (by decide) (fE (i := 0) rfl) (k_push2 W a3 na s0 s1 s3 [] (xx0 := ([c0] : List Int32)) (List.mem_of_getElem? (i := 3) rfl) (by simp) (xx1 := ([c1] : List Int32)) (List.mem_of_getElem? (i := 2) rfl) (by simp) (xx2 := ([c3] : List Int32)) (List.mem_of_getElem? (i := 0) rfl) (by simp) rfl rfl rfl) (argsL := [(.ref s3)]) (rest := []) rfl pd12 rfl rfl rfl (W := 0) rfl (by decide) (by decide) (cs' := 21) rfl (ss' := 210) rfl (by decide) (by decide) ?_
      intro T119 v120 B121
      replace B121 := Rn.and B121
      obtain ⟨rfl, B121⟩ := B121
      show Fn g D0 M _ (T119.setTop (mkF M.m 175 #[.val (.int p0), .val (.int p1), .val (.int p2), .val (.int p3), .val (.int p4), .val (.int p5), .val (.int (2 : Int32)), .val (.ref s0), .val (.ref s1), .val (.ref s2), .val (.ref s3), .val (.int q), .val (.ref a3), .unset] []))
      refine p_aload B121 at_175 (pc' := 177) rfl rfl rfl ?_
      have B122 : RH g D0 M T119 [(na, .inr ((.object "java/lang/String"), "[Ljava/lang/String;", [(.ref s0), (.ref s1), (.ref s3), .null, .null, .null, .null, .null, .null, .null, .null, .null, .null, .null, .null, .null])), o_Pain001Reader_Element a3 (.ref na) (.int (3 : Int32)) (.int (0 : Int32)) (.int (0 : Int32)) (.int (0 : Int32)) (.int (0 : Int32))] [(s3, b3, 0, [(.int c3)]), (s2, b2, 0, [(.int c2)]), (s1, b1, 0, [(.int c1)]), (s0, b0, 0, [(.int c0)])] 21 210 := B121.front (i := 1) rfl rfl
      have B123 : RH g D0 M T119 [o_Pain001Reader_Element a3 (.ref na) (.int (3 : Int32)) (.int (0 : Int32)) (.int (0 : Int32)) (.int (0 : Int32)) (.int (0 : Int32)), (na, .inr ((.object "java/lang/String"), "[Ljava/lang/String;", [(.ref s0), (.ref s1), (.ref s3), .null, .null, .null, .null, .null, .null, .null, .null, .null, .null, .null, .null, .null]))] [(s3, b3, 0, [(.int c3)]), (s2, b2, 0, [(.int c2)]), (s1, b1, 0, [(.int c1)]), (s0, b0, 0, [(.int c0)])] 21 210 := B122.front (i := 1) rfl rfl
      refine r_virtual (D' := D11_pop3) B123 at_177 (pc' := 180) rfl (W58 B123.gw) (W59 B123.gw) (W61 B123.gw) (fun vm0 hZ => notFace_of_selects (args := #[]) (mvT hZ (W61 B123.gw))) (W60 B123.gw) (W32 B123.gw) (W62 B123.gw) (by decide) (fE (i := 0) rfl) (k_pop3 W a3 na s0 s1 s3 [] (xx0 := ([c0] : List Int32)) (List.mem_of_getElem? (i := 3) rfl) (by simp) (xx1 := ([c1] : List Int32)) (List.mem_of_getElem? (i := 2) rfl) (by simp) (xx2 := ([c3] : List Int32)) (List.mem_of_getElem? (i := 0) rfl) (by simp) rfl rfl rfl) (argsL := []) (rest := []) rfl pd9 rfl rfl rfl (W := 0) rfl (by decide) (by decide) (cs' := 28) rfl (ss' := 345) rfl (by decide) (by decide) ?_
      intro T124 v125 B126
      replace B126 := Rn.and B126
      obtain ⟨rfl, B126⟩ := B126
      show Fn g D0 M _ (T124.setTop (mkF M.m 180 #[.val (.int p0), .val (.int p1), .val (.int p2), .val (.int p3), .val (.int p4), .val (.int p5), .val (.int (2 : Int32)), .val (.ref s0), .val (.ref s1), .val (.ref s2), .val (.ref s3), .val (.int q), .val (.ref a3), .unset] []))
      rcases qc2 q hq with rfl | rfl | hge
      · refine p_aload B126 at_180 (pc' := 182) rfl rfl rfl ?_
        refine p_iload B126 at_182 (pc' := 184) rfl rfl ?_
        have B127 : RH g D0 M T124 [(na, .inr ((.object "java/lang/String"), "[Ljava/lang/String;", [(.ref s0), (.ref s1), .null, .null, .null, .null, .null, .null, .null, .null, .null, .null, .null, .null, .null, .null])), o_Pain001Reader_Element a3 (.ref na) (.int (2 : Int32)) (.int (0 : Int32)) (.int (0 : Int32)) (.int (0 : Int32)) (.int (0 : Int32))] [(s3, b3, 0, [(.int c3)]), (s2, b2, 0, [(.int c2)]), (s1, b1, 0, [(.int c1)]), (s0, b0, 0, [(.int c0)])] 28 345 := B126.front (i := 1) rfl rfl
        have B128 : RH g D0 M T124 [o_Pain001Reader_Element a3 (.ref na) (.int (2 : Int32)) (.int (0 : Int32)) (.int (0 : Int32)) (.int (0 : Int32)) (.int (0 : Int32)), (na, .inr ((.object "java/lang/String"), "[Ljava/lang/String;", [(.ref s0), (.ref s1), .null, .null, .null, .null, .null, .null, .null, .null, .null, .null, .null, .null, .null, .null]))] [(s3, b3, 0, [(.int c3)]), (s2, b2, 0, [(.int c2)]), (s1, b1, 0, [(.int c1)]), (s0, b0, 0, [(.int c0)])] 28 345 := B127.front (i := 1) rfl rfl
        refine r_virtual (D' := D12_an2_0) B128 at_184 (pc' := 187) rfl (W63 B128.gw) (W64 B128.gw) (W66 B128.gw) (fun vm0 hZ => notFace_of_selects (args := #[]) (mvT hZ (W66 B128.gw))) (W65 B128.gw) (W32 B128.gw) (W67 B128.gw) (by decide) (fE (i := 0) rfl) (k_an2_0 W a3 na s0 s1 [] _) (argsL := [(.int (0 : Int32))]) (rest := []) rfl pd10 rfl rfl rfl (W := 0) rfl (by decide) (by decide) (cs' := 28) rfl (ss' := 345) rfl (by decide) (by decide) ?_
        intro T129 v130 B131
        replace B131 := Rn.and B131
        obtain ⟨rfl, B131⟩ := B131
        show Fn g D0 M _ (T129.setTop (mkF M.m 187 #[.val (.int p0), .val (.int p1), .val (.int p2), .val (.int p3), .val (.int p4), .val (.int p5), .val (.int (2 : Int32)), .val (.ref s0), .val (.ref s1), .val (.ref s2), .val (.ref s3), .val (.int (0 : Int32)), .val (.ref a3), .unset] [(.ref s1)]))
        refine p_astore B131 at_187 (pc' := 189) rfl rfl (Ls' := #[.val (.int p0), .val (.int p1), .val (.int p2), .val (.int p3), .val (.int p4), .val (.int p5), .val (.int (2 : Int32)), .val (.ref s0), .val (.ref s1), .val (.ref s2), .val (.ref s3), .val (.int (0 : Int32)), .val (.ref a3), .val (.ref s1)]) rfl ?_
        refine p_aload B131 at_189 (pc' := 191) rfl rfl rfl ?_
        refine p_iload B131 at_191 (pc' := 193) rfl rfl ?_
        refine p_iload B131 at_193 (pc' := 195) rfl rfl ?_
        refine p_aload B131 at_195 (pc' := 197) rfl rfl rfl ?_
        refine p_aload B131 at_197 (pc' := 199) rfl rfl rfl ?_
        refine p_aload B131 at_199 (pc' := 201) rfl rfl rfl ?_
        refine r_static (D' := D13) B131 at_201 (pc' := 204) rfl (W68 B131.gw) (W69 B131.gw) (W70 B131.gw) (W71 B131.gw) (by decide) (k_ex W (2 : Int32) (0 : Int32) s0 s1 s2 _ _) (argsL := [(.int (2 : Int32)), (.int (0 : Int32)), (.ref s0), (.ref s1), (.ref s2)]) (rest := [(.ref s1)]) rfl pd11 rfl rfl rfl (W := 1) rfl (by decide) (by decide) (cs' := 28) rfl (ss' := 345) rfl (by decide) (by decide) ?_
        intro T132 v133 B134
        replace B134 := Rn.and B134
        obtain ⟨rfl, B134⟩ := B134
        show Fn g D0 M _ (T132.setTop (mkF M.m 204 #[.val (.int p0), .val (.int p1), .val (.int p2), .val (.int p3), .val (.int p4), .val (.int p5), .val (.int (2 : Int32)), .val (.ref s0), .val (.ref s1), .val (.ref s2), .val (.ref s3), .val (.int (0 : Int32)), .val (.ref a3), .val (.ref s1)] [(expf (2 : Int32) (0 : Int32) s0 s1 s2), (.ref s1)]))
        refine b_anF B134 at_204 (pc' := 207) rfl rfl (expf_ref _ _ _ _ _) (show (Value.ref s1) = (expf (2 : Int32) (0 : Int32) s0 s1 s2) from by simp [expf]) ?_
        refine p_iconst B134 at_207 (pc' := 208) rfl (v := (1 : Int32)) (by decide) ?_
        refine b_goto B134 at_208 (pc' := 212) (by decide) (by decide) ?_
        exact r_reti B134 at_212 rfl (by simp) rfl (by decide) (by decide) (fun vm h P => rfl)
      · refine p_aload B126 at_180 (pc' := 182) rfl rfl rfl ?_
        refine p_iload B126 at_182 (pc' := 184) rfl rfl ?_
        have B135 : RH g D0 M T124 [(na, .inr ((.object "java/lang/String"), "[Ljava/lang/String;", [(.ref s0), (.ref s1), .null, .null, .null, .null, .null, .null, .null, .null, .null, .null, .null, .null, .null, .null])), o_Pain001Reader_Element a3 (.ref na) (.int (2 : Int32)) (.int (0 : Int32)) (.int (0 : Int32)) (.int (0 : Int32)) (.int (0 : Int32))] [(s3, b3, 0, [(.int c3)]), (s2, b2, 0, [(.int c2)]), (s1, b1, 0, [(.int c1)]), (s0, b0, 0, [(.int c0)])] 28 345 := B126.front (i := 1) rfl rfl
        have B136 : RH g D0 M T124 [o_Pain001Reader_Element a3 (.ref na) (.int (2 : Int32)) (.int (0 : Int32)) (.int (0 : Int32)) (.int (0 : Int32)) (.int (0 : Int32)), (na, .inr ((.object "java/lang/String"), "[Ljava/lang/String;", [(.ref s0), (.ref s1), .null, .null, .null, .null, .null, .null, .null, .null, .null, .null, .null, .null, .null, .null]))] [(s3, b3, 0, [(.int c3)]), (s2, b2, 0, [(.int c2)]), (s1, b1, 0, [(.int c1)]), (s0, b0, 0, [(.int c0)])] 28 345 := B135.front (i := 1) rfl rfl
        refine r_virtual (D' := D12_an2_1) B136 at_184 (pc' := 187) rfl (W63 B136.gw) (W64 B136.gw) (W66 B136.gw) (fun vm0 hZ => notFace_of_selects (args := #[]) (mvT hZ (W66 B136.gw))) (W65 B136.gw) (W32 B136.gw) (W67 B136.gw) (by decide) (fE (i := 0) rfl) (k_an2_1 W a3 na s0 s1 [] _) (argsL := [(.int (1 : Int32))]) (rest := []) rfl pd10 rfl rfl rfl (W := 0) rfl (by decide) (by decide) (cs' := 28) rfl (ss' := 345) rfl (by decide) (by decide) ?_
        intro T137 v138 B139
        replace B139 := Rn.and B139
        obtain ⟨rfl, B139⟩ := B139
        show Fn g D0 M _ (T137.setTop (mkF M.m 187 #[.val (.int p0), .val (.int p1), .val (.int p2), .val (.int p3), .val (.int p4), .val (.int p5), .val (.int (2 : Int32)), .val (.ref s0), .val (.ref s1), .val (.ref s2), .val (.ref s3), .val (.int (1 : Int32)), .val (.ref a3), .unset] [(.ref s0)]))
        refine p_astore B139 at_187 (pc' := 189) rfl rfl (Ls' := #[.val (.int p0), .val (.int p1), .val (.int p2), .val (.int p3), .val (.int p4), .val (.int p5), .val (.int (2 : Int32)), .val (.ref s0), .val (.ref s1), .val (.ref s2), .val (.ref s3), .val (.int (1 : Int32)), .val (.ref a3), .val (.ref s0)]) rfl ?_
        refine p_aload B139 at_189 (pc' := 191) rfl rfl rfl ?_
        refine p_iload B139 at_191 (pc' := 193) rfl rfl ?_
        refine p_iload B139 at_193 (pc' := 195) rfl rfl ?_
        refine p_aload B139 at_195 (pc' := 197) rfl rfl rfl ?_
        refine p_aload B139 at_197 (pc' := 199) rfl rfl rfl ?_
        refine p_aload B139 at_199 (pc' := 201) rfl rfl rfl ?_
        refine r_static (D' := D13) B139 at_201 (pc' := 204) rfl (W68 B139.gw) (W69 B139.gw) (W70 B139.gw) (W71 B139.gw) (by decide) (k_ex W (2 : Int32) (1 : Int32) s0 s1 s2 _ _) (argsL := [(.int (2 : Int32)), (.int (1 : Int32)), (.ref s0), (.ref s1), (.ref s2)]) (rest := [(.ref s0)]) rfl pd11 rfl rfl rfl (W := 1) rfl (by decide) (by decide) (cs' := 28) rfl (ss' := 345) rfl (by decide) (by decide) ?_
        intro T140 v141 B142
        replace B142 := Rn.and B142
        obtain ⟨rfl, B142⟩ := B142
        show Fn g D0 M _ (T140.setTop (mkF M.m 204 #[.val (.int p0), .val (.int p1), .val (.int p2), .val (.int p3), .val (.int p4), .val (.int p5), .val (.int (2 : Int32)), .val (.ref s0), .val (.ref s1), .val (.ref s2), .val (.ref s3), .val (.int (1 : Int32)), .val (.ref a3), .val (.ref s0)] [(expf (2 : Int32) (1 : Int32) s0 s1 s2), (.ref s0)]))
        refine b_anF B142 at_204 (pc' := 207) rfl rfl (expf_ref _ _ _ _ _) (show (Value.ref s0) = (expf (2 : Int32) (1 : Int32) s0 s1 s2) from by simp [expf]) ?_
        refine p_iconst B142 at_207 (pc' := 208) rfl (v := (1 : Int32)) (by decide) ?_
        refine b_goto B142 at_208 (pc' := 212) (by decide) (by decide) ?_
        exact r_reti B142 at_212 rfl (by simp) rfl (by decide) (by decide) (fun vm h P => rfl)
      · refine p_aload B126 at_180 (pc' := 182) rfl rfl rfl ?_
        refine p_iload B126 at_182 (pc' := 184) rfl rfl ?_
        have B143 : RH g D0 M T124 [(na, .inr ((.object "java/lang/String"), "[Ljava/lang/String;", [(.ref s0), (.ref s1), .null, .null, .null, .null, .null, .null, .null, .null, .null, .null, .null, .null, .null, .null])), o_Pain001Reader_Element a3 (.ref na) (.int (2 : Int32)) (.int (0 : Int32)) (.int (0 : Int32)) (.int (0 : Int32)) (.int (0 : Int32))] [(s3, b3, 0, [(.int c3)]), (s2, b2, 0, [(.int c2)]), (s1, b1, 0, [(.int c1)]), (s0, b0, 0, [(.int c0)])] 28 345 := B126.front (i := 1) rfl rfl
        have B144 : RH g D0 M T124 [o_Pain001Reader_Element a3 (.ref na) (.int (2 : Int32)) (.int (0 : Int32)) (.int (0 : Int32)) (.int (0 : Int32)) (.int (0 : Int32)), (na, .inr ((.object "java/lang/String"), "[Ljava/lang/String;", [(.ref s0), (.ref s1), .null, .null, .null, .null, .null, .null, .null, .null, .null, .null, .null, .null, .null, .null]))] [(s3, b3, 0, [(.int c3)]), (s2, b2, 0, [(.int c2)]), (s1, b1, 0, [(.int c1)]), (s0, b0, 0, [(.int c0)])] 28 345 := B143.front (i := 1) rfl rfl
        refine r_virtual (D' := D12_an2_x) B144 at_184 (pc' := 187) rfl (W63 B144.gw) (W64 B144.gw) (W66 B144.gw) (fun vm0 hZ => notFace_of_selects (args := #[]) (mvT hZ (W66 B144.gw))) (W65 B144.gw) (W32 B144.gw) (W67 B144.gw) (by decide) (fE (i := 0) rfl) (k_an2_x W a3 na s0 s1 q hge [] _) (argsL := [(.int q)]) (rest := []) rfl pd10 rfl rfl rfl (W := 0) rfl (by decide) (by decide) (cs' := 28) rfl (ss' := 345) rfl (by decide) (by decide) ?_
        intro T145 v146 B147
        replace B147 := Rn.and B147
        obtain ⟨rfl, B147⟩ := B147
        show Fn g D0 M _ (T145.setTop (mkF M.m 187 #[.val (.int p0), .val (.int p1), .val (.int p2), .val (.int p3), .val (.int p4), .val (.int p5), .val (.int (2 : Int32)), .val (.ref s0), .val (.ref s1), .val (.ref s2), .val (.ref s3), .val (.int q), .val (.ref a3), .unset] [.null]))
        refine p_astore B147 at_187 (pc' := 189) rfl rfl (Ls' := #[.val (.int p0), .val (.int p1), .val (.int p2), .val (.int p3), .val (.int p4), .val (.int p5), .val (.int (2 : Int32)), .val (.ref s0), .val (.ref s1), .val (.ref s2), .val (.ref s3), .val (.int q), .val (.ref a3), .val .null]) rfl ?_
        refine p_aload B147 at_189 (pc' := 191) rfl rfl rfl ?_
        refine p_iload B147 at_191 (pc' := 193) rfl rfl ?_
        refine p_iload B147 at_193 (pc' := 195) rfl rfl ?_
        refine p_aload B147 at_195 (pc' := 197) rfl rfl rfl ?_
        refine p_aload B147 at_197 (pc' := 199) rfl rfl rfl ?_
        refine p_aload B147 at_199 (pc' := 201) rfl rfl rfl ?_
        refine r_static (D' := D13) B147 at_201 (pc' := 204) rfl (W68 B147.gw) (W69 B147.gw) (W70 B147.gw) (W71 B147.gw) (by decide) (k_ex W (2 : Int32) q s0 s1 s2 _ _) (argsL := [(.int (2 : Int32)), (.int q), (.ref s0), (.ref s1), (.ref s2)]) (rest := [.null]) rfl pd11 rfl rfl rfl (W := 1) rfl (by decide) (by decide) (cs' := 28) rfl (ss' := 345) rfl (by decide) (by decide) ?_
        intro T148 v149 B150
        replace B150 := Rn.and B150
        obtain ⟨rfl, B150⟩ := B150
        show Fn g D0 M _ (T148.setTop (mkF M.m 204 #[.val (.int p0), .val (.int p1), .val (.int p2), .val (.int p3), .val (.int p4), .val (.int p5), .val (.int (2 : Int32)), .val (.ref s0), .val (.ref s1), .val (.ref s2), .val (.ref s3), .val (.int q), .val (.ref a3), .val .null] [(expf (2 : Int32) q s0 s1 s2), .null]))
        refine b_anF B150 at_204 (pc' := 207) rfl rfl (expf_ref _ _ _ _ _) (show Value.null = (expf (2 : Int32) q s0 s1 s2) from (by simp [expf, beyond hge (show (0 : Int32) < (2 : Int32) from by decide), beyond hge (show (1 : Int32) < (2 : Int32) from by decide)])) ?_
        refine p_iconst B150 at_207 (pc' := 208) rfl (v := (1 : Int32)) (by decide) ?_
        refine b_goto B150 at_208 (pc' := 212) (by decide) (by decide) ?_
        exact r_reti B150 at_212 rfl (by simp) rfl (by decide) (by decide) (fun vm h P => rfl)
  · refine p_astore B6 at_120 (pc' := 122) rfl rfl (Ls' := #[.val (.int p0), .val (.int p1), .val (.int p2), .val (.int p3), .val (.int p4), .val (.int p5), .val (.int (3 : Int32)), .val (.ref s0), .val (.ref s1), .val (.ref s2), .val (.ref s3), .val (.int q), .val (.ref a3), .unset]) rfl ?_
    refine p_iload B6 at_122 (pc' := 124) rfl rfl ?_
    refine p_iconst B6 at_124 (pc' := 125) rfl (v := (1 : Int32)) (by decide) ?_
    refine b_icF B6 at_125 (pc' := 128) rfl (show ¬ (3 : Int32) < (1 : Int32) from by decide) ?_
    refine p_aload B6 at_128 (pc' := 130) rfl rfl rfl ?_
    refine p_aload B6 at_130 (pc' := 132) rfl rfl rfl ?_
    have B151 : RH g D0 M T4 [(na, .inr ((.object "java/lang/String"), "[Ljava/lang/String;", [.null, .null, .null, .null, .null, .null, .null, .null, .null, .null, .null, .null, .null, .null, .null, .null])), o_Pain001Reader_Element a3 (.ref na) (.int (0 : Int32)) (.int (0 : Int32)) (.int (0 : Int32)) (.int (0 : Int32)) (.int (0 : Int32))] [(s3, b3, 0, [(.int c3)]), (s2, b2, 0, [(.int c2)]), (s1, b1, 0, [(.int c1)]), (s0, b0, 0, [(.int c0)])] 14 75 := B6.front (i := 1) rfl rfl
    have B152 : RH g D0 M T4 [o_Pain001Reader_Element a3 (.ref na) (.int (0 : Int32)) (.int (0 : Int32)) (.int (0 : Int32)) (.int (0 : Int32)) (.int (0 : Int32)), (na, .inr ((.object "java/lang/String"), "[Ljava/lang/String;", [.null, .null, .null, .null, .null, .null, .null, .null, .null, .null, .null, .null, .null, .null, .null, .null]))] [(s3, b3, 0, [(.int c3)]), (s2, b2, 0, [(.int c2)]), (s1, b1, 0, [(.int c1)]), (s0, b0, 0, [(.int c0)])] 14 75 := B151.front (i := 1) rfl rfl
    refine r_virtual (D' := D8_push0) B152 at_132 (pc' := 135) rfl (W41 B152.gw) (W42 B152.gw) (W44 B152.gw) (fun vm0 hZ => notFace_of_selects (args := #[]) (mvT hZ (W44 B152.gw))) (W43 B152.gw) (W32 B152.gw) (W45 B152.gw) (by decide) (fE (i := 0) rfl) (k_push0 W a3 na s0 [] (xx0 := ([c0] : List Int32)) (List.mem_of_getElem? (i := 3) rfl) (by simp) rfl) (argsL := [(.ref s0)]) (rest := []) rfl pd12 rfl rfl rfl (W := 0) rfl (by decide) (by decide) (cs' := 14) rfl (ss' := 75) rfl (by decide) (by decide) ?_
    intro T153 v154 B155
    replace B155 := Rn.and B155
    obtain ⟨rfl, B155⟩ := B155
    show Fn g D0 M _ (T153.setTop (mkF M.m 135 #[.val (.int p0), .val (.int p1), .val (.int p2), .val (.int p3), .val (.int p4), .val (.int p5), .val (.int (3 : Int32)), .val (.ref s0), .val (.ref s1), .val (.ref s2), .val (.ref s3), .val (.int q), .val (.ref a3), .unset] []))
    refine p_iload B155 at_135 (pc' := 137) rfl rfl ?_
    refine p_iconst B155 at_137 (pc' := 138) rfl (v := (2 : Int32)) (by decide) ?_
    refine b_icF B155 at_138 (pc' := 141) rfl (show ¬ (3 : Int32) < (2 : Int32) from by decide) ?_
    refine p_aload B155 at_141 (pc' := 143) rfl rfl rfl ?_
    refine p_aload B155 at_143 (pc' := 145) rfl rfl rfl ?_
    have B156 : RH g D0 M T153 [(na, .inr ((.object "java/lang/String"), "[Ljava/lang/String;", [(.ref s0), .null, .null, .null, .null, .null, .null, .null, .null, .null, .null, .null, .null, .null, .null, .null])), o_Pain001Reader_Element a3 (.ref na) (.int (1 : Int32)) (.int (0 : Int32)) (.int (0 : Int32)) (.int (0 : Int32)) (.int (0 : Int32))] [(s3, b3, 0, [(.int c3)]), (s2, b2, 0, [(.int c2)]), (s1, b1, 0, [(.int c1)]), (s0, b0, 0, [(.int c0)])] 14 75 := B155.front (i := 1) rfl rfl
    have B157 : RH g D0 M T153 [o_Pain001Reader_Element a3 (.ref na) (.int (1 : Int32)) (.int (0 : Int32)) (.int (0 : Int32)) (.int (0 : Int32)) (.int (0 : Int32)), (na, .inr ((.object "java/lang/String"), "[Ljava/lang/String;", [(.ref s0), .null, .null, .null, .null, .null, .null, .null, .null, .null, .null, .null, .null, .null, .null, .null]))] [(s3, b3, 0, [(.int c3)]), (s2, b2, 0, [(.int c2)]), (s1, b1, 0, [(.int c1)]), (s0, b0, 0, [(.int c0)])] 14 75 := B156.front (i := 1) rfl rfl
    refine r_virtual (D' := D8_push1) B157 at_145 (pc' := 148) rfl (W41 B157.gw) (W42 B157.gw) (W44 B157.gw) (fun vm0 hZ => notFace_of_selects (args := #[]) (mvT hZ (W44 B157.gw))) (W43 B157.gw) (W32 B157.gw) (W45 B157.gw) (by decide) (fE (i := 0) rfl) (k_push1 W a3 na s0 s1 [] (xx0 := ([c0] : List Int32)) (List.mem_of_getElem? (i := 3) rfl) (by simp) (xx1 := ([c1] : List Int32)) (List.mem_of_getElem? (i := 2) rfl) (by simp) rfl rfl) (argsL := [(.ref s1)]) (rest := []) rfl pd12 rfl rfl rfl (W := 0) rfl (by decide) (by decide) (cs' := 14) rfl (ss' := 75) rfl (by decide) (by decide) ?_
    intro T158 v159 B160
    replace B160 := Rn.and B160
    obtain ⟨rfl, B160⟩ := B160
    show Fn g D0 M _ (T158.setTop (mkF M.m 148 #[.val (.int p0), .val (.int p1), .val (.int p2), .val (.int p3), .val (.int p4), .val (.int p5), .val (.int (3 : Int32)), .val (.ref s0), .val (.ref s1), .val (.ref s2), .val (.ref s3), .val (.int q), .val (.ref a3), .unset] []))
    refine p_iload B160 at_148 (pc' := 150) rfl rfl ?_
    refine p_iconst B160 at_150 (pc' := 151) rfl (v := (3 : Int32)) (by decide) ?_
    refine b_icF B160 at_151 (pc' := 154) rfl (show ¬ (3 : Int32) < (3 : Int32) from by decide) ?_
    refine p_aload B160 at_154 (pc' := 156) rfl rfl rfl ?_
    refine p_aload B160 at_156 (pc' := 158) rfl rfl rfl ?_
    have B161 : RH g D0 M T158 [(na, .inr ((.object "java/lang/String"), "[Ljava/lang/String;", [(.ref s0), (.ref s1), .null, .null, .null, .null, .null, .null, .null, .null, .null, .null, .null, .null, .null, .null])), o_Pain001Reader_Element a3 (.ref na) (.int (2 : Int32)) (.int (0 : Int32)) (.int (0 : Int32)) (.int (0 : Int32)) (.int (0 : Int32))] [(s3, b3, 0, [(.int c3)]), (s2, b2, 0, [(.int c2)]), (s1, b1, 0, [(.int c1)]), (s0, b0, 0, [(.int c0)])] 14 75 := B160.front (i := 1) rfl rfl
    have B162 : RH g D0 M T158 [o_Pain001Reader_Element a3 (.ref na) (.int (2 : Int32)) (.int (0 : Int32)) (.int (0 : Int32)) (.int (0 : Int32)) (.int (0 : Int32)), (na, .inr ((.object "java/lang/String"), "[Ljava/lang/String;", [(.ref s0), (.ref s1), .null, .null, .null, .null, .null, .null, .null, .null, .null, .null, .null, .null, .null, .null]))] [(s3, b3, 0, [(.int c3)]), (s2, b2, 0, [(.int c2)]), (s1, b1, 0, [(.int c1)]), (s0, b0, 0, [(.int c0)])] 14 75 := B161.front (i := 1) rfl rfl
    refine r_virtual (D' := D8_push2) B162 at_158 (pc' := 161) rfl (W41 B162.gw) (W42 B162.gw) (W44 B162.gw) (fun vm0 hZ => notFace_of_selects (args := #[]) (mvT hZ (W44 B162.gw))) (W43 B162.gw) (W32 B162.gw) (W45 B162.gw) (by decide) (fE (i := 0) rfl) (k_push2 W a3 na s0 s1 s2 [] (xx0 := ([c0] : List Int32)) (List.mem_of_getElem? (i := 3) rfl) (by simp) (xx1 := ([c1] : List Int32)) (List.mem_of_getElem? (i := 2) rfl) (by simp) (xx2 := ([c2] : List Int32)) (List.mem_of_getElem? (i := 1) rfl) (by simp) rfl rfl rfl) (argsL := [(.ref s2)]) (rest := []) rfl pd12 rfl rfl rfl (W := 0) rfl (by decide) (by decide) (cs' := 21) rfl (ss' := 210) rfl (by decide) (by decide) ?_
    intro T163 v164 B165
    replace B165 := Rn.and B165
    obtain ⟨rfl, B165⟩ := B165
    show Fn g D0 M _ (T163.setTop (mkF M.m 161 #[.val (.int p0), .val (.int p1), .val (.int p2), .val (.int p3), .val (.int p4), .val (.int p5), .val (.int (3 : Int32)), .val (.ref s0), .val (.ref s1), .val (.ref s2), .val (.ref s3), .val (.int q), .val (.ref a3), .unset] []))
    refine p_iload B165 at_161 (pc' := 163) rfl rfl ?_
    refine p_iconst B165 at_163 (pc' := 164) rfl (v := (1 : Int32)) (by decide) ?_
    refine p_iand B165 at_164 (pc' := 165) rfl rfl ?_
    by_cases h166 : (p5 &&& (1 : Int32)) = (0 : Int32)
    · refine b_ifT B165 at_165 (pc' := 180) h166 (by decide) (by decide) ?_
      rcases qc3 q hq with rfl | rfl | rfl | hge
      · refine p_aload B165 at_180 (pc' := 182) rfl rfl rfl ?_
        refine p_iload B165 at_182 (pc' := 184) rfl rfl ?_
        have B167 : RH g D0 M T163 [(na, .inr ((.object "java/lang/String"), "[Ljava/lang/String;", [(.ref s0), (.ref s1), (.ref s2), .null, .null, .null, .null, .null, .null, .null, .null, .null, .null, .null, .null, .null])), o_Pain001Reader_Element a3 (.ref na) (.int (3 : Int32)) (.int (0 : Int32)) (.int (0 : Int32)) (.int (0 : Int32)) (.int (0 : Int32))] [(s3, b3, 0, [(.int c3)]), (s2, b2, 0, [(.int c2)]), (s1, b1, 0, [(.int c1)]), (s0, b0, 0, [(.int c0)])] 21 210 := B165.front (i := 1) rfl rfl
        have B168 : RH g D0 M T163 [o_Pain001Reader_Element a3 (.ref na) (.int (3 : Int32)) (.int (0 : Int32)) (.int (0 : Int32)) (.int (0 : Int32)) (.int (0 : Int32)), (na, .inr ((.object "java/lang/String"), "[Ljava/lang/String;", [(.ref s0), (.ref s1), (.ref s2), .null, .null, .null, .null, .null, .null, .null, .null, .null, .null, .null, .null, .null]))] [(s3, b3, 0, [(.int c3)]), (s2, b2, 0, [(.int c2)]), (s1, b1, 0, [(.int c1)]), (s0, b0, 0, [(.int c0)])] 21 210 := B167.front (i := 1) rfl rfl
        refine r_virtual (D' := D12_an3_0) B168 at_184 (pc' := 187) rfl (W63 B168.gw) (W64 B168.gw) (W66 B168.gw) (fun vm0 hZ => notFace_of_selects (args := #[]) (mvT hZ (W66 B168.gw))) (W65 B168.gw) (W32 B168.gw) (W67 B168.gw) (by decide) (fE (i := 0) rfl) (k_an3_0 W a3 na s0 s1 s2 [] _) (argsL := [(.int (0 : Int32))]) (rest := []) rfl pd10 rfl rfl rfl (W := 0) rfl (by decide) (by decide) (cs' := 21) rfl (ss' := 210) rfl (by decide) (by decide) ?_
        intro T169 v170 B171
        replace B171 := Rn.and B171
        obtain ⟨rfl, B171⟩ := B171
        show Fn g D0 M _ (T169.setTop (mkF M.m 187 #[.val (.int p0), .val (.int p1), .val (.int p2), .val (.int p3), .val (.int p4), .val (.int p5), .val (.int (3 : Int32)), .val (.ref s0), .val (.ref s1), .val (.ref s2), .val (.ref s3), .val (.int (0 : Int32)), .val (.ref a3), .unset] [(.ref s2)]))
        refine p_astore B171 at_187 (pc' := 189) rfl rfl (Ls' := #[.val (.int p0), .val (.int p1), .val (.int p2), .val (.int p3), .val (.int p4), .val (.int p5), .val (.int (3 : Int32)), .val (.ref s0), .val (.ref s1), .val (.ref s2), .val (.ref s3), .val (.int (0 : Int32)), .val (.ref a3), .val (.ref s2)]) rfl ?_
        refine p_aload B171 at_189 (pc' := 191) rfl rfl rfl ?_
        refine p_iload B171 at_191 (pc' := 193) rfl rfl ?_
        refine p_iload B171 at_193 (pc' := 195) rfl rfl ?_
        refine p_aload B171 at_195 (pc' := 197) rfl rfl rfl ?_
        refine p_aload B171 at_197 (pc' := 199) rfl rfl rfl ?_
        refine p_aload B171 at_199 (pc' := 201) rfl rfl rfl ?_
        refine r_static (D' := D13) B171 at_201 (pc' := 204) rfl (W68 B171.gw) (W69 B171.gw) (W70 B171.gw) (W71 B171.gw) (by decide) (k_ex W (3 : Int32) (0 : Int32) s0 s1 s2 _ _) (argsL := [(.int (3 : Int32)), (.int (0 : Int32)), (.ref s0), (.ref s1), (.ref s2)]) (rest := [(.ref s2)]) rfl pd11 rfl rfl rfl (W := 1) rfl (by decide) (by decide) (cs' := 21) rfl (ss' := 210) rfl (by decide) (by decide) ?_
        intro T172 v173 B174
        replace B174 := Rn.and B174
        obtain ⟨rfl, B174⟩ := B174
        show Fn g D0 M _ (T172.setTop (mkF M.m 204 #[.val (.int p0), .val (.int p1), .val (.int p2), .val (.int p3), .val (.int p4), .val (.int p5), .val (.int (3 : Int32)), .val (.ref s0), .val (.ref s1), .val (.ref s2), .val (.ref s3), .val (.int (0 : Int32)), .val (.ref a3), .val (.ref s2)] [(expf (3 : Int32) (0 : Int32) s0 s1 s2), (.ref s2)]))
        refine b_anF B174 at_204 (pc' := 207) rfl rfl (expf_ref _ _ _ _ _) (show (Value.ref s2) = (expf (3 : Int32) (0 : Int32) s0 s1 s2) from by simp [expf]) ?_
        refine p_iconst B174 at_207 (pc' := 208) rfl (v := (1 : Int32)) (by decide) ?_
        refine b_goto B174 at_208 (pc' := 212) (by decide) (by decide) ?_
        exact r_reti B174 at_212 rfl (by simp) rfl (by decide) (by decide) (fun vm h P => rfl)
      · refine p_aload B165 at_180 (pc' := 182) rfl rfl rfl ?_
        refine p_iload B165 at_182 (pc' := 184) rfl rfl ?_
        have B175 : RH g D0 M T163 [(na, .inr ((.object "java/lang/String"), "[Ljava/lang/String;", [(.ref s0), (.ref s1), (.ref s2), .null, .null, .null, .null, .null, .null, .null, .null, .null, .null, .null, .null, .null])), o_Pain001Reader_Element a3 (.ref na) (.int (3 : Int32)) (.int (0 : Int32)) (.int (0 : Int32)) (.int (0 : Int32)) (.int (0 : Int32))] [(s3, b3, 0, [(.int c3)]), (s2, b2, 0, [(.int c2)]), (s1, b1, 0, [(.int c1)]), (s0, b0, 0, [(.int c0)])] 21 210 := B165.front (i := 1) rfl rfl
        have B176 : RH g D0 M T163 [o_Pain001Reader_Element a3 (.ref na) (.int (3 : Int32)) (.int (0 : Int32)) (.int (0 : Int32)) (.int (0 : Int32)) (.int (0 : Int32)), (na, .inr ((.object "java/lang/String"), "[Ljava/lang/String;", [(.ref s0), (.ref s1), (.ref s2), .null, .null, .null, .null, .null, .null, .null, .null, .null, .null, .null, .null, .null]))] [(s3, b3, 0, [(.int c3)]), (s2, b2, 0, [(.int c2)]), (s1, b1, 0, [(.int c1)]), (s0, b0, 0, [(.int c0)])] 21 210 := B175.front (i := 1) rfl rfl
        refine r_virtual (D' := D12_an3_1) B176 at_184 (pc' := 187) rfl (W63 B176.gw) (W64 B176.gw) (W66 B176.gw) (fun vm0 hZ => notFace_of_selects (args := #[]) (mvT hZ (W66 B176.gw))) (W65 B176.gw) (W32 B176.gw) (W67 B176.gw) (by decide) (fE (i := 0) rfl) (k_an3_1 W a3 na s0 s1 s2 [] _) (argsL := [(.int (1 : Int32))]) (rest := []) rfl pd10 rfl rfl rfl (W := 0) rfl (by decide) (by decide) (cs' := 21) rfl (ss' := 210) rfl (by decide) (by decide) ?_
        intro T177 v178 B179
        replace B179 := Rn.and B179
        obtain ⟨rfl, B179⟩ := B179
        show Fn g D0 M _ (T177.setTop (mkF M.m 187 #[.val (.int p0), .val (.int p1), .val (.int p2), .val (.int p3), .val (.int p4), .val (.int p5), .val (.int (3 : Int32)), .val (.ref s0), .val (.ref s1), .val (.ref s2), .val (.ref s3), .val (.int (1 : Int32)), .val (.ref a3), .unset] [(.ref s1)]))
        refine p_astore B179 at_187 (pc' := 189) rfl rfl (Ls' := #[.val (.int p0), .val (.int p1), .val (.int p2), .val (.int p3), .val (.int p4), .val (.int p5), .val (.int (3 : Int32)), .val (.ref s0), .val (.ref s1), .val (.ref s2), .val (.ref s3), .val (.int (1 : Int32)), .val (.ref a3), .val (.ref s1)]) rfl ?_
        refine p_aload B179 at_189 (pc' := 191) rfl rfl rfl ?_
        refine p_iload B179 at_191 (pc' := 193) rfl rfl ?_
        refine p_iload B179 at_193 (pc' := 195) rfl rfl ?_
        refine p_aload B179 at_195 (pc' := 197) rfl rfl rfl ?_
        refine p_aload B179 at_197 (pc' := 199) rfl rfl rfl ?_
        refine p_aload B179 at_199 (pc' := 201) rfl rfl rfl ?_
        refine r_static (D' := D13) B179 at_201 (pc' := 204) rfl (W68 B179.gw) (W69 B179.gw) (W70 B179.gw) (W71 B179.gw) (by decide) (k_ex W (3 : Int32) (1 : Int32) s0 s1 s2 _ _) (argsL := [(.int (3 : Int32)), (.int (1 : Int32)), (.ref s0), (.ref s1), (.ref s2)]) (rest := [(.ref s1)]) rfl pd11 rfl rfl rfl (W := 1) rfl (by decide) (by decide) (cs' := 21) rfl (ss' := 210) rfl (by decide) (by decide) ?_
        intro T180 v181 B182
        replace B182 := Rn.and B182
        obtain ⟨rfl, B182⟩ := B182
        show Fn g D0 M _ (T180.setTop (mkF M.m 204 #[.val (.int p0), .val (.int p1), .val (.int p2), .val (.int p3), .val (.int p4), .val (.int p5), .val (.int (3 : Int32)), .val (.ref s0), .val (.ref s1), .val (.ref s2), .val (.ref s3), .val (.int (1 : Int32)), .val (.ref a3), .val (.ref s1)] [(expf (3 : Int32) (1 : Int32) s0 s1 s2), (.ref s1)]))
        refine b_anF B182 at_204 (pc' := 207) rfl rfl (expf_ref _ _ _ _ _) (show (Value.ref s1) = (expf (3 : Int32) (1 : Int32) s0 s1 s2) from by simp [expf]) ?_
        refine p_iconst B182 at_207 (pc' := 208) rfl (v := (1 : Int32)) (by decide) ?_
        refine b_goto B182 at_208 (pc' := 212) (by decide) (by decide) ?_
        exact r_reti B182 at_212 rfl (by simp) rfl (by decide) (by decide) (fun vm h P => rfl)
      · refine p_aload B165 at_180 (pc' := 182) rfl rfl rfl ?_
        refine p_iload B165 at_182 (pc' := 184) rfl rfl ?_
        have B183 : RH g D0 M T163 [(na, .inr ((.object "java/lang/String"), "[Ljava/lang/String;", [(.ref s0), (.ref s1), (.ref s2), .null, .null, .null, .null, .null, .null, .null, .null, .null, .null, .null, .null, .null])), o_Pain001Reader_Element a3 (.ref na) (.int (3 : Int32)) (.int (0 : Int32)) (.int (0 : Int32)) (.int (0 : Int32)) (.int (0 : Int32))] [(s3, b3, 0, [(.int c3)]), (s2, b2, 0, [(.int c2)]), (s1, b1, 0, [(.int c1)]), (s0, b0, 0, [(.int c0)])] 21 210 := B165.front (i := 1) rfl rfl
        have B184 : RH g D0 M T163 [o_Pain001Reader_Element a3 (.ref na) (.int (3 : Int32)) (.int (0 : Int32)) (.int (0 : Int32)) (.int (0 : Int32)) (.int (0 : Int32)), (na, .inr ((.object "java/lang/String"), "[Ljava/lang/String;", [(.ref s0), (.ref s1), (.ref s2), .null, .null, .null, .null, .null, .null, .null, .null, .null, .null, .null, .null, .null]))] [(s3, b3, 0, [(.int c3)]), (s2, b2, 0, [(.int c2)]), (s1, b1, 0, [(.int c1)]), (s0, b0, 0, [(.int c0)])] 21 210 := B183.front (i := 1) rfl rfl
        refine r_virtual (D' := D12_an3_2) B184 at_184 (pc' := 187) rfl (W63 B184.gw) (W64 B184.gw) (W66 B184.gw) (fun vm0 hZ => notFace_of_selects (args := #[]) (mvT hZ (W66 B184.gw))) (W65 B184.gw) (W32 B184.gw) (W67 B184.gw) (by decide) (fE (i := 0) rfl) (k_an3_2 W a3 na s0 s1 s2 [] _) (argsL := [(.int (2 : Int32))]) (rest := []) rfl pd10 rfl rfl rfl (W := 0) rfl (by decide) (by decide) (cs' := 21) rfl (ss' := 210) rfl (by decide) (by decide) ?_
        intro T185 v186 B187
        replace B187 := Rn.and B187
        obtain ⟨rfl, B187⟩ := B187
        show Fn g D0 M _ (T185.setTop (mkF M.m 187 #[.val (.int p0), .val (.int p1), .val (.int p2), .val (.int p3), .val (.int p4), .val (.int p5), .val (.int (3 : Int32)), .val (.ref s0), .val (.ref s1), .val (.ref s2), .val (.ref s3), .val (.int (2 : Int32)), .val (.ref a3), .unset] [(.ref s0)]))
        refine p_astore B187 at_187 (pc' := 189) rfl rfl (Ls' := #[.val (.int p0), .val (.int p1), .val (.int p2), .val (.int p3), .val (.int p4), .val (.int p5), .val (.int (3 : Int32)), .val (.ref s0), .val (.ref s1), .val (.ref s2), .val (.ref s3), .val (.int (2 : Int32)), .val (.ref a3), .val (.ref s0)]) rfl ?_
        refine p_aload B187 at_189 (pc' := 191) rfl rfl rfl ?_
        refine p_iload B187 at_191 (pc' := 193) rfl rfl ?_
        refine p_iload B187 at_193 (pc' := 195) rfl rfl ?_
        refine p_aload B187 at_195 (pc' := 197) rfl rfl rfl ?_
        refine p_aload B187 at_197 (pc' := 199) rfl rfl rfl ?_
        refine p_aload B187 at_199 (pc' := 201) rfl rfl rfl ?_
        refine r_static (D' := D13) B187 at_201 (pc' := 204) rfl (W68 B187.gw) (W69 B187.gw) (W70 B187.gw) (W71 B187.gw) (by decide) (k_ex W (3 : Int32) (2 : Int32) s0 s1 s2 _ _) (argsL := [(.int (3 : Int32)), (.int (2 : Int32)), (.ref s0), (.ref s1), (.ref s2)]) (rest := [(.ref s0)]) rfl pd11 rfl rfl rfl (W := 1) rfl (by decide) (by decide) (cs' := 21) rfl (ss' := 210) rfl (by decide) (by decide) ?_
        intro T188 v189 B190
        replace B190 := Rn.and B190
        obtain ⟨rfl, B190⟩ := B190
        show Fn g D0 M _ (T188.setTop (mkF M.m 204 #[.val (.int p0), .val (.int p1), .val (.int p2), .val (.int p3), .val (.int p4), .val (.int p5), .val (.int (3 : Int32)), .val (.ref s0), .val (.ref s1), .val (.ref s2), .val (.ref s3), .val (.int (2 : Int32)), .val (.ref a3), .val (.ref s0)] [(expf (3 : Int32) (2 : Int32) s0 s1 s2), (.ref s0)]))
        refine b_anF B190 at_204 (pc' := 207) rfl rfl (expf_ref _ _ _ _ _) (show (Value.ref s0) = (expf (3 : Int32) (2 : Int32) s0 s1 s2) from by simp [expf]) ?_
        refine p_iconst B190 at_207 (pc' := 208) rfl (v := (1 : Int32)) (by decide) ?_
        refine b_goto B190 at_208 (pc' := 212) (by decide) (by decide) ?_
        exact r_reti B190 at_212 rfl (by simp) rfl (by decide) (by decide) (fun vm h P => rfl)
      · refine p_aload B165 at_180 (pc' := 182) rfl rfl rfl ?_
        refine p_iload B165 at_182 (pc' := 184) rfl rfl ?_
        have B191 : RH g D0 M T163 [(na, .inr ((.object "java/lang/String"), "[Ljava/lang/String;", [(.ref s0), (.ref s1), (.ref s2), .null, .null, .null, .null, .null, .null, .null, .null, .null, .null, .null, .null, .null])), o_Pain001Reader_Element a3 (.ref na) (.int (3 : Int32)) (.int (0 : Int32)) (.int (0 : Int32)) (.int (0 : Int32)) (.int (0 : Int32))] [(s3, b3, 0, [(.int c3)]), (s2, b2, 0, [(.int c2)]), (s1, b1, 0, [(.int c1)]), (s0, b0, 0, [(.int c0)])] 21 210 := B165.front (i := 1) rfl rfl
        have B192 : RH g D0 M T163 [o_Pain001Reader_Element a3 (.ref na) (.int (3 : Int32)) (.int (0 : Int32)) (.int (0 : Int32)) (.int (0 : Int32)) (.int (0 : Int32)), (na, .inr ((.object "java/lang/String"), "[Ljava/lang/String;", [(.ref s0), (.ref s1), (.ref s2), .null, .null, .null, .null, .null, .null, .null, .null, .null, .null, .null, .null, .null]))] [(s3, b3, 0, [(.int c3)]), (s2, b2, 0, [(.int c2)]), (s1, b1, 0, [(.int c1)]), (s0, b0, 0, [(.int c0)])] 21 210 := B191.front (i := 1) rfl rfl
        refine r_virtual (D' := D12_an3_x) B192 at_184 (pc' := 187) rfl (W63 B192.gw) (W64 B192.gw) (W66 B192.gw) (fun vm0 hZ => notFace_of_selects (args := #[]) (mvT hZ (W66 B192.gw))) (W65 B192.gw) (W32 B192.gw) (W67 B192.gw) (by decide) (fE (i := 0) rfl) (k_an3_x W a3 na s0 s1 s2 q hge [] _) (argsL := [(.int q)]) (rest := []) rfl pd10 rfl rfl rfl (W := 0) rfl (by decide) (by decide) (cs' := 21) rfl (ss' := 210) rfl (by decide) (by decide) ?_
        intro T193 v194 B195
        replace B195 := Rn.and B195
        obtain ⟨rfl, B195⟩ := B195
        show Fn g D0 M _ (T193.setTop (mkF M.m 187 #[.val (.int p0), .val (.int p1), .val (.int p2), .val (.int p3), .val (.int p4), .val (.int p5), .val (.int (3 : Int32)), .val (.ref s0), .val (.ref s1), .val (.ref s2), .val (.ref s3), .val (.int q), .val (.ref a3), .unset] [.null]))
        refine p_astore B195 at_187 (pc' := 189) rfl rfl (Ls' := #[.val (.int p0), .val (.int p1), .val (.int p2), .val (.int p3), .val (.int p4), .val (.int p5), .val (.int (3 : Int32)), .val (.ref s0), .val (.ref s1), .val (.ref s2), .val (.ref s3), .val (.int q), .val (.ref a3), .val .null]) rfl ?_
        refine p_aload B195 at_189 (pc' := 191) rfl rfl rfl ?_
        refine p_iload B195 at_191 (pc' := 193) rfl rfl ?_
        refine p_iload B195 at_193 (pc' := 195) rfl rfl ?_
        refine p_aload B195 at_195 (pc' := 197) rfl rfl rfl ?_
        refine p_aload B195 at_197 (pc' := 199) rfl rfl rfl ?_
        refine p_aload B195 at_199 (pc' := 201) rfl rfl rfl ?_
        refine r_static (D' := D13) B195 at_201 (pc' := 204) rfl (W68 B195.gw) (W69 B195.gw) (W70 B195.gw) (W71 B195.gw) (by decide) (k_ex W (3 : Int32) q s0 s1 s2 _ _) (argsL := [(.int (3 : Int32)), (.int q), (.ref s0), (.ref s1), (.ref s2)]) (rest := [.null]) rfl pd11 rfl rfl rfl (W := 1) rfl (by decide) (by decide) (cs' := 21) rfl (ss' := 210) rfl (by decide) (by decide) ?_
        intro T196 v197 B198
        replace B198 := Rn.and B198
        obtain ⟨rfl, B198⟩ := B198
        show Fn g D0 M _ (T196.setTop (mkF M.m 204 #[.val (.int p0), .val (.int p1), .val (.int p2), .val (.int p3), .val (.int p4), .val (.int p5), .val (.int (3 : Int32)), .val (.ref s0), .val (.ref s1), .val (.ref s2), .val (.ref s3), .val (.int q), .val (.ref a3), .val .null] [(expf (3 : Int32) q s0 s1 s2), .null]))
        refine b_anF B198 at_204 (pc' := 207) rfl rfl (expf_ref _ _ _ _ _) (show Value.null = (expf (3 : Int32) q s0 s1 s2) from (by simp [expf, beyond hge (show (0 : Int32) < (3 : Int32) from by decide), beyond hge (show (1 : Int32) < (3 : Int32) from by decide), beyond hge (show (2 : Int32) < (3 : Int32) from by decide)])) ?_
        refine p_iconst B198 at_207 (pc' := 208) rfl (v := (1 : Int32)) (by decide) ?_
        refine b_goto B198 at_208 (pc' := 212) (by decide) (by decide) ?_
        exact r_reti B198 at_212 rfl (by simp) rfl (by decide) (by decide) (fun vm h P => rfl)
    · refine b_ifF B165 at_165 (pc' := 168) rfl h166 ?_
      refine p_aload B165 at_168 (pc' := 170) rfl rfl rfl ?_
      refine p_aload B165 at_170 (pc' := 172) rfl rfl rfl ?_
      have B199 : RH g D0 M T163 [(na, .inr ((.object "java/lang/String"), "[Ljava/lang/String;", [(.ref s0), (.ref s1), (.ref s2), .null, .null, .null, .null, .null, .null, .null, .null, .null, .null, .null, .null, .null])), o_Pain001Reader_Element a3 (.ref na) (.int (3 : Int32)) (.int (0 : Int32)) (.int (0 : Int32)) (.int (0 : Int32)) (.int (0 : Int32))] [(s3, b3, 0, [(.int c3)]), (s2, b2, 0, [(.int c2)]), (s1, b1, 0, [(.int c1)]), (s0, b0, 0, [(.int c0)])] 21 210 := B165.front (i := 1) rfl rfl
      have B200 : RH g D0 M T163 [o_Pain001Reader_Element a3 (.ref na) (.int (3 : Int32)) (.int (0 : Int32)) (.int (0 : Int32)) (.int (0 : Int32)) (.int (0 : Int32)), (na, .inr ((.object "java/lang/String"), "[Ljava/lang/String;", [(.ref s0), (.ref s1), (.ref s2), .null, .null, .null, .null, .null, .null, .null, .null, .null, .null, .null, .null, .null]))] [(s3, b3, 0, [(.int c3)]), (s2, b2, 0, [(.int c2)]), (s1, b1, 0, [(.int c1)]), (s0, b0, 0, [(.int c0)])] 21 210 := B199.front (i := 1) rfl rfl
      refine r_virtual (D' := D8_push3) B200 at_172 (pc' := 175) rfl (W41 B200.gw) (W42 B200.gw) (W44 B200.gw) (fun vm0 hZ => notFace_of_selects (args := #[]) (mvT hZ (W44 B200.gw))) (W43 B200.gw) (W32 B200.gw) (W45 B200.gw) (by decide) (fE (i := 0) rfl) (k_push3 W a3 na s0 s1 s2 s3 [] (xx0 := ([c0] : List Int32)) (List.mem_of_getElem? (i := 3) rfl) (by simp) (xx1 := ([c1] : List Int32)) (List.mem_of_getElem? (i := 2) rfl) (by simp) (xx2 := ([c2] : List Int32)) (List.mem_of_getElem? (i := 1) rfl) (by simp) (xx3 := ([c3] : List Int32)) (List.mem_of_getElem? (i := 0) rfl) (by simp) rfl rfl rfl rfl) (argsL := [(.ref s3)]) (rest := []) rfl pd12 rfl rfl rfl (W := 0) rfl (by decide) (by decide) (cs' := 21) rfl (ss' := 210) rfl (by decide) (by decide) ?_
      intro T201 v202 B203
      replace B203 := Rn.and B203
      obtain ⟨rfl, B203⟩ := B203
      show Fn g D0 M _ (T201.setTop (mkF M.m 175 #[.val (.int p0), .val (.int p1), .val (.int p2), .val (.int p3), .val (.int p4), .val (.int p5), .val (.int (3 : Int32)), .val (.ref s0), .val (.ref s1), .val (.ref s2), .val (.ref s3), .val (.int q), .val (.ref a3), .unset] []))
      refine p_aload B203 at_175 (pc' := 177) rfl rfl rfl ?_
      have B204 : RH g D0 M T201 [(na, .inr ((.object "java/lang/String"), "[Ljava/lang/String;", [(.ref s0), (.ref s1), (.ref s2), (.ref s3), .null, .null, .null, .null, .null, .null, .null, .null, .null, .null, .null, .null])), o_Pain001Reader_Element a3 (.ref na) (.int (4 : Int32)) (.int (0 : Int32)) (.int (0 : Int32)) (.int (0 : Int32)) (.int (0 : Int32))] [(s3, b3, 0, [(.int c3)]), (s2, b2, 0, [(.int c2)]), (s1, b1, 0, [(.int c1)]), (s0, b0, 0, [(.int c0)])] 21 210 := B203.front (i := 1) rfl rfl
      have B205 : RH g D0 M T201 [o_Pain001Reader_Element a3 (.ref na) (.int (4 : Int32)) (.int (0 : Int32)) (.int (0 : Int32)) (.int (0 : Int32)) (.int (0 : Int32)), (na, .inr ((.object "java/lang/String"), "[Ljava/lang/String;", [(.ref s0), (.ref s1), (.ref s2), (.ref s3), .null, .null, .null, .null, .null, .null, .null, .null, .null, .null, .null, .null]))] [(s3, b3, 0, [(.int c3)]), (s2, b2, 0, [(.int c2)]), (s1, b1, 0, [(.int c1)]), (s0, b0, 0, [(.int c0)])] 21 210 := B204.front (i := 1) rfl rfl
      refine r_virtual (D' := D11_pop4) B205 at_177 (pc' := 180) rfl (W58 B205.gw) (W59 B205.gw) (W61 B205.gw) (fun vm0 hZ => notFace_of_selects (args := #[]) (mvT hZ (W61 B205.gw))) (W60 B205.gw) (W32 B205.gw) (W62 B205.gw) (by decide) (fE (i := 0) rfl) (k_pop4 W a3 na s0 s1 s2 s3 [] (xx0 := ([c0] : List Int32)) (List.mem_of_getElem? (i := 3) rfl) (by simp) (xx1 := ([c1] : List Int32)) (List.mem_of_getElem? (i := 2) rfl) (by simp) (xx2 := ([c2] : List Int32)) (List.mem_of_getElem? (i := 1) rfl) (by simp) (xx3 := ([c3] : List Int32)) (List.mem_of_getElem? (i := 0) rfl) (by simp) rfl rfl rfl rfl) (argsL := []) (rest := []) rfl pd9 rfl rfl rfl (W := 0) rfl (by decide) (by decide) (cs' := 21) rfl (ss' := 210) rfl (by decide) (by decide) ?_
      intro T206 v207 B208
      replace B208 := Rn.and B208
      obtain ⟨rfl, B208⟩ := B208
      show Fn g D0 M _ (T206.setTop (mkF M.m 180 #[.val (.int p0), .val (.int p1), .val (.int p2), .val (.int p3), .val (.int p4), .val (.int p5), .val (.int (3 : Int32)), .val (.ref s0), .val (.ref s1), .val (.ref s2), .val (.ref s3), .val (.int q), .val (.ref a3), .unset] []))
      rcases qc3 q hq with rfl | rfl | rfl | hge
      · refine p_aload B208 at_180 (pc' := 182) rfl rfl rfl ?_
        refine p_iload B208 at_182 (pc' := 184) rfl rfl ?_
        have B209 : RH g D0 M T206 [(na, .inr ((.object "java/lang/String"), "[Ljava/lang/String;", [(.ref s0), (.ref s1), (.ref s2), .null, .null, .null, .null, .null, .null, .null, .null, .null, .null, .null, .null, .null])), o_Pain001Reader_Element a3 (.ref na) (.int (3 : Int32)) (.int (0 : Int32)) (.int (0 : Int32)) (.int (0 : Int32)) (.int (0 : Int32))] [(s3, b3, 0, [(.int c3)]), (s2, b2, 0, [(.int c2)]), (s1, b1, 0, [(.int c1)]), (s0, b0, 0, [(.int c0)])] 21 210 := B208.front (i := 1) rfl rfl
        have B210 : RH g D0 M T206 [o_Pain001Reader_Element a3 (.ref na) (.int (3 : Int32)) (.int (0 : Int32)) (.int (0 : Int32)) (.int (0 : Int32)) (.int (0 : Int32)), (na, .inr ((.object "java/lang/String"), "[Ljava/lang/String;", [(.ref s0), (.ref s1), (.ref s2), .null, .null, .null, .null, .null, .null, .null, .null, .null, .null, .null, .null, .null]))] [(s3, b3, 0, [(.int c3)]), (s2, b2, 0, [(.int c2)]), (s1, b1, 0, [(.int c1)]), (s0, b0, 0, [(.int c0)])] 21 210 := B209.front (i := 1) rfl rfl
        refine r_virtual (D' := D12_an3_0) B210 at_184 (pc' := 187) rfl (W63 B210.gw) (W64 B210.gw) (W66 B210.gw) (fun vm0 hZ => notFace_of_selects (args := #[]) (mvT hZ (W66 B210.gw))) (W65 B210.gw) (W32 B210.gw) (W67 B210.gw) (by decide) (fE (i := 0) rfl) (k_an3_0 W a3 na s0 s1 s2 [] _) (argsL := [(.int (0 : Int32))]) (rest := []) rfl pd10 rfl rfl rfl (W := 0) rfl (by decide) (by decide) (cs' := 21) rfl (ss' := 210) rfl (by decide) (by decide) ?_
        intro T211 v212 B213
        replace B213 := Rn.and B213
        obtain ⟨rfl, B213⟩ := B213
        show Fn g D0 M _ (T211.setTop (mkF M.m 187 #[.val (.int p0), .val (.int p1), .val (.int p2), .val (.int p3), .val (.int p4), .val (.int p5), .val (.int (3 : Int32)), .val (.ref s0), .val (.ref s1), .val (.ref s2), .val (.ref s3), .val (.int (0 : Int32)), .val (.ref a3), .unset] [(.ref s2)]))
        refine p_astore B213 at_187 (pc' := 189) rfl rfl (Ls' := #[.val (.int p0), .val (.int p1), .val (.int p2), .val (.int p3), .val (.int p4), .val (.int p5), .val (.int (3 : Int32)), .val (.ref s0), .val (.ref s1), .val (.ref s2), .val (.ref s3), .val (.int (0 : Int32)), .val (.ref a3), .val (.ref s2)]) rfl ?_
        refine p_aload B213 at_189 (pc' := 191) rfl rfl rfl ?_
        refine p_iload B213 at_191 (pc' := 193) rfl rfl ?_
        refine p_iload B213 at_193 (pc' := 195) rfl rfl ?_
        refine p_aload B213 at_195 (pc' := 197) rfl rfl rfl ?_
        refine p_aload B213 at_197 (pc' := 199) rfl rfl rfl ?_
        refine p_aload B213 at_199 (pc' := 201) rfl rfl rfl ?_
        refine r_static (D' := D13) B213 at_201 (pc' := 204) rfl (W68 B213.gw) (W69 B213.gw) (W70 B213.gw) (W71 B213.gw) (by decide) (k_ex W (3 : Int32) (0 : Int32) s0 s1 s2 _ _) (argsL := [(.int (3 : Int32)), (.int (0 : Int32)), (.ref s0), (.ref s1), (.ref s2)]) (rest := [(.ref s2)]) rfl pd11 rfl rfl rfl (W := 1) rfl (by decide) (by decide) (cs' := 21) rfl (ss' := 210) rfl (by decide) (by decide) ?_
        intro T214 v215 B216
        replace B216 := Rn.and B216
        obtain ⟨rfl, B216⟩ := B216
        show Fn g D0 M _ (T214.setTop (mkF M.m 204 #[.val (.int p0), .val (.int p1), .val (.int p2), .val (.int p3), .val (.int p4), .val (.int p5), .val (.int (3 : Int32)), .val (.ref s0), .val (.ref s1), .val (.ref s2), .val (.ref s3), .val (.int (0 : Int32)), .val (.ref a3), .val (.ref s2)] [(expf (3 : Int32) (0 : Int32) s0 s1 s2), (.ref s2)]))
        refine b_anF B216 at_204 (pc' := 207) rfl rfl (expf_ref _ _ _ _ _) (show (Value.ref s2) = (expf (3 : Int32) (0 : Int32) s0 s1 s2) from by simp [expf]) ?_
        refine p_iconst B216 at_207 (pc' := 208) rfl (v := (1 : Int32)) (by decide) ?_
        refine b_goto B216 at_208 (pc' := 212) (by decide) (by decide) ?_
        exact r_reti B216 at_212 rfl (by simp) rfl (by decide) (by decide) (fun vm h P => rfl)
      · refine p_aload B208 at_180 (pc' := 182) rfl rfl rfl ?_
        refine p_iload B208 at_182 (pc' := 184) rfl rfl ?_
        have B217 : RH g D0 M T206 [(na, .inr ((.object "java/lang/String"), "[Ljava/lang/String;", [(.ref s0), (.ref s1), (.ref s2), .null, .null, .null, .null, .null, .null, .null, .null, .null, .null, .null, .null, .null])), o_Pain001Reader_Element a3 (.ref na) (.int (3 : Int32)) (.int (0 : Int32)) (.int (0 : Int32)) (.int (0 : Int32)) (.int (0 : Int32))] [(s3, b3, 0, [(.int c3)]), (s2, b2, 0, [(.int c2)]), (s1, b1, 0, [(.int c1)]), (s0, b0, 0, [(.int c0)])] 21 210 := B208.front (i := 1) rfl rfl
        have B218 : RH g D0 M T206 [o_Pain001Reader_Element a3 (.ref na) (.int (3 : Int32)) (.int (0 : Int32)) (.int (0 : Int32)) (.int (0 : Int32)) (.int (0 : Int32)), (na, .inr ((.object "java/lang/String"), "[Ljava/lang/String;", [(.ref s0), (.ref s1), (.ref s2), .null, .null, .null, .null, .null, .null, .null, .null, .null, .null, .null, .null, .null]))] [(s3, b3, 0, [(.int c3)]), (s2, b2, 0, [(.int c2)]), (s1, b1, 0, [(.int c1)]), (s0, b0, 0, [(.int c0)])] 21 210 := B217.front (i := 1) rfl rfl
        refine r_virtual (D' := D12_an3_1) B218 at_184 (pc' := 187) rfl (W63 B218.gw) (W64 B218.gw) (W66 B218.gw) (fun vm0 hZ => notFace_of_selects (args := #[]) (mvT hZ (W66 B218.gw))) (W65 B218.gw) (W32 B218.gw) (W67 B218.gw) (by decide) (fE (i := 0) rfl) (k_an3_1 W a3 na s0 s1 s2 [] _) (argsL := [(.int (1 : Int32))]) (rest := []) rfl pd10 rfl rfl rfl (W := 0) rfl (by decide) (by decide) (cs' := 21) rfl (ss' := 210) rfl (by decide) (by decide) ?_
        intro T219 v220 B221
        replace B221 := Rn.and B221
        obtain ⟨rfl, B221⟩ := B221
        show Fn g D0 M _ (T219.setTop (mkF M.m 187 #[.val (.int p0), .val (.int p1), .val (.int p2), .val (.int p3), .val (.int p4), .val (.int p5), .val (.int (3 : Int32)), .val (.ref s0), .val (.ref s1), .val (.ref s2), .val (.ref s3), .val (.int (1 : Int32)), .val (.ref a3), .unset] [(.ref s1)]))
        refine p_astore B221 at_187 (pc' := 189) rfl rfl (Ls' := #[.val (.int p0), .val (.int p1), .val (.int p2), .val (.int p3), .val (.int p4), .val (.int p5), .val (.int (3 : Int32)), .val (.ref s0), .val (.ref s1), .val (.ref s2), .val (.ref s3), .val (.int (1 : Int32)), .val (.ref a3), .val (.ref s1)]) rfl ?_
        refine p_aload B221 at_189 (pc' := 191) rfl rfl rfl ?_
        refine p_iload B221 at_191 (pc' := 193) rfl rfl ?_
        refine p_iload B221 at_193 (pc' := 195) rfl rfl ?_
        refine p_aload B221 at_195 (pc' := 197) rfl rfl rfl ?_
        refine p_aload B221 at_197 (pc' := 199) rfl rfl rfl ?_
        refine p_aload B221 at_199 (pc' := 201) rfl rfl rfl ?_
        refine r_static (D' := D13) B221 at_201 (pc' := 204) rfl (W68 B221.gw) (W69 B221.gw) (W70 B221.gw) (W71 B221.gw) (by decide) (k_ex W (3 : Int32) (1 : Int32) s0 s1 s2 _ _) (argsL := [(.int (3 : Int32)), (.int (1 : Int32)), (.ref s0), (.ref s1), (.ref s2)]) (rest := [(.ref s1)]) rfl pd11 rfl rfl rfl (W := 1) rfl (by decide) (by decide) (cs' := 21) rfl (ss' := 210) rfl (by decide) (by decide) ?_
        intro T222 v223 B224
        replace B224 := Rn.and B224
        obtain ⟨rfl, B224⟩ := B224
        show Fn g D0 M _ (T222.setTop (mkF M.m 204 #[.val (.int p0), .val (.int p1), .val (.int p2), .val (.int p3), .val (.int p4), .val (.int p5), .val (.int (3 : Int32)), .val (.ref s0), .val (.ref s1), .val (.ref s2), .val (.ref s3), .val (.int (1 : Int32)), .val (.ref a3), .val (.ref s1)] [(expf (3 : Int32) (1 : Int32) s0 s1 s2), (.ref s1)]))
        refine b_anF B224 at_204 (pc' := 207) rfl rfl (expf_ref _ _ _ _ _) (show (Value.ref s1) = (expf (3 : Int32) (1 : Int32) s0 s1 s2) from by simp [expf]) ?_
        refine p_iconst B224 at_207 (pc' := 208) rfl (v := (1 : Int32)) (by decide) ?_
        refine b_goto B224 at_208 (pc' := 212) (by decide) (by decide) ?_
        exact r_reti B224 at_212 rfl (by simp) rfl (by decide) (by decide) (fun vm h P => rfl)
      · refine p_aload B208 at_180 (pc' := 182) rfl rfl rfl ?_
        refine p_iload B208 at_182 (pc' := 184) rfl rfl ?_
        have B225 : RH g D0 M T206 [(na, .inr ((.object "java/lang/String"), "[Ljava/lang/String;", [(.ref s0), (.ref s1), (.ref s2), .null, .null, .null, .null, .null, .null, .null, .null, .null, .null, .null, .null, .null])), o_Pain001Reader_Element a3 (.ref na) (.int (3 : Int32)) (.int (0 : Int32)) (.int (0 : Int32)) (.int (0 : Int32)) (.int (0 : Int32))] [(s3, b3, 0, [(.int c3)]), (s2, b2, 0, [(.int c2)]), (s1, b1, 0, [(.int c1)]), (s0, b0, 0, [(.int c0)])] 21 210 := B208.front (i := 1) rfl rfl
        have B226 : RH g D0 M T206 [o_Pain001Reader_Element a3 (.ref na) (.int (3 : Int32)) (.int (0 : Int32)) (.int (0 : Int32)) (.int (0 : Int32)) (.int (0 : Int32)), (na, .inr ((.object "java/lang/String"), "[Ljava/lang/String;", [(.ref s0), (.ref s1), (.ref s2), .null, .null, .null, .null, .null, .null, .null, .null, .null, .null, .null, .null, .null]))] [(s3, b3, 0, [(.int c3)]), (s2, b2, 0, [(.int c2)]), (s1, b1, 0, [(.int c1)]), (s0, b0, 0, [(.int c0)])] 21 210 := B225.front (i := 1) rfl rfl
        refine r_virtual (D' := D12_an3_2) B226 at_184 (pc' := 187) rfl (W63 B226.gw) (W64 B226.gw) (W66 B226.gw) (fun vm0 hZ => notFace_of_selects (args := #[]) (mvT hZ (W66 B226.gw))) (W65 B226.gw) (W32 B226.gw) (W67 B226.gw) (by decide) (fE (i := 0) rfl) (k_an3_2 W a3 na s0 s1 s2 [] _) (argsL := [(.int (2 : Int32))]) (rest := []) rfl pd10 rfl rfl rfl (W := 0) rfl (by decide) (by decide) (cs' := 21) rfl (ss' := 210) rfl (by decide) (by decide) ?_
        intro T227 v228 B229
        replace B229 := Rn.and B229
        obtain ⟨rfl, B229⟩ := B229
        show Fn g D0 M _ (T227.setTop (mkF M.m 187 #[.val (.int p0), .val (.int p1), .val (.int p2), .val (.int p3), .val (.int p4), .val (.int p5), .val (.int (3 : Int32)), .val (.ref s0), .val (.ref s1), .val (.ref s2), .val (.ref s3), .val (.int (2 : Int32)), .val (.ref a3), .unset] [(.ref s0)]))
        refine p_astore B229 at_187 (pc' := 189) rfl rfl (Ls' := #[.val (.int p0), .val (.int p1), .val (.int p2), .val (.int p3), .val (.int p4), .val (.int p5), .val (.int (3 : Int32)), .val (.ref s0), .val (.ref s1), .val (.ref s2), .val (.ref s3), .val (.int (2 : Int32)), .val (.ref a3), .val (.ref s0)]) rfl ?_
        refine p_aload B229 at_189 (pc' := 191) rfl rfl rfl ?_
        refine p_iload B229 at_191 (pc' := 193) rfl rfl ?_
        refine p_iload B229 at_193 (pc' := 195) rfl rfl ?_
        refine p_aload B229 at_195 (pc' := 197) rfl rfl rfl ?_
        refine p_aload B229 at_197 (pc' := 199) rfl rfl rfl ?_
        refine p_aload B229 at_199 (pc' := 201) rfl rfl rfl ?_
        refine r_static (D' := D13) B229 at_201 (pc' := 204) rfl (W68 B229.gw) (W69 B229.gw) (W70 B229.gw) (W71 B229.gw) (by decide) (k_ex W (3 : Int32) (2 : Int32) s0 s1 s2 _ _) (argsL := [(.int (3 : Int32)), (.int (2 : Int32)), (.ref s0), (.ref s1), (.ref s2)]) (rest := [(.ref s0)]) rfl pd11 rfl rfl rfl (W := 1) rfl (by decide) (by decide) (cs' := 21) rfl (ss' := 210) rfl (by decide) (by decide) ?_
        intro T230 v231 B232
        replace B232 := Rn.and B232
        obtain ⟨rfl, B232⟩ := B232
        show Fn g D0 M _ (T230.setTop (mkF M.m 204 #[.val (.int p0), .val (.int p1), .val (.int p2), .val (.int p3), .val (.int p4), .val (.int p5), .val (.int (3 : Int32)), .val (.ref s0), .val (.ref s1), .val (.ref s2), .val (.ref s3), .val (.int (2 : Int32)), .val (.ref a3), .val (.ref s0)] [(expf (3 : Int32) (2 : Int32) s0 s1 s2), (.ref s0)]))
        refine b_anF B232 at_204 (pc' := 207) rfl rfl (expf_ref _ _ _ _ _) (show (Value.ref s0) = (expf (3 : Int32) (2 : Int32) s0 s1 s2) from by simp [expf]) ?_
        refine p_iconst B232 at_207 (pc' := 208) rfl (v := (1 : Int32)) (by decide) ?_
        refine b_goto B232 at_208 (pc' := 212) (by decide) (by decide) ?_
        exact r_reti B232 at_212 rfl (by simp) rfl (by decide) (by decide) (fun vm h P => rfl)
      · refine p_aload B208 at_180 (pc' := 182) rfl rfl rfl ?_
        refine p_iload B208 at_182 (pc' := 184) rfl rfl ?_
        have B233 : RH g D0 M T206 [(na, .inr ((.object "java/lang/String"), "[Ljava/lang/String;", [(.ref s0), (.ref s1), (.ref s2), .null, .null, .null, .null, .null, .null, .null, .null, .null, .null, .null, .null, .null])), o_Pain001Reader_Element a3 (.ref na) (.int (3 : Int32)) (.int (0 : Int32)) (.int (0 : Int32)) (.int (0 : Int32)) (.int (0 : Int32))] [(s3, b3, 0, [(.int c3)]), (s2, b2, 0, [(.int c2)]), (s1, b1, 0, [(.int c1)]), (s0, b0, 0, [(.int c0)])] 21 210 := B208.front (i := 1) rfl rfl
        have B234 : RH g D0 M T206 [o_Pain001Reader_Element a3 (.ref na) (.int (3 : Int32)) (.int (0 : Int32)) (.int (0 : Int32)) (.int (0 : Int32)) (.int (0 : Int32)), (na, .inr ((.object "java/lang/String"), "[Ljava/lang/String;", [(.ref s0), (.ref s1), (.ref s2), .null, .null, .null, .null, .null, .null, .null, .null, .null, .null, .null, .null, .null]))] [(s3, b3, 0, [(.int c3)]), (s2, b2, 0, [(.int c2)]), (s1, b1, 0, [(.int c1)]), (s0, b0, 0, [(.int c0)])] 21 210 := B233.front (i := 1) rfl rfl
        refine r_virtual (D' := D12_an3_x) B234 at_184 (pc' := 187) rfl (W63 B234.gw) (W64 B234.gw) (W66 B234.gw) (fun vm0 hZ => notFace_of_selects (args := #[]) (mvT hZ (W66 B234.gw))) (W65 B234.gw) (W32 B234.gw) (W67 B234.gw) (by decide) (fE (i := 0) rfl) (k_an3_x W a3 na s0 s1 s2 q hge [] _) (argsL := [(.int q)]) (rest := []) rfl pd10 rfl rfl rfl (W := 0) rfl (by decide) (by decide) (cs' := 21) rfl (ss' := 210) rfl (by decide) (by decide) ?_
        intro T235 v236 B237
        replace B237 := Rn.and B237
        obtain ⟨rfl, B237⟩ := B237
        show Fn g D0 M _ (T235.setTop (mkF M.m 187 #[.val (.int p0), .val (.int p1), .val (.int p2), .val (.int p3), .val (.int p4), .val (.int p5), .val (.int (3 : Int32)), .val (.ref s0), .val (.ref s1), .val (.ref s2), .val (.ref s3), .val (.int q), .val (.ref a3), .unset] [.null]))
        refine p_astore B237 at_187 (pc' := 189) rfl rfl (Ls' := #[.val (.int p0), .val (.int p1), .val (.int p2), .val (.int p3), .val (.int p4), .val (.int p5), .val (.int (3 : Int32)), .val (.ref s0), .val (.ref s1), .val (.ref s2), .val (.ref s3), .val (.int q), .val (.ref a3), .val .null]) rfl ?_
        refine p_aload B237 at_189 (pc' := 191) rfl rfl rfl ?_
        refine p_iload B237 at_191 (pc' := 193) rfl rfl ?_
        refine p_iload B237 at_193 (pc' := 195) rfl rfl ?_
        refine p_aload B237 at_195 (pc' := 197) rfl rfl rfl ?_
        refine p_aload B237 at_197 (pc' := 199) rfl rfl rfl ?_
        refine p_aload B237 at_199 (pc' := 201) rfl rfl rfl ?_
        refine r_static (D' := D13) B237 at_201 (pc' := 204) rfl (W68 B237.gw) (W69 B237.gw) (W70 B237.gw) (W71 B237.gw) (by decide) (k_ex W (3 : Int32) q s0 s1 s2 _ _) (argsL := [(.int (3 : Int32)), (.int q), (.ref s0), (.ref s1), (.ref s2)]) (rest := [.null]) rfl pd11 rfl rfl rfl (W := 1) rfl (by decide) (by decide) (cs' := 21) rfl (ss' := 210) rfl (by decide) (by decide) ?_
        intro T238 v239 B240
        replace B240 := Rn.and B240
        obtain ⟨rfl, B240⟩ := B240
        show Fn g D0 M _ (T238.setTop (mkF M.m 204 #[.val (.int p0), .val (.int p1), .val (.int p2), .val (.int p3), .val (.int p4), .val (.int p5), .val (.int (3 : Int32)), .val (.ref s0), .val (.ref s1), .val (.ref s2), .val (.ref s3), .val (.int q), .val (.ref a3), .val .null] [(expf (3 : Int32) q s0 s1 s2), .null]))
        refine b_anF B240 at_204 (pc' := 207) rfl rfl (expf_ref _ _ _ _ _) (show Value.null = (expf (3 : Int32) q s0 s1 s2) from (by simp [expf, beyond hge (show (0 : Int32) < (3 : Int32) from by decide), beyond hge (show (1 : Int32) < (3 : Int32) from by decide), beyond hge (show (2 : Int32) < (3 : Int32) from by decide)])) ?_
        refine p_iconst B240 at_207 (pc' := 208) rfl (v := (1 : Int32)) (by decide) ?_
        refine b_goto B240 at_208 (pc' := 212) (by decide) (by decide) ?_
        exact r_reti B240 at_212 rfl (by simp) rfl (by decide) (by decide) (fun vm h P => rfl)
theorem k_law {g : GG} (W : GW g) (p0 p1 p2 p3 p4 p5 : Int32) : CtW g D0 tables_1 #[.int p0, .int p1, .int p2, .int p3, .int p4, .int p5] [] [] (fun v _ _ => v = some (.int 1)) := by
  refine CtW.body W (by decide +kernel) (ef_law p0 p1 p2 p3 p4 p5) ?_
  intro M T B
  refine p_iloadN B at_0 (pc' := 1) rfl rfl ?_
  refine p_iconst B at_1 (pc' := 2) rfl (v := (3 : Int32)) (by decide) ?_
  refine p_iand B at_2 (pc' := 3) rfl rfl ?_
  refine p_istore B at_3 (pc' := 5) rfl (Ls' := #[.val (.int p0), .val (.int p1), .val (.int p2), .val (.int p3), .val (.int p4), .val (.int p5), .val (.int (p0 &&& (3 : Int32))), .unset, .unset, .unset, .unset, .unset, .unset, .unset]) rfl ?_
  refine r_new B at_5 (pc' := 8) rfl (W0 B.gw) (W1 B.gw) (W2 B.gw) (Ly_o_String B.gw) (by decide) (cs' := 1) rfl (ss' := 4) rfl (by decide) (by decide) ?_
  intro T1 a3 B2
  refine p_dup B2 at_8 (pc' := 9) rfl rfl ?_
  refine p_iconst B2 at_9 (pc' := 10) rfl (v := (1 : Int32)) (by decide) ?_
  refine r_newp B2 at_10 (pc' := 12) rfl (ty := .char) (W3 B2.gw) rfl (by decide) (nn := 1) (by decide) (cap := 1) (by decide) (by decide) (cs' := 2) rfl (ss' := 5) rfl (by decide) (by decide) (ad := "[C") (by decide) (by decide) nofun (vs := [(.int (0 : Int32))]) rfl ?_
  intro T4 a6 B5
  refine p_dup B5 at_12 (pc' := 13) rfl rfl ?_
  refine p_iconst B5 at_13 (pc' := 14) rfl (v := (0 : Int32)) (by decide) ?_
  refine p_iloadN B5 at_14 (pc' := 15) rfl rfl ?_
  refine p_sipush B5 at_15 (pc' := 18) rfl (v := (255 : Int32)) (by decide) ?_
  refine p_iand B5 at_18 (pc' := 19) rfl rfl ?_
  refine p_i2c B5 at_19 (pc' := 20) rfl ?_
  refine r_castore B5 at_20 (pc' := 21) rfl (i := 0) rfl (by decide) (k := 0) (by decide) (by simp) (x' := ((p2 &&& (255 : Int32))).toUInt32.toUInt16.toUInt32.toInt32) (ch_ch _) (H' := [(a6, .inr (.char, "[C", [(.int ((p2 &&& (255 : Int32))).toUInt32.toUInt16.toUInt32.toInt32)])), o_String a3 (.int (0 : Int32)) .null]) rfl ?_
  intro T7 B8
  have B9 : RH g D0 M T7 [o_String a3 (.int (0 : Int32)) .null, (a6, .inr (.char, "[C", [(.int ((p2 &&& (255 : Int32))).toUInt32.toUInt16.toUInt32.toInt32)]))] [] 2 5 := B8.front (i := 1) rfl rfl
  refine r_special (D' := D1) B9 at_21 (pc' := 24) rfl rfl rfl (W4 B9.gw) (W5 B9.gw) (W2 B9.gw) (W6 B9.gw) (by decide) (k_i1 W a3 a6 "[C" ([((p2 &&& (255 : Int32))).toUInt32.toUInt16.toUInt32.toInt32] : List Int32) (by simp only [List.mem_cons, List.not_mem_nil, or_false, forall_eq_or_imp, forall_eq]; exact le255 _) (by simp) (by simp) [] []) (a := a3) (argsL := [(.ref a6)]) (rest := [(.ref a3)]) rfl pd8 rfl rfl rfl (W := 1) rfl (by decide) (by decide) (cs' := 3) rfl (ss' := 13) rfl (by decide) (by decide) ?_
  intro T10 v11 B12
  replace B12 := Rn.and B12
  obtain ⟨rfl, B12⟩ := B12
  replace B12 := Rn.ex B12
  obtain ⟨b13, B12⟩ := B12
  have B14 : RH g D0 M T10 [] [(a3, b13, 0, [(bV ((p2 &&& (255 : Int32))).toUInt32.toUInt16.toUInt32.toInt32)])] 3 13 := B12.del 0 rfl
  show Fn g D0 M _ (T10.setTop (mkF M.m 24 #[.val (.int p0), .val (.int p1), .val (.int p2), .val (.int p3), .val (.int p4), .val (.int p5), .val (.int (p0 &&& (3 : Int32))), .unset, .unset, .unset, .unset, .unset, .unset, .unset] [(.ref a3)]))
  refine p_astore B14 at_24 (pc' := 26) rfl rfl (Ls' := #[.val (.int p0), .val (.int p1), .val (.int p2), .val (.int p3), .val (.int p4), .val (.int p5), .val (.int (p0 &&& (3 : Int32))), .val (.ref a3), .unset, .unset, .unset, .unset, .unset, .unset]) rfl ?_
  refine r_new B14 at_26 (pc' := 29) rfl (W0 B14.gw) (W1 B14.gw) (W2 B14.gw) (Ly_o_String B14.gw) (by decide) (cs' := 4) rfl (ss' := 17) rfl (by decide) (by decide) ?_
  intro T15 a17 B16
  refine p_dup B16 at_29 (pc' := 30) rfl rfl ?_
  refine p_iconst B16 at_30 (pc' := 31) rfl (v := (1 : Int32)) (by decide) ?_
  refine r_newp B16 at_31 (pc' := 33) rfl (ty := .char) (W3 B16.gw) rfl (by decide) (nn := 1) (by decide) (cap := 1) (by decide) (by decide) (cs' := 5) rfl (ss' := 18) rfl (by decide) (by decide) (ad := "[C") (by decide) (by decide) nofun (vs := [(.int (0 : Int32))]) rfl ?_
  intro T18 a20 B19
  refine p_dup B19 at_33 (pc' := 34) rfl rfl ?_
  refine p_iconst B19 at_34 (pc' := 35) rfl (v := (0 : Int32)) (by decide) ?_
  refine p_iloadN B19 at_35 (pc' := 36) rfl rfl ?_
  refine p_sipush B19 at_36 (pc' := 39) rfl (v := (255 : Int32)) (by decide) ?_
  refine p_iand B19 at_39 (pc' := 40) rfl rfl ?_
  refine p_i2c B19 at_40 (pc' := 41) rfl ?_
  refine r_castore B19 at_41 (pc' := 42) rfl (i := 0) rfl (by decide) (k := 0) (by decide) (by simp) (x' := ((p3 &&& (255 : Int32))).toUInt32.toUInt16.toUInt32.toInt32) (ch_ch _) (H' := [(a20, .inr (.char, "[C", [(.int ((p3 &&& (255 : Int32))).toUInt32.toUInt16.toUInt32.toInt32)])), o_String a17 (.int (0 : Int32)) .null]) rfl ?_
  intro T21 B22
  have B23 : RH g D0 M T21 [o_String a17 (.int (0 : Int32)) .null, (a20, .inr (.char, "[C", [(.int ((p3 &&& (255 : Int32))).toUInt32.toUInt16.toUInt32.toInt32)]))] [(a3, b13, 0, [(bV ((p2 &&& (255 : Int32))).toUInt32.toUInt16.toUInt32.toInt32)])] 5 18 := B22.front (i := 1) rfl rfl
  refine r_special (D' := D1) B23 at_42 (pc' := 45) rfl rfl rfl (W4 B23.gw) (W5 B23.gw) (W2 B23.gw) (W6 B23.gw) (by decide) (k_i1 W a17 a20 "[C" ([((p3 &&& (255 : Int32))).toUInt32.toUInt16.toUInt32.toInt32] : List Int32) (by simp only [List.mem_cons, List.not_mem_nil, or_false, forall_eq_or_imp, forall_eq]; exact le255 _) (by simp) (by simp) [] [(a3, b13, 0, [(bV ((p2 &&& (255 : Int32))).toUInt32.toUInt16.toUInt32.toInt32)])]) (a := a17) (argsL := [(.ref a20)]) (rest := [(.ref a17)]) rfl pd8 rfl rfl rfl (W := 1) rfl (by decide) (by decide) (cs' := 6) rfl (ss' := 26) rfl (by decide) (by decide) ?_
  intro T24 v25 B26
  replace B26 := Rn.and B26
  obtain ⟨rfl, B26⟩ := B26
  replace B26 := Rn.ex B26
  obtain ⟨b27, B26⟩ := B26
  have B28 : RH g D0 M T24 [] [(a17, b27, 0, [(bV ((p3 &&& (255 : Int32))).toUInt32.toUInt16.toUInt32.toInt32)]), (a3, b13, 0, [(bV ((p2 &&& (255 : Int32))).toUInt32.toUInt16.toUInt32.toInt32)])] 6 26 := B26.del 0 rfl
  show Fn g D0 M _ (T24.setTop (mkF M.m 45 #[.val (.int p0), .val (.int p1), .val (.int p2), .val (.int p3), .val (.int p4), .val (.int p5), .val (.int (p0 &&& (3 : Int32))), .val (.ref a3), .unset, .unset, .unset, .unset, .unset, .unset] [(.ref a17)]))
  refine p_astore B28 at_45 (pc' := 47) rfl rfl (Ls' := #[.val (.int p0), .val (.int p1), .val (.int p2), .val (.int p3), .val (.int p4), .val (.int p5), .val (.int (p0 &&& (3 : Int32))), .val (.ref a3), .val (.ref a17), .unset, .unset, .unset, .unset, .unset]) rfl ?_
  refine r_new B28 at_47 (pc' := 50) rfl (W0 B28.gw) (W1 B28.gw) (W2 B28.gw) (Ly_o_String B28.gw) (by decide) (cs' := 7) rfl (ss' := 30) rfl (by decide) (by decide) ?_
  intro T29 a31 B30
  refine p_dup B30 at_50 (pc' := 51) rfl rfl ?_
  refine p_iconst B30 at_51 (pc' := 52) rfl (v := (1 : Int32)) (by decide) ?_
  refine r_newp B30 at_52 (pc' := 54) rfl (ty := .char) (W3 B30.gw) rfl (by decide) (nn := 1) (by decide) (cap := 1) (by decide) (by decide) (cs' := 8) rfl (ss' := 31) rfl (by decide) (by decide) (ad := "[C") (by decide) (by decide) nofun (vs := [(.int (0 : Int32))]) rfl ?_
  intro T32 a34 B33
  refine p_dup B33 at_54 (pc' := 55) rfl rfl ?_
  refine p_iconst B33 at_55 (pc' := 56) rfl (v := (0 : Int32)) (by decide) ?_
  refine p_iload B33 at_56 (pc' := 58) rfl rfl ?_
  refine p_sipush B33 at_58 (pc' := 61) rfl (v := (255 : Int32)) (by decide) ?_
  refine p_iand B33 at_61 (pc' := 62) rfl rfl ?_
  refine p_i2c B33 at_62 (pc' := 63) rfl ?_
  refine r_castore B33 at_63 (pc' := 64) rfl (i := 0) rfl (by decide) (k := 0) (by decide) (by simp) (x' := ((p4 &&& (255 : Int32))).toUInt32.toUInt16.toUInt32.toInt32) (ch_ch _) (H' := [(a34, .inr (.char, "[C", [(.int ((p4 &&& (255 : Int32))).toUInt32.toUInt16.toUInt32.toInt32)])), o_String a31 (.int (0 : Int32)) .null]) rfl ?_
  intro T35 B36
  have B37 : RH g D0 M T35 [o_String a31 (.int (0 : Int32)) .null, (a34, .inr (.char, "[C", [(.int ((p4 &&& (255 : Int32))).toUInt32.toUInt16.toUInt32.toInt32)]))] [(a17, b27, 0, [(bV ((p3 &&& (255 : Int32))).toUInt32.toUInt16.toUInt32.toInt32)]), (a3, b13, 0, [(bV ((p2 &&& (255 : Int32))).toUInt32.toUInt16.toUInt32.toInt32)])] 8 31 := B36.front (i := 1) rfl rfl
  refine r_special (D' := D1) B37 at_64 (pc' := 67) rfl rfl rfl (W4 B37.gw) (W5 B37.gw) (W2 B37.gw) (W6 B37.gw) (by decide) (k_i1 W a31 a34 "[C" ([((p4 &&& (255 : Int32))).toUInt32.toUInt16.toUInt32.toInt32] : List Int32) (by simp only [List.mem_cons, List.not_mem_nil, or_false, forall_eq_or_imp, forall_eq]; exact le255 _) (by simp) (by simp) [] [(a17, b27, 0, [(bV ((p3 &&& (255 : Int32))).toUInt32.toUInt16.toUInt32.toInt32)]), (a3, b13, 0, [(bV ((p2 &&& (255 : Int32))).toUInt32.toUInt16.toUInt32.toInt32)])]) (a := a31) (argsL := [(.ref a34)]) (rest := [(.ref a31)]) rfl pd8 rfl rfl rfl (W := 1) rfl (by decide) (by decide) (cs' := 9) rfl (ss' := 39) rfl (by decide) (by decide) ?_
  intro T38 v39 B40
  replace B40 := Rn.and B40
  obtain ⟨rfl, B40⟩ := B40
  replace B40 := Rn.ex B40
  obtain ⟨b41, B40⟩ := B40
  have B42 : RH g D0 M T38 [] [(a31, b41, 0, [(bV ((p4 &&& (255 : Int32))).toUInt32.toUInt16.toUInt32.toInt32)]), (a17, b27, 0, [(bV ((p3 &&& (255 : Int32))).toUInt32.toUInt16.toUInt32.toInt32)]), (a3, b13, 0, [(bV ((p2 &&& (255 : Int32))).toUInt32.toUInt16.toUInt32.toInt32)])] 9 39 := B40.del 0 rfl
  show Fn g D0 M _ (T38.setTop (mkF M.m 67 #[.val (.int p0), .val (.int p1), .val (.int p2), .val (.int p3), .val (.int p4), .val (.int p5), .val (.int (p0 &&& (3 : Int32))), .val (.ref a3), .val (.ref a17), .unset, .unset, .unset, .unset, .unset] [(.ref a31)]))
  refine p_astore B42 at_67 (pc' := 69) rfl rfl (Ls' := #[.val (.int p0), .val (.int p1), .val (.int p2), .val (.int p3), .val (.int p4), .val (.int p5), .val (.int (p0 &&& (3 : Int32))), .val (.ref a3), .val (.ref a17), .val (.ref a31), .unset, .unset, .unset, .unset]) rfl ?_
  refine r_new B42 at_69 (pc' := 72) rfl (W0 B42.gw) (W1 B42.gw) (W2 B42.gw) (Ly_o_String B42.gw) (by decide) (cs' := 10) rfl (ss' := 43) rfl (by decide) (by decide) ?_
  intro T43 a45 B44
  refine p_dup B44 at_72 (pc' := 73) rfl rfl ?_
  refine p_iconst B44 at_73 (pc' := 74) rfl (v := (1 : Int32)) (by decide) ?_
  refine r_newp B44 at_74 (pc' := 76) rfl (ty := .char) (W3 B44.gw) rfl (by decide) (nn := 1) (by decide) (cap := 1) (by decide) (by decide) (cs' := 11) rfl (ss' := 44) rfl (by decide) (by decide) (ad := "[C") (by decide) (by decide) nofun (vs := [(.int (0 : Int32))]) rfl ?_
  intro T46 a48 B47
  refine p_dup B47 at_76 (pc' := 77) rfl rfl ?_
  refine p_iconst B47 at_77 (pc' := 78) rfl (v := (0 : Int32)) (by decide) ?_
  refine p_iload B47 at_78 (pc' := 80) rfl rfl ?_
  refine p_bipush B47 at_80 (pc' := 82) rfl (v := (8 : Int32)) (by decide) ?_
  refine p_iushr B47 at_82 (pc' := 83) rfl rfl ?_
  refine p_sipush B47 at_83 (pc' := 86) rfl (v := (255 : Int32)) (by decide) ?_
  refine p_iand B47 at_86 (pc' := 87) rfl rfl ?_
  refine p_i2c B47 at_87 (pc' := 88) rfl ?_
  refine r_castore B47 at_88 (pc' := 89) rfl (i := 0) rfl (by decide) (k := 0) (by decide) (by simp) (x' := (((((p5).toUInt32 >>> ((8 : Int32) &&& 31).toUInt32).toInt32) &&& (255 : Int32))).toUInt32.toUInt16.toUInt32.toInt32) (ch_ch _) (H' := [(a48, .inr (.char, "[C", [(.int (((((p5).toUInt32 >>> ((8 : Int32) &&& 31).toUInt32).toInt32) &&& (255 : Int32))).toUInt32.toUInt16.toUInt32.toInt32)])), o_String a45 (.int (0 : Int32)) .null]) rfl ?_
  intro T49 B50
  have B51 : RH g D0 M T49 [o_String a45 (.int (0 : Int32)) .null, (a48, .inr (.char, "[C", [(.int (((((p5).toUInt32 >>> ((8 : Int32) &&& 31).toUInt32).toInt32) &&& (255 : Int32))).toUInt32.toUInt16.toUInt32.toInt32)]))] [(a31, b41, 0, [(bV ((p4 &&& (255 : Int32))).toUInt32.toUInt16.toUInt32.toInt32)]), (a17, b27, 0, [(bV ((p3 &&& (255 : Int32))).toUInt32.toUInt16.toUInt32.toInt32)]), (a3, b13, 0, [(bV ((p2 &&& (255 : Int32))).toUInt32.toUInt16.toUInt32.toInt32)])] 11 44 := B50.front (i := 1) rfl rfl
  refine r_special (D' := D1) B51 at_89 (pc' := 92) rfl rfl rfl (W4 B51.gw) (W5 B51.gw) (W2 B51.gw) (W6 B51.gw) (by decide) (k_i1 W a45 a48 "[C" ([(((((p5).toUInt32 >>> ((8 : Int32) &&& 31).toUInt32).toInt32) &&& (255 : Int32))).toUInt32.toUInt16.toUInt32.toInt32] : List Int32) (by simp only [List.mem_cons, List.not_mem_nil, or_false, forall_eq_or_imp, forall_eq]; exact le255 _) (by simp) (by simp) [] [(a31, b41, 0, [(bV ((p4 &&& (255 : Int32))).toUInt32.toUInt16.toUInt32.toInt32)]), (a17, b27, 0, [(bV ((p3 &&& (255 : Int32))).toUInt32.toUInt16.toUInt32.toInt32)]), (a3, b13, 0, [(bV ((p2 &&& (255 : Int32))).toUInt32.toUInt16.toUInt32.toInt32)])]) (a := a45) (argsL := [(.ref a48)]) (rest := [(.ref a45)]) rfl pd8 rfl rfl rfl (W := 1) rfl (by decide) (by decide) (cs' := 12) rfl (ss' := 52) rfl (by decide) (by decide) ?_
  intro T52 v53 B54
  replace B54 := Rn.and B54
  obtain ⟨rfl, B54⟩ := B54
  replace B54 := Rn.ex B54
  obtain ⟨b55, B54⟩ := B54
  have B56 : RH g D0 M T52 [] [(a45, b55, 0, [(bV (((((p5).toUInt32 >>> ((8 : Int32) &&& 31).toUInt32).toInt32) &&& (255 : Int32))).toUInt32.toUInt16.toUInt32.toInt32)]), (a31, b41, 0, [(bV ((p4 &&& (255 : Int32))).toUInt32.toUInt16.toUInt32.toInt32)]), (a17, b27, 0, [(bV ((p3 &&& (255 : Int32))).toUInt32.toUInt16.toUInt32.toInt32)]), (a3, b13, 0, [(bV ((p2 &&& (255 : Int32))).toUInt32.toUInt16.toUInt32.toInt32)])] 12 52 := B54.del 0 rfl
  show Fn g D0 M _ (T52.setTop (mkF M.m 92 #[.val (.int p0), .val (.int p1), .val (.int p2), .val (.int p3), .val (.int p4), .val (.int p5), .val (.int (p0 &&& (3 : Int32))), .val (.ref a3), .val (.ref a17), .val (.ref a31), .unset, .unset, .unset, .unset] [(.ref a45)]))
  refine p_astore B56 at_92 (pc' := 94) rfl rfl (Ls' := #[.val (.int p0), .val (.int p1), .val (.int p2), .val (.int p3), .val (.int p4), .val (.int p5), .val (.int (p0 &&& (3 : Int32))), .val (.ref a3), .val (.ref a17), .val (.ref a31), .val (.ref a45), .unset, .unset, .unset]) rfl ?_
  refine p_iload B56 at_94 (pc' := 96) rfl rfl ?_
  refine p_iconst B56 at_96 (pc' := 97) rfl (v := (2 : Int32)) (by decide) ?_
  refine p_iand B56 at_97 (pc' := 98) rfl rfl ?_
  by_cases h57 : (p5 &&& (2 : Int32)) = (0 : Int32)
  · refine b_ifT B56 at_98 (pc' := 107) h57 (by decide) (by decide) ?_
    refine p_iloadN B56 at_107 (pc' := 108) rfl rfl ?_
    refine r_ldcI B56 at_108 (pc' := 110) rfl (W72 B56.gw) ?_
    refine p_iand B56 at_110 (pc' := 111) rfl rfl ?_
    refine p_istore B56 at_111 (pc' := 113) rfl (Ls' := #[.val (.int p0), .val (.int p1), .val (.int p2), .val (.int p3), .val (.int p4), .val (.int p5), .val (.int (p0 &&& (3 : Int32))), .val (.ref a3), .val (.ref a17), .val (.ref a31), .val (.ref a45), .val (.int (p1 &&& (2147483647 : Int32))), .unset, .unset]) rfl ?_
    exact law113 W p0 p1 p2 p3 p4 p5 _ _ a3 b13 _ a17 b27 _ a31 b41 _ a45 b55 _ (m3 p0) (msk _ _ (by decide)) B56
  · refine b_ifF B56 at_98 (pc' := 101) rfl h57 ?_
    refine p_iloadN B56 at_101 (pc' := 102) rfl rfl ?_
    refine p_iconst B56 at_102 (pc' := 103) rfl (v := (3 : Int32)) (by decide) ?_
    refine p_iand B56 at_103 (pc' := 104) rfl rfl ?_
    refine b_goto B56 at_104 (pc' := 111) (by decide) (by decide) ?_
    refine p_istore B56 at_111 (pc' := 113) rfl (Ls' := #[.val (.int p0), .val (.int p1), .val (.int p2), .val (.int p3), .val (.int p4), .val (.int p5), .val (.int (p0 &&& (3 : Int32))), .val (.ref a3), .val (.ref a17), .val (.ref a31), .val (.ref a45), .val (.int (p1 &&& (3 : Int32))), .unset, .unset]) rfl ?_
    exact law113 W p0 p1 p2 p3 p4 p5 _ _ a3 b13 _ a17 b27 _ a31 b41 _ a45 b55 _ (m3 p0) (msk _ _ (by decide)) B56
theorem comes_1 {Post : Tables → Env → Array Value → State → Outcome → State → Prop} (hpost : ∀ tb e args s v u, (limb_1_1.after args s (.returned v) u = true ∧ limb_1_2.after args s (.returned v) u = true ∧ True) → FramedW s (.returned v) u (Jvm.fieldLocs frame_1_writes args s ++ Jvm.arrayLocs frame_1_arrays args s ++ Jvm.staticLocs frame_1_statics s) 48 3264 → Post tb e args s (.returned v) u) :
    ArmFor flags0 classFile x code maxLocals ret World_1 tables_1 room_1 Calls_1 rest_1 Pre_1 Post := by
  intro l hfl _ _ p e ha hc hk s m args below hf hA hF happ hP
  obtain ⟨hcalls, hrest, hpre⟩ := hP
  obtain ⟨-, -, -, hnamed, -, -, -, hat⟩ := (Spec.applies_iff hf).mp happ
  obtain ⟨hg, hn⟩ := and_e (Cond.before_iff.mp (show (Jvm.Cond.and given_1 narrow_1).before args s = true from hpre))
  obtain ⟨q0, r0⟩ := and_e hg
  obtain ⟨q1, r1⟩ := and_e r0
  obtain ⟨q2, r2⟩ := and_e r1
  obtain ⟨q3, r3⟩ := and_e r2
  obtain ⟨q4, r4⟩ := and_e r3
  obtain ⟨q5, r5⟩ := and_e r4
  obtain ⟨w0, w1, w2, w3, w4, w5, rfl⟩ : ∃ w0 w1 w2 w3 w4 w5 : Value, args = #[w0, w1, w2, w3, w4, w5] := by
    have hs : args.size = 6 := by simpa [Cond.value, given_1] using q0
    obtain ⟨L⟩ := args
    match L, hs with
    | [w0, w1, w2, w3, w4, w5], _ => exact ⟨w0, w1, w2, w3, w4, w5, rfl⟩
  have hw := fun d (hd : d ∈ tables_1) => atoms_spec (ws := Jvm.Cond.code x code maxLocals ret :: tables_1) hat d (List.mem_cons_of_mem _ hd)
  have hfit : Fit s := fun {y c} hc i hi => by
    obtain ⟨ha, rfl⟩ := Array.getElem?_eq_some_iff.mp hc
    have q := List.all_eq_true.mp ((Array.all_eq_true_iff_forall_mem.mp hF) _ (Array.getElem_mem ha)) i (List.mem_range.mpr hi)
    simpa [Array.getElem?_eq_getElem hi] using q
  obtain ⟨hsets, -⟩ := atoms_of _ (rest_1_c_eq ▸ (show rest_1_c.before _ s = true from hrest))
  obtain ⟨i0, ei0⟩ := is_v q1
  obtain rfl : w0 = (.int i0) := Option.some.inj ei0
  obtain ⟨i1, ei1⟩ := is_v q2
  obtain rfl : w1 = (.int i1) := Option.some.inj ei1
  obtain ⟨i2, ei2⟩ := is_v q3
  obtain rfl : w2 = (.int i2) := Option.some.inj ei2
  obtain ⟨i3, ei3⟩ := is_v q4
  obtain rfl : w3 = (.int i3) := Option.some.inj ei3
  obtain ⟨i4, ei4⟩ := is_v q5
  obtain rfl : w4 = (.int i4) := Option.some.inj ei4
  obtain ⟨i5, ei5⟩ := is_v r5
  obtain rfl : w5 = (.int i5) := Option.some.inj ei5
  have hEW : EW s #[(.int i0), (.int i1), (.int i2), (.int i3), (.int i4), (.int i5)] consts_1 := EW.cons (hw _ (List.mem_of_getElem? (i := 73) rfl)) (by decide) (EW.cons (hw _ (List.mem_of_getElem? (i := 76) rfl)) (by decide) (EW.cons (hw _ (List.mem_of_getElem? (i := 77) rfl)) (by decide) (EW.nil)))
  have hcw : Jvm.Lit.compactW.before #[(.int i0), (.int i1), (.int i2), (.int i3), (.int i4), (.int i5)] s = true := hsets _ (List.mem_of_getElem? (i := 2) rfl)
  have hCH : CHv s consts_1 s.vm s.heap := CHv.start hEW (fun p hp => hcalls.1 p hp) hcw (hw _ (List.mem_of_getElem? (i := 19) rfl)) (hw _ (List.mem_of_getElem? (i := 1) rfl))
  have W : GW (l, s, #[(.int i0), (.int i1), (.int i2), (.int i3), (.int i4), (.int i5)], consts_1) := ⟨hw, hEW, hsets, hfit, rfl⟩
  obtain ⟨n, o, h1, h2, h3, _, L, rfl, rfl, N, hr⟩ := k_law W i0 i1 i2 i3 i4 i5 p e ha hc hk s m _ below hf ((Spec.applies_iff_loose hf).mp happ).1 ⟨rfl, State.Warmed39.refl s, hCH, ext_rfl _, Hp.nil⟩ trivial
  exact ⟨n, _, h1, h2, h3, hpost _ _ _ _ _ _ ⟨Cond.after_iff.mpr rfl, Cond.after_iff.mpr (eq_i res_at (Term.int_eval (1)) rfl), trivial⟩ ⟨hr.2.2.1, hr.2.2.2.1, hr.2.2.2.2.1, (hr.2.2.2.2.2.sift fun y hy => Or.inr (N y hy)).mono (by decide) (by decide)⟩⟩
theorem main_1_1 : Claimed_1_1 := comes_1 fun _ _ _ _ _ _ h hF => ⟨h.1, hF⟩
theorem main_1_2 : Claimed_1_2 := comes_1 fun _ _ _ _ _ _ h hF => ⟨h.2.1, hF⟩
end Jvm.Pilot.@@N@@
namespace Jvm.Pilot.@@N@@
open Jvm Jvm.ClassFile Sem Op Lib Jvm.Free Jvm.Stand Jvm.Pilot.@@N@@.Jvm.D
/-! MADE BY PROGRAM (witnessworld.py) out of the Statement's table words and the real class files: 21 classes; the members and pool entries that the words name. The judged class is class 1, her method 1. -/
namespace start1
open Jvm.ClassFile
def u (s : String) : CpInfo := .utf8 (stringToUtf16 s)
/-- a pool by its gaps: so many unusable entries, then the entry; so many at the end -/
def gap : Nat → List CpInfo → List CpInfo
  | 0, r => r
  | n + 1, r => .unusable :: gap n r
def poolList (es : List (Nat × CpInfo)) (last : Nat) : List CpInfo := es.foldr (fun e r => gap e.1 (e.2 :: r)) (gap last [])
def pool (es : List (Nat × CpInfo)) (last : Nat) : Array CpInfo := ⟨poolList es last⟩
def fileOf (pool : Array CpInfo) (this : Nat) (attrs : Array Attribute := #[]) (ms : Array MethodInfo := #[]) (fl : Nat := 33) (sup : Nat := 0) (ifs : Array Nat := #[]) (fds : Array FieldInfo := #[]) : ClassFile where
  minorVersion := 0
  majorVersion := 65
  constantPool := pool
  accessFlags := fl
  thisClass := this
  superClass := sup
  interfaces := ifs
  fields := fds
  methods := ms
  attributes := attrs
def plain (name : String) (sup : Option ClassId) : Class where
  name := name
  kind := .ordinary
  loader := none
  accessFlags := 33
  super := sup
  interfaces := #[]
  cf := none
  fields := #[]
  methods := #[]
  instanceTypes := #[]
  staticTypes := #[]
  resolved := #[]
  callSites := []
  init := .initialized
  statics := none
  mirror := none

def pool0 : Array CpInfo := pool [(5, u "<init>"), (0, u "()V"), (1, .class_ 10), (1, u "java/lang/Object")] 113

def k0c0 : Code := { maxStack := 0, maxLocals := 1, code := object_method_1_code, exceptionTable := #[], attributes := #[] }
def k0m0 : Method := { name := "<init>", desc := "()V", sig := { parameters := [], returnType := none }, accessFlags := 1, code := some k0c0 }
/-- java/lang/Object -/
def k0 : Class := { plain "java/lang/Object" none with
  accessFlags := 33
  interfaces := #[]
  cf := some (fileOf pool0 8 #[] #[{ accessFlags := 1, nameIndex := 5, descriptorIndex := 6, attributes := #[] }] 33 0 #[] #[])
  fields := #[]
  methods := #[k0m0]
  instanceTypes := #[]
  staticTypes := #[]
  resolved := Array.replicate 124 none
  statics := none }

def pool1 : Array CpInfo := pool [(2, .class_ 4), (0, .nameAndType 5 6), (0, u "java/lang/Object"), (0, u "<init>"), (0, u "()V"), (0, .class_ 8), (0, u "java/lang/String"), (0, .methodref 7 10), (0, .nameAndType 5 11), (0, u "([C)V"), (0, .integer 2147483647), (0, .class_ 14), (0, u "com/example/polecenie/polecenie/core/Pain001Reader$Element"), (0, .methodref 13 3), (0, .methodref 13 17), (0, .nameAndType 18 19), (0, u "push"), (0, u "(Ljava/lang/String;)V"), (0, .methodref 13 21), (0, .nameAndType 22 6), (0, u "pop"), (0, .methodref 13 24), (0, .nameAndType 25 26), (0, u "ancestor"), (0, u "(I)Ljava/lang/String;"), (0, .methodref 28 29), (0, .class_ 30), (0, .nameAndType 31 32), (0, u "com/example/polecenie/polecenie/core/ElementAncestorPinLaw"), (0, u "expected"), (0, u "(IILjava/lang/String;Ljava/lang/String;Ljava/lang/String;)Ljava/lang/String;"), (2, u "law"), (0, u "(IIIIII)Z")] 7

def k1m0 : Method := { name := "<init>", desc := "()V", sig := { parameters := [], returnType := none }, accessFlags := 1, code := none }
def k1c1 : Code := { maxStack := 7, maxLocals := 14, code := code, exceptionTable := #[], attributes := #[] }
def k1m1 : Method := { name := "law", desc := "(IIIIII)Z", sig := { parameters := [.int, .int, .int, .int, .int, .int], returnType := some .boolean }, accessFlags := 9, code := some k1c1 }
def k1c2 : Code := { maxStack := 2, maxLocals := 5, code := method_3_code, exceptionTable := #[], attributes := #[] }
def k1m2 : Method := { name := "expected", desc := "(IILjava/lang/String;Ljava/lang/String;Ljava/lang/String;)Ljava/lang/String;", sig := { parameters := [.int, .int, (.object "java/lang/String"), (.object "java/lang/String"), (.object "java/lang/String")], returnType := some (.object "java/lang/String") }, accessFlags := 10, code := some k1c2 }
/-- com/example/polecenie/polecenie/core/ElementAncestorPinLaw -/
def k1 : Class := { plain "com/example/polecenie/polecenie/core/ElementAncestorPinLaw" (some 0) with
  accessFlags := 49
  interfaces := #[]
  cf := some (fileOf pool1 28 #[] #[{ accessFlags := 1, nameIndex := 5, descriptorIndex := 6, attributes := #[] }, { accessFlags := 9, nameIndex := 35, descriptorIndex := 36, attributes := #[] }, { accessFlags := 10, nameIndex := 31, descriptorIndex := 32, attributes := #[] }] 49 2 #[] #[])
  fields := #[]
  methods := #[k1m0, k1m1, k1m2]
  instanceTypes := #[]
  staticTypes := #[]
  resolved := Array.replicate 44 none
  statics := none }

def pool2 : Array CpInfo := pool [(1, .class_ 2), (0, u "java/io/Serializable"), (0, .class_ 4), (0, u "java/lang/Object")] 2

/-- java/io/Serializable -/
def k2 : Class := { plain "java/io/Serializable" (some 0) with
  accessFlags := 1537
  interfaces := #[]
  cf := some (fileOf pool2 1 #[] #[] 1537 3 #[] #[])
  fields := #[]
  methods := #[]
  instanceTypes := #[]
  staticTypes := #[]
  resolved := Array.replicate 7 none
  statics := none }

def pool3 : Array CpInfo := pool [(1, .class_ 2), (0, u "java/lang/Comparable"), (0, .class_ 4), (0, u "java/lang/Object")] 7

/-- java/lang/Comparable -/
def k3 : Class := { plain "java/lang/Comparable" (some 0) with
  accessFlags := 1537
  interfaces := #[]
  cf := some (fileOf pool3 1 #[] #[] 1537 3 #[] #[])
  fields := #[]
  methods := #[]
  instanceTypes := #[]
  staticTypes := #[]
  resolved := Array.replicate 12 none
  statics := none }

def pool4 : Array CpInfo := pool [(2, .class_ 4), (1, u "java/lang/CharSequence"), (42, .class_ 48), (0, u "java/lang/CharSequence$1CodePointIterator"), (10, .class_ 60), (0, u "java/lang/CharSequence$1CharIterator"), (5, .class_ 67), (0, u "java/lang/Object")] 63

/-- java/lang/CharSequence -/
def k4 : Class := { plain "java/lang/CharSequence" (some 0) with
  accessFlags := 1537
  interfaces := #[]
  cf := some (fileOf pool4 2 #[.nestMembers #[47, 59]] #[] 1537 66 #[] #[])
  fields := #[]
  methods := #[]
  instanceTypes := #[]
  staticTypes := #[]
  resolved := Array.replicate 131 none
  statics := none }

def pool5 : Array CpInfo := pool [(1, .class_ 2), (0, u "java/lang/constant/Constable"), (0, .class_ 4), (0, u "java/lang/Object")] 6

/-- java/lang/constant/Constable -/
def k5 : Class := { plain "java/lang/constant/Constable" (some 0) with
  accessFlags := 1537
  interfaces := #[]
  cf := some (fileOf pool5 1 #[] #[] 1537 3 #[] #[])
  fields := #[]
  methods := #[]
  instanceTypes := #[]
  staticTypes := #[]
  resolved := Array.replicate 11 none
  statics := none }

def pool6 : Array CpInfo := pool [(1, .class_ 2), (0, u "java/lang/constant/ConstantDesc"), (0, .class_ 4), (0, u "java/lang/Object")] 32

/-- java/lang/constant/ConstantDesc -/
def k6 : Class := { plain "java/lang/constant/ConstantDesc" (some 0) with
  accessFlags := 1537
  interfaces := #[]
  cf := some (fileOf pool6 1 #[] #[] 1537 3 #[] #[])
  fields := #[]
  methods := #[]
  instanceTypes := #[]
  staticTypes := #[]
  resolved := Array.replicate 37 none
  statics := none }

def pool7 : Array CpInfo := pool [(1, .methodref 2 3), (0, .class_ 4), (0, .nameAndType 5 6), (0, u "java/lang/Object"), (0, u "<init>"), (0, u "()V"), (2, .fieldref 10 11), (0, .class_ 12), (0, .nameAndType 13 14), (0, u "java/lang/String"), (0, u "value"), (0, u "[B"), (0, .fieldref 10 16), (0, .nameAndType 17 18), (0, u "coder"), (0, u "B"), (2, u "hash"), (0, u "I"), (2, u "hashIsZero"), (0, u "Z"), (0, .methodref 10 28), (0, .nameAndType 5 29), (0, u "([CIILjava/lang/Void;)V"), (8, .fieldref 10 39), (0, .nameAndType 40 26), (0, u "COMPACT_STRINGS"), (1, .class_ 44), (1, u "java/lang/StringUTF16"), (0, u "compress"), (1, .methodref 42 48), (0, .nameAndType 49 50), (0, u "coderFromArrayLen"), (0, u "([BI)B"), (56, .class_ 109), (1, u "java/lang/StringLatin1"), (67, .methodref 42 178), (0, .nameAndType 45 179), (0, u "([CII)[B"), (361, .methodref 107 542), (0, .nameAndType 543 544), (0, u "equals"), (0, u "([B[B)Z"), (28, u "(Ljava/lang/Object;)Z"), (1, .class_ 576), (0, u "java/lang/CharSequence"), (22, u "CASE_INSENSITIVE_ORDER"), (0, u "Ljava/util/Comparator;"), (409, u "([C)V"), (90, u "serialPersistentFields"), (0, u "[Ljava/io/ObjectStreamField;"), (0, .class_ 1104), (0, u "java/lang/String$CaseInsensitiveComparator"), (1, .class_ 1107), (0, u "java/io/Serializable"), (0, .class_ 1109), (0, u "java/lang/Comparable"), (0, .class_ 1111), (0, u "java/lang/constant/Constable"), (0, .class_ 1113), (0, u "java/lang/constant/ConstantDesc"), (2, u "serialVersionUID"), (0, u "J"), (3, u "REPL"), (0, u "C"), (2, u "LATIN1"), (1, u "UTF16")] 323

def k7m0 : Method := { name := "<init>", desc := "()V", sig := { parameters := [], returnType := none }, accessFlags := 1, code := none }
def k7c1 : Code := { maxStack := 5, maxLocals := 2, code := jdk_42_method_3_code, exceptionTable := #[], attributes := #[] }
def k7m1 : Method := { name := "<init>", desc := "([C)V", sig := { parameters := [(.array .char)], returnType := none }, accessFlags := 1, code := some k7c1 }
def k7c2 : Code := { maxStack := 2, maxLocals := 3, code := jdk_42_method_66_code, exceptionTable := #[], attributes := #[] }
def k7m2 : Method := { name := "equals", desc := "(Ljava/lang/Object;)Z", sig := { parameters := [(.object "java/lang/Object")], returnType := some .boolean }, accessFlags := 1, code := some k7c2 }
def k7c3 : Code := { maxStack := 4, maxLocals := 6, code := jdk_42_method_149_code, exceptionTable := #[], attributes := #[] }
def k7m3 : Method := { name := "<init>", desc := "([CIILjava/lang/Void;)V", sig := { parameters := [(.array .char), .int, .int, (.object "java/lang/Void")], returnType := none }, accessFlags := 2, code := some k7c3 }
/-- java/lang/String -/
def k7 : Class := { plain "java/lang/String" (some 0) with
  accessFlags := 49
  interfaces := #[2, 3, 4, 5, 6]
  cf := some (fileOf pool7 10 #[.nestMembers #[1103]] #[{ accessFlags := 1, nameIndex := 5, descriptorIndex := 6, attributes := #[] }, { accessFlags := 1, nameIndex := 5, descriptorIndex := 1010, attributes := #[] }, { accessFlags := 1, nameIndex := 543, descriptorIndex := 573, attributes := #[] }, { accessFlags := 2, nameIndex := 5, descriptorIndex := 29, attributes := #[] }] 49 2 #[1106, 1108, 575, 1110, 1112] #[{ accessFlags := 18, nameIndex := 13, descriptorIndex := 14, attributes := #[] }, { accessFlags := 18, nameIndex := 17, descriptorIndex := 18, attributes := #[] }, { accessFlags := 2, nameIndex := 21, descriptorIndex := 22, attributes := #[] }, { accessFlags := 2, nameIndex := 25, descriptorIndex := 26, attributes := #[] }, { accessFlags := 26, nameIndex := 1116, descriptorIndex := 1117, attributes := #[] }, { accessFlags := 24, nameIndex := 40, descriptorIndex := 26, attributes := #[] }, { accessFlags := 26, nameIndex := 1101, descriptorIndex := 1102, attributes := #[] }, { accessFlags := 26, nameIndex := 1121, descriptorIndex := 1122, attributes := #[] }, { accessFlags := 25, nameIndex := 599, descriptorIndex := 600, attributes := #[] }, { accessFlags := 24, nameIndex := 1125, descriptorIndex := 18, attributes := #[] }, { accessFlags := 24, nameIndex := 1127, descriptorIndex := 18, attributes := #[] }])
  fields := #[{ name := "value", type := (.array .byte), accessFlags := 18, slot := 0, constantValue := 0 }, { name := "coder", type := .byte, accessFlags := 18, slot := 1, constantValue := 0 }, { name := "hash", type := .int, accessFlags := 2, slot := 2, constantValue := 0 }, { name := "hashIsZero", type := .boolean, accessFlags := 2, slot := 3, constantValue := 0 }, { name := "serialVersionUID", type := .long, accessFlags := 26, slot := 0, constantValue := 0 }, { name := "COMPACT_STRINGS", type := .boolean, accessFlags := 24, slot := 1, constantValue := 0 }, { name := "serialPersistentFields", type := (.array (.object "java/io/ObjectStreamField")), accessFlags := 26, slot := 2, constantValue := 0 }, { name := "REPL", type := .char, accessFlags := 26, slot := 3, constantValue := 0 }, { name := "CASE_INSENSITIVE_ORDER", type := (.object "java/util/Comparator"), accessFlags := 25, slot := 4, constantValue := 0 }, { name := "LATIN1", type := .byte, accessFlags := 24, slot := 5, constantValue := 0 }, { name := "UTF16", type := .byte, accessFlags := 24, slot := 6, constantValue := 0 }]
  methods := #[k7m0, k7m1, k7m2, k7m3]
  instanceTypes := #[(.array .byte), .byte, .int, .boolean]
  staticTypes := #[.long, .boolean, (.array (.object "java/io/ObjectStreamField")), .char, (.object "java/util/Comparator"), .byte, .byte]
  resolved := Array.replicate 1451 none
  statics := some 0 }

def pool8 : Array CpInfo := pool [(6, .class_ 8), (1, u "java/lang/Object"), (0, u "<init>"), (0, u "()V"), (1, .class_ 14), (1, u "java/lang/StringUTF16"), (31, u "$assertionsDisabled"), (0, u "Z"), (13, u "HI_BYTE_SHIFT"), (0, u "I"), (2, u "LO_BYTE_SHIFT"), (49, .methodref 12 116), (0, .nameAndType 117 118), (0, u "compress"), (0, u "([CI[BII)I"), (3, u "([CII)[B"), (138, u "coderFromArrayLen"), (0, u "([BI)B"), (106, .class_ 371), (1, u "java/lang/StringUTF16$LinesSpliterator"), (58, u "MAX_LENGTH"), (196, .class_ 628), (0, u "java/lang/StringUTF16$CodePointsSpliterator"), (0, .class_ 630), (0, u "java/lang/StringUTF16$CharsSpliterator")] 4

def k8m0 : Method := { name := "<init>", desc := "()V", sig := { parameters := [], returnType := none }, accessFlags := 0, code := none }
def k8c1 : Code := { maxStack := 2, maxLocals := 2, code := jdk_52_method_15_code, exceptionTable := #[], attributes := #[] }
def k8m1 : Method := { name := "coderFromArrayLen", desc := "([BI)B", sig := { parameters := [(.array .byte), .int], returnType := some .byte }, accessFlags := 8, code := some k8c1 }
def k8c2 : Code := { maxStack := 5, maxLocals := 6, code := jdk_52_method_16_code, exceptionTable := #[], attributes := #[] }
def k8m2 : Method := { name := "compress", desc := "([CII)[B", sig := { parameters := [(.array .char), .int, .int], returnType := some (.array .byte) }, accessFlags := 9, code := some k8c2 }
def k8c3 : Code := { maxStack := 3, maxLocals := 7, code := jdk_52_method_21_code, exceptionTable := #[], attributes := #[] }
def k8m3 : Method := { name := "compress", desc := "([CI[BII)I", sig := { parameters := [(.array .char), .int, (.array .byte), .int, .int], returnType := some .int }, accessFlags := 9, code := some k8c3 }
/-- java/lang/StringUTF16 -/
def k8 : Class := { plain "java/lang/StringUTF16" (some 0) with
  accessFlags := 48
  interfaces := #[]
  cf := some (fileOf pool8 12 #[.nestMembers #[627, 629, 369]] #[{ accessFlags := 0, nameIndex := 9, descriptorIndex := 10, attributes := #[] }, { accessFlags := 8, nameIndex := 261, descriptorIndex := 262, attributes := #[] }, { accessFlags := 9, nameIndex := 117, descriptorIndex := 122, attributes := #[] }, { accessFlags := 9, nameIndex := 117, descriptorIndex := 118, attributes := #[] }] 48 6 #[] #[{ accessFlags := 26, nameIndex := 61, descriptorIndex := 62, attributes := #[] }, { accessFlags := 26, nameIndex := 65, descriptorIndex := 62, attributes := #[] }, { accessFlags := 24, nameIndex := 430, descriptorIndex := 62, attributes := #[] }, { accessFlags := 4120, nameIndex := 46, descriptorIndex := 47, attributes := #[] }])
  fields := #[{ name := "HI_BYTE_SHIFT", type := .int, accessFlags := 26, slot := 0, constantValue := 0 }, { name := "LO_BYTE_SHIFT", type := .int, accessFlags := 26, slot := 1, constantValue := 0 }, { name := "MAX_LENGTH", type := .int, accessFlags := 24, slot := 2, constantValue := 0 }, { name := "$assertionsDisabled", type := .boolean, accessFlags := 4120, slot := 3, constantValue := 0 }]
  methods := #[k8m0, k8m1, k8m2, k8m3]
  instanceTypes := #[]
  staticTypes := #[.int, .int, .int, .boolean]
  resolved := Array.replicate 635 none
  statics := none }

def pool9 : Array CpInfo := pool [(1, .methodref 2 3), (0, .class_ 4), (0, .nameAndType 5 6), (0, u "java/lang/Object"), (0, u "<init>"), (0, u "()V"), (0, .class_ 8), (0, u "java/lang/String"), (0, .fieldref 10 11), (0, .class_ 12), (0, .nameAndType 13 14), (0, u "com/example/polecenie/polecenie/core/Pain001Reader$Element"), (0, u "names"), (0, u "[Ljava/lang/String;"), (0, .fieldref 10 16), (0, .nameAndType 17 18), (0, u "depth"), (0, u "I"), (2, u "attributes"), (0, u "Lorg/xml/sax/Attributes;"), (8, .methodref 7 32), (0, .nameAndType 33 34), (0, u "equals"), (0, u "(Ljava/lang/Object;)Z"), (0, .fieldref 10 36), (0, .nameAndType 37 18), (0, u "block"), (0, .fieldref 10 39), (0, .nameAndType 40 18), (0, u "transaction"), (0, .string 42), (0, u "Document"), (0, .string 44), (0, u "CstmrCdtTrfInitn"), (2, .methodref 10 48), (0, .nameAndType 49 50), (0, u "is"), (0, u "([Ljava/lang/String;)Z"), (0, .string 52), (0, u "PmtInf"), (9, .methodref 10 63), (0, .nameAndType 64 65), (0, u "isBlock"), (0, u "()Z"), (0, .fieldref 10 67), (0, .nameAndType 68 18), (0, u "blocks"), (0, .fieldref 10 70), (0, .nameAndType 71 18), (0, u "transactions"), (0, .methodref 10 73), (0, .nameAndType 74 65), (0, u "isTransaction"), (4, u "ancestor"), (0, u "(I)Ljava/lang/String;"), (5, u "push"), (0, u "(Ljava/lang/String;)V"), (0, u "pop"), (3, .class_ 93), (0, u "com/example/polecenie/polecenie/core/Pain001Reader")] 2

def k9c0 : Code := { maxStack := 2, maxLocals := 1, code := prog_35_method_1_code, exceptionTable := #[], attributes := #[] }
def k9m0 : Method := { name := "<init>", desc := "()V", sig := { parameters := [], returnType := none }, accessFlags := 0, code := some k9c0 }
def k9c1 : Code := { maxStack := 3, maxLocals := 2, code := prog_35_method_3_code, exceptionTable := #[], attributes := #[] }
def k9m1 : Method := { name := "ancestor", desc := "(I)Ljava/lang/String;", sig := { parameters := [.int], returnType := some (.object "java/lang/String") }, accessFlags := 1, code := some k9c1 }
def k9c2 : Code := { maxStack := 4, maxLocals := 3, code := prog_35_method_6_code, exceptionTable := #[], attributes := #[] }
def k9m2 : Method := { name := "is", desc := "([Ljava/lang/String;)Z", sig := { parameters := [(.array (.object "java/lang/String"))], returnType := some .boolean }, accessFlags := 129, code := some k9c2 }
def k9c3 : Code := { maxStack := 5, maxLocals := 1, code := prog_35_method_10_code, exceptionTable := #[], attributes := #[] }
def k9m3 : Method := { name := "isBlock", desc := "()Z", sig := { parameters := [], returnType := some .boolean }, accessFlags := 1, code := some k9c3 }
def k9c4 : Code := { maxStack := 5, maxLocals := 1, code := prog_35_method_11_code, exceptionTable := #[], attributes := #[] }
def k9m4 : Method := { name := "isTransaction", desc := "()Z", sig := { parameters := [], returnType := some .boolean }, accessFlags := 1, code := some k9c4 }
def k9c5 : Code := { maxStack := 5, maxLocals := 2, code := prog_35_method_12_code, exceptionTable := #[], attributes := #[] }
def k9m5 : Method := { name := "push", desc := "(Ljava/lang/String;)V", sig := { parameters := [(.object "java/lang/String")], returnType := none }, accessFlags := 0, code := some k9c5 }
def k9c6 : Code := { maxStack := 4, maxLocals := 1, code := prog_35_method_13_code, exceptionTable := #[], attributes := #[] }
def k9m6 : Method := { name := "pop", desc := "()V", sig := { parameters := [], returnType := none }, accessFlags := 0, code := some k9c6 }
/-- com/example/polecenie/polecenie/core/Pain001Reader$Element -/
def k9 : Class := { plain "com/example/polecenie/polecenie/core/Pain001Reader$Element" (some 0) with
  accessFlags := 49
  interfaces := #[]
  cf := some (fileOf pool9 10 #[.nestHost 92] #[{ accessFlags := 0, nameIndex := 5, descriptorIndex := 6, attributes := #[] }, { accessFlags := 1, nameIndex := 79, descriptorIndex := 80, attributes := #[] }, { accessFlags := 129, nameIndex := 49, descriptorIndex := 50, attributes := #[] }, { accessFlags := 1, nameIndex := 64, descriptorIndex := 65, attributes := #[] }, { accessFlags := 1, nameIndex := 74, descriptorIndex := 65, attributes := #[] }, { accessFlags := 0, nameIndex := 86, descriptorIndex := 87, attributes := #[] }, { accessFlags := 0, nameIndex := 88, descriptorIndex := 6, attributes := #[] }] 49 2 #[] #[{ accessFlags := 2, nameIndex := 13, descriptorIndex := 14, attributes := #[] }, { accessFlags := 2, nameIndex := 17, descriptorIndex := 18, attributes := #[] }, { accessFlags := 2, nameIndex := 37, descriptorIndex := 18, attributes := #[] }, { accessFlags := 2, nameIndex := 40, descriptorIndex := 18, attributes := #[] }, { accessFlags := 2, nameIndex := 68, descriptorIndex := 18, attributes := #[] }, { accessFlags := 2, nameIndex := 71, descriptorIndex := 18, attributes := #[] }, { accessFlags := 0, nameIndex := 21, descriptorIndex := 22, attributes := #[] }])
  fields := #[{ name := "names", type := (.array (.object "java/lang/String")), accessFlags := 2, slot := 0, constantValue := 0 }, { name := "depth", type := .int, accessFlags := 2, slot := 1, constantValue := 0 }, { name := "block", type := .int, accessFlags := 2, slot := 2, constantValue := 0 }, { name := "transaction", type := .int, accessFlags := 2, slot := 3, constantValue := 0 }, { name := "blocks", type := .int, accessFlags := 2, slot := 4, constantValue := 0 }, { name := "transactions", type := .int, accessFlags := 2, slot := 5, constantValue := 0 }, { name := "attributes", type := (.object "org/xml/sax/Attributes"), accessFlags := 0, slot := 6, constantValue := 0 }]
  methods := #[k9m0, k9m1, k9m2, k9m3, k9m4, k9m5, k9m6]
  instanceTypes := #[(.array (.object "java/lang/String")), .int, .int, .int, .int, .int, (.object "org/xml/sax/Attributes")]
  staticTypes := #[]
  resolved := Array.replicate 96 none
  statics := none }

def pool10 : Array CpInfo := pool [(4, .class_ 6), (1, u "java/lang/Object"), (0, u "<init>"), (0, u "()V"), (5, .class_ 16), (1, u "java/lang/StringLatin1"), (104, u "$assertionsDisabled"), (0, u "Z"), (98, .class_ 223), (1, u "java/lang/StringLatin1$LinesSpliterator"), (57, u "equals"), (0, u "([B[B)Z"), (107, .class_ 391), (0, u "java/lang/StringLatin1$CharsSpliterator")] 3

def k10m0 : Method := { name := "<init>", desc := "()V", sig := { parameters := [], returnType := none }, accessFlags := 0, code := none }
def k10c1 : Code := { maxStack := 3, maxLocals := 3, code := jdk_43_method_13_code, exceptionTable := #[], attributes := #[] }
def k10m1 : Method := { name := "equals", desc := "([B[B)Z", sig := { parameters := [(.array .byte), (.array .byte)], returnType := some .boolean }, accessFlags := 9, code := some k10c1 }
/-- java/lang/StringLatin1 -/
def k10 : Class := { plain "java/lang/StringLatin1" (some 0) with
  accessFlags := 48
  interfaces := #[]
  cf := some (fileOf pool10 14 #[.nestMembers #[390, 221]] #[{ accessFlags := 0, nameIndex := 7, descriptorIndex := 8, attributes := #[] }, { accessFlags := 9, nameIndex := 281, descriptorIndex := 282, attributes := #[] }] 48 4 #[] #[{ accessFlags := 4120, nameIndex := 121, descriptorIndex := 122, attributes := #[] }])
  fields := #[{ name := "$assertionsDisabled", type := .boolean, accessFlags := 4120, slot := 0, constantValue := 0 }]
  methods := #[k10m0, k10m1]
  instanceTypes := #[]
  staticTypes := #[.boolean]
  resolved := Array.replicate 395 none
  statics := none }

def pool11 : Array CpInfo := pool [(2, .class_ 4), (1, u "java/lang/Object"), (0, u "<init>"), (0, u "()V"), (17, .class_ 26), (1, u "jdk/internal/util/Preconditions"), (28, .class_ 56), (0, u "jdk/internal/util/Preconditions$4"), (57, .class_ 115), (0, u "jdk/internal/util/Preconditions$1"), (7, u "SIOOBE_FORMATTER"), (0, u "Ljava/util/function/BiFunction;"), (0, .class_ 126), (0, u "jdk/internal/util/Preconditions$2"), (3, u "AIOOBE_FORMATTER"), (0, .class_ 132), (0, u "jdk/internal/util/Preconditions$3"), (3, u "IOOBE_FORMATTER")] 57

def k11m0 : Method := { name := "<init>", desc := "()V", sig := { parameters := [], returnType := none }, accessFlags := 1, code := none }
/-- jdk/internal/util/Preconditions -/
def k11 : Class := { plain "jdk/internal/util/Preconditions" (some 0) with
  accessFlags := 33
  interfaces := #[]
  cf := some (fileOf pool11 24 #[.nestMembers #[55, 131, 125, 114]] #[{ accessFlags := 1, nameIndex := 5, descriptorIndex := 6, attributes := #[] }] 33 2 #[] #[{ accessFlags := 25, nameIndex := 123, descriptorIndex := 124, attributes := #[] }, { accessFlags := 25, nameIndex := 130, descriptorIndex := 124, attributes := #[] }, { accessFlags := 25, nameIndex := 136, descriptorIndex := 124, attributes := #[] }])
  fields := #[{ name := "SIOOBE_FORMATTER", type := (.object "java/util/function/BiFunction"), accessFlags := 25, slot := 0, constantValue := 0 }, { name := "AIOOBE_FORMATTER", type := (.object "java/util/function/BiFunction"), accessFlags := 25, slot := 1, constantValue := 0 }, { name := "IOOBE_FORMATTER", type := (.object "java/util/function/BiFunction"), accessFlags := 25, slot := 2, constantValue := 0 }]
  methods := #[k11m0]
  instanceTypes := #[]
  staticTypes := #[(.object "java/util/function/BiFunction"), (.object "java/util/function/BiFunction"), (.object "java/util/function/BiFunction")]
  resolved := Array.replicate 194 none
  statics := some 1 }

def pool12 : Array CpInfo := pool [(9, u "<init>"), (6, .class_ 18), (1, u "java/lang/Object"), (0, u "()V"), (1, .class_ 23), (1, u "jdk/internal/util/ArraysSupport"), (0, u "LOG2_ARRAY_LONG_INDEX_SCALE"), (0, u "I"), (2, u "U"), (0, u "Ljdk/internal/misc/Unsafe;"), (8, u "BIG_ENDIAN"), (0, u "Z"), (8, u "LOG2_BYTE_BIT_SIZE"), (4, u "LOG2_ARRAY_INT_INDEX_SCALE"), (54, u "JLA"), (0, u "Ljdk/internal/access/JavaLangAccess;"), (11, u "LOG2_ARRAY_BOOLEAN_INDEX_SCALE"), (9, u "LOG2_ARRAY_BYTE_INDEX_SCALE"), (5, u "LOG2_ARRAY_CHAR_INDEX_SCALE"), (5, u "LOG2_ARRAY_SHORT_INDEX_SCALE"), (18, u "LOG2_ARRAY_FLOAT_INDEX_SCALE"), (24, u "LOG2_ARRAY_DOUBLE_INDEX_SCALE"), (89, u "T_BOOLEAN"), (2, u "T_CHAR"), (1, u "T_FLOAT"), (1, u "T_DOUBLE"), (1, u "T_BYTE"), (1, u "T_SHORT"), (1, u "T_INT"), (1, u "T_LONG"), (1, u "SOFT_MAX_ARRAY_LENGTH")] 83

def k12m0 : Method := { name := "<init>", desc := "()V", sig := { parameters := [], returnType := none }, accessFlags := 2, code := none }
/-- jdk/internal/util/ArraysSupport -/
def k12 : Class := { plain "jdk/internal/util/ArraysSupport" (some 0) with
  accessFlags := 33
  interfaces := #[]
  cf := some (fileOf pool12 21 #[] #[{ accessFlags := 2, nameIndex := 9, descriptorIndex := 19, attributes := #[] }] 33 16 #[] #[{ accessFlags := 24, nameIndex := 28, descriptorIndex := 29, attributes := #[] }, { accessFlags := 26, nameIndex := 38, descriptorIndex := 39, attributes := #[] }, { accessFlags := 25, nameIndex := 121, descriptorIndex := 25, attributes := #[] }, { accessFlags := 25, nameIndex := 131, descriptorIndex := 25, attributes := #[] }, { accessFlags := 25, nameIndex := 137, descriptorIndex := 25, attributes := #[] }, { accessFlags := 25, nameIndex := 143, descriptorIndex := 25, attributes := #[] }, { accessFlags := 25, nameIndex := 53, descriptorIndex := 25, attributes := #[] }, { accessFlags := 25, nameIndex := 24, descriptorIndex := 25, attributes := #[] }, { accessFlags := 25, nameIndex := 162, descriptorIndex := 25, attributes := #[] }, { accessFlags := 25, nameIndex := 187, descriptorIndex := 25, attributes := #[] }, { accessFlags := 26, nameIndex := 48, descriptorIndex := 25, attributes := #[] }, { accessFlags := 25, nameIndex := 277, descriptorIndex := 25, attributes := #[] }, { accessFlags := 25, nameIndex := 280, descriptorIndex := 25, attributes := #[] }, { accessFlags := 25, nameIndex := 282, descriptorIndex := 25, attributes := #[] }, { accessFlags := 25, nameIndex := 284, descriptorIndex := 25, attributes := #[] }, { accessFlags := 25, nameIndex := 286, descriptorIndex := 25, attributes := #[] }, { accessFlags := 25, nameIndex := 288, descriptorIndex := 25, attributes := #[] }, { accessFlags := 25, nameIndex := 290, descriptorIndex := 25, attributes := #[] }, { accessFlags := 25, nameIndex := 292, descriptorIndex := 25, attributes := #[] }, { accessFlags := 26, nameIndex := 108, descriptorIndex := 109, attributes := #[] }, { accessFlags := 25, nameIndex := 294, descriptorIndex := 25, attributes := #[] }])
  fields := #[{ name := "U", type := (.object "jdk/internal/misc/Unsafe"), accessFlags := 24, slot := 0, constantValue := 0 }, { name := "BIG_ENDIAN", type := .boolean, accessFlags := 26, slot := 1, constantValue := 0 }, { name := "LOG2_ARRAY_BOOLEAN_INDEX_SCALE", type := .int, accessFlags := 25, slot := 2, constantValue := 0 }, { name := "LOG2_ARRAY_BYTE_INDEX_SCALE", type := .int, accessFlags := 25, slot := 3, constantValue := 0 }, { name := "LOG2_ARRAY_CHAR_INDEX_SCALE", type := .int, accessFlags := 25, slot := 4, constantValue := 0 }, { name := "LOG2_ARRAY_SHORT_INDEX_SCALE", type := .int, accessFlags := 25, slot := 5, constantValue := 0 }, { name := "LOG2_ARRAY_INT_INDEX_SCALE", type := .int, accessFlags := 25, slot := 6, constantValue := 0 }, { name := "LOG2_ARRAY_LONG_INDEX_SCALE", type := .int, accessFlags := 25, slot := 7, constantValue := 0 }, { name := "LOG2_ARRAY_FLOAT_INDEX_SCALE", type := .int, accessFlags := 25, slot := 8, constantValue := 0 }, { name := "LOG2_ARRAY_DOUBLE_INDEX_SCALE", type := .int, accessFlags := 25, slot := 9, constantValue := 0 }, { name := "LOG2_BYTE_BIT_SIZE", type := .int, accessFlags := 26, slot := 10, constantValue := 0 }, { name := "T_BOOLEAN", type := .int, accessFlags := 25, slot := 11, constantValue := 0 }, { name := "T_CHAR", type := .int, accessFlags := 25, slot := 12, constantValue := 0 }, { name := "T_FLOAT", type := .int, accessFlags := 25, slot := 13, constantValue := 0 }, { name := "T_DOUBLE", type := .int, accessFlags := 25, slot := 14, constantValue := 0 }, { name := "T_BYTE", type := .int, accessFlags := 25, slot := 15, constantValue := 0 }, { name := "T_SHORT", type := .int, accessFlags := 25, slot := 16, constantValue := 0 }, { name := "T_INT", type := .int, accessFlags := 25, slot := 17, constantValue := 0 }, { name := "T_LONG", type := .int, accessFlags := 25, slot := 18, constantValue := 0 }, { name := "JLA", type := (.object "jdk/internal/access/JavaLangAccess"), accessFlags := 26, slot := 19, constantValue := 0 }, { name := "SOFT_MAX_ARRAY_LENGTH", type := .int, accessFlags := 25, slot := 20, constantValue := 0 }]
  methods := #[k12m0]
  instanceTypes := #[]
  staticTypes := #[(.object "jdk/internal/misc/Unsafe"), .boolean, .int, .int, .int, .int, .int, .int, .int, .int, .int, .int, .int, .int, .int, .int, .int, .int, .int, (.object "jdk/internal/access/JavaLangAccess"), .int]
  resolved := Array.replicate 378 none
  statics := none }

def pool13 : Array CpInfo := pool [(1, u "java/lang/Cloneable"), (0, .class_ 1), (0, u "java/lang/Object"), (0, .class_ 3)] 3

/-- java/lang/Cloneable -/
def k13 : Class := { plain "java/lang/Cloneable" (some 0) with
  accessFlags := 1537
  interfaces := #[]
  cf := some (fileOf pool13 2 #[] #[] 1537 4 #[] #[])
  fields := #[]
  methods := #[]
  instanceTypes := #[]
  staticTypes := #[]
  resolved := Array.replicate 8 none
  statics := none }

/-- the primitive byte -/
def k14 : Class := { plain "byte" none with kind := .primitive 'B', accessFlags := 0x411 }
/-- [B -/
def k15 : Class := { plain "[B" (some 0) with kind := .array 14 .byte, interfaces := #[13, 2], accessFlags := 1041 }

/-- the primitive char -/
def k16 : Class := { plain "char" none with kind := .primitive 'C', accessFlags := 0x411 }
/-- [C -/
def k17 : Class := { plain "[C" (some 0) with kind := .array 16 .char, interfaces := #[13, 2], accessFlags := 1041 }

/-- the primitive int -/
def k18 : Class := { plain "int" none with kind := .primitive 'I', accessFlags := 0x411 }
/-- [I -/
def k19 : Class := { plain "[I" (some 0) with kind := .array 18 .int, interfaces := #[13, 2], accessFlags := 1041 }

/-- [Ljava/lang/String; -/
def k20 : Class := { plain "[Ljava/lang/String;" (some 0) with kind := .array 7 (.object "java/lang/String"), interfaces := #[13, 2], accessFlags := 1041 }

def heap : Heap := #[{ cls := 7, slots := #[.long 0, .int 1, .null, .int 0, .null, .int 0, .int 0], vm := .statics 7 },
  { cls := 11, slots := #[.null, .null, .null], vm := .statics 11 }]
def classes : Array Class := #[k0, k1, k2, k3, k4, k5, k6, k7, k8, k9, k10, k11, k12, k13, k14, k15, k16, k17, k18, k19, k20]
def interned : List (Array UInt16 × Addr) := []
def slotsUsed : Nat := 10
def theMethod : MethodId := ⟨1, 1⟩
def args0 : Array Value := #[.int 5, .int 5, .int 5, .int 5, .int 5, .int 5]
def aboutOver (below : List Frame) : State where
  vm := { classes := classes, interned := interned.toArray }
  heap := heap
  slotsUsed := slotsUsed
  threads := #[{ frames := .invoking theMethod args0 :: below }]
def below0 : List Frame := [.native { method := ⟨0, 0⟩, args := #[] }]
def about1 : State := aboutOver below0
def p0 : Program := .bare "" "" ""
def e0 : Env := launch0.env 0 0 0
theorem w_frames : about1.frames = Frame.invoking theMethod args0 :: below0 := rfl
set_option maxRecDepth 65536 in
theorem w_args : argsFit about1.vm theMethod args0 = true := by decide +kernel
set_option maxRecDepth 65536 in
theorem w_heap : heapFits about1 = true := by decide +kernel
set_option maxRecDepth 65536 in
theorem w_runnable : about1.curStatus? = some .runnable := by decide +kernel
set_option maxRecDepth 65536 in
theorem w_alone : about1.alone = true := by decide +kernel
set_option maxRecDepth 65536 in
theorem w_named : about1.methodNamed? x = some theMethod := by decide +kernel
set_option maxRecDepth 65536 in
theorem w_hears : about1.hears theMethod below0 = true := by decide +kernel
set_option maxRecDepth 65536 in
theorem w_ripe : about1.ripe theMethod args0 below0 = true := by decide +kernel
theorem w_running : about1.status = .running := rfl
set_option maxRecDepth 65536 in
theorem w_room : about1.hasRoom e0.platform room_1 = true :=
  launch0.hasRoom_least _ room_1 (by decide +kernel) (by decide +kernel) (by decide +kernel) (by decide +kernel) (by decide +kernel) (by decide +kernel)
theorem allAtoms_all (ts : List Jvm.Cond) (a : Array Jvm.Value) (st : Jvm.State) : (allAtoms ts).before a st = ts.all (fun c => c.before a st) := by
  induction ts with
  | nil => rfl
  | cons c t ih =>
    show (Jvm.Cond.and c (allAtoms t)).before a st = _
    rw [Jvm.Cond.before_and, ih, List.all_cons]
def words1 : List Jvm.Cond := Jvm.Cond.code x code maxLocals ret :: tables_1
/-- a 'code' word, met by the world's own term for the bytes: nothing is compared byte by byte -/
theorem code_word {y : MethodName} {bytes : ByteArray} {mx : Nat} {rt : Option FieldType} {a : Array Value} {s : State} {m : MethodId} {meth : Method} {c : Code} (h1 : s.methodNamed? y = some m) (h2 : s.vm.method? m = some meth) (h3 : meth.code = some c) (h4 : c.code = bytes)
    (h5 : (c.maxLocals == mx && c.exceptionTable.isEmpty && decide (c.maxStack ≤ mostOperands) && decide (meth.sig.returnType = rt) && !meth.locks && decide (parseMethodDescriptor y.desc = some meth.sig)) = true) : (Jvm.Cond.code y bytes mx rt).before a s = true := by
  simp only [Bool.and_eq_true, beq_iff_eq, Bool.not_eq_true', decide_eq_true_eq] at h5
  obtain ⟨⟨⟨⟨⟨g1, g2⟩, g3⟩, g4⟩, g5⟩, g6⟩ := h5
  simp [Cond.before, Cond.holds, Cond.value, h1, h2, h3, h4, g1, g2, g3, g4, g5, g6]
def isCode : Jvm.Cond → Bool
  | .code _ _ _ _ => true
  | _ => false
theorem all_split {L : List Jvm.Cond} {P : Jvm.Cond → Bool} (h1 : L.all (fun c => isCode c || P c) = true) (h2 : ∀ c ∈ L.filter isCode, P c = true) : L.all P = true := by
  refine List.all_eq_true.mpr fun c hc => ?_
  have h := List.all_eq_true.mp h1 c hc
  rcases Bool.eq_false_or_eq_true (isCode c) with hi | hi
  · exact h2 c (List.mem_filter.mpr ⟨hc, hi⟩)
  · simpa [hi] using h
set_option maxRecDepth 65536 in
theorem w_c0 : (Jvm.Cond.code x code maxLocals ret).before args0 about1 = true := code_word (m := ⟨1, 1⟩) (meth := k1m1) (c := k1c1) (by decide +kernel) rfl rfl rfl (by decide +kernel)
set_option maxRecDepth 65536 in
theorem w_c1 : (Jvm.Cond.code ({ cls := "java/lang/String", name := "<init>", desc := "([C)V" } : Jvm.MethodName) jdk_42_method_3_code (2 : Nat) (Option.none : Option Jvm.ClassFile.FieldType)).before args0 about1 = true := code_word (m := ⟨7, 1⟩) (meth := k7m1) (c := k7c1) (by decide +kernel) rfl rfl rfl (by decide +kernel)
set_option maxRecDepth 65536 in
theorem w_c2 : (Jvm.Cond.code ({ cls := "java/lang/String", name := "<init>", desc := "([CIILjava/lang/Void;)V" } : Jvm.MethodName) jdk_42_method_149_code (6 : Nat) (Option.none : Option Jvm.ClassFile.FieldType)).before args0 about1 = true := code_word (m := ⟨7, 3⟩) (meth := k7m3) (c := k7c3) (by decide +kernel) rfl rfl rfl (by decide +kernel)
set_option maxRecDepth 65536 in
theorem w_c3 : (Jvm.Cond.code ({ cls := "java/lang/Object", name := "<init>", desc := "()V" } : Jvm.MethodName) object_method_1_code (1 : Nat) (Option.none : Option Jvm.ClassFile.FieldType)).before args0 about1 = true := code_word (m := ⟨0, 0⟩) (meth := k0m0) (c := k0c0) (by decide +kernel) rfl rfl rfl (by decide +kernel)
set_option maxRecDepth 65536 in
theorem w_c4 : (Jvm.Cond.code ({ cls := "java/lang/StringUTF16", name := "compress", desc := "([CII)[B" } : Jvm.MethodName) jdk_52_method_16_code (6 : Nat) (Option.some (Jvm.ClassFile.FieldType.array Jvm.ClassFile.FieldType.byte))).before args0 about1 = true := code_word (m := ⟨8, 2⟩) (meth := k8m2) (c := k8c2) (by decide +kernel) rfl rfl rfl (by decide +kernel)
set_option maxRecDepth 65536 in
theorem w_c5 : (Jvm.Cond.code ({ cls := "java/lang/StringUTF16", name := "compress", desc := "([CI[BII)I" } : Jvm.MethodName) jdk_52_method_21_code (7 : Nat) (Option.some Jvm.ClassFile.FieldType.int)).before args0 about1 = true := code_word (m := ⟨8, 3⟩) (meth := k8m3) (c := k8c3) (by decide +kernel) rfl rfl rfl (by decide +kernel)
set_option maxRecDepth 65536 in
theorem w_c6 : (Jvm.Cond.code ({ cls := "java/lang/StringUTF16", name := "coderFromArrayLen", desc := "([BI)B" } : Jvm.MethodName) jdk_52_method_15_code (2 : Nat) (Option.some Jvm.ClassFile.FieldType.byte)).before args0 about1 = true := code_word (m := ⟨8, 1⟩) (meth := k8m1) (c := k8c1) (by decide +kernel) rfl rfl rfl (by decide +kernel)
set_option maxRecDepth 65536 in
theorem w_c7 : (Jvm.Cond.code ({ cls := "com/example/polecenie/polecenie/core/Pain001Reader$Element", name := "<init>", desc := "()V" } : Jvm.MethodName) prog_35_method_1_code (1 : Nat) (Option.none : Option Jvm.ClassFile.FieldType)).before args0 about1 = true := code_word (m := ⟨9, 0⟩) (meth := k9m0) (c := k9c0) (by decide +kernel) rfl rfl rfl (by decide +kernel)
set_option maxRecDepth 65536 in
theorem w_c8 : (Jvm.Cond.code ({ cls := "com/example/polecenie/polecenie/core/Pain001Reader$Element", name := "push", desc := "(Ljava/lang/String;)V" } : Jvm.MethodName) prog_35_method_12_code (2 : Nat) (Option.none : Option Jvm.ClassFile.FieldType)).before args0 about1 = true := code_word (m := ⟨9, 5⟩) (meth := k9m5) (c := k9c5) (by decide +kernel) rfl rfl rfl (by decide +kernel)
set_option maxRecDepth 65536 in
theorem w_c9 : (Jvm.Cond.code ({ cls := "com/example/polecenie/polecenie/core/Pain001Reader$Element", name := "isBlock", desc := "()Z" } : Jvm.MethodName) prog_35_method_10_code (1 : Nat) (Option.some Jvm.ClassFile.FieldType.boolean)).before args0 about1 = true := code_word (m := ⟨9, 3⟩) (meth := k9m3) (c := k9c3) (by decide +kernel) rfl rfl rfl (by decide +kernel)
set_option maxRecDepth 65536 in
theorem w_c10 : (Jvm.Cond.code ({ cls := "com/example/polecenie/polecenie/core/Pain001Reader$Element", name := "isTransaction", desc := "()Z" } : Jvm.MethodName) prog_35_method_11_code (1 : Nat) (Option.some Jvm.ClassFile.FieldType.boolean)).before args0 about1 = true := code_word (m := ⟨9, 4⟩) (meth := k9m4) (c := k9c4) (by decide +kernel) rfl rfl rfl (by decide +kernel)
set_option maxRecDepth 65536 in
theorem w_c11 : (Jvm.Cond.code ({ cls := "com/example/polecenie/polecenie/core/Pain001Reader$Element", name := "pop", desc := "()V" } : Jvm.MethodName) prog_35_method_13_code (1 : Nat) (Option.none : Option Jvm.ClassFile.FieldType)).before args0 about1 = true := code_word (m := ⟨9, 6⟩) (meth := k9m6) (c := k9c6) (by decide +kernel) rfl rfl rfl (by decide +kernel)
set_option maxRecDepth 65536 in
theorem w_c12 : (Jvm.Cond.code ({ cls := "com/example/polecenie/polecenie/core/Pain001Reader$Element", name := "ancestor", desc := "(I)Ljava/lang/String;" } : Jvm.MethodName) prog_35_method_3_code (2 : Nat) (Option.some (Jvm.ClassFile.FieldType.object "java/lang/String"))).before args0 about1 = true := code_word (m := ⟨9, 1⟩) (meth := k9m1) (c := k9c1) (by decide +kernel) rfl rfl rfl (by decide +kernel)
set_option maxRecDepth 65536 in
theorem w_c13 : (Jvm.Cond.code ({ cls := "com/example/polecenie/polecenie/core/ElementAncestorPinLaw", name := "expected", desc := "(IILjava/lang/String;Ljava/lang/String;Ljava/lang/String;)Ljava/lang/String;" } : Jvm.MethodName) method_3_code (5 : Nat) (Option.some (Jvm.ClassFile.FieldType.object "java/lang/String"))).before args0 about1 = true := code_word (m := ⟨1, 2⟩) (meth := k1m2) (c := k1c2) (by decide +kernel) rfl rfl rfl (by decide +kernel)
set_option maxRecDepth 65536 in
theorem w_c14 : (Jvm.Cond.code ({ cls := "com/example/polecenie/polecenie/core/Pain001Reader$Element", name := "is", desc := "([Ljava/lang/String;)Z" } : Jvm.MethodName) prog_35_method_6_code (3 : Nat) (Option.some Jvm.ClassFile.FieldType.boolean)).before args0 about1 = true := code_word (m := ⟨9, 2⟩) (meth := k9m2) (c := k9c2) (by decide +kernel) rfl rfl rfl (by decide +kernel)
set_option maxRecDepth 65536 in
theorem w_c15 : (Jvm.Cond.code ({ cls := "java/lang/String", name := "equals", desc := "(Ljava/lang/Object;)Z" } : Jvm.MethodName) jdk_42_method_66_code (3 : Nat) (Option.some Jvm.ClassFile.FieldType.boolean)).before args0 about1 = true := code_word (m := ⟨7, 2⟩) (meth := k7m2) (c := k7c2) (by decide +kernel) rfl rfl rfl (by decide +kernel)
set_option maxRecDepth 65536 in
theorem w_c16 : (Jvm.Cond.code ({ cls := "java/lang/StringLatin1", name := "equals", desc := "([B[B)Z" } : Jvm.MethodName) jdk_43_method_13_code (3 : Nat) (Option.some Jvm.ClassFile.FieldType.boolean)).before args0 about1 = true := code_word (m := ⟨10, 1⟩) (meth := k10m1) (c := k10c1) (by decide +kernel) rfl rfl rfl (by decide +kernel)
def codes1 : List Jvm.Cond := [Jvm.Cond.code x code maxLocals ret, Jvm.Cond.code ({ cls := "java/lang/String", name := "<init>", desc := "([C)V" } : Jvm.MethodName) jdk_42_method_3_code (2 : Nat) (Option.none : Option Jvm.ClassFile.FieldType), Jvm.Cond.code ({ cls := "java/lang/String", name := "<init>", desc := "([CIILjava/lang/Void;)V" } : Jvm.MethodName) jdk_42_method_149_code (6 : Nat) (Option.none : Option Jvm.ClassFile.FieldType), Jvm.Cond.code ({ cls := "java/lang/Object", name := "<init>", desc := "()V" } : Jvm.MethodName) object_method_1_code (1 : Nat) (Option.none : Option Jvm.ClassFile.FieldType), Jvm.Cond.code ({ cls := "java/lang/StringUTF16", name := "compress", desc := "([CII)[B" } : Jvm.MethodName) jdk_52_method_16_code (6 : Nat) (Option.some (Jvm.ClassFile.FieldType.array Jvm.ClassFile.FieldType.byte)), Jvm.Cond.code ({ cls := "java/lang/StringUTF16", name := "compress", desc := "([CI[BII)I" } : Jvm.MethodName) jdk_52_method_21_code (7 : Nat) (Option.some Jvm.ClassFile.FieldType.int), Jvm.Cond.code ({ cls := "java/lang/StringUTF16", name := "coderFromArrayLen", desc := "([BI)B" } : Jvm.MethodName) jdk_52_method_15_code (2 : Nat) (Option.some Jvm.ClassFile.FieldType.byte), Jvm.Cond.code ({ cls := "com/example/polecenie/polecenie/core/Pain001Reader$Element", name := "<init>", desc := "()V" } : Jvm.MethodName) prog_35_method_1_code (1 : Nat) (Option.none : Option Jvm.ClassFile.FieldType), Jvm.Cond.code ({ cls := "com/example/polecenie/polecenie/core/Pain001Reader$Element", name := "push", desc := "(Ljava/lang/String;)V" } : Jvm.MethodName) prog_35_method_12_code (2 : Nat) (Option.none : Option Jvm.ClassFile.FieldType), Jvm.Cond.code ({ cls := "com/example/polecenie/polecenie/core/Pain001Reader$Element", name := "isBlock", desc := "()Z" } : Jvm.MethodName) prog_35_method_10_code (1 : Nat) (Option.some Jvm.ClassFile.FieldType.boolean), Jvm.Cond.code ({ cls := "com/example/polecenie/polecenie/core/Pain001Reader$Element", name := "isTransaction", desc := "()Z" } : Jvm.MethodName) prog_35_method_11_code (1 : Nat) (Option.some Jvm.ClassFile.FieldType.boolean), Jvm.Cond.code ({ cls := "com/example/polecenie/polecenie/core/Pain001Reader$Element", name := "pop", desc := "()V" } : Jvm.MethodName) prog_35_method_13_code (1 : Nat) (Option.none : Option Jvm.ClassFile.FieldType), Jvm.Cond.code ({ cls := "com/example/polecenie/polecenie/core/Pain001Reader$Element", name := "ancestor", desc := "(I)Ljava/lang/String;" } : Jvm.MethodName) prog_35_method_3_code (2 : Nat) (Option.some (Jvm.ClassFile.FieldType.object "java/lang/String")), Jvm.Cond.code ({ cls := "com/example/polecenie/polecenie/core/ElementAncestorPinLaw", name := "expected", desc := "(IILjava/lang/String;Ljava/lang/String;Ljava/lang/String;)Ljava/lang/String;" } : Jvm.MethodName) method_3_code (5 : Nat) (Option.some (Jvm.ClassFile.FieldType.object "java/lang/String")), Jvm.Cond.code ({ cls := "com/example/polecenie/polecenie/core/Pain001Reader$Element", name := "is", desc := "([Ljava/lang/String;)Z" } : Jvm.MethodName) prog_35_method_6_code (3 : Nat) (Option.some Jvm.ClassFile.FieldType.boolean), Jvm.Cond.code ({ cls := "java/lang/String", name := "equals", desc := "(Ljava/lang/Object;)Z" } : Jvm.MethodName) jdk_42_method_66_code (3 : Nat) (Option.some Jvm.ClassFile.FieldType.boolean), Jvm.Cond.code ({ cls := "java/lang/StringLatin1", name := "equals", desc := "([B[B)Z" } : Jvm.MethodName) jdk_43_method_13_code (3 : Nat) (Option.some Jvm.ClassFile.FieldType.boolean)]
set_option maxRecDepth 65536 in
theorem codes_eq : words1.filter isCode = codes1 := rfl
theorem w_codes : ∀ c ∈ words1.filter isCode, c.before args0 about1 = true := by
  rw [codes_eq]
  intro c hc
  simp only [codes1, List.mem_cons, List.not_mem_nil, or_false] at hc
  rcases hc with rfl | rfl | rfl | rfl | rfl | rfl | rfl | rfl | rfl | rfl | rfl | rfl | rfl | rfl | rfl | rfl | rfl
  · exact w_c0
  · exact w_c1
  · exact w_c2
  · exact w_c3
  · exact w_c4
  · exact w_c5
  · exact w_c6
  · exact w_c7
  · exact w_c8
  · exact w_c9
  · exact w_c10
  · exact w_c11
  · exact w_c12
  · exact w_c13
  · exact w_c14
  · exact w_c15
  · exact w_c16
set_option maxRecDepth 65536 in
theorem w_t1 : (words1.take 24).all (fun c => isCode c || c.before args0 about1) = true := by decide +kernel
set_option maxRecDepth 65536 in
theorem w_t2 : ((words1.drop 24).take 24).all (fun c => isCode c || c.before args0 about1) = true := by decide +kernel
set_option maxRecDepth 65536 in
theorem w_t3 : (((words1.drop 24).drop 24).take 24).all (fun c => isCode c || c.before args0 about1) = true := by decide +kernel
set_option maxRecDepth 65536 in
theorem w_t4 : ((((words1.drop 24).drop 24).drop 24).take 24).all (fun c => isCode c || c.before args0 about1) = true := by decide +kernel
set_option maxRecDepth 65536 in
theorem w_t5 : ((((words1.drop 24).drop 24).drop 24).drop 24).all (fun c => isCode c || c.before args0 about1) = true := by decide +kernel
theorem w_tables : (allAtoms (Jvm.Cond.code x code maxLocals ret :: tables_1)).before args0 about1 = true := by
  rw [allAtoms_all]
  show words1.all (fun c => c.before args0 about1) = true
  refine all_split ?_ w_codes
  rw [← List.take_append_drop 24 words1, List.all_append, w_t1, ← List.take_append_drop 24 (words1.drop 24), List.all_append, w_t2, ← List.take_append_drop 24 ((words1.drop 24).drop 24), List.all_append, w_t3, ← List.take_append_drop 24 (((words1.drop 24).drop 24).drop 24), List.all_append, w_t4, w_t5]
  rfl
set_option maxRecDepth 65536 in
theorem w_rest : rest_1_c.before args0 about1 = true := by decide +kernel
set_option maxRecDepth 65536 in
theorem w_case : (Jvm.Cond.and given_1 narrow_1).before args0 about1 = true := by decide +kernel
set_option maxRecDepth 65536 in
theorem w_consts : constsHeld consts_1 about1 := Jvm.Lit.constsHeldB_iff.mp (by decide +kernel)
theorem w_applies : (headSpec (Jvm.Cond.code x code maxLocals ret :: tables_1) room_1).applies x e0.platform about1 = true :=
  (Spec.applies_iff w_frames).mpr ⟨w_running, w_runnable, w_alone, w_named, w_hears, w_ripe, w_room, w_tables⟩
theorem atStart : AtStart classFile x code maxLocals ret World_1 tables_1 room_1 Calls_1 rest_1 Pre_1 launch0 p0 e0 about1 theMethod args0 below0 :=
  ⟨lists_1, trivial, launch0.admits_env _ _ _, launch0.least_env, fairChoices_fair.cas, fairChoices_fair.clock, w_frames, w_args, w_heap, w_applies, ⟨w_consts, trivial⟩, w_rest, w_case⟩
end start1
theorem witness_1 : WitnessClaimed_1 := ⟨start1.p0, start1.e0, start1.about1, start1.theMethod, start1.args0, start1.below0, start1.atStart⟩
end Jvm.Pilot.@@N@@
