import JvmDerived
import JvmDerived.Pilot.@@N@@Statement
import JvmDerived.Pilot.@@N@@Code
set_option linter.unusedVariables false
set_option linter.unusedSimpArgs false
set_option maxRecDepth 65536
set_option maxHeartbeats 4000000
namespace Jvm.Pilot.@@N@@
open Jvm Jvm.ClassFile Sem Op Lib Jvm.Free Jvm.Stand Jvm.LawKit Jvm.RoadKit Bundle Jvm.Pilot.@@N@@.Jvm.D

def OwnSets (g : Launch × State × Array Value × List (String × Nat)) : Prop := (∀ d ∈ jdkStatics_1, d.before g.2.2.1 g.2.1 = true) ∧ Fit g.2.1 ∧ g.2.2.2 = consts_1
/-! OWN WALKING KIT, part 1: the heap as an explicit list, the running state, the goal, contracts. -/
abbrev GG := Launch × State × Array Value × List (String × Nat)
abbrev GG.l (g : GG) : Launch := g.1
abbrev GG.Z (g : GG) : State := g.2.1
abbrev GG.a0 (g : GG) : Array Value := g.2.2.1
abbrev GG.EL (g : GG) : List (String × Nat) := g.2.2.2
abbrev MM := Program × Env × State × MethodId × Array Value × List Frame × Method × Code
abbrev MM.p (M : MM) : Program := M.1
abbrev MM.e (M : MM) : Env := M.2.1
abbrev MM.s (M : MM) : State := M.2.2.1
abbrev MM.m (M : MM) : MethodId := M.2.2.2.1
abbrev MM.args (M : MM) : Array Value := M.2.2.2.2.1
abbrev MM.below (M : MM) : List Frame := M.2.2.2.2.2.1
abbrev MM.meth (M : MM) : Method := M.2.2.2.2.2.2.1
abbrev MM.c (M : MM) : Code := M.2.2.2.2.2.2.2
abbrev DD := MethodName × ByteArray × Nat × Option FieldType × Room
abbrev DD.y (D : DD) : MethodName := D.1
abbrev DD.cd (D : DD) : ByteArray := D.2.1
abbrev DD.mx (D : DD) : Nat := D.2.2.1
abbrev DD.rt (D : DD) : Option FieldType := D.2.2.2.1
abbrev DD.rm (D : DD) : Room := D.2.2.2.2
/-- the case's words, at its start -/
def GW (g : GG) : Prop := (∀ d ∈ tables_1, d.before g.a0 g.Z = true) ∧ EW g.Z g.a0 g.EL ∧ OwnSets g
theorem GW.w {g : GG} (W : GW g) : ∀ d ∈ tables_1, d.before g.a0 g.Z = true := W.1
abbrev FD := String × String × String × Value
abbrev Ent := Addr × ((String × List FD) ⊕ (FieldType × String × List Value))
abbrev SE := Addr × Addr × Int32 × List Value
def Ary (Z : State) (h : Heap) (a : Addr) (ty : FieldType) (nm : String) (vs : List Value) : Prop :=
  ∃ c : Cell, Jvm.RoadKit.Arr Z h a c ty ∧ c.slots = vs.toArray ∧ vs.length < 2 ^ 31 ∧ (∀ v ∈ vs, fits ty v = true) ∧ (∀ C, ty = .object C → Ovr Z c.cls C) ∧ (nm ≠ "" → Exa Z h a nm)
def Is (Z : State) (h : Heap) : Ent → Prop
  | (a, .inl (C, fs)) => Exa Z h a C ∧ ∀ f ∈ fs, Fld Z h a f.1 f.2.1 f.2.2.1 f.2.2.2
  | (a, .inr (ty, nm, vs)) => Ary Z h a ty nm vs
def Lays (Z : State) (a0 : Array Value) (C : String) (fs : List FD) : Prop :=
  (fs.map fun f => f.2.1).Nodup ∧ ∀ f ∈ fs, Laid Z a0 C f.1 f.2.1 f.2.2.1 ∧ ∃ ty, parseFieldDescriptor f.2.2.1 = some ty
def Ld (Z : State) (a0 : Array Value) : Ent → Prop
  | (_, .inl (C, fs)) => Lays Z a0 C fs
  | (_, .inr _) => True
def IsS (Z : State) (h : Heap) (y : SE) : Prop :=
  Exa Z h y.1 "java/lang/String" ∧ Fld Z h y.1 "java/lang/String" "value" "[B" (.ref y.2.1) ∧ Fld Z h y.1 "java/lang/String" "coder" "B" (.int y.2.2.1) ∧ Ary Z h y.2.1 .byte "" y.2.2.2
def Hp (g : GG) (vm : Vm) (h : Heap) (H : List Ent) (Lt : List SE) : Prop :=
  (∀ x ∈ H, Is g.Z h x ∧ Ld g.Z g.a0 x ∧ g.Z.heap.size ≤ x.1 ∧ Safe g.Z g.EL vm h x.1) ∧ (H.map Prod.fst).Nodup ∧ (∀ y ∈ Lt, IsS g.Z h y) ∧ ∀ x ∈ H, ∀ y ∈ Lt, x.1 ≠ y.1 ∧ x.1 ≠ y.2.1
section Heap
variable {g : GG} {Z : State} {h h' : Heap} {vm vm1 : Vm} {a b : Addr} {ty : FieldType} {nm : String} {vs : List Value} {H H' : List Ent} {Lt Lt' : List SE} {ws : List Addr} {a0 : Array Value}
theorem Ary.ext (A : Ary Z h a ty nm vs) (E : Ext h h') : Ary Z h' a ty nm vs := by
  obtain ⟨c, r1, r2, r3, r4, r5, r6⟩ := A
  exact ⟨c, r1.ext E, r2, r3, r4, r5, fun q => (r6 q).ext E⟩
theorem Ary.keep (A : Ary Z h a ty nm vs) (K : Keep h h' ws) (q : a ∉ ws) : Ary Z h' a ty nm vs := by
  obtain ⟨c, r1, r2, r3, r4, r5, r6⟩ := A
  exact ⟨c, ⟨K.2.1 a c r1.1 q, r1.2⟩, r2, r3, r4, r5, fun q => (r6 q).keep K⟩
theorem Ary.lt (A : Ary Z h a ty nm vs) : a < h.size := by obtain ⟨c, r1, -⟩ := A; exact r1.lt
theorem Is.lt {x : Ent} (I : Is Z h x) : x.1 < h.size := by
  obtain ⟨a, ⟨C, fs⟩ | ⟨ty, nm, vs⟩⟩ := x
  · exact I.1.lt
  · exact Ary.lt I
theorem Is.ext {x : Ent} (I : Is Z h x) (E : Ext h h') : Is Z h' x := by
  obtain ⟨a, ⟨C, fs⟩ | ⟨ty, nm, vs⟩⟩ := x
  · exact ⟨I.1.ext E, fun f hf => (I.2 f hf).ext E⟩
  · exact Ary.ext I E
theorem Is.keep {x : Ent} (I : Is Z h x) (K : Keep h h' ws) (q : x.1 ∉ ws) : Is Z h' x := by
  obtain ⟨a, ⟨C, fs⟩ | ⟨ty, nm, vs⟩⟩ := x
  · exact ⟨I.1.keep K, fun f hf => (I.2 f hf).keep K q⟩
  · exact Ary.keep I K q
theorem IsS.ext {y : SE} (I : IsS Z h y) (E : Ext h h') : IsS Z h' y := ⟨I.1.ext E, I.2.1.ext E, I.2.2.1.ext E, I.2.2.2.ext E⟩
theorem IsS.keep {y : SE} (I : IsS Z h y) (K : Keep h h' ws) (q : y.1 ∉ ws) (r : y.2.1 ∉ ws) : IsS Z h' y := ⟨I.1.keep K, I.2.1.keep K q, I.2.2.1.keep K q, I.2.2.2.keep K r⟩
/-- the tables and the heap go on, the heap at its end -/
theorem Hp.move (P : Hp g vm h H Lt) (C : CHr g.Z g.EL vm h vm1 h') (E : Ext h h') : Hp g vm1 h' H Lt :=
  ⟨fun x hx => ⟨(P.1 x hx).1.ext E, (P.1 x hx).2.1, (P.1 x hx).2.2.1, C.safe (P.1 x hx).1.lt (P.1 x hx).2.2.2⟩, P.2.1, fun y hy => (P.2.2.1 y hy).ext E, P.2.2.2⟩
theorem Hp.perm (P : Hp g vm h H Lt) (q : H.Perm H') : Hp g vm h H' Lt :=
  ⟨fun x hx => P.1 x (q.mem_iff.mpr hx), (q.map Prod.fst).nodup_iff.mp P.2.1, P.2.2.1, fun x hx => P.2.2.2 x (q.mem_iff.mpr hx)⟩
theorem perm_front {α : Type} {x : α} : ∀ {l : List α} {i : Nat}, l[i]? = some x → (x :: l.eraseIdx i).Perm l
  | [], _, h => by simp at h
  | a :: l, 0, h => by
    rw [List.getElem?_cons_zero] at h
    cases h
    exact List.Perm.refl _
  | a :: l, i + 1, h => by
    rw [List.getElem?_cons_succ] at h
    exact (List.Perm.swap a x _).trans ((perm_front h).cons a)
theorem Hp.front (P : Hp g vm h H Lt) {i : Nat} {x : Ent} (hi : H[i]? = some x) : Hp g vm h (x :: H.eraseIdx i) Lt := by
  exact P.perm (perm_front hi).symm
theorem Hp.sub (P : Hp g vm h H Lt) (q : H'.Sublist H) : Hp g vm h H' Lt :=
  ⟨fun x hx => P.1 x (q.subset hx), (q.map Prod.fst).nodup P.2.1, P.2.2.1, fun x hx => P.2.2.2 x (q.subset hx)⟩
theorem Hp.del (P : Hp g vm h H Lt) (i : Nat) : Hp g vm h (H.eraseIdx i) Lt := P.sub (List.eraseIdx_sublist H i)
theorem Hp.lsub (P : Hp g vm h H Lt) (q : ∀ y ∈ Lt', y ∈ Lt) : Hp g vm h H Lt' := ⟨P.1, P.2.1, fun y hy => P.2.2.1 y (q y hy), fun x hx y hy => P.2.2.2 x hx y (q y hy)⟩
theorem Hp.add (P : Hp g vm h H Lt) {x : Ent} (hI : Is g.Z h x) (hL : Ld g.Z g.a0 x) (h0 : g.Z.heap.size ≤ x.1) (hs : Safe g.Z g.EL vm h x.1) (hn : ∀ y ∈ H, y.1 ≠ x.1) (hl : ∀ y ∈ Lt, x.1 ≠ y.1 ∧ x.1 ≠ y.2.1) : Hp g vm h (x :: H) Lt := by
  refine ⟨fun y hy => ?_, ?_, P.2.2.1, fun y hy => ?_⟩
  · rcases List.mem_cons.mp hy with rfl | hy
    · exact ⟨hI, hL, h0, hs⟩
    · exact P.1 y hy
  · rw [List.map_cons, List.nodup_cons]
    refine ⟨fun q => ?_, P.2.1⟩
    obtain ⟨y, hy, e⟩ := List.mem_map.mp q
    exact hn y hy e
  · rcases List.mem_cons.mp hy with rfl | hy
    · exact hl
    · exact P.2.2.2 y hy
/-- a new cell at the heap's end -/
theorem Hp.born (P : Hp g vm h H Lt) (HC : CHv g.Z g.EL vm h) (E0 : Ext g.Z.heap h) (E : Ext h h') {x : Ent} (ha : x.1 = h.size) (hI : Is g.Z h' x) (hL : Ld g.Z g.a0 x) : Hp g vm h' (x :: H) Lt := by
  have C := CHr.ext E HC
  refine (P.move C E).add hI hL (by rw [ha]; exact E0.1) ?_ (fun y hy => ?_) (fun y hy => ?_)
  · intro B
    have B' := (HC.step fun _ _ _ q => E.2 _ _ q).2 _ B
    obtain ⟨cell, q⟩ := B'.there
    have := (Array.getElem?_eq_some_iff.mp q).1
    rw [ha] at this; omega
  · exact fun e => Nat.lt_irrefl _ (Nat.lt_of_lt_of_eq (P.1 y hy).1.lt (e.trans ha).symm)
  · have q1 := (P.2.2.1 y hy).1.lt
    have q2 := (P.2.2.1 y hy).2.2.2.lt
    exact ⟨fun e => Nat.lt_irrefl _ (Nat.lt_of_lt_of_eq q1 (e.symm.trans ha).symm), fun e => Nat.lt_irrefl _ (Nat.lt_of_lt_of_eq q2 (e.symm.trans ha).symm)⟩
theorem Hp.upd (P : Hp g vm h H Lt) (C : CHr g.Z g.EL vm h vm1 h') (K : Keep h h' [a]) {i : Nat} {x x' : Ent} (hi : H[i]? = some x) (ha : x.1 = a) (ha' : x'.1 = a) (hI : Is g.Z h' x') (hL : Ld g.Z g.a0 x') : Hp g vm1 h' (H.set i x') Lt := by
  obtain ⟨hl, hg⟩ := List.getElem?_eq_some_iff.mp hi
  have hmap : (H.set i x').map Prod.fst = H.map Prod.fst := by
    rw [List.map_set, ha']
    apply List.ext_getElem?
    intro j
    rw [List.getElem?_set]
    split
    · rename_i e; subst e
      rw [if_pos (by simpa using hl), List.getElem?_map, hi, ← ha]; rfl
    · rfl
  have hx : x ∈ H := hg ▸ List.getElem_mem hl
  have hmem : ∀ z ∈ H.set i x', z = x' ∨ (z ∈ H ∧ z.1 ≠ a) := fun z hz => by
    obtain ⟨j, hj⟩ := List.mem_iff_getElem?.mp hz
    rw [List.getElem?_set] at hj
    split at hj
    · exact Or.inl (Option.some.inj hj).symm
    · rename_i hne
      refine Or.inr ⟨List.mem_iff_getElem?.mpr ⟨j, hj⟩, fun e => hne ?_⟩
      obtain ⟨hjl, hjg⟩ := List.getElem?_eq_some_iff.mp hj
      have e1 : (H.map Prod.fst)[i]'(by simpa using hl) = (H.map Prod.fst)[j]'(by simpa using hjl) := by
        rw [List.getElem_map, List.getElem_map, hg, hjg, ha, e]
      exact (List.getElem_inj P.2.1).mp e1
  refine ⟨fun z hz => ?_, by rw [hmap]; exact P.2.1, fun y hy => ?_, fun z hz y hy => ?_⟩
  · rcases hmem z hz with rfl | ⟨hz, hne⟩
    · refine ⟨hI, hL, by rw [ha', ← ha]; exact (P.1 x hx).2.2.1, ?_⟩
      have := C.safe (P.1 x hx).1.lt (P.1 x hx).2.2.2
      rw [ha', ← ha]; exact this
    · exact ⟨(P.1 z hz).1.keep K (fun q => hne (List.mem_singleton.mp q)), (P.1 z hz).2.1, (P.1 z hz).2.2.1, C.safe (P.1 z hz).1.lt (P.1 z hz).2.2.2⟩
  · have q := P.2.2.2 x hx y hy
    rw [ha] at q
    exact (P.2.2.1 y hy).keep K (fun r => q.1 (List.mem_singleton.mp r).symm) (fun r => q.2 (List.mem_singleton.mp r).symm)
  · rcases hmem z hz with rfl | ⟨hz, -⟩
    · have q := P.2.2.2 x hx y hy
      rw [ha'] ; rw [ha] at q; exact q
    · exact P.2.2.2 z hz y hy
theorem Hp.lit (P : Hp g vm h H Lt) {y : SE} (I : IsS g.Z h y) (q : ∀ x ∈ H, x.1 ≠ y.1 ∧ x.1 ≠ y.2.1) : Hp g vm h H (y :: Lt) := by
  refine ⟨P.1, P.2.1, fun z hz => ?_, fun x hx z hz => ?_⟩
  · rcases List.mem_cons.mp hz with rfl | hz
    · exact I
    · exact P.2.2.1 z hz
  · rcases List.mem_cons.mp hz with rfl | hz
    · exact q x hx
    · exact P.2.2.2 x hx z hz
/-- a String that is made: it and its bytes are never written again -/
theorem Hp.freeze {cd : Int32} {n : String} {fs : List FD} (P : Hp g vm h ((a, .inl ("java/lang/String", fs)) :: (b, .inr (.byte, n, vs)) :: H) Lt)
    (f1 : ("java/lang/String", "value", "[B", Value.ref b) ∈ fs) (f2 : ("java/lang/String", "coder", "B", Value.int cd) ∈ fs) : Hp g vm h H ((a, b, cd, vs) :: Lt) := by
  have q := P.2.1
  simp only [List.map_cons, List.nodup_cons, List.mem_cons, not_or] at q
  have I1 := (P.1 _ (List.mem_cons_self ..)).1
  have I2 := (P.1 _ (List.mem_cons_of_mem _ (List.mem_cons_self ..))).1
  have I2' : Ary g.Z h b .byte "" vs := by
    obtain ⟨c, r1, r2, r3, r4, r5, r6⟩ := I2
    exact ⟨c, r1, r2, r3, r4, r5, fun q => absurd rfl q⟩
  have P' : Hp g vm h H Lt := P.sub ((List.sublist_cons_self _ _).trans (List.sublist_cons_self _ _))
  refine P'.lit ⟨I1.1, I1.2 _ f1, I1.2 _ f2, I2'⟩ fun x hx => ⟨fun e => ?_, fun e => ?_⟩
  · exact q.1.2 (List.mem_map.mpr ⟨x, hx, e⟩)
  · exact q.2.1 (List.mem_map.mpr ⟨x, hx, e⟩)
/-- .. whose bytes are another String's -/
theorem Hp.freezeL {cd cd' : Int32} {a' : Addr} {fs : List FD} (P : Hp g vm h ((a, .inl ("java/lang/String", fs)) :: H) Lt)
    (f1 : ("java/lang/String", "value", "[B", Value.ref b) ∈ fs) (f2 : ("java/lang/String", "coder", "B", Value.int cd) ∈ fs) (hm : (a', b, cd', vs) ∈ Lt) : Hp g vm h H ((a, b, cd, vs) :: Lt) := by
  have q := P.2.1
  simp only [List.map_cons, List.nodup_cons] at q
  have I1 := (P.1 _ (List.mem_cons_self ..)).1
  refine (P.del 0).lit ⟨I1.1, I1.2 _ f1, I1.2 _ f2, (P.2.2.1 _ hm).2.2.2⟩ fun x hx => ⟨fun e => q.1 (List.mem_map.mpr ⟨x, hx, e⟩), ?_⟩
  exact (P.2.2.2 x (List.mem_cons_of_mem _ hx) _ hm).2
/-- what holds wherever the list holds -/
abbrev Al (g : GG) (H : List Ent) (Lt : List SE) (P : Heap → Prop) : Prop := ∀ vm h, Ext g.Z.heap h → Hp g vm h H Lt → P h
theorem fO {i j : Nat} {C O n d : String} {fs : List FD} {v : Value} (hi : H[i]? = some (a, .inl (C, fs))) (hf : fs[j]? = some (O, n, d, v)) : Al g H Lt fun h => Fld g.Z h a O n d v := fun vm h _ P =>
  (P.1 _ (List.mem_of_getElem? hi)).1.2 _ (List.mem_of_getElem? hf)
theorem fE {i : Nat} {C : String} {fs : List FD} (hi : H[i]? = some (a, .inl (C, fs))) : Al g H Lt fun h => Exa g.Z h a C := fun vm h _ P => (P.1 _ (List.mem_of_getElem? hi)).1.1
theorem aH {i : Nat} (hi : H[i]? = some (a, .inr (ty, nm, vs))) : Al g H Lt fun h => Ary g.Z h a ty nm vs := fun vm h _ P => (P.1 _ (List.mem_of_getElem? hi)).1
theorem sE {cd : Int32} (hm : (a, b, cd, vs) ∈ Lt) : Al g H Lt fun h => Exa g.Z h a "java/lang/String" := fun vm h _ P => (P.2.2.1 _ hm).1
theorem sV {cd : Int32} (hm : (a, b, cd, vs) ∈ Lt) : Al g H Lt fun h => Fld g.Z h a "java/lang/String" "value" "[B" (.ref b) := fun vm h _ P => (P.2.2.1 _ hm).2.1
theorem sC {cd : Int32} (hm : (a, b, cd, vs) ∈ Lt) : Al g H Lt fun h => Fld g.Z h a "java/lang/String" "coder" "B" (.int cd) := fun vm h _ P => (P.2.2.1 _ hm).2.2.1
theorem sA {cd : Int32} (hm : (a, b, cd, vs) ∈ Lt) : Al g H Lt fun h => Ary g.Z h b .byte "" vs := fun vm h _ P => (P.2.2.1 _ hm).2.2.2
theorem Al.old {P : Heap → Prop} (hP : ∀ h, Ext g.Z.heap h → P h) : Al g H Lt P := fun _ h E _ => hP h E
theorem Ary.cell (A : Ary Z h a ty nm vs) : ∃ c : Cell, Jvm.RoadKit.Arr Z h a c ty ∧ c.slots.size = vs.length ∧ ∀ i : Nat, c.slots[i]? = vs[i]? := by
  obtain ⟨c, r1, r2, -⟩ := A
  exact ⟨c, r1, by rw [r2]; simp, fun i => by rw [r2]; simp⟩
end Heap
/-! OWN WALKING KIT, part 2: running, goal, contract, and one rule an instruction. -/
def Rn (g : GG) (D : DD) (M : MM) (T : State) (A : Vm → Heap → Prop) (cs ss : Nat) : Prop :=
  (GW g ∧ M.p.tables.exec = Jvm.exec ∧ M.c.code = D.cd ∧ M.c.maxLocals = D.mx ∧ M.meth.sig.returnType = D.rt ∧ M.meth.locks = false ∧ M.meth.name = D.y.name) ∧
  ∃ (vm0 : Vm) (k0 : Nat) (locs : List Loc), Stand M.p g.l M.e D.rm (M.s.setVm vm0) M.m M.args M.below M.meth M.c T locs cs ss ∧ M.s.Since vm0 k0 ∧ k0 ≤ T.heap.size ∧ g.Z.Warmed39 vm0 ∧ vm0.findClass D.y.cls = some M.m.cls ∧
    CHr g.Z g.EL M.s.vm M.s.heap vm0 T.heap ∧ Fr g.Z.heap.size locs ∧ Ext g.Z.heap T.heap ∧ A vm0 T.heap
abbrev RH (g : GG) (D : DD) (M : MM) (T : State) (H : List Ent) (Lt : List SE) (cs ss : Nat) : Prop := Rn g D M T (fun vm h => Hp g vm h H Lt) cs ss
def Fn (g : GG) (D : DD) (M : MM) (Q : Option Value → Vm → Heap → Prop) (U : State) : Prop :=
  ∃ (t : State) (v : Option Value) (L : List Loc), Steps M.p.tables M.e M.below U t ∧ t.status = .running ∧ Ended t M.below (.returned v) ∧ Q v t.vm t.heap ∧ Fr g.Z.heap.size L ∧ CHr g.Z g.EL M.s.vm M.s.heap t.vm t.heap ∧ Ext g.Z.heap t.heap ∧
    ReturnedEndW M.s (.returned v) t L D.rm.cells D.rm.slots
def CtW (g : GG) (D : DD) (ws : List Jvm.Cond) (as : Array Value) (H : List Ent) (Lt : List SE) (Q : Option Value → Vm → Heap → Prop) : Prop :=
  MetFree g.l D.y (head1 (Jvm.Cond.code D.y D.cd D.mx D.rt :: ws) D.rm) (fun a U => a = as ∧ g.Z.Warmed39 U.vm ∧ CHv g.Z g.EL U.vm U.heap ∧ Ext g.Z.heap U.heap ∧ Hp g U.vm U.heap H Lt) (fun _ _ _ _ _ => True)
    (fun _ U o U' => ∃ v L, o = .returned v ∧ Q v U'.vm U'.heap ∧ Fr g.Z.heap.size L ∧ CHr g.Z g.EL U.vm U.heap U'.vm U'.heap ∧ Ext g.Z.heap U'.heap ∧ ReturnedEndW U o U' L D.rm.cells D.rm.slots)
abbrev Ct (g : GG) (D : DD) (as : Array Value) (H : List Ent) (Lt : List SE) (Q : Option Value → Vm → Heap → Prop) : Prop := CtW g D [] as H Lt Q
section Rules
variable {g : GG} {D D' : DD} {M : MM} {T : State} {A A' : Vm → Heap → Prop} {cs ss : Nat} {Q Q' : Option Value → Vm → Heap → Prop} {pc pc' : Nat} {Ls Ls' : Array Slot} {S : List Value} {H H' : List Ent} {Lt Lt' : List SE} {as : Array Value} {ws : List Jvm.Cond}
theorem ext_rfl (h : Heap) : Ext h h := ⟨Nat.le_refl _, fun _ _ q => q⟩
theorem ext_trans {h h1 h2 : Heap} (E : Ext h h1) (E' : Ext h1 h2) : Ext h h2 := ⟨Nat.le_trans E.1 E'.1, fun a c q => E'.2 a c (E.2 a c q)⟩
theorem Rn.gw (B : Rn g D M T A cs ss) : GW g := B.1.1
theorem Rn.hw (B : Rn g D M T A cs ss) : ∀ d ∈ tables_1, d.before g.a0 g.Z = true := B.1.1.1
theorem Rn.hx (B : Rn g D M T A cs ss) : M.p.tables.exec = Jvm.exec := B.1.2.1
theorem Rn.cd (B : Rn g D M T A cs ss) : M.c.code = D.cd := B.1.2.2.1
theorem Rn.here (B : Rn g D M T A cs ss) : At T M.m M.c M.below := by obtain ⟨-, vm0, k0, locs, X, -⟩ := B; exact X.here
theorem Rn.map (B : Rn g D M T A cs ss) (q : ∀ vm h, Ext g.Z.heap h → A vm h → A' vm h) : Rn g D M T A' cs ss := by
  obtain ⟨st, vm0, k0, locs, X, hS, hk, hZ, hown, hC, N, E0, hH⟩ := B
  exact ⟨st, vm0, k0, locs, X, hS, hk, hZ, hown, hC, N, E0, q _ _ E0 hH⟩
theorem Rn.ex {α : Type} {P : α → Vm → Heap → Prop} (B : Rn g D M T (fun vm h => ∃ x, P x vm h) cs ss) : ∃ x, Rn g D M T (P x) cs ss := by
  obtain ⟨st, vm0, k0, locs, X, hS, hk, hZ, hown, hC, N, E0, x, hH⟩ := B
  exact ⟨x, st, vm0, k0, locs, X, hS, hk, hZ, hown, hC, N, E0, hH⟩
theorem Rn.and {P : Prop} (B : Rn g D M T (fun vm h => P ∧ A vm h) cs ss) : P ∧ Rn g D M T A cs ss := by
  obtain ⟨st, vm0, k0, locs, X, hS, hk, hZ, hown, hC, N, E0, x, hH⟩ := B
  exact ⟨x, st, vm0, k0, locs, X, hS, hk, hZ, hown, hC, N, E0, hH⟩
theorem Rn.or (B : Rn g D M T (fun vm h => A vm h ∨ A' vm h) cs ss) : Rn g D M T A cs ss ∨ Rn g D M T A' cs ss := by
  obtain ⟨st, vm0, k0, locs, X, hS, hk, hZ, hown, hC, N, E0, hH | hH⟩ := B
  · exact Or.inl ⟨st, vm0, k0, locs, X, hS, hk, hZ, hown, hC, N, E0, hH⟩
  · exact Or.inr ⟨st, vm0, k0, locs, X, hS, hk, hZ, hown, hC, N, E0, hH⟩
theorem Rn.front (B : RH g D M T H Lt cs ss) {i : Nat} {x : Ent} (hi : H[i]? = some x) (e : x :: H.eraseIdx i = H') : RH g D M T H' Lt cs ss := B.map fun _ _ _ P => e ▸ P.front hi
theorem Rn.del (B : RH g D M T H Lt cs ss) (i : Nat) (e : H.eraseIdx i = H') : RH g D M T H' Lt cs ss := B.map fun _ _ _ P => e ▸ P.del i
theorem Rn.lsub (B : RH g D M T H Lt cs ss) (q : ∀ y ∈ Lt', y ∈ Lt) : RH g D M T H Lt' cs ss := B.map fun _ _ _ P => P.lsub q
theorem Rn.mono (B : Rn g D M T A cs ss) {cs' ss' : Nat} (h1 : cs ≤ cs') (h2 : ss ≤ ss') : Rn g D M T A cs' ss' := by
  obtain ⟨st, vm0, k0, locs, X, r⟩ := B
  exact ⟨st, vm0, k0, locs, X.mono h1 h2, r⟩
theorem Fn.go {U U' : State} (F : Fn g D M Q U') (st : ∀ t, Steps M.p.tables M.e M.below U' t → Steps M.p.tables M.e M.below U t) : Fn g D M Q U := by
  obtain ⟨t, v, L, h1, r⟩ := F
  exact ⟨t, v, L, st _ h1, r⟩
theorem CtW.body (W : GW g) (hpl : plainFor D.y = true) (ef : ∀ m, entryFrame m as D.mx = mkF m 0 Ls []) (K : ∀ M T, RH g D M T H Lt 0 0 → Fn g D M Q (T.setTop (mkF M.m 0 Ls []))) : CtW g D ws as H Lt Q := by
  refine MetFree.of_bodySF hpl hisR ?_
  intro p e s m args below meth c s₁ Bd hml0 hP hK
  obtain ⟨rfl, hZ, hC, hE, hH⟩ := hP
  have hown : s.vm.findClass D.y.cls = some m.cls := findClass_of_methodNamed Bd.named
  have hnm := (name_of_methodNamed Bd.named Bd.method).1
  have X0 := Stand.of_body Bd
  have e0 : s₁.heap = s.heap := by rw [Bd.state]; rfl
  obtain ⟨t, v, L, h1, h2, h3, h4, h5, h6, h7, h8⟩ := K (p, e, s, m, args, below, meth, c) s₁ ⟨⟨W, Bd.exec, Bd.bytes, hml0, Bd.returns, Bd.notSynchronized, hnm⟩, s.vm, 0, [], X0, (State.WarmedH.refl s).since 0, Nat.zero_le _, hZ, hown, by rw [e0]; exact CHr.refl hC, Fr.nil _, by rw [e0]; exact hE, by rw [e0]; exact hH⟩
  exact ⟨t, _, castTop (ef m) h1, h2, h3, v, L, rfl, h4, h5, h6, h7, h8⟩
/-! returns -/
theorem endW {s t : State} {o : Outcome} {L : List Loc} {k n k' n' : Nat} (h : ReturnedEndW s o t L k n) (h1 : k ≤ k') (h2 : n ≤ n') : ReturnedEndW s o t L k' n' := ⟨h.1, h.2.1, h.2.2.1, h.2.2.2.mono h1 h2⟩
theorem r_ret (B : RH g D M T H Lt cs ss) (hd : decode D.cd pc = .ok (.return_, 1)) (hr : D.rt = none) (hc : cs ≤ D.rm.cells) (hs : ss ≤ D.rm.slots) (hQ : ∀ vm h, Hp g vm h H Lt → Q none vm h) : Fn g D M Q (T.setTop (mkF M.m pc Ls [])) := by
  obtain ⟨⟨W, hx, hcd, hml, hrt, hlk, hnm⟩, vm0, k0, locs, X, hS, hk, hZ, hown, hC, N, E0, hH⟩ := B
  obtain ⟨fs, hl, h1, h2, h3⟩ := X.leaveW hS hk (v := none) (fun _ => rfl) hlk
  have hat := CHv.at X hZ W.2.1 hC.1
  exact ⟨T.setFrames fs, none, locs, X.returnOut hx (hrt.trans hr) (hb hcd hd) hl, h1, h2, hQ _ _ (hH.move hat (ext_rfl _)), N, hC.trans hat, E0, endW h3 hc hs⟩
theorem r_retv (B : RH g D M T H Lt cs ss) {i : Instr} {w : Value} {t : FieldType} {rest : List Value} (hd : decode D.cd pc = .ok (i, 1)) (hr : D.rt = some t) (hn : narrow t w = w)
    (hi : (i = .ireturn ∧ (t = .int ∨ t = .boolean ∨ t = .byte ∨ t = .char ∨ t = .short) ∧ ∃ z, w = .int z) ∨ (i = .lreturn ∧ t = .long ∧ ∃ z, w = .long z) ∨ (i = .dreturn ∧ t = .double ∧ ∃ z, w = .double z) ∨ (i = .freturn ∧ t = .float ∧ ∃ z, w = .float z) ∨ (i = .areturn ∧ t.isReference = true ∧ w.isRef = true))
    (hc : cs ≤ D.rm.cells) (hs : ss ≤ D.rm.slots) (hQ : ∀ vm h, Hp g vm h H Lt → Q (some w) vm h) : Fn g D M Q (T.setTop (mkF M.m pc Ls (w :: rest))) := by
  obtain ⟨⟨W, hx, hcd, hml, hrt, hlk, hnm⟩, vm0, k0, locs, X, hS, hk, hZ, hown, hC, N, E0, hH⟩ := B
  obtain ⟨fs, hl, h1, h2, h3⟩ := X.leaveW hS hk (v := some w) (fun q => by rw [hrt, hr] at q; cases q) hlk
  have hat := CHv.at X hZ W.2.1 hC.1
  exact ⟨T.setFrames fs, some w, locs, retOut X hx (hrt.trans hr) hn hi (hb hcd hd) hl, h1, h2, hQ _ _ (hH.move hat (ext_rfl _)), N, hC.trans hat, E0, endW h3 hc hs⟩
theorem r_reti (B : RH g D M T H Lt cs ss) {z : Int32} {t : FieldType} {rest : List Value} (hd : decode D.cd pc = .ok (.ireturn, 1)) (hr : D.rt = some t) (ht : t = .int ∨ t = .boolean ∨ t = .byte ∨ t = .char ∨ t = .short) (hn : narrow t (.int z) = .int z)
    (hc : cs ≤ D.rm.cells) (hs : ss ≤ D.rm.slots) (hQ : ∀ vm h, Hp g vm h H Lt → Q (some (.int z)) vm h) : Fn g D M Q (T.setTop (mkF M.m pc Ls (.int z :: rest))) :=
  r_retv B hd hr hn (Or.inl ⟨rfl, ht, z, rfl⟩) hc hs hQ
theorem r_reta (B : RH g D M T H Lt cs ss) {w : Value} {t : FieldType} {rest : List Value} (hd : decode D.cd pc = .ok (.areturn, 1)) (hr : D.rt = some t) (ht : t.isReference = true) (hw : w.isRef = true)
    (hc : cs ≤ D.rm.cells) (hs : ss ≤ D.rm.slots) (hQ : ∀ vm h, Hp g vm h H Lt → Q (some w) vm h) : Fn g D M Q (T.setTop (mkF M.m pc Ls (w :: rest))) :=
  r_retv B hd hr (by cases t <;> first | (cases w <;> first | rfl | cases hw) | cases ht) (Or.inr (Or.inr (Or.inr (Or.inr ⟨rfl, ht, hw⟩)))) hc hs hQ
theorem r_retj (B : RH g D M T H Lt cs ss) {z : Int64} {rest : List Value} (hd : decode D.cd pc = .ok (.lreturn, 1)) (hr : D.rt = some .long)
    (hc : cs ≤ D.rm.cells) (hs : ss ≤ D.rm.slots) (hQ : ∀ vm h, Hp g vm h H Lt → Q (some (.long z)) vm h) : Fn g D M Q (T.setTop (mkF M.m pc Ls (.long z :: rest))) :=
  r_retv B hd hr rfl (Or.inr (Or.inl ⟨rfl, rfl, z, rfl⟩)) hc hs hQ
theorem r_retd (B : RH g D M T H Lt cs ss) {z : UInt64} {rest : List Value} (hd : decode D.cd pc = .ok (.dreturn, 1)) (hr : D.rt = some .double)
    (hc : cs ≤ D.rm.cells) (hs : ss ≤ D.rm.slots) (hQ : ∀ vm h, Hp g vm h H Lt → Q (some (.double z)) vm h) : Fn g D M Q (T.setTop (mkF M.m pc Ls (.double z :: rest))) :=
  r_retv B hd hr rfl (Or.inr (Or.inr (Or.inl ⟨rfl, rfl, z, rfl⟩))) hc hs hQ
/-! fields -/
theorem r_get (B : RH g D M T H Lt cs ss) {ix : Nat} {R0 O n d host : String} {a : Addr} {v : Value} (hd : decode D.cd pc = .ok (.getfield ix, 3)) (hp : pc + 3 = pc')
    (w : (Jvm.Cond.fieldLink D.y.cls ix R0 n d).before g.a0 g.Z = true ∨ (Jvm.Cond.fieldLinkNest D.y.cls ix R0 n d host).before g.a0 g.Z = true) (via : Via g.Z R0 O n d) (F : Al g H Lt fun h => Fld g.Z h a O n d v)
    (K : ∀ T', RH g D M T' H Lt cs ss → Fn g D M Q (T'.setTop (mkF M.m pc' Ls (v :: S)))) : Fn g D M Q (T.setTop (mkF M.m pc Ls (.ref a :: S))) := by
  subst hp
  obtain ⟨st, vm0, k0, locs, X, hS, hk, hZ, hown, hC, N, E0, hH⟩ := B
  obtain ⟨T', X', e', stp⟩ := getF (Z := g.Z) (a0 := g.a0) X st.2.1 hZ hown w via rfl (F _ _ E0 hH) (g := mkF M.m pc Ls (.ref a :: S)) rfl rfl (hb st.2.2.1 hd)
  exact (K T' ⟨st, vm0, k0, locs, X', hS, by rw [e']; exact hk, hZ, hown, by rw [e']; exact hC, N, by rw [e']; exact E0, by rw [e']; exact hH⟩).go stp
theorem r_gets (B : RH g D M T H Lt cs ss) {ix : Nat} {R0 O n d host : String} {v : Value} (hd : decode D.cd pc = .ok (.getstatic ix, 3)) (hp : pc + 3 = pc')
    (w : (Jvm.Cond.fieldLink D.y.cls ix R0 n d).before g.a0 g.Z = true ∨ (Jvm.Cond.fieldLinkNest D.y.cls ix R0 n d host).before g.a0 g.Z = true) (via : Via g.Z R0 O n d) (F : Sta g.Z g.Z.heap O n d v)
    (K : ∀ T', RH g D M T' H Lt cs ss → Fn g D M Q (T'.setTop (mkF M.m pc' Ls (v :: S)))) : Fn g D M Q (T.setTop (mkF M.m pc Ls S)) := by
  subst hp
  obtain ⟨st, vm0, k0, locs, X, hS, hk, hZ, hown, hC, N, E0, hH⟩ := B
  obtain ⟨T', X', e', stp⟩ := getS2 (Z := g.Z) (a0 := g.a0) X st.2.1 hZ hown w via rfl (F.ext E0) (g := mkF M.m pc Ls S) rfl (hb st.2.2.1 hd)
  exact (K T' ⟨st, vm0, k0, locs, X', hS, by rw [e']; exact hk, hZ, hown, by rw [e']; exact hC, N, by rw [e']; exact E0, by rw [e']; exact hH⟩).go stp
theorem is_put {Z : State} {h h' : Heap} {a0 : Array Value} {a : Addr} {C O n d : String} {fs : List FD} {j : Nat} {old v : Value} (I : Is Z h (a, .inl (C, fs))) (L : Lays Z a0 C fs) (hf : fs[j]? = some (O, n, d, old)) (W : Wr h h' a (Jvm.RoadKit.slotOf Z O n d) v) : Is Z h' (a, .inl (C, fs.set j (O, n, d, v))) ∧ Lays Z a0 C (fs.set j (O, n, d, v)) := by
  obtain ⟨hj, hg⟩ := List.getElem?_eq_some_iff.mp hf
  have hmap : (fs.set j (O, n, d, v)).map (fun f => f.2.1) = fs.map fun f => f.2.1 := by
    rw [List.map_set]
    apply List.ext_getElem?
    intro i
    rw [List.getElem?_set]
    split
    · rename_i e; subst e
      rw [if_pos (by simpa using hj), List.getElem?_map, hf]; rfl
    · rfl
  have hmem : ∀ z ∈ fs.set j (O, n, d, v), z = (O, n, d, v) ∨ (z ∈ fs ∧ z.2.1 ≠ n) := fun z hz => by
    obtain ⟨i, hi⟩ := List.mem_iff_getElem?.mp hz
    rw [List.getElem?_set] at hi
    split at hi
    · exact Or.inl (Option.some.inj hi).symm
    · rename_i hne
      refine Or.inr ⟨List.mem_iff_getElem?.mpr ⟨i, hi⟩, fun e => hne ?_⟩
      obtain ⟨hil, hig⟩ := List.getElem?_eq_some_iff.mp hi
      have e1 : (fs.map fun f => f.2.1)[j]'(by simpa using hj) = (fs.map fun f => f.2.1)[i]'(by simpa using hil) := by
        rw [List.getElem_map, List.getElem_map, hg, hig, e]
      exact (List.getElem_inj L.1).mp e1
  have hx : (O, n, d, old) ∈ fs := List.mem_of_getElem? hf
  refine ⟨⟨I.1.wr W, fun z hz => ?_⟩, by rw [hmap]; exact L.1, fun z hz => ?_⟩
  · rcases hmem z hz with rfl | ⟨hz, hne⟩
    · exact (I.2 _ hx).same W
    · obtain ⟨t1, ht1⟩ := (L.2 _ hx).2
      obtain ⟨t2, ht2⟩ := (L.2 _ hz).2
      exact (I.2 _ hz).other W (Or.inr (slot_ne (L.2 _ hz).1 (L.2 _ hx).1 hne ht2 ht1))
  · rcases hmem z hz with rfl | ⟨hz, -⟩
    · exact (show _ from L.2 (O, n, d, old) hx)
    · exact L.2 _ hz
theorem r_put (B : RH g D M T H Lt cs ss) {ix kk i j : Nat} {R0 O n d host C : String} {a : Addr} {v old : Value} {fs : List FD} {ty : FieldType} (hd : decode D.cd pc = .ok (.putfield ix, 3)) (hp : pc + 3 = pc')
    (w : (Jvm.Cond.fieldLink D.y.cls ix R0 n d).before g.a0 g.Z = true ∨ (Jvm.Cond.fieldLinkNest D.y.cls ix R0 n d host).before g.a0 g.Z = true) (via : Via g.Z R0 O n d)
    (hi : H[i]? = some (a, .inl (C, fs))) (hf : fs[j]? = some (O, n, d, old)) (L : (Jvm.Cond.lays C O n d).before g.a0 g.Z = true ∨ ((Jvm.Cond.laysFinal C O n d).before g.a0 g.Z = true ∧ D.y.cls = O ∧ D.y.name = "<init>")) (wi : (Jvm.Cond.instantiable C kk).before g.a0 g.Z = true)
    (hty : parseFieldDescriptor d = some ty) (hn : narrow ty v = v) (hft : fits ty v = true) (e : H.set i (a, .inl (C, fs.set j (O, n, d, v))) = H')
    (K : ∀ T', RH g D M T' H' Lt cs ss → Fn g D M Q (T'.setTop (mkF M.m pc' Ls S))) : Fn g D M Q (T.setTop (mkF M.m pc Ls (v :: .ref a :: S))) := by
  subst hp
  obtain ⟨st, vm0, k0, locs, X, hS, hk, hZ, hown, hC, N, E0, hH⟩ := B
  have I := hH.1 _ (List.mem_of_getElem? hi)
  obtain ⟨T', h', X', e', W, stp⟩ := putF (Z := g.Z) (a0 := g.a0) X st.2.1 hZ hown w via rfl (I.1.2 _ (List.mem_of_getElem? hf)) I.1.1 (L.imp id fun q => ⟨q.1, q.2.1, st.2.2.2.2.2.2.trans q.2.2⟩) wi hty hn hft (g := mkF M.m pc Ls (v :: .ref a :: S)) rfl rfl (hb st.2.2.1 hd)
  have C1 := CHr.wr W I.2.2.2 hC.1
  have hsz := W.size
  obtain ⟨q1, q2⟩ := is_put I.1 I.2.1 hf W
  have P' := hH.upd C1 (Keep.of_wr W) hi rfl rfl q1 q2
  rw [e] at P'
  refine (K T' ⟨st, vm0, k0, _, X', hS, by rw [e', hsz]; exact hk, hZ, hown, by rw [e']; exact hC.trans C1, Fr.snoc X' N I.2.2.1, ?_, by rw [e']; exact P'⟩).go stp
  rw [e']; exact (Old.wr ⟨rfl, E0⟩ W I.2.2.1).2
/-- putfield of an int that the field's kind narrows -/
theorem r_putn (B : RH g D M T H Lt cs ss) {ix kk i j : Nat} {R0 O n d C : String} {a : Addr} {v v' old : Value} {fs : List FD} {ty : FieldType} (hd : decode D.cd pc = .ok (.putfield ix, 3)) (hp : pc + 3 = pc')
    (w : (Jvm.Cond.fieldLink D.y.cls ix R0 n d).before g.a0 g.Z = true) (via : Via g.Z R0 O n d)
    (hi : H[i]? = some (a, .inl (C, fs))) (hf : fs[j]? = some (O, n, d, old)) (L : (Jvm.Cond.lays C O n d).before g.a0 g.Z = true ∨ ((Jvm.Cond.laysFinal C O n d).before g.a0 g.Z = true ∧ D.y.cls = O ∧ D.y.name = "<init>")) (wi : (Jvm.Cond.instantiable C kk).before g.a0 g.Z = true)
    (hty : parseFieldDescriptor d = some ty) (hn : narrow ty v = v') (hft : fits ty v' = true) (e : H.set i (a, .inl (C, fs.set j (O, n, d, v'))) = H')
    (K : ∀ T', RH g D M T' H' Lt cs ss → Fn g D M Q (T'.setTop (mkF M.m pc' Ls S))) : Fn g D M Q (T.setTop (mkF M.m pc Ls (v :: .ref a :: S))) := by
  subst hp
  obtain ⟨st, vm0, k0, locs, X, hS, hk, hZ, hown, hC, N, E0, hH⟩ := B
  have I := hH.1 _ (List.mem_of_getElem? hi)
  obtain ⟨T', h', X', e', W, stp⟩ := putFN (Z := g.Z) (a0 := g.a0) X st.2.1 hZ hown w via rfl (I.1.2 _ (List.mem_of_getElem? hf)) I.1.1 (L.imp id fun q => ⟨q.1, q.2.1, st.2.2.2.2.2.2.trans q.2.2⟩) wi hty hn hft (g := mkF M.m pc Ls (v :: .ref a :: S)) rfl rfl (hb st.2.2.1 hd)
  have C1 := CHr.wr W I.2.2.2 hC.1
  have hsz := W.size
  obtain ⟨q1, q2⟩ := is_put I.1 I.2.1 hf W
  have P' := hH.upd C1 (Keep.of_wr W) hi rfl rfl q1 q2
  rw [e] at P'
  refine (K T' ⟨st, vm0, k0, _, X', hS, by rw [e', hsz]; exact hk, hZ, hown, by rw [e']; exact hC.trans C1, Fr.snoc X' N I.2.2.1, ?_, by rw [e']; exact P'⟩).go stp
  rw [e']; exact (Old.wr ⟨rfl, E0⟩ W I.2.2.1).2
/-! new objects and arrays -/
theorem r_new (B : RH g D M T H Lt cs ss) {ix n cs' ss' : Nat} {C : String} {fs : List FD} (hd : decode D.cd pc = .ok (.new ix, 3)) (hp : pc + 3 = pc')
    (w : (Jvm.Cond.classLink D.y.cls ix C).before g.a0 g.Z = true) (wi : (Jvm.Cond.instantiable C n).before g.a0 g.Z = true) (wz : (Jvm.Cond.initialized C).before g.a0 g.Z = true) (hl : Lays g.Z g.a0 C fs)
    (hv : ∀ f ∈ fs, (parseFieldDescriptor f.2.2.1).map defaultValue = some f.2.2.2) (hc : cs + 1 = cs') (hs : ss + n = ss') (hc' : cs' ≤ D.rm.cells) (hs' : ss' ≤ D.rm.slots)
    (K : ∀ T' a, RH g D M T' ((a, .inl (C, fs)) :: H) Lt cs' ss' → Fn g D M Q (T'.setTop (mkF M.m pc' Ls (.ref a :: S)))) : Fn g D M Q (T.setTop (mkF M.m pc Ls S)) := by
  subst hp hc hs
  obtain ⟨st, vm0, k0, locs, X, hS, hk, hZ, hown, hC, N, E0, hH⟩ := B
  obtain ⟨T', h', X', e', E, A1, D1, -, stp⟩ := newO (Z := g.Z) (a0 := g.a0) X st.2.1 hZ hown w wi wz rfl (g := mkF M.m pc Ls S) rfl (hb st.2.2.1 hd) hc' hs'
  have P' := hH.born (x := (T.heap.size, .inl (C, fs))) hC.1 E0 E rfl ⟨A1, fun f hf => by
    obtain ⟨ty, ht⟩ := (hl.2 f hf).2
    have q := hv f hf
    rw [ht] at q
    rw [← Option.some.inj q]
    exact D1 (hl.2 f hf).1 ht⟩ hl
  exact (K T' _ ⟨st, vm0, k0, locs, X', hS, by rw [e']; exact Nat.le_trans hk E.1, hZ, hown, by rw [e']; exact hC.trans (CHr.ext E hC.1), N, by rw [e']; exact ext_trans E0 E, by rw [e']; exact P'⟩).go stp
theorem ary_new {Z : State} {h : Heap} {a : Addr} {k : ClassId} {ty : FieldType} {n : Int32} {nm : String} {nn : Nat} (A : Jvm.RoadKit.Arr Z h a (newA k ty n) ty) (hn : ¬ n < 0) (hnn : n.toNatClampNeg = nn) (hf : fits ty (defaultValue ty) = true) (hO : ∀ C, ty = .object C → Ovr Z k C) (hE : nm ≠ "" → Exa Z h a nm) : Ary Z h a ty nm (List.replicate nn (defaultValue ty)) := by
  refine ⟨_, A, ?_, ?_, ?_, hO, hE⟩
  · subst hnn; simp [newA]
  · have := (back32 hn).2
    rw [List.length_replicate, ← hnn]; exact this
  · intro v hv
    rw [(List.mem_replicate.mp hv).2]; exact hf
theorem r_newp (B : RH g D M T H Lt cs ss) {aty : ArrayType} {n : Int32} {nn cap cs' ss' : Nat} {ty : FieldType} {vs : List Value} {ad : String} (hd : decode D.cd pc = .ok (.newarray aty, 2)) (hp : pc + 2 = pc')
    (w : (Jvm.Cond.arrayClass ty).before g.a0 g.Z = true) (hty : newarray.typeOf aty = ty) (hn : ¬ n < 0) (hnn : n.toNatClampNeg = nn) (hcap : nn ≤ cap) (hb8 : cap * 8 ≤ 536870912) (hc : cs + 1 = cs') (hs : ss + cap = ss') (hc' : cs' ≤ D.rm.cells) (hs' : ss' ≤ D.rm.slots)
    (had : "[" ++ ty.toString = ad) (hfd : fits ty (defaultValue ty) = true) (hob : ∀ C, ty ≠ .object C) (hvs : List.replicate nn (defaultValue ty) = vs)
    (K : ∀ T' a, RH g D M T' ((a, .inr (ty, ad, vs)) :: H) Lt cs' ss' → Fn g D M Q (T'.setTop (mkF M.m pc' Ls (.ref a :: S)))) : Fn g D M Q (T.setTop (mkF M.m pc Ls (.int n :: S))) := by
  subst hp hty hc hs
  obtain ⟨st, vm0, k0, locs, X, hS, hk, hZ, hown, hC, N, E0, hH⟩ := B
  obtain ⟨T', h', cA, X', e', E, A1, A2, stp⟩ := newPE (Z := g.Z) (a0 := g.a0) X st.2.1 hZ w rfl (g := mkF M.m pc Ls (.int n :: S)) rfl (hb st.2.2.1 hd) rfl hn (cap := cap) (by rw [hnn]; exact hcap) hb8 hc' hs' had
  have P' := hH.born (x := (T.heap.size, .inr (newarray.typeOf aty, ad, vs))) hC.1 E0 E rfl (hvs ▸ ary_new A1 hn hnn hfd (fun C q => absurd q (hob C)) (fun _ => A2)) trivial
  exact (K T' _ ⟨st, vm0, k0, locs, X', hS, by rw [e']; exact Nat.le_trans hk E.1, hZ, hown, by rw [e']; exact hC.trans (CHr.ext E hC.1), N, by rw [e']; exact ext_trans E0 E, by rw [e']; exact P'⟩).go stp
theorem r_newr (B : RH g D M T H Lt cs ss) {ix : Nat} {C : String} {n : Int32} {nn cap cs' ss' : Nat} {vs : List Value} {ad : String} (hd : decode D.cd pc = .ok (.anewarray ix, 3)) (hp : pc + 3 = pc')
    (w1 : (Jvm.Cond.classLink D.y.cls ix C).before g.a0 g.Z = true) (w2 : (Jvm.Cond.arrayOver (.object C)).before g.a0 g.Z = true) (hn : ¬ n < 0) (hnn : n.toNatClampNeg = nn) (hcap : nn ≤ cap) (hb8 : cap * 8 ≤ 536870912) (hc : cs + 1 = cs') (hs : ss + cap = ss') (hc' : cs' ≤ D.rm.cells) (hs' : ss' ≤ D.rm.slots)
    (had : "[" ++ (FieldType.object C).toString = ad) (hvs : List.replicate nn Value.null = vs)
    (K : ∀ T' a, RH g D M T' ((a, .inr (.object C, ad, vs)) :: H) Lt cs' ss' → Fn g D M Q (T'.setTop (mkF M.m pc' Ls (.ref a :: S)))) : Fn g D M Q (T.setTop (mkF M.m pc Ls (.int n :: S))) := by
  subst hp hc hs
  obtain ⟨st, vm0, k0, locs, X, hS, hk, hZ, hown, hC, N, E0, hH⟩ := B
  obtain ⟨T', h', cA, X', e', E, A1, A2, A3, stp⟩ := newRE (Z := g.Z) (a0 := g.a0) X st.2.1 hZ hown w1 w2 rfl (g := mkF M.m pc Ls (.int n :: S)) rfl (hb st.2.2.1 hd) rfl hn (cap := cap) (by rw [hnn]; exact hcap) hb8 hc' hs' had
  have P' := hH.born (x := (T.heap.size, .inr (.object C, ad, vs))) hC.1 E0 E rfl (hvs ▸ ary_new A1 hn hnn rfl (fun C' q => by cases q; exact A3) (fun _ => A2)) trivial
  exact (K T' _ ⟨st, vm0, k0, locs, X', hS, by rw [e']; exact Nat.le_trans hk E.1, hZ, hown, by rw [e']; exact hC.trans (CHr.ext E hC.1), N, by rw [e']; exact ext_trans E0 E, by rw [e']; exact P'⟩).go stp
/-! arrays read and written -/
theorem xarr {Z : State} {h : Heap} {U : State} {a : Addr} {ty : FieldType} {nm : String} {vs : List Value} (hZ : Z.vm.Alike U.vm) (eU : U.heap = h) (A : Ary Z h a ty nm vs) : ∃ c : Cell, Jvm.Free.XT.Arr ty a c U ∧ c.slots.size = vs.length ∧ ∀ i : Nat, c.slots[i]? = vs[i]? := by
  obtain ⟨c, r1, r2, r3, -⟩ := A
  refine ⟨c, ⟨by rw [eU]; exact r1.1, State.isArrayOf_alike hZ r1.2.1, r1.2.2, by rw [r2]; simpa using r3⟩, by rw [r2]; simp, fun i => by rw [r2]; simp⟩
theorem r_alen (B : RH g D M T H Lt cs ss) {a : Addr} {ty : FieldType} {nm : String} {vs : List Value} {z : Int32} (hd : decode D.cd pc = .ok (.arraylength, 1)) (hp : pc + 1 = pc') (F : Al g H Lt fun h => Ary g.Z h a ty nm vs) (hz : Int32.ofNat vs.length = z)
    (K : Fn g D M Q (T.setTop (mkF M.m pc' Ls (.int z :: S)))) : Fn g D M Q (T.setTop (mkF M.m pc Ls (.ref a :: S))) := by
  subst hp; subst hz
  obtain ⟨st, vm0, k0, locs, X, hS, hk, hZ, hown, hC, N, E0, hH⟩ := B
  obtain ⟨c, r1, r2, r3⟩ := xarr (U := T) (hZ.alike.trans X.warmed.alike) rfl (F _ _ E0 hH)
  rw [← r2] at K
  exact K.go fun t => X.alen (g := mkF M.m pc Ls (.ref a :: S)) st.2.1 r1 rfl rfl (hb st.2.2.1 hd)
theorem r_aget (B : RH g D M T H Lt cs ss) {a : Addr} {ty : FieldType} {nm : String} {vs : List Value} {j : Int32} {k : Nat} {v : Value} {i : Instr} (hd : decode D.cd pc = .ok (i, 1)) (hi : i = Jvm.Free.XT.loadOf ty) (hp : pc + 1 = pc') (F : Al g H Lt fun h => Ary g.Z h a ty nm vs) (hj : j = Int32.ofNat k) (hv : vs[k]? = some v)
    (K : Fn g D M Q (T.setTop (mkF M.m pc' Ls (v :: S)))) : Fn g D M Q (T.setTop (mkF M.m pc Ls (.int j :: .ref a :: S))) := by
  subst hp; subst hi
  obtain ⟨st, vm0, k0, locs, X, hS, hk, hZ, hown, hC, N, E0, hH⟩ := B
  obtain ⟨c, r1, r2, r3⟩ := xarr (U := T) (hZ.alike.trans X.warmed.alike) rfl (F _ _ E0 hH)
  exact K.go fun t => X.aget (g := mkF M.m pc Ls (.int j :: .ref a :: S)) st.2.1 r1 hj ((r3 k).trans hv) rfl rfl (hb st.2.2.1 hd)
theorem ary_set {Z : State} {h h' : Heap} {a : Addr} {ty : FieldType} {nm : String} {vs : List Value} {k : Nat} {v : Value} (A : Ary Z h a ty nm vs) (W : Wr h h' a k v) (hf : fits ty v = true) : Ary Z h' a ty nm (vs.set k v) := by
  obtain ⟨c, r1, r2, r3, r4, r5, r6⟩ := A
  refine ⟨_, r1.same W, ?_, by rw [List.length_set]; exact r3, fun w hw => ?_, r5, fun q => (r6 q).wr W⟩
  · simp [Cell.setSlot, r2]
  · rcases List.mem_or_eq_of_mem_set hw with q | rfl
    · exact r4 w q
    · exact hf
theorem r_aputW (B : RH g D M T H Lt cs ss) {i : Nat} {a : Addr} {ty : FieldType} {nm : String} {vs : List Value} {k : Nat} {v : Value} (hi : H[i]? = some (a, .inr (ty, nm, vs))) (hf : fits ty v = true) (e : H.set i (a, .inr (ty, nm, vs.set k v)) = H')
    {U : State} {f : JFrame} (P : ∀ (vm0 : Vm) (locs : List Loc), Stand M.p g.l M.e D.rm (M.s.setVm vm0) M.m M.args M.below M.meth M.c T locs cs ss → g.Z.Warmed39 vm0 → ∀ c, Jvm.RoadKit.Arr g.Z T.heap a c ty → c.slots.size = vs.length → ∃ T' h', Stand M.p g.l M.e D.rm (M.s.setVm vm0) M.m M.args M.below M.meth M.c T' (locs ++ [⟨a, k⟩]) cs ss ∧ T'.heap = h' ∧ Wr T.heap h' a k v ∧ ∀ t, Steps M.p.tables M.e M.below (T'.setTop f) t → Steps M.p.tables M.e M.below U t)
    (K : ∀ T', RH g D M T' H' Lt cs ss → Fn g D M Q (T'.setTop f)) : Fn g D M Q U := by
  obtain ⟨st, vm0, k0, locs, X, hS, hk, hZ, hown, hC, N, E0, hH⟩ := B
  have I := hH.1 _ (List.mem_of_getElem? hi)
  have I1 : Ary g.Z T.heap a ty nm vs := I.1
  have I2 := I1
  obtain ⟨c, r1, r2', -⟩ := I2
  have r2 : c.slots.size = vs.length := by rw [r2']; simp
  obtain ⟨T', h', X', e', W, stp⟩ := P vm0 locs X hZ c r1 r2
  have C1 := CHr.wr W I.2.2.2 hC.1
  have hsz := W.size
  have P' := hH.upd C1 (Keep.of_wr W) hi rfl rfl (show Is g.Z h' (a, .inr (ty, nm, vs.set k v)) from ary_set I1 W hf) trivial
  rw [e] at P'
  refine (K T' ⟨st, vm0, k0, _, X', hS, by rw [e', hsz]; exact hk, hZ, hown, by rw [e']; exact hC.trans C1, Fr.snoc X' N I.2.2.1, ?_, by rw [e']; exact P'⟩).go stp
  rw [e']; exact (Old.wr ⟨rfl, E0⟩ W I.2.2.1).2
theorem inb {j : Int32} {k n : Nat} (hj : ¬ j < 0) (hk : j.toNatClampNeg = k) (hl : k < n) : ¬ (j < 0 ∨ n ≤ j.toNatClampNeg) := fun q => q.elim hj fun r => by rw [hk] at r; omega
theorem r_castore (B : RH g D M T H Lt cs ss) {i : Nat} {a : Addr} {nm : String} {vs : List Value} {j x x' : Int32} {k : Nat} (hd : decode D.cd pc = .ok (.castore, 1)) (hp : pc + 1 = pc') (hi : H[i]? = some (a, .inr (.char, nm, vs))) (hj : ¬ j < 0) (hk : j.toNatClampNeg = k) (hl : k < vs.length) (hx : nar .char x = x')
    (e : H.set i (a, .inr (.char, nm, vs.set k (.int x'))) = H') (K : ∀ T', RH g D M T' H' Lt cs ss → Fn g D M Q (T'.setTop (mkF M.m pc' Ls S))) : Fn g D M Q (T.setTop (mkF M.m pc Ls (.int x :: .int j :: .ref a :: S))) := by
  subst hp; subst hx; subst hk
  exact r_aputW B hi (fits_nar_char x) e (fun vm0 locs X hZ c r1 r2 => stC X B.hx hZ rfl r1 (by rw [r2]; exact inb hj rfl hl) (g := mkF M.m pc Ls (.int x :: .int j :: .ref a :: S)) rfl rfl (hb B.cd hd)) K
theorem r_bastore (B : RH g D M T H Lt cs ss) {i : Nat} {a : Addr} {nm : String} {vs : List Value} {j x x' : Int32} {k : Nat} (hd : decode D.cd pc = .ok (.bastore, 1)) (hp : pc + 1 = pc') (hi : H[i]? = some (a, .inr (.byte, nm, vs))) (hj : ¬ j < 0) (hk : j.toNatClampNeg = k) (hl : k < vs.length) (hx : nar .byte x = x')
    (e : H.set i (a, .inr (.byte, nm, vs.set k (.int x'))) = H') (K : ∀ T', RH g D M T' H' Lt cs ss → Fn g D M Q (T'.setTop (mkF M.m pc' Ls S))) : Fn g D M Q (T.setTop (mkF M.m pc Ls (.int x :: .int j :: .ref a :: S))) := by
  subst hp; subst hx; subst hk
  exact r_aputW B hi (fits_nar_byte x) e (fun vm0 locs X hZ c r1 r2 => stB X B.hx hZ rfl r1 (by rw [r2]; exact inb hj rfl hl) (g := mkF M.m pc Ls (.int x :: .int j :: .ref a :: S)) rfl rfl (hb B.cd hd)) K
theorem r_zastore (B : RH g D M T H Lt cs ss) {i : Nat} {a : Addr} {nm : String} {vs : List Value} {j x x' : Int32} {k : Nat} (hd : decode D.cd pc = .ok (.bastore, 1)) (hp : pc + 1 = pc') (hi : H[i]? = some (a, .inr (.boolean, nm, vs))) (hj : ¬ j < 0) (hk : j.toNatClampNeg = k) (hl : k < vs.length) (hx : nar .boolean x = x')
    (e : H.set i (a, .inr (.boolean, nm, vs.set k (.int x'))) = H') (K : ∀ T', RH g D M T' H' Lt cs ss → Fn g D M Q (T'.setTop (mkF M.m pc' Ls S))) : Fn g D M Q (T.setTop (mkF M.m pc Ls (.int x :: .int j :: .ref a :: S))) := by
  subst hp; subst hx; subst hk
  exact r_aputW B hi (fits_nar_bool x) e (fun vm0 locs X hZ c r1 r2 => stZ X B.hx hZ rfl r1 (by rw [r2]; exact inb hj rfl hl) (g := mkF M.m pc Ls (.int x :: .int j :: .ref a :: S)) rfl rfl (hb B.cd hd)) K
theorem r_iastore (B : RH g D M T H Lt cs ss) {i : Nat} {a : Addr} {nm : String} {vs : List Value} {j x : Int32} {k : Nat} (hd : decode D.cd pc = .ok (.iastore, 1)) (hp : pc + 1 = pc') (hi : H[i]? = some (a, .inr (.int, nm, vs))) (hj : ¬ j < 0) (hk : j.toNatClampNeg = k) (hl : k < vs.length)
    (e : H.set i (a, .inr (.int, nm, vs.set k (.int x))) = H') (K : ∀ T', RH g D M T' H' Lt cs ss → Fn g D M Q (T'.setTop (mkF M.m pc' Ls S))) : Fn g D M Q (T.setTop (mkF M.m pc Ls (.int x :: .int j :: .ref a :: S))) := by
  subst hp; subst hk
  exact r_aputW B hi rfl e (fun vm0 locs X hZ c r1 r2 => stI X B.hx hZ rfl r1 (by rw [r2]; exact inb hj rfl hl) (g := mkF M.m pc Ls (.int x :: .int j :: .ref a :: S)) rfl rfl (hb B.cd hd)) K
theorem r_lastore (B : RH g D M T H Lt cs ss) {i : Nat} {a : Addr} {nm : String} {vs : List Value} {j : Int32} {x : Int64} {k : Nat} (hd : decode D.cd pc = .ok (.lastore, 1)) (hp : pc + 1 = pc') (hi : H[i]? = some (a, .inr (.long, nm, vs))) (hj : ¬ j < 0) (hk : j.toNatClampNeg = k) (hl : k < vs.length)
    (e : H.set i (a, .inr (.long, nm, vs.set k (.long x))) = H') (K : ∀ T', RH g D M T' H' Lt cs ss → Fn g D M Q (T'.setTop (mkF M.m pc' Ls S))) : Fn g D M Q (T.setTop (mkF M.m pc Ls (.long x :: .int j :: .ref a :: S))) := by
  subst hp; subst hk
  exact r_aputW B hi rfl e (fun vm0 locs X hZ c r1 r2 => stJ X B.hx hZ rfl r1 (by rw [r2]; exact inb hj rfl hl) (g := mkF M.m pc Ls (.long x :: .int j :: .ref a :: S)) rfl rfl (hb B.cd hd)) K
/-- aastore: null, or an object that is one of the array's kind -/
theorem r_aastore (B : RH g D M T H Lt cs ss) {i : Nat} {a : Addr} {nm C : String} {vs : List Value} {j : Int32} {v : Value} {k : Nat} (hd : decode D.cd pc = .ok (.aastore, 1)) (hp : pc + 1 = pc') (hi : H[i]? = some (a, .inr (.object C, nm, vs))) (hj : ¬ j < 0) (hk : j.toNatClampNeg = k) (hl : k < vs.length)
    (hv : v = .null ∨ ∃ y, v = .ref y ∧ Al g H Lt fun h => Ins g.Z h y C true)
    (e : H.set i (a, .inr (.object C, nm, vs.set k v)) = H') (K : ∀ T', RH g D M T' H' Lt cs ss → Fn g D M Q (T'.setTop (mkF M.m pc' Ls S))) : Fn g D M Q (T.setTop (mkF M.m pc Ls (v :: .int j :: .ref a :: S))) := by
  subst hp; subst hk
  have hf : fits (.object C) v = true := by rcases hv with rfl | ⟨y, rfl, -⟩ <;> rfl
  refine r_aputW B hi hf e (fun vm0 locs X hZ c r1 r2 => ?_) K
  obtain ⟨st, vm1, k0, locs1, X1, hS, hk, hZ1, hown, hC, N, E0, hH⟩ := B
  have I1 : Ary g.Z T.heap a (.object C) nm vs := (hH.1 _ (List.mem_of_getElem? hi)).1
  obtain ⟨c2, q1, -, -, -, q5, -⟩ := I1
  have hcc : c2 = c := Option.some.inj (q1.1.symm.trans r1.1)
  subst hcc
  have hsto : Sto g.Z T.heap a v := by
    rcases hv with rfl | ⟨y, rfl, I⟩
    · exact Or.inl rfl
    · exact Sto.of r1 (q5 C rfl) (I _ _ E0 hH)
  exact stR X st.2.1 hZ rfl r1 (by rw [r2]; exact inb hj rfl hl) rfl hsto (g := mkF M.m pc Ls (v :: .int j :: .ref a :: S)) rfl rfl (hb st.2.2.1 hd)
/-! OWN WALKING KIT, part 3: plain steps (printed by mkpure.py). -/
theorem p_iload (B : Rn g D M T A cs ss) {k : Nat} {v : Int32} (hd : decode D.cd pc = .ok (.iload k, 2)) (hp : pc + 2 = pc') (hl : Ls[k]? = some (.val (.int v))) (K : Fn g D M Q (T.setTop (mkF M.m pc' Ls (.int v :: S)))) : Fn g D M Q (T.setTop (mkF M.m pc Ls (S))) := by
  subst hp
  exact K.go fun t => XS.iload (g := mkF M.m pc Ls (S)) B.here B.hx rfl (hb B.cd hd) hl
theorem p_iloadN (B : Rn g D M T A cs ss) {k : Fin 4} {v : Int32} (hd : decode D.cd pc = .ok (.iload_n k, 1)) (hp : pc + 1 = pc') (hl : Ls[k.val]? = some (.val (.int v))) (K : Fn g D M Q (T.setTop (mkF M.m pc' Ls (.int v :: S)))) : Fn g D M Q (T.setTop (mkF M.m pc Ls (S))) := by
  subst hp
  exact K.go fun t => XS.iloadN (g := mkF M.m pc Ls (S)) B.here B.hx rfl (hb B.cd hd) hl
theorem p_lload (B : Rn g D M T A cs ss) {k : Nat} {v : Int64} (hd : decode D.cd pc = .ok (.lload k, 2)) (hp : pc + 2 = pc') (hl : Ls[k]? = some (.val (.long v))) (K : Fn g D M Q (T.setTop (mkF M.m pc' Ls (.long v :: S)))) : Fn g D M Q (T.setTop (mkF M.m pc Ls (S))) := by
  subst hp
  exact K.go fun t => XS.lload (g := mkF M.m pc Ls (S)) B.here B.hx rfl (hb B.cd hd) hl
theorem p_lloadN (B : Rn g D M T A cs ss) {k : Fin 4} {v : Int64} (hd : decode D.cd pc = .ok (.lload_n k, 1)) (hp : pc + 1 = pc') (hl : Ls[k.val]? = some (.val (.long v))) (K : Fn g D M Q (T.setTop (mkF M.m pc' Ls (.long v :: S)))) : Fn g D M Q (T.setTop (mkF M.m pc Ls (S))) := by
  subst hp
  exact K.go fun t => XS.lloadN (g := mkF M.m pc Ls (S)) B.here B.hx rfl (hb B.cd hd) hl
theorem p_aload (B : Rn g D M T A cs ss) {k : Nat} {v : Value} (hd : decode D.cd pc = .ok (.aload k, 2)) (hp : pc + 2 = pc') (hl : Ls[k]? = some (.val v)) (hv : v.isRef = true) (K : Fn g D M Q (T.setTop (mkF M.m pc' Ls (v :: S)))) : Fn g D M Q (T.setTop (mkF M.m pc Ls (S))) := by
  subst hp
  exact K.go fun t => XS.aload (g := mkF M.m pc Ls (S)) B.here B.hx rfl (hb B.cd hd) hl hv
theorem p_aloadN (B : Rn g D M T A cs ss) {k : Fin 4} {v : Value} (hd : decode D.cd pc = .ok (.aload_n k, 1)) (hp : pc + 1 = pc') (hl : Ls[k.val]? = some (.val v)) (hv : v.isRef = true) (K : Fn g D M Q (T.setTop (mkF M.m pc' Ls (v :: S)))) : Fn g D M Q (T.setTop (mkF M.m pc Ls (S))) := by
  subst hp
  exact K.go fun t => XS.aloadN (g := mkF M.m pc Ls (S)) B.here B.hx rfl (hb B.cd hd) hl hv
theorem p_istore (B : Rn g D M T A cs ss) {k : Nat} {v : Int32} (hd : decode D.cd pc = .ok (.istore k, 2)) (hp : pc + 2 = pc') (hl : storeLocals Ls k (.int v) = some Ls') (K : Fn g D M Q (T.setTop (mkF M.m pc' Ls' (S)))) : Fn g D M Q (T.setTop (mkF M.m pc Ls (.int v :: S))) := by
  subst hp
  exact K.go fun t => XS.istore (g := mkF M.m pc Ls (.int v :: S)) B.here B.hx rfl (hb B.cd hd) rfl hl
theorem p_istoreN (B : Rn g D M T A cs ss) {k : Fin 4} {v : Int32} (hd : decode D.cd pc = .ok (.istore_n k, 1)) (hp : pc + 1 = pc') (hl : storeLocals Ls k.val (.int v) = some Ls') (K : Fn g D M Q (T.setTop (mkF M.m pc' Ls' (S)))) : Fn g D M Q (T.setTop (mkF M.m pc Ls (.int v :: S))) := by
  subst hp
  exact K.go fun t => XS.istoreN (g := mkF M.m pc Ls (.int v :: S)) B.here B.hx rfl (hb B.cd hd) rfl hl
theorem p_lstore (B : Rn g D M T A cs ss) {k : Nat} {v : Int64} (hd : decode D.cd pc = .ok (.lstore k, 2)) (hp : pc + 2 = pc') (hl : storeLocals Ls k (.long v) = some Ls') (K : Fn g D M Q (T.setTop (mkF M.m pc' Ls' (S)))) : Fn g D M Q (T.setTop (mkF M.m pc Ls (.long v :: S))) := by
  subst hp
  exact K.go fun t => XS.lstore (g := mkF M.m pc Ls (.long v :: S)) B.here B.hx rfl (hb B.cd hd) rfl hl
theorem p_lstoreN (B : Rn g D M T A cs ss) {k : Fin 4} {v : Int64} (hd : decode D.cd pc = .ok (.lstore_n k, 1)) (hp : pc + 1 = pc') (hl : storeLocals Ls k.val (.long v) = some Ls') (K : Fn g D M Q (T.setTop (mkF M.m pc' Ls' (S)))) : Fn g D M Q (T.setTop (mkF M.m pc Ls (.long v :: S))) := by
  subst hp
  exact K.go fun t => XS.lstoreN (g := mkF M.m pc Ls (.long v :: S)) B.here B.hx rfl (hb B.cd hd) rfl hl
theorem p_astore (B : Rn g D M T A cs ss) {k : Nat} {v : Value} (hd : decode D.cd pc = .ok (.astore k, 2)) (hp : pc + 2 = pc') (hv : v.isRef = true) (hl : storeLocals Ls k v = some Ls') (K : Fn g D M Q (T.setTop (mkF M.m pc' Ls' (S)))) : Fn g D M Q (T.setTop (mkF M.m pc Ls (v :: S))) := by
  subst hp
  exact K.go fun t => XS.astore (g := mkF M.m pc Ls (v :: S)) B.here B.hx rfl (hb B.cd hd) rfl hv hl
theorem p_astoreN (B : Rn g D M T A cs ss) {k : Fin 4} {v : Value} (hd : decode D.cd pc = .ok (.astore_n k, 1)) (hp : pc + 1 = pc') (hv : v.isRef = true) (hl : storeLocals Ls k.val v = some Ls') (K : Fn g D M Q (T.setTop (mkF M.m pc' Ls' (S)))) : Fn g D M Q (T.setTop (mkF M.m pc Ls (v :: S))) := by
  subst hp
  exact K.go fun t => XS.astoreN (g := mkF M.m pc Ls (v :: S)) B.here B.hx rfl (hb B.cd hd) rfl hv hl
theorem p_iconst (B : Rn g D M T A cs ss) {i : Int} {v : Int32} (hd : decode D.cd pc = .ok (.iconst i, 1)) (hp : pc + 1 = pc') (hv : Int32.ofInt i = v) (K : Fn g D M Q (T.setTop (mkF M.m pc' Ls (.int v :: S)))) : Fn g D M Q (T.setTop (mkF M.m pc Ls (S))) := by
  subst hp
  exact K.go fun t => Jvm.Free.XT.iconstV (g := mkF M.m pc Ls (S)) B.here B.hx rfl v (hb B.cd hd) hv
theorem p_bipush (B : Rn g D M T A cs ss) {i : Int} {v : Int32} (hd : decode D.cd pc = .ok (.bipush i, 2)) (hp : pc + 2 = pc') (hv : (Int8.ofInt i).toInt32 = v) (K : Fn g D M Q (T.setTop (mkF M.m pc' Ls (.int v :: S)))) : Fn g D M Q (T.setTop (mkF M.m pc Ls (S))) := by
  subst hp
  exact K.go fun t => Jvm.Free.XT.bipushV (g := mkF M.m pc Ls (S)) B.here B.hx rfl v (hb B.cd hd) hv
theorem p_sipush (B : Rn g D M T A cs ss) {i : Int} {v : Int32} (hd : decode D.cd pc = .ok (.sipush i, 3)) (hp : pc + 3 = pc') (hv : (Int16.ofInt i).toInt32 = v) (K : Fn g D M Q (T.setTop (mkF M.m pc' Ls (.int v :: S)))) : Fn g D M Q (T.setTop (mkF M.m pc Ls (S))) := by
  subst hp
  exact K.go fun t => Jvm.Free.XT.sipushV (g := mkF M.m pc Ls (S)) B.here B.hx rfl v (hb B.cd hd) hv
theorem p_lconst (B : Rn g D M T A cs ss) {i : Fin 2} {v : Int64} (hd : decode D.cd pc = .ok (.lconst i, 1)) (hp : pc + 1 = pc') (hv : Int64.ofNat i = v) (K : Fn g D M Q (T.setTop (mkF M.m pc' Ls (.long v :: S)))) : Fn g D M Q (T.setTop (mkF M.m pc Ls (S))) := by
  subst hp
  exact K.go fun t => Jvm.Free.XT.lconstV (g := mkF M.m pc Ls (S)) B.here B.hx rfl v (hb B.cd hd) hv
theorem p_null (B : Rn g D M T A cs ss) (hd : decode D.cd pc = .ok (.aconst_null, 1)) (hp : pc + 1 = pc') (K : Fn g D M Q (T.setTop (mkF M.m pc' Ls (.null :: S)))) : Fn g D M Q (T.setTop (mkF M.m pc Ls (S))) := by
  subst hp
  exact K.go fun t => XS.aconstNull (g := mkF M.m pc Ls (S)) B.here B.hx rfl (hb B.cd hd)
theorem p_iadd (B : Rn g D M T A cs ss) {x y z : Int32} (hd : decode D.cd pc = .ok (.iadd, 1)) (hp : pc + 1 = pc') (hz : x + y = z) (K : Fn g D M Q (T.setTop (mkF M.m pc' Ls (.int z :: S)))) : Fn g D M Q (T.setTop (mkF M.m pc Ls (.int y :: .int x :: S))) := by
  subst hp; subst hz
  exact K.go fun t => XS.iadd (g := mkF M.m pc Ls (.int y :: .int x :: S)) B.here B.hx rfl (hb B.cd hd) rfl
theorem p_isub (B : Rn g D M T A cs ss) {x y z : Int32} (hd : decode D.cd pc = .ok (.isub, 1)) (hp : pc + 1 = pc') (hz : x - y = z) (K : Fn g D M Q (T.setTop (mkF M.m pc' Ls (.int z :: S)))) : Fn g D M Q (T.setTop (mkF M.m pc Ls (.int y :: .int x :: S))) := by
  subst hp; subst hz
  exact K.go fun t => XS.isub (g := mkF M.m pc Ls (.int y :: .int x :: S)) B.here B.hx rfl (hb B.cd hd) rfl
theorem p_imul (B : Rn g D M T A cs ss) {x y z : Int32} (hd : decode D.cd pc = .ok (.imul, 1)) (hp : pc + 1 = pc') (hz : x * y = z) (K : Fn g D M Q (T.setTop (mkF M.m pc' Ls (.int z :: S)))) : Fn g D M Q (T.setTop (mkF M.m pc Ls (.int y :: .int x :: S))) := by
  subst hp; subst hz
  exact K.go fun t => XS.imul (g := mkF M.m pc Ls (.int y :: .int x :: S)) B.here B.hx rfl (hb B.cd hd) rfl
theorem p_iand (B : Rn g D M T A cs ss) {x y z : Int32} (hd : decode D.cd pc = .ok (.iand, 1)) (hp : pc + 1 = pc') (hz : x &&& y = z) (K : Fn g D M Q (T.setTop (mkF M.m pc' Ls (.int z :: S)))) : Fn g D M Q (T.setTop (mkF M.m pc Ls (.int y :: .int x :: S))) := by
  subst hp; subst hz
  exact K.go fun t => XS.iand (g := mkF M.m pc Ls (.int y :: .int x :: S)) B.here B.hx rfl (hb B.cd hd) rfl
theorem p_ior (B : Rn g D M T A cs ss) {x y z : Int32} (hd : decode D.cd pc = .ok (.ior, 1)) (hp : pc + 1 = pc') (hz : x ||| y = z) (K : Fn g D M Q (T.setTop (mkF M.m pc' Ls (.int z :: S)))) : Fn g D M Q (T.setTop (mkF M.m pc Ls (.int y :: .int x :: S))) := by
  subst hp; subst hz
  exact K.go fun t => XS.ior (g := mkF M.m pc Ls (.int y :: .int x :: S)) B.here B.hx rfl (hb B.cd hd) rfl
theorem p_ixor (B : Rn g D M T A cs ss) {x y z : Int32} (hd : decode D.cd pc = .ok (.ixor, 1)) (hp : pc + 1 = pc') (hz : x ^^^ y = z) (K : Fn g D M Q (T.setTop (mkF M.m pc' Ls (.int z :: S)))) : Fn g D M Q (T.setTop (mkF M.m pc Ls (.int y :: .int x :: S))) := by
  subst hp; subst hz
  exact K.go fun t => XS.ixor (g := mkF M.m pc Ls (.int y :: .int x :: S)) B.here B.hx rfl (hb B.cd hd) rfl
theorem p_ishl (B : Rn g D M T A cs ss) {x y z : Int32} (hd : decode D.cd pc = .ok (.ishl, 1)) (hp : pc + 1 = pc') (hz : x <<< (y &&& 31) = z) (K : Fn g D M Q (T.setTop (mkF M.m pc' Ls (.int z :: S)))) : Fn g D M Q (T.setTop (mkF M.m pc Ls (.int y :: .int x :: S))) := by
  subst hp; subst hz
  exact K.go fun t => XS.ishl (g := mkF M.m pc Ls (.int y :: .int x :: S)) B.here B.hx rfl (hb B.cd hd) rfl
theorem p_ishr (B : Rn g D M T A cs ss) {x y z : Int32} (hd : decode D.cd pc = .ok (.ishr, 1)) (hp : pc + 1 = pc') (hz : x >>> (y &&& 31) = z) (K : Fn g D M Q (T.setTop (mkF M.m pc' Ls (.int z :: S)))) : Fn g D M Q (T.setTop (mkF M.m pc Ls (.int y :: .int x :: S))) := by
  subst hp; subst hz
  exact K.go fun t => XS.ishr (g := mkF M.m pc Ls (.int y :: .int x :: S)) B.here B.hx rfl (hb B.cd hd) rfl
theorem p_iushr (B : Rn g D M T A cs ss) {x y z : Int32} (hd : decode D.cd pc = .ok (.iushr, 1)) (hp : pc + 1 = pc') (hz : (x.toUInt32 >>> (y &&& 31).toUInt32).toInt32 = z) (K : Fn g D M Q (T.setTop (mkF M.m pc' Ls (.int z :: S)))) : Fn g D M Q (T.setTop (mkF M.m pc Ls (.int y :: .int x :: S))) := by
  subst hp; subst hz
  exact K.go fun t => XS.iushr (g := mkF M.m pc Ls (.int y :: .int x :: S)) B.here B.hx rfl (hb B.cd hd) rfl
theorem p_idiv (B : Rn g D M T A cs ss) {x y z : Int32} (hd : decode D.cd pc = .ok (.idiv, 1)) (hp : pc + 1 = pc') (hy : y ≠ 0) (hz : x / y = z) (K : Fn g D M Q (T.setTop (mkF M.m pc' Ls (.int z :: S)))) : Fn g D M Q (T.setTop (mkF M.m pc Ls (.int y :: .int x :: S))) := by
  subst hp; subst hz
  exact K.go fun t => XS.idiv (g := mkF M.m pc Ls (.int y :: .int x :: S)) B.here B.hx rfl (hb B.cd hd) rfl hy
theorem p_irem (B : Rn g D M T A cs ss) {x y z : Int32} (hd : decode D.cd pc = .ok (.irem, 1)) (hp : pc + 1 = pc') (hy : y ≠ 0) (hz : x % y = z) (K : Fn g D M Q (T.setTop (mkF M.m pc' Ls (.int z :: S)))) : Fn g D M Q (T.setTop (mkF M.m pc Ls (.int y :: .int x :: S))) := by
  subst hp; subst hz; rw [← Jvm.irem_eq_mod] at K
  exact K.go fun t => XS.irem (g := mkF M.m pc Ls (.int y :: .int x :: S)) B.here B.hx rfl (hb B.cd hd) rfl hy
theorem p_ineg (B : Rn g D M T A cs ss) {x : Int32} (hd : decode D.cd pc = .ok (.ineg, 1)) (hp : pc + 1 = pc') (K : Fn g D M Q (T.setTop (mkF M.m pc' Ls (.int (-x) :: S)))) : Fn g D M Q (T.setTop (mkF M.m pc Ls (.int x :: S))) := by
  subst hp
  exact K.go fun t => XS.ineg (g := mkF M.m pc Ls (.int x :: S)) B.here B.hx rfl (hb B.cd hd) rfl
theorem p_ladd (B : Rn g D M T A cs ss) {x y : Int64} (hd : decode D.cd pc = .ok (.ladd, 1)) (hp : pc + 1 = pc') (K : Fn g D M Q (T.setTop (mkF M.m pc' Ls (.long (x + y) :: S)))) : Fn g D M Q (T.setTop (mkF M.m pc Ls (.long y :: .long x :: S))) := by
  subst hp
  exact K.go fun t => XS.ladd (g := mkF M.m pc Ls (.long y :: .long x :: S)) B.here B.hx rfl (hb B.cd hd) rfl
theorem p_lsub (B : Rn g D M T A cs ss) {x y : Int64} (hd : decode D.cd pc = .ok (.lsub, 1)) (hp : pc + 1 = pc') (K : Fn g D M Q (T.setTop (mkF M.m pc' Ls (.long (x - y) :: S)))) : Fn g D M Q (T.setTop (mkF M.m pc Ls (.long y :: .long x :: S))) := by
  subst hp
  exact K.go fun t => XS.lsub (g := mkF M.m pc Ls (.long y :: .long x :: S)) B.here B.hx rfl (hb B.cd hd) rfl
theorem p_lmul (B : Rn g D M T A cs ss) {x y : Int64} (hd : decode D.cd pc = .ok (.lmul, 1)) (hp : pc + 1 = pc') (K : Fn g D M Q (T.setTop (mkF M.m pc' Ls (.long (x * y) :: S)))) : Fn g D M Q (T.setTop (mkF M.m pc Ls (.long y :: .long x :: S))) := by
  subst hp
  exact K.go fun t => XS.lmul (g := mkF M.m pc Ls (.long y :: .long x :: S)) B.here B.hx rfl (hb B.cd hd) rfl
theorem p_land (B : Rn g D M T A cs ss) {x y : Int64} (hd : decode D.cd pc = .ok (.land, 1)) (hp : pc + 1 = pc') (K : Fn g D M Q (T.setTop (mkF M.m pc' Ls (.long (x &&& y) :: S)))) : Fn g D M Q (T.setTop (mkF M.m pc Ls (.long y :: .long x :: S))) := by
  subst hp
  exact K.go fun t => XS.land (g := mkF M.m pc Ls (.long y :: .long x :: S)) B.here B.hx rfl (hb B.cd hd) rfl
theorem p_lor (B : Rn g D M T A cs ss) {x y : Int64} (hd : decode D.cd pc = .ok (.lor, 1)) (hp : pc + 1 = pc') (K : Fn g D M Q (T.setTop (mkF M.m pc' Ls (.long (x ||| y) :: S)))) : Fn g D M Q (T.setTop (mkF M.m pc Ls (.long y :: .long x :: S))) := by
  subst hp
  exact K.go fun t => XS.lor (g := mkF M.m pc Ls (.long y :: .long x :: S)) B.here B.hx rfl (hb B.cd hd) rfl
theorem p_lxor (B : Rn g D M T A cs ss) {x y : Int64} (hd : decode D.cd pc = .ok (.lxor, 1)) (hp : pc + 1 = pc') (K : Fn g D M Q (T.setTop (mkF M.m pc' Ls (.long (x ^^^ y) :: S)))) : Fn g D M Q (T.setTop (mkF M.m pc Ls (.long y :: .long x :: S))) := by
  subst hp
  exact K.go fun t => XS.lxor (g := mkF M.m pc Ls (.long y :: .long x :: S)) B.here B.hx rfl (hb B.cd hd) rfl
theorem p_lshl (B : Rn g D M T A cs ss) {x : Int64} {y : Int32} (hd : decode D.cd pc = .ok (.lshl, 1)) (hp : pc + 1 = pc') (K : Fn g D M Q (T.setTop (mkF M.m pc' Ls (.long (x <<< (y &&& 0x3f).toInt64) :: S)))) : Fn g D M Q (T.setTop (mkF M.m pc Ls (.int y :: .long x :: S))) := by
  subst hp
  exact K.go fun t => XS.lshl (g := mkF M.m pc Ls (.int y :: .long x :: S)) B.here B.hx rfl (hb B.cd hd) rfl
theorem p_lshr (B : Rn g D M T A cs ss) {x : Int64} {y : Int32} (hd : decode D.cd pc = .ok (.lshr, 1)) (hp : pc + 1 = pc') (K : Fn g D M Q (T.setTop (mkF M.m pc' Ls (.long (x >>> (y &&& 0x3f).toInt64) :: S)))) : Fn g D M Q (T.setTop (mkF M.m pc Ls (.int y :: .long x :: S))) := by
  subst hp
  exact K.go fun t => XS.lshr (g := mkF M.m pc Ls (.int y :: .long x :: S)) B.here B.hx rfl (hb B.cd hd) rfl
theorem p_lushr (B : Rn g D M T A cs ss) {x : Int64} {y : Int32} (hd : decode D.cd pc = .ok (.lushr, 1)) (hp : pc + 1 = pc') (K : Fn g D M Q (T.setTop (mkF M.m pc' Ls (.long ((x.toUInt64 >>> (y &&& 0x3f).toInt64.toUInt64).toInt64) :: S)))) : Fn g D M Q (T.setTop (mkF M.m pc Ls (.int y :: .long x :: S))) := by
  subst hp
  exact K.go fun t => XS.lushr (g := mkF M.m pc Ls (.int y :: .long x :: S)) B.here B.hx rfl (hb B.cd hd) rfl
theorem p_ldiv (B : Rn g D M T A cs ss) {x y : Int64} (hd : decode D.cd pc = .ok (.ldiv, 1)) (hp : pc + 1 = pc') (hy : y ≠ 0) (K : Fn g D M Q (T.setTop (mkF M.m pc' Ls (.long (x / y) :: S)))) : Fn g D M Q (T.setTop (mkF M.m pc Ls (.long y :: .long x :: S))) := by
  subst hp
  exact K.go fun t => XS.ldiv (g := mkF M.m pc Ls (.long y :: .long x :: S)) B.here B.hx rfl (hb B.cd hd) rfl hy
theorem p_lrem (B : Rn g D M T A cs ss) {x y : Int64} (hd : decode D.cd pc = .ok (.lrem, 1)) (hp : pc + 1 = pc') (hy : y ≠ 0) (K : Fn g D M Q (T.setTop (mkF M.m pc' Ls (.long (x - (x / y) * y) :: S)))) : Fn g D M Q (T.setTop (mkF M.m pc Ls (.long y :: .long x :: S))) := by
  subst hp
  exact K.go fun t => XS.lrem (g := mkF M.m pc Ls (.long y :: .long x :: S)) B.here B.hx rfl (hb B.cd hd) rfl hy
theorem p_lcmp (B : Rn g D M T A cs ss) {x y : Int64} (hd : decode D.cd pc = .ok (.lcmp, 1)) (hp : pc + 1 = pc') (K : Fn g D M Q (T.setTop (mkF M.m pc' Ls (.int (lcmpW x y) :: S)))) : Fn g D M Q (T.setTop (mkF M.m pc Ls (.long y :: .long x :: S))) := by
  subst hp
  exact K.go fun t => XS.lcmp (g := mkF M.m pc Ls (.long y :: .long x :: S)) B.here B.hx rfl (hb B.cd hd) rfl
theorem p_i2l (B : Rn g D M T A cs ss) {x : Int32} (hd : decode D.cd pc = .ok (.i2l, 1)) (hp : pc + 1 = pc') (K : Fn g D M Q (T.setTop (mkF M.m pc' Ls (.long x.toInt64 :: S)))) : Fn g D M Q (T.setTop (mkF M.m pc Ls (.int x :: S))) := by
  subst hp
  exact K.go fun t => XS.i2l (g := mkF M.m pc Ls (.int x :: S)) B.here B.hx rfl (hb B.cd hd) rfl
theorem p_l2i (B : Rn g D M T A cs ss) {x : Int64} (hd : decode D.cd pc = .ok (.l2i, 1)) (hp : pc + 1 = pc') (K : Fn g D M Q (T.setTop (mkF M.m pc' Ls (.int x.toInt32 :: S)))) : Fn g D M Q (T.setTop (mkF M.m pc Ls (.long x :: S))) := by
  subst hp
  exact K.go fun t => XS.l2i (g := mkF M.m pc Ls (.long x :: S)) B.here B.hx rfl (hb B.cd hd) rfl
theorem p_i2b (B : Rn g D M T A cs ss) {x : Int32} (hd : decode D.cd pc = .ok (.i2b, 1)) (hp : pc + 1 = pc') (K : Fn g D M Q (T.setTop (mkF M.m pc' Ls (.int x.toInt8.toInt32 :: S)))) : Fn g D M Q (T.setTop (mkF M.m pc Ls (.int x :: S))) := by
  subst hp
  exact K.go fun t => XS.i2b (g := mkF M.m pc Ls (.int x :: S)) B.here B.hx rfl (hb B.cd hd) rfl
theorem p_i2c (B : Rn g D M T A cs ss) {x : Int32} (hd : decode D.cd pc = .ok (.i2c, 1)) (hp : pc + 1 = pc') (K : Fn g D M Q (T.setTop (mkF M.m pc' Ls (.int x.toUInt32.toUInt16.toUInt32.toInt32 :: S)))) : Fn g D M Q (T.setTop (mkF M.m pc Ls (.int x :: S))) := by
  subst hp
  exact K.go fun t => XS.i2c (g := mkF M.m pc Ls (.int x :: S)) B.here B.hx rfl (hb B.cd hd) rfl
theorem p_i2s (B : Rn g D M T A cs ss) {x : Int32} (hd : decode D.cd pc = .ok (.i2s, 1)) (hp : pc + 1 = pc') (K : Fn g D M Q (T.setTop (mkF M.m pc' Ls (.int x.toInt16.toInt32 :: S)))) : Fn g D M Q (T.setTop (mkF M.m pc Ls (.int x :: S))) := by
  subst hp
  exact K.go fun t => XS.i2s (g := mkF M.m pc Ls (.int x :: S)) B.here B.hx rfl (hb B.cd hd) rfl
theorem p_dup (B : Rn g D M T A cs ss) {x : Value} (hd : decode D.cd pc = .ok (.dup, 1)) (hp : pc + 1 = pc') (hc : x.category = 1) (K : Fn g D M Q (T.setTop (mkF M.m pc' Ls (x :: x :: S)))) : Fn g D M Q (T.setTop (mkF M.m pc Ls (x :: S))) := by
  subst hp
  exact K.go fun t => XS.dup (g := mkF M.m pc Ls (x :: S)) B.here B.hx rfl (hb B.cd hd) rfl hc
theorem p_pop (B : Rn g D M T A cs ss) {x : Value} (hd : decode D.cd pc = .ok (.pop, 1)) (hp : pc + 1 = pc') (hc : x.category = 1) (K : Fn g D M Q (T.setTop (mkF M.m pc' Ls (S)))) : Fn g D M Q (T.setTop (mkF M.m pc Ls (x :: S))) := by
  subst hp
  exact K.go fun t => XS.pop (g := mkF M.m pc Ls (x :: S)) B.here B.hx rfl (hb B.cd hd) rfl hc
theorem p_dupx1 (B : Rn g D M T A cs ss) {x y : Value} (hd : decode D.cd pc = .ok (.dup_x1, 1)) (hp : pc + 1 = pc') (hc : x.category = 1) (hc' : y.category = 1) (K : Fn g D M Q (T.setTop (mkF M.m pc' Ls (x :: y :: x :: S)))) : Fn g D M Q (T.setTop (mkF M.m pc Ls (x :: y :: S))) := by
  subst hp
  exact K.go fun t => XS.dupX1 (g := mkF M.m pc Ls (x :: y :: S)) B.here B.hx rfl (hb B.cd hd) rfl hc hc'
theorem p_dup2 (B : Rn g D M T A cs ss) {x y : Value} (hd : decode D.cd pc = .ok (.dup2, 1)) (hp : pc + 1 = pc') (hc : x.category = 1) (hc' : y.category = 1) (K : Fn g D M Q (T.setTop (mkF M.m pc' Ls (x :: y :: x :: y :: S)))) : Fn g D M Q (T.setTop (mkF M.m pc Ls (x :: y :: S))) := by
  subst hp
  exact K.go fun t => Jvm.Free.XT.dup2 (g := mkF M.m pc Ls (x :: y :: S)) B.here B.hx rfl (hb B.cd hd) rfl hc hc'
theorem p_dup2L (B : Rn g D M T A cs ss) {x : Int64} (hd : decode D.cd pc = .ok (.dup2, 1)) (hp : pc + 1 = pc') (K : Fn g D M Q (T.setTop (mkF M.m pc' Ls (.long x :: .long x :: S)))) : Fn g D M Q (T.setTop (mkF M.m pc Ls (.long x :: S))) := by
  subst hp
  exact K.go fun t => Jvm.Free.XT.dup2L (g := mkF M.m pc Ls (.long x :: S)) B.here B.hx rfl (hb B.cd hd) rfl
theorem p_iinc (B : Rn g D M T A cs ss) {k : Nat} {cst : Int} {x v z : Int32} (hd : decode D.cd pc = .ok (.iinc k cst, 3)) (hp : pc + 3 = pc') (hv : Int32.ofInt cst = v) (hl : Ls[k]? = some (.val (.int x))) (hz : x + v = z) (hl' : storeLocals Ls k (.int z) = some Ls') (K : Fn g D M Q (T.setTop (mkF M.m pc' Ls' (S)))) : Fn g D M Q (T.setTop (mkF M.m pc Ls (S))) := by
  subst hp; subst hz
  exact K.go fun t => Jvm.Free.XT.iincV (g := mkF M.m pc Ls (S)) B.here B.hx rfl v (hb B.cd hd) hv hl hl'
def hldT : ClassFile.Cond → Int32 → Int32 → Prop
  | .eq, x, y => x = y
  | .ne, x, y => ¬ x = y
  | .lt, x, y => x < y
  | .ge, x, y => ¬ x < y
  | .gt, x, y => y < x
  | .le, x, y => ¬ y < x
def hldF : ClassFile.Cond → Int32 → Int32 → Prop
  | .eq, x, y => ¬ x = y
  | .ne, x, y => x = y
  | .lt, x, y => ¬ x < y
  | .ge, x, y => x < y
  | .gt, x, y => ¬ y < x
  | .le, x, y => y < x
theorem hldT_ii {cd : ClassFile.Cond} {x y : Int32} (h : hldT cd x y) : if_icmp.holds cd x y = true := by
  cases cd
  · exact Jvm.Free.XT.ii_eq_t h
  · exact Jvm.Free.XT.ii_ne_t h
  · exact Jvm.Free.XT.ii_lt_t h
  · exact Jvm.Free.XT.ii_ge_t h
  · exact Jvm.Free.XT.ii_gt_t h
  · exact Jvm.Free.XT.ii_le_t h
theorem hldF_ii {cd : ClassFile.Cond} {x y : Int32} (h : hldF cd x y) : if_icmp.holds cd x y = false := by
  cases cd
  · exact Jvm.Free.XT.ii_eq_f h
  · exact Jvm.Free.XT.ii_ne_f h
  · exact Jvm.Free.XT.ii_lt_f h
  · exact Jvm.Free.XT.ii_ge_f h
  · exact Jvm.Free.XT.ii_gt_f h
  · exact Jvm.Free.XT.ii_le_f h
theorem b_ifT (B : Rn g D M T A cs ss) {cd : ClassFile.Cond} {x : Int32} {o : Int} (hd : decode D.cd pc = .ok (.ifCond cd o, 3)) (h : hldT cd x 0) (ho : 0 ≤ (pc : Int) + o) (hp : ((pc : Int) + o).toNat = pc') (K : Fn g D M Q (T.setTop (mkF M.m pc' Ls S))) : Fn g D M Q (T.setTop (mkF M.m pc Ls (.int x :: S))) :=
  K.go fun t => XS.ifYes (g := mkF M.m pc Ls (.int x :: S)) B.here B.hx rfl (pc0 := pc) (pc' := pc') rfl (hb B.cd hd) rfl ((if0 cd x).trans (hldT_ii h)) ho hp
theorem b_ifF (B : Rn g D M T A cs ss) {cd : ClassFile.Cond} {x : Int32} {o : Int} (hd : decode D.cd pc = .ok (.ifCond cd o, 3)) (hp : pc + 3 = pc') (h : hldF cd x 0) (K : Fn g D M Q (T.setTop (mkF M.m pc' Ls S))) : Fn g D M Q (T.setTop (mkF M.m pc Ls (.int x :: S))) := by
  subst hp
  exact K.go fun t => XS.ifNo (g := mkF M.m pc Ls (.int x :: S)) B.here B.hx rfl (hb B.cd hd) rfl ((if0 cd x).trans (hldF_ii h))
theorem b_icT (B : Rn g D M T A cs ss) {cd : ClassFile.Cond} {x y : Int32} {o : Int} (hd : decode D.cd pc = .ok (.if_icmp cd o, 3)) (h : hldT cd x y) (ho : 0 ≤ (pc : Int) + o) (hp : ((pc : Int) + o).toNat = pc') (K : Fn g D M Q (T.setTop (mkF M.m pc' Ls S))) : Fn g D M Q (T.setTop (mkF M.m pc Ls (.int y :: .int x :: S))) :=
  K.go fun t => XS.icmpYes (g := mkF M.m pc Ls (.int y :: .int x :: S)) B.here B.hx rfl (pc0 := pc) (pc' := pc') rfl (hb B.cd hd) rfl (hldT_ii h) ho hp
theorem b_icF (B : Rn g D M T A cs ss) {cd : ClassFile.Cond} {x y : Int32} {o : Int} (hd : decode D.cd pc = .ok (.if_icmp cd o, 3)) (hp : pc + 3 = pc') (h : hldF cd x y) (K : Fn g D M Q (T.setTop (mkF M.m pc' Ls S))) : Fn g D M Q (T.setTop (mkF M.m pc Ls (.int y :: .int x :: S))) := by
  subst hp
  exact K.go fun t => XS.icmpNo (g := mkF M.m pc Ls (.int y :: .int x :: S)) B.here B.hx rfl (hb B.cd hd) rfl (hldF_ii h)
theorem b_nuT (B : Rn g D M T A cs ss) {o : Int} (hd : decode D.cd pc = .ok (.ifnull o, 3)) (ho : 0 ≤ (pc : Int) + o) (hp : ((pc : Int) + o).toNat = pc') (K : Fn g D M Q (T.setTop (mkF M.m pc' Ls S))) : Fn g D M Q (T.setTop (mkF M.m pc Ls (.null :: S))) :=
  K.go fun t => XS.ifnullYes (g := mkF M.m pc Ls (.null :: S)) B.here B.hx rfl (pc0 := pc) (pc' := pc') rfl (hb B.cd hd) rfl ho hp
theorem b_nuF (B : Rn g D M T A cs ss) {b : Addr} {o : Int} (hd : decode D.cd pc = .ok (.ifnull o, 3)) (hp : pc + 3 = pc') (K : Fn g D M Q (T.setTop (mkF M.m pc' Ls S))) : Fn g D M Q (T.setTop (mkF M.m pc Ls (.ref b :: S))) := by
  subst hp
  exact K.go fun t => XS.ifnullNo (g := mkF M.m pc Ls (.ref b :: S)) B.here B.hx rfl (hb B.cd hd) rfl
theorem b_nnT (B : Rn g D M T A cs ss) {b : Addr} {o : Int} (hd : decode D.cd pc = .ok (.ifnonnull o, 3)) (ho : 0 ≤ (pc : Int) + o) (hp : ((pc : Int) + o).toNat = pc') (K : Fn g D M Q (T.setTop (mkF M.m pc' Ls S))) : Fn g D M Q (T.setTop (mkF M.m pc Ls (.ref b :: S))) :=
  K.go fun t => XS.ifnonnullYes (g := mkF M.m pc Ls (.ref b :: S)) B.here B.hx rfl (pc0 := pc) (pc' := pc') rfl (hb B.cd hd) rfl ho hp
theorem b_nnF (B : Rn g D M T A cs ss) {o : Int} (hd : decode D.cd pc = .ok (.ifnonnull o, 3)) (hp : pc + 3 = pc') (K : Fn g D M Q (T.setTop (mkF M.m pc' Ls S))) : Fn g D M Q (T.setTop (mkF M.m pc Ls (.null :: S))) := by
  subst hp
  exact K.go fun t => XS.ifnonnullNo (g := mkF M.m pc Ls (.null :: S)) B.here B.hx rfl (hb B.cd hd) rfl
theorem b_nnTV (B : Rn g D M T A cs ss) {v : Value} {o : Int} (hd : decode D.cd pc = .ok (.ifnonnull o, 3)) (hv : v.isRef = true) (h : ¬ v = .null) (ho : 0 ≤ (pc : Int) + o) (hp : ((pc : Int) + o).toNat = pc') (K : Fn g D M Q (T.setTop (mkF M.m pc' Ls S))) : Fn g D M Q (T.setTop (mkF M.m pc Ls (v :: S))) :=
  K.go fun t => Jvm.Free.XT.nonnullYes (g := mkF M.m pc Ls (v :: S)) B.here B.hx rfl (pc0 := pc) (pc' := pc') rfl (hb B.cd hd) rfl hv h ho hp
theorem b_nnFV (B : Rn g D M T A cs ss) {v : Value} {o : Int} (hd : decode D.cd pc = .ok (.ifnonnull o, 3)) (hp : pc + 3 = pc') (h : v = .null) (K : Fn g D M Q (T.setTop (mkF M.m pc' Ls S))) : Fn g D M Q (T.setTop (mkF M.m pc Ls (v :: S))) := by
  subst hp
  exact K.go fun t => Jvm.Free.XT.nonnullNo (g := mkF M.m pc Ls (v :: S)) B.here B.hx rfl (hb B.cd hd) rfl h
theorem b_nuTV (B : Rn g D M T A cs ss) {v : Value} {o : Int} (hd : decode D.cd pc = .ok (.ifnull o, 3)) (h : v = .null) (ho : 0 ≤ (pc : Int) + o) (hp : ((pc : Int) + o).toNat = pc') (K : Fn g D M Q (T.setTop (mkF M.m pc' Ls S))) : Fn g D M Q (T.setTop (mkF M.m pc Ls (v :: S))) :=
  K.go fun t => Jvm.Free.XT.nullYes (g := mkF M.m pc Ls (v :: S)) B.here B.hx rfl (pc0 := pc) (pc' := pc') rfl (hb B.cd hd) rfl h ho hp
theorem b_nuFV (B : Rn g D M T A cs ss) {v : Value} {o : Int} (hd : decode D.cd pc = .ok (.ifnull o, 3)) (hp : pc + 3 = pc') (hv : v.isRef = true) (h : ¬ v = .null) (K : Fn g D M Q (T.setTop (mkF M.m pc' Ls S))) : Fn g D M Q (T.setTop (mkF M.m pc Ls (v :: S))) := by
  subst hp
  exact K.go fun t => Jvm.Free.XT.nullNo (g := mkF M.m pc Ls (v :: S)) B.here B.hx rfl (hb B.cd hd) rfl hv h
theorem b_aeT (B : Rn g D M T A cs ss) {x y : Value} {o : Int} (hd : decode D.cd pc = .ok (.if_acmp .eq o, 3)) (hx : x.isRef = true) (hy : y.isRef = true) (h : x = y) (ho : 0 ≤ (pc : Int) + o) (hp : ((pc : Int) + o).toNat = pc') (K : Fn g D M Q (T.setTop (mkF M.m pc' Ls S))) : Fn g D M Q (T.setTop (mkF M.m pc Ls (y :: x :: S))) :=
  K.go fun t => Jvm.Free.XT.acmpYes (g := mkF M.m pc Ls (y :: x :: S)) B.here B.hx rfl (pc0 := pc) (pc' := pc') rfl (hb B.cd hd) rfl hx hy (Jvm.Free.XT.aa_eq_t h) ho hp
theorem b_aeF (B : Rn g D M T A cs ss) {x y : Value} {o : Int} (hd : decode D.cd pc = .ok (.if_acmp .eq o, 3)) (hp : pc + 3 = pc') (hx : x.isRef = true) (hy : y.isRef = true) (h : ¬ x = y) (K : Fn g D M Q (T.setTop (mkF M.m pc' Ls S))) : Fn g D M Q (T.setTop (mkF M.m pc Ls (y :: x :: S))) := by
  subst hp
  exact K.go fun t => Jvm.Free.XT.acmpNo (g := mkF M.m pc Ls (y :: x :: S)) B.here B.hx rfl (hb B.cd hd) rfl hx hy (Jvm.Free.XT.aa_eq_f h)
theorem b_anT (B : Rn g D M T A cs ss) {x y : Value} {o : Int} (hd : decode D.cd pc = .ok (.if_acmp .ne o, 3)) (hx : x.isRef = true) (hy : y.isRef = true) (h : ¬ x = y) (ho : 0 ≤ (pc : Int) + o) (hp : ((pc : Int) + o).toNat = pc') (K : Fn g D M Q (T.setTop (mkF M.m pc' Ls S))) : Fn g D M Q (T.setTop (mkF M.m pc Ls (y :: x :: S))) :=
  K.go fun t => Jvm.Free.XT.acmpYes (g := mkF M.m pc Ls (y :: x :: S)) B.here B.hx rfl (pc0 := pc) (pc' := pc') rfl (hb B.cd hd) rfl hx hy (Jvm.Free.XT.aa_ne_t h) ho hp
theorem b_anF (B : Rn g D M T A cs ss) {x y : Value} {o : Int} (hd : decode D.cd pc = .ok (.if_acmp .ne o, 3)) (hp : pc + 3 = pc') (hx : x.isRef = true) (hy : y.isRef = true) (h : x = y) (K : Fn g D M Q (T.setTop (mkF M.m pc' Ls S))) : Fn g D M Q (T.setTop (mkF M.m pc Ls (y :: x :: S))) := by
  subst hp
  exact K.go fun t => Jvm.Free.XT.acmpNo (g := mkF M.m pc Ls (y :: x :: S)) B.here B.hx rfl (hb B.cd hd) rfl hx hy (Jvm.Free.XT.aa_ne_f h)
theorem b_goto (B : Rn g D M T A cs ss) {o : Int} (hd : decode D.cd pc = .ok (.goto o, 3)) (ho : 0 ≤ (pc : Int) + o) (hp : ((pc : Int) + o).toNat = pc') (K : Fn g D M Q (T.setTop (mkF M.m pc' Ls S))) : Fn g D M Q (T.setTop (mkF M.m pc Ls S)) :=
  K.go fun t => XS.goto (g := mkF M.m pc Ls S) B.here B.hx rfl (pc0 := pc) (pc' := pc') rfl (hb B.cd hd) ho hp
/-! OWN WALKING KIT, part 4: calls, constants, casts. -/
theorem r_initO (B : RH g D M T H Lt cs ss) {ix W : Nat} {a : Addr} (hd : decode D.cd pc = .ok (.invokespecial ix, 3)) (hp : pc + 3 = pc') (w1 : (Jvm.Cond.methodLink D.y.cls ix Lib.objectInit).before g.a0 g.Z = true) (w2 : (Jvm.Cond.instanceMethod Lib.objectInit).before g.a0 g.Z = true)
    (w3 : (Jvm.Cond.code Lib.objectInit ⟨#[0xb1]⟩ 1 none).before g.a0 g.Z = true) (hsz : Ls.size = D.mx) (hf : 1 ≤ D.rm.frames) (hW : (S.map fun v => v.category).sum = W) (hl : W + 12 ≤ D.rm.locals)
    (K : ∀ T', RH g D M T' H Lt cs ss → Fn g D M Q (T'.setTop (mkF M.m pc' Ls S))) : Fn g D M Q (T.setTop (mkF M.m pc Ls (.ref a :: S))) := by
  subst hp
  obtain ⟨st, vm0, k0, locs, X, hS, hk, hZ, hown, hC, N, E0, hH⟩ := B
  obtain ⟨T', X', e', stp⟩ := initO (Z := g.Z) (a0 := g.a0) X st.2.1 hZ hown w1 w2 w3 rfl (g := mkF M.m pc Ls (.ref a :: S)) rfl (hsz.trans st.2.2.2.1.symm) rfl (hb st.2.2.1 hd) hf (W := W) (by show 2 * 0 + _ ≤ _; rw [hW]; omega) hl
  exact (K T' ⟨st, vm0, k0, locs, X', hS, by rw [e']; exact hk, hZ, hown, by rw [e']; exact hC, N, by rw [e']; exact E0, by rw [e']; exact hH⟩).go stp
theorem Ct.back {R : Room} {p : Program} {e : Env} {below : List Frame} {s : State} {args : Array Value} {vm0 : Vm} {h : Heap} {len Wt : Nat} (K : Ct g D' as H Lt Q') (W : GW g) (hZ : g.Z.Warmed39 vm0) (wc : (Jvm.Cond.code D'.y D'.cd D'.mx D'.rt).before g.a0 g.Z = true) (wz : (Jvm.Cond.initialized D'.y.cls).before g.a0 g.Z = true)
    (hf : D'.rm.frames + 1 ≤ R.frames) (hl : Wt + (D'.mx + 11) + D'.rm.locals ≤ R.locals) (HC : CHv g.Z g.EL vm0 h) (E0 : Ext g.Z.heap h) (P : Hp g vm0 h H Lt) :
    BackS g.l R p e below (s.setVm vm0) args D'.y len Wt (fun A a => a = as ∧ A.U.heap = h ∧ A.cells + D'.rm.cells ≤ R.cells ∧ A.slots + D'.rm.slots ≤ R.slots)
      (fun A _ v B => ∃ L, Q' v B.U.vm B.U.heap ∧ Fr g.Z.heap.size L ∧ Ext g.Z.heap B.U.heap ∧ B.locs = A.locs ++ L ∧ B.cells = A.cells + D'.rm.cells ∧ B.slots = A.slots + D'.rm.slots ∧ CHr g.Z g.EL vm0 h B.U.vm B.U.heap) :=
  BackS.of_freeW (bytes := D'.cd) (maxL := D'.mx) (ret := D'.rt) (E := fun _ first o t L k n => k = D'.rm.cells ∧ n = D'.rm.slots ∧ (∃ v, o = .returned v ∧ Q' v t.vm t.heap) ∧ Fr g.Z.heap.size L ∧ Ext g.Z.heap t.heap ∧ CHr g.Z g.EL first.vm first.heap t.vm t.heap) K hf hl
    (fun m meth c A a Y hp => have hU : g.Z.Warmed39 A.U.vm := wtrans (s := s.setVm vm0) hZ Y.warmed
      ⟨by show (Jvm.Cond.and _ .tt).before a A.U = true; rw [Cond.before_and, mv hU wc]; rfl, mv hU wc, mv hU wz, hp.2.2.1, hp.2.2.2⟩)
    (fun m meth c A a g' mk Y hp => by
      have hat := CHv.at Y hZ W.2.1 HC
      have e1 : (A.U.calling g' mk a).heap = h := hp.2.1
      have e2 : (A.U.calling g' mk a).vm = A.U.vm := rfl
      refine ⟨hp.1, wtrans (s := s.setVm vm0) hZ Y.warmed, ?_, ?_, ?_⟩
      · rw [e1, e2]; exact hat.1
      · rw [e1]; exact E0
      · rw [e1, e2]; exact P.move hat (ext_rfl _))
    (fun _ _ _ _ _ _ _ _ _ => trivial)
    (fun _ _ _ _ ⟨v, L, h1, h2, h3, h4, h5, h6⟩ => ⟨L, _, _, h6, rfl, rfl, ⟨v, h1, h2⟩, h3, h5, h4⟩)
    (fun m meth c A a g' mk v t L k n Y hp _ _ ⟨e1, e2, ⟨v', e3, e4⟩, e5, e6, e7⟩ => by
      cases e3; subst e1 e2
      refine ⟨L, e4, e5, e6, rfl, rfl, rfl, (CHv.at Y hZ W.2.1 HC).trans ?_⟩
      rw [← hp.2.1]; exact e7)
theorem Rn.after {vm0 : Vm} {k0 : Nat} {locs : List Loc} {B : Pt} {L : List Loc} {v : Option Value} {rc rs : Nat} (st : GW g ∧ M.p.tables.exec = Jvm.exec ∧ M.c.code = D.cd ∧ M.c.maxLocals = D.mx ∧ M.meth.sig.returnType = D.rt ∧ M.meth.locks = false ∧ M.meth.name = D.y.name)
    (hS : M.s.Since vm0 k0) (hk : k0 ≤ T.heap.size) (hZ : g.Z.Warmed39 vm0) (hown : vm0.findClass D.y.cls = some M.m.cls) (hC : CHr g.Z g.EL M.s.vm M.s.heap vm0 T.heap) (N : Fr g.Z.heap.size locs)
    (X' : Stand M.p g.l M.e D.rm ((M.s.setVm vm0).setVm B.U.vm) M.m M.args M.below M.meth M.c B.U B.locs B.cells B.slots) (hS' : (M.s.setVm vm0).Since B.U.vm B.U.heap.size) (hg' : T.heap.size ≤ B.U.heap.size)
    (hQ : Q' v B.U.vm B.U.heap) (hL : Fr g.Z.heap.size L) (hE : Ext g.Z.heap B.U.heap) (e1 : B.locs = locs ++ L) (e2 : B.cells = cs + rc) (e3 : B.slots = ss + rs) (hC' : CHr g.Z g.EL vm0 T.heap B.U.vm B.U.heap) : Rn g D M B.U (Q' v) (cs + rc) (ss + rs) := by
  obtain ⟨r1, r2, r3, r4⟩ := rebS (Z := g.Z) hS hk X' hS' hg' hZ hown
  rw [e1, e2, e3] at r1
  exact ⟨st, B.U.vm, B.U.heap.size, _, r1, r2, Nat.le_refl _, r3, r4, hC.trans hC', N.app hL, hE, hQ⟩
theorem r_static (B : RH g D M T H Lt cs ss) {ix W cs' ss' : Nat} {argsL rest : List Value} {ps : List FieldType} {r : Option FieldType} (hd : decode D.cd pc = .ok (.invokestatic ix, 3)) (hp : pc + 3 = pc')
    (w1 : (Jvm.Cond.methodLink D.y.cls ix D'.y).before g.a0 g.Z = true) (w2 : (Jvm.Cond.static D'.y).before g.a0 g.Z = true) (w3 : (Jvm.Cond.initialized D'.y.cls).before g.a0 g.Z = true) (w4 : (Jvm.Cond.code D'.y D'.cd D'.mx D'.rt).before g.a0 g.Z = true)
    (hy : D'.y.cls ≠ "java/lang/invoke/MethodHandle" ∧ D'.y.cls ≠ "java/lang/invoke/VarHandle") (C : Ct g D' as H Lt Q') (has : argsL.toArray = as) (pd : parseMethodDescriptor D'.y.desc = some ⟨ps, r⟩) (hlen : argsL.length = ps.length) (hst : S = argsL.reverse ++ rest)
    (hsz : Ls.size = D.mx) (hW : (rest.map fun v => v.category).sum = W) (hf : D'.rm.frames + 1 ≤ D.rm.frames) (hl : W + (D'.mx + 11) + D'.rm.locals ≤ D.rm.locals) (hc : cs + D'.rm.cells = cs') (hs : ss + D'.rm.slots = ss') (hc' : cs' ≤ D.rm.cells) (hs' : ss' ≤ D.rm.slots)
    (K : ∀ T' v, Rn g D M T' (Q' v) cs' ss' → Fn g D M Q (T'.setTop (mkF M.m pc' Ls (v.toList ++ rest)))) : Fn g D M Q (T.setTop (mkF M.m pc Ls S)) := by
  subst hp hc hs
  obtain ⟨st, vm0, k0, locs, X, hS, hk, hZ, hown, hC, N, E0, hH⟩ := B
  obtain ⟨v, vm1, Bp, -, X', hS', hg', ⟨L, hQ, hL, hE, e1, e2, e3, hC'⟩, stp⟩ := callSS X st.2.1 hown (mvT hZ w1) (mvT hZ w2) (mvT hZ w3) (mvT hZ w4) hy (Ct.back (p := M.p) (e := M.e) (below := M.below) (s := M.s) (args := M.args) (len := 3) (Wt := W) C st.1 hZ w4 w3 hf hl hC.1 E0 hH) (g := mkF M.m pc Ls S) rfl (hsz.trans st.2.2.2.1.symm) (argsL := argsL) (rest := rest) (lenOf pd hlen) hst (by show 2 * 0 + _ ≤ _; rw [hW]; omega) (hb st.2.2.1 hd) (fun _ _ => ⟨has, rfl, hc', hs'⟩)
  exact (K Bp.U v (Rn.after st hS hk hZ hown hC N X' hS' hg' hQ hL hE e1 e2 e3 hC')).go fun t => stp.trans
theorem r_special (B : RH g D M T H Lt cs ss) {ix W cs' ss' : Nat} {a : Addr} {argsL rest : List Value} {ps : List FieldType} {r : Option FieldType} (hd : decode D.cd pc = .ok (.invokespecial ix, 3)) (hp : pc + 3 = pc') (hy1 : D'.y.name = "<init>") (hrt : D'.rt = none)
    (w1 : (Jvm.Cond.methodLink D.y.cls ix D'.y).before g.a0 g.Z = true) (w2 : (Jvm.Cond.instanceMethod D'.y).before g.a0 g.Z = true) (w3 : (Jvm.Cond.initialized D'.y.cls).before g.a0 g.Z = true) (w4 : (Jvm.Cond.code D'.y D'.cd D'.mx D'.rt).before g.a0 g.Z = true)
    (hy : D'.y.cls ≠ "java/lang/invoke/MethodHandle" ∧ D'.y.cls ≠ "java/lang/invoke/VarHandle") (C : Ct g D' as H Lt Q') (has : (.ref a :: argsL).toArray = as) (pd : parseMethodDescriptor D'.y.desc = some ⟨ps, r⟩) (hlen : argsL.length = ps.length) (hst : S = argsL.reverse ++ .ref a :: rest)
    (hsz : Ls.size = D.mx) (hW : (rest.map fun v => v.category).sum = W) (hf : D'.rm.frames + 1 ≤ D.rm.frames) (hl : W + (D'.mx + 11) + D'.rm.locals ≤ D.rm.locals) (hc : cs + D'.rm.cells = cs') (hs : ss + D'.rm.slots = ss') (hc' : cs' ≤ D.rm.cells) (hs' : ss' ≤ D.rm.slots)
    (K : ∀ T' v, Rn g D M T' (Q' v) cs' ss' → Fn g D M Q (T'.setTop (mkF M.m pc' Ls (v.toList ++ rest)))) : Fn g D M Q (T.setTop (mkF M.m pc Ls S)) := by
  subst hp hc hs
  obtain ⟨st, vm0, k0, locs, X, hS, hk, hZ, hown, hC, N, E0, hH⟩ := B
  obtain ⟨v, vm1, Bp, -, X', hS', hg', ⟨L, hQ, hL, hE, e1, e2, e3, hC'⟩, stp⟩ := X.specialBackS st.2.1 hy1 hown (mvT hZ w1) (mvT hZ w2) (bytes := D'.cd) (maxL := D'.mx) (by rw [hrt] at w4; exact mvT hZ w4) hy (Ct.back (p := M.p) (e := M.e) (below := M.below) (s := M.s) (args := M.args) (len := 3) (Wt := W) C st.1 hZ w4 w3 hf hl hC.1 E0 hH) (g := mkF M.m pc Ls S) rfl (hsz.trans st.2.2.2.1.symm) (Steps.refl _) (a := a) (argsL := argsL) (rest := rest) (lenOf pd hlen) hst (by show 2 * 0 + _ ≤ _; rw [hW]; omega) (hb st.2.2.1 hd) (fun _ _ => ⟨has, rfl, hc', hs'⟩)
  exact (K Bp.U v (Rn.after st hS hk hZ hown hC N X' hS' hg' hQ hL hE e1 e2 e3 hC')).go fun t => stp.trans
theorem r_virtual (B : RH g D M T H Lt cs ss) {ix W cs' ss' : Nat} {y : MethodName} {C0 : String} {b : Addr} {argsL rest : List Value} {ps : List FieldType} {r : Option FieldType} (hd : decode D.cd pc = .ok (.invokevirtual ix, 3)) (hp : pc + 3 = pc')
    (w1 : (Jvm.Cond.methodLink D.y.cls ix y).before g.a0 g.Z = true) (wd : (Jvm.Cond.declares y).before g.a0 g.Z = true) (ws : (Jvm.Cond.selects C0 y D'.y).before g.a0 g.Z = true) (nf : ∀ vm0, g.Z.Warmed39 vm0 → NotFace (M.s.setVm vm0) y) (w2 : (Jvm.Cond.instanceMethod D'.y).before g.a0 g.Z = true) (w3 : (Jvm.Cond.initialized D'.y.cls).before g.a0 g.Z = true) (w4 : (Jvm.Cond.code D'.y D'.cd D'.mx D'.rt).before g.a0 g.Z = true)
    (hy : y.cls ≠ "java/lang/invoke/MethodHandle" ∧ y.cls ≠ "java/lang/invoke/VarHandle") (F : Al g H Lt fun h => Exa g.Z h b C0) (C : Ct g D' as H Lt Q') (has : (.ref b :: argsL).toArray = as) (pd : parseMethodDescriptor y.desc = some ⟨ps, r⟩) (hlen : argsL.length = ps.length) (hst : S = argsL.reverse ++ .ref b :: rest)
    (hsz : Ls.size = D.mx) (hW : (rest.map fun v => v.category).sum = W) (hf : D'.rm.frames + 1 ≤ D.rm.frames) (hl : W + (D'.mx + 11) + D'.rm.locals ≤ D.rm.locals) (hc : cs + D'.rm.cells = cs') (hs : ss + D'.rm.slots = ss') (hc' : cs' ≤ D.rm.cells) (hs' : ss' ≤ D.rm.slots)
    (K : ∀ T' v, Rn g D M T' (Q' v) cs' ss' → Fn g D M Q (T'.setTop (mkF M.m pc' Ls (v.toList ++ rest)))) : Fn g D M Q (T.setTop (mkF M.m pc Ls S)) := by
  subst hp hc hs
  obtain ⟨st, vm0, k0, locs, X, hS, hk, hZ, hown, hC, N, E0, hH⟩ := B
  obtain ⟨cB, kB, q1, q2, q3⟩ := isOf (s := M.s.setVm vm0) (T := T) hZ rfl (F _ _ E0 hH)
  obtain ⟨v, vm1, Bp, -, X', hS', hg', ⟨L, hQ, hL, hE, e1, e2, e3, hC'⟩, stp⟩ := X.virtualBackS st.2.1 hown (mvT hZ w1) (mvT hZ wd) (nf vm0 hZ) (mvT hZ ws) (mvT hZ w2) hy (Ct.back (p := M.p) (e := M.e) (below := M.below) (s := M.s) (args := M.args) (len := 3) (Wt := W) C st.1 hZ w4 w3 hf hl hC.1 E0 hH) q1 q3 (g := mkF M.m pc Ls S) rfl (hsz.trans st.2.2.2.1.symm) (Steps.refl _) (argsL := argsL) (rest := rest) (lenOf pd hlen) hst (by show 2 * 0 + _ ≤ _; rw [hW]; omega) (hb st.2.2.1 hd) (fun _ _ => ⟨has, rfl, hc', hs'⟩)
  exact (K Bp.U v (Rn.after st hS hk hZ hown hC N X' hS' hg' hQ hL hE e1 e2 e3 hC')).go fun t => stp.trans
theorem r_iface (B : RH g D M T H Lt cs ss) {ix cnt W cs' ss' : Nat} {y : MethodName} {C0 : String} {b : Addr} {argsL rest : List Value} {ps : List FieldType} {r : Option FieldType} (hd : decode D.cd pc = .ok (.invokeinterface ix cnt, 5)) (hp : pc + 5 = pc')
    (w1 : (Jvm.Cond.methodLink D.y.cls ix y).before g.a0 g.Z = true) (wd : (Jvm.Cond.declares y).before g.a0 g.Z = true) (wf : (Jvm.Cond.interfaceMethod y.cls y.cls y.name y.desc).before g.a0 g.Z = true) (hfa : ((Jvm.Cond.interfaceMethod y.cls y.cls y.name y.desc).onTables && (Jvm.Cond.interfaceMethod y.cls y.cls y.name y.desc).keepsFace) = true) (ws : (Jvm.Cond.selects C0 y D'.y).before g.a0 g.Z = true) (w2 : (Jvm.Cond.instanceMethod D'.y).before g.a0 g.Z = true)
    (wp : (Jvm.Cond.publicMethod D'.y).before g.a0 g.Z = true) (wu : (Jvm.Cond.unhidden C0 y.name y.desc).before g.a0 g.Z = true) (wk : (Jvm.Cond.castable C0 y.cls).before g.a0 g.Z = true)
    (w3 : (Jvm.Cond.initialized D'.y.cls).before g.a0 g.Z = true) (w4 : (Jvm.Cond.code D'.y D'.cd D'.mx D'.rt).before g.a0 g.Z = true)
    (hy : y.cls ≠ "java/lang/invoke/MethodHandle" ∧ y.cls ≠ "java/lang/invoke/VarHandle") (F : Al g H Lt fun h => Exa g.Z h b C0) (C : Ct g D' as H Lt Q') (has : (.ref b :: argsL).toArray = as) (pd : parseMethodDescriptor y.desc = some ⟨ps, r⟩) (hlen : argsL.length = ps.length) (hst : S = argsL.reverse ++ .ref b :: rest)
    (hsz : Ls.size = D.mx) (hW : (rest.map fun v => v.category).sum = W) (hf : D'.rm.frames + 1 ≤ D.rm.frames) (hl : W + (D'.mx + 11) + D'.rm.locals ≤ D.rm.locals) (hc : cs + D'.rm.cells = cs') (hs : ss + D'.rm.slots = ss') (hc' : cs' ≤ D.rm.cells) (hs' : ss' ≤ D.rm.slots)
    (K : ∀ T' v, Rn g D M T' (Q' v) cs' ss' → Fn g D M Q (T'.setTop (mkF M.m pc' Ls (v.toList ++ rest)))) : Fn g D M Q (T.setTop (mkF M.m pc Ls S)) := by
  subst hp hc hs
  obtain ⟨st, vm0, k0, locs, X, hS, hk, hZ, hown, hC, N, E0, hH⟩ := B
  obtain ⟨cB, kB, q1, q2, q3⟩ := isOf (s := M.s.setVm vm0) (T := T) hZ rfl (F _ _ E0 hH)
  obtain ⟨v, vm1, Bp, -, X', hS', hg', ⟨L, hQ, hL, hE, e1, e2, e3, hC'⟩, stp⟩ := X.interfaceBackS st.2.1 hown (mvT hZ w1) (mvT hZ wd) (mvT hZ wf hfa) (mvT hZ ws) (mvT hZ w2) (mvT hZ wp) (mvT hZ wu) (mvT hZ wk) hy (Ct.back (p := M.p) (e := M.e) (below := M.below) (s := M.s) (args := M.args) (len := 5) (Wt := W) C st.1 hZ w4 w3 hf hl hC.1 E0 hH) q1 q2 q3 (g := mkF M.m pc Ls S) rfl (hsz.trans st.2.2.2.1.symm) (Steps.refl _) (argsL := argsL) (rest := rest) (lenOf pd hlen) hst (by show 2 * 0 + _ ≤ _; rw [hW]; omega) (hb st.2.2.1 hd) (fun _ _ => ⟨has, rfl, hc', hs'⟩)
  exact (K Bp.U v (Rn.after st hS hk hZ hown hC N X' hS' hg' hQ hL hE e1 e2 e3 hC')).go fun t => stp.trans
/-! constants -/
theorem ary_of {Z : State} {h : Heap} {b : Addr} {k : ClassId} {z : Int32} {vs : List Value} {dv : Value} (A : Arv Z h b k .byte z vs dv) (hl : z.toNatClampNeg = vs.length) : Ary Z h b .byte "" vs := by
  obtain ⟨c, r1, r2, r3, r4, r5, r6⟩ := A
  have hs : c.slots.size = vs.length := r3.trans hl
  refine ⟨c, r1, ?_, ?_, fun v hv => ?_, nofun, fun q => absurd rfl q⟩
  · apply Array.ext_getElem?
    intro i
    by_cases hi : i < c.slots.size
    · rw [r5 i hi]
      have : i < vs.length := hs ▸ hi
      simp [this]
    · rw [Array.getElem?_eq_none (by omega), List.getElem?_toArray, List.getElem?_eq_none (by omega)]
  · have := (back32 r4).2
    omega
  · obtain ⟨i, hi, rfl⟩ := List.getElem_of_mem hv
    have := r6 i (by omega)
    simpa [hi] using this
theorem r_ldc (B : RH g D M T H Lt cs ss) {ix n cs' ss' : Nat} {text : String} {bs : List Value} {z : Int32} (hd : decode D.cd pc = .ok (.ldc ix, 2)) (hp : pc + 2 = pc') (w : (Jvm.Cond.stringLink D.y.cls ix text).before g.a0 g.Z = true) (wS : ∀ a ∈ Bundle.stringAtoms, a.before g.a0 g.Z = true) (hm : (D.y.cls, ix) ∈ g.EL)
    (ht : (∀ c ∈ text.toList, c.toNat < 256) ∧ text.toList.map (fun c => Value.int (Jvm.Lit.byteI c.toNat.toUInt16)) = bs) (hz : ¬ z < 0) (hzl : z.toNatClampNeg = bs.length) (hn : 4 * text.toList.length ≤ n) (hbig : n ≤ 536870912) (hc : cs + 2 = cs') (hs : ss + (n + 4) = ss') (hc' : cs' ≤ D.rm.cells) (hs' : ss' ≤ D.rm.slots)
    (K : ∀ T' a b, RH g D M T' H ((a, b, 0, bs) :: Lt) cs' ss' → Fn g D M Q (T'.setTop (mkF M.m pc' Ls (.ref a :: S)))) : Fn g D M Q (T.setTop (mkF M.m pc Ls S)) := by
  subst hp hc hs
  obtain ⟨st, vm0, k0, locs, X, hS, hk, hZ, hown, hC, N, E0, hH⟩ := B
  obtain ⟨a, T', h', k1, b, kk, X', e', E, hS', hk', hZ', hown', F1, F2, F3, F4, -, -, hC', -, hsafe, stp⟩ := ldcCH (Z := g.Z) (a0 := g.a0) (EL := g.EL) X st.2.1 hZ hown w wS rfl hS hk st.1.2.1 hm hC.1 ht hz hzl (g := mkF M.m pc Ls S) rfl (hb st.2.2.1 hd) hn hbig hc' hs'
  have P1 := hH.move hC' E
  have P' := P1.lit (y := (a, b, 0, bs)) ⟨F1, F3, F2, ary_of F4 hzl⟩ (fun x hx => hsafe x.1 (P1.1 x hx).2.2.2)
  subst e'
  exact (K T' a b ⟨st, T'.vm, k1, locs, X', hS', hk', hZ', hown', hC.trans hC', N, ext_trans E0 E, P'⟩).go stp
theorem r_ldcO (B : RH g D M T H Lt cs ss) {ix n cs' ss' : Nat} {text : String} (hd : decode D.cd pc = .ok (.ldc ix, 2)) (hp : pc + 2 = pc') (w : (Jvm.Cond.stringLink D.y.cls ix text).before g.a0 g.Z = true) (wS : ∀ a ∈ Bundle.stringAtoms, a.before g.a0 g.Z = true)
    (hn : 4 * text.toList.length ≤ n) (hbig : n ≤ 536870912) (hc : cs + 2 = cs') (hs : ss + (n + 4) = ss') (hc' : cs' ≤ D.rm.cells) (hs' : ss' ≤ D.rm.slots)
    (K : ∀ T' a, RH g D M T' H Lt cs' ss' → Fn g D M Q (T'.setTop (mkF M.m pc' Ls (.ref a :: S)))) : Fn g D M Q (T.setTop (mkF M.m pc Ls S)) := by
  subst hp hc hs
  obtain ⟨st, vm0, k0, locs, X, hS, hk, hZ, hown, hC, N, E0, hH⟩ := B
  obtain ⟨a, T', h', k1, X', e', E, hS', hk', hZ', hown', hC', -, stp⟩ := ldcOH (Z := g.Z) (a0 := g.a0) (EL := g.EL) X st.2.1 hZ hown w wS rfl hS hk st.1.2.1 hC.1 (g := mkF M.m pc Ls S) rfl (hb st.2.2.1 hd) hn hbig hc' hs'
  subst e'
  exact (K T' a ⟨st, T'.vm, k1, locs, X', hS', hk', hZ', hown', hC.trans hC', N, ext_trans E0 E, hH.move hC' E⟩).go stp
theorem r_ldcI (B : RH g D M T H Lt cs ss) {ix : Nat} {v : Int32} (hd : decode D.cd pc = .ok (.ldc ix, 2)) (hp : pc + 2 = pc') (w : (Jvm.Cond.constant D.y.cls ix v).before g.a0 g.Z = true) (K : Fn g D M Q (T.setTop (mkF M.m pc' Ls (.int v :: S)))) : Fn g D M Q (T.setTop (mkF M.m pc Ls S)) := by
  subst hp
  obtain ⟨st, vm0, k0, locs, X, hS, hk, hZ, hown, hC, N, E0, hH⟩ := B
  exact K.go fun t => X.ldcI (g := mkF M.m pc Ls S) st.2.1 hown (mvT hZ w) rfl (hb st.2.2.1 hd)
theorem r_ldcwI (B : RH g D M T H Lt cs ss) {ix : Nat} {v : Int32} (hd : decode D.cd pc = .ok (.ldc_w ix, 3)) (hp : pc + 3 = pc') (w : (Jvm.Cond.constant D.y.cls ix v).before g.a0 g.Z = true) (K : Fn g D M Q (T.setTop (mkF M.m pc' Ls (.int v :: S)))) : Fn g D M Q (T.setTop (mkF M.m pc Ls S)) := by
  subst hp
  obtain ⟨st, vm0, k0, locs, X, hS, hk, hZ, hown, hC, N, E0, hH⟩ := B
  exact K.go fun t => X.ldcWI (g := mkF M.m pc Ls S) st.2.1 hown (mvT hZ w) rfl (hb st.2.2.1 hd)
theorem r_ldcJ (B : RH g D M T H Lt cs ss) {ix : Nat} {v : Int64} (hd : decode D.cd pc = .ok (.ldc2_w ix, 3)) (hp : pc + 3 = pc') (w : (Jvm.Cond.constantLong D.y.cls ix v).before g.a0 g.Z = true) (K : Fn g D M Q (T.setTop (mkF M.m pc' Ls (.long v :: S)))) : Fn g D M Q (T.setTop (mkF M.m pc Ls S)) := by
  subst hp
  obtain ⟨st, vm0, k0, locs, X, hS, hk, hZ, hown, hC, N, E0, hH⟩ := B
  exact K.go fun t => X.ldc2J (g := mkF M.m pc Ls S) st.2.1 hown (mvT hZ w) rfl (hb st.2.2.1 hd)
/-! casts -/
theorem r_cast (B : RH g D M T H Lt cs ss) {ix : Nat} {C : String} {a : Addr} (hd : decode D.cd pc = .ok (.checkcast ix, 3)) (hp : pc + 3 = pc') (w : (Jvm.Cond.classLink D.y.cls ix C).before g.a0 g.Z = true) (F : Al g H Lt fun h => Ins g.Z h a C true)
    (K : ∀ T', RH g D M T' H Lt cs ss → Fn g D M Q (T'.setTop (mkF M.m pc' Ls (.ref a :: S)))) : Fn g D M Q (T.setTop (mkF M.m pc Ls (.ref a :: S))) := by
  subst hp
  obtain ⟨st, vm0, k0, locs, X, hS, hk, hZ, hown, hC, N, E0, hH⟩ := B
  obtain ⟨T', X', e', stp⟩ := castY (Z := g.Z) (a0 := g.a0) X st.2.1 hZ hown w rfl (F _ _ E0 hH) (g := mkF M.m pc Ls (.ref a :: S)) rfl rfl (hb st.2.2.1 hd)
  exact (K T' ⟨st, vm0, k0, locs, X', hS, by rw [e']; exact hk, hZ, hown, by rw [e']; exact hC, N, by rw [e']; exact E0, by rw [e']; exact hH⟩).go stp
theorem r_inst1 (B : RH g D M T H Lt cs ss) {ix : Nat} {C : String} {a : Addr} (hd : decode D.cd pc = .ok (.instanceof ix, 3)) (hp : pc + 3 = pc') (w : (Jvm.Cond.classLink D.y.cls ix C).before g.a0 g.Z = true) (F : Al g H Lt fun h => Ins g.Z h a C true)
    (K : ∀ T', RH g D M T' H Lt cs ss → Fn g D M Q (T'.setTop (mkF M.m pc' Ls (.int 1 :: S)))) : Fn g D M Q (T.setTop (mkF M.m pc Ls (.ref a :: S))) := by
  subst hp
  obtain ⟨st, vm0, k0, locs, X, hS, hk, hZ, hown, hC, N, E0, hH⟩ := B
  obtain ⟨T', X', e', stp⟩ := instY (Z := g.Z) (a0 := g.a0) X st.2.1 hZ hown w rfl (F _ _ E0 hH) (g := mkF M.m pc Ls (.ref a :: S)) rfl rfl (hb st.2.2.1 hd)
  exact (K T' ⟨st, vm0, k0, locs, X', hS, by rw [e']; exact hk, hZ, hown, by rw [e']; exact hC, N, by rw [e']; exact E0, by rw [e']; exact hH⟩).go stp
theorem r_inst0 (B : RH g D M T H Lt cs ss) {ix : Nat} {C C1 : String} {a : Addr} (hd : decode D.cd pc = .ok (.instanceof ix, 3)) (hp : pc + 3 = pc') (w : (Jvm.Cond.classLink D.y.cls ix C).before g.a0 g.Z = true) (F : Al g H Lt fun h => Ins g.Z h a C false) (F1 : Al g H Lt fun h => Exa g.Z h a C1)
    (K : ∀ T', RH g D M T' H Lt cs ss → Fn g D M Q (T'.setTop (mkF M.m pc' Ls (.int 0 :: S)))) : Fn g D M Q (T.setTop (mkF M.m pc Ls (.ref a :: S))) := by
  subst hp
  obtain ⟨st, vm0, k0, locs, X, hS, hk, hZ, hown, hC, N, E0, hH⟩ := B
  obtain ⟨cell, cT, h1, h2, h3⟩ := F _ _ E0 hH
  obtain ⟨cell', k, e1, -, e3, e4, -⟩ := F1 _ _ E0 hH
  cases h1.symm.trans e1
  obtain ⟨k', q, -⟩ := hZ.alike.2.2 _ _ e3
  obtain ⟨vm', X', stp⟩ := Jvm.Sym.instanceofNoAt X st.2.1 hown (mvT hZ w) h1 e4 q (by show vm0.findClass C = some cT; rw [hZ.alike.findClass]; exact h2) (by show vm0.assignable cell.cls cT = false; rw [hZ.alike.assignable]; simpa [e4] using h3) (g := mkF M.m pc Ls (.ref a :: S)) rfl rfl (hb st.2.2.1 hd)
  exact (K _ ⟨st, vm0, k0, locs, X', hS, hk, hZ, hown, hC, N, E0, hH⟩).go stp
theorem r_castN (B : RH g D M T H Lt cs ss) {ix : Nat} (hd : decode D.cd pc = .ok (.checkcast ix, 3)) (hp : pc + 3 = pc') (K : Fn g D M Q (T.setTop (mkF M.m pc' Ls (.null :: S)))) : Fn g D M Q (T.setTop (mkF M.m pc Ls (.null :: S))) := by
  subst hp
  obtain ⟨st, vm0, k0, locs, X, hS, hk, hZ, hown, hC, N, E0, hH⟩ := B
  exact K.go fun t => X.checkcastNull st.2.1 (g := mkF M.m pc Ls (.null :: S)) rfl rfl (hb st.2.2.1 hd) t
theorem r_instN (B : RH g D M T H Lt cs ss) {ix : Nat} (hd : decode D.cd pc = .ok (.instanceof ix, 3)) (hp : pc + 3 = pc') (K : Fn g D M Q (T.setTop (mkF M.m pc' Ls (.int 0 :: S)))) : Fn g D M Q (T.setTop (mkF M.m pc Ls (.null :: S))) := by
  subst hp
  obtain ⟨st, vm0, k0, locs, X, hS, hk, hZ, hown, hC, N, E0, hH⟩ := B
  exact K.go fun t => X.instanceofNull st.2.1 (g := mkF M.m pc Ls (.null :: S)) rfl rfl (hb st.2.2.1 hd) t
end Rules
theorem nar_ref {t : FieldType} {v : Value} (h : v.isRef = true) (ht : t.isReference = true) : narrow t v = v := by cases t <;> first | (cases v <;> first | rfl | (cases h; done)) | (cases ht; done)
theorem fit_ref {t : FieldType} {v : Value} (h : v.isRef = true) (ht : t.isReference = true) : fits t v = true := by cases t <;> first | (cases v <;> first | rfl | (cases h; done)) | (cases ht; done)
theorem cat_ref {v : Value} (h : v.isRef = true) : v.category = 1 := Jvm.Free.XT.cat1 h
theorem ins_no {Z : State} {h : Heap} {a : Addr} {a0 : Array Value} {C S K : String} {n : Nat} (E : Exa Z h a C) (w : (Jvm.Cond.superclass C S).before a0 Z = true) (w0 : (Jvm.Cond.noSuperclass S).before a0 Z = true) (wi : (Jvm.Cond.instantiable K n).before a0 Z = true) (h1 : C ≠ K) (h2 : S ≠ K) : Ins Z h a K false := by
  obtain ⟨cell, k, e1, e2, e3, e4, -⟩ := E
  obtain ⟨t, kt, t1, t2, t3, t4, -⟩ := Cond.instantiable_spec wi
  obtain ⟨p, kc, kp, q1, q2, q3, q4, q5, q6, q7⟩ := Cond.superclass_spec e2 w
  obtain ⟨p', kp', r1, r2, r3, r4, r5⟩ := Cond.noSuperclass_spec w0
  cases q1.symm.trans r1
  have n1 := ids_ne e2 t1 h1
  have n2 := ids_ne r1 t1 h2
  have hi : kt.isInterface = false := (Bool.or_eq_false_iff.mp t4).1
  have hs0 : ∀ fuel, Z.vm.isSubclassAux fuel p t = false := fun fuel => by
    cases fuel with
    | zero => rfl
    | succ f => simp [Vm.isSubclassAux, n2, r2, r3]
  have hs : ∀ fuel, Z.vm.isSubclassAux fuel cell.cls t = false := fun fuel => by
    cases fuel with
    | zero => rfl
    | succ f => simp [Vm.isSubclassAux, n1, q2, q4, hs0]
  have hA : Z.vm.assignable cell.cls t = false := by
    show Z.vm.assignableAux (255 + 1) cell.cls t = false
    simp [Vm.assignableAux, n1, q2, t2, q5, t3, hi, Vm.isSubclass, hs]
  exact ⟨cell, t, e1, t1, by simp [hA]⟩
theorem tl1 {α : Type} {a : α} {l : List α} : ∀ y ∈ l, y ∈ a :: l := fun _ h => List.mem_cons_of_mem _ h
theorem tl2 {α : Type} {a b : α} {l : List α} : ∀ y ∈ l, y ∈ a :: b :: l := fun _ h => List.mem_cons_of_mem _ (tl1 _ h)
theorem tl3 {α : Type} {a b c : α} {l : List α} : ∀ y ∈ l, y ∈ a :: b :: c :: l := fun _ h => List.mem_cons_of_mem _ (tl2 _ h)
theorem tl4 {α : Type} {a b c d : α} {l : List α} : ∀ y ∈ l, y ∈ a :: b :: c :: d :: l := fun _ h => List.mem_cons_of_mem _ (tl3 _ h)
theorem tlm {α : Type} {a b : α} {l : List α} : ∀ y ∈ a :: l, y ∈ a :: b :: l := fun _ h => (List.mem_cons.mp h).elim (fun e => e ▸ List.mem_cons_self ..) fun h => List.mem_cons_of_mem _ (tl1 _ h)
theorem tlh {α : Type} {a : α} {l : List α} (m : a ∈ l) : ∀ y ∈ a :: l, y ∈ l := fun _ h => (List.mem_cons.mp h).elim (fun e => e ▸ m) id
theorem Hp.nil {g : GG} {vm : Vm} {h : Heap} : Hp g vm h [] [] := ⟨nofun, List.nodup_nil, nofun, nofun⟩

theorem W0 {g : GG} (W : GW g) : (Jvm.Cond.stringLink "com/example/polecenie/polecenie/core/ElementNamePinLaw" (7 : Nat) "Document").before g.a0 g.Z = true := W.1 _ (List.mem_of_getElem? (i := 0) rfl)
theorem W1 {g : GG} (W : GW g) : (Jvm.Cond.initialized "java/lang/String").before g.a0 g.Z = true := W.1 _ (List.mem_of_getElem? (i := 1) rfl)
theorem W2 {g : GG} (W : GW g) : (Jvm.Cond.instantiable "java/lang/String" (4 : Nat)).before g.a0 g.Z = true := W.1 _ (List.mem_of_getElem? (i := 2) rfl)
theorem W3 {g : GG} (W : GW g) : (Jvm.Cond.arrayClass Jvm.ClassFile.FieldType.byte).before g.a0 g.Z = true := W.1 _ (List.mem_of_getElem? (i := 3) rfl)
theorem W4 {g : GG} (W : GW g) : (Jvm.Cond.laysFinal "java/lang/String" "java/lang/String" "value" "[B").before g.a0 g.Z = true := W.1 _ (List.mem_of_getElem? (i := 4) rfl)
theorem W5 {g : GG} (W : GW g) : (Jvm.Cond.laysFinal "java/lang/String" "java/lang/String" "coder" "B").before g.a0 g.Z = true := W.1 _ (List.mem_of_getElem? (i := 5) rfl)
theorem W6 {g : GG} (W : GW g) : (Jvm.Cond.soleField "java/lang/String" "value").before g.a0 g.Z = true := W.1 _ (List.mem_of_getElem? (i := 6) rfl)
theorem W7 {g : GG} (W : GW g) : (Jvm.Cond.soleField "java/lang/String" "coder").before g.a0 g.Z = true := W.1 _ (List.mem_of_getElem? (i := 7) rfl)
theorem W8 {g : GG} (W : GW g) : (Jvm.Cond.methodLink "com/example/polecenie/polecenie/core/ElementNamePinLaw" (9 : Nat) ({ cls := "com/example/polecenie/polecenie/core/ElementNamePinLaw", name := "pick", desc := "(ILjava/lang/String;)Ljava/lang/String;" } : Jvm.MethodName)).before g.a0 g.Z = true := W.1 _ (List.mem_of_getElem? (i := 8) rfl)
theorem W9 {g : GG} (W : GW g) : (Jvm.Cond.static ({ cls := "com/example/polecenie/polecenie/core/ElementNamePinLaw", name := "pick", desc := "(ILjava/lang/String;)Ljava/lang/String;" } : Jvm.MethodName)).before g.a0 g.Z = true := W.1 _ (List.mem_of_getElem? (i := 9) rfl)
theorem W10 {g : GG} (W : GW g) : (Jvm.Cond.initialized "com/example/polecenie/polecenie/core/ElementNamePinLaw").before g.a0 g.Z = true := W.1 _ (List.mem_of_getElem? (i := 10) rfl)
theorem W11 {g : GG} (W : GW g) : (Jvm.Cond.code ({ cls := "com/example/polecenie/polecenie/core/ElementNamePinLaw", name := "pick", desc := "(ILjava/lang/String;)Ljava/lang/String;" } : Jvm.MethodName) method_3_code (3 : Nat) (Option.some (Jvm.ClassFile.FieldType.object "java/lang/String"))).before g.a0 g.Z = true := W.1 _ (List.mem_of_getElem? (i := 11) rfl)
theorem W12 {g : GG} (W : GW g) : (Jvm.Cond.arrayClass Jvm.ClassFile.FieldType.char).before g.a0 g.Z = true := W.1 _ (List.mem_of_getElem? (i := 12) rfl)
theorem W13 {g : GG} (W : GW g) : (Jvm.Cond.classLink "com/example/polecenie/polecenie/core/ElementNamePinLaw" (33 : Nat) "java/lang/String").before g.a0 g.Z = true := W.1 _ (List.mem_of_getElem? (i := 13) rfl)
theorem W14 {g : GG} (W : GW g) : (Jvm.Cond.methodLink "com/example/polecenie/polecenie/core/ElementNamePinLaw" (41 : Nat) ({ cls := "java/lang/String", name := "<init>", desc := "([C)V" } : Jvm.MethodName)).before g.a0 g.Z = true := W.1 _ (List.mem_of_getElem? (i := 14) rfl)
theorem W15 {g : GG} (W : GW g) : (Jvm.Cond.instanceMethod ({ cls := "java/lang/String", name := "<init>", desc := "([C)V" } : Jvm.MethodName)).before g.a0 g.Z = true := W.1 _ (List.mem_of_getElem? (i := 15) rfl)
theorem W16 {g : GG} (W : GW g) : (Jvm.Cond.code ({ cls := "java/lang/String", name := "<init>", desc := "([C)V" } : Jvm.MethodName) jdk_42_method_3_code (2 : Nat) (Option.none : Option Jvm.ClassFile.FieldType)).before g.a0 g.Z = true := W.1 _ (List.mem_of_getElem? (i := 16) rfl)
theorem W17 {g : GG} (W : GW g) : (Jvm.Cond.methodLink "java/lang/String" (27 : Nat) ({ cls := "java/lang/String", name := "<init>", desc := "([CIILjava/lang/Void;)V" } : Jvm.MethodName)).before g.a0 g.Z = true := W.1 _ (List.mem_of_getElem? (i := 17) rfl)
theorem W18 {g : GG} (W : GW g) : (Jvm.Cond.instanceMethod ({ cls := "java/lang/String", name := "<init>", desc := "([CIILjava/lang/Void;)V" } : Jvm.MethodName)).before g.a0 g.Z = true := W.1 _ (List.mem_of_getElem? (i := 18) rfl)
theorem W20 {g : GG} (W : GW g) : (Jvm.Cond.code ({ cls := "java/lang/String", name := "<init>", desc := "([CIILjava/lang/Void;)V" } : Jvm.MethodName) jdk_42_method_149_code (6 : Nat) (Option.none : Option Jvm.ClassFile.FieldType)).before g.a0 g.Z = true := W.1 _ (List.mem_of_getElem? (i := 20) rfl)
theorem W21 {g : GG} (W : GW g) : (Jvm.Cond.methodLink "java/lang/String" (1 : Nat) ({ cls := "java/lang/Object", name := "<init>", desc := "()V" } : Jvm.MethodName)).before g.a0 g.Z = true := W.1 _ (List.mem_of_getElem? (i := 21) rfl)
theorem W22 {g : GG} (W : GW g) : (Jvm.Cond.instanceMethod ({ cls := "java/lang/Object", name := "<init>", desc := "()V" } : Jvm.MethodName)).before g.a0 g.Z = true := W.1 _ (List.mem_of_getElem? (i := 22) rfl)
theorem W23 {g : GG} (W : GW g) : (Jvm.Cond.code ({ cls := "java/lang/Object", name := "<init>", desc := "()V" } : Jvm.MethodName) object_method_1_code (1 : Nat) (Option.none : Option Jvm.ClassFile.FieldType)).before g.a0 g.Z = true := W.1 _ (List.mem_of_getElem? (i := 23) rfl)
theorem W24 {g : GG} (W : GW g) : (Jvm.Cond.fieldLink "java/lang/String" (38 : Nat) "java/lang/String" "COMPACT_STRINGS" "Z").before g.a0 g.Z = true := W.1 _ (List.mem_of_getElem? (i := 24) rfl)
theorem W25 {g : GG} (W : GW g) : (Jvm.Cond.methodLink "java/lang/String" (177 : Nat) ({ cls := "java/lang/StringUTF16", name := "compress", desc := "([CII)[B" } : Jvm.MethodName)).before g.a0 g.Z = true := W.1 _ (List.mem_of_getElem? (i := 25) rfl)
theorem W26 {g : GG} (W : GW g) : (Jvm.Cond.static ({ cls := "java/lang/StringUTF16", name := "compress", desc := "([CII)[B" } : Jvm.MethodName)).before g.a0 g.Z = true := W.1 _ (List.mem_of_getElem? (i := 26) rfl)
theorem W27 {g : GG} (W : GW g) : (Jvm.Cond.initialized "java/lang/StringUTF16").before g.a0 g.Z = true := W.1 _ (List.mem_of_getElem? (i := 27) rfl)
theorem W28 {g : GG} (W : GW g) : (Jvm.Cond.code ({ cls := "java/lang/StringUTF16", name := "compress", desc := "([CII)[B" } : Jvm.MethodName) jdk_52_method_16_code (6 : Nat) (Option.some (Jvm.ClassFile.FieldType.array Jvm.ClassFile.FieldType.byte))).before g.a0 g.Z = true := W.1 _ (List.mem_of_getElem? (i := 28) rfl)
theorem W29 {g : GG} (W : GW g) : (Jvm.Cond.methodLink "java/lang/StringUTF16" (115 : Nat) ({ cls := "java/lang/StringUTF16", name := "compress", desc := "([CI[BII)I" } : Jvm.MethodName)).before g.a0 g.Z = true := W.1 _ (List.mem_of_getElem? (i := 29) rfl)
theorem W30 {g : GG} (W : GW g) : (Jvm.Cond.static ({ cls := "java/lang/StringUTF16", name := "compress", desc := "([CI[BII)I" } : Jvm.MethodName)).before g.a0 g.Z = true := W.1 _ (List.mem_of_getElem? (i := 30) rfl)
theorem W31 {g : GG} (W : GW g) : (Jvm.Cond.code ({ cls := "java/lang/StringUTF16", name := "compress", desc := "([CI[BII)I" } : Jvm.MethodName) jdk_52_method_21_code (7 : Nat) (Option.some Jvm.ClassFile.FieldType.int)).before g.a0 g.Z = true := W.1 _ (List.mem_of_getElem? (i := 31) rfl)
theorem W32 {g : GG} (W : GW g) : (Jvm.Cond.methodLink "java/lang/String" (47 : Nat) ({ cls := "java/lang/StringUTF16", name := "coderFromArrayLen", desc := "([BI)B" } : Jvm.MethodName)).before g.a0 g.Z = true := W.1 _ (List.mem_of_getElem? (i := 32) rfl)
theorem W33 {g : GG} (W : GW g) : (Jvm.Cond.static ({ cls := "java/lang/StringUTF16", name := "coderFromArrayLen", desc := "([BI)B" } : Jvm.MethodName)).before g.a0 g.Z = true := W.1 _ (List.mem_of_getElem? (i := 33) rfl)
theorem W34 {g : GG} (W : GW g) : (Jvm.Cond.code ({ cls := "java/lang/StringUTF16", name := "coderFromArrayLen", desc := "([BI)B" } : Jvm.MethodName) jdk_52_method_15_code (2 : Nat) (Option.some Jvm.ClassFile.FieldType.byte)).before g.a0 g.Z = true := W.1 _ (List.mem_of_getElem? (i := 34) rfl)
theorem W35 {g : GG} (W : GW g) : (Jvm.Cond.fieldLink "java/lang/String" (15 : Nat) "java/lang/String" "coder" "B").before g.a0 g.Z = true := W.1 _ (List.mem_of_getElem? (i := 35) rfl)
theorem W36 {g : GG} (W : GW g) : (Jvm.Cond.fieldLink "java/lang/String" (9 : Nat) "java/lang/String" "value" "[B").before g.a0 g.Z = true := W.1 _ (List.mem_of_getElem? (i := 36) rfl)
theorem W37 {g : GG} (W : GW g) : (Jvm.Cond.stringLink "com/example/polecenie/polecenie/core/ElementNamePinLaw" (15 : Nat) "CstmrCdtTrfInitn").before g.a0 g.Z = true := W.1 _ (List.mem_of_getElem? (i := 37) rfl)
theorem W38 {g : GG} (W : GW g) : (Jvm.Cond.stringLink "com/example/polecenie/polecenie/core/ElementNamePinLaw" (17 : Nat) "PmtInf").before g.a0 g.Z = true := W.1 _ (List.mem_of_getElem? (i := 38) rfl)
theorem W39 {g : GG} (W : GW g) : (Jvm.Cond.stringLink "com/example/polecenie/polecenie/core/ElementNamePinLaw" (19 : Nat) "CdtTrfTxInf").before g.a0 g.Z = true := W.1 _ (List.mem_of_getElem? (i := 39) rfl)
theorem W40 {g : GG} (W : GW g) : (Jvm.Cond.classLink "com/example/polecenie/polecenie/core/ElementNamePinLaw" (21 : Nat) "com/example/polecenie/polecenie/core/Pain001Reader$Element").before g.a0 g.Z = true := W.1 _ (List.mem_of_getElem? (i := 40) rfl)
theorem W41 {g : GG} (W : GW g) : (Jvm.Cond.instantiable "com/example/polecenie/polecenie/core/Pain001Reader$Element" (7 : Nat)).before g.a0 g.Z = true := W.1 _ (List.mem_of_getElem? (i := 41) rfl)
theorem W42 {g : GG} (W : GW g) : (Jvm.Cond.initialized "com/example/polecenie/polecenie/core/Pain001Reader$Element").before g.a0 g.Z = true := W.1 _ (List.mem_of_getElem? (i := 42) rfl)
theorem W43 {g : GG} (W : GW g) : (Jvm.Cond.methodLink "com/example/polecenie/polecenie/core/ElementNamePinLaw" (23 : Nat) ({ cls := "com/example/polecenie/polecenie/core/Pain001Reader$Element", name := "<init>", desc := "()V" } : Jvm.MethodName)).before g.a0 g.Z = true := W.1 _ (List.mem_of_getElem? (i := 43) rfl)
theorem W44 {g : GG} (W : GW g) : (Jvm.Cond.instanceMethod ({ cls := "com/example/polecenie/polecenie/core/Pain001Reader$Element", name := "<init>", desc := "()V" } : Jvm.MethodName)).before g.a0 g.Z = true := W.1 _ (List.mem_of_getElem? (i := 44) rfl)
theorem W45 {g : GG} (W : GW g) : (Jvm.Cond.code ({ cls := "com/example/polecenie/polecenie/core/Pain001Reader$Element", name := "<init>", desc := "()V" } : Jvm.MethodName) prog_35_method_1_code (1 : Nat) (Option.none : Option Jvm.ClassFile.FieldType)).before g.a0 g.Z = true := W.1 _ (List.mem_of_getElem? (i := 45) rfl)
theorem W46 {g : GG} (W : GW g) : (Jvm.Cond.methodLink "com/example/polecenie/polecenie/core/Pain001Reader$Element" (1 : Nat) ({ cls := "java/lang/Object", name := "<init>", desc := "()V" } : Jvm.MethodName)).before g.a0 g.Z = true := W.1 _ (List.mem_of_getElem? (i := 46) rfl)
theorem W47 {g : GG} (W : GW g) : (Jvm.Cond.classLink "com/example/polecenie/polecenie/core/Pain001Reader$Element" (7 : Nat) "java/lang/String").before g.a0 g.Z = true := W.1 _ (List.mem_of_getElem? (i := 47) rfl)
theorem W48 {g : GG} (W : GW g) : (Jvm.Cond.arrayOver (Jvm.ClassFile.FieldType.object "java/lang/String")).before g.a0 g.Z = true := W.1 _ (List.mem_of_getElem? (i := 48) rfl)
theorem W49 {g : GG} (W : GW g) : (Jvm.Cond.fieldLink "com/example/polecenie/polecenie/core/Pain001Reader$Element" (9 : Nat) "com/example/polecenie/polecenie/core/Pain001Reader$Element" "names" "[Ljava/lang/String;").before g.a0 g.Z = true := W.1 _ (List.mem_of_getElem? (i := 49) rfl)
theorem W50 {g : GG} (W : GW g) : (Jvm.Cond.lays "com/example/polecenie/polecenie/core/Pain001Reader$Element" "com/example/polecenie/polecenie/core/Pain001Reader$Element" "names" "[Ljava/lang/String;").before g.a0 g.Z = true := W.1 _ (List.mem_of_getElem? (i := 50) rfl)
theorem W51 {g : GG} (W : GW g) : (Jvm.Cond.methodLink "com/example/polecenie/polecenie/core/ElementNamePinLaw" (24 : Nat) ({ cls := "com/example/polecenie/polecenie/core/Pain001Reader$Element", name := "push", desc := "(Ljava/lang/String;)V" } : Jvm.MethodName)).before g.a0 g.Z = true := W.1 _ (List.mem_of_getElem? (i := 51) rfl)
theorem W52 {g : GG} (W : GW g) : (Jvm.Cond.declares ({ cls := "com/example/polecenie/polecenie/core/Pain001Reader$Element", name := "push", desc := "(Ljava/lang/String;)V" } : Jvm.MethodName)).before g.a0 g.Z = true := W.1 _ (List.mem_of_getElem? (i := 52) rfl)
theorem W53 {g : GG} (W : GW g) : (Jvm.Cond.instanceMethod ({ cls := "com/example/polecenie/polecenie/core/Pain001Reader$Element", name := "push", desc := "(Ljava/lang/String;)V" } : Jvm.MethodName)).before g.a0 g.Z = true := W.1 _ (List.mem_of_getElem? (i := 53) rfl)
theorem W54 {g : GG} (W : GW g) : (Jvm.Cond.selects "com/example/polecenie/polecenie/core/Pain001Reader$Element" ({ cls := "com/example/polecenie/polecenie/core/Pain001Reader$Element", name := "push", desc := "(Ljava/lang/String;)V" } : Jvm.MethodName) ({ cls := "com/example/polecenie/polecenie/core/Pain001Reader$Element", name := "push", desc := "(Ljava/lang/String;)V" } : Jvm.MethodName)).before g.a0 g.Z = true := W.1 _ (List.mem_of_getElem? (i := 54) rfl)
theorem W55 {g : GG} (W : GW g) : (Jvm.Cond.code ({ cls := "com/example/polecenie/polecenie/core/Pain001Reader$Element", name := "push", desc := "(Ljava/lang/String;)V" } : Jvm.MethodName) prog_35_method_12_code (2 : Nat) (Option.none : Option Jvm.ClassFile.FieldType)).before g.a0 g.Z = true := W.1 _ (List.mem_of_getElem? (i := 55) rfl)
theorem W56 {g : GG} (W : GW g) : (Jvm.Cond.fieldLink "com/example/polecenie/polecenie/core/Pain001Reader$Element" (15 : Nat) "com/example/polecenie/polecenie/core/Pain001Reader$Element" "depth" "I").before g.a0 g.Z = true := W.1 _ (List.mem_of_getElem? (i := 56) rfl)
theorem W57 {g : GG} (W : GW g) : (Jvm.Cond.lays "com/example/polecenie/polecenie/core/Pain001Reader$Element" "com/example/polecenie/polecenie/core/Pain001Reader$Element" "depth" "I").before g.a0 g.Z = true := W.1 _ (List.mem_of_getElem? (i := 57) rfl)
theorem W58 {g : GG} (W : GW g) : (Jvm.Cond.methodLink "com/example/polecenie/polecenie/core/Pain001Reader$Element" (62 : Nat) ({ cls := "com/example/polecenie/polecenie/core/Pain001Reader$Element", name := "isBlock", desc := "()Z" } : Jvm.MethodName)).before g.a0 g.Z = true := W.1 _ (List.mem_of_getElem? (i := 58) rfl)
theorem W59 {g : GG} (W : GW g) : (Jvm.Cond.declares ({ cls := "com/example/polecenie/polecenie/core/Pain001Reader$Element", name := "isBlock", desc := "()Z" } : Jvm.MethodName)).before g.a0 g.Z = true := W.1 _ (List.mem_of_getElem? (i := 59) rfl)
theorem W60 {g : GG} (W : GW g) : (Jvm.Cond.instanceMethod ({ cls := "com/example/polecenie/polecenie/core/Pain001Reader$Element", name := "isBlock", desc := "()Z" } : Jvm.MethodName)).before g.a0 g.Z = true := W.1 _ (List.mem_of_getElem? (i := 60) rfl)
theorem W61 {g : GG} (W : GW g) : (Jvm.Cond.selects "com/example/polecenie/polecenie/core/Pain001Reader$Element" ({ cls := "com/example/polecenie/polecenie/core/Pain001Reader$Element", name := "isBlock", desc := "()Z" } : Jvm.MethodName) ({ cls := "com/example/polecenie/polecenie/core/Pain001Reader$Element", name := "isBlock", desc := "()Z" } : Jvm.MethodName)).before g.a0 g.Z = true := W.1 _ (List.mem_of_getElem? (i := 61) rfl)
theorem W62 {g : GG} (W : GW g) : (Jvm.Cond.code ({ cls := "com/example/polecenie/polecenie/core/Pain001Reader$Element", name := "isBlock", desc := "()Z" } : Jvm.MethodName) prog_35_method_10_code (1 : Nat) (Option.some Jvm.ClassFile.FieldType.boolean)).before g.a0 g.Z = true := W.1 _ (List.mem_of_getElem? (i := 62) rfl)
theorem W63 {g : GG} (W : GW g) : (Jvm.Cond.methodLink "com/example/polecenie/polecenie/core/Pain001Reader$Element" (72 : Nat) ({ cls := "com/example/polecenie/polecenie/core/Pain001Reader$Element", name := "isTransaction", desc := "()Z" } : Jvm.MethodName)).before g.a0 g.Z = true := W.1 _ (List.mem_of_getElem? (i := 63) rfl)
theorem W64 {g : GG} (W : GW g) : (Jvm.Cond.declares ({ cls := "com/example/polecenie/polecenie/core/Pain001Reader$Element", name := "isTransaction", desc := "()Z" } : Jvm.MethodName)).before g.a0 g.Z = true := W.1 _ (List.mem_of_getElem? (i := 64) rfl)
theorem W65 {g : GG} (W : GW g) : (Jvm.Cond.instanceMethod ({ cls := "com/example/polecenie/polecenie/core/Pain001Reader$Element", name := "isTransaction", desc := "()Z" } : Jvm.MethodName)).before g.a0 g.Z = true := W.1 _ (List.mem_of_getElem? (i := 65) rfl)
theorem W66 {g : GG} (W : GW g) : (Jvm.Cond.selects "com/example/polecenie/polecenie/core/Pain001Reader$Element" ({ cls := "com/example/polecenie/polecenie/core/Pain001Reader$Element", name := "isTransaction", desc := "()Z" } : Jvm.MethodName) ({ cls := "com/example/polecenie/polecenie/core/Pain001Reader$Element", name := "isTransaction", desc := "()Z" } : Jvm.MethodName)).before g.a0 g.Z = true := W.1 _ (List.mem_of_getElem? (i := 66) rfl)
theorem W67 {g : GG} (W : GW g) : (Jvm.Cond.code ({ cls := "com/example/polecenie/polecenie/core/Pain001Reader$Element", name := "isTransaction", desc := "()Z" } : Jvm.MethodName) prog_35_method_11_code (1 : Nat) (Option.some Jvm.ClassFile.FieldType.boolean)).before g.a0 g.Z = true := W.1 _ (List.mem_of_getElem? (i := 67) rfl)
theorem W68 {g : GG} (W : GW g) : (Jvm.Cond.methodLink "com/example/polecenie/polecenie/core/ElementNamePinLaw" (28 : Nat) ({ cls := "com/example/polecenie/polecenie/core/Pain001Reader$Element", name := "name", desc := "()Ljava/lang/String;" } : Jvm.MethodName)).before g.a0 g.Z = true := W.1 _ (List.mem_of_getElem? (i := 68) rfl)
theorem W69 {g : GG} (W : GW g) : (Jvm.Cond.declares ({ cls := "com/example/polecenie/polecenie/core/Pain001Reader$Element", name := "name", desc := "()Ljava/lang/String;" } : Jvm.MethodName)).before g.a0 g.Z = true := W.1 _ (List.mem_of_getElem? (i := 69) rfl)
theorem W70 {g : GG} (W : GW g) : (Jvm.Cond.instanceMethod ({ cls := "com/example/polecenie/polecenie/core/Pain001Reader$Element", name := "name", desc := "()Ljava/lang/String;" } : Jvm.MethodName)).before g.a0 g.Z = true := W.1 _ (List.mem_of_getElem? (i := 70) rfl)
theorem W71 {g : GG} (W : GW g) : (Jvm.Cond.selects "com/example/polecenie/polecenie/core/Pain001Reader$Element" ({ cls := "com/example/polecenie/polecenie/core/Pain001Reader$Element", name := "name", desc := "()Ljava/lang/String;" } : Jvm.MethodName) ({ cls := "com/example/polecenie/polecenie/core/Pain001Reader$Element", name := "name", desc := "()Ljava/lang/String;" } : Jvm.MethodName)).before g.a0 g.Z = true := W.1 _ (List.mem_of_getElem? (i := 71) rfl)
theorem W72 {g : GG} (W : GW g) : (Jvm.Cond.code ({ cls := "com/example/polecenie/polecenie/core/Pain001Reader$Element", name := "name", desc := "()Ljava/lang/String;" } : Jvm.MethodName) prog_35_method_2_code (1 : Nat) (Option.some (Jvm.ClassFile.FieldType.object "java/lang/String"))).before g.a0 g.Z = true := W.1 _ (List.mem_of_getElem? (i := 72) rfl)
theorem W73 {g : GG} (W : GW g) : (Jvm.Cond.methodLink "com/example/polecenie/polecenie/core/ElementNamePinLaw" (32 : Nat) ({ cls := "java/lang/String", name := "equals", desc := "(Ljava/lang/Object;)Z" } : Jvm.MethodName)).before g.a0 g.Z = true := W.1 _ (List.mem_of_getElem? (i := 73) rfl)
theorem W74 {g : GG} (W : GW g) : (Jvm.Cond.declares ({ cls := "java/lang/String", name := "equals", desc := "(Ljava/lang/Object;)Z" } : Jvm.MethodName)).before g.a0 g.Z = true := W.1 _ (List.mem_of_getElem? (i := 74) rfl)
theorem W75 {g : GG} (W : GW g) : (Jvm.Cond.instanceMethod ({ cls := "java/lang/String", name := "equals", desc := "(Ljava/lang/Object;)Z" } : Jvm.MethodName)).before g.a0 g.Z = true := W.1 _ (List.mem_of_getElem? (i := 75) rfl)
theorem W76 {g : GG} (W : GW g) : (Jvm.Cond.selects "java/lang/String" ({ cls := "java/lang/String", name := "equals", desc := "(Ljava/lang/Object;)Z" } : Jvm.MethodName) ({ cls := "java/lang/String", name := "equals", desc := "(Ljava/lang/Object;)Z" } : Jvm.MethodName)).before g.a0 g.Z = true := W.1 _ (List.mem_of_getElem? (i := 76) rfl)
theorem W77 {g : GG} (W : GW g) : (Jvm.Cond.code ({ cls := "java/lang/String", name := "equals", desc := "(Ljava/lang/Object;)Z" } : Jvm.MethodName) jdk_42_method_66_code (3 : Nat) (Option.some Jvm.ClassFile.FieldType.boolean)).before g.a0 g.Z = true := W.1 _ (List.mem_of_getElem? (i := 77) rfl)
theorem W78 {g : GG} (W : GW g) : (Jvm.Cond.stringLink "com/example/polecenie/polecenie/core/Pain001Reader$Element" (41 : Nat) "Document").before g.a0 g.Z = true := W.1 _ (List.mem_of_getElem? (i := 78) rfl)
theorem W79 {g : GG} (W : GW g) : (Jvm.Cond.stringLink "com/example/polecenie/polecenie/core/Pain001Reader$Element" (43 : Nat) "CstmrCdtTrfInitn").before g.a0 g.Z = true := W.1 _ (List.mem_of_getElem? (i := 79) rfl)
theorem W80 {g : GG} (W : GW g) : (Jvm.Cond.stringLink "com/example/polecenie/polecenie/core/Pain001Reader$Element" (51 : Nat) "PmtInf").before g.a0 g.Z = true := W.1 _ (List.mem_of_getElem? (i := 80) rfl)
theorem W81 {g : GG} (W : GW g) : (Jvm.Cond.methodLink "com/example/polecenie/polecenie/core/Pain001Reader$Element" (47 : Nat) ({ cls := "com/example/polecenie/polecenie/core/Pain001Reader$Element", name := "is", desc := "([Ljava/lang/String;)Z" } : Jvm.MethodName)).before g.a0 g.Z = true := W.1 _ (List.mem_of_getElem? (i := 81) rfl)
theorem W82 {g : GG} (W : GW g) : (Jvm.Cond.declares ({ cls := "com/example/polecenie/polecenie/core/Pain001Reader$Element", name := "is", desc := "([Ljava/lang/String;)Z" } : Jvm.MethodName)).before g.a0 g.Z = true := W.1 _ (List.mem_of_getElem? (i := 82) rfl)
theorem W83 {g : GG} (W : GW g) : (Jvm.Cond.instanceMethod ({ cls := "com/example/polecenie/polecenie/core/Pain001Reader$Element", name := "is", desc := "([Ljava/lang/String;)Z" } : Jvm.MethodName)).before g.a0 g.Z = true := W.1 _ (List.mem_of_getElem? (i := 83) rfl)
theorem W84 {g : GG} (W : GW g) : (Jvm.Cond.selects "com/example/polecenie/polecenie/core/Pain001Reader$Element" ({ cls := "com/example/polecenie/polecenie/core/Pain001Reader$Element", name := "is", desc := "([Ljava/lang/String;)Z" } : Jvm.MethodName) ({ cls := "com/example/polecenie/polecenie/core/Pain001Reader$Element", name := "is", desc := "([Ljava/lang/String;)Z" } : Jvm.MethodName)).before g.a0 g.Z = true := W.1 _ (List.mem_of_getElem? (i := 84) rfl)
theorem W85 {g : GG} (W : GW g) : (Jvm.Cond.code ({ cls := "com/example/polecenie/polecenie/core/Pain001Reader$Element", name := "is", desc := "([Ljava/lang/String;)Z" } : Jvm.MethodName) prog_35_method_6_code (3 : Nat) (Option.some Jvm.ClassFile.FieldType.boolean)).before g.a0 g.Z = true := W.1 _ (List.mem_of_getElem? (i := 85) rfl)
theorem W86 {g : GG} (W : GW g) : (Jvm.Cond.methodLink "com/example/polecenie/polecenie/core/Pain001Reader$Element" (31 : Nat) ({ cls := "java/lang/String", name := "equals", desc := "(Ljava/lang/Object;)Z" } : Jvm.MethodName)).before g.a0 g.Z = true := W.1 _ (List.mem_of_getElem? (i := 86) rfl)
theorem W87 {g : GG} (W : GW g) : (Jvm.Cond.classLink "java/lang/String" (10 : Nat) "java/lang/String").before g.a0 g.Z = true := W.1 _ (List.mem_of_getElem? (i := 87) rfl)
theorem W88 {g : GG} (W : GW g) : (Jvm.Cond.methodLink "java/lang/String" (541 : Nat) ({ cls := "java/lang/StringLatin1", name := "equals", desc := "([B[B)Z" } : Jvm.MethodName)).before g.a0 g.Z = true := W.1 _ (List.mem_of_getElem? (i := 88) rfl)
theorem W89 {g : GG} (W : GW g) : (Jvm.Cond.static ({ cls := "java/lang/StringLatin1", name := "equals", desc := "([B[B)Z" } : Jvm.MethodName)).before g.a0 g.Z = true := W.1 _ (List.mem_of_getElem? (i := 89) rfl)
theorem W90 {g : GG} (W : GW g) : (Jvm.Cond.initialized "java/lang/StringLatin1").before g.a0 g.Z = true := W.1 _ (List.mem_of_getElem? (i := 90) rfl)
theorem W91 {g : GG} (W : GW g) : (Jvm.Cond.code ({ cls := "java/lang/StringLatin1", name := "equals", desc := "([B[B)Z" } : Jvm.MethodName) jdk_43_method_13_code (3 : Nat) (Option.some Jvm.ClassFile.FieldType.boolean)).before g.a0 g.Z = true := W.1 _ (List.mem_of_getElem? (i := 91) rfl)
theorem W92 {g : GG} (W : GW g) : (Jvm.Cond.fieldLink "com/example/polecenie/polecenie/core/Pain001Reader$Element" (35 : Nat) "com/example/polecenie/polecenie/core/Pain001Reader$Element" "block" "I").before g.a0 g.Z = true := W.1 _ (List.mem_of_getElem? (i := 92) rfl)
theorem W93 {g : GG} (W : GW g) : (Jvm.Cond.lays "com/example/polecenie/polecenie/core/Pain001Reader$Element" "com/example/polecenie/polecenie/core/Pain001Reader$Element" "block" "I").before g.a0 g.Z = true := W.1 _ (List.mem_of_getElem? (i := 93) rfl)
theorem W94 {g : GG} (W : GW g) : (Jvm.Cond.methodLink "com/example/polecenie/polecenie/core/ElementNamePinLaw" (38 : Nat) ({ cls := "com/example/polecenie/polecenie/core/Pain001Reader$Element", name := "pop", desc := "()V" } : Jvm.MethodName)).before g.a0 g.Z = true := W.1 _ (List.mem_of_getElem? (i := 94) rfl)
theorem W95 {g : GG} (W : GW g) : (Jvm.Cond.declares ({ cls := "com/example/polecenie/polecenie/core/Pain001Reader$Element", name := "pop", desc := "()V" } : Jvm.MethodName)).before g.a0 g.Z = true := W.1 _ (List.mem_of_getElem? (i := 95) rfl)
theorem W96 {g : GG} (W : GW g) : (Jvm.Cond.instanceMethod ({ cls := "com/example/polecenie/polecenie/core/Pain001Reader$Element", name := "pop", desc := "()V" } : Jvm.MethodName)).before g.a0 g.Z = true := W.1 _ (List.mem_of_getElem? (i := 96) rfl)
theorem W97 {g : GG} (W : GW g) : (Jvm.Cond.selects "com/example/polecenie/polecenie/core/Pain001Reader$Element" ({ cls := "com/example/polecenie/polecenie/core/Pain001Reader$Element", name := "pop", desc := "()V" } : Jvm.MethodName) ({ cls := "com/example/polecenie/polecenie/core/Pain001Reader$Element", name := "pop", desc := "()V" } : Jvm.MethodName)).before g.a0 g.Z = true := W.1 _ (List.mem_of_getElem? (i := 97) rfl)
theorem W98 {g : GG} (W : GW g) : (Jvm.Cond.code ({ cls := "com/example/polecenie/polecenie/core/Pain001Reader$Element", name := "pop", desc := "()V" } : Jvm.MethodName) prog_35_method_13_code (1 : Nat) (Option.none : Option Jvm.ClassFile.FieldType)).before g.a0 g.Z = true := W.1 _ (List.mem_of_getElem? (i := 98) rfl)
theorem W99 {g : GG} (W : GW g) : (Jvm.Cond.fieldLink "com/example/polecenie/polecenie/core/Pain001Reader$Element" (66 : Nat) "com/example/polecenie/polecenie/core/Pain001Reader$Element" "blocks" "I").before g.a0 g.Z = true := W.1 _ (List.mem_of_getElem? (i := 99) rfl)
theorem W100 {g : GG} (W : GW g) : (Jvm.Cond.lays "com/example/polecenie/polecenie/core/Pain001Reader$Element" "com/example/polecenie/polecenie/core/Pain001Reader$Element" "blocks" "I").before g.a0 g.Z = true := W.1 _ (List.mem_of_getElem? (i := 100) rfl)
theorem W101 {g : GG} (W : GW g) : (Jvm.Cond.fieldLink "com/example/polecenie/polecenie/core/Pain001Reader$Element" (69 : Nat) "com/example/polecenie/polecenie/core/Pain001Reader$Element" "transactions" "I").before g.a0 g.Z = true := W.1 _ (List.mem_of_getElem? (i := 101) rfl)
theorem W102 {g : GG} (W : GW g) : (Jvm.Cond.lays "com/example/polecenie/polecenie/core/Pain001Reader$Element" "com/example/polecenie/polecenie/core/Pain001Reader$Element" "transactions" "I").before g.a0 g.Z = true := W.1 _ (List.mem_of_getElem? (i := 102) rfl)
theorem W103 {g : GG} (W : GW g) : (Jvm.Cond.stringLink "com/example/polecenie/polecenie/core/Pain001Reader$Element" (53 : Nat) "CdtTrfTxInf").before g.a0 g.Z = true := W.1 _ (List.mem_of_getElem? (i := 103) rfl)
theorem W104 {g : GG} (W : GW g) : (Jvm.Cond.fieldLink "com/example/polecenie/polecenie/core/Pain001Reader$Element" (38 : Nat) "com/example/polecenie/polecenie/core/Pain001Reader$Element" "transaction" "I").before g.a0 g.Z = true := W.1 _ (List.mem_of_getElem? (i := 104) rfl)
theorem W105 {g : GG} (W : GW g) : (Jvm.Cond.lays "com/example/polecenie/polecenie/core/Pain001Reader$Element" "com/example/polecenie/polecenie/core/Pain001Reader$Element" "transaction" "I").before g.a0 g.Z = true := W.1 _ (List.mem_of_getElem? (i := 105) rfl)
theorem d1_0 : decode method_3_code 0 = .ok (.iload_n 0, 1) := by decide +kernel
theorem d1_1 : decode method_3_code 1 = .ok (.bipush 16, 2) := by decide +kernel
theorem d1_3 : decode method_3_code 3 = .ok (.iushr, 1) := by decide +kernel
theorem d1_4 : decode method_3_code 4 = .ok (.iconst 1, 1) := by decide +kernel
theorem d1_5 : decode method_3_code 5 = .ok (.iand, 1) := by decide +kernel
theorem d1_6 : decode method_3_code 6 = .ok (.ifCond .eq 5, 3) := by decide +kernel
theorem d1_9 : decode method_3_code 9 = .ok (.aload_n 1, 1) := by decide +kernel
theorem d1_10 : decode method_3_code 10 = .ok (.areturn, 1) := by decide +kernel
theorem d1_11 : decode method_3_code 11 = .ok (.iconst 2, 1) := by decide +kernel
theorem d1_12 : decode method_3_code 12 = .ok (.newarray .char, 2) := by decide +kernel
theorem d1_14 : decode method_3_code 14 = .ok (.astore_n 2, 1) := by decide +kernel
theorem d1_15 : decode method_3_code 15 = .ok (.aload_n 2, 1) := by decide +kernel
theorem d1_16 : decode method_3_code 16 = .ok (.iconst 0, 1) := by decide +kernel
theorem d1_17 : decode method_3_code 17 = .ok (.iload_n 0, 1) := by decide +kernel
theorem d1_18 : decode method_3_code 18 = .ok (.sipush 255, 3) := by decide +kernel
theorem d1_21 : decode method_3_code 21 = .ok (.iand, 1) := by decide +kernel
theorem d1_22 : decode method_3_code 22 = .ok (.i2c, 1) := by decide +kernel
theorem d1_23 : decode method_3_code 23 = .ok (.castore, 1) := by decide +kernel
theorem d1_24 : decode method_3_code 24 = .ok (.aload_n 2, 1) := by decide +kernel
theorem d1_25 : decode method_3_code 25 = .ok (.iconst 1, 1) := by decide +kernel
theorem d1_26 : decode method_3_code 26 = .ok (.iload_n 0, 1) := by decide +kernel
theorem d1_27 : decode method_3_code 27 = .ok (.bipush 8, 2) := by decide +kernel
theorem d1_29 : decode method_3_code 29 = .ok (.iushr, 1) := by decide +kernel
theorem d1_30 : decode method_3_code 30 = .ok (.sipush 255, 3) := by decide +kernel
theorem d1_33 : decode method_3_code 33 = .ok (.iand, 1) := by decide +kernel
theorem d1_34 : decode method_3_code 34 = .ok (.i2c, 1) := by decide +kernel
theorem d1_35 : decode method_3_code 35 = .ok (.castore, 1) := by decide +kernel
theorem d1_36 : decode method_3_code 36 = .ok (.new 33, 3) := by decide +kernel
theorem d1_39 : decode method_3_code 39 = .ok (.dup, 1) := by decide +kernel
theorem d1_40 : decode method_3_code 40 = .ok (.aload_n 2, 1) := by decide +kernel
theorem d1_41 : decode method_3_code 41 = .ok (.invokespecial 41, 3) := by decide +kernel
theorem d1_44 : decode method_3_code 44 = .ok (.areturn, 1) := by decide +kernel
theorem d2_0 : decode jdk_42_method_3_code 0 = .ok (.aload_n 0, 1) := by decide +kernel
theorem d2_1 : decode jdk_42_method_3_code 1 = .ok (.aload_n 1, 1) := by decide +kernel
theorem d2_2 : decode jdk_42_method_3_code 2 = .ok (.iconst 0, 1) := by decide +kernel
theorem d2_3 : decode jdk_42_method_3_code 3 = .ok (.aload_n 1, 1) := by decide +kernel
theorem d2_4 : decode jdk_42_method_3_code 4 = .ok (.arraylength, 1) := by decide +kernel
theorem d2_5 : decode jdk_42_method_3_code 5 = .ok (.aconst_null, 1) := by decide +kernel
theorem d2_6 : decode jdk_42_method_3_code 6 = .ok (.invokespecial 27, 3) := by decide +kernel
theorem d2_9 : decode jdk_42_method_3_code 9 = .ok (.return_, 1) := by decide +kernel
theorem d3_0 : decode jdk_42_method_149_code 0 = .ok (.aload_n 0, 1) := by decide +kernel
theorem d3_1 : decode jdk_42_method_149_code 1 = .ok (.invokespecial 1, 3) := by decide +kernel
theorem d3_4 : decode jdk_42_method_149_code 4 = .ok (.iload_n 3, 1) := by decide +kernel
theorem d3_5 : decode jdk_42_method_149_code 5 = .ok (.ifCond .ne 22, 3) := by decide +kernel
theorem d3_27 : decode jdk_42_method_149_code 27 = .ok (.getstatic 38, 3) := by decide +kernel
theorem d3_30 : decode jdk_42_method_149_code 30 = .ok (.ifCond .eq 28, 3) := by decide +kernel
theorem d3_33 : decode jdk_42_method_149_code 33 = .ok (.aload_n 1, 1) := by decide +kernel
theorem d3_34 : decode jdk_42_method_149_code 34 = .ok (.iload_n 2, 1) := by decide +kernel
theorem d3_35 : decode jdk_42_method_149_code 35 = .ok (.iload_n 3, 1) := by decide +kernel
theorem d3_36 : decode jdk_42_method_149_code 36 = .ok (.invokestatic 177, 3) := by decide +kernel
theorem d3_39 : decode jdk_42_method_149_code 39 = .ok (.astore 5, 2) := by decide +kernel
theorem d3_41 : decode jdk_42_method_149_code 41 = .ok (.aload_n 0, 1) := by decide +kernel
theorem d3_42 : decode jdk_42_method_149_code 42 = .ok (.aload 5, 2) := by decide +kernel
theorem d3_44 : decode jdk_42_method_149_code 44 = .ok (.iload_n 3, 1) := by decide +kernel
theorem d3_45 : decode jdk_42_method_149_code 45 = .ok (.invokestatic 47, 3) := by decide +kernel
theorem d3_48 : decode jdk_42_method_149_code 48 = .ok (.putfield 15, 3) := by decide +kernel
theorem d3_51 : decode jdk_42_method_149_code 51 = .ok (.aload_n 0, 1) := by decide +kernel
theorem d3_52 : decode jdk_42_method_149_code 52 = .ok (.aload 5, 2) := by decide +kernel
theorem d3_54 : decode jdk_42_method_149_code 54 = .ok (.putfield 9, 3) := by decide +kernel
theorem d3_57 : decode jdk_42_method_149_code 57 = .ok (.return_, 1) := by decide +kernel
theorem d5_0 : decode jdk_52_method_16_code 0 = .ok (.iload_n 2, 1) := by decide +kernel
theorem d5_1 : decode jdk_52_method_16_code 1 = .ok (.newarray .byte, 2) := by decide +kernel
theorem d5_3 : decode jdk_52_method_16_code 3 = .ok (.astore_n 3, 1) := by decide +kernel
theorem d5_4 : decode jdk_52_method_16_code 4 = .ok (.aload_n 0, 1) := by decide +kernel
theorem d5_5 : decode jdk_52_method_16_code 5 = .ok (.iload_n 1, 1) := by decide +kernel
theorem d5_6 : decode jdk_52_method_16_code 6 = .ok (.aload_n 3, 1) := by decide +kernel
theorem d5_7 : decode jdk_52_method_16_code 7 = .ok (.iconst 0, 1) := by decide +kernel
theorem d5_8 : decode jdk_52_method_16_code 8 = .ok (.iload_n 2, 1) := by decide +kernel
theorem d5_9 : decode jdk_52_method_16_code 9 = .ok (.invokestatic 115, 3) := by decide +kernel
theorem d5_12 : decode jdk_52_method_16_code 12 = .ok (.istore 4, 2) := by decide +kernel
theorem d5_14 : decode jdk_52_method_16_code 14 = .ok (.iload 4, 2) := by decide +kernel
theorem d5_16 : decode jdk_52_method_16_code 16 = .ok (.iload_n 2, 1) := by decide +kernel
theorem d5_17 : decode jdk_52_method_16_code 17 = .ok (.if_icmp .eq 40, 3) := by decide +kernel
theorem d5_57 : decode jdk_52_method_16_code 57 = .ok (.aload_n 3, 1) := by decide +kernel
theorem d5_58 : decode jdk_52_method_16_code 58 = .ok (.areturn, 1) := by decide +kernel
theorem d6_0 : decode jdk_52_method_21_code 0 = .ok (.iconst 0, 1) := by decide +kernel
theorem d6_1 : decode jdk_52_method_21_code 1 = .ok (.istore 5, 2) := by decide +kernel
theorem d6_3 : decode jdk_52_method_21_code 3 = .ok (.iload 5, 2) := by decide +kernel
theorem d6_5 : decode jdk_52_method_21_code 5 = .ok (.iload 4, 2) := by decide +kernel
theorem d6_7 : decode jdk_52_method_21_code 7 = .ok (.if_icmp .ge 37, 3) := by decide +kernel
theorem d6_10 : decode jdk_52_method_21_code 10 = .ok (.aload_n 0, 1) := by decide +kernel
theorem d6_11 : decode jdk_52_method_21_code 11 = .ok (.iload_n 1, 1) := by decide +kernel
theorem d6_12 : decode jdk_52_method_21_code 12 = .ok (.caload, 1) := by decide +kernel
theorem d6_13 : decode jdk_52_method_21_code 13 = .ok (.istore 6, 2) := by decide +kernel
theorem d6_15 : decode jdk_52_method_21_code 15 = .ok (.iload 6, 2) := by decide +kernel
theorem d6_17 : decode jdk_52_method_21_code 17 = .ok (.sipush 255, 3) := by decide +kernel
theorem d6_20 : decode jdk_52_method_21_code 20 = .ok (.if_icmp .le 6, 3) := by decide +kernel
theorem d6_26 : decode jdk_52_method_21_code 26 = .ok (.aload_n 2, 1) := by decide +kernel
theorem d6_27 : decode jdk_52_method_21_code 27 = .ok (.iload_n 3, 1) := by decide +kernel
theorem d6_28 : decode jdk_52_method_21_code 28 = .ok (.iload 6, 2) := by decide +kernel
theorem d6_30 : decode jdk_52_method_21_code 30 = .ok (.i2b, 1) := by decide +kernel
theorem d6_31 : decode jdk_52_method_21_code 31 = .ok (.bastore, 1) := by decide +kernel
theorem d6_32 : decode jdk_52_method_21_code 32 = .ok (.iinc 1 1, 3) := by decide +kernel
theorem d6_35 : decode jdk_52_method_21_code 35 = .ok (.iinc 3 1, 3) := by decide +kernel
theorem d6_38 : decode jdk_52_method_21_code 38 = .ok (.iinc 5 1, 3) := by decide +kernel
theorem d6_41 : decode jdk_52_method_21_code 41 = .ok (.goto (-38), 3) := by decide +kernel
theorem d6_44 : decode jdk_52_method_21_code 44 = .ok (.iload 4, 2) := by decide +kernel
theorem d6_46 : decode jdk_52_method_21_code 46 = .ok (.ireturn, 1) := by decide +kernel
theorem d7_0 : decode jdk_52_method_15_code 0 = .ok (.iload_n 1, 1) := by decide +kernel
theorem d7_1 : decode jdk_52_method_15_code 1 = .ok (.aload_n 0, 1) := by decide +kernel
theorem d7_2 : decode jdk_52_method_15_code 2 = .ok (.arraylength, 1) := by decide +kernel
theorem d7_3 : decode jdk_52_method_15_code 3 = .ok (.isub, 1) := by decide +kernel
theorem d7_4 : decode jdk_52_method_15_code 4 = .ok (.bipush 31, 2) := by decide +kernel
theorem d7_6 : decode jdk_52_method_15_code 6 = .ok (.iushr, 1) := by decide +kernel
theorem d7_7 : decode jdk_52_method_15_code 7 = .ok (.i2b, 1) := by decide +kernel
theorem d7_8 : decode jdk_52_method_15_code 8 = .ok (.ireturn, 1) := by decide +kernel
theorem d8_0 : decode prog_35_method_1_code 0 = .ok (.aload_n 0, 1) := by decide +kernel
theorem d8_1 : decode prog_35_method_1_code 1 = .ok (.invokespecial 1, 3) := by decide +kernel
theorem d8_4 : decode prog_35_method_1_code 4 = .ok (.aload_n 0, 1) := by decide +kernel
theorem d8_5 : decode prog_35_method_1_code 5 = .ok (.bipush 16, 2) := by decide +kernel
theorem d8_7 : decode prog_35_method_1_code 7 = .ok (.anewarray 7, 3) := by decide +kernel
theorem d8_10 : decode prog_35_method_1_code 10 = .ok (.putfield 9, 3) := by decide +kernel
theorem d8_13 : decode prog_35_method_1_code 13 = .ok (.return_, 1) := by decide +kernel
theorem d9_0 : decode prog_35_method_12_code 0 = .ok (.aload_n 0, 1) := by decide +kernel
theorem d9_1 : decode prog_35_method_12_code 1 = .ok (.getfield 15, 3) := by decide +kernel
theorem d9_4 : decode prog_35_method_12_code 4 = .ok (.aload_n 0, 1) := by decide +kernel
theorem d9_5 : decode prog_35_method_12_code 5 = .ok (.getfield 9, 3) := by decide +kernel
theorem d9_8 : decode prog_35_method_12_code 8 = .ok (.arraylength, 1) := by decide +kernel
theorem d9_9 : decode prog_35_method_12_code 9 = .ok (.if_icmp .ne 23, 3) := by decide +kernel
theorem d9_32 : decode prog_35_method_12_code 32 = .ok (.aload_n 0, 1) := by decide +kernel
theorem d9_33 : decode prog_35_method_12_code 33 = .ok (.getfield 9, 3) := by decide +kernel
theorem d9_36 : decode prog_35_method_12_code 36 = .ok (.aload_n 0, 1) := by decide +kernel
theorem d9_37 : decode prog_35_method_12_code 37 = .ok (.dup, 1) := by decide +kernel
theorem d9_38 : decode prog_35_method_12_code 38 = .ok (.getfield 15, 3) := by decide +kernel
theorem d9_41 : decode prog_35_method_12_code 41 = .ok (.dup_x1, 1) := by decide +kernel
theorem d9_42 : decode prog_35_method_12_code 42 = .ok (.iconst 1, 1) := by decide +kernel
theorem d9_43 : decode prog_35_method_12_code 43 = .ok (.iadd, 1) := by decide +kernel
theorem d9_44 : decode prog_35_method_12_code 44 = .ok (.putfield 15, 3) := by decide +kernel
theorem d9_47 : decode prog_35_method_12_code 47 = .ok (.aload_n 1, 1) := by decide +kernel
theorem d9_48 : decode prog_35_method_12_code 48 = .ok (.aastore, 1) := by decide +kernel
theorem d9_49 : decode prog_35_method_12_code 49 = .ok (.aload_n 0, 1) := by decide +kernel
theorem d9_50 : decode prog_35_method_12_code 50 = .ok (.invokevirtual 62, 3) := by decide +kernel
theorem d9_53 : decode prog_35_method_12_code 53 = .ok (.ifCond .eq 26, 3) := by decide +kernel
theorem d9_56 : decode prog_35_method_12_code 56 = .ok (.aload_n 0, 1) := by decide +kernel
theorem d9_57 : decode prog_35_method_12_code 57 = .ok (.aload_n 0, 1) := by decide +kernel
theorem d9_58 : decode prog_35_method_12_code 58 = .ok (.dup, 1) := by decide +kernel
theorem d9_59 : decode prog_35_method_12_code 59 = .ok (.getfield 66, 3) := by decide +kernel
theorem d9_62 : decode prog_35_method_12_code 62 = .ok (.iconst 1, 1) := by decide +kernel
theorem d9_63 : decode prog_35_method_12_code 63 = .ok (.iadd, 1) := by decide +kernel
theorem d9_64 : decode prog_35_method_12_code 64 = .ok (.dup_x1, 1) := by decide +kernel
theorem d9_65 : decode prog_35_method_12_code 65 = .ok (.putfield 66, 3) := by decide +kernel
theorem d9_68 : decode prog_35_method_12_code 68 = .ok (.putfield 35, 3) := by decide +kernel
theorem d9_71 : decode prog_35_method_12_code 71 = .ok (.aload_n 0, 1) := by decide +kernel
theorem d9_72 : decode prog_35_method_12_code 72 = .ok (.iconst 0, 1) := by decide +kernel
theorem d9_73 : decode prog_35_method_12_code 73 = .ok (.putfield 69, 3) := by decide +kernel
theorem d9_76 : decode prog_35_method_12_code 76 = .ok (.goto 25, 3) := by decide +kernel
theorem d9_79 : decode prog_35_method_12_code 79 = .ok (.aload_n 0, 1) := by decide +kernel
theorem d9_80 : decode prog_35_method_12_code 80 = .ok (.invokevirtual 72, 3) := by decide +kernel
theorem d9_83 : decode prog_35_method_12_code 83 = .ok (.ifCond .eq 18, 3) := by decide +kernel
theorem d9_86 : decode prog_35_method_12_code 86 = .ok (.aload_n 0, 1) := by decide +kernel
theorem d9_87 : decode prog_35_method_12_code 87 = .ok (.aload_n 0, 1) := by decide +kernel
theorem d9_88 : decode prog_35_method_12_code 88 = .ok (.dup, 1) := by decide +kernel
theorem d9_89 : decode prog_35_method_12_code 89 = .ok (.getfield 69, 3) := by decide +kernel
theorem d9_92 : decode prog_35_method_12_code 92 = .ok (.iconst 1, 1) := by decide +kernel
theorem d9_93 : decode prog_35_method_12_code 93 = .ok (.iadd, 1) := by decide +kernel
theorem d9_94 : decode prog_35_method_12_code 94 = .ok (.dup_x1, 1) := by decide +kernel
theorem d9_95 : decode prog_35_method_12_code 95 = .ok (.putfield 69, 3) := by decide +kernel
theorem d9_98 : decode prog_35_method_12_code 98 = .ok (.putfield 38, 3) := by decide +kernel
theorem d9_101 : decode prog_35_method_12_code 101 = .ok (.return_, 1) := by decide +kernel
theorem d10_0 : decode prog_35_method_10_code 0 = .ok (.aload_n 0, 1) := by decide +kernel
theorem d10_1 : decode prog_35_method_10_code 1 = .ok (.getfield 15, 3) := by decide +kernel
theorem d10_4 : decode prog_35_method_10_code 4 = .ok (.iconst 3, 1) := by decide +kernel
theorem d10_5 : decode prog_35_method_10_code 5 = .ok (.if_icmp .ne 33, 3) := by decide +kernel
theorem d10_8 : decode prog_35_method_10_code 8 = .ok (.aload_n 0, 1) := by decide +kernel
theorem d10_9 : decode prog_35_method_10_code 9 = .ok (.iconst 3, 1) := by decide +kernel
theorem d10_10 : decode prog_35_method_10_code 10 = .ok (.anewarray 7, 3) := by decide +kernel
theorem d10_13 : decode prog_35_method_10_code 13 = .ok (.dup, 1) := by decide +kernel
theorem d10_14 : decode prog_35_method_10_code 14 = .ok (.iconst 0, 1) := by decide +kernel
theorem d10_15 : decode prog_35_method_10_code 15 = .ok (.ldc 41, 2) := by decide +kernel
theorem d10_17 : decode prog_35_method_10_code 17 = .ok (.aastore, 1) := by decide +kernel
theorem d10_18 : decode prog_35_method_10_code 18 = .ok (.dup, 1) := by decide +kernel
theorem d10_19 : decode prog_35_method_10_code 19 = .ok (.iconst 1, 1) := by decide +kernel
theorem d10_20 : decode prog_35_method_10_code 20 = .ok (.ldc 43, 2) := by decide +kernel
theorem d10_22 : decode prog_35_method_10_code 22 = .ok (.aastore, 1) := by decide +kernel
theorem d10_23 : decode prog_35_method_10_code 23 = .ok (.dup, 1) := by decide +kernel
theorem d10_24 : decode prog_35_method_10_code 24 = .ok (.iconst 2, 1) := by decide +kernel
theorem d10_25 : decode prog_35_method_10_code 25 = .ok (.ldc 51, 2) := by decide +kernel
theorem d10_27 : decode prog_35_method_10_code 27 = .ok (.aastore, 1) := by decide +kernel
theorem d10_28 : decode prog_35_method_10_code 28 = .ok (.invokevirtual 47, 3) := by decide +kernel
theorem d10_31 : decode prog_35_method_10_code 31 = .ok (.ifCond .eq 7, 3) := by decide +kernel
theorem d10_34 : decode prog_35_method_10_code 34 = .ok (.iconst 1, 1) := by decide +kernel
theorem d10_35 : decode prog_35_method_10_code 35 = .ok (.goto 4, 3) := by decide +kernel
theorem d10_38 : decode prog_35_method_10_code 38 = .ok (.iconst 0, 1) := by decide +kernel
theorem d10_39 : decode prog_35_method_10_code 39 = .ok (.ireturn, 1) := by decide +kernel
theorem d11_0 : decode prog_35_method_11_code 0 = .ok (.aload_n 0, 1) := by decide +kernel
theorem d11_1 : decode prog_35_method_11_code 1 = .ok (.getfield 15, 3) := by decide +kernel
theorem d11_4 : decode prog_35_method_11_code 4 = .ok (.iconst 4, 1) := by decide +kernel
theorem d11_5 : decode prog_35_method_11_code 5 = .ok (.if_icmp .ne 30, 3) := by decide +kernel
theorem d11_8 : decode prog_35_method_11_code 8 = .ok (.aload_n 0, 1) := by decide +kernel
theorem d11_9 : decode prog_35_method_11_code 9 = .ok (.getfield 35, 3) := by decide +kernel
theorem d11_12 : decode prog_35_method_11_code 12 = .ok (.ifCond .eq 23, 3) := by decide +kernel
theorem d11_15 : decode prog_35_method_11_code 15 = .ok (.aload_n 0, 1) := by decide +kernel
theorem d11_16 : decode prog_35_method_11_code 16 = .ok (.iconst 1, 1) := by decide +kernel
theorem d11_17 : decode prog_35_method_11_code 17 = .ok (.anewarray 7, 3) := by decide +kernel
theorem d11_20 : decode prog_35_method_11_code 20 = .ok (.dup, 1) := by decide +kernel
theorem d11_21 : decode prog_35_method_11_code 21 = .ok (.iconst 0, 1) := by decide +kernel
theorem d11_22 : decode prog_35_method_11_code 22 = .ok (.ldc 53, 2) := by decide +kernel
theorem d11_24 : decode prog_35_method_11_code 24 = .ok (.aastore, 1) := by decide +kernel
theorem d11_25 : decode prog_35_method_11_code 25 = .ok (.invokevirtual 47, 3) := by decide +kernel
theorem d11_28 : decode prog_35_method_11_code 28 = .ok (.ifCond .eq 7, 3) := by decide +kernel
theorem d11_31 : decode prog_35_method_11_code 31 = .ok (.iconst 1, 1) := by decide +kernel
theorem d11_32 : decode prog_35_method_11_code 32 = .ok (.goto 4, 3) := by decide +kernel
theorem d11_35 : decode prog_35_method_11_code 35 = .ok (.iconst 0, 1) := by decide +kernel
theorem d11_36 : decode prog_35_method_11_code 36 = .ok (.ireturn, 1) := by decide +kernel
theorem d12_0 : decode prog_35_method_2_code 0 = .ok (.aload_n 0, 1) := by decide +kernel
theorem d12_1 : decode prog_35_method_2_code 1 = .ok (.getfield 9, 3) := by decide +kernel
theorem d12_4 : decode prog_35_method_2_code 4 = .ok (.aload_n 0, 1) := by decide +kernel
theorem d12_5 : decode prog_35_method_2_code 5 = .ok (.getfield 15, 3) := by decide +kernel
theorem d12_8 : decode prog_35_method_2_code 8 = .ok (.iconst 1, 1) := by decide +kernel
theorem d12_9 : decode prog_35_method_2_code 9 = .ok (.isub, 1) := by decide +kernel
theorem d12_10 : decode prog_35_method_2_code 10 = .ok (.aaload, 1) := by decide +kernel
theorem d12_11 : decode prog_35_method_2_code 11 = .ok (.areturn, 1) := by decide +kernel
theorem d13_0 : decode jdk_42_method_66_code 0 = .ok (.aload_n 0, 1) := by decide +kernel
theorem d13_1 : decode jdk_42_method_66_code 1 = .ok (.aload_n 1, 1) := by decide +kernel
theorem d13_2 : decode jdk_42_method_66_code 2 = .ok (.if_acmp .ne 5, 3) := by decide +kernel
theorem d13_5 : decode jdk_42_method_66_code 5 = .ok (.iconst 1, 1) := by decide +kernel
theorem d13_6 : decode jdk_42_method_66_code 6 = .ok (.ireturn, 1) := by decide +kernel
theorem d13_7 : decode jdk_42_method_66_code 7 = .ok (.aload_n 1, 1) := by decide +kernel
theorem d13_8 : decode jdk_42_method_66_code 8 = .ok (.instanceof 10, 3) := by decide +kernel
theorem d13_11 : decode jdk_42_method_66_code 11 = .ok (.ifCond .eq 43, 3) := by decide +kernel
theorem d13_14 : decode jdk_42_method_66_code 14 = .ok (.aload_n 1, 1) := by decide +kernel
theorem d13_15 : decode jdk_42_method_66_code 15 = .ok (.checkcast 10, 3) := by decide +kernel
theorem d13_18 : decode jdk_42_method_66_code 18 = .ok (.astore_n 2, 1) := by decide +kernel
theorem d13_19 : decode jdk_42_method_66_code 19 = .ok (.getstatic 38, 3) := by decide +kernel
theorem d13_22 : decode jdk_42_method_66_code 22 = .ok (.ifCond .eq 14, 3) := by decide +kernel
theorem d13_25 : decode jdk_42_method_66_code 25 = .ok (.aload_n 0, 1) := by decide +kernel
theorem d13_26 : decode jdk_42_method_66_code 26 = .ok (.getfield 15, 3) := by decide +kernel
theorem d13_29 : decode jdk_42_method_66_code 29 = .ok (.aload_n 2, 1) := by decide +kernel
theorem d13_30 : decode jdk_42_method_66_code 30 = .ok (.getfield 15, 3) := by decide +kernel
theorem d13_33 : decode jdk_42_method_66_code 33 = .ok (.if_icmp .ne 21, 3) := by decide +kernel
theorem d13_36 : decode jdk_42_method_66_code 36 = .ok (.aload_n 0, 1) := by decide +kernel
theorem d13_37 : decode jdk_42_method_66_code 37 = .ok (.getfield 9, 3) := by decide +kernel
theorem d13_40 : decode jdk_42_method_66_code 40 = .ok (.aload_n 2, 1) := by decide +kernel
theorem d13_41 : decode jdk_42_method_66_code 41 = .ok (.getfield 9, 3) := by decide +kernel
theorem d13_44 : decode jdk_42_method_66_code 44 = .ok (.invokestatic 541, 3) := by decide +kernel
theorem d13_47 : decode jdk_42_method_66_code 47 = .ok (.ifCond .eq 7, 3) := by decide +kernel
theorem d13_50 : decode jdk_42_method_66_code 50 = .ok (.iconst 1, 1) := by decide +kernel
theorem d13_51 : decode jdk_42_method_66_code 51 = .ok (.goto 4, 3) := by decide +kernel
theorem d13_54 : decode jdk_42_method_66_code 54 = .ok (.iconst 0, 1) := by decide +kernel
theorem d13_55 : decode jdk_42_method_66_code 55 = .ok (.ireturn, 1) := by decide +kernel
theorem d14_0 : decode prog_35_method_6_code 0 = .ok (.aload_n 1, 1) := by decide +kernel
theorem d14_1 : decode prog_35_method_6_code 1 = .ok (.arraylength, 1) := by decide +kernel
theorem d14_2 : decode prog_35_method_6_code 2 = .ok (.aload_n 0, 1) := by decide +kernel
theorem d14_3 : decode prog_35_method_6_code 3 = .ok (.getfield 15, 3) := by decide +kernel
theorem d14_6 : decode prog_35_method_6_code 6 = .ok (.if_icmp .le 5, 3) := by decide +kernel
theorem d14_11 : decode prog_35_method_6_code 11 = .ok (.iconst 0, 1) := by decide +kernel
theorem d14_12 : decode prog_35_method_6_code 12 = .ok (.istore_n 2, 1) := by decide +kernel
theorem d14_13 : decode prog_35_method_6_code 13 = .ok (.iload_n 2, 1) := by decide +kernel
theorem d14_14 : decode prog_35_method_6_code 14 = .ok (.aload_n 1, 1) := by decide +kernel
theorem d14_15 : decode prog_35_method_6_code 15 = .ok (.arraylength, 1) := by decide +kernel
theorem d14_16 : decode prog_35_method_6_code 16 = .ok (.if_icmp .ge 38, 3) := by decide +kernel
theorem d14_19 : decode prog_35_method_6_code 19 = .ok (.aload_n 1, 1) := by decide +kernel
theorem d14_20 : decode prog_35_method_6_code 20 = .ok (.aload_n 1, 1) := by decide +kernel
theorem d14_21 : decode prog_35_method_6_code 21 = .ok (.arraylength, 1) := by decide +kernel
theorem d14_22 : decode prog_35_method_6_code 22 = .ok (.iconst 1, 1) := by decide +kernel
theorem d14_23 : decode prog_35_method_6_code 23 = .ok (.isub, 1) := by decide +kernel
theorem d14_24 : decode prog_35_method_6_code 24 = .ok (.iload_n 2, 1) := by decide +kernel
theorem d14_25 : decode prog_35_method_6_code 25 = .ok (.isub, 1) := by decide +kernel
theorem d14_26 : decode prog_35_method_6_code 26 = .ok (.aaload, 1) := by decide +kernel
theorem d14_27 : decode prog_35_method_6_code 27 = .ok (.aload_n 0, 1) := by decide +kernel
theorem d14_28 : decode prog_35_method_6_code 28 = .ok (.getfield 9, 3) := by decide +kernel
theorem d14_31 : decode prog_35_method_6_code 31 = .ok (.aload_n 0, 1) := by decide +kernel
theorem d14_32 : decode prog_35_method_6_code 32 = .ok (.getfield 15, 3) := by decide +kernel
theorem d14_35 : decode prog_35_method_6_code 35 = .ok (.iconst 1, 1) := by decide +kernel
theorem d14_36 : decode prog_35_method_6_code 36 = .ok (.isub, 1) := by decide +kernel
theorem d14_37 : decode prog_35_method_6_code 37 = .ok (.iload_n 2, 1) := by decide +kernel
theorem d14_38 : decode prog_35_method_6_code 38 = .ok (.isub, 1) := by decide +kernel
theorem d14_39 : decode prog_35_method_6_code 39 = .ok (.aaload, 1) := by decide +kernel
theorem d14_40 : decode prog_35_method_6_code 40 = .ok (.invokevirtual 31, 3) := by decide +kernel
theorem d14_43 : decode prog_35_method_6_code 43 = .ok (.ifCond .ne 5, 3) := by decide +kernel
theorem d14_46 : decode prog_35_method_6_code 46 = .ok (.iconst 0, 1) := by decide +kernel
theorem d14_47 : decode prog_35_method_6_code 47 = .ok (.ireturn, 1) := by decide +kernel
theorem d14_48 : decode prog_35_method_6_code 48 = .ok (.iinc 2 1, 3) := by decide +kernel
theorem d14_51 : decode prog_35_method_6_code 51 = .ok (.goto (-38), 3) := by decide +kernel
theorem d14_54 : decode prog_35_method_6_code 54 = .ok (.iconst 1, 1) := by decide +kernel
theorem d14_55 : decode prog_35_method_6_code 55 = .ok (.ireturn, 1) := by decide +kernel
theorem d15_0 : decode jdk_43_method_13_code 0 = .ok (.aload_n 0, 1) := by decide +kernel
theorem d15_1 : decode jdk_43_method_13_code 1 = .ok (.arraylength, 1) := by decide +kernel
theorem d15_2 : decode jdk_43_method_13_code 2 = .ok (.aload_n 1, 1) := by decide +kernel
theorem d15_3 : decode jdk_43_method_13_code 3 = .ok (.arraylength, 1) := by decide +kernel
theorem d15_4 : decode jdk_43_method_13_code 4 = .ok (.if_icmp .ne 30, 3) := by decide +kernel
theorem d15_7 : decode jdk_43_method_13_code 7 = .ok (.iconst 0, 1) := by decide +kernel
theorem d15_8 : decode jdk_43_method_13_code 8 = .ok (.istore_n 2, 1) := by decide +kernel
theorem d15_9 : decode jdk_43_method_13_code 9 = .ok (.iload_n 2, 1) := by decide +kernel
theorem d15_10 : decode jdk_43_method_13_code 10 = .ok (.aload_n 0, 1) := by decide +kernel
theorem d15_11 : decode jdk_43_method_13_code 11 = .ok (.arraylength, 1) := by decide +kernel
theorem d15_12 : decode jdk_43_method_13_code 12 = .ok (.if_icmp .ge 20, 3) := by decide +kernel
theorem d15_15 : decode jdk_43_method_13_code 15 = .ok (.aload_n 0, 1) := by decide +kernel
theorem d15_16 : decode jdk_43_method_13_code 16 = .ok (.iload_n 2, 1) := by decide +kernel
theorem d15_17 : decode jdk_43_method_13_code 17 = .ok (.baload, 1) := by decide +kernel
theorem d15_18 : decode jdk_43_method_13_code 18 = .ok (.aload_n 1, 1) := by decide +kernel
theorem d15_19 : decode jdk_43_method_13_code 19 = .ok (.iload_n 2, 1) := by decide +kernel
theorem d15_20 : decode jdk_43_method_13_code 20 = .ok (.baload, 1) := by decide +kernel
theorem d15_21 : decode jdk_43_method_13_code 21 = .ok (.if_icmp .eq 5, 3) := by decide +kernel
theorem d15_24 : decode jdk_43_method_13_code 24 = .ok (.iconst 0, 1) := by decide +kernel
theorem d15_25 : decode jdk_43_method_13_code 25 = .ok (.ireturn, 1) := by decide +kernel
theorem d15_26 : decode jdk_43_method_13_code 26 = .ok (.iinc 2 1, 3) := by decide +kernel
theorem d15_29 : decode jdk_43_method_13_code 29 = .ok (.goto (-20), 3) := by decide +kernel
theorem d15_32 : decode jdk_43_method_13_code 32 = .ok (.iconst 1, 1) := by decide +kernel
theorem d15_33 : decode jdk_43_method_13_code 33 = .ok (.ireturn, 1) := by decide +kernel
theorem d15_34 : decode jdk_43_method_13_code 34 = .ok (.iconst 0, 1) := by decide +kernel
theorem d15_35 : decode jdk_43_method_13_code 35 = .ok (.ireturn, 1) := by decide +kernel
theorem d16_0 : decode prog_35_method_13_code 0 = .ok (.aload_n 0, 1) := by decide +kernel
theorem d16_1 : decode prog_35_method_13_code 1 = .ok (.invokevirtual 62, 3) := by decide +kernel
theorem d16_4 : decode prog_35_method_13_code 4 = .ok (.ifCond .eq 11, 3) := by decide +kernel
theorem d16_7 : decode prog_35_method_13_code 7 = .ok (.aload_n 0, 1) := by decide +kernel
theorem d16_8 : decode prog_35_method_13_code 8 = .ok (.iconst 0, 1) := by decide +kernel
theorem d16_9 : decode prog_35_method_13_code 9 = .ok (.putfield 35, 3) := by decide +kernel
theorem d16_12 : decode prog_35_method_13_code 12 = .ok (.goto 15, 3) := by decide +kernel
theorem d16_15 : decode prog_35_method_13_code 15 = .ok (.aload_n 0, 1) := by decide +kernel
theorem d16_16 : decode prog_35_method_13_code 16 = .ok (.invokevirtual 72, 3) := by decide +kernel
theorem d16_19 : decode prog_35_method_13_code 19 = .ok (.ifCond .eq 8, 3) := by decide +kernel
theorem d16_22 : decode prog_35_method_13_code 22 = .ok (.aload_n 0, 1) := by decide +kernel
theorem d16_23 : decode prog_35_method_13_code 23 = .ok (.iconst 0, 1) := by decide +kernel
theorem d16_24 : decode prog_35_method_13_code 24 = .ok (.putfield 38, 3) := by decide +kernel
theorem d16_27 : decode prog_35_method_13_code 27 = .ok (.aload_n 0, 1) := by decide +kernel
theorem d16_28 : decode prog_35_method_13_code 28 = .ok (.getfield 9, 3) := by decide +kernel
theorem d16_31 : decode prog_35_method_13_code 31 = .ok (.aload_n 0, 1) := by decide +kernel
theorem d16_32 : decode prog_35_method_13_code 32 = .ok (.dup, 1) := by decide +kernel
theorem d16_33 : decode prog_35_method_13_code 33 = .ok (.getfield 15, 3) := by decide +kernel
theorem d16_36 : decode prog_35_method_13_code 36 = .ok (.iconst 1, 1) := by decide +kernel
theorem d16_37 : decode prog_35_method_13_code 37 = .ok (.isub, 1) := by decide +kernel
theorem d16_38 : decode prog_35_method_13_code 38 = .ok (.dup_x1, 1) := by decide +kernel
theorem d16_39 : decode prog_35_method_13_code 39 = .ok (.putfield 15, 3) := by decide +kernel
theorem d16_42 : decode prog_35_method_13_code 42 = .ok (.aconst_null, 1) := by decide +kernel
theorem d16_43 : decode prog_35_method_13_code 43 = .ok (.aastore, 1) := by decide +kernel
theorem d16_44 : decode prog_35_method_13_code 44 = .ok (.return_, 1) := by decide +kernel
theorem pd0 : parseMethodDescriptor "([CI[BII)I" = some ⟨[(.array .char), .int, (.array .byte), .int, .int], some .int⟩ := by decide +kernel
theorem pd1 : parseMethodDescriptor "([CII)[B" = some ⟨[(.array .char), .int, .int], some (.array .byte)⟩ := by decide +kernel
theorem pd2 : parseMethodDescriptor "([BI)B" = some ⟨[(.array .byte), .int], some .byte⟩ := by decide +kernel
theorem pd3 : parseMethodDescriptor "([CIILjava/lang/Void;)V" = some ⟨[(.array .char), .int, .int, (.object "java/lang/Void")], none⟩ := by decide +kernel
theorem pd4 : parseMethodDescriptor "([B[B)Z" = some ⟨[(.array .byte), (.array .byte)], some .boolean⟩ := by decide +kernel
theorem pd5 : parseMethodDescriptor "(Ljava/lang/Object;)Z" = some ⟨[(.object "java/lang/Object")], some .boolean⟩ := by decide +kernel
theorem pd6 : parseMethodDescriptor "([Ljava/lang/String;)Z" = some ⟨[(.array (.object "java/lang/String"))], some .boolean⟩ := by decide +kernel
theorem pd7 : parseMethodDescriptor "()Z" = some ⟨[], some .boolean⟩ := by decide +kernel
theorem pd8 : parseMethodDescriptor "([C)V" = some ⟨[(.array .char)], none⟩ := by decide +kernel
theorem pd9 : parseMethodDescriptor "(ILjava/lang/String;)Ljava/lang/String;" = some ⟨[.int, (.object "java/lang/String")], some (.object "java/lang/String")⟩ := by decide +kernel
theorem pd10 : parseMethodDescriptor "()V" = some ⟨[], none⟩ := by decide +kernel
theorem pd11 : parseMethodDescriptor "(Ljava/lang/String;)V" = some ⟨[(.object "java/lang/String")], none⟩ := by decide +kernel
theorem pd12 : parseMethodDescriptor "()Ljava/lang/String;" = some ⟨[], some (.object "java/lang/String")⟩ := by decide +kernel
abbrev o_String (a : Addr) (v0 v1 : Value) : Ent := (a, .inl ("java/lang/String", [("java/lang/String", "value", "[B", v0), ("java/lang/String", "coder", "B", v1)]))
theorem Ly_o_String {g : GG} (W : GW g) : Lays g.Z g.a0 "java/lang/String" [("java/lang/String", "value", "[B", .null), ("java/lang/String", "coder", "B", (.int (0 : Int32)))] := by
  refine ⟨by decide, fun f hf => ?_⟩
  simp only [List.mem_cons, List.not_mem_nil, or_false] at hf
  rcases hf with rfl | rfl
  · exact ⟨Or.inr (W4 W), (.array .byte), by decide⟩
  · exact ⟨Or.inr (W5 W), .byte, by decide⟩
abbrev o_Pain001Reader_Element (a : Addr) (v0 v1 v2 v3 v4 v5 : Value) : Ent := (a, .inl ("com/example/polecenie/polecenie/core/Pain001Reader$Element", [("com/example/polecenie/polecenie/core/Pain001Reader$Element", "names", "[Ljava/lang/String;", v0), ("com/example/polecenie/polecenie/core/Pain001Reader$Element", "depth", "I", v1), ("com/example/polecenie/polecenie/core/Pain001Reader$Element", "block", "I", v2), ("com/example/polecenie/polecenie/core/Pain001Reader$Element", "blocks", "I", v3), ("com/example/polecenie/polecenie/core/Pain001Reader$Element", "transactions", "I", v4), ("com/example/polecenie/polecenie/core/Pain001Reader$Element", "transaction", "I", v5)]))
theorem Ly_o_Pain001Reader_Element {g : GG} (W : GW g) : Lays g.Z g.a0 "com/example/polecenie/polecenie/core/Pain001Reader$Element" [("com/example/polecenie/polecenie/core/Pain001Reader$Element", "names", "[Ljava/lang/String;", .null), ("com/example/polecenie/polecenie/core/Pain001Reader$Element", "depth", "I", (.int (0 : Int32))), ("com/example/polecenie/polecenie/core/Pain001Reader$Element", "block", "I", (.int (0 : Int32))), ("com/example/polecenie/polecenie/core/Pain001Reader$Element", "blocks", "I", (.int (0 : Int32))), ("com/example/polecenie/polecenie/core/Pain001Reader$Element", "transactions", "I", (.int (0 : Int32))), ("com/example/polecenie/polecenie/core/Pain001Reader$Element", "transaction", "I", (.int (0 : Int32)))] := by
  refine ⟨by decide, fun f hf => ?_⟩
  simp only [List.mem_cons, List.not_mem_nil, or_false] at hf
  rcases hf with rfl | rfl | rfl | rfl | rfl | rfl
  · exact ⟨Or.inl (W50 W), (.array (.object "java/lang/String")), by decide⟩
  · exact ⟨Or.inl (W57 W), .int, by decide⟩
  · exact ⟨Or.inl (W93 W), .int, by decide⟩
  · exact ⟨Or.inl (W100 W), .int, by decide⟩
  · exact ⟨Or.inl (W102 W), .int, by decide⟩
  · exact ⟨Or.inl (W105 W), .int, by decide⟩
theorem strW {g : GG} (W : GW g) : ∀ a ∈ Bundle.stringAtoms, a.before g.a0 g.Z = true := by
  intro a ha
  simp only [Bundle.stringAtoms, List.mem_cons, List.not_mem_nil, or_false] at ha
  rcases ha with rfl | rfl | rfl | rfl | rfl | rfl | rfl
  · exact W1 W
  · exact W2 W
  · exact W3 W
  · exact W4 W
  · exact W5 W
  · exact W6 W
  · exact W7 W
theorem inEL {g : GG} (W : GW g) {p : String × Nat} (h : p ∈ consts_1) : p ∈ g.EL := by
  show p ∈ g.2.2.2
  rw [W.2.2.2.2]
  exact h
/-! String's making: plain facts -/
abbrev bV (x : Int32) : Value := .int x.toInt8.toInt32
def bpre (cs : List Int32) (i : Nat) : List Value := (cs.take i).map bV ++ List.replicate (cs.length - i) (.int 0)
theorem ch_ch (x : Int32) : nar .char x.toUInt32.toUInt16.toUInt32.toInt32 = x.toUInt32.toUInt16.toUInt32.toInt32 := by simp only [nar, UInt32.toUInt32_toInt32, UInt16.toUInt16_toUInt32]
theorem by_by (x : Int32) : nar .byte x.toInt8.toInt32 = x.toInt8.toInt32 := by simp [nar]
theorem bpre0 (cs : List Int32) : bpre cs 0 = List.replicate cs.length (.int 0) := by simp [bpre]
theorem bpreN (cs : List Int32) : bpre cs cs.length = cs.map bV := by simp [bpre]
theorem bpre_len {cs : List Int32} {i : Nat} (h : i ≤ cs.length) : (bpre cs i).length = cs.length := by simp [bpre]; omega
theorem bpre_set {cs : List Int32} {i : Nat} {x : Int32} (h : cs[i]? = some x) : (bpre cs i).set i (bV x) = bpre cs (i + 1) := by
  obtain ⟨hl, rfl⟩ := List.getElem?_eq_some_iff.mp h
  have e : cs.length - i = (cs.length - (i + 1)) + 1 := by omega
  have ht : ((cs.take i).map bV).length = i := by simp; omega
  unfold bpre
  rw [e, List.replicate_succ, List.set_append_right _ _ (by omega), ht, Nat.sub_self, List.set_cons_zero, List.take_succ_eq_append_getElem hl, List.map_append, List.append_assoc]
  rfl
theorem n31 {n : Nat} (h : n < 2147483648) : ¬ Int32.ofNat n < 0 := Int32.ofNat_not_neg (by omega)
theorem n31c {n : Nat} (h : n < 2147483648) : (Int32.ofNat n).toNatClampNeg = n := Jvm.Free.XT.n32 (by omega)
theorem ltN {i n : Nat} (h : i < n) (hn : n < 2147483648) : Int32.ofNat i < Int32.ofNat n := by
  rw [Int32.lt_iff_toInt_lt, Int32.toInt_ofNat_small (by omega), Int32.toInt_ofNat_small (by omega)]; omega
theorem neN {n : Nat} (h : 0 < n) (hn : n < 2147483648) : ¬ Int32.ofNat n = 0 := fun e => by
  have := congrArg Int32.toInt e
  rw [Int32.toInt_ofNat_small (by omega)] at this
  have h0 : (0 : Int32).toInt = 0 := rfl
  omega
theorem injN {n k : Nat} (hn : n < 2147483648) (hk : k < 2147483648) (e : Int32.ofNat n = Int32.ofNat k) : n = k := by
  have := congrArg Int32.toInt e
  rw [Int32.toInt_ofNat_small (by omega), Int32.toInt_ofNat_small (by omega)] at this
  omega
theorem sucN (i : Nat) : Int32.ofNat i + (1 : Int32) = Int32.ofNat (i + 1) := by simp
theorem cdr0 (x : Int32) : (((x - x).toUInt32 >>> ((31 : Int32) &&& 31).toUInt32).toInt32).toInt8.toInt32 = 0 := by
  rw [Int32.sub_self]; decide

theorem le255 (x : Int32) : ¬ (255 : Int32) < (x &&& (255 : Int32)).toUInt32.toUInt16.toUInt32.toInt32 := by
  rw [i2c_mask]
  have h := c_mask x 255 8 (by decide) rfl
  rw [Int32.lt_iff_toInt_lt, h, show (255 : Int32).toInt = 255 from rfl]
  simp only [Nat.reducePow, Int.cast_ofNat_Int]
  omega

theorem compact {g : GG} (W : GW g) : ∃ z : Int32, Sta g.Z g.Z.heap "java/lang/String" "COMPACT_STRINGS" "Z" (.int z) ∧ ¬ z = 0 := by
  obtain ⟨z, e⟩ := is_v (Cond.before_iff.mp (W.2.2.1 _ (List.mem_of_getElem? (i := 1) rfl)))
  refine ⟨z, Sta.start e (Or.inl (W.2.2.1 _ (List.mem_of_getElem? (i := 0) rfl))), fun q => ?_⟩
  have n := not_v (Cond.before_iff.mp (W.2.2.1 _ (List.mem_of_getElem? (i := 2) rfl)))
  rw [eq_i e (Term.int_eval 0) (by rw [q])] at n
  cases n

theorem ef_c5 (c d : Addr) (n : Nat) (m : MethodId) : entryFrame m #[(.ref c), (.int (0 : Int32)), (.ref d), (.int (0 : Int32)), (.int (Int32.ofNat n))] 7 = mkF m 0 #[.val (.ref c), .val (.int (0 : Int32)), .val (.ref d), .val (.int (0 : Int32)), .val (.int (Int32.ofNat n)), .unset, .unset] [] := by first | (simp [entryFrame, mkF, argsToLocals, Value.category]; done) | rfl
abbrev D6 : DD := (⟨"java/lang/StringUTF16", "compress", "([CI[BII)I"⟩, jdk_52_method_21_code, 7, (some .int), { frames := 0, cells := 0, slots := 0, locals := 0 })
theorem lp_c5 {g : GG} (W : GW g) (c : Addr) (nm : String) (cs : List Int32) (hcs : ∀ x ∈ cs, ¬ (255 : Int32) < x) (hn : cs.length ≤ 8) {H0 : List Ent} {Lt : List SE} {M : MM} {d : Addr} : ∀ (k i : Nat), i + k = cs.length → ∀ (o : Slot), (o = .unset ∨ ∃ w, o = .val w ∧ w.category = 1) → ∀ {T : State}, RH g D6 M T ((d, .inr (.byte, "[B", bpre cs i)) :: (c, .inr (.char, nm, cs.map Value.int)) :: H0) Lt 0 0 →
    Fn g D6 M (fun v vm h => v = some (.int (Int32.ofNat cs.length)) ∧ Hp g vm h ((d, .inr (.byte, "[B", cs.map bV)) :: (c, .inr (.char, nm, cs.map Value.int)) :: H0) Lt) (T.setTop (mkF M.m 3 #[.val (.ref c), .val (.int (Int32.ofNat i)), .val (.ref d), .val (.int (Int32.ofNat i)), .val (.int (Int32.ofNat cs.length)), .val (.int (Int32.ofNat i)), o] [])) := by
  intro k
  induction k with
  | zero =>
    intro i hi o ho T B
    have hi' : i = cs.length := by omega
    refine p_iload B d6_3 (pc' := 5) rfl rfl ?_
    refine p_iload B d6_5 (pc' := 7) rfl rfl ?_
    refine b_icT B d6_7 (pc' := 44) (by subst hi'; exact Int32.lt_irrefl) (by decide) (by decide) ?_
    refine p_iload B d6_44 (pc' := 46) rfl rfl ?_
    exact r_reti B d6_46 rfl (by simp) rfl (by decide) (by decide) (fun vm h P => ⟨rfl, by subst hi'; rw [← bpreN cs]; exact P⟩)
  | succ k ih =>
    intro i hi o ho T B
    have hlt : i < cs.length := by omega
    obtain ⟨x, hx⟩ : ∃ x, cs[i]? = some x := ⟨_, List.getElem?_eq_getElem hlt⟩
    have hx2 : (cs.map Value.int)[i]? = some (.int x) := by rw [List.getElem?_map, hx]; rfl
    refine p_iload B d6_3 (pc' := 5) rfl rfl ?_
    refine p_iload B d6_5 (pc' := 7) rfl rfl ?_
    refine b_icF B d6_7 (pc' := 10) rfl (ltN hlt (by omega)) ?_
    refine p_aloadN B d6_10 (pc' := 11) rfl rfl rfl ?_
    refine p_iloadN B d6_11 (pc' := 12) rfl rfl ?_
    refine r_aget B d6_12 rfl (pc' := 13) rfl (aH (i := 1) rfl) (k := i) rfl hx2 ?_
    refine p_istore B d6_13 (pc' := 15) rfl (Ls' := #[.val (.ref c), .val (.int (Int32.ofNat i)), .val (.ref d), .val (.int (Int32.ofNat i)), .val (.int (Int32.ofNat cs.length)), .val (.int (Int32.ofNat i)), .val (.int x)]) (XS.store1 (o := o) rfl ho rfl) ?_
    refine p_iload B d6_15 (pc' := 17) rfl rfl ?_
    refine p_sipush B d6_17 (pc' := 20) rfl (v := (255 : Int32)) (by decide) ?_
    refine b_icT B d6_20 (pc' := 26) (hcs x (List.mem_of_getElem? hx)) (by decide) (by decide) ?_
    refine p_aloadN B d6_26 (pc' := 27) rfl rfl rfl ?_
    refine p_iloadN B d6_27 (pc' := 28) rfl rfl ?_
    refine p_iload B d6_28 (pc' := 30) rfl rfl ?_
    refine p_i2b B d6_30 (pc' := 31) rfl ?_
    refine r_bastore B d6_31 (pc' := 32) rfl (i := 0) rfl (n31 (by omega)) (k := i) (n31c (by omega)) (by rw [bpre_len (by omega)]; exact hlt) (by_by x) (H' := ((d, .inr (.byte, "[B", bpre cs (i + 1))) :: (c, .inr (.char, nm, cs.map Value.int)) :: H0)) (by rw [List.set_cons_zero, bpre_set hx]) ?_
    intro T2 B2
    refine p_iinc B2 d6_32 (pc' := 35) rfl (v := (1 : Int32)) (by decide) rfl (z := ((Int32.ofNat i) + (1 : Int32))) rfl (Ls' := #[.val (.ref c), .val (.int ((Int32.ofNat i) + (1 : Int32))), .val (.ref d), .val (.int (Int32.ofNat i)), .val (.int (Int32.ofNat cs.length)), .val (.int (Int32.ofNat i)), .val (.int x)]) rfl ?_
    refine p_iinc B2 d6_35 (pc' := 38) rfl (v := (1 : Int32)) (by decide) rfl (z := ((Int32.ofNat i) + (1 : Int32))) rfl (Ls' := #[.val (.ref c), .val (.int ((Int32.ofNat i) + (1 : Int32))), .val (.ref d), .val (.int ((Int32.ofNat i) + (1 : Int32))), .val (.int (Int32.ofNat cs.length)), .val (.int (Int32.ofNat i)), .val (.int x)]) rfl ?_
    refine p_iinc B2 d6_38 (pc' := 41) rfl (v := (1 : Int32)) (by decide) rfl (z := ((Int32.ofNat i) + (1 : Int32))) rfl (Ls' := #[.val (.ref c), .val (.int ((Int32.ofNat i) + (1 : Int32))), .val (.ref d), .val (.int ((Int32.ofNat i) + (1 : Int32))), .val (.int (Int32.ofNat cs.length)), .val (.int ((Int32.ofNat i) + (1 : Int32))), .val (.int x)]) rfl ?_
    refine b_goto B2 d6_41 (pc' := 3) (by decide) (by decide) ?_
    rw [sucN i]
    exact ih (i + 1) (by omega) _ (Or.inr ⟨_, rfl, rfl⟩) B2
theorem k_c5 {g : GG} (W : GW g) (c : Addr) (nm : String) (cs : List Int32) (hcs : ∀ x ∈ cs, ¬ (255 : Int32) < x) (hn : cs.length ≤ 8) (d : Addr) (H0 : List Ent) (Lt : List SE) : Ct g D6 #[.ref c, .int (0 : Int32), .ref d, .int (0 : Int32), .int (Int32.ofNat cs.length)] ((d, .inr (.byte, "[B", bpre cs 0)) :: (c, .inr (.char, nm, cs.map Value.int)) :: H0) Lt (fun v vm h => v = some (.int (Int32.ofNat cs.length)) ∧ Hp g vm h ((d, .inr (.byte, "[B", cs.map bV)) :: (c, .inr (.char, nm, cs.map Value.int)) :: H0) Lt) := by
  refine CtW.body W (by decide +kernel) (ef_c5 c d cs.length) ?_
  intro M T B
  refine p_iconst B d6_0 (pc' := 1) rfl (v := (0 : Int32)) (by decide) ?_
  refine p_istore B d6_1 (pc' := 3) rfl (Ls' := #[.val (.ref c), .val (.int (0 : Int32)), .val (.ref d), .val (.int (0 : Int32)), .val (.int (Int32.ofNat cs.length)), .val (.int (0 : Int32)), .unset]) rfl ?_
  exact lp_c5 W c nm cs hcs hn cs.length 0 (by omega) _ (Or.inl rfl) B
theorem ef_cf (d : Addr) (n : Nat) (m : MethodId) : entryFrame m #[(.ref d), (.int (Int32.ofNat n))] 2 = mkF m 0 #[.val (.ref d), .val (.int (Int32.ofNat n))] [] := by first | (simp [entryFrame, mkF, argsToLocals, Value.category]; done) | rfl
abbrev D7 : DD := (⟨"java/lang/StringUTF16", "coderFromArrayLen", "([BI)B"⟩, jdk_52_method_15_code, 2, (some .byte), { frames := 0, cells := 0, slots := 0, locals := 0 })
theorem k_cf {g : GG} (W : GW g) (d : Addr) (nm : String) (vs : List Value) (n : Nat) (hn : vs.length = n) (H0 : List Ent) (Lt : List SE) : Ct g D7 #[.ref d, .int (Int32.ofNat n)] ((d, .inr (.byte, nm, vs)) :: H0) Lt (fun v vm h => v = some (.int (0 : Int32)) ∧ Hp g vm h ((d, .inr (.byte, nm, vs)) :: H0) Lt) := by
  subst hn
  refine CtW.body W (by decide +kernel) (ef_cf d vs.length) ?_
  intro M T B
  refine p_iloadN B d7_0 (pc' := 1) rfl rfl ?_
  refine p_aloadN B d7_1 (pc' := 2) rfl rfl rfl ?_
  refine r_alen B d7_2 (pc' := 3) rfl (aH (i := 0) rfl) (z := (Int32.ofNat vs.length)) rfl ?_
  refine p_isub B d7_3 (pc' := 4) rfl rfl ?_
  refine p_bipush B d7_4 (pc' := 6) rfl (v := (31 : Int32)) (by decide) ?_
  refine p_iushr B d7_6 (pc' := 7) rfl rfl ?_
  refine p_i2b B d7_7 (pc' := 8) rfl ?_
  rw [cdr0]
  exact r_reti B d7_8 rfl (by simp) rfl (by decide) (by decide) (fun vm h P => ⟨rfl, P⟩)
theorem ef_c3 (c : Addr) (n : Nat) (m : MethodId) : entryFrame m #[(.ref c), (.int (0 : Int32)), (.int (Int32.ofNat n))] 6 = mkF m 0 #[.val (.ref c), .val (.int (0 : Int32)), .val (.int (Int32.ofNat n)), .unset, .unset, .unset] [] := by first | (simp [entryFrame, mkF, argsToLocals, Value.category]; done) | rfl
abbrev D5 : DD := (⟨"java/lang/StringUTF16", "compress", "([CII)[B"⟩, jdk_52_method_16_code, 6, (some (.array .byte)), { frames := 1, cells := 1, slots := 8, locals := 18 })
theorem k_c3 {g : GG} (W : GW g) (c : Addr) (nm : String) (cs : List Int32) (hcs : ∀ x ∈ cs, ¬ (255 : Int32) < x) (hn : cs.length ≤ 8) (H0 : List Ent) (Lt : List SE) : Ct g D5 #[.ref c, .int (0 : Int32), .int (Int32.ofNat cs.length)] ((c, .inr (.char, nm, cs.map Value.int)) :: H0) Lt (fun v vm h => ∃ d, v = some (.ref d) ∧ Hp g vm h ((d, .inr (.byte, "[B", cs.map bV)) :: (c, .inr (.char, nm, cs.map Value.int)) :: H0) Lt) := by
  refine CtW.body W (by decide +kernel) (ef_c3 c cs.length) ?_
  intro M T B
  refine p_iloadN B d5_0 (pc' := 1) rfl rfl ?_
  refine r_newp B d5_1 (pc' := 3) rfl (ty := .byte) (W3 B.gw) rfl (n31 (by omega)) (nn := cs.length) (n31c (by omega)) (cap := 8) hn (by decide) (cs' := 1) rfl (ss' := 8) rfl (by decide) (by decide) (ad := "[B") (by decide) (by decide) nofun (vs := bpre cs 0) (bpre0 cs).symm ?_
  intro T1 d B1
  refine p_astoreN B1 d5_3 (pc' := 4) rfl rfl (Ls' := #[.val (.ref c), .val (.int (0 : Int32)), .val (.int (Int32.ofNat cs.length)), .val (.ref d), .unset, .unset]) rfl ?_
  refine p_aloadN B1 d5_4 (pc' := 5) rfl rfl rfl ?_
  refine p_iloadN B1 d5_5 (pc' := 6) rfl rfl ?_
  refine p_aloadN B1 d5_6 (pc' := 7) rfl rfl rfl ?_
  refine p_iconst B1 d5_7 (pc' := 8) rfl (v := (0 : Int32)) (by decide) ?_
  refine p_iloadN B1 d5_8 (pc' := 9) rfl rfl ?_
  refine r_static (D' := D6) B1 d5_9 (pc' := 12) rfl (W29 B1.gw) (W30 B1.gw) (W27 B1.gw) (W31 B1.gw) (by decide) (k_c5 W c nm cs hcs hn d H0 Lt) (argsL := [(.ref c), (.int (0 : Int32)), (.ref d), (.int (0 : Int32)), (.int (Int32.ofNat cs.length))]) (rest := []) rfl pd0 rfl rfl rfl (W := 0) rfl (by decide) (by decide) (cs' := 1) rfl (ss' := 8) rfl (by decide) (by decide) ?_
  intro T1 v2 B3
  replace B3 := Rn.and B3
  obtain ⟨rfl, B3⟩ := B3
  show Fn g D5 M _ (T1.setTop (mkF M.m 12 #[.val (.ref c), .val (.int (0 : Int32)), .val (.int (Int32.ofNat cs.length)), .val (.ref d), .unset, .unset] [(.int (Int32.ofNat cs.length))]))
  refine p_istore B3 d5_12 (pc' := 14) rfl (Ls' := #[.val (.ref c), .val (.int (0 : Int32)), .val (.int (Int32.ofNat cs.length)), .val (.ref d), .val (.int (Int32.ofNat cs.length)), .unset]) rfl ?_
  refine p_iload B3 d5_14 (pc' := 16) rfl rfl ?_
  refine p_iloadN B3 d5_16 (pc' := 17) rfl rfl ?_
  refine b_icT B3 d5_17 (pc' := 57) rfl (by decide) (by decide) ?_
  refine p_aloadN B3 d5_57 (pc' := 58) rfl rfl rfl ?_
  exact r_reta B3 d5_58 rfl rfl rfl (by decide) (by decide) (fun vm h P => ⟨d, rfl, P⟩)
theorem ef_i4 (a c : Addr) (n : Nat) (m : MethodId) : entryFrame m #[(.ref a), (.ref c), (.int (0 : Int32)), (.int (Int32.ofNat n)), .null] 6 = mkF m 0 #[.val (.ref a), .val (.ref c), .val (.int (0 : Int32)), .val (.int (Int32.ofNat n)), .val .null, .unset] [] := by first | (simp [entryFrame, mkF, argsToLocals, Value.category]; done) | rfl
abbrev D3 : DD := (⟨"java/lang/String", "<init>", "([CIILjava/lang/Void;)V"⟩, jdk_42_method_149_code, 6, none, { frames := 2, cells := 1, slots := 8, locals := 35 })
theorem k_i4 {g : GG} (W : GW g) (a : Addr) (c : Addr) (nm : String) (cs : List Int32) (hcs : ∀ x ∈ cs, ¬ (255 : Int32) < x) (hn : cs.length ≤ 8) (hne : cs ≠ []) (H0 : List Ent) (Lt : List SE) : Ct g D3 #[.ref a, .ref c, .int (0 : Int32), .int (Int32.ofNat cs.length), .null] (o_String a .null (.int (0 : Int32)) :: (c, .inr (.char, nm, cs.map Value.int)) :: H0) Lt (fun v vm h => v = none ∧ ∃ d, Hp g vm h ((c, .inr (.char, nm, cs.map Value.int)) :: H0) ((a, d, 0, cs.map bV) :: Lt)) := by
  refine CtW.body W (by decide +kernel) (ef_i4 a c cs.length) ?_
  intro M T B
  refine p_aloadN B d3_0 (pc' := 1) rfl rfl rfl ?_
  refine r_initO B d3_1 (pc' := 4) rfl (W21 B.gw) (W22 B.gw) (W23 B.gw) rfl (by decide) (W := 0) rfl (by decide) ?_
  intro T1 B2
  refine p_iloadN B2 d3_4 (pc' := 5) rfl rfl ?_
  by_cases h0 : 0 < cs.length
  · refine b_ifT B2 d3_5 (pc' := 27) (neN h0 (by omega)) (by decide) (by decide) ?_
    obtain ⟨z, hz, hz0⟩ := compact W
    refine r_gets B2 d3_27 (pc' := 30) rfl (host := "") (Or.inl (W24 B2.gw)) Via.refl (v := (.int z)) hz ?_
    intro T3 B4
    refine b_ifF B4 d3_30 (pc' := 33) rfl hz0 ?_
    refine p_aloadN B4 d3_33 (pc' := 34) rfl rfl rfl ?_
    refine p_iloadN B4 d3_34 (pc' := 35) rfl rfl ?_
    refine p_iloadN B4 d3_35 (pc' := 36) rfl rfl ?_
    have B5 : RH g D3 M T3 ((c, .inr (.char, nm, (cs.map Value.int))) :: o_String a .null (.int (0 : Int32)) :: H0) (Lt) 0 0 := B4.front (i := 1) rfl rfl
    refine r_static (D' := D5) B5 d3_36 (pc' := 39) rfl (W25 B5.gw) (W26 B5.gw) (W27 B5.gw) (W28 B5.gw) (by decide) (k_c3 W c nm cs hcs hn (o_String a .null (.int (0 : Int32)) :: H0) Lt) (argsL := [(.ref c), (.int (0 : Int32)), (.int (Int32.ofNat cs.length))]) (rest := []) rfl pd1 rfl rfl rfl (W := 0) rfl (by decide) (by decide) (cs' := 1) rfl (ss' := 8) rfl (by decide) (by decide) ?_
    intro T6 v7 B8
    replace B8 := Rn.ex B8
    obtain ⟨d, B8⟩ := B8
    replace B8 := Rn.and B8
    obtain ⟨rfl, B8⟩ := B8
    show Fn g D3 M _ (T6.setTop (mkF M.m 39 #[.val (.ref a), .val (.ref c), .val (.int (0 : Int32)), .val (.int (Int32.ofNat cs.length)), .val .null, .unset] [(.ref d)]))
    refine p_astore B8 d3_39 (pc' := 41) rfl rfl (Ls' := #[.val (.ref a), .val (.ref c), .val (.int (0 : Int32)), .val (.int (Int32.ofNat cs.length)), .val .null, .val (.ref d)]) rfl ?_
    refine p_aloadN B8 d3_41 (pc' := 42) rfl rfl rfl ?_
    refine p_aload B8 d3_42 (pc' := 44) rfl rfl rfl ?_
    refine p_iloadN B8 d3_44 (pc' := 45) rfl rfl ?_
    refine r_static (D' := D7) B8 d3_45 (pc' := 48) rfl (W32 B8.gw) (W33 B8.gw) (W27 B8.gw) (W34 B8.gw) (by decide) (k_cf W d "[B" (cs.map bV) cs.length (List.length_map ..) _ Lt) (argsL := [(.ref d), (.int (Int32.ofNat cs.length))]) (rest := [(.ref a)]) rfl pd2 rfl rfl rfl (W := 1) rfl (by decide) (by decide) (cs' := 1) rfl (ss' := 8) rfl (by decide) (by decide) ?_
    intro T9 v10 B11
    replace B11 := Rn.and B11
    obtain ⟨rfl, B11⟩ := B11
    show Fn g D3 M _ (T9.setTop (mkF M.m 48 #[.val (.ref a), .val (.ref c), .val (.int (0 : Int32)), .val (.int (Int32.ofNat cs.length)), .val .null, .val (.ref d)] [(.int (0 : Int32)), (.ref a)]))
    refine r_put B11 d3_48 (pc' := 51) rfl (host := "") (Or.inl (W35 B11.gw)) Via.refl (i := 2) (j := 1) rfl rfl (Or.inr ⟨(W5 B11.gw), rfl, rfl⟩) (W2 B11.gw) (ty := .byte) (by decide) (by decide) (by decide) (H' := ((d, .inr (.byte, "[B", (cs.map bV))) :: (c, .inr (.char, nm, (cs.map Value.int))) :: o_String a .null (.int (0 : Int32)) :: H0)) rfl ?_
    intro T12 B13
    refine p_aloadN B13 d3_51 (pc' := 52) rfl rfl rfl ?_
    refine p_aload B13 d3_52 (pc' := 54) rfl rfl rfl ?_
    refine r_put B13 d3_54 (pc' := 57) rfl (host := "") (Or.inl (W36 B13.gw)) Via.refl (i := 2) (j := 0) rfl rfl (Or.inr ⟨(W4 B13.gw), rfl, rfl⟩) (W2 B13.gw) (ty := (.array .byte)) (by decide) rfl rfl (H' := ((d, .inr (.byte, "[B", (cs.map bV))) :: (c, .inr (.char, nm, (cs.map Value.int))) :: o_String a (.ref d) (.int (0 : Int32)) :: H0)) rfl ?_
    intro T14 B15
    have B16 : RH g D3 M T14 (o_String a (.ref d) (.int (0 : Int32)) :: (d, .inr (.byte, "[B", (cs.map bV))) :: (c, .inr (.char, nm, (cs.map Value.int))) :: H0) (Lt) 1 8 := B15.front (i := 2) rfl rfl
    exact r_ret B16 d3_57 rfl (by decide) (by decide) (fun vm h P => ⟨rfl, d, P.freeze (by simp) (by simp)⟩)
  · have e0 : cs = [] := List.eq_nil_of_length_eq_zero (by omega)
    exact absurd e0 hne
theorem ef_i1 (a c : Addr) (m : MethodId) : entryFrame m #[(.ref a), (.ref c)] 2 = mkF m 0 #[.val (.ref a), .val (.ref c)] [] := by first | (simp [entryFrame, mkF, argsToLocals, Value.category]; done) | rfl
abbrev D2 : DD := (⟨"java/lang/String", "<init>", "([C)V"⟩, jdk_42_method_3_code, 2, none, { frames := 3, cells := 1, slots := 8, locals := 52 })
theorem k_i1 {g : GG} (W : GW g) (a : Addr) (c : Addr) (nm : String) (cs : List Int32) (hcs : ∀ x ∈ cs, ¬ (255 : Int32) < x) (hn : cs.length ≤ 8) (hne : cs ≠ []) (H0 : List Ent) (Lt : List SE) : Ct g D2 #[.ref a, .ref c] (o_String a .null (.int (0 : Int32)) :: (c, .inr (.char, nm, cs.map Value.int)) :: H0) Lt (fun v vm h => v = none ∧ ∃ d, Hp g vm h ((c, .inr (.char, nm, cs.map Value.int)) :: H0) ((a, d, 0, cs.map bV) :: Lt)) := by
  refine CtW.body W (by decide +kernel) (ef_i1 a c) ?_
  intro M T B
  refine p_aloadN B d2_0 (pc' := 1) rfl rfl rfl ?_
  refine p_aloadN B d2_1 (pc' := 2) rfl rfl rfl ?_
  refine p_iconst B d2_2 (pc' := 3) rfl (v := (0 : Int32)) (by decide) ?_
  refine p_aloadN B d2_3 (pc' := 4) rfl rfl rfl ?_
  refine r_alen B d2_4 (pc' := 5) rfl (aH (i := 1) rfl) (z := Int32.ofNat cs.length) (by rw [List.length_map]) ?_
  refine p_null B d2_5 (pc' := 6) rfl ?_
  refine r_special (D' := D3) B d2_6 (pc' := 9) rfl rfl rfl (W17 B.gw) (W18 B.gw) (W1 B.gw) (W20 B.gw) (by decide) (k_i4 W a c nm cs hcs hn hne H0 Lt) (a := a) (argsL := [(.ref c), (.int (0 : Int32)), (.int (Int32.ofNat cs.length)), .null]) (rest := []) rfl pd3 rfl rfl rfl (W := 0) rfl (by decide) (by decide) (cs' := 1) rfl (ss' := 8) rfl (by decide) (by decide) ?_
  intro T1 v2 B3
  replace B3 := Rn.and B3
  obtain ⟨rfl, B3⟩ := B3
  replace B3 := Rn.ex B3
  obtain ⟨d, B3⟩ := B3
  show Fn g D2 M _ (T1.setTop (mkF M.m 9 #[.val (.ref a), .val (.ref c)] []))
  exact r_ret B3 d2_9 rfl (by decide) (by decide) (fun vm h P => ⟨rfl, d, P⟩)
theorem fld_one {Z : State} {h : Heap} {a : Addr} {C n d : String} {v w : Value} (F : Fld Z h a C n d v) (G : Fld Z h a C n d w) : v = w := by
  obtain ⟨c1, f1, k1, i1, q1, h1, h2, -, -, -, -, h7⟩ := F
  obtain ⟨c2, f2, k2, i2, q2, g1, g2, -, -, -, -, g7⟩ := G
  cases h1.symm.trans g1
  cases h2.symm.trans g2
  exact Option.some.inj (h7.symm.trans g7)
theorem Ary.one {Z : State} {h : Heap} {a : Addr} {t1 t2 : FieldType} {n1 n2 : String} {vs ws : List Value} (A : Ary Z h a t1 n1 vs) (B : Ary Z h a t2 n2 ws) : vs = ws := by
  obtain ⟨c1, r1, r2, -⟩ := A
  obtain ⟨c2, s1, s2, -⟩ := B
  cases r1.1.symm.trans s1.1
  have e := r2.symm.trans s2
  exact congrArg Array.toList e
theorem str_one {g : GG} {vm : Vm} {h : Heap} {H : List Ent} {Lt : List SE} (P : Hp g vm h H Lt) {a b b' : Addr} {c c' : Int32} {vs ws : List Value} (m1 : (a, b, c, vs) ∈ Lt) (m2 : (a, b', c', ws) ∈ Lt) : vs = ws := by
  have I := P.2.2.1 _ m1
  have J := P.2.2.1 _ m2
  have e : Value.ref b = Value.ref b' := fld_one I.2.1 J.2.1
  cases e
  exact I.2.2.2.one J.2.2.2
theorem map_int_inj {xs ys : List Int32} (h : xs.map Value.int = ys.map Value.int) : xs = ys := List.map_inj_right (fun a b q => by cases q; rfl) |>.mp h
theorem take_same {xs ys : List Int32} {i : Nat} {x : Int32} (h : xs.take i = ys.take i) (hx : xs[i]? = some x) (hy : ys[i]? = some x) : xs.take (i + 1) = ys.take (i + 1) := by
  rw [List.take_add_one, List.take_add_one, h, hx, hy]

theorem ef_le (b b' : Addr) (m : MethodId) : entryFrame m #[(.ref b), (.ref b')] 3 = mkF m 0 #[.val (.ref b), .val (.ref b'), .unset] [] := by first | (simp [entryFrame, mkF, argsToLocals, Value.category]; done) | rfl
abbrev D15 : DD := (⟨"java/lang/StringLatin1", "equals", "([B[B)Z"⟩, jdk_43_method_13_code, 3, (some .boolean), { frames := 0, cells := 0, slots := 0, locals := 0 })
theorem lp_le {g : GG} (W : GW g) {a a' b b' : Addr} {xs ys : List Int32} {H : List Ent} {Lt : List SE} (m1 : (a, b, 0, xs.map Value.int) ∈ Lt) (m2 : (a', b', 0, ys.map Value.int) ∈ Lt) (hx : xs.length < 2147483648) (hy : ys.length < 2147483648) {M : MM} (hl : xs.length = ys.length) : ∀ (k i : Nat), i + k = xs.length → xs.take i = ys.take i → ∀ {T : State}, RH g D15 M T H Lt 0 0 →
    Fn g D15 M (fun v vm h => ∃ z : Int32, v = some (.int z) ∧ (z = 1 ∧ xs = ys ∨ z = 0 ∧ ¬ xs = ys) ∧ Hp g vm h H Lt) (T.setTop (mkF M.m 9 #[.val (.ref b), .val (.ref b'), .val (.int (Int32.ofNat i))] [])) := by
  intro k
  induction k with
  | zero =>
    intro i hi ht T B
    refine p_iloadN B d15_9 (pc' := 10) rfl rfl ?_
    refine p_aloadN B d15_10 (pc' := 11) rfl rfl rfl ?_
    refine r_alen B d15_11 (pc' := 12) rfl (sA m1) (z := Int32.ofNat xs.length) (by rw [List.length_map]) ?_
    have hi' : i = xs.length := by omega
    refine b_icT B d15_12 (pc' := 32) (by subst hi'; exact Int32.lt_irrefl) (by decide) (by decide) ?_
    refine p_iconst B d15_32 (pc' := 33) rfl (v := (1 : Int32)) (by decide) ?_
    exact r_reti B d15_33 rfl (by simp) rfl (by decide) (by decide) (fun vm h P => ⟨_, rfl, Or.inl ⟨rfl, by rw [hi', List.take_length, hl, List.take_length] at ht; exact ht⟩, P⟩)
  | succ k ih =>
    intro i hi ht T B
    refine p_iloadN B d15_9 (pc' := 10) rfl rfl ?_
    refine p_aloadN B d15_10 (pc' := 11) rfl rfl rfl ?_
    refine r_alen B d15_11 (pc' := 12) rfl (sA m1) (z := Int32.ofNat xs.length) (by rw [List.length_map]) ?_
    have hlt : i < xs.length := by omega
    refine b_icF B d15_12 (pc' := 15) rfl (ltN hlt hx) ?_
    obtain ⟨x, ex⟩ : ∃ x, xs[i]? = some x := ⟨_, List.getElem?_eq_getElem hlt⟩
    obtain ⟨y, ey⟩ : ∃ y, ys[i]? = some y := ⟨_, List.getElem?_eq_getElem (by omega)⟩
    refine p_aloadN B d15_15 (pc' := 16) rfl rfl rfl ?_
    refine p_iloadN B d15_16 (pc' := 17) rfl rfl ?_
    refine r_aget B d15_17 rfl (pc' := 18) rfl (sA m1) (k := i) rfl (v := .int x) (by rw [List.getElem?_map, ex]; rfl) ?_
    refine p_aloadN B d15_18 (pc' := 19) rfl rfl rfl ?_
    refine p_iloadN B d15_19 (pc' := 20) rfl rfl ?_
    refine r_aget B d15_20 rfl (pc' := 21) rfl (sA m2) (k := i) rfl (v := .int y) (by rw [List.getElem?_map, ey]; rfl) ?_
    by_cases hxy : x = y
    · refine b_icT B d15_21 (pc' := 26) hxy (by decide) (by decide) ?_
      refine p_iinc B d15_26 (pc' := 29) rfl (v := (1 : Int32)) (by decide) rfl (z := ((Int32.ofNat i) + (1 : Int32))) rfl (Ls' := #[.val (.ref b), .val (.ref b'), .val (.int ((Int32.ofNat i) + (1 : Int32)))]) rfl ?_
      refine b_goto B d15_29 (pc' := 9) (by decide) (by decide) ?_
      subst hxy
      rw [sucN i]
      exact ih (i + 1) (by omega) (take_same ht ex ey) B
    · refine b_icF B d15_21 (pc' := 24) rfl hxy ?_
      refine p_iconst B d15_24 (pc' := 25) rfl (v := (0 : Int32)) (by decide) ?_
      exact r_reti B d15_25 rfl (by simp) rfl (by decide) (by decide) (fun vm h P => ⟨_, rfl, Or.inr ⟨rfl, fun q => hxy (by subst q; exact Option.some.inj (ex.symm.trans ey))⟩, P⟩)
theorem k_le {g : GG} (W : GW g) {a a' b b' : Addr} {xs ys : List Int32} {H : List Ent} {Lt : List SE} (m1 : (a, b, 0, xs.map Value.int) ∈ Lt) (m2 : (a', b', 0, ys.map Value.int) ∈ Lt) (hx : xs.length < 2147483648) (hy : ys.length < 2147483648) : Ct g D15 #[.ref b, .ref b'] H Lt (fun v vm h => ∃ z : Int32, v = some (.int z) ∧ (z = 1 ∧ xs = ys ∨ z = 0 ∧ ¬ xs = ys) ∧ Hp g vm h H Lt) := by
  refine CtW.body W (by decide +kernel) (ef_le b b') ?_
  intro M T B
  refine p_aloadN B d15_0 (pc' := 1) rfl rfl rfl ?_
  refine r_alen B d15_1 (pc' := 2) rfl (sA m1) (z := Int32.ofNat xs.length) (by rw [List.length_map]) ?_
  refine p_aloadN B d15_2 (pc' := 3) rfl rfl rfl ?_
  refine r_alen B d15_3 (pc' := 4) rfl (sA m2) (z := Int32.ofNat ys.length) (by rw [List.length_map]) ?_
  by_cases hn : (Int32.ofNat xs.length) = (Int32.ofNat ys.length)
  · refine b_icF B d15_4 (pc' := 7) rfl hn ?_
    refine p_iconst B d15_7 (pc' := 8) rfl (v := (0 : Int32)) (by decide) ?_
    refine p_istoreN B d15_8 (pc' := 9) rfl (Ls' := #[.val (.ref b), .val (.ref b'), .val (.int (0 : Int32))]) rfl ?_
    exact lp_le W m1 m2 hx hy (injN hx hy hn) xs.length 0 (by omega) rfl B
  · refine b_icT B d15_4 (pc' := 34) hn (by decide) (by decide) ?_
    refine p_iconst B d15_34 (pc' := 35) rfl (v := (0 : Int32)) (by decide) ?_
    exact r_reti B d15_35 rfl (by simp) rfl (by decide) (by decide) (fun vm h P => ⟨_, rfl, Or.inr ⟨rfl, fun q => hn (by rw [q])⟩, P⟩)
theorem ef_se (a a' : Addr) (m : MethodId) : entryFrame m #[(.ref a), (.ref a')] 3 = mkF m 0 #[.val (.ref a), .val (.ref a'), .unset] [] := by first | (simp [entryFrame, mkF, argsToLocals, Value.category]; done) | rfl
abbrev D13 : DD := (⟨"java/lang/String", "equals", "(Ljava/lang/Object;)Z"⟩, jdk_42_method_66_code, 3, (some .boolean), { frames := 1, cells := 0, slots := 0, locals := 14 })
theorem k_se {g : GG} (W : GW g) {a a' b b' : Addr} {xs ys : List Int32} {H : List Ent} {Lt : List SE} (m1 : (a, b, 0, xs.map Value.int) ∈ Lt) (m2 : (a', b', 0, ys.map Value.int) ∈ Lt) (hx : xs.length < 2147483648) (hy : ys.length < 2147483648) : Ct g D13 #[.ref a, .ref a'] H Lt (fun v vm h => ∃ z : Int32, v = some (.int z) ∧ (z = 1 ∧ xs = ys ∨ z = 0 ∧ ¬ xs = ys) ∧ Hp g vm h H Lt) := by
  refine CtW.body W (by decide +kernel) (ef_se a a') ?_
  intro M T B
  refine p_aloadN B d13_0 (pc' := 1) rfl rfl rfl ?_
  refine p_aloadN B d13_1 (pc' := 2) rfl rfl rfl ?_
  by_cases ha : (Value.ref a) = (Value.ref a')
  · refine b_anF B d13_2 (pc' := 5) rfl rfl rfl ha ?_
    refine p_iconst B d13_5 (pc' := 6) rfl (v := (1 : Int32)) (by decide) ?_
    exact r_reti B d13_6 rfl (by simp) rfl (by decide) (by decide) (fun vm h P => ⟨_, rfl, Or.inl ⟨rfl, map_int_inj (str_one P m1 (by cases ha; exact m2))⟩, P⟩)
  · refine b_anT B d13_2 (pc' := 7) rfl rfl ha (by decide) (by decide) ?_
    refine p_aloadN B d13_7 (pc' := 8) rfl rfl rfl ?_
    refine r_inst1 B d13_8 (pc' := 11) rfl (W87 B.gw) (fun vm h E P => Ins.self (sE m2 vm h E P)) ?_
    intro T1 B2
    refine b_ifF B2 d13_11 (pc' := 14) rfl (show ¬ (1 : Int32) = (0 : Int32) from by decide) ?_
    refine p_aloadN B2 d13_14 (pc' := 15) rfl rfl rfl ?_
    refine r_cast B2 d13_15 (pc' := 18) rfl (W87 B2.gw) (fun vm h E P => Ins.self (sE m2 vm h E P)) ?_
    intro T3 B4
    refine p_astoreN B4 d13_18 (pc' := 19) rfl rfl (Ls' := #[.val (.ref a), .val (.ref a'), .val (.ref a')]) rfl ?_
    obtain ⟨z, hz, hz0⟩ := compact W
    refine r_gets B4 d13_19 (pc' := 22) rfl (host := "") (Or.inl (W24 B4.gw)) Via.refl (v := (.int z)) hz ?_
    intro T5 B6
    refine b_ifF B6 d13_22 (pc' := 25) rfl hz0 ?_
    refine p_aloadN B6 d13_25 (pc' := 26) rfl rfl rfl ?_
    refine r_get B6 d13_26 (pc' := 29) rfl (host := "") (Or.inl (W35 B6.gw)) Via.refl (v := (.int (0 : Int32))) (sC m1) ?_
    intro T7 B8
    refine p_aloadN B8 d13_29 (pc' := 30) rfl rfl rfl ?_
    refine r_get B8 d13_30 (pc' := 33) rfl (host := "") (Or.inl (W35 B8.gw)) Via.refl (v := (.int (0 : Int32))) (sC m2) ?_
    intro T9 B10
    refine b_icF B10 d13_33 (pc' := 36) rfl (show (0 : Int32) = (0 : Int32) from by decide) ?_
    refine p_aloadN B10 d13_36 (pc' := 37) rfl rfl rfl ?_
    refine r_get B10 d13_37 (pc' := 40) rfl (host := "") (Or.inl (W36 B10.gw)) Via.refl (v := (.ref b)) (sV m1) ?_
    intro T11 B12
    refine p_aloadN B12 d13_40 (pc' := 41) rfl rfl rfl ?_
    refine r_get B12 d13_41 (pc' := 44) rfl (host := "") (Or.inl (W36 B12.gw)) Via.refl (v := (.ref b')) (sV m2) ?_
    intro T13 B14
    refine r_static (D' := D15) B14 d13_44 (pc' := 47) rfl (W88 B14.gw) (W89 B14.gw) (W90 B14.gw) (W91 B14.gw) (by decide) (k_le W m1 m2 hx hy) (argsL := [(.ref b), (.ref b')]) (rest := []) rfl pd4 rfl rfl rfl (W := 0) rfl (by decide) (by decide) (cs' := 0) rfl (ss' := 0) rfl (by decide) (by decide) ?_
    intro T15 v16 B17
    replace B17 := Rn.ex B17
    obtain ⟨z, B17⟩ := B17
    replace B17 := Rn.and B17
    obtain ⟨rfl, B17⟩ := B17
    replace B17 := Rn.and B17
    obtain ⟨hz, B17⟩ := B17
    show Fn g D13 M _ (T15.setTop (mkF M.m 47 #[.val (.ref a), .val (.ref a'), .val (.ref a')] [(.int z)]))
    rcases hz with ⟨rfl, hz⟩ | ⟨rfl, hz⟩
    · refine b_ifF B17 d13_47 (pc' := 50) rfl (show ¬ (1 : Int32) = (0 : Int32) from by decide) ?_
      refine p_iconst B17 d13_50 (pc' := 51) rfl (v := (1 : Int32)) (by decide) ?_
      refine b_goto B17 d13_51 (pc' := 55) (by decide) (by decide) ?_
      exact r_reti B17 d13_55 rfl (by simp) rfl (by decide) (by decide) (fun vm h P => ⟨_, rfl, Or.inl ⟨rfl, hz⟩, P⟩)
    · refine b_ifT B17 d13_47 (pc' := 54) (show (0 : Int32) = (0 : Int32) from by decide) (by decide) (by decide) ?_
      refine p_iconst B17 d13_54 (pc' := 55) rfl (v := (0 : Int32)) (by decide) ?_
      exact r_reti B17 d13_55 rfl (by simp) rfl (by decide) (by decide) (fun vm h P => ⟨_, rfl, Or.inr ⟨rfl, hz⟩, P⟩)
abbrev D14_is3_3 : DD := (⟨"com/example/polecenie/polecenie/core/Pain001Reader$Element", "is", "([Ljava/lang/String;)Z"⟩, prog_35_method_6_code, 3, (some .boolean), { frames := 2, cells := 0, slots := 0, locals := 28 })
theorem ef_is3_3 (e ar : Addr) (m : MethodId) : entryFrame m #[(.ref e), (.ref ar)] 3 = mkF m 0 #[.val (.ref e), .val (.ref ar), .unset] [] := by first | (simp [entryFrame, mkF, argsToLocals, Value.category]; done) | rfl
theorem k_is3_3 {g : GG} (W : GW g) (e ar na : Addr) (fb fB fT ft : Int32) (x0 : Addr) (x1 : Addr) (x2 : Addr) (l0 : Addr) {bl0 : Addr} (l1 : Addr) {bl1 : Addr} (l2 : Addr) {bl2 : Addr} (H0 : List Ent) {Lt : List SE} {bx0 : Addr} {xx0 : List Int32} (mx0 : (x0, bx0, 0, xx0.map Value.int) ∈ Lt) (hl0 : xx0.length < 2147483648) {bx1 : Addr} {xx1 : List Int32} (mx1 : (x1, bx1, 0, xx1.map Value.int) ∈ Lt) (hl1 : xx1.length < 2147483648) {bx2 : Addr} {xx2 : List Int32} (mx2 : (x2, bx2, 0, xx2.map Value.int) ∈ Lt) (hl2 : xx2.length < 2147483648) (ml0 : (l0, bl0, 0, [(.int (68 : Int32)), (.int (111 : Int32)), (.int (99 : Int32)), (.int (117 : Int32)), (.int (109 : Int32)), (.int (101 : Int32)), (.int (110 : Int32)), (.int (116 : Int32))]) ∈ Lt) (ml1 : (l1, bl1, 0, [(.int (67 : Int32)), (.int (115 : Int32)), (.int (116 : Int32)), (.int (109 : Int32)), (.int (114 : Int32)), (.int (67 : Int32)), (.int (100 : Int32)), (.int (116 : Int32)), (.int (84 : Int32)), (.int (114 : Int32)), (.int (102 : Int32)), (.int (73 : Int32)), (.int (110 : Int32)), (.int (105 : Int32)), (.int (116 : Int32)), (.int (110 : Int32))]) ∈ Lt) (ml2 : (l2, bl2, 0, [(.int (80 : Int32)), (.int (109 : Int32)), (.int (116 : Int32)), (.int (73 : Int32)), (.int (110 : Int32)), (.int (102 : Int32))]) ∈ Lt) : Ct g D14_is3_3 #[.ref e, .ref ar] ((ar, .inr ((.object "java/lang/String"), "[Ljava/lang/String;", [(.ref l0), (.ref l1), (.ref l2)])) :: o_Pain001Reader_Element e (.ref na) (.int (3 : Int32)) (.int fb) (.int fB) (.int fT) (.int ft) :: (na, .inr ((.object "java/lang/String"), "[Ljava/lang/String;", [(.ref x0), (.ref x1), (.ref x2), .null, .null, .null, .null, .null, .null, .null, .null, .null, .null, .null, .null, .null])) :: H0) Lt (fun v vm h => ∃ z : Int32, v = some (.int z) ∧ (z = 0 ∨ z = 1) ∧ Hp g vm h ((ar, .inr ((.object "java/lang/String"), "[Ljava/lang/String;", [(.ref l0), (.ref l1), (.ref l2)])) :: o_Pain001Reader_Element e (.ref na) (.int (3 : Int32)) (.int fb) (.int fB) (.int fT) (.int ft) :: (na, .inr ((.object "java/lang/String"), "[Ljava/lang/String;", [(.ref x0), (.ref x1), (.ref x2), .null, .null, .null, .null, .null, .null, .null, .null, .null, .null, .null, .null, .null])) :: H0) Lt) := by
  refine CtW.body W (by decide +kernel) (ef_is3_3 e ar) ?_
  intro M T B
  refine p_aloadN B d14_0 (pc' := 1) rfl rfl rfl ?_
  refine r_alen B d14_1 (pc' := 2) rfl (aH (i := 0) rfl) (z := (3 : Int32)) rfl ?_
  refine p_aloadN B d14_2 (pc' := 3) rfl rfl rfl ?_
  refine r_get B d14_3 (pc' := 6) rfl (host := "") (Or.inl (W56 B.gw)) Via.refl (v := (.int (3 : Int32))) (fO (i := 1) (j := 1) rfl rfl) ?_
  intro T1 B2
  refine b_icT B2 d14_6 (pc' := 11) (show ¬ (3 : Int32) < (3 : Int32) from by decide) (by decide) (by decide) ?_
  refine p_iconst B2 d14_11 (pc' := 12) rfl (v := (0 : Int32)) (by decide) ?_
  refine p_istoreN B2 d14_12 (pc' := 13) rfl (Ls' := #[.val (.ref e), .val (.ref ar), .val (.int (0 : Int32))]) rfl ?_
  refine p_iloadN B2 d14_13 (pc' := 14) rfl rfl ?_
  refine p_aloadN B2 d14_14 (pc' := 15) rfl rfl rfl ?_
  refine r_alen B2 d14_15 (pc' := 16) rfl (aH (i := 0) rfl) (z := (3 : Int32)) rfl ?_
  refine b_icF B2 d14_16 (pc' := 19) rfl (show (0 : Int32) < (3 : Int32) from by decide) ?_
  refine p_aloadN B2 d14_19 (pc' := 20) rfl rfl rfl ?_
  refine p_aloadN B2 d14_20 (pc' := 21) rfl rfl rfl ?_
  refine r_alen B2 d14_21 (pc' := 22) rfl (aH (i := 0) rfl) (z := (3 : Int32)) rfl ?_
  refine p_iconst B2 d14_22 (pc' := 23) rfl (v := (1 : Int32)) (by decide) ?_
  refine p_isub B2 d14_23 (pc' := 24) rfl (z := (2 : Int32)) (by decide) ?_
  refine p_iloadN B2 d14_24 (pc' := 25) rfl rfl ?_
  refine p_isub B2 d14_25 (pc' := 26) rfl (z := (2 : Int32)) (by decide) ?_
  refine r_aget B2 d14_26 rfl (pc' := 27) rfl (aH (i := 0) rfl) (k := 2) (by decide) rfl ?_
  refine p_aloadN B2 d14_27 (pc' := 28) rfl rfl rfl ?_
  refine r_get B2 d14_28 (pc' := 31) rfl (host := "") (Or.inl (W49 B2.gw)) Via.refl (v := (.ref na)) (fO (i := 1) (j := 0) rfl rfl) ?_
  intro T3 B4
  refine p_aloadN B4 d14_31 (pc' := 32) rfl rfl rfl ?_
  refine r_get B4 d14_32 (pc' := 35) rfl (host := "") (Or.inl (W56 B4.gw)) Via.refl (v := (.int (3 : Int32))) (fO (i := 1) (j := 1) rfl rfl) ?_
  intro T5 B6
  refine p_iconst B6 d14_35 (pc' := 36) rfl (v := (1 : Int32)) (by decide) ?_
  refine p_isub B6 d14_36 (pc' := 37) rfl (z := (2 : Int32)) (by decide) ?_
  refine p_iloadN B6 d14_37 (pc' := 38) rfl rfl ?_
  refine p_isub B6 d14_38 (pc' := 39) rfl (z := (2 : Int32)) (by decide) ?_
  refine r_aget B6 d14_39 rfl (pc' := 40) rfl (aH (i := 2) rfl) (k := 2) (by decide) rfl ?_
  refine r_virtual (D' := D13) B6 d14_40 (pc' := 43) rfl (W86 B6.gw) (W74 B6.gw) (W76 B6.gw) (fun vm0 hZ => notFace_of_selects (args := #[]) (mvT hZ (W76 B6.gw))) (W75 B6.gw) (W1 B6.gw) (W77 B6.gw) (by decide) (sE ml2) (k_se W (xs := ([(80 : Int32), (109 : Int32), (116 : Int32), (73 : Int32), (110 : Int32), (102 : Int32)] : List Int32)) (ys := xx2) ml2 mx2 (by simp) hl2) (argsL := [(.ref x2)]) (rest := []) rfl pd5 rfl rfl rfl (W := 0) rfl (by decide) (by decide) (cs' := 0) rfl (ss' := 0) rfl (by decide) (by decide) ?_
  intro T7 v8 B9
  replace B9 := Rn.ex B9
  obtain ⟨z, B9⟩ := B9
  replace B9 := Rn.and B9
  obtain ⟨rfl, B9⟩ := B9
  replace B9 := Rn.and B9
  obtain ⟨hz10, B9⟩ := B9
  show Fn g D14_is3_3 M _ (T7.setTop (mkF M.m 43 #[.val (.ref e), .val (.ref ar), .val (.int (0 : Int32))] [(.int z)]))
  rcases hz10 with ⟨rfl, hz10⟩ | ⟨rfl, hz10⟩
  · refine b_ifT B9 d14_43 (pc' := 48) (show ¬ (1 : Int32) = (0 : Int32) from by decide) (by decide) (by decide) ?_
    refine p_iinc B9 d14_48 (pc' := 51) rfl (v := (1 : Int32)) (by decide) rfl (z := (1 : Int32)) (by decide) (Ls' := #[.val (.ref e), .val (.ref ar), .val (.int (1 : Int32))]) rfl ?_
    refine b_goto B9 d14_51 (pc' := 13) (by decide) (by decide) ?_
    refine p_iloadN B9 d14_13 (pc' := 14) rfl rfl ?_
    refine p_aloadN B9 d14_14 (pc' := 15) rfl rfl rfl ?_
    refine r_alen B9 d14_15 (pc' := 16) rfl (aH (i := 0) rfl) (z := (3 : Int32)) rfl ?_
    refine b_icF B9 d14_16 (pc' := 19) rfl (show (1 : Int32) < (3 : Int32) from by decide) ?_
    refine p_aloadN B9 d14_19 (pc' := 20) rfl rfl rfl ?_
    refine p_aloadN B9 d14_20 (pc' := 21) rfl rfl rfl ?_
    refine r_alen B9 d14_21 (pc' := 22) rfl (aH (i := 0) rfl) (z := (3 : Int32)) rfl ?_
    refine p_iconst B9 d14_22 (pc' := 23) rfl (v := (1 : Int32)) (by decide) ?_
    refine p_isub B9 d14_23 (pc' := 24) rfl (z := (2 : Int32)) (by decide) ?_
    refine p_iloadN B9 d14_24 (pc' := 25) rfl rfl ?_
    refine p_isub B9 d14_25 (pc' := 26) rfl (z := (1 : Int32)) (by decide) ?_
    refine r_aget B9 d14_26 rfl (pc' := 27) rfl (aH (i := 0) rfl) (k := 1) (by decide) rfl ?_
    refine p_aloadN B9 d14_27 (pc' := 28) rfl rfl rfl ?_
    refine r_get B9 d14_28 (pc' := 31) rfl (host := "") (Or.inl (W49 B9.gw)) Via.refl (v := (.ref na)) (fO (i := 1) (j := 0) rfl rfl) ?_
    intro T11 B12
    refine p_aloadN B12 d14_31 (pc' := 32) rfl rfl rfl ?_
    refine r_get B12 d14_32 (pc' := 35) rfl (host := "") (Or.inl (W56 B12.gw)) Via.refl (v := (.int (3 : Int32))) (fO (i := 1) (j := 1) rfl rfl) ?_
    intro T13 B14
    refine p_iconst B14 d14_35 (pc' := 36) rfl (v := (1 : Int32)) (by decide) ?_
    refine p_isub B14 d14_36 (pc' := 37) rfl (z := (2 : Int32)) (by decide) ?_
    refine p_iloadN B14 d14_37 (pc' := 38) rfl rfl ?_
    refine p_isub B14 d14_38 (pc' := 39) rfl (z := (1 : Int32)) (by decide) ?_
    refine r_aget B14 d14_39 rfl (pc' := 40) rfl (aH (i := 2) rfl) (k := 1) (by decide) rfl ?_
    refine r_virtual (D' := D13) B14 d14_40 (pc' := 43) rfl (W86 B14.gw) (W74 B14.gw) (W76 B14.gw) (fun vm0 hZ => notFace_of_selects (args := #[]) (mvT hZ (W76 B14.gw))) (W75 B14.gw) (W1 B14.gw) (W77 B14.gw) (by decide) (sE ml1) (k_se W (xs := ([(67 : Int32), (115 : Int32), (116 : Int32), (109 : Int32), (114 : Int32), (67 : Int32), (100 : Int32), (116 : Int32), (84 : Int32), (114 : Int32), (102 : Int32), (73 : Int32), (110 : Int32), (105 : Int32), (116 : Int32), (110 : Int32)] : List Int32)) (ys := xx1) ml1 mx1 (by simp) hl1) (argsL := [(.ref x1)]) (rest := []) rfl pd5 rfl rfl rfl (W := 0) rfl (by decide) (by decide) (cs' := 0) rfl (ss' := 0) rfl (by decide) (by decide) ?_
    intro T15 v16 B17
    replace B17 := Rn.ex B17
    obtain ⟨z, B17⟩ := B17
    replace B17 := Rn.and B17
    obtain ⟨rfl, B17⟩ := B17
    replace B17 := Rn.and B17
    obtain ⟨hz18, B17⟩ := B17
    show Fn g D14_is3_3 M _ (T15.setTop (mkF M.m 43 #[.val (.ref e), .val (.ref ar), .val (.int (1 : Int32))] [(.int z)]))
    rcases hz18 with ⟨rfl, hz18⟩ | ⟨rfl, hz18⟩
    · refine b_ifT B17 d14_43 (pc' := 48) (show ¬ (1 : Int32) = (0 : Int32) from by decide) (by decide) (by decide) ?_
      refine p_iinc B17 d14_48 (pc' := 51) rfl (v := (1 : Int32)) (by decide) rfl (z := (2 : Int32)) (by decide) (Ls' := #[.val (.ref e), .val (.ref ar), .val (.int (2 : Int32))]) rfl ?_
      refine b_goto B17 d14_51 (pc' := 13) (by decide) (by decide) ?_
      refine p_iloadN B17 d14_13 (pc' := 14) rfl rfl ?_
      refine p_aloadN B17 d14_14 (pc' := 15) rfl rfl rfl ?_
      refine r_alen B17 d14_15 (pc' := 16) rfl (aH (i := 0) rfl) (z := (3 : Int32)) rfl ?_
      refine b_icF B17 d14_16 (pc' := 19) rfl (show (2 : Int32) < (3 : Int32) from by decide) ?_
      refine p_aloadN B17 d14_19 (pc' := 20) rfl rfl rfl ?_
      refine p_aloadN B17 d14_20 (pc' := 21) rfl rfl rfl ?_
      refine r_alen B17 d14_21 (pc' := 22) rfl (aH (i := 0) rfl) (z := (3 : Int32)) rfl ?_
      refine p_iconst B17 d14_22 (pc' := 23) rfl (v := (1 : Int32)) (by decide) ?_
      refine p_isub B17 d14_23 (pc' := 24) rfl (z := (2 : Int32)) (by decide) ?_
      refine p_iloadN B17 d14_24 (pc' := 25) rfl rfl ?_
      refine p_isub B17 d14_25 (pc' := 26) rfl (z := (0 : Int32)) (by decide) ?_
      refine r_aget B17 d14_26 rfl (pc' := 27) rfl (aH (i := 0) rfl) (k := 0) (by decide) rfl ?_
      refine p_aloadN B17 d14_27 (pc' := 28) rfl rfl rfl ?_
      refine r_get B17 d14_28 (pc' := 31) rfl (host := "") (Or.inl (W49 B17.gw)) Via.refl (v := (.ref na)) (fO (i := 1) (j := 0) rfl rfl) ?_
      intro T19 B20
      refine p_aloadN B20 d14_31 (pc' := 32) rfl rfl rfl ?_
      refine r_get B20 d14_32 (pc' := 35) rfl (host := "") (Or.inl (W56 B20.gw)) Via.refl (v := (.int (3 : Int32))) (fO (i := 1) (j := 1) rfl rfl) ?_
      intro T21 B22
      refine p_iconst B22 d14_35 (pc' := 36) rfl (v := (1 : Int32)) (by decide) ?_
      refine p_isub B22 d14_36 (pc' := 37) rfl (z := (2 : Int32)) (by decide) ?_
      refine p_iloadN B22 d14_37 (pc' := 38) rfl rfl ?_
      refine p_isub B22 d14_38 (pc' := 39) rfl (z := (0 : Int32)) (by decide) ?_
      refine r_aget B22 d14_39 rfl (pc' := 40) rfl (aH (i := 2) rfl) (k := 0) (by decide) rfl ?_
      refine r_virtual (D' := D13) B22 d14_40 (pc' := 43) rfl (W86 B22.gw) (W74 B22.gw) (W76 B22.gw) (fun vm0 hZ => notFace_of_selects (args := #[]) (mvT hZ (W76 B22.gw))) (W75 B22.gw) (W1 B22.gw) (W77 B22.gw) (by decide) (sE ml0) (k_se W (xs := ([(68 : Int32), (111 : Int32), (99 : Int32), (117 : Int32), (109 : Int32), (101 : Int32), (110 : Int32), (116 : Int32)] : List Int32)) (ys := xx0) ml0 mx0 (by simp) hl0) (argsL := [(.ref x0)]) (rest := []) rfl pd5 rfl rfl rfl (W := 0) rfl (by decide) (by decide) (cs' := 0) rfl (ss' := 0) rfl (by decide) (by decide) ?_
      intro T23 v24 B25
      replace B25 := Rn.ex B25
      obtain ⟨z, B25⟩ := B25
      replace B25 := Rn.and B25
      obtain ⟨rfl, B25⟩ := B25
      replace B25 := Rn.and B25
      obtain ⟨hz26, B25⟩ := B25
      show Fn g D14_is3_3 M _ (T23.setTop (mkF M.m 43 #[.val (.ref e), .val (.ref ar), .val (.int (2 : Int32))] [(.int z)]))
      rcases hz26 with ⟨rfl, hz26⟩ | ⟨rfl, hz26⟩
      · refine b_ifT B25 d14_43 (pc' := 48) (show ¬ (1 : Int32) = (0 : Int32) from by decide) (by decide) (by decide) ?_
        refine p_iinc B25 d14_48 (pc' := 51) rfl (v := (1 : Int32)) (by decide) rfl (z := (3 : Int32)) (by decide) (Ls' := #[.val (.ref e), .val (.ref ar), .val (.int (3 : Int32))]) rfl ?_
        refine b_goto B25 d14_51 (pc' := 13) (by decide) (by decide) ?_
        refine p_iloadN B25 d14_13 (pc' := 14) rfl rfl ?_
        refine p_aloadN B25 d14_14 (pc' := 15) rfl rfl rfl ?_
        refine r_alen B25 d14_15 (pc' := 16) rfl (aH (i := 0) rfl) (z := (3 : Int32)) rfl ?_
        refine b_icT B25 d14_16 (pc' := 54) (show ¬ (3 : Int32) < (3 : Int32) from by decide) (by decide) (by decide) ?_
        refine p_iconst B25 d14_54 (pc' := 55) rfl (v := (1 : Int32)) (by decide) ?_
        exact r_reti B25 d14_55 rfl (by simp) rfl (by decide) (by decide) (fun vm h P => ⟨_, rfl, Or.inr rfl, P⟩)
      · refine b_ifF B25 d14_43 (pc' := 46) rfl (show (0 : Int32) = (0 : Int32) from by decide) ?_
        refine p_iconst B25 d14_46 (pc' := 47) rfl (v := (0 : Int32)) (by decide) ?_
        exact r_reti B25 d14_47 rfl (by simp) rfl (by decide) (by decide) (fun vm h P => ⟨_, rfl, Or.inl rfl, P⟩)
    · refine b_ifF B17 d14_43 (pc' := 46) rfl (show (0 : Int32) = (0 : Int32) from by decide) ?_
      refine p_iconst B17 d14_46 (pc' := 47) rfl (v := (0 : Int32)) (by decide) ?_
      exact r_reti B17 d14_47 rfl (by simp) rfl (by decide) (by decide) (fun vm h P => ⟨_, rfl, Or.inl rfl, P⟩)
  · refine b_ifF B9 d14_43 (pc' := 46) rfl (show (0 : Int32) = (0 : Int32) from by decide) ?_
    refine p_iconst B9 d14_46 (pc' := 47) rfl (v := (0 : Int32)) (by decide) ?_
    exact r_reti B9 d14_47 rfl (by simp) rfl (by decide) (by decide) (fun vm h P => ⟨_, rfl, Or.inl rfl, P⟩)
abbrev D14_is4_1 : DD := (⟨"com/example/polecenie/polecenie/core/Pain001Reader$Element", "is", "([Ljava/lang/String;)Z"⟩, prog_35_method_6_code, 3, (some .boolean), { frames := 2, cells := 0, slots := 0, locals := 28 })
theorem ef_is4_1 (e ar : Addr) (m : MethodId) : entryFrame m #[(.ref e), (.ref ar)] 3 = mkF m 0 #[.val (.ref e), .val (.ref ar), .unset] [] := by first | (simp [entryFrame, mkF, argsToLocals, Value.category]; done) | rfl
theorem k_is4_1 {g : GG} (W : GW g) (e ar na : Addr) (fb fB fT ft : Int32) (x0 : Addr) (x1 : Addr) (x2 : Addr) (x3 : Addr) (l0 : Addr) {bl0 : Addr} (H0 : List Ent) {Lt : List SE} {bx0 : Addr} {xx0 : List Int32} (mx0 : (x0, bx0, 0, xx0.map Value.int) ∈ Lt) (hl0 : xx0.length < 2147483648) {bx1 : Addr} {xx1 : List Int32} (mx1 : (x1, bx1, 0, xx1.map Value.int) ∈ Lt) (hl1 : xx1.length < 2147483648) {bx2 : Addr} {xx2 : List Int32} (mx2 : (x2, bx2, 0, xx2.map Value.int) ∈ Lt) (hl2 : xx2.length < 2147483648) {bx3 : Addr} {xx3 : List Int32} (mx3 : (x3, bx3, 0, xx3.map Value.int) ∈ Lt) (hl3 : xx3.length < 2147483648) (ml0 : (l0, bl0, 0, [(.int (67 : Int32)), (.int (100 : Int32)), (.int (116 : Int32)), (.int (84 : Int32)), (.int (114 : Int32)), (.int (102 : Int32)), (.int (84 : Int32)), (.int (120 : Int32)), (.int (73 : Int32)), (.int (110 : Int32)), (.int (102 : Int32))]) ∈ Lt) : Ct g D14_is4_1 #[.ref e, .ref ar] ((ar, .inr ((.object "java/lang/String"), "[Ljava/lang/String;", [(.ref l0)])) :: o_Pain001Reader_Element e (.ref na) (.int (4 : Int32)) (.int fb) (.int fB) (.int fT) (.int ft) :: (na, .inr ((.object "java/lang/String"), "[Ljava/lang/String;", [(.ref x0), (.ref x1), (.ref x2), (.ref x3), .null, .null, .null, .null, .null, .null, .null, .null, .null, .null, .null, .null])) :: H0) Lt (fun v vm h => ∃ z : Int32, v = some (.int z) ∧ (z = 0 ∨ z = 1) ∧ Hp g vm h ((ar, .inr ((.object "java/lang/String"), "[Ljava/lang/String;", [(.ref l0)])) :: o_Pain001Reader_Element e (.ref na) (.int (4 : Int32)) (.int fb) (.int fB) (.int fT) (.int ft) :: (na, .inr ((.object "java/lang/String"), "[Ljava/lang/String;", [(.ref x0), (.ref x1), (.ref x2), (.ref x3), .null, .null, .null, .null, .null, .null, .null, .null, .null, .null, .null, .null])) :: H0) Lt) := by
  refine CtW.body W (by decide +kernel) (ef_is4_1 e ar) ?_
  intro M T B
  refine p_aloadN B d14_0 (pc' := 1) rfl rfl rfl ?_
  refine r_alen B d14_1 (pc' := 2) rfl (aH (i := 0) rfl) (z := (1 : Int32)) rfl ?_
  refine p_aloadN B d14_2 (pc' := 3) rfl rfl rfl ?_
  refine r_get B d14_3 (pc' := 6) rfl (host := "") (Or.inl (W56 B.gw)) Via.refl (v := (.int (4 : Int32))) (fO (i := 1) (j := 1) rfl rfl) ?_
  intro T1 B2
  refine b_icT B2 d14_6 (pc' := 11) (show ¬ (4 : Int32) < (1 : Int32) from by decide) (by decide) (by decide) ?_
  refine p_iconst B2 d14_11 (pc' := 12) rfl (v := (0 : Int32)) (by decide) ?_
  refine p_istoreN B2 d14_12 (pc' := 13) rfl (Ls' := #[.val (.ref e), .val (.ref ar), .val (.int (0 : Int32))]) rfl ?_
  refine p_iloadN B2 d14_13 (pc' := 14) rfl rfl ?_
  refine p_aloadN B2 d14_14 (pc' := 15) rfl rfl rfl ?_
  refine r_alen B2 d14_15 (pc' := 16) rfl (aH (i := 0) rfl) (z := (1 : Int32)) rfl ?_
  refine b_icF B2 d14_16 (pc' := 19) rfl (show (0 : Int32) < (1 : Int32) from by decide) ?_
  refine p_aloadN B2 d14_19 (pc' := 20) rfl rfl rfl ?_
  refine p_aloadN B2 d14_20 (pc' := 21) rfl rfl rfl ?_
  refine r_alen B2 d14_21 (pc' := 22) rfl (aH (i := 0) rfl) (z := (1 : Int32)) rfl ?_
  refine p_iconst B2 d14_22 (pc' := 23) rfl (v := (1 : Int32)) (by decide) ?_
  refine p_isub B2 d14_23 (pc' := 24) rfl (z := (0 : Int32)) (by decide) ?_
  refine p_iloadN B2 d14_24 (pc' := 25) rfl rfl ?_
  refine p_isub B2 d14_25 (pc' := 26) rfl (z := (0 : Int32)) (by decide) ?_
  refine r_aget B2 d14_26 rfl (pc' := 27) rfl (aH (i := 0) rfl) (k := 0) (by decide) rfl ?_
  refine p_aloadN B2 d14_27 (pc' := 28) rfl rfl rfl ?_
  refine r_get B2 d14_28 (pc' := 31) rfl (host := "") (Or.inl (W49 B2.gw)) Via.refl (v := (.ref na)) (fO (i := 1) (j := 0) rfl rfl) ?_
  intro T3 B4
  refine p_aloadN B4 d14_31 (pc' := 32) rfl rfl rfl ?_
  refine r_get B4 d14_32 (pc' := 35) rfl (host := "") (Or.inl (W56 B4.gw)) Via.refl (v := (.int (4 : Int32))) (fO (i := 1) (j := 1) rfl rfl) ?_
  intro T5 B6
  refine p_iconst B6 d14_35 (pc' := 36) rfl (v := (1 : Int32)) (by decide) ?_
  refine p_isub B6 d14_36 (pc' := 37) rfl (z := (3 : Int32)) (by decide) ?_
  refine p_iloadN B6 d14_37 (pc' := 38) rfl rfl ?_
  refine p_isub B6 d14_38 (pc' := 39) rfl (z := (3 : Int32)) (by decide) ?_
  refine r_aget B6 d14_39 rfl (pc' := 40) rfl (aH (i := 2) rfl) (k := 3) (by decide) rfl ?_
  refine r_virtual (D' := D13) B6 d14_40 (pc' := 43) rfl (W86 B6.gw) (W74 B6.gw) (W76 B6.gw) (fun vm0 hZ => notFace_of_selects (args := #[]) (mvT hZ (W76 B6.gw))) (W75 B6.gw) (W1 B6.gw) (W77 B6.gw) (by decide) (sE ml0) (k_se W (xs := ([(67 : Int32), (100 : Int32), (116 : Int32), (84 : Int32), (114 : Int32), (102 : Int32), (84 : Int32), (120 : Int32), (73 : Int32), (110 : Int32), (102 : Int32)] : List Int32)) (ys := xx3) ml0 mx3 (by simp) hl3) (argsL := [(.ref x3)]) (rest := []) rfl pd5 rfl rfl rfl (W := 0) rfl (by decide) (by decide) (cs' := 0) rfl (ss' := 0) rfl (by decide) (by decide) ?_
  intro T7 v8 B9
  replace B9 := Rn.ex B9
  obtain ⟨z, B9⟩ := B9
  replace B9 := Rn.and B9
  obtain ⟨rfl, B9⟩ := B9
  replace B9 := Rn.and B9
  obtain ⟨hz10, B9⟩ := B9
  show Fn g D14_is4_1 M _ (T7.setTop (mkF M.m 43 #[.val (.ref e), .val (.ref ar), .val (.int (0 : Int32))] [(.int z)]))
  rcases hz10 with ⟨rfl, hz10⟩ | ⟨rfl, hz10⟩
  · refine b_ifT B9 d14_43 (pc' := 48) (show ¬ (1 : Int32) = (0 : Int32) from by decide) (by decide) (by decide) ?_
    refine p_iinc B9 d14_48 (pc' := 51) rfl (v := (1 : Int32)) (by decide) rfl (z := (1 : Int32)) (by decide) (Ls' := #[.val (.ref e), .val (.ref ar), .val (.int (1 : Int32))]) rfl ?_
    refine b_goto B9 d14_51 (pc' := 13) (by decide) (by decide) ?_
    refine p_iloadN B9 d14_13 (pc' := 14) rfl rfl ?_
    refine p_aloadN B9 d14_14 (pc' := 15) rfl rfl rfl ?_
    refine r_alen B9 d14_15 (pc' := 16) rfl (aH (i := 0) rfl) (z := (1 : Int32)) rfl ?_
    refine b_icT B9 d14_16 (pc' := 54) (show ¬ (1 : Int32) < (1 : Int32) from by decide) (by decide) (by decide) ?_
    refine p_iconst B9 d14_54 (pc' := 55) rfl (v := (1 : Int32)) (by decide) ?_
    exact r_reti B9 d14_55 rfl (by simp) rfl (by decide) (by decide) (fun vm h P => ⟨_, rfl, Or.inr rfl, P⟩)
  · refine b_ifF B9 d14_43 (pc' := 46) rfl (show (0 : Int32) = (0 : Int32) from by decide) ?_
    refine p_iconst B9 d14_46 (pc' := 47) rfl (v := (0 : Int32)) (by decide) ?_
    exact r_reti B9 d14_47 rfl (by simp) rfl (by decide) (by decide) (fun vm h P => ⟨_, rfl, Or.inl rfl, P⟩)
abbrev D10_ib1 : DD := (⟨"com/example/polecenie/polecenie/core/Pain001Reader$Element", "isBlock", "()Z"⟩, prog_35_method_10_code, 1, (some .boolean), { frames := 0, cells := 0, slots := 0, locals := 0 })
theorem ef_ib1 (e : Addr) (m : MethodId) : entryFrame m #[(.ref e)] 1 = mkF m 0 #[.val (.ref e)] [] := by first | (simp [entryFrame, mkF, argsToLocals, Value.category]; done) | rfl
theorem k_ib1 {g : GG} (W : GW g) (e na : Addr) (fb fB fT ft : Int32) (x0 : Addr) (H0 : List Ent) {Lt : List SE} {bx0 : Addr} {xx0 : List Int32} (mx0 : (x0, bx0, 0, xx0.map Value.int) ∈ Lt) (hl0 : xx0.length < 2147483648) : Ct g D10_ib1 #[.ref e] (o_Pain001Reader_Element e (.ref na) (.int (1 : Int32)) (.int fb) (.int fB) (.int fT) (.int ft) :: (na, .inr ((.object "java/lang/String"), "[Ljava/lang/String;", [(.ref x0), .null, .null, .null, .null, .null, .null, .null, .null, .null, .null, .null, .null, .null, .null, .null])) :: H0) Lt (fun v vm h => ∃ z : Int32, v = some (.int z) ∧ (z = 0 ∨ z = 1) ∧ Hp g vm h (o_Pain001Reader_Element e (.ref na) (.int (1 : Int32)) (.int fb) (.int fB) (.int fT) (.int ft) :: (na, .inr ((.object "java/lang/String"), "[Ljava/lang/String;", [(.ref x0), .null, .null, .null, .null, .null, .null, .null, .null, .null, .null, .null, .null, .null, .null, .null])) :: H0) Lt) := by
  refine CtW.body W (by decide +kernel) (ef_ib1 e) ?_
  intro M T B
  refine p_aloadN B d10_0 (pc' := 1) rfl rfl rfl ?_
  refine r_get B d10_1 (pc' := 4) rfl (host := "") (Or.inl (W56 B.gw)) Via.refl (v := (.int (1 : Int32))) (fO (i := 0) (j := 1) rfl rfl) ?_
  intro T1 B2
  refine p_iconst B2 d10_4 (pc' := 5) rfl (v := (3 : Int32)) (by decide) ?_
  refine b_icT B2 d10_5 (pc' := 38) (show ¬ (1 : Int32) = (3 : Int32) from by decide) (by decide) (by decide) ?_
  refine p_iconst B2 d10_38 (pc' := 39) rfl (v := (0 : Int32)) (by decide) ?_
  exact r_reti B2 d10_39 rfl (by simp) rfl (by decide) (by decide) (fun vm h P => ⟨_, rfl, Or.inl rfl, P⟩)
abbrev D10_ib2 : DD := (⟨"com/example/polecenie/polecenie/core/Pain001Reader$Element", "isBlock", "()Z"⟩, prog_35_method_10_code, 1, (some .boolean), { frames := 0, cells := 0, slots := 0, locals := 0 })
theorem ef_ib2 (e : Addr) (m : MethodId) : entryFrame m #[(.ref e)] 1 = mkF m 0 #[.val (.ref e)] [] := by first | (simp [entryFrame, mkF, argsToLocals, Value.category]; done) | rfl
theorem k_ib2 {g : GG} (W : GW g) (e na : Addr) (fb fB fT ft : Int32) (x0 : Addr) (x1 : Addr) (H0 : List Ent) {Lt : List SE} {bx0 : Addr} {xx0 : List Int32} (mx0 : (x0, bx0, 0, xx0.map Value.int) ∈ Lt) (hl0 : xx0.length < 2147483648) {bx1 : Addr} {xx1 : List Int32} (mx1 : (x1, bx1, 0, xx1.map Value.int) ∈ Lt) (hl1 : xx1.length < 2147483648) : Ct g D10_ib2 #[.ref e] (o_Pain001Reader_Element e (.ref na) (.int (2 : Int32)) (.int fb) (.int fB) (.int fT) (.int ft) :: (na, .inr ((.object "java/lang/String"), "[Ljava/lang/String;", [(.ref x0), (.ref x1), .null, .null, .null, .null, .null, .null, .null, .null, .null, .null, .null, .null, .null, .null])) :: H0) Lt (fun v vm h => ∃ z : Int32, v = some (.int z) ∧ (z = 0 ∨ z = 1) ∧ Hp g vm h (o_Pain001Reader_Element e (.ref na) (.int (2 : Int32)) (.int fb) (.int fB) (.int fT) (.int ft) :: (na, .inr ((.object "java/lang/String"), "[Ljava/lang/String;", [(.ref x0), (.ref x1), .null, .null, .null, .null, .null, .null, .null, .null, .null, .null, .null, .null, .null, .null])) :: H0) Lt) := by
  refine CtW.body W (by decide +kernel) (ef_ib2 e) ?_
  intro M T B
  refine p_aloadN B d10_0 (pc' := 1) rfl rfl rfl ?_
  refine r_get B d10_1 (pc' := 4) rfl (host := "") (Or.inl (W56 B.gw)) Via.refl (v := (.int (2 : Int32))) (fO (i := 0) (j := 1) rfl rfl) ?_
  intro T1 B2
  refine p_iconst B2 d10_4 (pc' := 5) rfl (v := (3 : Int32)) (by decide) ?_
  refine b_icT B2 d10_5 (pc' := 38) (show ¬ (2 : Int32) = (3 : Int32) from by decide) (by decide) (by decide) ?_
  refine p_iconst B2 d10_38 (pc' := 39) rfl (v := (0 : Int32)) (by decide) ?_
  exact r_reti B2 d10_39 rfl (by simp) rfl (by decide) (by decide) (fun vm h P => ⟨_, rfl, Or.inl rfl, P⟩)
abbrev D10_ib3 : DD := (⟨"com/example/polecenie/polecenie/core/Pain001Reader$Element", "isBlock", "()Z"⟩, prog_35_method_10_code, 1, (some .boolean), { frames := 3, cells := 7, slots := 135, locals := 42 })
theorem ef_ib3 (e : Addr) (m : MethodId) : entryFrame m #[(.ref e)] 1 = mkF m 0 #[.val (.ref e)] [] := by first | (simp [entryFrame, mkF, argsToLocals, Value.category]; done) | rfl
theorem k_ib3 {g : GG} (W : GW g) (e na : Addr) (fb fB fT ft : Int32) (x0 : Addr) (x1 : Addr) (x2 : Addr) (H0 : List Ent) {Lt : List SE} {bx0 : Addr} {xx0 : List Int32} (mx0 : (x0, bx0, 0, xx0.map Value.int) ∈ Lt) (hl0 : xx0.length < 2147483648) {bx1 : Addr} {xx1 : List Int32} (mx1 : (x1, bx1, 0, xx1.map Value.int) ∈ Lt) (hl1 : xx1.length < 2147483648) {bx2 : Addr} {xx2 : List Int32} (mx2 : (x2, bx2, 0, xx2.map Value.int) ∈ Lt) (hl2 : xx2.length < 2147483648) : Ct g D10_ib3 #[.ref e] (o_Pain001Reader_Element e (.ref na) (.int (3 : Int32)) (.int fb) (.int fB) (.int fT) (.int ft) :: (na, .inr ((.object "java/lang/String"), "[Ljava/lang/String;", [(.ref x0), (.ref x1), (.ref x2), .null, .null, .null, .null, .null, .null, .null, .null, .null, .null, .null, .null, .null])) :: H0) Lt (fun v vm h => ∃ z : Int32, v = some (.int z) ∧ (z = 0 ∨ z = 1) ∧ Hp g vm h (o_Pain001Reader_Element e (.ref na) (.int (3 : Int32)) (.int fb) (.int fB) (.int fT) (.int ft) :: (na, .inr ((.object "java/lang/String"), "[Ljava/lang/String;", [(.ref x0), (.ref x1), (.ref x2), .null, .null, .null, .null, .null, .null, .null, .null, .null, .null, .null, .null, .null])) :: H0) Lt) := by
  refine CtW.body W (by decide +kernel) (ef_ib3 e) ?_
  intro M T B
  refine p_aloadN B d10_0 (pc' := 1) rfl rfl rfl ?_
  refine r_get B d10_1 (pc' := 4) rfl (host := "") (Or.inl (W56 B.gw)) Via.refl (v := (.int (3 : Int32))) (fO (i := 0) (j := 1) rfl rfl) ?_
  intro T1 B2
  refine p_iconst B2 d10_4 (pc' := 5) rfl (v := (3 : Int32)) (by decide) ?_
  refine b_icF B2 d10_5 (pc' := 8) rfl (show (3 : Int32) = (3 : Int32) from by decide) ?_
  refine p_aloadN B2 d10_8 (pc' := 9) rfl rfl rfl ?_
  refine p_iconst B2 d10_9 (pc' := 10) rfl (v := (3 : Int32)) (by decide) ?_
  refine r_newr B2 d10_10 (pc' := 13) rfl (W47 B2.gw) (W48 B2.gw) (by decide) (nn := 3) (by decide) (cap := 3) (by decide) (by decide) (cs' := 1) rfl (ss' := 3) rfl (by decide) (by decide) (ad := "[Ljava/lang/String;") (by decide) (vs := [.null, .null, .null]) rfl ?_
  intro T3 a5 B4
  refine p_dup B4 d10_13 (pc' := 14) rfl rfl ?_
  refine p_iconst B4 d10_14 (pc' := 15) rfl (v := (0 : Int32)) (by decide) ?_
  refine r_ldc B4 d10_15 (pc' := 17) rfl (W78 B4.gw) (strW B4.gw) (inEL B4.gw (by decide)) (bs := [(.int (68 : Int32)), (.int (111 : Int32)), (.int (99 : Int32)), (.int (117 : Int32)), (.int (109 : Int32)), (.int (101 : Int32)), (.int (110 : Int32)), (.int (116 : Int32))]) ⟨by decide, by decide⟩ (z := (8 : Int32)) (by decide) (by decide) (n := 32) (by decide) (by decide) (cs' := 3) rfl (ss' := 39) rfl (by decide) (by decide) ?_
  intro T6 a8 b9 B7
  refine r_aastore B7 d10_17 (pc' := 18) rfl (i := 0) rfl (by decide) (k := 0) (by decide) (by simp) (Or.inr ⟨_, rfl, (fun vm h E P => Ins.self ((sE (List.mem_of_getElem? (i := 0) rfl)) vm h E P))⟩) (H' := ((a5, .inr ((.object "java/lang/String"), "[Ljava/lang/String;", [(.ref a8), .null, .null])) :: o_Pain001Reader_Element e (.ref na) (.int (3 : Int32)) (.int fb) (.int fB) (.int fT) (.int ft) :: (na, .inr ((.object "java/lang/String"), "[Ljava/lang/String;", [(.ref x0), (.ref x1), (.ref x2), .null, .null, .null, .null, .null, .null, .null, .null, .null, .null, .null, .null, .null])) :: H0)) rfl ?_
  intro T10 B11
  refine p_dup B11 d10_18 (pc' := 19) rfl rfl ?_
  refine p_iconst B11 d10_19 (pc' := 20) rfl (v := (1 : Int32)) (by decide) ?_
  refine r_ldc B11 d10_20 (pc' := 22) rfl (W79 B11.gw) (strW B11.gw) (inEL B11.gw (by decide)) (bs := [(.int (67 : Int32)), (.int (115 : Int32)), (.int (116 : Int32)), (.int (109 : Int32)), (.int (114 : Int32)), (.int (67 : Int32)), (.int (100 : Int32)), (.int (116 : Int32)), (.int (84 : Int32)), (.int (114 : Int32)), (.int (102 : Int32)), (.int (73 : Int32)), (.int (110 : Int32)), (.int (105 : Int32)), (.int (116 : Int32)), (.int (110 : Int32))]) ⟨by decide, by decide⟩ (z := (16 : Int32)) (by decide) (by decide) (n := 64) (by decide) (by decide) (cs' := 5) rfl (ss' := 107) rfl (by decide) (by decide) ?_
  intro T12 a14 b15 B13
  refine r_aastore B13 d10_22 (pc' := 23) rfl (i := 0) rfl (by decide) (k := 1) (by decide) (by simp) (Or.inr ⟨_, rfl, (fun vm h E P => Ins.self ((sE (List.mem_of_getElem? (i := 0) rfl)) vm h E P))⟩) (H' := ((a5, .inr ((.object "java/lang/String"), "[Ljava/lang/String;", [(.ref a8), (.ref a14), .null])) :: o_Pain001Reader_Element e (.ref na) (.int (3 : Int32)) (.int fb) (.int fB) (.int fT) (.int ft) :: (na, .inr ((.object "java/lang/String"), "[Ljava/lang/String;", [(.ref x0), (.ref x1), (.ref x2), .null, .null, .null, .null, .null, .null, .null, .null, .null, .null, .null, .null, .null])) :: H0)) rfl ?_
  intro T16 B17
  refine p_dup B17 d10_23 (pc' := 24) rfl rfl ?_
  refine p_iconst B17 d10_24 (pc' := 25) rfl (v := (2 : Int32)) (by decide) ?_
  refine r_ldc B17 d10_25 (pc' := 27) rfl (W80 B17.gw) (strW B17.gw) (inEL B17.gw (by decide)) (bs := [(.int (80 : Int32)), (.int (109 : Int32)), (.int (116 : Int32)), (.int (73 : Int32)), (.int (110 : Int32)), (.int (102 : Int32))]) ⟨by decide, by decide⟩ (z := (6 : Int32)) (by decide) (by decide) (n := 24) (by decide) (by decide) (cs' := 7) rfl (ss' := 135) rfl (by decide) (by decide) ?_
  intro T18 a20 b21 B19
  refine r_aastore B19 d10_27 (pc' := 28) rfl (i := 0) rfl (by decide) (k := 2) (by decide) (by simp) (Or.inr ⟨_, rfl, (fun vm h E P => Ins.self ((sE (List.mem_of_getElem? (i := 0) rfl)) vm h E P))⟩) (H' := ((a5, .inr ((.object "java/lang/String"), "[Ljava/lang/String;", [(.ref a8), (.ref a14), (.ref a20)])) :: o_Pain001Reader_Element e (.ref na) (.int (3 : Int32)) (.int fb) (.int fB) (.int fT) (.int ft) :: (na, .inr ((.object "java/lang/String"), "[Ljava/lang/String;", [(.ref x0), (.ref x1), (.ref x2), .null, .null, .null, .null, .null, .null, .null, .null, .null, .null, .null, .null, .null])) :: H0)) rfl ?_
  intro T22 B23
  have B24 : RH g D10_ib3 M T22 (o_Pain001Reader_Element e (.ref na) (.int (3 : Int32)) (.int fb) (.int fB) (.int fT) (.int ft) :: (a5, .inr ((.object "java/lang/String"), "[Ljava/lang/String;", [(.ref a8), (.ref a14), (.ref a20)])) :: (na, .inr ((.object "java/lang/String"), "[Ljava/lang/String;", [(.ref x0), (.ref x1), (.ref x2), .null, .null, .null, .null, .null, .null, .null, .null, .null, .null, .null, .null, .null])) :: H0) ((a20, b21, 0, [(.int (80 : Int32)), (.int (109 : Int32)), (.int (116 : Int32)), (.int (73 : Int32)), (.int (110 : Int32)), (.int (102 : Int32))]) :: (a14, b15, 0, [(.int (67 : Int32)), (.int (115 : Int32)), (.int (116 : Int32)), (.int (109 : Int32)), (.int (114 : Int32)), (.int (67 : Int32)), (.int (100 : Int32)), (.int (116 : Int32)), (.int (84 : Int32)), (.int (114 : Int32)), (.int (102 : Int32)), (.int (73 : Int32)), (.int (110 : Int32)), (.int (105 : Int32)), (.int (116 : Int32)), (.int (110 : Int32))]) :: (a8, b9, 0, [(.int (68 : Int32)), (.int (111 : Int32)), (.int (99 : Int32)), (.int (117 : Int32)), (.int (109 : Int32)), (.int (101 : Int32)), (.int (110 : Int32)), (.int (116 : Int32))]) :: Lt) 7 135 := B23.front (i := 1) rfl rfl
  have B25 : RH g D10_ib3 M T22 ((a5, .inr ((.object "java/lang/String"), "[Ljava/lang/String;", [(.ref a8), (.ref a14), (.ref a20)])) :: o_Pain001Reader_Element e (.ref na) (.int (3 : Int32)) (.int fb) (.int fB) (.int fT) (.int ft) :: (na, .inr ((.object "java/lang/String"), "[Ljava/lang/String;", [(.ref x0), (.ref x1), (.ref x2), .null, .null, .null, .null, .null, .null, .null, .null, .null, .null, .null, .null, .null])) :: H0) ((a20, b21, 0, [(.int (80 : Int32)), (.int (109 : Int32)), (.int (116 : Int32)), (.int (73 : Int32)), (.int (110 : Int32)), (.int (102 : Int32))]) :: (a14, b15, 0, [(.int (67 : Int32)), (.int (115 : Int32)), (.int (116 : Int32)), (.int (109 : Int32)), (.int (114 : Int32)), (.int (67 : Int32)), (.int (100 : Int32)), (.int (116 : Int32)), (.int (84 : Int32)), (.int (114 : Int32)), (.int (102 : Int32)), (.int (73 : Int32)), (.int (110 : Int32)), (.int (105 : Int32)), (.int (116 : Int32)), (.int (110 : Int32))]) :: (a8, b9, 0, [(.int (68 : Int32)), (.int (111 : Int32)), (.int (99 : Int32)), (.int (117 : Int32)), (.int (109 : Int32)), (.int (101 : Int32)), (.int (110 : Int32)), (.int (116 : Int32))]) :: Lt) 7 135 := B24.front (i := 1) rfl rfl
  refine r_virtual (D' := D14_is3_3) B25 d10_28 (pc' := 31) rfl (W81 B25.gw) (W82 B25.gw) (W84 B25.gw) (fun vm0 hZ => notFace_of_selects (args := #[]) (mvT hZ (W84 B25.gw))) (W83 B25.gw) (W42 B25.gw) (W85 B25.gw) (by decide) (fE (i := 1) rfl) (k_is3_3 W e a5 na fb fB fT ft x0 x1 x2 a8 a14 a20 H0 (List.mem_cons_of_mem _ (List.mem_cons_of_mem _ (List.mem_cons_of_mem _ mx0))) hl0 (List.mem_cons_of_mem _ (List.mem_cons_of_mem _ (List.mem_cons_of_mem _ mx1))) hl1 (List.mem_cons_of_mem _ (List.mem_cons_of_mem _ (List.mem_cons_of_mem _ mx2))) hl2 (List.mem_of_getElem? (i := 2) rfl) (List.mem_of_getElem? (i := 1) rfl) (List.mem_of_getElem? (i := 0) rfl)) (argsL := [(.ref a5)]) (rest := []) rfl pd6 rfl rfl rfl (W := 0) rfl (by decide) (by decide) (cs' := 7) rfl (ss' := 135) rfl (by decide) (by decide) ?_
  intro T26 v27 B28
  replace B28 := Rn.ex B28
  obtain ⟨z, B28⟩ := B28
  replace B28 := Rn.and B28
  obtain ⟨rfl, B28⟩ := B28
  replace B28 := Rn.and B28
  obtain ⟨hz29, B28⟩ := B28
  show Fn g D10_ib3 M _ (T26.setTop (mkF M.m 31 #[.val (.ref e)] [(.int z)]))
  rcases hz29 with rfl | rfl
  · refine b_ifT B28 d10_31 (pc' := 38) (show (0 : Int32) = (0 : Int32) from by decide) (by decide) (by decide) ?_
    refine p_iconst B28 d10_38 (pc' := 39) rfl (v := (0 : Int32)) (by decide) ?_
    have B30 : RH g D10_ib3 M T26 (o_Pain001Reader_Element e (.ref na) (.int (3 : Int32)) (.int fb) (.int fB) (.int fT) (.int ft) :: (na, .inr ((.object "java/lang/String"), "[Ljava/lang/String;", [(.ref x0), (.ref x1), (.ref x2), .null, .null, .null, .null, .null, .null, .null, .null, .null, .null, .null, .null, .null])) :: H0) ((a20, b21, 0, [(.int (80 : Int32)), (.int (109 : Int32)), (.int (116 : Int32)), (.int (73 : Int32)), (.int (110 : Int32)), (.int (102 : Int32))]) :: (a14, b15, 0, [(.int (67 : Int32)), (.int (115 : Int32)), (.int (116 : Int32)), (.int (109 : Int32)), (.int (114 : Int32)), (.int (67 : Int32)), (.int (100 : Int32)), (.int (116 : Int32)), (.int (84 : Int32)), (.int (114 : Int32)), (.int (102 : Int32)), (.int (73 : Int32)), (.int (110 : Int32)), (.int (105 : Int32)), (.int (116 : Int32)), (.int (110 : Int32))]) :: (a8, b9, 0, [(.int (68 : Int32)), (.int (111 : Int32)), (.int (99 : Int32)), (.int (117 : Int32)), (.int (109 : Int32)), (.int (101 : Int32)), (.int (110 : Int32)), (.int (116 : Int32))]) :: Lt) 7 135 := B28.del 0 rfl
    exact r_reti B30 d10_39 rfl (by simp) rfl (by decide) (by decide) (fun vm h P => ⟨_, rfl, Or.inl rfl, (P.lsub tl3)⟩)
  · refine b_ifF B28 d10_31 (pc' := 34) rfl (show ¬ (1 : Int32) = (0 : Int32) from by decide) ?_
    refine p_iconst B28 d10_34 (pc' := 35) rfl (v := (1 : Int32)) (by decide) ?_
    refine b_goto B28 d10_35 (pc' := 39) (by decide) (by decide) ?_
    have B31 : RH g D10_ib3 M T26 (o_Pain001Reader_Element e (.ref na) (.int (3 : Int32)) (.int fb) (.int fB) (.int fT) (.int ft) :: (na, .inr ((.object "java/lang/String"), "[Ljava/lang/String;", [(.ref x0), (.ref x1), (.ref x2), .null, .null, .null, .null, .null, .null, .null, .null, .null, .null, .null, .null, .null])) :: H0) ((a20, b21, 0, [(.int (80 : Int32)), (.int (109 : Int32)), (.int (116 : Int32)), (.int (73 : Int32)), (.int (110 : Int32)), (.int (102 : Int32))]) :: (a14, b15, 0, [(.int (67 : Int32)), (.int (115 : Int32)), (.int (116 : Int32)), (.int (109 : Int32)), (.int (114 : Int32)), (.int (67 : Int32)), (.int (100 : Int32)), (.int (116 : Int32)), (.int (84 : Int32)), (.int (114 : Int32)), (.int (102 : Int32)), (.int (73 : Int32)), (.int (110 : Int32)), (.int (105 : Int32)), (.int (116 : Int32)), (.int (110 : Int32))]) :: (a8, b9, 0, [(.int (68 : Int32)), (.int (111 : Int32)), (.int (99 : Int32)), (.int (117 : Int32)), (.int (109 : Int32)), (.int (101 : Int32)), (.int (110 : Int32)), (.int (116 : Int32))]) :: Lt) 7 135 := B28.del 0 rfl
    exact r_reti B31 d10_39 rfl (by simp) rfl (by decide) (by decide) (fun vm h P => ⟨_, rfl, Or.inr rfl, (P.lsub tl3)⟩)
abbrev D10_ib4 : DD := (⟨"com/example/polecenie/polecenie/core/Pain001Reader$Element", "isBlock", "()Z"⟩, prog_35_method_10_code, 1, (some .boolean), { frames := 0, cells := 0, slots := 0, locals := 0 })
theorem ef_ib4 (e : Addr) (m : MethodId) : entryFrame m #[(.ref e)] 1 = mkF m 0 #[.val (.ref e)] [] := by first | (simp [entryFrame, mkF, argsToLocals, Value.category]; done) | rfl
theorem k_ib4 {g : GG} (W : GW g) (e na : Addr) (fb fB fT ft : Int32) (x0 : Addr) (x1 : Addr) (x2 : Addr) (x3 : Addr) (H0 : List Ent) {Lt : List SE} {bx0 : Addr} {xx0 : List Int32} (mx0 : (x0, bx0, 0, xx0.map Value.int) ∈ Lt) (hl0 : xx0.length < 2147483648) {bx1 : Addr} {xx1 : List Int32} (mx1 : (x1, bx1, 0, xx1.map Value.int) ∈ Lt) (hl1 : xx1.length < 2147483648) {bx2 : Addr} {xx2 : List Int32} (mx2 : (x2, bx2, 0, xx2.map Value.int) ∈ Lt) (hl2 : xx2.length < 2147483648) {bx3 : Addr} {xx3 : List Int32} (mx3 : (x3, bx3, 0, xx3.map Value.int) ∈ Lt) (hl3 : xx3.length < 2147483648) : Ct g D10_ib4 #[.ref e] (o_Pain001Reader_Element e (.ref na) (.int (4 : Int32)) (.int fb) (.int fB) (.int fT) (.int ft) :: (na, .inr ((.object "java/lang/String"), "[Ljava/lang/String;", [(.ref x0), (.ref x1), (.ref x2), (.ref x3), .null, .null, .null, .null, .null, .null, .null, .null, .null, .null, .null, .null])) :: H0) Lt (fun v vm h => ∃ z : Int32, v = some (.int z) ∧ (z = 0 ∨ z = 1) ∧ Hp g vm h (o_Pain001Reader_Element e (.ref na) (.int (4 : Int32)) (.int fb) (.int fB) (.int fT) (.int ft) :: (na, .inr ((.object "java/lang/String"), "[Ljava/lang/String;", [(.ref x0), (.ref x1), (.ref x2), (.ref x3), .null, .null, .null, .null, .null, .null, .null, .null, .null, .null, .null, .null])) :: H0) Lt) := by
  refine CtW.body W (by decide +kernel) (ef_ib4 e) ?_
  intro M T B
  refine p_aloadN B d10_0 (pc' := 1) rfl rfl rfl ?_
  refine r_get B d10_1 (pc' := 4) rfl (host := "") (Or.inl (W56 B.gw)) Via.refl (v := (.int (4 : Int32))) (fO (i := 0) (j := 1) rfl rfl) ?_
  intro T1 B2
  refine p_iconst B2 d10_4 (pc' := 5) rfl (v := (3 : Int32)) (by decide) ?_
  refine b_icT B2 d10_5 (pc' := 38) (show ¬ (4 : Int32) = (3 : Int32) from by decide) (by decide) (by decide) ?_
  refine p_iconst B2 d10_38 (pc' := 39) rfl (v := (0 : Int32)) (by decide) ?_
  exact r_reti B2 d10_39 rfl (by simp) rfl (by decide) (by decide) (fun vm h P => ⟨_, rfl, Or.inl rfl, P⟩)
abbrev D11_it1 : DD := (⟨"com/example/polecenie/polecenie/core/Pain001Reader$Element", "isTransaction", "()Z"⟩, prog_35_method_11_code, 1, (some .boolean), { frames := 0, cells := 0, slots := 0, locals := 0 })
theorem ef_it1 (e : Addr) (m : MethodId) : entryFrame m #[(.ref e)] 1 = mkF m 0 #[.val (.ref e)] [] := by first | (simp [entryFrame, mkF, argsToLocals, Value.category]; done) | rfl
theorem k_it1 {g : GG} (W : GW g) (e na : Addr) (fb fB fT ft : Int32) (x0 : Addr) (H0 : List Ent) {Lt : List SE} {bx0 : Addr} {xx0 : List Int32} (mx0 : (x0, bx0, 0, xx0.map Value.int) ∈ Lt) (hl0 : xx0.length < 2147483648) : Ct g D11_it1 #[.ref e] (o_Pain001Reader_Element e (.ref na) (.int (1 : Int32)) (.int fb) (.int fB) (.int fT) (.int ft) :: (na, .inr ((.object "java/lang/String"), "[Ljava/lang/String;", [(.ref x0), .null, .null, .null, .null, .null, .null, .null, .null, .null, .null, .null, .null, .null, .null, .null])) :: H0) Lt (fun v vm h => ∃ z : Int32, v = some (.int z) ∧ (z = 0 ∨ z = 1) ∧ Hp g vm h (o_Pain001Reader_Element e (.ref na) (.int (1 : Int32)) (.int fb) (.int fB) (.int fT) (.int ft) :: (na, .inr ((.object "java/lang/String"), "[Ljava/lang/String;", [(.ref x0), .null, .null, .null, .null, .null, .null, .null, .null, .null, .null, .null, .null, .null, .null, .null])) :: H0) Lt) := by
  refine CtW.body W (by decide +kernel) (ef_it1 e) ?_
  intro M T B
  refine p_aloadN B d11_0 (pc' := 1) rfl rfl rfl ?_
  refine r_get B d11_1 (pc' := 4) rfl (host := "") (Or.inl (W56 B.gw)) Via.refl (v := (.int (1 : Int32))) (fO (i := 0) (j := 1) rfl rfl) ?_
  intro T1 B2
  refine p_iconst B2 d11_4 (pc' := 5) rfl (v := (4 : Int32)) (by decide) ?_
  refine b_icT B2 d11_5 (pc' := 35) (show ¬ (1 : Int32) = (4 : Int32) from by decide) (by decide) (by decide) ?_
  refine p_iconst B2 d11_35 (pc' := 36) rfl (v := (0 : Int32)) (by decide) ?_
  exact r_reti B2 d11_36 rfl (by simp) rfl (by decide) (by decide) (fun vm h P => ⟨_, rfl, Or.inl rfl, P⟩)
abbrev D11_it2 : DD := (⟨"com/example/polecenie/polecenie/core/Pain001Reader$Element", "isTransaction", "()Z"⟩, prog_35_method_11_code, 1, (some .boolean), { frames := 0, cells := 0, slots := 0, locals := 0 })
theorem ef_it2 (e : Addr) (m : MethodId) : entryFrame m #[(.ref e)] 1 = mkF m 0 #[.val (.ref e)] [] := by first | (simp [entryFrame, mkF, argsToLocals, Value.category]; done) | rfl
theorem k_it2 {g : GG} (W : GW g) (e na : Addr) (fb fB fT ft : Int32) (x0 : Addr) (x1 : Addr) (H0 : List Ent) {Lt : List SE} {bx0 : Addr} {xx0 : List Int32} (mx0 : (x0, bx0, 0, xx0.map Value.int) ∈ Lt) (hl0 : xx0.length < 2147483648) {bx1 : Addr} {xx1 : List Int32} (mx1 : (x1, bx1, 0, xx1.map Value.int) ∈ Lt) (hl1 : xx1.length < 2147483648) : Ct g D11_it2 #[.ref e] (o_Pain001Reader_Element e (.ref na) (.int (2 : Int32)) (.int fb) (.int fB) (.int fT) (.int ft) :: (na, .inr ((.object "java/lang/String"), "[Ljava/lang/String;", [(.ref x0), (.ref x1), .null, .null, .null, .null, .null, .null, .null, .null, .null, .null, .null, .null, .null, .null])) :: H0) Lt (fun v vm h => ∃ z : Int32, v = some (.int z) ∧ (z = 0 ∨ z = 1) ∧ Hp g vm h (o_Pain001Reader_Element e (.ref na) (.int (2 : Int32)) (.int fb) (.int fB) (.int fT) (.int ft) :: (na, .inr ((.object "java/lang/String"), "[Ljava/lang/String;", [(.ref x0), (.ref x1), .null, .null, .null, .null, .null, .null, .null, .null, .null, .null, .null, .null, .null, .null])) :: H0) Lt) := by
  refine CtW.body W (by decide +kernel) (ef_it2 e) ?_
  intro M T B
  refine p_aloadN B d11_0 (pc' := 1) rfl rfl rfl ?_
  refine r_get B d11_1 (pc' := 4) rfl (host := "") (Or.inl (W56 B.gw)) Via.refl (v := (.int (2 : Int32))) (fO (i := 0) (j := 1) rfl rfl) ?_
  intro T1 B2
  refine p_iconst B2 d11_4 (pc' := 5) rfl (v := (4 : Int32)) (by decide) ?_
  refine b_icT B2 d11_5 (pc' := 35) (show ¬ (2 : Int32) = (4 : Int32) from by decide) (by decide) (by decide) ?_
  refine p_iconst B2 d11_35 (pc' := 36) rfl (v := (0 : Int32)) (by decide) ?_
  exact r_reti B2 d11_36 rfl (by simp) rfl (by decide) (by decide) (fun vm h P => ⟨_, rfl, Or.inl rfl, P⟩)
abbrev D11_it3 : DD := (⟨"com/example/polecenie/polecenie/core/Pain001Reader$Element", "isTransaction", "()Z"⟩, prog_35_method_11_code, 1, (some .boolean), { frames := 0, cells := 0, slots := 0, locals := 0 })
theorem ef_it3 (e : Addr) (m : MethodId) : entryFrame m #[(.ref e)] 1 = mkF m 0 #[.val (.ref e)] [] := by first | (simp [entryFrame, mkF, argsToLocals, Value.category]; done) | rfl
theorem k_it3 {g : GG} (W : GW g) (e na : Addr) (fb fB fT ft : Int32) (x0 : Addr) (x1 : Addr) (x2 : Addr) (H0 : List Ent) {Lt : List SE} {bx0 : Addr} {xx0 : List Int32} (mx0 : (x0, bx0, 0, xx0.map Value.int) ∈ Lt) (hl0 : xx0.length < 2147483648) {bx1 : Addr} {xx1 : List Int32} (mx1 : (x1, bx1, 0, xx1.map Value.int) ∈ Lt) (hl1 : xx1.length < 2147483648) {bx2 : Addr} {xx2 : List Int32} (mx2 : (x2, bx2, 0, xx2.map Value.int) ∈ Lt) (hl2 : xx2.length < 2147483648) : Ct g D11_it3 #[.ref e] (o_Pain001Reader_Element e (.ref na) (.int (3 : Int32)) (.int fb) (.int fB) (.int fT) (.int ft) :: (na, .inr ((.object "java/lang/String"), "[Ljava/lang/String;", [(.ref x0), (.ref x1), (.ref x2), .null, .null, .null, .null, .null, .null, .null, .null, .null, .null, .null, .null, .null])) :: H0) Lt (fun v vm h => ∃ z : Int32, v = some (.int z) ∧ (z = 0 ∨ z = 1) ∧ Hp g vm h (o_Pain001Reader_Element e (.ref na) (.int (3 : Int32)) (.int fb) (.int fB) (.int fT) (.int ft) :: (na, .inr ((.object "java/lang/String"), "[Ljava/lang/String;", [(.ref x0), (.ref x1), (.ref x2), .null, .null, .null, .null, .null, .null, .null, .null, .null, .null, .null, .null, .null])) :: H0) Lt) := by
  refine CtW.body W (by decide +kernel) (ef_it3 e) ?_
  intro M T B
  refine p_aloadN B d11_0 (pc' := 1) rfl rfl rfl ?_
  refine r_get B d11_1 (pc' := 4) rfl (host := "") (Or.inl (W56 B.gw)) Via.refl (v := (.int (3 : Int32))) (fO (i := 0) (j := 1) rfl rfl) ?_
  intro T1 B2
  refine p_iconst B2 d11_4 (pc' := 5) rfl (v := (4 : Int32)) (by decide) ?_
  refine b_icT B2 d11_5 (pc' := 35) (show ¬ (3 : Int32) = (4 : Int32) from by decide) (by decide) (by decide) ?_
  refine p_iconst B2 d11_35 (pc' := 36) rfl (v := (0 : Int32)) (by decide) ?_
  exact r_reti B2 d11_36 rfl (by simp) rfl (by decide) (by decide) (fun vm h P => ⟨_, rfl, Or.inl rfl, P⟩)
abbrev D11_it4 : DD := (⟨"com/example/polecenie/polecenie/core/Pain001Reader$Element", "isTransaction", "()Z"⟩, prog_35_method_11_code, 1, (some .boolean), { frames := 3, cells := 3, slots := 49, locals := 42 })
theorem ef_it4 (e : Addr) (m : MethodId) : entryFrame m #[(.ref e)] 1 = mkF m 0 #[.val (.ref e)] [] := by first | (simp [entryFrame, mkF, argsToLocals, Value.category]; done) | rfl
theorem k_it4 {g : GG} (W : GW g) (e na : Addr) (fb fB fT ft : Int32) (x0 : Addr) (x1 : Addr) (x2 : Addr) (x3 : Addr) (H0 : List Ent) {Lt : List SE} {bx0 : Addr} {xx0 : List Int32} (mx0 : (x0, bx0, 0, xx0.map Value.int) ∈ Lt) (hl0 : xx0.length < 2147483648) {bx1 : Addr} {xx1 : List Int32} (mx1 : (x1, bx1, 0, xx1.map Value.int) ∈ Lt) (hl1 : xx1.length < 2147483648) {bx2 : Addr} {xx2 : List Int32} (mx2 : (x2, bx2, 0, xx2.map Value.int) ∈ Lt) (hl2 : xx2.length < 2147483648) {bx3 : Addr} {xx3 : List Int32} (mx3 : (x3, bx3, 0, xx3.map Value.int) ∈ Lt) (hl3 : xx3.length < 2147483648) : Ct g D11_it4 #[.ref e] (o_Pain001Reader_Element e (.ref na) (.int (4 : Int32)) (.int fb) (.int fB) (.int fT) (.int ft) :: (na, .inr ((.object "java/lang/String"), "[Ljava/lang/String;", [(.ref x0), (.ref x1), (.ref x2), (.ref x3), .null, .null, .null, .null, .null, .null, .null, .null, .null, .null, .null, .null])) :: H0) Lt (fun v vm h => ∃ z : Int32, v = some (.int z) ∧ (z = 0 ∨ z = 1) ∧ Hp g vm h (o_Pain001Reader_Element e (.ref na) (.int (4 : Int32)) (.int fb) (.int fB) (.int fT) (.int ft) :: (na, .inr ((.object "java/lang/String"), "[Ljava/lang/String;", [(.ref x0), (.ref x1), (.ref x2), (.ref x3), .null, .null, .null, .null, .null, .null, .null, .null, .null, .null, .null, .null])) :: H0) Lt) := by
  refine CtW.body W (by decide +kernel) (ef_it4 e) ?_
  intro M T B
  refine p_aloadN B d11_0 (pc' := 1) rfl rfl rfl ?_
  refine r_get B d11_1 (pc' := 4) rfl (host := "") (Or.inl (W56 B.gw)) Via.refl (v := (.int (4 : Int32))) (fO (i := 0) (j := 1) rfl rfl) ?_
  intro T1 B2
  refine p_iconst B2 d11_4 (pc' := 5) rfl (v := (4 : Int32)) (by decide) ?_
  refine b_icF B2 d11_5 (pc' := 8) rfl (show (4 : Int32) = (4 : Int32) from by decide) ?_
  refine p_aloadN B2 d11_8 (pc' := 9) rfl rfl rfl ?_
  refine r_get B2 d11_9 (pc' := 12) rfl (host := "") (Or.inl (W92 B2.gw)) Via.refl (v := (.int fb)) (fO (i := 0) (j := 2) rfl rfl) ?_
  intro T3 B4
  by_cases h5 : fb = (0 : Int32)
  · refine b_ifT B4 d11_12 (pc' := 35) h5 (by decide) (by decide) ?_
    refine p_iconst B4 d11_35 (pc' := 36) rfl (v := (0 : Int32)) (by decide) ?_
    exact r_reti B4 d11_36 rfl (by simp) rfl (by decide) (by decide) (fun vm h P => ⟨_, rfl, Or.inl rfl, P⟩)
  · refine b_ifF B4 d11_12 (pc' := 15) rfl h5 ?_
    refine p_aloadN B4 d11_15 (pc' := 16) rfl rfl rfl ?_
    refine p_iconst B4 d11_16 (pc' := 17) rfl (v := (1 : Int32)) (by decide) ?_
    refine r_newr B4 d11_17 (pc' := 20) rfl (W47 B4.gw) (W48 B4.gw) (by decide) (nn := 1) (by decide) (cap := 1) (by decide) (by decide) (cs' := 1) rfl (ss' := 1) rfl (by decide) (by decide) (ad := "[Ljava/lang/String;") (by decide) (vs := [.null]) rfl ?_
    intro T6 a8 B7
    refine p_dup B7 d11_20 (pc' := 21) rfl rfl ?_
    refine p_iconst B7 d11_21 (pc' := 22) rfl (v := (0 : Int32)) (by decide) ?_
    refine r_ldc B7 d11_22 (pc' := 24) rfl (W103 B7.gw) (strW B7.gw) (inEL B7.gw (by decide)) (bs := [(.int (67 : Int32)), (.int (100 : Int32)), (.int (116 : Int32)), (.int (84 : Int32)), (.int (114 : Int32)), (.int (102 : Int32)), (.int (84 : Int32)), (.int (120 : Int32)), (.int (73 : Int32)), (.int (110 : Int32)), (.int (102 : Int32))]) ⟨by decide, by decide⟩ (z := (11 : Int32)) (by decide) (by decide) (n := 44) (by decide) (by decide) (cs' := 3) rfl (ss' := 49) rfl (by decide) (by decide) ?_
    intro T9 a11 b12 B10
    refine r_aastore B10 d11_24 (pc' := 25) rfl (i := 0) rfl (by decide) (k := 0) (by decide) (by simp) (Or.inr ⟨_, rfl, (fun vm h E P => Ins.self ((sE (List.mem_of_getElem? (i := 0) rfl)) vm h E P))⟩) (H' := ((a8, .inr ((.object "java/lang/String"), "[Ljava/lang/String;", [(.ref a11)])) :: o_Pain001Reader_Element e (.ref na) (.int (4 : Int32)) (.int fb) (.int fB) (.int fT) (.int ft) :: (na, .inr ((.object "java/lang/String"), "[Ljava/lang/String;", [(.ref x0), (.ref x1), (.ref x2), (.ref x3), .null, .null, .null, .null, .null, .null, .null, .null, .null, .null, .null, .null])) :: H0)) rfl ?_
    intro T13 B14
    have B15 : RH g D11_it4 M T13 (o_Pain001Reader_Element e (.ref na) (.int (4 : Int32)) (.int fb) (.int fB) (.int fT) (.int ft) :: (a8, .inr ((.object "java/lang/String"), "[Ljava/lang/String;", [(.ref a11)])) :: (na, .inr ((.object "java/lang/String"), "[Ljava/lang/String;", [(.ref x0), (.ref x1), (.ref x2), (.ref x3), .null, .null, .null, .null, .null, .null, .null, .null, .null, .null, .null, .null])) :: H0) ((a11, b12, 0, [(.int (67 : Int32)), (.int (100 : Int32)), (.int (116 : Int32)), (.int (84 : Int32)), (.int (114 : Int32)), (.int (102 : Int32)), (.int (84 : Int32)), (.int (120 : Int32)), (.int (73 : Int32)), (.int (110 : Int32)), (.int (102 : Int32))]) :: Lt) 3 49 := B14.front (i := 1) rfl rfl
    have B16 : RH g D11_it4 M T13 ((a8, .inr ((.object "java/lang/String"), "[Ljava/lang/String;", [(.ref a11)])) :: o_Pain001Reader_Element e (.ref na) (.int (4 : Int32)) (.int fb) (.int fB) (.int fT) (.int ft) :: (na, .inr ((.object "java/lang/String"), "[Ljava/lang/String;", [(.ref x0), (.ref x1), (.ref x2), (.ref x3), .null, .null, .null, .null, .null, .null, .null, .null, .null, .null, .null, .null])) :: H0) ((a11, b12, 0, [(.int (67 : Int32)), (.int (100 : Int32)), (.int (116 : Int32)), (.int (84 : Int32)), (.int (114 : Int32)), (.int (102 : Int32)), (.int (84 : Int32)), (.int (120 : Int32)), (.int (73 : Int32)), (.int (110 : Int32)), (.int (102 : Int32))]) :: Lt) 3 49 := B15.front (i := 1) rfl rfl
    refine r_virtual (D' := D14_is4_1) B16 d11_25 (pc' := 28) rfl (W81 B16.gw) (W82 B16.gw) (W84 B16.gw) (fun vm0 hZ => notFace_of_selects (args := #[]) (mvT hZ (W84 B16.gw))) (W83 B16.gw) (W42 B16.gw) (W85 B16.gw) (by decide) (fE (i := 1) rfl) (k_is4_1 W e a8 na fb fB fT ft x0 x1 x2 x3 a11 H0 (List.mem_cons_of_mem _ mx0) hl0 (List.mem_cons_of_mem _ mx1) hl1 (List.mem_cons_of_mem _ mx2) hl2 (List.mem_cons_of_mem _ mx3) hl3 (List.mem_of_getElem? (i := 0) rfl)) (argsL := [(.ref a8)]) (rest := []) rfl pd6 rfl rfl rfl (W := 0) rfl (by decide) (by decide) (cs' := 3) rfl (ss' := 49) rfl (by decide) (by decide) ?_
    intro T17 v18 B19
    replace B19 := Rn.ex B19
    obtain ⟨z, B19⟩ := B19
    replace B19 := Rn.and B19
    obtain ⟨rfl, B19⟩ := B19
    replace B19 := Rn.and B19
    obtain ⟨hz20, B19⟩ := B19
    show Fn g D11_it4 M _ (T17.setTop (mkF M.m 28 #[.val (.ref e)] [(.int z)]))
    rcases hz20 with rfl | rfl
    · refine b_ifT B19 d11_28 (pc' := 35) (show (0 : Int32) = (0 : Int32) from by decide) (by decide) (by decide) ?_
      refine p_iconst B19 d11_35 (pc' := 36) rfl (v := (0 : Int32)) (by decide) ?_
      have B21 : RH g D11_it4 M T17 (o_Pain001Reader_Element e (.ref na) (.int (4 : Int32)) (.int fb) (.int fB) (.int fT) (.int ft) :: (na, .inr ((.object "java/lang/String"), "[Ljava/lang/String;", [(.ref x0), (.ref x1), (.ref x2), (.ref x3), .null, .null, .null, .null, .null, .null, .null, .null, .null, .null, .null, .null])) :: H0) ((a11, b12, 0, [(.int (67 : Int32)), (.int (100 : Int32)), (.int (116 : Int32)), (.int (84 : Int32)), (.int (114 : Int32)), (.int (102 : Int32)), (.int (84 : Int32)), (.int (120 : Int32)), (.int (73 : Int32)), (.int (110 : Int32)), (.int (102 : Int32))]) :: Lt) 3 49 := B19.del 0 rfl
      exact r_reti B21 d11_36 rfl (by simp) rfl (by decide) (by decide) (fun vm h P => ⟨_, rfl, Or.inl rfl, (P.lsub tl1)⟩)
    · refine b_ifF B19 d11_28 (pc' := 31) rfl (show ¬ (1 : Int32) = (0 : Int32) from by decide) ?_
      refine p_iconst B19 d11_31 (pc' := 32) rfl (v := (1 : Int32)) (by decide) ?_
      refine b_goto B19 d11_32 (pc' := 36) (by decide) (by decide) ?_
      have B22 : RH g D11_it4 M T17 (o_Pain001Reader_Element e (.ref na) (.int (4 : Int32)) (.int fb) (.int fB) (.int fT) (.int ft) :: (na, .inr ((.object "java/lang/String"), "[Ljava/lang/String;", [(.ref x0), (.ref x1), (.ref x2), (.ref x3), .null, .null, .null, .null, .null, .null, .null, .null, .null, .null, .null, .null])) :: H0) ((a11, b12, 0, [(.int (67 : Int32)), (.int (100 : Int32)), (.int (116 : Int32)), (.int (84 : Int32)), (.int (114 : Int32)), (.int (102 : Int32)), (.int (84 : Int32)), (.int (120 : Int32)), (.int (73 : Int32)), (.int (110 : Int32)), (.int (102 : Int32))]) :: Lt) 3 49 := B19.del 0 rfl
      exact r_reti B22 d11_36 rfl (by simp) rfl (by decide) (by decide) (fun vm h P => ⟨_, rfl, Or.inr rfl, (P.lsub tl1)⟩)
abbrev D9_push0 : DD := (⟨"com/example/polecenie/polecenie/core/Pain001Reader$Element", "push", "(Ljava/lang/String;)V"⟩, prog_35_method_12_code, 2, none, { frames := 1, cells := 0, slots := 0, locals := 12 })
theorem ef_push0 (e x0 : Addr) (m : MethodId) : entryFrame m #[(.ref e), (.ref x0)] 2 = mkF m 0 #[.val (.ref e), .val (.ref x0)] [] := by first | (simp [entryFrame, mkF, argsToLocals, Value.category]; done) | rfl
theorem k_push0 {g : GG} (W : GW g) (e na : Addr) (fb fB fT ft : Int32) (x0 : Addr) (H0 : List Ent) {Lt : List SE} {bx0 : Addr} {xx0 : List Int32} (mx0 : (x0, bx0, 0, xx0.map Value.int) ∈ Lt) (hl0 : xx0.length < 2147483648) : Ct g D9_push0 #[(.ref e), (.ref x0)] (o_Pain001Reader_Element e (.ref na) (.int (0 : Int32)) (.int fb) (.int fB) (.int fT) (.int ft) :: (na, .inr ((.object "java/lang/String"), "[Ljava/lang/String;", [.null, .null, .null, .null, .null, .null, .null, .null, .null, .null, .null, .null, .null, .null, .null, .null])) :: H0) Lt (fun v vm h => v = none ∧ ∃ gb gB gT gt : Int32, Hp g vm h (o_Pain001Reader_Element e (.ref na) (.int (1 : Int32)) (.int gb) (.int gB) (.int gT) (.int gt) :: (na, .inr ((.object "java/lang/String"), "[Ljava/lang/String;", [(.ref x0), .null, .null, .null, .null, .null, .null, .null, .null, .null, .null, .null, .null, .null, .null, .null])) :: H0) Lt) := by
  refine CtW.body W (by decide +kernel) (ef_push0 e x0) ?_
  intro M T B
  refine p_aloadN B d9_0 (pc' := 1) rfl rfl rfl ?_
  refine r_get B d9_1 (pc' := 4) rfl (host := "") (Or.inl (W56 B.gw)) Via.refl (v := (.int (0 : Int32))) (fO (i := 0) (j := 1) rfl rfl) ?_
  intro T1 B2
  refine p_aloadN B2 d9_4 (pc' := 5) rfl rfl rfl ?_
  refine r_get B2 d9_5 (pc' := 8) rfl (host := "") (Or.inl (W49 B2.gw)) Via.refl (v := (.ref na)) (fO (i := 0) (j := 0) rfl rfl) ?_
  intro T3 B4
  refine r_alen B4 d9_8 (pc' := 9) rfl (aH (i := 1) rfl) (z := (16 : Int32)) rfl ?_
  refine b_icT B4 d9_9 (pc' := 32) (show ¬ (0 : Int32) = (16 : Int32) from by decide) (by decide) (by decide) ?_
  refine p_aloadN B4 d9_32 (pc' := 33) rfl rfl rfl ?_
  refine r_get B4 d9_33 (pc' := 36) rfl (host := "") (Or.inl (W49 B4.gw)) Via.refl (v := (.ref na)) (fO (i := 0) (j := 0) rfl rfl) ?_
  intro T5 B6
  refine p_aloadN B6 d9_36 (pc' := 37) rfl rfl rfl ?_
  refine p_dup B6 d9_37 (pc' := 38) rfl rfl ?_
  refine r_get B6 d9_38 (pc' := 41) rfl (host := "") (Or.inl (W56 B6.gw)) Via.refl (v := (.int (0 : Int32))) (fO (i := 0) (j := 1) rfl rfl) ?_
  intro T7 B8
  refine p_dupx1 B8 d9_41 (pc' := 42) rfl rfl rfl ?_
  refine p_iconst B8 d9_42 (pc' := 43) rfl (v := (1 : Int32)) (by decide) ?_
  refine p_iadd B8 d9_43 (pc' := 44) rfl (z := (1 : Int32)) (by decide) ?_
  refine r_put B8 d9_44 (pc' := 47) rfl (host := "") (Or.inl (W56 B8.gw)) Via.refl (i := 0) (j := 1) rfl rfl (Or.inl (W57 B8.gw)) (W41 B8.gw) (ty := .int) (by decide) rfl rfl (H' := (o_Pain001Reader_Element e (.ref na) (.int (1 : Int32)) (.int fb) (.int fB) (.int fT) (.int ft) :: (na, .inr ((.object "java/lang/String"), "[Ljava/lang/String;", [.null, .null, .null, .null, .null, .null, .null, .null, .null, .null, .null, .null, .null, .null, .null, .null])) :: H0)) rfl ?_
  intro T9 B10
  refine p_aloadN B10 d9_47 (pc' := 48) rfl rfl rfl ?_
  refine r_aastore B10 d9_48 (pc' := 49) rfl (i := 1) rfl (by decide) (k := 0) (by decide) (by simp) (Or.inr ⟨_, rfl, (fun vm h E P => Ins.self ((sE mx0) vm h E P))⟩) (H' := (o_Pain001Reader_Element e (.ref na) (.int (1 : Int32)) (.int fb) (.int fB) (.int fT) (.int ft) :: (na, .inr ((.object "java/lang/String"), "[Ljava/lang/String;", [(.ref x0), .null, .null, .null, .null, .null, .null, .null, .null, .null, .null, .null, .null, .null, .null, .null])) :: H0)) rfl ?_
  intro T11 B12
  refine p_aloadN B12 d9_49 (pc' := 50) rfl rfl rfl ?_
  have B13 : RH g D9_push0 M T11 ((na, .inr ((.object "java/lang/String"), "[Ljava/lang/String;", [(.ref x0), .null, .null, .null, .null, .null, .null, .null, .null, .null, .null, .null, .null, .null, .null, .null])) :: o_Pain001Reader_Element e (.ref na) (.int (1 : Int32)) (.int fb) (.int fB) (.int fT) (.int ft) :: H0) (Lt) 0 0 := B12.front (i := 1) rfl rfl
  have B14 : RH g D9_push0 M T11 (o_Pain001Reader_Element e (.ref na) (.int (1 : Int32)) (.int fb) (.int fB) (.int fT) (.int ft) :: (na, .inr ((.object "java/lang/String"), "[Ljava/lang/String;", [(.ref x0), .null, .null, .null, .null, .null, .null, .null, .null, .null, .null, .null, .null, .null, .null, .null])) :: H0) (Lt) 0 0 := B13.front (i := 1) rfl rfl
  refine r_virtual (D' := D10_ib1) B14 d9_50 (pc' := 53) rfl (W58 B14.gw) (W59 B14.gw) (W61 B14.gw) (fun vm0 hZ => notFace_of_selects (args := #[]) (mvT hZ (W61 B14.gw))) (W60 B14.gw) (W42 B14.gw) (W62 B14.gw) (by decide) (fE (i := 0) rfl) (k_ib1 W e na fb fB fT ft x0 H0 mx0 hl0) (argsL := []) (rest := []) rfl pd7 rfl rfl rfl (W := 0) rfl (by decide) (by decide) (cs' := 0) rfl (ss' := 0) rfl (by decide) (by decide) ?_
  intro T15 v16 B17
  replace B17 := Rn.ex B17
  obtain ⟨z, B17⟩ := B17
  replace B17 := Rn.and B17
  obtain ⟨rfl, B17⟩ := B17
  replace B17 := Rn.and B17
  obtain ⟨hz18, B17⟩ := B17
  show Fn g D9_push0 M _ (T15.setTop (mkF M.m 53 #[.val (.ref e), .val (.ref x0)] [(.int z)]))
  rcases hz18 with rfl | rfl
  · refine b_ifT B17 d9_53 (pc' := 79) (show (0 : Int32) = (0 : Int32) from by decide) (by decide) (by decide) ?_
    refine p_aloadN B17 d9_79 (pc' := 80) rfl rfl rfl ?_
    have B19 : RH g D9_push0 M T15 ((na, .inr ((.object "java/lang/String"), "[Ljava/lang/String;", [(.ref x0), .null, .null, .null, .null, .null, .null, .null, .null, .null, .null, .null, .null, .null, .null, .null])) :: o_Pain001Reader_Element e (.ref na) (.int (1 : Int32)) (.int fb) (.int fB) (.int fT) (.int ft) :: H0) (Lt) 0 0 := B17.front (i := 1) rfl rfl
    have B20 : RH g D9_push0 M T15 (o_Pain001Reader_Element e (.ref na) (.int (1 : Int32)) (.int fb) (.int fB) (.int fT) (.int ft) :: (na, .inr ((.object "java/lang/String"), "[Ljava/lang/String;", [(.ref x0), .null, .null, .null, .null, .null, .null, .null, .null, .null, .null, .null, .null, .null, .null, .null])) :: H0) (Lt) 0 0 := B19.front (i := 1) rfl rfl
    refine r_virtual (D' := D11_it1) B20 d9_80 (pc' := 83) rfl (W63 B20.gw) (W64 B20.gw) (W66 B20.gw) (fun vm0 hZ => notFace_of_selects (args := #[]) (mvT hZ (W66 B20.gw))) (W65 B20.gw) (W42 B20.gw) (W67 B20.gw) (by decide) (fE (i := 0) rfl) (k_it1 W e na fb fB fT ft x0 H0 mx0 hl0) (argsL := []) (rest := []) rfl pd7 rfl rfl rfl (W := 0) rfl (by decide) (by decide) (cs' := 0) rfl (ss' := 0) rfl (by decide) (by decide) ?_
    intro T21 v22 B23
    replace B23 := Rn.ex B23
    obtain ⟨z, B23⟩ := B23
    replace B23 := Rn.and B23
    obtain ⟨rfl, B23⟩ := B23
    replace B23 := Rn.and B23
    obtain ⟨hz24, B23⟩ := B23
    show Fn g D9_push0 M _ (T21.setTop (mkF M.m 83 #[.val (.ref e), .val (.ref x0)] [(.int z)]))
    rcases hz24 with rfl | rfl
    · refine b_ifT B23 d9_83 (pc' := 101) (show (0 : Int32) = (0 : Int32) from by decide) (by decide) (by decide) ?_
      have B25 : RH g D9_push0 M T21 ((na, .inr ((.object "java/lang/String"), "[Ljava/lang/String;", [(.ref x0), .null, .null, .null, .null, .null, .null, .null, .null, .null, .null, .null, .null, .null, .null, .null])) :: o_Pain001Reader_Element e (.ref na) (.int (1 : Int32)) (.int fb) (.int fB) (.int fT) (.int ft) :: H0) (Lt) 0 0 := B23.front (i := 1) rfl rfl
      have B26 : RH g D9_push0 M T21 (o_Pain001Reader_Element e (.ref na) (.int (1 : Int32)) (.int fb) (.int fB) (.int fT) (.int ft) :: (na, .inr ((.object "java/lang/String"), "[Ljava/lang/String;", [(.ref x0), .null, .null, .null, .null, .null, .null, .null, .null, .null, .null, .null, .null, .null, .null, .null])) :: H0) (Lt) 0 0 := B25.front (i := 1) rfl rfl
      exact r_ret B26 d9_101 rfl (by decide) (by decide) (fun vm h P => ⟨rfl, fb, fB, fT, ft, P⟩)
    · refine b_ifF B23 d9_83 (pc' := 86) rfl (show ¬ (1 : Int32) = (0 : Int32) from by decide) ?_
      refine p_aloadN B23 d9_86 (pc' := 87) rfl rfl rfl ?_
      refine p_aloadN B23 d9_87 (pc' := 88) rfl rfl rfl ?_
      refine p_dup B23 d9_88 (pc' := 89) rfl rfl ?_
      refine r_get B23 d9_89 (pc' := 92) rfl (host := "") (Or.inl (W101 B23.gw)) Via.refl (v := (.int fT)) (fO (i := 0) (j := 4) rfl rfl) ?_
      intro T27 B28
      refine p_iconst B28 d9_92 (pc' := 93) rfl (v := (1 : Int32)) (by decide) ?_
      refine p_iadd B28 d9_93 (pc' := 94) rfl rfl ?_
      refine p_dupx1 B28 d9_94 (pc' := 95) rfl rfl rfl ?_
      refine r_put B28 d9_95 (pc' := 98) rfl (host := "") (Or.inl (W101 B28.gw)) Via.refl (i := 0) (j := 4) rfl rfl (Or.inl (W102 B28.gw)) (W41 B28.gw) (ty := .int) (by decide) rfl rfl (H' := (o_Pain001Reader_Element e (.ref na) (.int (1 : Int32)) (.int fb) (.int fB) (.int (fT + (1 : Int32))) (.int ft) :: (na, .inr ((.object "java/lang/String"), "[Ljava/lang/String;", [(.ref x0), .null, .null, .null, .null, .null, .null, .null, .null, .null, .null, .null, .null, .null, .null, .null])) :: H0)) rfl ?_
      intro T29 B30
      refine r_put B30 d9_98 (pc' := 101) rfl (host := "") (Or.inl (W104 B30.gw)) Via.refl (i := 0) (j := 5) rfl rfl (Or.inl (W105 B30.gw)) (W41 B30.gw) (ty := .int) (by decide) rfl rfl (H' := (o_Pain001Reader_Element e (.ref na) (.int (1 : Int32)) (.int fb) (.int fB) (.int (fT + (1 : Int32))) (.int (fT + (1 : Int32))) :: (na, .inr ((.object "java/lang/String"), "[Ljava/lang/String;", [(.ref x0), .null, .null, .null, .null, .null, .null, .null, .null, .null, .null, .null, .null, .null, .null, .null])) :: H0)) rfl ?_
      intro T31 B32
      have B33 : RH g D9_push0 M T31 ((na, .inr ((.object "java/lang/String"), "[Ljava/lang/String;", [(.ref x0), .null, .null, .null, .null, .null, .null, .null, .null, .null, .null, .null, .null, .null, .null, .null])) :: o_Pain001Reader_Element e (.ref na) (.int (1 : Int32)) (.int fb) (.int fB) (.int (fT + (1 : Int32))) (.int (fT + (1 : Int32))) :: H0) (Lt) 0 0 := B32.front (i := 1) rfl rfl
      have B34 : RH g D9_push0 M T31 (o_Pain001Reader_Element e (.ref na) (.int (1 : Int32)) (.int fb) (.int fB) (.int (fT + (1 : Int32))) (.int (fT + (1 : Int32))) :: (na, .inr ((.object "java/lang/String"), "[Ljava/lang/String;", [(.ref x0), .null, .null, .null, .null, .null, .null, .null, .null, .null, .null, .null, .null, .null, .null, .null])) :: H0) (Lt) 0 0 := B33.front (i := 1) rfl rfl
      exact r_ret B34 d9_101 rfl (by decide) (by decide) (fun vm h P => ⟨rfl, fb, fB, (fT + (1 : Int32)), (fT + (1 : Int32)), P⟩)
  · refine b_ifF B17 d9_53 (pc' := 56) rfl (show ¬ (1 : Int32) = (0 : Int32) from by decide) ?_
    refine p_aloadN B17 d9_56 (pc' := 57) rfl rfl rfl ?_
    refine p_aloadN B17 d9_57 (pc' := 58) rfl rfl rfl ?_
    refine p_dup B17 d9_58 (pc' := 59) rfl rfl ?_
    refine r_get B17 d9_59 (pc' := 62) rfl (host := "") (Or.inl (W99 B17.gw)) Via.refl (v := (.int fB)) (fO (i := 0) (j := 3) rfl rfl) ?_
    intro T35 B36
    refine p_iconst B36 d9_62 (pc' := 63) rfl (v := (1 : Int32)) (by decide) ?_
    refine p_iadd B36 d9_63 (pc' := 64) rfl rfl ?_
    refine p_dupx1 B36 d9_64 (pc' := 65) rfl rfl rfl ?_
    refine r_put B36 d9_65 (pc' := 68) rfl (host := "") (Or.inl (W99 B36.gw)) Via.refl (i := 0) (j := 3) rfl rfl (Or.inl (W100 B36.gw)) (W41 B36.gw) (ty := .int) (by decide) rfl rfl (H' := (o_Pain001Reader_Element e (.ref na) (.int (1 : Int32)) (.int fb) (.int (fB + (1 : Int32))) (.int fT) (.int ft) :: (na, .inr ((.object "java/lang/String"), "[Ljava/lang/String;", [(.ref x0), .null, .null, .null, .null, .null, .null, .null, .null, .null, .null, .null, .null, .null, .null, .null])) :: H0)) rfl ?_
    intro T37 B38
    refine r_put B38 d9_68 (pc' := 71) rfl (host := "") (Or.inl (W92 B38.gw)) Via.refl (i := 0) (j := 2) rfl rfl (Or.inl (W93 B38.gw)) (W41 B38.gw) (ty := .int) (by decide) rfl rfl (H' := (o_Pain001Reader_Element e (.ref na) (.int (1 : Int32)) (.int (fB + (1 : Int32))) (.int (fB + (1 : Int32))) (.int fT) (.int ft) :: (na, .inr ((.object "java/lang/String"), "[Ljava/lang/String;", [(.ref x0), .null, .null, .null, .null, .null, .null, .null, .null, .null, .null, .null, .null, .null, .null, .null])) :: H0)) rfl ?_
    intro T39 B40
    refine p_aloadN B40 d9_71 (pc' := 72) rfl rfl rfl ?_
    refine p_iconst B40 d9_72 (pc' := 73) rfl (v := (0 : Int32)) (by decide) ?_
    refine r_put B40 d9_73 (pc' := 76) rfl (host := "") (Or.inl (W101 B40.gw)) Via.refl (i := 0) (j := 4) rfl rfl (Or.inl (W102 B40.gw)) (W41 B40.gw) (ty := .int) (by decide) rfl rfl (H' := (o_Pain001Reader_Element e (.ref na) (.int (1 : Int32)) (.int (fB + (1 : Int32))) (.int (fB + (1 : Int32))) (.int (0 : Int32)) (.int ft) :: (na, .inr ((.object "java/lang/String"), "[Ljava/lang/String;", [(.ref x0), .null, .null, .null, .null, .null, .null, .null, .null, .null, .null, .null, .null, .null, .null, .null])) :: H0)) rfl ?_
    intro T41 B42
    refine b_goto B42 d9_76 (pc' := 101) (by decide) (by decide) ?_
    have B43 : RH g D9_push0 M T41 ((na, .inr ((.object "java/lang/String"), "[Ljava/lang/String;", [(.ref x0), .null, .null, .null, .null, .null, .null, .null, .null, .null, .null, .null, .null, .null, .null, .null])) :: o_Pain001Reader_Element e (.ref na) (.int (1 : Int32)) (.int (fB + (1 : Int32))) (.int (fB + (1 : Int32))) (.int (0 : Int32)) (.int ft) :: H0) (Lt) 0 0 := B42.front (i := 1) rfl rfl
    have B44 : RH g D9_push0 M T41 (o_Pain001Reader_Element e (.ref na) (.int (1 : Int32)) (.int (fB + (1 : Int32))) (.int (fB + (1 : Int32))) (.int (0 : Int32)) (.int ft) :: (na, .inr ((.object "java/lang/String"), "[Ljava/lang/String;", [(.ref x0), .null, .null, .null, .null, .null, .null, .null, .null, .null, .null, .null, .null, .null, .null, .null])) :: H0) (Lt) 0 0 := B43.front (i := 1) rfl rfl
    exact r_ret B44 d9_101 rfl (by decide) (by decide) (fun vm h P => ⟨rfl, (fB + (1 : Int32)), (fB + (1 : Int32)), (0 : Int32), ft, P⟩)
abbrev D9_push1 : DD := (⟨"com/example/polecenie/polecenie/core/Pain001Reader$Element", "push", "(Ljava/lang/String;)V"⟩, prog_35_method_12_code, 2, none, { frames := 1, cells := 0, slots := 0, locals := 12 })
theorem ef_push1 (e x1 : Addr) (m : MethodId) : entryFrame m #[(.ref e), (.ref x1)] 2 = mkF m 0 #[.val (.ref e), .val (.ref x1)] [] := by first | (simp [entryFrame, mkF, argsToLocals, Value.category]; done) | rfl
theorem k_push1 {g : GG} (W : GW g) (e na : Addr) (fb fB fT ft : Int32) (x0 : Addr) (x1 : Addr) (H0 : List Ent) {Lt : List SE} {bx0 : Addr} {xx0 : List Int32} (mx0 : (x0, bx0, 0, xx0.map Value.int) ∈ Lt) (hl0 : xx0.length < 2147483648) {bx1 : Addr} {xx1 : List Int32} (mx1 : (x1, bx1, 0, xx1.map Value.int) ∈ Lt) (hl1 : xx1.length < 2147483648) : Ct g D9_push1 #[(.ref e), (.ref x1)] (o_Pain001Reader_Element e (.ref na) (.int (1 : Int32)) (.int fb) (.int fB) (.int fT) (.int ft) :: (na, .inr ((.object "java/lang/String"), "[Ljava/lang/String;", [(.ref x0), .null, .null, .null, .null, .null, .null, .null, .null, .null, .null, .null, .null, .null, .null, .null])) :: H0) Lt (fun v vm h => v = none ∧ ∃ gb gB gT gt : Int32, Hp g vm h (o_Pain001Reader_Element e (.ref na) (.int (2 : Int32)) (.int gb) (.int gB) (.int gT) (.int gt) :: (na, .inr ((.object "java/lang/String"), "[Ljava/lang/String;", [(.ref x0), (.ref x1), .null, .null, .null, .null, .null, .null, .null, .null, .null, .null, .null, .null, .null, .null])) :: H0) Lt) := by
  refine CtW.body W (by decide +kernel) (ef_push1 e x1) ?_
  intro M T B
  refine p_aloadN B d9_0 (pc' := 1) rfl rfl rfl ?_
  refine r_get B d9_1 (pc' := 4) rfl (host := "") (Or.inl (W56 B.gw)) Via.refl (v := (.int (1 : Int32))) (fO (i := 0) (j := 1) rfl rfl) ?_
  intro T1 B2
  refine p_aloadN B2 d9_4 (pc' := 5) rfl rfl rfl ?_
  refine r_get B2 d9_5 (pc' := 8) rfl (host := "") (Or.inl (W49 B2.gw)) Via.refl (v := (.ref na)) (fO (i := 0) (j := 0) rfl rfl) ?_
  intro T3 B4
  refine r_alen B4 d9_8 (pc' := 9) rfl (aH (i := 1) rfl) (z := (16 : Int32)) rfl ?_
  refine b_icT B4 d9_9 (pc' := 32) (show ¬ (1 : Int32) = (16 : Int32) from by decide) (by decide) (by decide) ?_
  refine p_aloadN B4 d9_32 (pc' := 33) rfl rfl rfl ?_
  refine r_get B4 d9_33 (pc' := 36) rfl (host := "") (Or.inl (W49 B4.gw)) Via.refl (v := (.ref na)) (fO (i := 0) (j := 0) rfl rfl) ?_
  intro T5 B6
  refine p_aloadN B6 d9_36 (pc' := 37) rfl rfl rfl ?_
  refine p_dup B6 d9_37 (pc' := 38) rfl rfl ?_
  refine r_get B6 d9_38 (pc' := 41) rfl (host := "") (Or.inl (W56 B6.gw)) Via.refl (v := (.int (1 : Int32))) (fO (i := 0) (j := 1) rfl rfl) ?_
  intro T7 B8
  refine p_dupx1 B8 d9_41 (pc' := 42) rfl rfl rfl ?_
  refine p_iconst B8 d9_42 (pc' := 43) rfl (v := (1 : Int32)) (by decide) ?_
  refine p_iadd B8 d9_43 (pc' := 44) rfl (z := (2 : Int32)) (by decide) ?_
  refine r_put B8 d9_44 (pc' := 47) rfl (host := "") (Or.inl (W56 B8.gw)) Via.refl (i := 0) (j := 1) rfl rfl (Or.inl (W57 B8.gw)) (W41 B8.gw) (ty := .int) (by decide) rfl rfl (H' := (o_Pain001Reader_Element e (.ref na) (.int (2 : Int32)) (.int fb) (.int fB) (.int fT) (.int ft) :: (na, .inr ((.object "java/lang/String"), "[Ljava/lang/String;", [(.ref x0), .null, .null, .null, .null, .null, .null, .null, .null, .null, .null, .null, .null, .null, .null, .null])) :: H0)) rfl ?_
  intro T9 B10
  refine p_aloadN B10 d9_47 (pc' := 48) rfl rfl rfl ?_
  refine r_aastore B10 d9_48 (pc' := 49) rfl (i := 1) rfl (by decide) (k := 1) (by decide) (by simp) (Or.inr ⟨_, rfl, (fun vm h E P => Ins.self ((sE mx1) vm h E P))⟩) (H' := (o_Pain001Reader_Element e (.ref na) (.int (2 : Int32)) (.int fb) (.int fB) (.int fT) (.int ft) :: (na, .inr ((.object "java/lang/String"), "[Ljava/lang/String;", [(.ref x0), (.ref x1), .null, .null, .null, .null, .null, .null, .null, .null, .null, .null, .null, .null, .null, .null])) :: H0)) rfl ?_
  intro T11 B12
  refine p_aloadN B12 d9_49 (pc' := 50) rfl rfl rfl ?_
  have B13 : RH g D9_push1 M T11 ((na, .inr ((.object "java/lang/String"), "[Ljava/lang/String;", [(.ref x0), (.ref x1), .null, .null, .null, .null, .null, .null, .null, .null, .null, .null, .null, .null, .null, .null])) :: o_Pain001Reader_Element e (.ref na) (.int (2 : Int32)) (.int fb) (.int fB) (.int fT) (.int ft) :: H0) (Lt) 0 0 := B12.front (i := 1) rfl rfl
  have B14 : RH g D9_push1 M T11 (o_Pain001Reader_Element e (.ref na) (.int (2 : Int32)) (.int fb) (.int fB) (.int fT) (.int ft) :: (na, .inr ((.object "java/lang/String"), "[Ljava/lang/String;", [(.ref x0), (.ref x1), .null, .null, .null, .null, .null, .null, .null, .null, .null, .null, .null, .null, .null, .null])) :: H0) (Lt) 0 0 := B13.front (i := 1) rfl rfl
  refine r_virtual (D' := D10_ib2) B14 d9_50 (pc' := 53) rfl (W58 B14.gw) (W59 B14.gw) (W61 B14.gw) (fun vm0 hZ => notFace_of_selects (args := #[]) (mvT hZ (W61 B14.gw))) (W60 B14.gw) (W42 B14.gw) (W62 B14.gw) (by decide) (fE (i := 0) rfl) (k_ib2 W e na fb fB fT ft x0 x1 H0 mx0 hl0 mx1 hl1) (argsL := []) (rest := []) rfl pd7 rfl rfl rfl (W := 0) rfl (by decide) (by decide) (cs' := 0) rfl (ss' := 0) rfl (by decide) (by decide) ?_
  intro T15 v16 B17
  replace B17 := Rn.ex B17
  obtain ⟨z, B17⟩ := B17
  replace B17 := Rn.and B17
  obtain ⟨rfl, B17⟩ := B17
  replace B17 := Rn.and B17
  obtain ⟨hz18, B17⟩ := B17
  show Fn g D9_push1 M _ (T15.setTop (mkF M.m 53 #[.val (.ref e), .val (.ref x1)] [(.int z)]))
  rcases hz18 with rfl | rfl
  · refine b_ifT B17 d9_53 (pc' := 79) (show (0 : Int32) = (0 : Int32) from by decide) (by decide) (by decide) ?_
    refine p_aloadN B17 d9_79 (pc' := 80) rfl rfl rfl ?_
    have B19 : RH g D9_push1 M T15 ((na, .inr ((.object "java/lang/String"), "[Ljava/lang/String;", [(.ref x0), (.ref x1), .null, .null, .null, .null, .null, .null, .null, .null, .null, .null, .null, .null, .null, .null])) :: o_Pain001Reader_Element e (.ref na) (.int (2 : Int32)) (.int fb) (.int fB) (.int fT) (.int ft) :: H0) (Lt) 0 0 := B17.front (i := 1) rfl rfl
    have B20 : RH g D9_push1 M T15 (o_Pain001Reader_Element e (.ref na) (.int (2 : Int32)) (.int fb) (.int fB) (.int fT) (.int ft) :: (na, .inr ((.object "java/lang/String"), "[Ljava/lang/String;", [(.ref x0), (.ref x1), .null, .null, .null, .null, .null, .null, .null, .null, .null, .null, .null, .null, .null, .null])) :: H0) (Lt) 0 0 := B19.front (i := 1) rfl rfl
    refine r_virtual (D' := D11_it2) B20 d9_80 (pc' := 83) rfl (W63 B20.gw) (W64 B20.gw) (W66 B20.gw) (fun vm0 hZ => notFace_of_selects (args := #[]) (mvT hZ (W66 B20.gw))) (W65 B20.gw) (W42 B20.gw) (W67 B20.gw) (by decide) (fE (i := 0) rfl) (k_it2 W e na fb fB fT ft x0 x1 H0 mx0 hl0 mx1 hl1) (argsL := []) (rest := []) rfl pd7 rfl rfl rfl (W := 0) rfl (by decide) (by decide) (cs' := 0) rfl (ss' := 0) rfl (by decide) (by decide) ?_
    intro T21 v22 B23
    replace B23 := Rn.ex B23
    obtain ⟨z, B23⟩ := B23
    replace B23 := Rn.and B23
    obtain ⟨rfl, B23⟩ := B23
    replace B23 := Rn.and B23
    obtain ⟨hz24, B23⟩ := B23
    show Fn g D9_push1 M _ (T21.setTop (mkF M.m 83 #[.val (.ref e), .val (.ref x1)] [(.int z)]))
    rcases hz24 with rfl | rfl
    · refine b_ifT B23 d9_83 (pc' := 101) (show (0 : Int32) = (0 : Int32) from by decide) (by decide) (by decide) ?_
      have B25 : RH g D9_push1 M T21 ((na, .inr ((.object "java/lang/String"), "[Ljava/lang/String;", [(.ref x0), (.ref x1), .null, .null, .null, .null, .null, .null, .null, .null, .null, .null, .null, .null, .null, .null])) :: o_Pain001Reader_Element e (.ref na) (.int (2 : Int32)) (.int fb) (.int fB) (.int fT) (.int ft) :: H0) (Lt) 0 0 := B23.front (i := 1) rfl rfl
      have B26 : RH g D9_push1 M T21 (o_Pain001Reader_Element e (.ref na) (.int (2 : Int32)) (.int fb) (.int fB) (.int fT) (.int ft) :: (na, .inr ((.object "java/lang/String"), "[Ljava/lang/String;", [(.ref x0), (.ref x1), .null, .null, .null, .null, .null, .null, .null, .null, .null, .null, .null, .null, .null, .null])) :: H0) (Lt) 0 0 := B25.front (i := 1) rfl rfl
      exact r_ret B26 d9_101 rfl (by decide) (by decide) (fun vm h P => ⟨rfl, fb, fB, fT, ft, P⟩)
    · refine b_ifF B23 d9_83 (pc' := 86) rfl (show ¬ (1 : Int32) = (0 : Int32) from by decide) ?_
      refine p_aloadN B23 d9_86 (pc' := 87) rfl rfl rfl ?_
      refine p_aloadN B23 d9_87 (pc' := 88) rfl rfl rfl ?_
      refine p_dup B23 d9_88 (pc' := 89) rfl rfl ?_
      refine r_get B23 d9_89 (pc' := 92) rfl (host := "") (Or.inl (W101 B23.gw)) Via.refl (v := (.int fT)) (fO (i := 0) (j := 4) rfl rfl) ?_
      intro T27 B28
      refine p_iconst B28 d9_92 (pc' := 93) rfl (v := (1 : Int32)) (by decide) ?_
      refine p_iadd B28 d9_93 (pc' := 94) rfl rfl ?_
      refine p_dupx1 B28 d9_94 (pc' := 95) rfl rfl rfl ?_
      refine r_put B28 d9_95 (pc' := 98) rfl (host := "") (Or.inl (W101 B28.gw)) Via.refl (i := 0) (j := 4) rfl rfl (Or.inl (W102 B28.gw)) (W41 B28.gw) (ty := .int) (by decide) rfl rfl (H' := (o_Pain001Reader_Element e (.ref na) (.int (2 : Int32)) (.int fb) (.int fB) (.int (fT + (1 : Int32))) (.int ft) :: (na, .inr ((.object "java/lang/String"), "[Ljava/lang/String;", [(.ref x0), (.ref x1), .null, .null, .null, .null, .null, .null, .null, .null, .null, .null, .null, .null, .null, .null])) :: H0)) rfl ?_
      intro T29 B30
      refine r_put B30 d9_98 (pc' := 101) rfl (host := "") (Or.inl (W104 B30.gw)) Via.refl (i := 0) (j := 5) rfl rfl (Or.inl (W105 B30.gw)) (W41 B30.gw) (ty := .int) (by decide) rfl rfl (H' := (o_Pain001Reader_Element e (.ref na) (.int (2 : Int32)) (.int fb) (.int fB) (.int (fT + (1 : Int32))) (.int (fT + (1 : Int32))) :: (na, .inr ((.object "java/lang/String"), "[Ljava/lang/String;", [(.ref x0), (.ref x1), .null, .null, .null, .null, .null, .null, .null, .null, .null, .null, .null, .null, .null, .null])) :: H0)) rfl ?_
      intro T31 B32
      have B33 : RH g D9_push1 M T31 ((na, .inr ((.object "java/lang/String"), "[Ljava/lang/String;", [(.ref x0), (.ref x1), .null, .null, .null, .null, .null, .null, .null, .null, .null, .null, .null, .null, .null, .null])) :: o_Pain001Reader_Element e (.ref na) (.int (2 : Int32)) (.int fb) (.int fB) (.int (fT + (1 : Int32))) (.int (fT + (1 : Int32))) :: H0) (Lt) 0 0 := B32.front (i := 1) rfl rfl
      have B34 : RH g D9_push1 M T31 (o_Pain001Reader_Element e (.ref na) (.int (2 : Int32)) (.int fb) (.int fB) (.int (fT + (1 : Int32))) (.int (fT + (1 : Int32))) :: (na, .inr ((.object "java/lang/String"), "[Ljava/lang/String;", [(.ref x0), (.ref x1), .null, .null, .null, .null, .null, .null, .null, .null, .null, .null, .null, .null, .null, .null])) :: H0) (Lt) 0 0 := B33.front (i := 1) rfl rfl
      exact r_ret B34 d9_101 rfl (by decide) (by decide) (fun vm h P => ⟨rfl, fb, fB, (fT + (1 : Int32)), (fT + (1 : Int32)), P⟩)
  · refine b_ifF B17 d9_53 (pc' := 56) rfl (show ¬ (1 : Int32) = (0 : Int32) from by decide) ?_
    refine p_aloadN B17 d9_56 (pc' := 57) rfl rfl rfl ?_
    refine p_aloadN B17 d9_57 (pc' := 58) rfl rfl rfl ?_
    refine p_dup B17 d9_58 (pc' := 59) rfl rfl ?_
    refine r_get B17 d9_59 (pc' := 62) rfl (host := "") (Or.inl (W99 B17.gw)) Via.refl (v := (.int fB)) (fO (i := 0) (j := 3) rfl rfl) ?_
    intro T35 B36
    refine p_iconst B36 d9_62 (pc' := 63) rfl (v := (1 : Int32)) (by decide) ?_
    refine p_iadd B36 d9_63 (pc' := 64) rfl rfl ?_
    refine p_dupx1 B36 d9_64 (pc' := 65) rfl rfl rfl ?_
    refine r_put B36 d9_65 (pc' := 68) rfl (host := "") (Or.inl (W99 B36.gw)) Via.refl (i := 0) (j := 3) rfl rfl (Or.inl (W100 B36.gw)) (W41 B36.gw) (ty := .int) (by decide) rfl rfl (H' := (o_Pain001Reader_Element e (.ref na) (.int (2 : Int32)) (.int fb) (.int (fB + (1 : Int32))) (.int fT) (.int ft) :: (na, .inr ((.object "java/lang/String"), "[Ljava/lang/String;", [(.ref x0), (.ref x1), .null, .null, .null, .null, .null, .null, .null, .null, .null, .null, .null, .null, .null, .null])) :: H0)) rfl ?_
    intro T37 B38
    refine r_put B38 d9_68 (pc' := 71) rfl (host := "") (Or.inl (W92 B38.gw)) Via.refl (i := 0) (j := 2) rfl rfl (Or.inl (W93 B38.gw)) (W41 B38.gw) (ty := .int) (by decide) rfl rfl (H' := (o_Pain001Reader_Element e (.ref na) (.int (2 : Int32)) (.int (fB + (1 : Int32))) (.int (fB + (1 : Int32))) (.int fT) (.int ft) :: (na, .inr ((.object "java/lang/String"), "[Ljava/lang/String;", [(.ref x0), (.ref x1), .null, .null, .null, .null, .null, .null, .null, .null, .null, .null, .null, .null, .null, .null])) :: H0)) rfl ?_
    intro T39 B40
    refine p_aloadN B40 d9_71 (pc' := 72) rfl rfl rfl ?_
    refine p_iconst B40 d9_72 (pc' := 73) rfl (v := (0 : Int32)) (by decide) ?_
    refine r_put B40 d9_73 (pc' := 76) rfl (host := "") (Or.inl (W101 B40.gw)) Via.refl (i := 0) (j := 4) rfl rfl (Or.inl (W102 B40.gw)) (W41 B40.gw) (ty := .int) (by decide) rfl rfl (H' := (o_Pain001Reader_Element e (.ref na) (.int (2 : Int32)) (.int (fB + (1 : Int32))) (.int (fB + (1 : Int32))) (.int (0 : Int32)) (.int ft) :: (na, .inr ((.object "java/lang/String"), "[Ljava/lang/String;", [(.ref x0), (.ref x1), .null, .null, .null, .null, .null, .null, .null, .null, .null, .null, .null, .null, .null, .null])) :: H0)) rfl ?_
    intro T41 B42
    refine b_goto B42 d9_76 (pc' := 101) (by decide) (by decide) ?_
    have B43 : RH g D9_push1 M T41 ((na, .inr ((.object "java/lang/String"), "[Ljava/lang/String;", [(.ref x0), (.ref x1), .null, .null, .null, .null, .null, .null, .null, .null, .null, .null, .null, .null, .null, .null])) :: o_Pain001Reader_Element e (.ref na) (.int (2 : Int32)) (.int (fB + (1 : Int32))) (.int (fB + (1 : Int32))) (.int (0 : Int32)) (.int ft) :: H0) (Lt) 0 0 := B42.front (i := 1) rfl rfl
    have B44 : RH g D9_push1 M T41 (o_Pain001Reader_Element e (.ref na) (.int (2 : Int32)) (.int (fB + (1 : Int32))) (.int (fB + (1 : Int32))) (.int (0 : Int32)) (.int ft) :: (na, .inr ((.object "java/lang/String"), "[Ljava/lang/String;", [(.ref x0), (.ref x1), .null, .null, .null, .null, .null, .null, .null, .null, .null, .null, .null, .null, .null, .null])) :: H0) (Lt) 0 0 := B43.front (i := 1) rfl rfl
    exact r_ret B44 d9_101 rfl (by decide) (by decide) (fun vm h P => ⟨rfl, (fB + (1 : Int32)), (fB + (1 : Int32)), (0 : Int32), ft, P⟩)
abbrev D9_push2 : DD := (⟨"com/example/polecenie/polecenie/core/Pain001Reader$Element", "push", "(Ljava/lang/String;)V"⟩, prog_35_method_12_code, 2, none, { frames := 4, cells := 7, slots := 135, locals := 54 })
theorem ef_push2 (e x2 : Addr) (m : MethodId) : entryFrame m #[(.ref e), (.ref x2)] 2 = mkF m 0 #[.val (.ref e), .val (.ref x2)] [] := by first | (simp [entryFrame, mkF, argsToLocals, Value.category]; done) | rfl
theorem k_push2 {g : GG} (W : GW g) (e na : Addr) (fb fB fT ft : Int32) (x0 : Addr) (x1 : Addr) (x2 : Addr) (H0 : List Ent) {Lt : List SE} {bx0 : Addr} {xx0 : List Int32} (mx0 : (x0, bx0, 0, xx0.map Value.int) ∈ Lt) (hl0 : xx0.length < 2147483648) {bx1 : Addr} {xx1 : List Int32} (mx1 : (x1, bx1, 0, xx1.map Value.int) ∈ Lt) (hl1 : xx1.length < 2147483648) {bx2 : Addr} {xx2 : List Int32} (mx2 : (x2, bx2, 0, xx2.map Value.int) ∈ Lt) (hl2 : xx2.length < 2147483648) : Ct g D9_push2 #[(.ref e), (.ref x2)] (o_Pain001Reader_Element e (.ref na) (.int (2 : Int32)) (.int fb) (.int fB) (.int fT) (.int ft) :: (na, .inr ((.object "java/lang/String"), "[Ljava/lang/String;", [(.ref x0), (.ref x1), .null, .null, .null, .null, .null, .null, .null, .null, .null, .null, .null, .null, .null, .null])) :: H0) Lt (fun v vm h => v = none ∧ ∃ gb gB gT gt : Int32, Hp g vm h (o_Pain001Reader_Element e (.ref na) (.int (3 : Int32)) (.int gb) (.int gB) (.int gT) (.int gt) :: (na, .inr ((.object "java/lang/String"), "[Ljava/lang/String;", [(.ref x0), (.ref x1), (.ref x2), .null, .null, .null, .null, .null, .null, .null, .null, .null, .null, .null, .null, .null])) :: H0) Lt) := by
  refine CtW.body W (by decide +kernel) (ef_push2 e x2) ?_
  intro M T B
  refine p_aloadN B d9_0 (pc' := 1) rfl rfl rfl ?_
  refine r_get B d9_1 (pc' := 4) rfl (host := "") (Or.inl (W56 B.gw)) Via.refl (v := (.int (2 : Int32))) (fO (i := 0) (j := 1) rfl rfl) ?_
  intro T1 B2
  refine p_aloadN B2 d9_4 (pc' := 5) rfl rfl rfl ?_
  refine r_get B2 d9_5 (pc' := 8) rfl (host := "") (Or.inl (W49 B2.gw)) Via.refl (v := (.ref na)) (fO (i := 0) (j := 0) rfl rfl) ?_
  intro T3 B4
  refine r_alen B4 d9_8 (pc' := 9) rfl (aH (i := 1) rfl) (z := (16 : Int32)) rfl ?_
  refine b_icT B4 d9_9 (pc' := 32) (show ¬ (2 : Int32) = (16 : Int32) from by decide) (by decide) (by decide) ?_
  refine p_aloadN B4 d9_32 (pc' := 33) rfl rfl rfl ?_
  refine r_get B4 d9_33 (pc' := 36) rfl (host := "") (Or.inl (W49 B4.gw)) Via.refl (v := (.ref na)) (fO (i := 0) (j := 0) rfl rfl) ?_
  intro T5 B6
  refine p_aloadN B6 d9_36 (pc' := 37) rfl rfl rfl ?_
  refine p_dup B6 d9_37 (pc' := 38) rfl rfl ?_
  refine r_get B6 d9_38 (pc' := 41) rfl (host := "") (Or.inl (W56 B6.gw)) Via.refl (v := (.int (2 : Int32))) (fO (i := 0) (j := 1) rfl rfl) ?_
  intro T7 B8
  refine p_dupx1 B8 d9_41 (pc' := 42) rfl rfl rfl ?_
  refine p_iconst B8 d9_42 (pc' := 43) rfl (v := (1 : Int32)) (by decide) ?_
  refine p_iadd B8 d9_43 (pc' := 44) rfl (z := (3 : Int32)) (by decide) ?_
  refine r_put B8 d9_44 (pc' := 47) rfl (host := "") (Or.inl (W56 B8.gw)) Via.refl (i := 0) (j := 1) rfl rfl (Or.inl (W57 B8.gw)) (W41 B8.gw) (ty := .int) (by decide) rfl rfl (H' := (o_Pain001Reader_Element e (.ref na) (.int (3 : Int32)) (.int fb) (.int fB) (.int fT) (.int ft) :: (na, .inr ((.object "java/lang/String"), "[Ljava/lang/String;", [(.ref x0), (.ref x1), .null, .null, .null, .null, .null, .null, .null, .null, .null, .null, .null, .null, .null, .null])) :: H0)) rfl ?_
  intro T9 B10
  refine p_aloadN B10 d9_47 (pc' := 48) rfl rfl rfl ?_
  refine r_aastore B10 d9_48 (pc' := 49) rfl (i := 1) rfl (by decide) (k := 2) (by decide) (by simp) (Or.inr ⟨_, rfl, (fun vm h E P => Ins.self ((sE mx2) vm h E P))⟩) (H' := (o_Pain001Reader_Element e (.ref na) (.int (3 : Int32)) (.int fb) (.int fB) (.int fT) (.int ft) :: (na, .inr ((.object "java/lang/String"), "[Ljava/lang/String;", [(.ref x0), (.ref x1), (.ref x2), .null, .null, .null, .null, .null, .null, .null, .null, .null, .null, .null, .null, .null])) :: H0)) rfl ?_
  intro T11 B12
  refine p_aloadN B12 d9_49 (pc' := 50) rfl rfl rfl ?_
  have B13 : RH g D9_push2 M T11 ((na, .inr ((.object "java/lang/String"), "[Ljava/lang/String;", [(.ref x0), (.ref x1), (.ref x2), .null, .null, .null, .null, .null, .null, .null, .null, .null, .null, .null, .null, .null])) :: o_Pain001Reader_Element e (.ref na) (.int (3 : Int32)) (.int fb) (.int fB) (.int fT) (.int ft) :: H0) (Lt) 0 0 := B12.front (i := 1) rfl rfl
  have B14 : RH g D9_push2 M T11 (o_Pain001Reader_Element e (.ref na) (.int (3 : Int32)) (.int fb) (.int fB) (.int fT) (.int ft) :: (na, .inr ((.object "java/lang/String"), "[Ljava/lang/String;", [(.ref x0), (.ref x1), (.ref x2), .null, .null, .null, .null, .null, .null, .null, .null, .null, .null, .null, .null, .null])) :: H0) (Lt) 0 0 := B13.front (i := 1) rfl rfl
  refine r_virtual (D' := D10_ib3) B14 d9_50 (pc' := 53) rfl (W58 B14.gw) (W59 B14.gw) (W61 B14.gw) (fun vm0 hZ => notFace_of_selects (args := #[]) (mvT hZ (W61 B14.gw))) (W60 B14.gw) (W42 B14.gw) (W62 B14.gw) (by decide) (fE (i := 0) rfl) (k_ib3 W e na fb fB fT ft x0 x1 x2 H0 mx0 hl0 mx1 hl1 mx2 hl2) (argsL := []) (rest := []) rfl pd7 rfl rfl rfl (W := 0) rfl (by decide) (by decide) (cs' := 7) rfl (ss' := 135) rfl (by decide) (by decide) ?_
  intro T15 v16 B17
  replace B17 := Rn.ex B17
  obtain ⟨z, B17⟩ := B17
  replace B17 := Rn.and B17
  obtain ⟨rfl, B17⟩ := B17
  replace B17 := Rn.and B17
  obtain ⟨hz18, B17⟩ := B17
  show Fn g D9_push2 M _ (T15.setTop (mkF M.m 53 #[.val (.ref e), .val (.ref x2)] [(.int z)]))
  rcases hz18 with rfl | rfl
  · refine b_ifT B17 d9_53 (pc' := 79) (show (0 : Int32) = (0 : Int32) from by decide) (by decide) (by decide) ?_
    refine p_aloadN B17 d9_79 (pc' := 80) rfl rfl rfl ?_
    have B19 : RH g D9_push2 M T15 ((na, .inr ((.object "java/lang/String"), "[Ljava/lang/String;", [(.ref x0), (.ref x1), (.ref x2), .null, .null, .null, .null, .null, .null, .null, .null, .null, .null, .null, .null, .null])) :: o_Pain001Reader_Element e (.ref na) (.int (3 : Int32)) (.int fb) (.int fB) (.int fT) (.int ft) :: H0) (Lt) 7 135 := B17.front (i := 1) rfl rfl
    have B20 : RH g D9_push2 M T15 (o_Pain001Reader_Element e (.ref na) (.int (3 : Int32)) (.int fb) (.int fB) (.int fT) (.int ft) :: (na, .inr ((.object "java/lang/String"), "[Ljava/lang/String;", [(.ref x0), (.ref x1), (.ref x2), .null, .null, .null, .null, .null, .null, .null, .null, .null, .null, .null, .null, .null])) :: H0) (Lt) 7 135 := B19.front (i := 1) rfl rfl
    refine r_virtual (D' := D11_it3) B20 d9_80 (pc' := 83) rfl (W63 B20.gw) (W64 B20.gw) (W66 B20.gw) (fun vm0 hZ => notFace_of_selects (args := #[]) (mvT hZ (W66 B20.gw))) (W65 B20.gw) (W42 B20.gw) (W67 B20.gw) (by decide) (fE (i := 0) rfl) (k_it3 W e na fb fB fT ft x0 x1 x2 H0 mx0 hl0 mx1 hl1 mx2 hl2) (argsL := []) (rest := []) rfl pd7 rfl rfl rfl (W := 0) rfl (by decide) (by decide) (cs' := 7) rfl (ss' := 135) rfl (by decide) (by decide) ?_
    intro T21 v22 B23
    replace B23 := Rn.ex B23
    obtain ⟨z, B23⟩ := B23
    replace B23 := Rn.and B23
    obtain ⟨rfl, B23⟩ := B23
    replace B23 := Rn.and B23
    obtain ⟨hz24, B23⟩ := B23
    show Fn g D9_push2 M _ (T21.setTop (mkF M.m 83 #[.val (.ref e), .val (.ref x2)] [(.int z)]))
    rcases hz24 with rfl | rfl
    · refine b_ifT B23 d9_83 (pc' := 101) (show (0 : Int32) = (0 : Int32) from by decide) (by decide) (by decide) ?_
      have B25 : RH g D9_push2 M T21 ((na, .inr ((.object "java/lang/String"), "[Ljava/lang/String;", [(.ref x0), (.ref x1), (.ref x2), .null, .null, .null, .null, .null, .null, .null, .null, .null, .null, .null, .null, .null])) :: o_Pain001Reader_Element e (.ref na) (.int (3 : Int32)) (.int fb) (.int fB) (.int fT) (.int ft) :: H0) (Lt) 7 135 := B23.front (i := 1) rfl rfl
      have B26 : RH g D9_push2 M T21 (o_Pain001Reader_Element e (.ref na) (.int (3 : Int32)) (.int fb) (.int fB) (.int fT) (.int ft) :: (na, .inr ((.object "java/lang/String"), "[Ljava/lang/String;", [(.ref x0), (.ref x1), (.ref x2), .null, .null, .null, .null, .null, .null, .null, .null, .null, .null, .null, .null, .null])) :: H0) (Lt) 7 135 := B25.front (i := 1) rfl rfl
      exact r_ret B26 d9_101 rfl (by decide) (by decide) (fun vm h P => ⟨rfl, fb, fB, fT, ft, P⟩)
    · refine b_ifF B23 d9_83 (pc' := 86) rfl (show ¬ (1 : Int32) = (0 : Int32) from by decide) ?_
      refine p_aloadN B23 d9_86 (pc' := 87) rfl rfl rfl ?_
      refine p_aloadN B23 d9_87 (pc' := 88) rfl rfl rfl ?_
      refine p_dup B23 d9_88 (pc' := 89) rfl rfl ?_
      refine r_get B23 d9_89 (pc' := 92) rfl (host := "") (Or.inl (W101 B23.gw)) Via.refl (v := (.int fT)) (fO (i := 0) (j := 4) rfl rfl) ?_
      intro T27 B28
      refine p_iconst B28 d9_92 (pc' := 93) rfl (v := (1 : Int32)) (by decide) ?_
      refine p_iadd B28 d9_93 (pc' := 94) rfl rfl ?_
      refine p_dupx1 B28 d9_94 (pc' := 95) rfl rfl rfl ?_
      refine r_put B28 d9_95 (pc' := 98) rfl (host := "") (Or.inl (W101 B28.gw)) Via.refl (i := 0) (j := 4) rfl rfl (Or.inl (W102 B28.gw)) (W41 B28.gw) (ty := .int) (by decide) rfl rfl (H' := (o_Pain001Reader_Element e (.ref na) (.int (3 : Int32)) (.int fb) (.int fB) (.int (fT + (1 : Int32))) (.int ft) :: (na, .inr ((.object "java/lang/String"), "[Ljava/lang/String;", [(.ref x0), (.ref x1), (.ref x2), .null, .null, .null, .null, .null, .null, .null, .null, .null, .null, .null, .null, .null])) :: H0)) rfl ?_
      intro T29 B30
      refine r_put B30 d9_98 (pc' := 101) rfl (host := "") (Or.inl (W104 B30.gw)) Via.refl (i := 0) (j := 5) rfl rfl (Or.inl (W105 B30.gw)) (W41 B30.gw) (ty := .int) (by decide) rfl rfl (H' := (o_Pain001Reader_Element e (.ref na) (.int (3 : Int32)) (.int fb) (.int fB) (.int (fT + (1 : Int32))) (.int (fT + (1 : Int32))) :: (na, .inr ((.object "java/lang/String"), "[Ljava/lang/String;", [(.ref x0), (.ref x1), (.ref x2), .null, .null, .null, .null, .null, .null, .null, .null, .null, .null, .null, .null, .null])) :: H0)) rfl ?_
      intro T31 B32
      have B33 : RH g D9_push2 M T31 ((na, .inr ((.object "java/lang/String"), "[Ljava/lang/String;", [(.ref x0), (.ref x1), (.ref x2), .null, .null, .null, .null, .null, .null, .null, .null, .null, .null, .null, .null, .null])) :: o_Pain001Reader_Element e (.ref na) (.int (3 : Int32)) (.int fb) (.int fB) (.int (fT + (1 : Int32))) (.int (fT + (1 : Int32))) :: H0) (Lt) 7 135 := B32.front (i := 1) rfl rfl
      have B34 : RH g D9_push2 M T31 (o_Pain001Reader_Element e (.ref na) (.int (3 : Int32)) (.int fb) (.int fB) (.int (fT + (1 : Int32))) (.int (fT + (1 : Int32))) :: (na, .inr ((.object "java/lang/String"), "[Ljava/lang/String;", [(.ref x0), (.ref x1), (.ref x2), .null, .null, .null, .null, .null, .null, .null, .null, .null, .null, .null, .null, .null])) :: H0) (Lt) 7 135 := B33.front (i := 1) rfl rfl
      exact r_ret B34 d9_101 rfl (by decide) (by decide) (fun vm h P => ⟨rfl, fb, fB, (fT + (1 : Int32)), (fT + (1 : Int32)), P⟩)
  · refine b_ifF B17 d9_53 (pc' := 56) rfl (show ¬ (1 : Int32) = (0 : Int32) from by decide) ?_
    refine p_aloadN B17 d9_56 (pc' := 57) rfl rfl rfl ?_
    refine p_aloadN B17 d9_57 (pc' := 58) rfl rfl rfl ?_
    refine p_dup B17 d9_58 (pc' := 59) rfl rfl ?_
    refine r_get B17 d9_59 (pc' := 62) rfl (host := "") (Or.inl (W99 B17.gw)) Via.refl (v := (.int fB)) (fO (i := 0) (j := 3) rfl rfl) ?_
    intro T35 B36
    refine p_iconst B36 d9_62 (pc' := 63) rfl (v := (1 : Int32)) (by decide) ?_
    refine p_iadd B36 d9_63 (pc' := 64) rfl rfl ?_
    refine p_dupx1 B36 d9_64 (pc' := 65) rfl rfl rfl ?_
    refine r_put B36 d9_65 (pc' := 68) rfl (host := "") (Or.inl (W99 B36.gw)) Via.refl (i := 0) (j := 3) rfl rfl (Or.inl (W100 B36.gw)) (W41 B36.gw) (ty := .int) (by decide) rfl rfl (H' := (o_Pain001Reader_Element e (.ref na) (.int (3 : Int32)) (.int fb) (.int (fB + (1 : Int32))) (.int fT) (.int ft) :: (na, .inr ((.object "java/lang/String"), "[Ljava/lang/String;", [(.ref x0), (.ref x1), (.ref x2), .null, .null, .null, .null, .null, .null, .null, .null, .null, .null, .null, .null, .null])) :: H0)) rfl ?_
    intro T37 B38
    refine r_put B38 d9_68 (pc' := 71) rfl (host := "") (Or.inl (W92 B38.gw)) Via.refl (i := 0) (j := 2) rfl rfl (Or.inl (W93 B38.gw)) (W41 B38.gw) (ty := .int) (by decide) rfl rfl (H' := (o_Pain001Reader_Element e (.ref na) (.int (3 : Int32)) (.int (fB + (1 : Int32))) (.int (fB + (1 : Int32))) (.int fT) (.int ft) :: (na, .inr ((.object "java/lang/String"), "[Ljava/lang/String;", [(.ref x0), (.ref x1), (.ref x2), .null, .null, .null, .null, .null, .null, .null, .null, .null, .null, .null, .null, .null])) :: H0)) rfl ?_
    intro T39 B40
    refine p_aloadN B40 d9_71 (pc' := 72) rfl rfl rfl ?_
    refine p_iconst B40 d9_72 (pc' := 73) rfl (v := (0 : Int32)) (by decide) ?_
    refine r_put B40 d9_73 (pc' := 76) rfl (host := "") (Or.inl (W101 B40.gw)) Via.refl (i := 0) (j := 4) rfl rfl (Or.inl (W102 B40.gw)) (W41 B40.gw) (ty := .int) (by decide) rfl rfl (H' := (o_Pain001Reader_Element e (.ref na) (.int (3 : Int32)) (.int (fB + (1 : Int32))) (.int (fB + (1 : Int32))) (.int (0 : Int32)) (.int ft) :: (na, .inr ((.object "java/lang/String"), "[Ljava/lang/String;", [(.ref x0), (.ref x1), (.ref x2), .null, .null, .null, .null, .null, .null, .null, .null, .null, .null, .null, .null, .null])) :: H0)) rfl ?_
    intro T41 B42
    refine b_goto B42 d9_76 (pc' := 101) (by decide) (by decide) ?_
    have B43 : RH g D9_push2 M T41 ((na, .inr ((.object "java/lang/String"), "[Ljava/lang/String;", [(.ref x0), (.ref x1), (.ref x2), .null, .null, .null, .null, .null, .null, .null, .null, .null, .null, .null, .null, .null])) :: o_Pain001Reader_Element e (.ref na) (.int (3 : Int32)) (.int (fB + (1 : Int32))) (.int (fB + (1 : Int32))) (.int (0 : Int32)) (.int ft) :: H0) (Lt) 7 135 := B42.front (i := 1) rfl rfl
    have B44 : RH g D9_push2 M T41 (o_Pain001Reader_Element e (.ref na) (.int (3 : Int32)) (.int (fB + (1 : Int32))) (.int (fB + (1 : Int32))) (.int (0 : Int32)) (.int ft) :: (na, .inr ((.object "java/lang/String"), "[Ljava/lang/String;", [(.ref x0), (.ref x1), (.ref x2), .null, .null, .null, .null, .null, .null, .null, .null, .null, .null, .null, .null, .null])) :: H0) (Lt) 7 135 := B43.front (i := 1) rfl rfl
    exact r_ret B44 d9_101 rfl (by decide) (by decide) (fun vm h P => ⟨rfl, (fB + (1 : Int32)), (fB + (1 : Int32)), (0 : Int32), ft, P⟩)
abbrev D9_push3 : DD := (⟨"com/example/polecenie/polecenie/core/Pain001Reader$Element", "push", "(Ljava/lang/String;)V"⟩, prog_35_method_12_code, 2, none, { frames := 4, cells := 3, slots := 49, locals := 54 })
theorem ef_push3 (e x3 : Addr) (m : MethodId) : entryFrame m #[(.ref e), (.ref x3)] 2 = mkF m 0 #[.val (.ref e), .val (.ref x3)] [] := by first | (simp [entryFrame, mkF, argsToLocals, Value.category]; done) | rfl
theorem k_push3 {g : GG} (W : GW g) (e na : Addr) (fb fB fT ft : Int32) (x0 : Addr) (x1 : Addr) (x2 : Addr) (x3 : Addr) (H0 : List Ent) {Lt : List SE} {bx0 : Addr} {xx0 : List Int32} (mx0 : (x0, bx0, 0, xx0.map Value.int) ∈ Lt) (hl0 : xx0.length < 2147483648) {bx1 : Addr} {xx1 : List Int32} (mx1 : (x1, bx1, 0, xx1.map Value.int) ∈ Lt) (hl1 : xx1.length < 2147483648) {bx2 : Addr} {xx2 : List Int32} (mx2 : (x2, bx2, 0, xx2.map Value.int) ∈ Lt) (hl2 : xx2.length < 2147483648) {bx3 : Addr} {xx3 : List Int32} (mx3 : (x3, bx3, 0, xx3.map Value.int) ∈ Lt) (hl3 : xx3.length < 2147483648) : Ct g D9_push3 #[(.ref e), (.ref x3)] (o_Pain001Reader_Element e (.ref na) (.int (3 : Int32)) (.int fb) (.int fB) (.int fT) (.int ft) :: (na, .inr ((.object "java/lang/String"), "[Ljava/lang/String;", [(.ref x0), (.ref x1), (.ref x2), .null, .null, .null, .null, .null, .null, .null, .null, .null, .null, .null, .null, .null])) :: H0) Lt (fun v vm h => v = none ∧ ∃ gb gB gT gt : Int32, Hp g vm h (o_Pain001Reader_Element e (.ref na) (.int (4 : Int32)) (.int gb) (.int gB) (.int gT) (.int gt) :: (na, .inr ((.object "java/lang/String"), "[Ljava/lang/String;", [(.ref x0), (.ref x1), (.ref x2), (.ref x3), .null, .null, .null, .null, .null, .null, .null, .null, .null, .null, .null, .null])) :: H0) Lt) := by
  refine CtW.body W (by decide +kernel) (ef_push3 e x3) ?_
  intro M T B
  refine p_aloadN B d9_0 (pc' := 1) rfl rfl rfl ?_
  refine r_get B d9_1 (pc' := 4) rfl (host := "") (Or.inl (W56 B.gw)) Via.refl (v := (.int (3 : Int32))) (fO (i := 0) (j := 1) rfl rfl) ?_
  intro T1 B2
  refine p_aloadN B2 d9_4 (pc' := 5) rfl rfl rfl ?_
  refine r_get B2 d9_5 (pc' := 8) rfl (host := "") (Or.inl (W49 B2.gw)) Via.refl (v := (.ref na)) (fO (i := 0) (j := 0) rfl rfl) ?_
  intro T3 B4
  refine r_alen B4 d9_8 (pc' := 9) rfl (aH (i := 1) rfl) (z := (16 : Int32)) rfl ?_
  refine b_icT B4 d9_9 (pc' := 32) (show ¬ (3 : Int32) = (16 : Int32) from by decide) (by decide) (by decide) ?_
  refine p_aloadN B4 d9_32 (pc' := 33) rfl rfl rfl ?_
  refine r_get B4 d9_33 (pc' := 36) rfl (host := "") (Or.inl (W49 B4.gw)) Via.refl (v := (.ref na)) (fO (i := 0) (j := 0) rfl rfl) ?_
  intro T5 B6
  refine p_aloadN B6 d9_36 (pc' := 37) rfl rfl rfl ?_
  refine p_dup B6 d9_37 (pc' := 38) rfl rfl ?_
  refine r_get B6 d9_38 (pc' := 41) rfl (host := "") (Or.inl (W56 B6.gw)) Via.refl (v := (.int (3 : Int32))) (fO (i := 0) (j := 1) rfl rfl) ?_
  intro T7 B8
  refine p_dupx1 B8 d9_41 (pc' := 42) rfl rfl rfl ?_
  refine p_iconst B8 d9_42 (pc' := 43) rfl (v := (1 : Int32)) (by decide) ?_
  refine p_iadd B8 d9_43 (pc' := 44) rfl (z := (4 : Int32)) (by decide) ?_
  refine r_put B8 d9_44 (pc' := 47) rfl (host := "") (Or.inl (W56 B8.gw)) Via.refl (i := 0) (j := 1) rfl rfl (Or.inl (W57 B8.gw)) (W41 B8.gw) (ty := .int) (by decide) rfl rfl (H' := (o_Pain001Reader_Element e (.ref na) (.int (4 : Int32)) (.int fb) (.int fB) (.int fT) (.int ft) :: (na, .inr ((.object "java/lang/String"), "[Ljava/lang/String;", [(.ref x0), (.ref x1), (.ref x2), .null, .null, .null, .null, .null, .null, .null, .null, .null, .null, .null, .null, .null])) :: H0)) rfl ?_
  intro T9 B10
  refine p_aloadN B10 d9_47 (pc' := 48) rfl rfl rfl ?_
  refine r_aastore B10 d9_48 (pc' := 49) rfl (i := 1) rfl (by decide) (k := 3) (by decide) (by simp) (Or.inr ⟨_, rfl, (fun vm h E P => Ins.self ((sE mx3) vm h E P))⟩) (H' := (o_Pain001Reader_Element e (.ref na) (.int (4 : Int32)) (.int fb) (.int fB) (.int fT) (.int ft) :: (na, .inr ((.object "java/lang/String"), "[Ljava/lang/String;", [(.ref x0), (.ref x1), (.ref x2), (.ref x3), .null, .null, .null, .null, .null, .null, .null, .null, .null, .null, .null, .null])) :: H0)) rfl ?_
  intro T11 B12
  refine p_aloadN B12 d9_49 (pc' := 50) rfl rfl rfl ?_
  have B13 : RH g D9_push3 M T11 ((na, .inr ((.object "java/lang/String"), "[Ljava/lang/String;", [(.ref x0), (.ref x1), (.ref x2), (.ref x3), .null, .null, .null, .null, .null, .null, .null, .null, .null, .null, .null, .null])) :: o_Pain001Reader_Element e (.ref na) (.int (4 : Int32)) (.int fb) (.int fB) (.int fT) (.int ft) :: H0) (Lt) 0 0 := B12.front (i := 1) rfl rfl
  have B14 : RH g D9_push3 M T11 (o_Pain001Reader_Element e (.ref na) (.int (4 : Int32)) (.int fb) (.int fB) (.int fT) (.int ft) :: (na, .inr ((.object "java/lang/String"), "[Ljava/lang/String;", [(.ref x0), (.ref x1), (.ref x2), (.ref x3), .null, .null, .null, .null, .null, .null, .null, .null, .null, .null, .null, .null])) :: H0) (Lt) 0 0 := B13.front (i := 1) rfl rfl
  refine r_virtual (D' := D10_ib4) B14 d9_50 (pc' := 53) rfl (W58 B14.gw) (W59 B14.gw) (W61 B14.gw) (fun vm0 hZ => notFace_of_selects (args := #[]) (mvT hZ (W61 B14.gw))) (W60 B14.gw) (W42 B14.gw) (W62 B14.gw) (by decide) (fE (i := 0) rfl) (k_ib4 W e na fb fB fT ft x0 x1 x2 x3 H0 mx0 hl0 mx1 hl1 mx2 hl2 mx3 hl3) (argsL := []) (rest := []) rfl pd7 rfl rfl rfl (W := 0) rfl (by decide) (by decide) (cs' := 0) rfl (ss' := 0) rfl (by decide) (by decide) ?_
  intro T15 v16 B17
  replace B17 := Rn.ex B17
  obtain ⟨z, B17⟩ := B17
  replace B17 := Rn.and B17
  obtain ⟨rfl, B17⟩ := B17
  replace B17 := Rn.and B17
  obtain ⟨hz18, B17⟩ := B17
  show Fn g D9_push3 M _ (T15.setTop (mkF M.m 53 #[.val (.ref e), .val (.ref x3)] [(.int z)]))
  rcases hz18 with rfl | rfl
  · refine b_ifT B17 d9_53 (pc' := 79) (show (0 : Int32) = (0 : Int32) from by decide) (by decide) (by decide) ?_
    refine p_aloadN B17 d9_79 (pc' := 80) rfl rfl rfl ?_
    have B19 : RH g D9_push3 M T15 ((na, .inr ((.object "java/lang/String"), "[Ljava/lang/String;", [(.ref x0), (.ref x1), (.ref x2), (.ref x3), .null, .null, .null, .null, .null, .null, .null, .null, .null, .null, .null, .null])) :: o_Pain001Reader_Element e (.ref na) (.int (4 : Int32)) (.int fb) (.int fB) (.int fT) (.int ft) :: H0) (Lt) 0 0 := B17.front (i := 1) rfl rfl
    have B20 : RH g D9_push3 M T15 (o_Pain001Reader_Element e (.ref na) (.int (4 : Int32)) (.int fb) (.int fB) (.int fT) (.int ft) :: (na, .inr ((.object "java/lang/String"), "[Ljava/lang/String;", [(.ref x0), (.ref x1), (.ref x2), (.ref x3), .null, .null, .null, .null, .null, .null, .null, .null, .null, .null, .null, .null])) :: H0) (Lt) 0 0 := B19.front (i := 1) rfl rfl
    refine r_virtual (D' := D11_it4) B20 d9_80 (pc' := 83) rfl (W63 B20.gw) (W64 B20.gw) (W66 B20.gw) (fun vm0 hZ => notFace_of_selects (args := #[]) (mvT hZ (W66 B20.gw))) (W65 B20.gw) (W42 B20.gw) (W67 B20.gw) (by decide) (fE (i := 0) rfl) (k_it4 W e na fb fB fT ft x0 x1 x2 x3 H0 mx0 hl0 mx1 hl1 mx2 hl2 mx3 hl3) (argsL := []) (rest := []) rfl pd7 rfl rfl rfl (W := 0) rfl (by decide) (by decide) (cs' := 3) rfl (ss' := 49) rfl (by decide) (by decide) ?_
    intro T21 v22 B23
    replace B23 := Rn.ex B23
    obtain ⟨z, B23⟩ := B23
    replace B23 := Rn.and B23
    obtain ⟨rfl, B23⟩ := B23
    replace B23 := Rn.and B23
    obtain ⟨hz24, B23⟩ := B23
    show Fn g D9_push3 M _ (T21.setTop (mkF M.m 83 #[.val (.ref e), .val (.ref x3)] [(.int z)]))
    rcases hz24 with rfl | rfl
    · refine b_ifT B23 d9_83 (pc' := 101) (show (0 : Int32) = (0 : Int32) from by decide) (by decide) (by decide) ?_
      have B25 : RH g D9_push3 M T21 ((na, .inr ((.object "java/lang/String"), "[Ljava/lang/String;", [(.ref x0), (.ref x1), (.ref x2), (.ref x3), .null, .null, .null, .null, .null, .null, .null, .null, .null, .null, .null, .null])) :: o_Pain001Reader_Element e (.ref na) (.int (4 : Int32)) (.int fb) (.int fB) (.int fT) (.int ft) :: H0) (Lt) 3 49 := B23.front (i := 1) rfl rfl
      have B26 : RH g D9_push3 M T21 (o_Pain001Reader_Element e (.ref na) (.int (4 : Int32)) (.int fb) (.int fB) (.int fT) (.int ft) :: (na, .inr ((.object "java/lang/String"), "[Ljava/lang/String;", [(.ref x0), (.ref x1), (.ref x2), (.ref x3), .null, .null, .null, .null, .null, .null, .null, .null, .null, .null, .null, .null])) :: H0) (Lt) 3 49 := B25.front (i := 1) rfl rfl
      exact r_ret B26 d9_101 rfl (by decide) (by decide) (fun vm h P => ⟨rfl, fb, fB, fT, ft, P⟩)
    · refine b_ifF B23 d9_83 (pc' := 86) rfl (show ¬ (1 : Int32) = (0 : Int32) from by decide) ?_
      refine p_aloadN B23 d9_86 (pc' := 87) rfl rfl rfl ?_
      refine p_aloadN B23 d9_87 (pc' := 88) rfl rfl rfl ?_
      refine p_dup B23 d9_88 (pc' := 89) rfl rfl ?_
      refine r_get B23 d9_89 (pc' := 92) rfl (host := "") (Or.inl (W101 B23.gw)) Via.refl (v := (.int fT)) (fO (i := 0) (j := 4) rfl rfl) ?_
      intro T27 B28
      refine p_iconst B28 d9_92 (pc' := 93) rfl (v := (1 : Int32)) (by decide) ?_
      refine p_iadd B28 d9_93 (pc' := 94) rfl rfl ?_
      refine p_dupx1 B28 d9_94 (pc' := 95) rfl rfl rfl ?_
      refine r_put B28 d9_95 (pc' := 98) rfl (host := "") (Or.inl (W101 B28.gw)) Via.refl (i := 0) (j := 4) rfl rfl (Or.inl (W102 B28.gw)) (W41 B28.gw) (ty := .int) (by decide) rfl rfl (H' := (o_Pain001Reader_Element e (.ref na) (.int (4 : Int32)) (.int fb) (.int fB) (.int (fT + (1 : Int32))) (.int ft) :: (na, .inr ((.object "java/lang/String"), "[Ljava/lang/String;", [(.ref x0), (.ref x1), (.ref x2), (.ref x3), .null, .null, .null, .null, .null, .null, .null, .null, .null, .null, .null, .null])) :: H0)) rfl ?_
      intro T29 B30
      refine r_put B30 d9_98 (pc' := 101) rfl (host := "") (Or.inl (W104 B30.gw)) Via.refl (i := 0) (j := 5) rfl rfl (Or.inl (W105 B30.gw)) (W41 B30.gw) (ty := .int) (by decide) rfl rfl (H' := (o_Pain001Reader_Element e (.ref na) (.int (4 : Int32)) (.int fb) (.int fB) (.int (fT + (1 : Int32))) (.int (fT + (1 : Int32))) :: (na, .inr ((.object "java/lang/String"), "[Ljava/lang/String;", [(.ref x0), (.ref x1), (.ref x2), (.ref x3), .null, .null, .null, .null, .null, .null, .null, .null, .null, .null, .null, .null])) :: H0)) rfl ?_
      intro T31 B32
      have B33 : RH g D9_push3 M T31 ((na, .inr ((.object "java/lang/String"), "[Ljava/lang/String;", [(.ref x0), (.ref x1), (.ref x2), (.ref x3), .null, .null, .null, .null, .null, .null, .null, .null, .null, .null, .null, .null])) :: o_Pain001Reader_Element e (.ref na) (.int (4 : Int32)) (.int fb) (.int fB) (.int (fT + (1 : Int32))) (.int (fT + (1 : Int32))) :: H0) (Lt) 3 49 := B32.front (i := 1) rfl rfl
      have B34 : RH g D9_push3 M T31 (o_Pain001Reader_Element e (.ref na) (.int (4 : Int32)) (.int fb) (.int fB) (.int (fT + (1 : Int32))) (.int (fT + (1 : Int32))) :: (na, .inr ((.object "java/lang/String"), "[Ljava/lang/String;", [(.ref x0), (.ref x1), (.ref x2), (.ref x3), .null, .null, .null, .null, .null, .null, .null, .null, .null, .null, .null, .null])) :: H0) (Lt) 3 49 := B33.front (i := 1) rfl rfl
      exact r_ret B34 d9_101 rfl (by decide) (by decide) (fun vm h P => ⟨rfl, fb, fB, (fT + (1 : Int32)), (fT + (1 : Int32)), P⟩)
  · refine b_ifF B17 d9_53 (pc' := 56) rfl (show ¬ (1 : Int32) = (0 : Int32) from by decide) ?_
    refine p_aloadN B17 d9_56 (pc' := 57) rfl rfl rfl ?_
    refine p_aloadN B17 d9_57 (pc' := 58) rfl rfl rfl ?_
    refine p_dup B17 d9_58 (pc' := 59) rfl rfl ?_
    refine r_get B17 d9_59 (pc' := 62) rfl (host := "") (Or.inl (W99 B17.gw)) Via.refl (v := (.int fB)) (fO (i := 0) (j := 3) rfl rfl) ?_
    intro T35 B36
    refine p_iconst B36 d9_62 (pc' := 63) rfl (v := (1 : Int32)) (by decide) ?_
    refine p_iadd B36 d9_63 (pc' := 64) rfl rfl ?_
    refine p_dupx1 B36 d9_64 (pc' := 65) rfl rfl rfl ?_
    refine r_put B36 d9_65 (pc' := 68) rfl (host := "") (Or.inl (W99 B36.gw)) Via.refl (i := 0) (j := 3) rfl rfl (Or.inl (W100 B36.gw)) (W41 B36.gw) (ty := .int) (by decide) rfl rfl (H' := (o_Pain001Reader_Element e (.ref na) (.int (4 : Int32)) (.int fb) (.int (fB + (1 : Int32))) (.int fT) (.int ft) :: (na, .inr ((.object "java/lang/String"), "[Ljava/lang/String;", [(.ref x0), (.ref x1), (.ref x2), (.ref x3), .null, .null, .null, .null, .null, .null, .null, .null, .null, .null, .null, .null])) :: H0)) rfl ?_
    intro T37 B38
    refine r_put B38 d9_68 (pc' := 71) rfl (host := "") (Or.inl (W92 B38.gw)) Via.refl (i := 0) (j := 2) rfl rfl (Or.inl (W93 B38.gw)) (W41 B38.gw) (ty := .int) (by decide) rfl rfl (H' := (o_Pain001Reader_Element e (.ref na) (.int (4 : Int32)) (.int (fB + (1 : Int32))) (.int (fB + (1 : Int32))) (.int fT) (.int ft) :: (na, .inr ((.object "java/lang/String"), "[Ljava/lang/String;", [(.ref x0), (.ref x1), (.ref x2), (.ref x3), .null, .null, .null, .null, .null, .null, .null, .null, .null, .null, .null, .null])) :: H0)) rfl ?_
    intro T39 B40
    refine p_aloadN B40 d9_71 (pc' := 72) rfl rfl rfl ?_
    refine p_iconst B40 d9_72 (pc' := 73) rfl (v := (0 : Int32)) (by decide) ?_
    refine r_put B40 d9_73 (pc' := 76) rfl (host := "") (Or.inl (W101 B40.gw)) Via.refl (i := 0) (j := 4) rfl rfl (Or.inl (W102 B40.gw)) (W41 B40.gw) (ty := .int) (by decide) rfl rfl (H' := (o_Pain001Reader_Element e (.ref na) (.int (4 : Int32)) (.int (fB + (1 : Int32))) (.int (fB + (1 : Int32))) (.int (0 : Int32)) (.int ft) :: (na, .inr ((.object "java/lang/String"), "[Ljava/lang/String;", [(.ref x0), (.ref x1), (.ref x2), (.ref x3), .null, .null, .null, .null, .null, .null, .null, .null, .null, .null, .null, .null])) :: H0)) rfl ?_
    intro T41 B42
    refine b_goto B42 d9_76 (pc' := 101) (by decide) (by decide) ?_
    have B43 : RH g D9_push3 M T41 ((na, .inr ((.object "java/lang/String"), "[Ljava/lang/String;", [(.ref x0), (.ref x1), (.ref x2), (.ref x3), .null, .null, .null, .null, .null, .null, .null, .null, .null, .null, .null, .null])) :: o_Pain001Reader_Element e (.ref na) (.int (4 : Int32)) (.int (fB + (1 : Int32))) (.int (fB + (1 : Int32))) (.int (0 : Int32)) (.int ft) :: H0) (Lt) 0 0 := B42.front (i := 1) rfl rfl
    have B44 : RH g D9_push3 M T41 (o_Pain001Reader_Element e (.ref na) (.int (4 : Int32)) (.int (fB + (1 : Int32))) (.int (fB + (1 : Int32))) (.int (0 : Int32)) (.int ft) :: (na, .inr ((.object "java/lang/String"), "[Ljava/lang/String;", [(.ref x0), (.ref x1), (.ref x2), (.ref x3), .null, .null, .null, .null, .null, .null, .null, .null, .null, .null, .null, .null])) :: H0) (Lt) 0 0 := B43.front (i := 1) rfl rfl
    exact r_ret B44 d9_101 rfl (by decide) (by decide) (fun vm h P => ⟨rfl, (fB + (1 : Int32)), (fB + (1 : Int32)), (0 : Int32), ft, P⟩)
abbrev D16_pop2 : DD := (⟨"com/example/polecenie/polecenie/core/Pain001Reader$Element", "pop", "()V"⟩, prog_35_method_13_code, 1, none, { frames := 1, cells := 0, slots := 0, locals := 12 })
theorem ef_pop2 (e : Addr) (m : MethodId) : entryFrame m #[(.ref e)] 1 = mkF m 0 #[.val (.ref e)] [] := by first | (simp [entryFrame, mkF, argsToLocals, Value.category]; done) | rfl
theorem k_pop2 {g : GG} (W : GW g) (e na : Addr) (fb fB fT ft : Int32) (x0 : Addr) (x1 : Addr) (H0 : List Ent) {Lt : List SE} {bx0 : Addr} {xx0 : List Int32} (mx0 : (x0, bx0, 0, xx0.map Value.int) ∈ Lt) (hl0 : xx0.length < 2147483648) {bx1 : Addr} {xx1 : List Int32} (mx1 : (x1, bx1, 0, xx1.map Value.int) ∈ Lt) (hl1 : xx1.length < 2147483648) : Ct g D16_pop2 #[(.ref e)] (o_Pain001Reader_Element e (.ref na) (.int (2 : Int32)) (.int fb) (.int fB) (.int fT) (.int ft) :: (na, .inr ((.object "java/lang/String"), "[Ljava/lang/String;", [(.ref x0), (.ref x1), .null, .null, .null, .null, .null, .null, .null, .null, .null, .null, .null, .null, .null, .null])) :: H0) Lt (fun v vm h => v = none ∧ ∃ gb gB gT gt : Int32, Hp g vm h (o_Pain001Reader_Element e (.ref na) (.int (1 : Int32)) (.int gb) (.int gB) (.int gT) (.int gt) :: (na, .inr ((.object "java/lang/String"), "[Ljava/lang/String;", [(.ref x0), .null, .null, .null, .null, .null, .null, .null, .null, .null, .null, .null, .null, .null, .null, .null])) :: H0) Lt) := by
  refine CtW.body W (by decide +kernel) (ef_pop2 e) ?_
  intro M T B
  refine p_aloadN B d16_0 (pc' := 1) rfl rfl rfl ?_
  have B1 : RH g D16_pop2 M T ((na, .inr ((.object "java/lang/String"), "[Ljava/lang/String;", [(.ref x0), (.ref x1), .null, .null, .null, .null, .null, .null, .null, .null, .null, .null, .null, .null, .null, .null])) :: o_Pain001Reader_Element e (.ref na) (.int (2 : Int32)) (.int fb) (.int fB) (.int fT) (.int ft) :: H0) (Lt) 0 0 := B.front (i := 1) rfl rfl
  have B2 : RH g D16_pop2 M T (o_Pain001Reader_Element e (.ref na) (.int (2 : Int32)) (.int fb) (.int fB) (.int fT) (.int ft) :: (na, .inr ((.object "java/lang/String"), "[Ljava/lang/String;", [(.ref x0), (.ref x1), .null, .null, .null, .null, .null, .null, .null, .null, .null, .null, .null, .null, .null, .null])) :: H0) (Lt) 0 0 := B1.front (i := 1) rfl rfl
  refine r_virtual (D' := D10_ib2) B2 d16_1 (pc' := 4) rfl (W58 B2.gw) (W59 B2.gw) (W61 B2.gw) (fun vm0 hZ => notFace_of_selects (args := #[]) (mvT hZ (W61 B2.gw))) (W60 B2.gw) (W42 B2.gw) (W62 B2.gw) (by decide) (fE (i := 0) rfl) (k_ib2 W e na fb fB fT ft x0 x1 H0 mx0 hl0 mx1 hl1) (argsL := []) (rest := []) rfl pd7 rfl rfl rfl (W := 0) rfl (by decide) (by decide) (cs' := 0) rfl (ss' := 0) rfl (by decide) (by decide) ?_
  intro T3 v4 B5
  replace B5 := Rn.ex B5
  obtain ⟨z, B5⟩ := B5
  replace B5 := Rn.and B5
  obtain ⟨rfl, B5⟩ := B5
  replace B5 := Rn.and B5
  obtain ⟨hz6, B5⟩ := B5
  show Fn g D16_pop2 M _ (T3.setTop (mkF M.m 4 #[.val (.ref e)] [(.int z)]))
  rcases hz6 with rfl | rfl
  · refine b_ifT B5 d16_4 (pc' := 15) (show (0 : Int32) = (0 : Int32) from by decide) (by decide) (by decide) ?_
    refine p_aloadN B5 d16_15 (pc' := 16) rfl rfl rfl ?_
    have B7 : RH g D16_pop2 M T3 ((na, .inr ((.object "java/lang/String"), "[Ljava/lang/String;", [(.ref x0), (.ref x1), .null, .null, .null, .null, .null, .null, .null, .null, .null, .null, .null, .null, .null, .null])) :: o_Pain001Reader_Element e (.ref na) (.int (2 : Int32)) (.int fb) (.int fB) (.int fT) (.int ft) :: H0) (Lt) 0 0 := B5.front (i := 1) rfl rfl
    have B8 : RH g D16_pop2 M T3 (o_Pain001Reader_Element e (.ref na) (.int (2 : Int32)) (.int fb) (.int fB) (.int fT) (.int ft) :: (na, .inr ((.object "java/lang/String"), "[Ljava/lang/String;", [(.ref x0), (.ref x1), .null, .null, .null, .null, .null, .null, .null, .null, .null, .null, .null, .null, .null, .null])) :: H0) (Lt) 0 0 := B7.front (i := 1) rfl rfl
    refine r_virtual (D' := D11_it2) B8 d16_16 (pc' := 19) rfl (W63 B8.gw) (W64 B8.gw) (W66 B8.gw) (fun vm0 hZ => notFace_of_selects (args := #[]) (mvT hZ (W66 B8.gw))) (W65 B8.gw) (W42 B8.gw) (W67 B8.gw) (by decide) (fE (i := 0) rfl) (k_it2 W e na fb fB fT ft x0 x1 H0 mx0 hl0 mx1 hl1) (argsL := []) (rest := []) rfl pd7 rfl rfl rfl (W := 0) rfl (by decide) (by decide) (cs' := 0) rfl (ss' := 0) rfl (by decide) (by decide) ?_
    intro T9 v10 B11
    replace B11 := Rn.ex B11
    obtain ⟨z, B11⟩ := B11
    replace B11 := Rn.and B11
    obtain ⟨rfl, B11⟩ := B11
    replace B11 := Rn.and B11
    obtain ⟨hz12, B11⟩ := B11
    show Fn g D16_pop2 M _ (T9.setTop (mkF M.m 19 #[.val (.ref e)] [(.int z)]))
    rcases hz12 with rfl | rfl
    · refine b_ifT B11 d16_19 (pc' := 27) (show (0 : Int32) = (0 : Int32) from by decide) (by decide) (by decide) ?_
      refine p_aloadN B11 d16_27 (pc' := 28) rfl rfl rfl ?_
      refine r_get B11 d16_28 (pc' := 31) rfl (host := "") (Or.inl (W49 B11.gw)) Via.refl (v := (.ref na)) (fO (i := 0) (j := 0) rfl rfl) ?_
      intro T13 B14
      refine p_aloadN B14 d16_31 (pc' := 32) rfl rfl rfl ?_
      refine p_dup B14 d16_32 (pc' := 33) rfl rfl ?_
      refine r_get B14 d16_33 (pc' := 36) rfl (host := "") (Or.inl (W56 B14.gw)) Via.refl (v := (.int (2 : Int32))) (fO (i := 0) (j := 1) rfl rfl) ?_
      intro T15 B16
      refine p_iconst B16 d16_36 (pc' := 37) rfl (v := (1 : Int32)) (by decide) ?_
      refine p_isub B16 d16_37 (pc' := 38) rfl (z := (1 : Int32)) (by decide) ?_
      refine p_dupx1 B16 d16_38 (pc' := 39) rfl rfl rfl ?_
      refine r_put B16 d16_39 (pc' := 42) rfl (host := "") (Or.inl (W56 B16.gw)) Via.refl (i := 0) (j := 1) rfl rfl (Or.inl (W57 B16.gw)) (W41 B16.gw) (ty := .int) (by decide) rfl rfl (H' := (o_Pain001Reader_Element e (.ref na) (.int (1 : Int32)) (.int fb) (.int fB) (.int fT) (.int ft) :: (na, .inr ((.object "java/lang/String"), "[Ljava/lang/String;", [(.ref x0), (.ref x1), .null, .null, .null, .null, .null, .null, .null, .null, .null, .null, .null, .null, .null, .null])) :: H0)) rfl ?_
      intro T17 B18
      refine p_null B18 d16_42 (pc' := 43) rfl ?_
      refine r_aastore B18 d16_43 (pc' := 44) rfl (i := 1) rfl (by decide) (k := 1) (by decide) (by simp) (Or.inl rfl) (H' := (o_Pain001Reader_Element e (.ref na) (.int (1 : Int32)) (.int fb) (.int fB) (.int fT) (.int ft) :: (na, .inr ((.object "java/lang/String"), "[Ljava/lang/String;", [(.ref x0), .null, .null, .null, .null, .null, .null, .null, .null, .null, .null, .null, .null, .null, .null, .null])) :: H0)) rfl ?_
      intro T19 B20
      have B21 : RH g D16_pop2 M T19 ((na, .inr ((.object "java/lang/String"), "[Ljava/lang/String;", [(.ref x0), .null, .null, .null, .null, .null, .null, .null, .null, .null, .null, .null, .null, .null, .null, .null])) :: o_Pain001Reader_Element e (.ref na) (.int (1 : Int32)) (.int fb) (.int fB) (.int fT) (.int ft) :: H0) (Lt) 0 0 := B20.front (i := 1) rfl rfl
      have B22 : RH g D16_pop2 M T19 (o_Pain001Reader_Element e (.ref na) (.int (1 : Int32)) (.int fb) (.int fB) (.int fT) (.int ft) :: (na, .inr ((.object "java/lang/String"), "[Ljava/lang/String;", [(.ref x0), .null, .null, .null, .null, .null, .null, .null, .null, .null, .null, .null, .null, .null, .null, .null])) :: H0) (Lt) 0 0 := B21.front (i := 1) rfl rfl
      exact r_ret B22 d16_44 rfl (by decide) (by decide) (fun vm h P => ⟨rfl, fb, fB, fT, ft, P⟩)
    · refine b_ifF B11 d16_19 (pc' := 22) rfl (show ¬ (1 : Int32) = (0 : Int32) from by decide) ?_
      refine p_aloadN B11 d16_22 (pc' := 23) rfl rfl rfl ?_
      refine p_iconst B11 d16_23 (pc' := 24) rfl (v := (0 : Int32)) (by decide) ?_
      refine r_put B11 d16_24 (pc' := 27) rfl (host := "") (Or.inl (W104 B11.gw)) Via.refl (i := 0) (j := 5) rfl rfl (Or.inl (W105 B11.gw)) (W41 B11.gw) (ty := .int) (by decide) rfl rfl (H' := (o_Pain001Reader_Element e (.ref na) (.int (2 : Int32)) (.int fb) (.int fB) (.int fT) (.int (0 : Int32)) :: (na, .inr ((.object "java/lang/String"), "[Ljava/lang/String;", [(.ref x0), (.ref x1), .null, .null, .null, .null, .null, .null, .null, .null, .null, .null, .null, .null, .null, .null])) :: H0)) rfl ?_
      intro T23 B24
      refine p_aloadN B24 d16_27 (pc' := 28) rfl rfl rfl ?_
      refine r_get B24 d16_28 (pc' := 31) rfl (host := "") (Or.inl (W49 B24.gw)) Via.refl (v := (.ref na)) (fO (i := 0) (j := 0) rfl rfl) ?_
      intro T25 B26
      refine p_aloadN B26 d16_31 (pc' := 32) rfl rfl rfl ?_
      refine p_dup B26 d16_32 (pc' := 33) rfl rfl ?_
      refine r_get B26 d16_33 (pc' := 36) rfl (host := "") (Or.inl (W56 B26.gw)) Via.refl (v := (.int (2 : Int32))) (fO (i := 0) (j := 1) rfl rfl) ?_
      intro T27 B28
      refine p_iconst B28 d16_36 (pc' := 37) rfl (v := (1 : Int32)) (by decide) ?_
      refine p_isub B28 d16_37 (pc' := 38) rfl (z := (1 : Int32)) (by decide) ?_
      refine p_dupx1 B28 d16_38 (pc' := 39) rfl rfl rfl ?_
      refine r_put B28 d16_39 (pc' := 42) rfl (host := "") (Or.inl (W56 B28.gw)) Via.refl (i := 0) (j := 1) rfl rfl (Or.inl (W57 B28.gw)) (W41 B28.gw) (ty := .int) (by decide) rfl rfl (H' := (o_Pain001Reader_Element e (.ref na) (.int (1 : Int32)) (.int fb) (.int fB) (.int fT) (.int (0 : Int32)) :: (na, .inr ((.object "java/lang/String"), "[Ljava/lang/String;", [(.ref x0), (.ref x1), .null, .null, .null, .null, .null, .null, .null, .null, .null, .null, .null, .null, .null, .null])) :: H0)) rfl ?_
      intro T29 B30
      refine p_null B30 d16_42 (pc' := 43) rfl ?_
      refine r_aastore B30 d16_43 (pc' := 44) rfl (i := 1) rfl (by decide) (k := 1) (by decide) (by simp) (Or.inl rfl) (H' := (o_Pain001Reader_Element e (.ref na) (.int (1 : Int32)) (.int fb) (.int fB) (.int fT) (.int (0 : Int32)) :: (na, .inr ((.object "java/lang/String"), "[Ljava/lang/String;", [(.ref x0), .null, .null, .null, .null, .null, .null, .null, .null, .null, .null, .null, .null, .null, .null, .null])) :: H0)) rfl ?_
      intro T31 B32
      have B33 : RH g D16_pop2 M T31 ((na, .inr ((.object "java/lang/String"), "[Ljava/lang/String;", [(.ref x0), .null, .null, .null, .null, .null, .null, .null, .null, .null, .null, .null, .null, .null, .null, .null])) :: o_Pain001Reader_Element e (.ref na) (.int (1 : Int32)) (.int fb) (.int fB) (.int fT) (.int (0 : Int32)) :: H0) (Lt) 0 0 := B32.front (i := 1) rfl rfl
      have B34 : RH g D16_pop2 M T31 (o_Pain001Reader_Element e (.ref na) (.int (1 : Int32)) (.int fb) (.int fB) (.int fT) (.int (0 : Int32)) :: (na, .inr ((.object "java/lang/String"), "[Ljava/lang/String;", [(.ref x0), .null, .null, .null, .null, .null, .null, .null, .null, .null, .null, .null, .null, .null, .null, .null])) :: H0) (Lt) 0 0 := B33.front (i := 1) rfl rfl
      exact r_ret B34 d16_44 rfl (by decide) (by decide) (fun vm h P => ⟨rfl, fb, fB, fT, (0 : Int32), P⟩)
  · refine b_ifF B5 d16_4 (pc' := 7) rfl (show ¬ (1 : Int32) = (0 : Int32) from by decide) ?_
    refine p_aloadN B5 d16_7 (pc' := 8) rfl rfl rfl ?_
    refine p_iconst B5 d16_8 (pc' := 9) rfl (v := (0 : Int32)) (by decide) ?_
    refine r_put B5 d16_9 (pc' := 12) rfl (host := "") (Or.inl (W92 B5.gw)) Via.refl (i := 0) (j := 2) rfl rfl (Or.inl (W93 B5.gw)) (W41 B5.gw) (ty := .int) (by decide) rfl rfl (H' := (o_Pain001Reader_Element e (.ref na) (.int (2 : Int32)) (.int (0 : Int32)) (.int fB) (.int fT) (.int ft) :: (na, .inr ((.object "java/lang/String"), "[Ljava/lang/String;", [(.ref x0), (.ref x1), .null, .null, .null, .null, .null, .null, .null, .null, .null, .null, .null, .null, .null, .null])) :: H0)) rfl ?_
    intro T35 B36
    refine b_goto B36 d16_12 (pc' := 27) (by decide) (by decide) ?_
    refine p_aloadN B36 d16_27 (pc' := 28) rfl rfl rfl ?_
    refine r_get B36 d16_28 (pc' := 31) rfl (host := "") (Or.inl (W49 B36.gw)) Via.refl (v := (.ref na)) (fO (i := 0) (j := 0) rfl rfl) ?_
    intro T37 B38
    refine p_aloadN B38 d16_31 (pc' := 32) rfl rfl rfl ?_
    refine p_dup B38 d16_32 (pc' := 33) rfl rfl ?_
    refine r_get B38 d16_33 (pc' := 36) rfl (host := "") (Or.inl (W56 B38.gw)) Via.refl (v := (.int (2 : Int32))) (fO (i := 0) (j := 1) rfl rfl) ?_
    intro T39 B40
    refine p_iconst B40 d16_36 (pc' := 37) rfl (v := (1 : Int32)) (by decide) ?_
    refine p_isub B40 d16_37 (pc' := 38) rfl (z := (1 : Int32)) (by decide) ?_
    refine p_dupx1 B40 d16_38 (pc' := 39) rfl rfl rfl ?_
    refine r_put B40 d16_39 (pc' := 42) rfl (host := "") (Or.inl (W56 B40.gw)) Via.refl (i := 0) (j := 1) rfl rfl (Or.inl (W57 B40.gw)) (W41 B40.gw) (ty := .int) (by decide) rfl rfl (H' := (o_Pain001Reader_Element e (.ref na) (.int (1 : Int32)) (.int (0 : Int32)) (.int fB) (.int fT) (.int ft) :: (na, .inr ((.object "java/lang/String"), "[Ljava/lang/String;", [(.ref x0), (.ref x1), .null, .null, .null, .null, .null, .null, .null, .null, .null, .null, .null, .null, .null, .null])) :: H0)) rfl ?_
    intro T41 B42
    refine p_null B42 d16_42 (pc' := 43) rfl ?_
    refine r_aastore B42 d16_43 (pc' := 44) rfl (i := 1) rfl (by decide) (k := 1) (by decide) (by simp) (Or.inl rfl) (H' := (o_Pain001Reader_Element e (.ref na) (.int (1 : Int32)) (.int (0 : Int32)) (.int fB) (.int fT) (.int ft) :: (na, .inr ((.object "java/lang/String"), "[Ljava/lang/String;", [(.ref x0), .null, .null, .null, .null, .null, .null, .null, .null, .null, .null, .null, .null, .null, .null, .null])) :: H0)) rfl ?_
    intro T43 B44
    have B45 : RH g D16_pop2 M T43 ((na, .inr ((.object "java/lang/String"), "[Ljava/lang/String;", [(.ref x0), .null, .null, .null, .null, .null, .null, .null, .null, .null, .null, .null, .null, .null, .null, .null])) :: o_Pain001Reader_Element e (.ref na) (.int (1 : Int32)) (.int (0 : Int32)) (.int fB) (.int fT) (.int ft) :: H0) (Lt) 0 0 := B44.front (i := 1) rfl rfl
    have B46 : RH g D16_pop2 M T43 (o_Pain001Reader_Element e (.ref na) (.int (1 : Int32)) (.int (0 : Int32)) (.int fB) (.int fT) (.int ft) :: (na, .inr ((.object "java/lang/String"), "[Ljava/lang/String;", [(.ref x0), .null, .null, .null, .null, .null, .null, .null, .null, .null, .null, .null, .null, .null, .null, .null])) :: H0) (Lt) 0 0 := B45.front (i := 1) rfl rfl
    exact r_ret B46 d16_44 rfl (by decide) (by decide) (fun vm h P => ⟨rfl, (0 : Int32), fB, fT, ft, P⟩)
abbrev D16_pop3 : DD := (⟨"com/example/polecenie/polecenie/core/Pain001Reader$Element", "pop", "()V"⟩, prog_35_method_13_code, 1, none, { frames := 4, cells := 7, slots := 135, locals := 54 })
theorem ef_pop3 (e : Addr) (m : MethodId) : entryFrame m #[(.ref e)] 1 = mkF m 0 #[.val (.ref e)] [] := by first | (simp [entryFrame, mkF, argsToLocals, Value.category]; done) | rfl
theorem k_pop3 {g : GG} (W : GW g) (e na : Addr) (fb fB fT ft : Int32) (x0 : Addr) (x1 : Addr) (x2 : Addr) (H0 : List Ent) {Lt : List SE} {bx0 : Addr} {xx0 : List Int32} (mx0 : (x0, bx0, 0, xx0.map Value.int) ∈ Lt) (hl0 : xx0.length < 2147483648) {bx1 : Addr} {xx1 : List Int32} (mx1 : (x1, bx1, 0, xx1.map Value.int) ∈ Lt) (hl1 : xx1.length < 2147483648) {bx2 : Addr} {xx2 : List Int32} (mx2 : (x2, bx2, 0, xx2.map Value.int) ∈ Lt) (hl2 : xx2.length < 2147483648) : Ct g D16_pop3 #[(.ref e)] (o_Pain001Reader_Element e (.ref na) (.int (3 : Int32)) (.int fb) (.int fB) (.int fT) (.int ft) :: (na, .inr ((.object "java/lang/String"), "[Ljava/lang/String;", [(.ref x0), (.ref x1), (.ref x2), .null, .null, .null, .null, .null, .null, .null, .null, .null, .null, .null, .null, .null])) :: H0) Lt (fun v vm h => v = none ∧ ∃ gb gB gT gt : Int32, Hp g vm h (o_Pain001Reader_Element e (.ref na) (.int (2 : Int32)) (.int gb) (.int gB) (.int gT) (.int gt) :: (na, .inr ((.object "java/lang/String"), "[Ljava/lang/String;", [(.ref x0), (.ref x1), .null, .null, .null, .null, .null, .null, .null, .null, .null, .null, .null, .null, .null, .null])) :: H0) Lt) := by
  refine CtW.body W (by decide +kernel) (ef_pop3 e) ?_
  intro M T B
  refine p_aloadN B d16_0 (pc' := 1) rfl rfl rfl ?_
  have B1 : RH g D16_pop3 M T ((na, .inr ((.object "java/lang/String"), "[Ljava/lang/String;", [(.ref x0), (.ref x1), (.ref x2), .null, .null, .null, .null, .null, .null, .null, .null, .null, .null, .null, .null, .null])) :: o_Pain001Reader_Element e (.ref na) (.int (3 : Int32)) (.int fb) (.int fB) (.int fT) (.int ft) :: H0) (Lt) 0 0 := B.front (i := 1) rfl rfl
  have B2 : RH g D16_pop3 M T (o_Pain001Reader_Element e (.ref na) (.int (3 : Int32)) (.int fb) (.int fB) (.int fT) (.int ft) :: (na, .inr ((.object "java/lang/String"), "[Ljava/lang/String;", [(.ref x0), (.ref x1), (.ref x2), .null, .null, .null, .null, .null, .null, .null, .null, .null, .null, .null, .null, .null])) :: H0) (Lt) 0 0 := B1.front (i := 1) rfl rfl
  refine r_virtual (D' := D10_ib3) B2 d16_1 (pc' := 4) rfl (W58 B2.gw) (W59 B2.gw) (W61 B2.gw) (fun vm0 hZ => notFace_of_selects (args := #[]) (mvT hZ (W61 B2.gw))) (W60 B2.gw) (W42 B2.gw) (W62 B2.gw) (by decide) (fE (i := 0) rfl) (k_ib3 W e na fb fB fT ft x0 x1 x2 H0 mx0 hl0 mx1 hl1 mx2 hl2) (argsL := []) (rest := []) rfl pd7 rfl rfl rfl (W := 0) rfl (by decide) (by decide) (cs' := 7) rfl (ss' := 135) rfl (by decide) (by decide) ?_
  intro T3 v4 B5
  replace B5 := Rn.ex B5
  obtain ⟨z, B5⟩ := B5
  replace B5 := Rn.and B5
  obtain ⟨rfl, B5⟩ := B5
  replace B5 := Rn.and B5
  obtain ⟨hz6, B5⟩ := B5
  show Fn g D16_pop3 M _ (T3.setTop (mkF M.m 4 #[.val (.ref e)] [(.int z)]))
  rcases hz6 with rfl | rfl
  · refine b_ifT B5 d16_4 (pc' := 15) (show (0 : Int32) = (0 : Int32) from by decide) (by decide) (by decide) ?_
    refine p_aloadN B5 d16_15 (pc' := 16) rfl rfl rfl ?_
    have B7 : RH g D16_pop3 M T3 ((na, .inr ((.object "java/lang/String"), "[Ljava/lang/String;", [(.ref x0), (.ref x1), (.ref x2), .null, .null, .null, .null, .null, .null, .null, .null, .null, .null, .null, .null, .null])) :: o_Pain001Reader_Element e (.ref na) (.int (3 : Int32)) (.int fb) (.int fB) (.int fT) (.int ft) :: H0) (Lt) 7 135 := B5.front (i := 1) rfl rfl
    have B8 : RH g D16_pop3 M T3 (o_Pain001Reader_Element e (.ref na) (.int (3 : Int32)) (.int fb) (.int fB) (.int fT) (.int ft) :: (na, .inr ((.object "java/lang/String"), "[Ljava/lang/String;", [(.ref x0), (.ref x1), (.ref x2), .null, .null, .null, .null, .null, .null, .null, .null, .null, .null, .null, .null, .null])) :: H0) (Lt) 7 135 := B7.front (i := 1) rfl rfl
    refine r_virtual (D' := D11_it3) B8 d16_16 (pc' := 19) rfl (W63 B8.gw) (W64 B8.gw) (W66 B8.gw) (fun vm0 hZ => notFace_of_selects (args := #[]) (mvT hZ (W66 B8.gw))) (W65 B8.gw) (W42 B8.gw) (W67 B8.gw) (by decide) (fE (i := 0) rfl) (k_it3 W e na fb fB fT ft x0 x1 x2 H0 mx0 hl0 mx1 hl1 mx2 hl2) (argsL := []) (rest := []) rfl pd7 rfl rfl rfl (W := 0) rfl (by decide) (by decide) (cs' := 7) rfl (ss' := 135) rfl (by decide) (by decide) ?_
    intro T9 v10 B11
    replace B11 := Rn.ex B11
    obtain ⟨z, B11⟩ := B11
    replace B11 := Rn.and B11
    obtain ⟨rfl, B11⟩ := B11
    replace B11 := Rn.and B11
    obtain ⟨hz12, B11⟩ := B11
    show Fn g D16_pop3 M _ (T9.setTop (mkF M.m 19 #[.val (.ref e)] [(.int z)]))
    rcases hz12 with rfl | rfl
    · refine b_ifT B11 d16_19 (pc' := 27) (show (0 : Int32) = (0 : Int32) from by decide) (by decide) (by decide) ?_
      refine p_aloadN B11 d16_27 (pc' := 28) rfl rfl rfl ?_
      refine r_get B11 d16_28 (pc' := 31) rfl (host := "") (Or.inl (W49 B11.gw)) Via.refl (v := (.ref na)) (fO (i := 0) (j := 0) rfl rfl) ?_
      intro T13 B14
      refine p_aloadN B14 d16_31 (pc' := 32) rfl rfl rfl ?_
      refine p_dup B14 d16_32 (pc' := 33) rfl rfl ?_
      refine r_get B14 d16_33 (pc' := 36) rfl (host := "") (Or.inl (W56 B14.gw)) Via.refl (v := (.int (3 : Int32))) (fO (i := 0) (j := 1) rfl rfl) ?_
      intro T15 B16
      refine p_iconst B16 d16_36 (pc' := 37) rfl (v := (1 : Int32)) (by decide) ?_
      refine p_isub B16 d16_37 (pc' := 38) rfl (z := (2 : Int32)) (by decide) ?_
      refine p_dupx1 B16 d16_38 (pc' := 39) rfl rfl rfl ?_
      refine r_put B16 d16_39 (pc' := 42) rfl (host := "") (Or.inl (W56 B16.gw)) Via.refl (i := 0) (j := 1) rfl rfl (Or.inl (W57 B16.gw)) (W41 B16.gw) (ty := .int) (by decide) rfl rfl (H' := (o_Pain001Reader_Element e (.ref na) (.int (2 : Int32)) (.int fb) (.int fB) (.int fT) (.int ft) :: (na, .inr ((.object "java/lang/String"), "[Ljava/lang/String;", [(.ref x0), (.ref x1), (.ref x2), .null, .null, .null, .null, .null, .null, .null, .null, .null, .null, .null, .null, .null])) :: H0)) rfl ?_
      intro T17 B18
      refine p_null B18 d16_42 (pc' := 43) rfl ?_
      refine r_aastore B18 d16_43 (pc' := 44) rfl (i := 1) rfl (by decide) (k := 2) (by decide) (by simp) (Or.inl rfl) (H' := (o_Pain001Reader_Element e (.ref na) (.int (2 : Int32)) (.int fb) (.int fB) (.int fT) (.int ft) :: (na, .inr ((.object "java/lang/String"), "[Ljava/lang/String;", [(.ref x0), (.ref x1), .null, .null, .null, .null, .null, .null, .null, .null, .null, .null, .null, .null, .null, .null])) :: H0)) rfl ?_
      intro T19 B20
      have B21 : RH g D16_pop3 M T19 ((na, .inr ((.object "java/lang/String"), "[Ljava/lang/String;", [(.ref x0), (.ref x1), .null, .null, .null, .null, .null, .null, .null, .null, .null, .null, .null, .null, .null, .null])) :: o_Pain001Reader_Element e (.ref na) (.int (2 : Int32)) (.int fb) (.int fB) (.int fT) (.int ft) :: H0) (Lt) 7 135 := B20.front (i := 1) rfl rfl
      have B22 : RH g D16_pop3 M T19 (o_Pain001Reader_Element e (.ref na) (.int (2 : Int32)) (.int fb) (.int fB) (.int fT) (.int ft) :: (na, .inr ((.object "java/lang/String"), "[Ljava/lang/String;", [(.ref x0), (.ref x1), .null, .null, .null, .null, .null, .null, .null, .null, .null, .null, .null, .null, .null, .null])) :: H0) (Lt) 7 135 := B21.front (i := 1) rfl rfl
      exact r_ret B22 d16_44 rfl (by decide) (by decide) (fun vm h P => ⟨rfl, fb, fB, fT, ft, P⟩)
    · refine b_ifF B11 d16_19 (pc' := 22) rfl (show ¬ (1 : Int32) = (0 : Int32) from by decide) ?_
      refine p_aloadN B11 d16_22 (pc' := 23) rfl rfl rfl ?_
      refine p_iconst B11 d16_23 (pc' := 24) rfl (v := (0 : Int32)) (by decide) ?_
      refine r_put B11 d16_24 (pc' := 27) rfl (host := "") (Or.inl (W104 B11.gw)) Via.refl (i := 0) (j := 5) rfl rfl (Or.inl (W105 B11.gw)) (W41 B11.gw) (ty := .int) (by decide) rfl rfl (H' := (o_Pain001Reader_Element e (.ref na) (.int (3 : Int32)) (.int fb) (.int fB) (.int fT) (.int (0 : Int32)) :: (na, .inr ((.object "java/lang/String"), "[Ljava/lang/String;", [(.ref x0), (.ref x1), (.ref x2), .null, .null, .null, .null, .null, .null, .null, .null, .null, .null, .null, .null, .null])) :: H0)) rfl ?_
      intro T23 B24
      refine p_aloadN B24 d16_27 (pc' := 28) rfl rfl rfl ?_
      refine r_get B24 d16_28 (pc' := 31) rfl (host := "") (Or.inl (W49 B24.gw)) Via.refl (v := (.ref na)) (fO (i := 0) (j := 0) rfl rfl) ?_
      intro T25 B26
      refine p_aloadN B26 d16_31 (pc' := 32) rfl rfl rfl ?_
      refine p_dup B26 d16_32 (pc' := 33) rfl rfl ?_
      refine r_get B26 d16_33 (pc' := 36) rfl (host := "") (Or.inl (W56 B26.gw)) Via.refl (v := (.int (3 : Int32))) (fO (i := 0) (j := 1) rfl rfl) ?_
      intro T27 B28
      refine p_iconst B28 d16_36 (pc' := 37) rfl (v := (1 : Int32)) (by decide) ?_
      refine p_isub B28 d16_37 (pc' := 38) rfl (z := (2 : Int32)) (by decide) ?_
      refine p_dupx1 B28 d16_38 (pc' := 39) rfl rfl rfl ?_
      refine r_put B28 d16_39 (pc' := 42) rfl (host := "") (Or.inl (W56 B28.gw)) Via.refl (i := 0) (j := 1) rfl rfl (Or.inl (W57 B28.gw)) (W41 B28.gw) (ty := .int) (by decide) rfl rfl (H' := (o_Pain001Reader_Element e (.ref na) (.int (2 : Int32)) (.int fb) (.int fB) (.int fT) (.int (0 : Int32)) :: (na, .inr ((.object "java/lang/String"), "[Ljava/lang/String;", [(.ref x0), (.ref x1), (.ref x2), .null, .null, .null, .null, .null, .null, .null, .null, .null, .null, .null, .null, .null])) :: H0)) rfl ?_
      intro T29 B30
      refine p_null B30 d16_42 (pc' := 43) rfl ?_
      refine r_aastore B30 d16_43 (pc' := 44) rfl (i := 1) rfl (by decide) (k := 2) (by decide) (by simp) (Or.inl rfl) (H' := (o_Pain001Reader_Element e (.ref na) (.int (2 : Int32)) (.int fb) (.int fB) (.int fT) (.int (0 : Int32)) :: (na, .inr ((.object "java/lang/String"), "[Ljava/lang/String;", [(.ref x0), (.ref x1), .null, .null, .null, .null, .null, .null, .null, .null, .null, .null, .null, .null, .null, .null])) :: H0)) rfl ?_
      intro T31 B32
      have B33 : RH g D16_pop3 M T31 ((na, .inr ((.object "java/lang/String"), "[Ljava/lang/String;", [(.ref x0), (.ref x1), .null, .null, .null, .null, .null, .null, .null, .null, .null, .null, .null, .null, .null, .null])) :: o_Pain001Reader_Element e (.ref na) (.int (2 : Int32)) (.int fb) (.int fB) (.int fT) (.int (0 : Int32)) :: H0) (Lt) 7 135 := B32.front (i := 1) rfl rfl
      have B34 : RH g D16_pop3 M T31 (o_Pain001Reader_Element e (.ref na) (.int (2 : Int32)) (.int fb) (.int fB) (.int fT) (.int (0 : Int32)) :: (na, .inr ((.object "java/lang/String"), "[Ljava/lang/String;", [(.ref x0), (.ref x1), .null, .null, .null, .null, .null, .null, .null, .null, .null, .null, .null, .null, .null, .null])) :: H0) (Lt) 7 135 := B33.front (i := 1) rfl rfl
      exact r_ret B34 d16_44 rfl (by decide) (by decide) (fun vm h P => ⟨rfl, fb, fB, fT, (0 : Int32), P⟩)
  · refine b_ifF B5 d16_4 (pc' := 7) rfl (show ¬ (1 : Int32) = (0 : Int32) from by decide) ?_
    refine p_aloadN B5 d16_7 (pc' := 8) rfl rfl rfl ?_
    refine p_iconst B5 d16_8 (pc' := 9) rfl (v := (0 : Int32)) (by decide) ?_
    refine r_put B5 d16_9 (pc' := 12) rfl (host := "") (Or.inl (W92 B5.gw)) Via.refl (i := 0) (j := 2) rfl rfl (Or.inl (W93 B5.gw)) (W41 B5.gw) (ty := .int) (by decide) rfl rfl (H' := (o_Pain001Reader_Element e (.ref na) (.int (3 : Int32)) (.int (0 : Int32)) (.int fB) (.int fT) (.int ft) :: (na, .inr ((.object "java/lang/String"), "[Ljava/lang/String;", [(.ref x0), (.ref x1), (.ref x2), .null, .null, .null, .null, .null, .null, .null, .null, .null, .null, .null, .null, .null])) :: H0)) rfl ?_
    intro T35 B36
    refine b_goto B36 d16_12 (pc' := 27) (by decide) (by decide) ?_
    refine p_aloadN B36 d16_27 (pc' := 28) rfl rfl rfl ?_
    refine r_get B36 d16_28 (pc' := 31) rfl (host := "") (Or.inl (W49 B36.gw)) Via.refl (v := (.ref na)) (fO (i := 0) (j := 0) rfl rfl) ?_
    intro T37 B38
    refine p_aloadN B38 d16_31 (pc' := 32) rfl rfl rfl ?_
    refine p_dup B38 d16_32 (pc' := 33) rfl rfl ?_
    refine r_get B38 d16_33 (pc' := 36) rfl (host := "") (Or.inl (W56 B38.gw)) Via.refl (v := (.int (3 : Int32))) (fO (i := 0) (j := 1) rfl rfl) ?_
    intro T39 B40
    refine p_iconst B40 d16_36 (pc' := 37) rfl (v := (1 : Int32)) (by decide) ?_
    refine p_isub B40 d16_37 (pc' := 38) rfl (z := (2 : Int32)) (by decide) ?_
    refine p_dupx1 B40 d16_38 (pc' := 39) rfl rfl rfl ?_
    refine r_put B40 d16_39 (pc' := 42) rfl (host := "") (Or.inl (W56 B40.gw)) Via.refl (i := 0) (j := 1) rfl rfl (Or.inl (W57 B40.gw)) (W41 B40.gw) (ty := .int) (by decide) rfl rfl (H' := (o_Pain001Reader_Element e (.ref na) (.int (2 : Int32)) (.int (0 : Int32)) (.int fB) (.int fT) (.int ft) :: (na, .inr ((.object "java/lang/String"), "[Ljava/lang/String;", [(.ref x0), (.ref x1), (.ref x2), .null, .null, .null, .null, .null, .null, .null, .null, .null, .null, .null, .null, .null])) :: H0)) rfl ?_
    intro T41 B42
    refine p_null B42 d16_42 (pc' := 43) rfl ?_
    refine r_aastore B42 d16_43 (pc' := 44) rfl (i := 1) rfl (by decide) (k := 2) (by decide) (by simp) (Or.inl rfl) (H' := (o_Pain001Reader_Element e (.ref na) (.int (2 : Int32)) (.int (0 : Int32)) (.int fB) (.int fT) (.int ft) :: (na, .inr ((.object "java/lang/String"), "[Ljava/lang/String;", [(.ref x0), (.ref x1), .null, .null, .null, .null, .null, .null, .null, .null, .null, .null, .null, .null, .null, .null])) :: H0)) rfl ?_
    intro T43 B44
    have B45 : RH g D16_pop3 M T43 ((na, .inr ((.object "java/lang/String"), "[Ljava/lang/String;", [(.ref x0), (.ref x1), .null, .null, .null, .null, .null, .null, .null, .null, .null, .null, .null, .null, .null, .null])) :: o_Pain001Reader_Element e (.ref na) (.int (2 : Int32)) (.int (0 : Int32)) (.int fB) (.int fT) (.int ft) :: H0) (Lt) 7 135 := B44.front (i := 1) rfl rfl
    have B46 : RH g D16_pop3 M T43 (o_Pain001Reader_Element e (.ref na) (.int (2 : Int32)) (.int (0 : Int32)) (.int fB) (.int fT) (.int ft) :: (na, .inr ((.object "java/lang/String"), "[Ljava/lang/String;", [(.ref x0), (.ref x1), .null, .null, .null, .null, .null, .null, .null, .null, .null, .null, .null, .null, .null, .null])) :: H0) (Lt) 7 135 := B45.front (i := 1) rfl rfl
    exact r_ret B46 d16_44 rfl (by decide) (by decide) (fun vm h P => ⟨rfl, (0 : Int32), fB, fT, ft, P⟩)
abbrev D16_pop4 : DD := (⟨"com/example/polecenie/polecenie/core/Pain001Reader$Element", "pop", "()V"⟩, prog_35_method_13_code, 1, none, { frames := 4, cells := 3, slots := 49, locals := 54 })
theorem ef_pop4 (e : Addr) (m : MethodId) : entryFrame m #[(.ref e)] 1 = mkF m 0 #[.val (.ref e)] [] := by first | (simp [entryFrame, mkF, argsToLocals, Value.category]; done) | rfl
theorem k_pop4 {g : GG} (W : GW g) (e na : Addr) (fb fB fT ft : Int32) (x0 : Addr) (x1 : Addr) (x2 : Addr) (x3 : Addr) (H0 : List Ent) {Lt : List SE} {bx0 : Addr} {xx0 : List Int32} (mx0 : (x0, bx0, 0, xx0.map Value.int) ∈ Lt) (hl0 : xx0.length < 2147483648) {bx1 : Addr} {xx1 : List Int32} (mx1 : (x1, bx1, 0, xx1.map Value.int) ∈ Lt) (hl1 : xx1.length < 2147483648) {bx2 : Addr} {xx2 : List Int32} (mx2 : (x2, bx2, 0, xx2.map Value.int) ∈ Lt) (hl2 : xx2.length < 2147483648) {bx3 : Addr} {xx3 : List Int32} (mx3 : (x3, bx3, 0, xx3.map Value.int) ∈ Lt) (hl3 : xx3.length < 2147483648) : Ct g D16_pop4 #[(.ref e)] (o_Pain001Reader_Element e (.ref na) (.int (4 : Int32)) (.int fb) (.int fB) (.int fT) (.int ft) :: (na, .inr ((.object "java/lang/String"), "[Ljava/lang/String;", [(.ref x0), (.ref x1), (.ref x2), (.ref x3), .null, .null, .null, .null, .null, .null, .null, .null, .null, .null, .null, .null])) :: H0) Lt (fun v vm h => v = none ∧ ∃ gb gB gT gt : Int32, Hp g vm h (o_Pain001Reader_Element e (.ref na) (.int (3 : Int32)) (.int gb) (.int gB) (.int gT) (.int gt) :: (na, .inr ((.object "java/lang/String"), "[Ljava/lang/String;", [(.ref x0), (.ref x1), (.ref x2), .null, .null, .null, .null, .null, .null, .null, .null, .null, .null, .null, .null, .null])) :: H0) Lt) := by
  refine CtW.body W (by decide +kernel) (ef_pop4 e) ?_
  intro M T B
  refine p_aloadN B d16_0 (pc' := 1) rfl rfl rfl ?_
  have B1 : RH g D16_pop4 M T ((na, .inr ((.object "java/lang/String"), "[Ljava/lang/String;", [(.ref x0), (.ref x1), (.ref x2), (.ref x3), .null, .null, .null, .null, .null, .null, .null, .null, .null, .null, .null, .null])) :: o_Pain001Reader_Element e (.ref na) (.int (4 : Int32)) (.int fb) (.int fB) (.int fT) (.int ft) :: H0) (Lt) 0 0 := B.front (i := 1) rfl rfl
  have B2 : RH g D16_pop4 M T (o_Pain001Reader_Element e (.ref na) (.int (4 : Int32)) (.int fb) (.int fB) (.int fT) (.int ft) :: (na, .inr ((.object "java/lang/String"), "[Ljava/lang/String;", [(.ref x0), (.ref x1), (.ref x2), (.ref x3), .null, .null, .null, .null, .null, .null, .null, .null, .null, .null, .null, .null])) :: H0) (Lt) 0 0 := B1.front (i := 1) rfl rfl
  refine r_virtual (D' := D10_ib4) B2 d16_1 (pc' := 4) rfl (W58 B2.gw) (W59 B2.gw) (W61 B2.gw) (fun vm0 hZ => notFace_of_selects (args := #[]) (mvT hZ (W61 B2.gw))) (W60 B2.gw) (W42 B2.gw) (W62 B2.gw) (by decide) (fE (i := 0) rfl) (k_ib4 W e na fb fB fT ft x0 x1 x2 x3 H0 mx0 hl0 mx1 hl1 mx2 hl2 mx3 hl3) (argsL := []) (rest := []) rfl pd7 rfl rfl rfl (W := 0) rfl (by decide) (by decide) (cs' := 0) rfl (ss' := 0) rfl (by decide) (by decide) ?_
  intro T3 v4 B5
  replace B5 := Rn.ex B5
  obtain ⟨z, B5⟩ := B5
  replace B5 := Rn.and B5
  obtain ⟨rfl, B5⟩ := B5
  replace B5 := Rn.and B5
  obtain ⟨hz6, B5⟩ := B5
  show Fn g D16_pop4 M _ (T3.setTop (mkF M.m 4 #[.val (.ref e)] [(.int z)]))
  rcases hz6 with rfl | rfl
  · refine b_ifT B5 d16_4 (pc' := 15) (show (0 : Int32) = (0 : Int32) from by decide) (by decide) (by decide) ?_
    refine p_aloadN B5 d16_15 (pc' := 16) rfl rfl rfl ?_
    have B7 : RH g D16_pop4 M T3 ((na, .inr ((.object "java/lang/String"), "[Ljava/lang/String;", [(.ref x0), (.ref x1), (.ref x2), (.ref x3), .null, .null, .null, .null, .null, .null, .null, .null, .null, .null, .null, .null])) :: o_Pain001Reader_Element e (.ref na) (.int (4 : Int32)) (.int fb) (.int fB) (.int fT) (.int ft) :: H0) (Lt) 0 0 := B5.front (i := 1) rfl rfl
    have B8 : RH g D16_pop4 M T3 (o_Pain001Reader_Element e (.ref na) (.int (4 : Int32)) (.int fb) (.int fB) (.int fT) (.int ft) :: (na, .inr ((.object "java/lang/String"), "[Ljava/lang/String;", [(.ref x0), (.ref x1), (.ref x2), (.ref x3), .null, .null, .null, .null, .null, .null, .null, .null, .null, .null, .null, .null])) :: H0) (Lt) 0 0 := B7.front (i := 1) rfl rfl
    refine r_virtual (D' := D11_it4) B8 d16_16 (pc' := 19) rfl (W63 B8.gw) (W64 B8.gw) (W66 B8.gw) (fun vm0 hZ => notFace_of_selects (args := #[]) (mvT hZ (W66 B8.gw))) (W65 B8.gw) (W42 B8.gw) (W67 B8.gw) (by decide) (fE (i := 0) rfl) (k_it4 W e na fb fB fT ft x0 x1 x2 x3 H0 mx0 hl0 mx1 hl1 mx2 hl2 mx3 hl3) (argsL := []) (rest := []) rfl pd7 rfl rfl rfl (W := 0) rfl (by decide) (by decide) (cs' := 3) rfl (ss' := 49) rfl (by decide) (by decide) ?_
    intro T9 v10 B11
    replace B11 := Rn.ex B11
    obtain ⟨z, B11⟩ := B11
    replace B11 := Rn.and B11
    obtain ⟨rfl, B11⟩ := B11
    replace B11 := Rn.and B11
    obtain ⟨hz12, B11⟩ := B11
    show Fn g D16_pop4 M _ (T9.setTop (mkF M.m 19 #[.val (.ref e)] [(.int z)]))
    rcases hz12 with rfl | rfl
    · refine b_ifT B11 d16_19 (pc' := 27) (show (0 : Int32) = (0 : Int32) from by decide) (by decide) (by decide) ?_
      refine p_aloadN B11 d16_27 (pc' := 28) rfl rfl rfl ?_
      refine r_get B11 d16_28 (pc' := 31) rfl (host := "") (Or.inl (W49 B11.gw)) Via.refl (v := (.ref na)) (fO (i := 0) (j := 0) rfl rfl) ?_
      intro T13 B14
      refine p_aloadN B14 d16_31 (pc' := 32) rfl rfl rfl ?_
      refine p_dup B14 d16_32 (pc' := 33) rfl rfl ?_
      refine r_get B14 d16_33 (pc' := 36) rfl (host := "") (Or.inl (W56 B14.gw)) Via.refl (v := (.int (4 : Int32))) (fO (i := 0) (j := 1) rfl rfl) ?_
      intro T15 B16
      refine p_iconst B16 d16_36 (pc' := 37) rfl (v := (1 : Int32)) (by decide) ?_
      refine p_isub B16 d16_37 (pc' := 38) rfl (z := (3 : Int32)) (by decide) ?_
      refine p_dupx1 B16 d16_38 (pc' := 39) rfl rfl rfl ?_
      refine r_put B16 d16_39 (pc' := 42) rfl (host := "") (Or.inl (W56 B16.gw)) Via.refl (i := 0) (j := 1) rfl rfl (Or.inl (W57 B16.gw)) (W41 B16.gw) (ty := .int) (by decide) rfl rfl (H' := (o_Pain001Reader_Element e (.ref na) (.int (3 : Int32)) (.int fb) (.int fB) (.int fT) (.int ft) :: (na, .inr ((.object "java/lang/String"), "[Ljava/lang/String;", [(.ref x0), (.ref x1), (.ref x2), (.ref x3), .null, .null, .null, .null, .null, .null, .null, .null, .null, .null, .null, .null])) :: H0)) rfl ?_
      intro T17 B18
      refine p_null B18 d16_42 (pc' := 43) rfl ?_
      refine r_aastore B18 d16_43 (pc' := 44) rfl (i := 1) rfl (by decide) (k := 3) (by decide) (by simp) (Or.inl rfl) (H' := (o_Pain001Reader_Element e (.ref na) (.int (3 : Int32)) (.int fb) (.int fB) (.int fT) (.int ft) :: (na, .inr ((.object "java/lang/String"), "[Ljava/lang/String;", [(.ref x0), (.ref x1), (.ref x2), .null, .null, .null, .null, .null, .null, .null, .null, .null, .null, .null, .null, .null])) :: H0)) rfl ?_
      intro T19 B20
      have B21 : RH g D16_pop4 M T19 ((na, .inr ((.object "java/lang/String"), "[Ljava/lang/String;", [(.ref x0), (.ref x1), (.ref x2), .null, .null, .null, .null, .null, .null, .null, .null, .null, .null, .null, .null, .null])) :: o_Pain001Reader_Element e (.ref na) (.int (3 : Int32)) (.int fb) (.int fB) (.int fT) (.int ft) :: H0) (Lt) 3 49 := B20.front (i := 1) rfl rfl
      have B22 : RH g D16_pop4 M T19 (o_Pain001Reader_Element e (.ref na) (.int (3 : Int32)) (.int fb) (.int fB) (.int fT) (.int ft) :: (na, .inr ((.object "java/lang/String"), "[Ljava/lang/String;", [(.ref x0), (.ref x1), (.ref x2), .null, .null, .null, .null, .null, .null, .null, .null, .null, .null, .null, .null, .null])) :: H0) (Lt) 3 49 := B21.front (i := 1) rfl rfl
      exact r_ret B22 d16_44 rfl (by decide) (by decide) (fun vm h P => ⟨rfl, fb, fB, fT, ft, P⟩)
    · refine b_ifF B11 d16_19 (pc' := 22) rfl (show ¬ (1 : Int32) = (0 : Int32) from by decide) ?_
      refine p_aloadN B11 d16_22 (pc' := 23) rfl rfl rfl ?_
      refine p_iconst B11 d16_23 (pc' := 24) rfl (v := (0 : Int32)) (by decide) ?_
      refine r_put B11 d16_24 (pc' := 27) rfl (host := "") (Or.inl (W104 B11.gw)) Via.refl (i := 0) (j := 5) rfl rfl (Or.inl (W105 B11.gw)) (W41 B11.gw) (ty := .int) (by decide) rfl rfl (H' := (o_Pain001Reader_Element e (.ref na) (.int (4 : Int32)) (.int fb) (.int fB) (.int fT) (.int (0 : Int32)) :: (na, .inr ((.object "java/lang/String"), "[Ljava/lang/String;", [(.ref x0), (.ref x1), (.ref x2), (.ref x3), .null, .null, .null, .null, .null, .null, .null, .null, .null, .null, .null, .null])) :: H0)) rfl ?_
      intro T23 B24
      refine p_aloadN B24 d16_27 (pc' := 28) rfl rfl rfl ?_
      refine r_get B24 d16_28 (pc' := 31) rfl (host := "") (Or.inl (W49 B24.gw)) Via.refl (v := (.ref na)) (fO (i := 0) (j := 0) rfl rfl) ?_
      intro T25 B26
      refine p_aloadN B26 d16_31 (pc' := 32) rfl rfl rfl ?_
      refine p_dup B26 d16_32 (pc' := 33) rfl rfl ?_
      refine r_get B26 d16_33 (pc' := 36) rfl (host := "") (Or.inl (W56 B26.gw)) Via.refl (v := (.int (4 : Int32))) (fO (i := 0) (j := 1) rfl rfl) ?_
      intro T27 B28
      refine p_iconst B28 d16_36 (pc' := 37) rfl (v := (1 : Int32)) (by decide) ?_
      refine p_isub B28 d16_37 (pc' := 38) rfl (z := (3 : Int32)) (by decide) ?_
      refine p_dupx1 B28 d16_38 (pc' := 39) rfl rfl rfl ?_
      refine r_put B28 d16_39 (pc' := 42) rfl (host := "") (Or.inl (W56 B28.gw)) Via.refl (i := 0) (j := 1) rfl rfl (Or.inl (W57 B28.gw)) (W41 B28.gw) (ty := .int) (by decide) rfl rfl (H' := (o_Pain001Reader_Element e (.ref na) (.int (3 : Int32)) (.int fb) (.int fB) (.int fT) (.int (0 : Int32)) :: (na, .inr ((.object "java/lang/String"), "[Ljava/lang/String;", [(.ref x0), (.ref x1), (.ref x2), (.ref x3), .null, .null, .null, .null, .null, .null, .null, .null, .null, .null, .null, .null])) :: H0)) rfl ?_
      intro T29 B30
      refine p_null B30 d16_42 (pc' := 43) rfl ?_
      refine r_aastore B30 d16_43 (pc' := 44) rfl (i := 1) rfl (by decide) (k := 3) (by decide) (by simp) (Or.inl rfl) (H' := (o_Pain001Reader_Element e (.ref na) (.int (3 : Int32)) (.int fb) (.int fB) (.int fT) (.int (0 : Int32)) :: (na, .inr ((.object "java/lang/String"), "[Ljava/lang/String;", [(.ref x0), (.ref x1), (.ref x2), .null, .null, .null, .null, .null, .null, .null, .null, .null, .null, .null, .null, .null])) :: H0)) rfl ?_
      intro T31 B32
      have B33 : RH g D16_pop4 M T31 ((na, .inr ((.object "java/lang/String"), "[Ljava/lang/String;", [(.ref x0), (.ref x1), (.ref x2), .null, .null, .null, .null, .null, .null, .null, .null, .null, .null, .null, .null, .null])) :: o_Pain001Reader_Element e (.ref na) (.int (3 : Int32)) (.int fb) (.int fB) (.int fT) (.int (0 : Int32)) :: H0) (Lt) 3 49 := B32.front (i := 1) rfl rfl
      have B34 : RH g D16_pop4 M T31 (o_Pain001Reader_Element e (.ref na) (.int (3 : Int32)) (.int fb) (.int fB) (.int fT) (.int (0 : Int32)) :: (na, .inr ((.object "java/lang/String"), "[Ljava/lang/String;", [(.ref x0), (.ref x1), (.ref x2), .null, .null, .null, .null, .null, .null, .null, .null, .null, .null, .null, .null, .null])) :: H0) (Lt) 3 49 := B33.front (i := 1) rfl rfl
      exact r_ret B34 d16_44 rfl (by decide) (by decide) (fun vm h P => ⟨rfl, fb, fB, fT, (0 : Int32), P⟩)
  · refine b_ifF B5 d16_4 (pc' := 7) rfl (show ¬ (1 : Int32) = (0 : Int32) from by decide) ?_
    refine p_aloadN B5 d16_7 (pc' := 8) rfl rfl rfl ?_
    refine p_iconst B5 d16_8 (pc' := 9) rfl (v := (0 : Int32)) (by decide) ?_
    refine r_put B5 d16_9 (pc' := 12) rfl (host := "") (Or.inl (W92 B5.gw)) Via.refl (i := 0) (j := 2) rfl rfl (Or.inl (W93 B5.gw)) (W41 B5.gw) (ty := .int) (by decide) rfl rfl (H' := (o_Pain001Reader_Element e (.ref na) (.int (4 : Int32)) (.int (0 : Int32)) (.int fB) (.int fT) (.int ft) :: (na, .inr ((.object "java/lang/String"), "[Ljava/lang/String;", [(.ref x0), (.ref x1), (.ref x2), (.ref x3), .null, .null, .null, .null, .null, .null, .null, .null, .null, .null, .null, .null])) :: H0)) rfl ?_
    intro T35 B36
    refine b_goto B36 d16_12 (pc' := 27) (by decide) (by decide) ?_
    refine p_aloadN B36 d16_27 (pc' := 28) rfl rfl rfl ?_
    refine r_get B36 d16_28 (pc' := 31) rfl (host := "") (Or.inl (W49 B36.gw)) Via.refl (v := (.ref na)) (fO (i := 0) (j := 0) rfl rfl) ?_
    intro T37 B38
    refine p_aloadN B38 d16_31 (pc' := 32) rfl rfl rfl ?_
    refine p_dup B38 d16_32 (pc' := 33) rfl rfl ?_
    refine r_get B38 d16_33 (pc' := 36) rfl (host := "") (Or.inl (W56 B38.gw)) Via.refl (v := (.int (4 : Int32))) (fO (i := 0) (j := 1) rfl rfl) ?_
    intro T39 B40
    refine p_iconst B40 d16_36 (pc' := 37) rfl (v := (1 : Int32)) (by decide) ?_
    refine p_isub B40 d16_37 (pc' := 38) rfl (z := (3 : Int32)) (by decide) ?_
    refine p_dupx1 B40 d16_38 (pc' := 39) rfl rfl rfl ?_
    refine r_put B40 d16_39 (pc' := 42) rfl (host := "") (Or.inl (W56 B40.gw)) Via.refl (i := 0) (j := 1) rfl rfl (Or.inl (W57 B40.gw)) (W41 B40.gw) (ty := .int) (by decide) rfl rfl (H' := (o_Pain001Reader_Element e (.ref na) (.int (3 : Int32)) (.int (0 : Int32)) (.int fB) (.int fT) (.int ft) :: (na, .inr ((.object "java/lang/String"), "[Ljava/lang/String;", [(.ref x0), (.ref x1), (.ref x2), (.ref x3), .null, .null, .null, .null, .null, .null, .null, .null, .null, .null, .null, .null])) :: H0)) rfl ?_
    intro T41 B42
    refine p_null B42 d16_42 (pc' := 43) rfl ?_
    refine r_aastore B42 d16_43 (pc' := 44) rfl (i := 1) rfl (by decide) (k := 3) (by decide) (by simp) (Or.inl rfl) (H' := (o_Pain001Reader_Element e (.ref na) (.int (3 : Int32)) (.int (0 : Int32)) (.int fB) (.int fT) (.int ft) :: (na, .inr ((.object "java/lang/String"), "[Ljava/lang/String;", [(.ref x0), (.ref x1), (.ref x2), .null, .null, .null, .null, .null, .null, .null, .null, .null, .null, .null, .null, .null])) :: H0)) rfl ?_
    intro T43 B44
    have B45 : RH g D16_pop4 M T43 ((na, .inr ((.object "java/lang/String"), "[Ljava/lang/String;", [(.ref x0), (.ref x1), (.ref x2), .null, .null, .null, .null, .null, .null, .null, .null, .null, .null, .null, .null, .null])) :: o_Pain001Reader_Element e (.ref na) (.int (3 : Int32)) (.int (0 : Int32)) (.int fB) (.int fT) (.int ft) :: H0) (Lt) 0 0 := B44.front (i := 1) rfl rfl
    have B46 : RH g D16_pop4 M T43 (o_Pain001Reader_Element e (.ref na) (.int (3 : Int32)) (.int (0 : Int32)) (.int fB) (.int fT) (.int ft) :: (na, .inr ((.object "java/lang/String"), "[Ljava/lang/String;", [(.ref x0), (.ref x1), (.ref x2), .null, .null, .null, .null, .null, .null, .null, .null, .null, .null, .null, .null, .null])) :: H0) (Lt) 0 0 := B45.front (i := 1) rfl rfl
    exact r_ret B46 d16_44 rfl (by decide) (by decide) (fun vm h P => ⟨rfl, (0 : Int32), fB, fT, ft, P⟩)
theorem ef_ei (e : Addr) (m : MethodId) : entryFrame m #[(.ref e)] 1 = mkF m 0 #[.val (.ref e)] [] := by first | (simp [entryFrame, mkF, argsToLocals, Value.category]; done) | rfl
abbrev D8 : DD := (⟨"com/example/polecenie/polecenie/core/Pain001Reader$Element", "<init>", "()V"⟩, prog_35_method_1_code, 1, none, { frames := 1, cells := 1, slots := 16, locals := 12 })
theorem k_ei {g : GG} (W : GW g) (e : Addr) (H0 : List Ent) (Lt : List SE) : Ct g D8 #[.ref e] (o_Pain001Reader_Element e .null (.int (0 : Int32)) (.int (0 : Int32)) (.int (0 : Int32)) (.int (0 : Int32)) (.int (0 : Int32)) :: H0) Lt (fun v vm h => v = none ∧ ∃ na, Hp g vm h (o_Pain001Reader_Element e (.ref na) (.int (0 : Int32)) (.int (0 : Int32)) (.int (0 : Int32)) (.int (0 : Int32)) (.int (0 : Int32)) :: (na, .inr ((.object "java/lang/String"), "[Ljava/lang/String;", [.null, .null, .null, .null, .null, .null, .null, .null, .null, .null, .null, .null, .null, .null, .null, .null])) :: H0) Lt) := by
  refine CtW.body W (by decide +kernel) (ef_ei e) ?_
  intro M T B
  refine p_aloadN B d8_0 (pc' := 1) rfl rfl rfl ?_
  refine r_initO B d8_1 (pc' := 4) rfl (W46 B.gw) (W22 B.gw) (W23 B.gw) rfl (by decide) (W := 0) rfl (by decide) ?_
  intro T1 B2
  refine p_aloadN B2 d8_4 (pc' := 5) rfl rfl rfl ?_
  refine p_bipush B2 d8_5 (pc' := 7) rfl (v := (16 : Int32)) (by decide) ?_
  refine r_newr B2 d8_7 (pc' := 10) rfl (W47 B2.gw) (W48 B2.gw) (by decide) (nn := 16) (by decide) (cap := 16) (by decide) (by decide) (cs' := 1) rfl (ss' := 16) rfl (by decide) (by decide) (ad := "[Ljava/lang/String;") (by decide) (vs := [.null, .null, .null, .null, .null, .null, .null, .null, .null, .null, .null, .null, .null, .null, .null, .null]) rfl ?_
  intro T3 a5 B4
  refine r_put B4 d8_10 (pc' := 13) rfl (host := "") (Or.inl (W49 B4.gw)) Via.refl (i := 1) (j := 0) rfl rfl (Or.inl (W50 B4.gw)) (W41 B4.gw) (ty := (.array (.object "java/lang/String"))) (by decide) rfl rfl (H' := ((a5, .inr ((.object "java/lang/String"), "[Ljava/lang/String;", [.null, .null, .null, .null, .null, .null, .null, .null, .null, .null, .null, .null, .null, .null, .null, .null])) :: o_Pain001Reader_Element e (.ref a5) (.int (0 : Int32)) (.int (0 : Int32)) (.int (0 : Int32)) (.int (0 : Int32)) (.int (0 : Int32)) :: H0)) rfl ?_
  intro T6 B7
  have B8 : RH g D8 M T6 (o_Pain001Reader_Element e (.ref a5) (.int (0 : Int32)) (.int (0 : Int32)) (.int (0 : Int32)) (.int (0 : Int32)) (.int (0 : Int32)) :: (a5, .inr ((.object "java/lang/String"), "[Ljava/lang/String;", [.null, .null, .null, .null, .null, .null, .null, .null, .null, .null, .null, .null, .null, .null, .null, .null])) :: H0) (Lt) 1 16 := B7.front (i := 1) rfl rfl
  exact r_ret B8 d8_13 rfl (by decide) (by decide) (fun vm h P => ⟨rfl, _, P⟩)
theorem ef_nm (e : Addr) (m : MethodId) : entryFrame m #[(.ref e)] 1 = mkF m 0 #[.val (.ref e)] [] := by first | (simp [entryFrame, mkF, argsToLocals, Value.category]; done) | rfl
abbrev D12 : DD := (⟨"com/example/polecenie/polecenie/core/Pain001Reader$Element", "name", "()Ljava/lang/String;"⟩, prog_35_method_2_code, 1, (some (.object "java/lang/String")), { frames := 0, cells := 0, slots := 0, locals := 0 })
theorem k_nm1 {g : GG} (W : GW g) (e na : Addr) (fb fB fT ft : Int32) (x0 : Addr) (H0 : List Ent) (Lt : List SE) : Ct g D12 #[.ref e] (o_Pain001Reader_Element e (.ref na) (.int (1 : Int32)) (.int fb) (.int fB) (.int fT) (.int ft) :: (na, .inr ((.object "java/lang/String"), "[Ljava/lang/String;", [(.ref x0), .null, .null, .null, .null, .null, .null, .null, .null, .null, .null, .null, .null, .null, .null, .null])) :: H0) Lt (fun v vm h => v = some (.ref x0) ∧ Hp g vm h (o_Pain001Reader_Element e (.ref na) (.int (1 : Int32)) (.int fb) (.int fB) (.int fT) (.int ft) :: (na, .inr ((.object "java/lang/String"), "[Ljava/lang/String;", [(.ref x0), .null, .null, .null, .null, .null, .null, .null, .null, .null, .null, .null, .null, .null, .null, .null])) :: H0) Lt) := by
  refine CtW.body W (by decide +kernel) (ef_nm e) ?_
  intro M T B
  refine p_aloadN B d12_0 (pc' := 1) rfl rfl rfl ?_
  refine r_get B d12_1 (pc' := 4) rfl (host := "") (Or.inl (W49 B.gw)) Via.refl (v := (.ref na)) (fO (i := 0) (j := 0) rfl rfl) ?_
  intro T1 B2
  refine p_aloadN B2 d12_4 (pc' := 5) rfl rfl rfl ?_
  refine r_get B2 d12_5 (pc' := 8) rfl (host := "") (Or.inl (W56 B2.gw)) Via.refl (v := (.int (1 : Int32))) (fO (i := 0) (j := 1) rfl rfl) ?_
  intro T3 B4
  refine p_iconst B4 d12_8 (pc' := 9) rfl (v := (1 : Int32)) (by decide) ?_
  refine p_isub B4 d12_9 (pc' := 10) rfl (z := (0 : Int32)) (by decide) ?_
  refine r_aget B4 d12_10 rfl (pc' := 11) rfl (aH (i := 1) rfl) (k := 0) (by decide) rfl ?_
  exact r_reta B4 d12_11 rfl rfl rfl (by decide) (by decide) (fun vm h P => ⟨rfl, P⟩)
theorem k_nm2 {g : GG} (W : GW g) (e na : Addr) (fb fB fT ft : Int32) (x0 : Addr) (x1 : Addr) (H0 : List Ent) (Lt : List SE) : Ct g D12 #[.ref e] (o_Pain001Reader_Element e (.ref na) (.int (2 : Int32)) (.int fb) (.int fB) (.int fT) (.int ft) :: (na, .inr ((.object "java/lang/String"), "[Ljava/lang/String;", [(.ref x0), (.ref x1), .null, .null, .null, .null, .null, .null, .null, .null, .null, .null, .null, .null, .null, .null])) :: H0) Lt (fun v vm h => v = some (.ref x1) ∧ Hp g vm h (o_Pain001Reader_Element e (.ref na) (.int (2 : Int32)) (.int fb) (.int fB) (.int fT) (.int ft) :: (na, .inr ((.object "java/lang/String"), "[Ljava/lang/String;", [(.ref x0), (.ref x1), .null, .null, .null, .null, .null, .null, .null, .null, .null, .null, .null, .null, .null, .null])) :: H0) Lt) := by
  refine CtW.body W (by decide +kernel) (ef_nm e) ?_
  intro M T B
  refine p_aloadN B d12_0 (pc' := 1) rfl rfl rfl ?_
  refine r_get B d12_1 (pc' := 4) rfl (host := "") (Or.inl (W49 B.gw)) Via.refl (v := (.ref na)) (fO (i := 0) (j := 0) rfl rfl) ?_
  intro T1 B2
  refine p_aloadN B2 d12_4 (pc' := 5) rfl rfl rfl ?_
  refine r_get B2 d12_5 (pc' := 8) rfl (host := "") (Or.inl (W56 B2.gw)) Via.refl (v := (.int (2 : Int32))) (fO (i := 0) (j := 1) rfl rfl) ?_
  intro T3 B4
  refine p_iconst B4 d12_8 (pc' := 9) rfl (v := (1 : Int32)) (by decide) ?_
  refine p_isub B4 d12_9 (pc' := 10) rfl (z := (1 : Int32)) (by decide) ?_
  refine r_aget B4 d12_10 rfl (pc' := 11) rfl (aH (i := 1) rfl) (k := 1) (by decide) rfl ?_
  exact r_reta B4 d12_11 rfl rfl rfl (by decide) (by decide) (fun vm h P => ⟨rfl, P⟩)
theorem k_nm3 {g : GG} (W : GW g) (e na : Addr) (fb fB fT ft : Int32) (x0 : Addr) (x1 : Addr) (x2 : Addr) (H0 : List Ent) (Lt : List SE) : Ct g D12 #[.ref e] (o_Pain001Reader_Element e (.ref na) (.int (3 : Int32)) (.int fb) (.int fB) (.int fT) (.int ft) :: (na, .inr ((.object "java/lang/String"), "[Ljava/lang/String;", [(.ref x0), (.ref x1), (.ref x2), .null, .null, .null, .null, .null, .null, .null, .null, .null, .null, .null, .null, .null])) :: H0) Lt (fun v vm h => v = some (.ref x2) ∧ Hp g vm h (o_Pain001Reader_Element e (.ref na) (.int (3 : Int32)) (.int fb) (.int fB) (.int fT) (.int ft) :: (na, .inr ((.object "java/lang/String"), "[Ljava/lang/String;", [(.ref x0), (.ref x1), (.ref x2), .null, .null, .null, .null, .null, .null, .null, .null, .null, .null, .null, .null, .null])) :: H0) Lt) := by
  refine CtW.body W (by decide +kernel) (ef_nm e) ?_
  intro M T B
  refine p_aloadN B d12_0 (pc' := 1) rfl rfl rfl ?_
  refine r_get B d12_1 (pc' := 4) rfl (host := "") (Or.inl (W49 B.gw)) Via.refl (v := (.ref na)) (fO (i := 0) (j := 0) rfl rfl) ?_
  intro T1 B2
  refine p_aloadN B2 d12_4 (pc' := 5) rfl rfl rfl ?_
  refine r_get B2 d12_5 (pc' := 8) rfl (host := "") (Or.inl (W56 B2.gw)) Via.refl (v := (.int (3 : Int32))) (fO (i := 0) (j := 1) rfl rfl) ?_
  intro T3 B4
  refine p_iconst B4 d12_8 (pc' := 9) rfl (v := (1 : Int32)) (by decide) ?_
  refine p_isub B4 d12_9 (pc' := 10) rfl (z := (2 : Int32)) (by decide) ?_
  refine r_aget B4 d12_10 rfl (pc' := 11) rfl (aH (i := 1) rfl) (k := 2) (by decide) rfl ?_
  exact r_reta B4 d12_11 rfl rfl rfl (by decide) (by decide) (fun vm h P => ⟨rfl, P⟩)
theorem k_nm4 {g : GG} (W : GW g) (e na : Addr) (fb fB fT ft : Int32) (x0 : Addr) (x1 : Addr) (x2 : Addr) (x3 : Addr) (H0 : List Ent) (Lt : List SE) : Ct g D12 #[.ref e] (o_Pain001Reader_Element e (.ref na) (.int (4 : Int32)) (.int fb) (.int fB) (.int fT) (.int ft) :: (na, .inr ((.object "java/lang/String"), "[Ljava/lang/String;", [(.ref x0), (.ref x1), (.ref x2), (.ref x3), .null, .null, .null, .null, .null, .null, .null, .null, .null, .null, .null, .null])) :: H0) Lt (fun v vm h => v = some (.ref x3) ∧ Hp g vm h (o_Pain001Reader_Element e (.ref na) (.int (4 : Int32)) (.int fb) (.int fB) (.int fT) (.int ft) :: (na, .inr ((.object "java/lang/String"), "[Ljava/lang/String;", [(.ref x0), (.ref x1), (.ref x2), (.ref x3), .null, .null, .null, .null, .null, .null, .null, .null, .null, .null, .null, .null])) :: H0) Lt) := by
  refine CtW.body W (by decide +kernel) (ef_nm e) ?_
  intro M T B
  refine p_aloadN B d12_0 (pc' := 1) rfl rfl rfl ?_
  refine r_get B d12_1 (pc' := 4) rfl (host := "") (Or.inl (W49 B.gw)) Via.refl (v := (.ref na)) (fO (i := 0) (j := 0) rfl rfl) ?_
  intro T1 B2
  refine p_aloadN B2 d12_4 (pc' := 5) rfl rfl rfl ?_
  refine r_get B2 d12_5 (pc' := 8) rfl (host := "") (Or.inl (W56 B2.gw)) Via.refl (v := (.int (4 : Int32))) (fO (i := 0) (j := 1) rfl rfl) ?_
  intro T3 B4
  refine p_iconst B4 d12_8 (pc' := 9) rfl (v := (1 : Int32)) (by decide) ?_
  refine p_isub B4 d12_9 (pc' := 10) rfl (z := (3 : Int32)) (by decide) ?_
  refine r_aget B4 d12_10 rfl (pc' := 11) rfl (aH (i := 1) rfl) (k := 3) (by decide) rfl ?_
  exact r_reta B4 d12_11 rfl rfl rfl (by decide) (by decide) (fun vm h P => ⟨rfl, P⟩)
theorem ef_pk (x : Int32) (l : Addr) (m : MethodId) : entryFrame m #[(.int x), (.ref l)] 3 = mkF m 0 #[.val (.int x), .val (.ref l), .unset] [] := by first | (simp [entryFrame, mkF, argsToLocals, Value.category]; done) | rfl
abbrev D1 : DD := (⟨"com/example/polecenie/polecenie/core/ElementNamePinLaw", "pick", "(ILjava/lang/String;)Ljava/lang/String;"⟩, method_3_code, 3, (some (.object "java/lang/String")), { frames := 4, cells := 3, slots := 14, locals := 66 })
theorem k_pk {g : GG} (W : GW g) (x : Int32) (l : Addr) {lb : Addr} {ls : List Int32} {Lt : List SE} (ml : (l, lb, 0, ls.map Value.int) ∈ Lt) (hll : ls.length < 2147483648) (H : List Ent) : Ct g D1 #[.int x, .ref l] H Lt (fun v vm h => ∃ (a b : Addr) (xs : List Int32), v = some (.ref a) ∧ xs.length < 2147483648 ∧ Hp g vm h H ((a, b, 0, xs.map Value.int) :: Lt)) := by
  refine CtW.body W (by decide +kernel) (ef_pk x l) ?_
  intro M T B
  refine p_iloadN B d1_0 (pc' := 1) rfl rfl ?_
  refine p_bipush B d1_1 (pc' := 3) rfl (v := (16 : Int32)) (by decide) ?_
  refine p_iushr B d1_3 (pc' := 4) rfl rfl ?_
  refine p_iconst B d1_4 (pc' := 5) rfl (v := (1 : Int32)) (by decide) ?_
  refine p_iand B d1_5 (pc' := 6) rfl rfl ?_
  by_cases h0 : ((((x).toUInt32 >>> ((16 : Int32) &&& 31).toUInt32).toInt32) &&& (1 : Int32)) = (0 : Int32)
  · refine b_ifT B d1_6 (pc' := 11) h0 (by decide) (by decide) ?_
    refine p_iconst B d1_11 (pc' := 12) rfl (v := (2 : Int32)) (by decide) ?_
    refine r_newp B d1_12 (pc' := 14) rfl (ty := .char) (W12 B.gw) rfl (by decide) (nn := 2) (by decide) (cap := 2) (by decide) (by decide) (cs' := 1) rfl (ss' := 2) rfl (by decide) (by decide) (ad := "[C") (by decide) (by decide) nofun (vs := [(.int (0 : Int32)), (.int (0 : Int32))]) rfl ?_
    intro T1 a3 B2
    refine p_astoreN B2 d1_14 (pc' := 15) rfl rfl (Ls' := #[.val (.int x), .val (.ref l), .val (.ref a3)]) rfl ?_
    refine p_aloadN B2 d1_15 (pc' := 16) rfl rfl rfl ?_
    refine p_iconst B2 d1_16 (pc' := 17) rfl (v := (0 : Int32)) (by decide) ?_
    refine p_iloadN B2 d1_17 (pc' := 18) rfl rfl ?_
    refine p_sipush B2 d1_18 (pc' := 21) rfl (v := (255 : Int32)) (by decide) ?_
    refine p_iand B2 d1_21 (pc' := 22) rfl rfl ?_
    refine p_i2c B2 d1_22 (pc' := 23) rfl ?_
    refine r_castore B2 d1_23 (pc' := 24) rfl (i := 0) rfl (by decide) (k := 0) (by decide) (by simp) (x' := ((x &&& (255 : Int32))).toUInt32.toUInt16.toUInt32.toInt32) (ch_ch _) (H' := ((a3, .inr (.char, "[C", [(.int ((x &&& (255 : Int32))).toUInt32.toUInt16.toUInt32.toInt32), (.int (0 : Int32))])) :: H)) rfl ?_
    intro T4 B5
    refine p_aloadN B5 d1_24 (pc' := 25) rfl rfl rfl ?_
    refine p_iconst B5 d1_25 (pc' := 26) rfl (v := (1 : Int32)) (by decide) ?_
    refine p_iloadN B5 d1_26 (pc' := 27) rfl rfl ?_
    refine p_bipush B5 d1_27 (pc' := 29) rfl (v := (8 : Int32)) (by decide) ?_
    refine p_iushr B5 d1_29 (pc' := 30) rfl rfl ?_
    refine p_sipush B5 d1_30 (pc' := 33) rfl (v := (255 : Int32)) (by decide) ?_
    refine p_iand B5 d1_33 (pc' := 34) rfl rfl ?_
    refine p_i2c B5 d1_34 (pc' := 35) rfl ?_
    refine r_castore B5 d1_35 (pc' := 36) rfl (i := 0) rfl (by decide) (k := 1) (by decide) (by simp) (x' := (((((x).toUInt32 >>> ((8 : Int32) &&& 31).toUInt32).toInt32) &&& (255 : Int32))).toUInt32.toUInt16.toUInt32.toInt32) (ch_ch _) (H' := ((a3, .inr (.char, "[C", [(.int ((x &&& (255 : Int32))).toUInt32.toUInt16.toUInt32.toInt32), (.int (((((x).toUInt32 >>> ((8 : Int32) &&& 31).toUInt32).toInt32) &&& (255 : Int32))).toUInt32.toUInt16.toUInt32.toInt32)])) :: H)) rfl ?_
    intro T6 B7
    refine r_new B7 d1_36 (pc' := 39) rfl (W13 B7.gw) (W2 B7.gw) (W1 B7.gw) (Ly_o_String B7.gw) (by decide) (cs' := 2) rfl (ss' := 6) rfl (by decide) (by decide) ?_
    intro T8 a10 B9
    refine p_dup B9 d1_39 (pc' := 40) rfl rfl ?_
    refine p_aloadN B9 d1_40 (pc' := 41) rfl rfl rfl ?_
    have B11 : RH g D1 M T8 ((a3, .inr (.char, "[C", [(.int ((x &&& (255 : Int32))).toUInt32.toUInt16.toUInt32.toInt32), (.int (((((x).toUInt32 >>> ((8 : Int32) &&& 31).toUInt32).toInt32) &&& (255 : Int32))).toUInt32.toUInt16.toUInt32.toInt32)])) :: o_String a10 .null (.int (0 : Int32)) :: H) (Lt) 2 6 := B9.front (i := 1) rfl rfl
    have B12 : RH g D1 M T8 (o_String a10 .null (.int (0 : Int32)) :: (a3, .inr (.char, "[C", [(.int ((x &&& (255 : Int32))).toUInt32.toUInt16.toUInt32.toInt32), (.int (((((x).toUInt32 >>> ((8 : Int32) &&& 31).toUInt32).toInt32) &&& (255 : Int32))).toUInt32.toUInt16.toUInt32.toInt32)])) :: H) (Lt) 2 6 := B11.front (i := 1) rfl rfl
    refine r_special (D' := D2) B12 d1_41 (pc' := 44) rfl rfl rfl (W14 B12.gw) (W15 B12.gw) (W1 B12.gw) (W16 B12.gw) (by decide) (k_i1 W a10 a3 "[C" ([((x &&& (255 : Int32))).toUInt32.toUInt16.toUInt32.toInt32, (((((x).toUInt32 >>> ((8 : Int32) &&& 31).toUInt32).toInt32) &&& (255 : Int32))).toUInt32.toUInt16.toUInt32.toInt32] : List Int32) (by simp only [List.mem_cons, List.not_mem_nil, or_false, forall_eq_or_imp, forall_eq]; exact ⟨le255 _, le255 _⟩) (by simp) (by simp) (H) (Lt)) (a := a10) (argsL := [(.ref a3)]) (rest := [(.ref a10)]) rfl pd8 rfl rfl rfl (W := 1) rfl (by decide) (by decide) (cs' := 3) rfl (ss' := 14) rfl (by decide) (by decide) ?_
    intro T13 v14 B15
    replace B15 := Rn.and B15
    obtain ⟨rfl, B15⟩ := B15
    replace B15 := Rn.ex B15
    obtain ⟨b16, B15⟩ := B15
    have B17 : RH g D1 M T13 (H) ((a10, b16, 0, [(bV ((x &&& (255 : Int32))).toUInt32.toUInt16.toUInt32.toInt32), (bV (((((x).toUInt32 >>> ((8 : Int32) &&& 31).toUInt32).toInt32) &&& (255 : Int32))).toUInt32.toUInt16.toUInt32.toInt32)]) :: Lt) 3 14 := B15.del 0 rfl
    show Fn g D1 M _ (T13.setTop (mkF M.m 44 #[.val (.int x), .val (.ref l), .val (.ref a3)] [(.ref a10)]))
    exact r_reta B17 d1_44 rfl rfl rfl (by decide) (by decide) (fun vm h P => ⟨_, _, [((x &&& (255 : Int32))).toUInt32.toUInt16.toUInt32.toInt32.toInt8.toInt32, (((((x).toUInt32 >>> ((8 : Int32) &&& 31).toUInt32).toInt32) &&& (255 : Int32))).toUInt32.toUInt16.toUInt32.toInt32.toInt8.toInt32], rfl, by simp, P⟩)
  · refine b_ifF B d1_6 (pc' := 9) rfl h0 ?_
    refine p_aloadN B d1_9 (pc' := 10) rfl rfl rfl ?_
    exact r_reta B d1_10 rfl rfl rfl (by decide) (by decide) (fun vm h P => ⟨_, _, _, rfl, hll, P.lsub (tlh ml)⟩)
theorem m3 (x : Int32) : x &&& (3 : Int32) = (0 : Int32) ∨ x &&& (3 : Int32) = (1 : Int32) ∨ x &&& (3 : Int32) = (2 : Int32) ∨ x &&& (3 : Int32) = (3 : Int32) := by
  have a := c_mask x 3 2 (by decide) rfl
  simp only [Nat.reducePow, Int.cast_ofNat_Int] at a
  simp only [← Int32.toInt_inj, show (0 : Int32).toInt = 0 from rfl, show (1 : Int32).toInt = 1 from rfl, show (2 : Int32).toInt = 2 from rfl, show (3 : Int32).toInt = 3 from rfl]
  omega

abbrev D0 : DD := (x, code, maxLocals, ret, room_1)
theorem ef_law (p0 p1 p2 p3 p4 : Int32) (m : MethodId) : entryFrame m #[(.int p0), (.int p1), (.int p2), (.int p3), (.int p4)] maxLocals = mkF m 0 #[.val (.int p0), .val (.int p1), .val (.int p2), .val (.int p3), .val (.int p4), .unset, .unset, .unset, .unset, .unset, .unset, .unset, .unset] [] := by first | (simp [entryFrame, mkF, argsToLocals, Value.category, maxLocals]; done) | rfl
theorem k_law {g : GG} (W : GW g) (p0 p1 p2 p3 p4 : Int32) : CtW g D0 tables_1 #[.int p0, .int p1, .int p2, .int p3, .int p4] [] [] (fun v _ _ => v = some (.int 1)) := by
  refine CtW.body W (by decide +kernel) (ef_law p0 p1 p2 p3 p4) ?_
  intro M T B
  refine p_iloadN B at_0 (pc' := 1) rfl rfl ?_
  refine r_ldc B at_1 (pc' := 3) rfl (W0 B.gw) (strW B.gw) (inEL B.gw (by decide)) (bs := [(.int (68 : Int32)), (.int (111 : Int32)), (.int (99 : Int32)), (.int (117 : Int32)), (.int (109 : Int32)), (.int (101 : Int32)), (.int (110 : Int32)), (.int (116 : Int32))]) ⟨by decide, by decide⟩ (z := (8 : Int32)) (by decide) (by decide) (n := 32) (by decide) (by decide) (cs' := 2) rfl (ss' := 36) rfl (by decide) (by decide) ?_
  intro T1 a3 b4 B2
  refine r_static (D' := D1) B2 at_3 (pc' := 6) rfl (W8 B2.gw) (W9 B2.gw) (W10 B2.gw) (W11 B2.gw) (by decide) (k_pk W p0 a3 (ls := ([(68 : Int32), (111 : Int32), (99 : Int32), (117 : Int32), (109 : Int32), (101 : Int32), (110 : Int32), (116 : Int32)] : List Int32)) (List.mem_of_getElem? (i := 0) rfl) (by simp) _) (argsL := [(.int p0), (.ref a3)]) (rest := []) rfl pd9 rfl rfl rfl (W := 0) rfl (by decide) (by decide) (cs' := 5) rfl (ss' := 50) rfl (by decide) (by decide) ?_
  intro T5 v6 B7
  replace B7 := Rn.ex B7
  obtain ⟨s0, B7⟩ := B7
  replace B7 := Rn.ex B7
  obtain ⟨b8, B7⟩ := B7
  replace B7 := Rn.ex B7
  obtain ⟨xs0, B7⟩ := B7
  replace B7 := Rn.and B7
  obtain ⟨rfl, B7⟩ := B7
  replace B7 := Rn.and B7
  obtain ⟨hl0, B7⟩ := B7
  show Fn g D0 M _ (T5.setTop (mkF M.m 6 #[.val (.int p0), .val (.int p1), .val (.int p2), .val (.int p3), .val (.int p4), .unset, .unset, .unset, .unset, .unset, .unset, .unset, .unset] [(.ref s0)]))
  refine p_astore B7 at_6 (pc' := 8) rfl rfl (Ls' := #[.val (.int p0), .val (.int p1), .val (.int p2), .val (.int p3), .val (.int p4), .val (.ref s0), .unset, .unset, .unset, .unset, .unset, .unset, .unset]) rfl ?_
  refine p_iloadN B7 at_8 (pc' := 9) rfl rfl ?_
  refine r_ldc B7 at_9 (pc' := 11) rfl (W37 B7.gw) (strW B7.gw) (inEL B7.gw (by decide)) (bs := [(.int (67 : Int32)), (.int (115 : Int32)), (.int (116 : Int32)), (.int (109 : Int32)), (.int (114 : Int32)), (.int (67 : Int32)), (.int (100 : Int32)), (.int (116 : Int32)), (.int (84 : Int32)), (.int (114 : Int32)), (.int (102 : Int32)), (.int (73 : Int32)), (.int (110 : Int32)), (.int (105 : Int32)), (.int (116 : Int32)), (.int (110 : Int32))]) ⟨by decide, by decide⟩ (z := (16 : Int32)) (by decide) (by decide) (n := 64) (by decide) (by decide) (cs' := 7) rfl (ss' := 118) rfl (by decide) (by decide) ?_
  intro T9 a11 b12 B10
  refine r_static (D' := D1) B10 at_11 (pc' := 14) rfl (W8 B10.gw) (W9 B10.gw) (W10 B10.gw) (W11 B10.gw) (by decide) (k_pk W p1 a11 (ls := ([(67 : Int32), (115 : Int32), (116 : Int32), (109 : Int32), (114 : Int32), (67 : Int32), (100 : Int32), (116 : Int32), (84 : Int32), (114 : Int32), (102 : Int32), (73 : Int32), (110 : Int32), (105 : Int32), (116 : Int32), (110 : Int32)] : List Int32)) (List.mem_of_getElem? (i := 0) rfl) (by simp) _) (argsL := [(.int p1), (.ref a11)]) (rest := []) rfl pd9 rfl rfl rfl (W := 0) rfl (by decide) (by decide) (cs' := 10) rfl (ss' := 132) rfl (by decide) (by decide) ?_
  intro T13 v14 B15
  replace B15 := Rn.ex B15
  obtain ⟨s1, B15⟩ := B15
  replace B15 := Rn.ex B15
  obtain ⟨b16, B15⟩ := B15
  replace B15 := Rn.ex B15
  obtain ⟨xs1, B15⟩ := B15
  replace B15 := Rn.and B15
  obtain ⟨rfl, B15⟩ := B15
  replace B15 := Rn.and B15
  obtain ⟨hl1, B15⟩ := B15
  show Fn g D0 M _ (T13.setTop (mkF M.m 14 #[.val (.int p0), .val (.int p1), .val (.int p2), .val (.int p3), .val (.int p4), .val (.ref s0), .unset, .unset, .unset, .unset, .unset, .unset, .unset] [(.ref s1)]))
  refine p_astore B15 at_14 (pc' := 16) rfl rfl (Ls' := #[.val (.int p0), .val (.int p1), .val (.int p2), .val (.int p3), .val (.int p4), .val (.ref s0), .val (.ref s1), .unset, .unset, .unset, .unset, .unset, .unset]) rfl ?_
  refine p_iloadN B15 at_16 (pc' := 17) rfl rfl ?_
  refine r_ldc B15 at_17 (pc' := 19) rfl (W38 B15.gw) (strW B15.gw) (inEL B15.gw (by decide)) (bs := [(.int (80 : Int32)), (.int (109 : Int32)), (.int (116 : Int32)), (.int (73 : Int32)), (.int (110 : Int32)), (.int (102 : Int32))]) ⟨by decide, by decide⟩ (z := (6 : Int32)) (by decide) (by decide) (n := 24) (by decide) (by decide) (cs' := 12) rfl (ss' := 160) rfl (by decide) (by decide) ?_
  intro T17 a19 b20 B18
  refine r_static (D' := D1) B18 at_19 (pc' := 22) rfl (W8 B18.gw) (W9 B18.gw) (W10 B18.gw) (W11 B18.gw) (by decide) (k_pk W p2 a19 (ls := ([(80 : Int32), (109 : Int32), (116 : Int32), (73 : Int32), (110 : Int32), (102 : Int32)] : List Int32)) (List.mem_of_getElem? (i := 0) rfl) (by simp) _) (argsL := [(.int p2), (.ref a19)]) (rest := []) rfl pd9 rfl rfl rfl (W := 0) rfl (by decide) (by decide) (cs' := 15) rfl (ss' := 174) rfl (by decide) (by decide) ?_
  intro T21 v22 B23
  replace B23 := Rn.ex B23
  obtain ⟨s2, B23⟩ := B23
  replace B23 := Rn.ex B23
  obtain ⟨b24, B23⟩ := B23
  replace B23 := Rn.ex B23
  obtain ⟨xs2, B23⟩ := B23
  replace B23 := Rn.and B23
  obtain ⟨rfl, B23⟩ := B23
  replace B23 := Rn.and B23
  obtain ⟨hl2, B23⟩ := B23
  show Fn g D0 M _ (T21.setTop (mkF M.m 22 #[.val (.int p0), .val (.int p1), .val (.int p2), .val (.int p3), .val (.int p4), .val (.ref s0), .val (.ref s1), .unset, .unset, .unset, .unset, .unset, .unset] [(.ref s2)]))
  refine p_astore B23 at_22 (pc' := 24) rfl rfl (Ls' := #[.val (.int p0), .val (.int p1), .val (.int p2), .val (.int p3), .val (.int p4), .val (.ref s0), .val (.ref s1), .val (.ref s2), .unset, .unset, .unset, .unset, .unset]) rfl ?_
  refine p_iloadN B23 at_24 (pc' := 25) rfl rfl ?_
  refine r_ldc B23 at_25 (pc' := 27) rfl (W39 B23.gw) (strW B23.gw) (inEL B23.gw (by decide)) (bs := [(.int (67 : Int32)), (.int (100 : Int32)), (.int (116 : Int32)), (.int (84 : Int32)), (.int (114 : Int32)), (.int (102 : Int32)), (.int (84 : Int32)), (.int (120 : Int32)), (.int (73 : Int32)), (.int (110 : Int32)), (.int (102 : Int32))]) ⟨by decide, by decide⟩ (z := (11 : Int32)) (by decide) (by decide) (n := 44) (by decide) (by decide) (cs' := 17) rfl (ss' := 222) rfl (by decide) (by decide) ?_
  intro T25 a27 b28 B26
  refine r_static (D' := D1) B26 at_27 (pc' := 30) rfl (W8 B26.gw) (W9 B26.gw) (W10 B26.gw) (W11 B26.gw) (by decide) (k_pk W p3 a27 (ls := ([(67 : Int32), (100 : Int32), (116 : Int32), (84 : Int32), (114 : Int32), (102 : Int32), (84 : Int32), (120 : Int32), (73 : Int32), (110 : Int32), (102 : Int32)] : List Int32)) (List.mem_of_getElem? (i := 0) rfl) (by simp) _) (argsL := [(.int p3), (.ref a27)]) (rest := []) rfl pd9 rfl rfl rfl (W := 0) rfl (by decide) (by decide) (cs' := 20) rfl (ss' := 236) rfl (by decide) (by decide) ?_
  intro T29 v30 B31
  replace B31 := Rn.ex B31
  obtain ⟨s3, B31⟩ := B31
  replace B31 := Rn.ex B31
  obtain ⟨b32, B31⟩ := B31
  replace B31 := Rn.ex B31
  obtain ⟨xs3, B31⟩ := B31
  replace B31 := Rn.and B31
  obtain ⟨rfl, B31⟩ := B31
  replace B31 := Rn.and B31
  obtain ⟨hl3, B31⟩ := B31
  show Fn g D0 M _ (T29.setTop (mkF M.m 30 #[.val (.int p0), .val (.int p1), .val (.int p2), .val (.int p3), .val (.int p4), .val (.ref s0), .val (.ref s1), .val (.ref s2), .unset, .unset, .unset, .unset, .unset] [(.ref s3)]))
  have B33 : RH g D0 M T29 [] [(s3, b32, 0, xs3.map Value.int), (s2, b24, 0, xs2.map Value.int), (s1, b16, 0, xs1.map Value.int), (s0, b8, 0, xs0.map Value.int)] 20 236 := Rn.lsub B31 (List.forall_mem_cons.2 ⟨(List.mem_of_getElem? (i := 0) rfl), List.forall_mem_cons.2 ⟨(List.mem_of_getElem? (i := 2) rfl), List.forall_mem_cons.2 ⟨(List.mem_of_getElem? (i := 4) rfl), List.forall_mem_cons.2 ⟨(List.mem_of_getElem? (i := 6) rfl), nofun⟩⟩⟩⟩)
  refine p_astore B33 at_30 (pc' := 32) rfl rfl (Ls' := #[.val (.int p0), .val (.int p1), .val (.int p2), .val (.int p3), .val (.int p4), .val (.ref s0), .val (.ref s1), .val (.ref s2), .val (.ref s3), .unset, .unset, .unset, .unset]) rfl ?_
  refine r_new B33 at_32 (pc' := 35) rfl (W40 B33.gw) (W41 B33.gw) (W42 B33.gw) (Ly_o_Pain001Reader_Element B33.gw) (by decide) (cs' := 21) rfl (ss' := 243) rfl (by decide) (by decide) ?_
  intro T34 a36 B35
  refine p_dup B35 at_35 (pc' := 36) rfl rfl ?_
  refine r_special (D' := D8) B35 at_36 (pc' := 39) rfl rfl rfl (W43 B35.gw) (W44 B35.gw) (W42 B35.gw) (W45 B35.gw) (by decide) (k_ei W a36 [] _) (a := a36) (argsL := []) (rest := [(.ref a36)]) rfl pd10 rfl rfl rfl (W := 1) rfl (by decide) (by decide) (cs' := 22) rfl (ss' := 259) rfl (by decide) (by decide) ?_
  intro T37 v38 B39
  replace B39 := Rn.and B39
  obtain ⟨rfl, B39⟩ := B39
  replace B39 := Rn.ex B39
  obtain ⟨na, B39⟩ := B39
  show Fn g D0 M _ (T37.setTop (mkF M.m 39 #[.val (.int p0), .val (.int p1), .val (.int p2), .val (.int p3), .val (.int p4), .val (.ref s0), .val (.ref s1), .val (.ref s2), .val (.ref s3), .unset, .unset, .unset, .unset] [(.ref a36)]))
  refine p_astore B39 at_39 (pc' := 41) rfl rfl (Ls' := #[.val (.int p0), .val (.int p1), .val (.int p2), .val (.int p3), .val (.int p4), .val (.ref s0), .val (.ref s1), .val (.ref s2), .val (.ref s3), .val (.ref a36), .unset, .unset, .unset]) rfl ?_
  refine p_aload B39 at_41 (pc' := 43) rfl rfl rfl ?_
  refine p_aload B39 at_43 (pc' := 45) rfl rfl rfl ?_
  have B40 : RH g D0 M T37 [(na, .inr ((.object "java/lang/String"), "[Ljava/lang/String;", [.null, .null, .null, .null, .null, .null, .null, .null, .null, .null, .null, .null, .null, .null, .null, .null])), o_Pain001Reader_Element a36 (.ref na) (.int (0 : Int32)) (.int (0 : Int32)) (.int (0 : Int32)) (.int (0 : Int32)) (.int (0 : Int32))] [(s3, b32, 0, xs3.map Value.int), (s2, b24, 0, xs2.map Value.int), (s1, b16, 0, xs1.map Value.int), (s0, b8, 0, xs0.map Value.int)] 22 259 := B39.front (i := 1) rfl rfl
  have B41 : RH g D0 M T37 [o_Pain001Reader_Element a36 (.ref na) (.int (0 : Int32)) (.int (0 : Int32)) (.int (0 : Int32)) (.int (0 : Int32)) (.int (0 : Int32)), (na, .inr ((.object "java/lang/String"), "[Ljava/lang/String;", [.null, .null, .null, .null, .null, .null, .null, .null, .null, .null, .null, .null, .null, .null, .null, .null]))] [(s3, b32, 0, xs3.map Value.int), (s2, b24, 0, xs2.map Value.int), (s1, b16, 0, xs1.map Value.int), (s0, b8, 0, xs0.map Value.int)] 22 259 := B40.front (i := 1) rfl rfl
  refine r_virtual (D' := D9_push0) B41 at_45 (pc' := 48) rfl (W51 B41.gw) (W52 B41.gw) (W54 B41.gw) (fun vm0 hZ => notFace_of_selects (args := #[]) (mvT hZ (W54 B41.gw))) (W53 B41.gw) (W42 B41.gw) (W55 B41.gw) (by decide) (fE (i := 0) rfl) (k_push0 W a36 na (0 : Int32) (0 : Int32) (0 : Int32) (0 : Int32) s0 [] (xx0 := xs0) (List.mem_of_getElem? (i := 3) rfl) hl0) (argsL := [(.ref s0)]) (rest := []) rfl pd11 rfl rfl rfl (W := 0) rfl (by decide) (by decide) (cs' := 22) rfl (ss' := 259) rfl (by decide) (by decide) ?_
  intro T42 v43 B44
  replace B44 := Rn.and B44
  obtain ⟨rfl, B44⟩ := B44
  replace B44 := Rn.ex B44
  obtain ⟨g45, B44⟩ := B44
  replace B44 := Rn.ex B44
  obtain ⟨g46, B44⟩ := B44
  replace B44 := Rn.ex B44
  obtain ⟨g47, B44⟩ := B44
  replace B44 := Rn.ex B44
  obtain ⟨g48, B44⟩ := B44
  show Fn g D0 M _ (T42.setTop (mkF M.m 48 #[.val (.int p0), .val (.int p1), .val (.int p2), .val (.int p3), .val (.int p4), .val (.ref s0), .val (.ref s1), .val (.ref s2), .val (.ref s3), .val (.ref a36), .unset, .unset, .unset] []))
  refine p_aload B44 at_48 (pc' := 50) rfl rfl rfl ?_
  refine p_aload B44 at_50 (pc' := 52) rfl rfl rfl ?_
  have B49 : RH g D0 M T42 [(na, .inr ((.object "java/lang/String"), "[Ljava/lang/String;", [(.ref s0), .null, .null, .null, .null, .null, .null, .null, .null, .null, .null, .null, .null, .null, .null, .null])), o_Pain001Reader_Element a36 (.ref na) (.int (1 : Int32)) (.int g45) (.int g46) (.int g47) (.int g48)] [(s3, b32, 0, xs3.map Value.int), (s2, b24, 0, xs2.map Value.int), (s1, b16, 0, xs1.map Value.int), (s0, b8, 0, xs0.map Value.int)] 22 259 := B44.front (i := 1) rfl rfl
  have B50 : RH g D0 M T42 [o_Pain001Reader_Element a36 (.ref na) (.int (1 : Int32)) (.int g45) (.int g46) (.int g47) (.int g48), (na, .inr ((.object "java/lang/String"), "[Ljava/lang/String;", [(.ref s0), .null, .null, .null, .null, .null, .null, .null, .null, .null, .null, .null, .null, .null, .null, .null]))] [(s3, b32, 0, xs3.map Value.int), (s2, b24, 0, xs2.map Value.int), (s1, b16, 0, xs1.map Value.int), (s0, b8, 0, xs0.map Value.int)] 22 259 := B49.front (i := 1) rfl rfl
  refine r_virtual (D' := D12) B50 at_52 (pc' := 55) rfl (W68 B50.gw) (W69 B50.gw) (W71 B50.gw) (fun vm0 hZ => notFace_of_selects (args := #[]) (mvT hZ (W71 B50.gw))) (W70 B50.gw) (W42 B50.gw) (W72 B50.gw) (by decide) (fE (i := 0) rfl) (k_nm1 W a36 na g45 g46 g47 g48 s0 [] _) (argsL := []) (rest := [(.ref s0)]) rfl pd12 rfl rfl rfl (W := 1) rfl (by decide) (by decide) (cs' := 22) rfl (ss' := 259) rfl (by decide) (by decide) ?_
  intro T51 v52 B53
  replace B53 := Rn.and B53
  obtain ⟨rfl, B53⟩ := B53
  show Fn g D0 M _ (T51.setTop (mkF M.m 55 #[.val (.int p0), .val (.int p1), .val (.int p2), .val (.int p3), .val (.int p4), .val (.ref s0), .val (.ref s1), .val (.ref s2), .val (.ref s3), .val (.ref a36), .unset, .unset, .unset] [(.ref s0), (.ref s0)]))
  refine r_virtual (D' := D13) B53 at_55 (pc' := 58) rfl (W73 B53.gw) (W74 B53.gw) (W76 B53.gw) (fun vm0 hZ => notFace_of_selects (args := #[]) (mvT hZ (W76 B53.gw))) (W75 B53.gw) (W1 B53.gw) (W77 B53.gw) (by decide) (sE (List.mem_of_getElem? (i := 3) rfl)) (k_se W (xs := xs0) (ys := xs0) (List.mem_of_getElem? (i := 3) rfl) (List.mem_of_getElem? (i := 3) rfl) hl0 hl0) (argsL := [(.ref s0)]) (rest := []) rfl pd5 rfl rfl rfl (W := 0) rfl (by decide) (by decide) (cs' := 22) rfl (ss' := 259) rfl (by decide) (by decide) ?_
  intro T54 v55 B56
  replace B56 := Rn.ex B56
  obtain ⟨z, B56⟩ := B56
  replace B56 := Rn.and B56
  obtain ⟨rfl, B56⟩ := B56
  replace B56 := Rn.and B56
  obtain ⟨hz, B56⟩ := B56
  show Fn g D0 M _ (T54.setTop (mkF M.m 58 #[.val (.int p0), .val (.int p1), .val (.int p2), .val (.int p3), .val (.int p4), .val (.ref s0), .val (.ref s1), .val (.ref s2), .val (.ref s3), .val (.ref a36), .unset, .unset, .unset] [(.int z)]))
  obtain rfl : z = (1 : Int32) := by
    rcases hz with ⟨q, r⟩ | ⟨q, r⟩
    · exact q
    · exact absurd rfl r
  refine p_istore B56 at_58 (pc' := 60) rfl (Ls' := #[.val (.int p0), .val (.int p1), .val (.int p2), .val (.int p3), .val (.int p4), .val (.ref s0), .val (.ref s1), .val (.ref s2), .val (.ref s3), .val (.ref a36), .val (.int (1 : Int32)), .unset, .unset]) rfl ?_
  refine p_aload B56 at_60 (pc' := 62) rfl rfl rfl ?_
  refine p_aload B56 at_62 (pc' := 64) rfl rfl rfl ?_
  have B57 : RH g D0 M T54 [(na, .inr ((.object "java/lang/String"), "[Ljava/lang/String;", [(.ref s0), .null, .null, .null, .null, .null, .null, .null, .null, .null, .null, .null, .null, .null, .null, .null])), o_Pain001Reader_Element a36 (.ref na) (.int (1 : Int32)) (.int g45) (.int g46) (.int g47) (.int g48)] [(s3, b32, 0, xs3.map Value.int), (s2, b24, 0, xs2.map Value.int), (s1, b16, 0, xs1.map Value.int), (s0, b8, 0, xs0.map Value.int)] 22 259 := B56.front (i := 1) rfl rfl
  have B58 : RH g D0 M T54 [o_Pain001Reader_Element a36 (.ref na) (.int (1 : Int32)) (.int g45) (.int g46) (.int g47) (.int g48), (na, .inr ((.object "java/lang/String"), "[Ljava/lang/String;", [(.ref s0), .null, .null, .null, .null, .null, .null, .null, .null, .null, .null, .null, .null, .null, .null, .null]))] [(s3, b32, 0, xs3.map Value.int), (s2, b24, 0, xs2.map Value.int), (s1, b16, 0, xs1.map Value.int), (s0, b8, 0, xs0.map Value.int)] 22 259 := B57.front (i := 1) rfl rfl
  refine r_virtual (D' := D9_push1) B58 at_64 (pc' := 67) rfl (W51 B58.gw) (W52 B58.gw) (W54 B58.gw) (fun vm0 hZ => notFace_of_selects (args := #[]) (mvT hZ (W54 B58.gw))) (W53 B58.gw) (W42 B58.gw) (W55 B58.gw) (by decide) (fE (i := 0) rfl) (k_push1 W a36 na g45 g46 g47 g48 s0 s1 [] (xx0 := xs0) (List.mem_of_getElem? (i := 3) rfl) hl0 (xx1 := xs1) (List.mem_of_getElem? (i := 2) rfl) hl1) (argsL := [(.ref s1)]) (rest := []) rfl pd11 rfl rfl rfl (W := 0) rfl (by decide) (by decide) (cs' := 22) rfl (ss' := 259) rfl (by decide) (by decide) ?_
  intro T59 v60 B61
  replace B61 := Rn.and B61
  obtain ⟨rfl, B61⟩ := B61
  replace B61 := Rn.ex B61
  obtain ⟨g62, B61⟩ := B61
  replace B61 := Rn.ex B61
  obtain ⟨g63, B61⟩ := B61
  replace B61 := Rn.ex B61
  obtain ⟨g64, B61⟩ := B61
  replace B61 := Rn.ex B61
  obtain ⟨g65, B61⟩ := B61
  show Fn g D0 M _ (T59.setTop (mkF M.m 67 #[.val (.int p0), .val (.int p1), .val (.int p2), .val (.int p3), .val (.int p4), .val (.ref s0), .val (.ref s1), .val (.ref s2), .val (.ref s3), .val (.ref a36), .val (.int (1 : Int32)), .unset, .unset] []))
  refine p_aload B61 at_67 (pc' := 69) rfl rfl rfl ?_
  refine p_aload B61 at_69 (pc' := 71) rfl rfl rfl ?_
  have B66 : RH g D0 M T59 [(na, .inr ((.object "java/lang/String"), "[Ljava/lang/String;", [(.ref s0), (.ref s1), .null, .null, .null, .null, .null, .null, .null, .null, .null, .null, .null, .null, .null, .null])), o_Pain001Reader_Element a36 (.ref na) (.int (2 : Int32)) (.int g62) (.int g63) (.int g64) (.int g65)] [(s3, b32, 0, xs3.map Value.int), (s2, b24, 0, xs2.map Value.int), (s1, b16, 0, xs1.map Value.int), (s0, b8, 0, xs0.map Value.int)] 22 259 := B61.front (i := 1) rfl rfl
  have B67 : RH g D0 M T59 [o_Pain001Reader_Element a36 (.ref na) (.int (2 : Int32)) (.int g62) (.int g63) (.int g64) (.int g65), (na, .inr ((.object "java/lang/String"), "[Ljava/lang/String;", [(.ref s0), (.ref s1), .null, .null, .null, .null, .null, .null, .null, .null, .null, .null, .null, .null, .null, .null]))] [(s3, b32, 0, xs3.map Value.int), (s2, b24, 0, xs2.map Value.int), (s1, b16, 0, xs1.map Value.int), (s0, b8, 0, xs0.map Value.int)] 22 259 := B66.front (i := 1) rfl rfl
  refine r_virtual (D' := D9_push2) B67 at_71 (pc' := 74) rfl (W51 B67.gw) (W52 B67.gw) (W54 B67.gw) (fun vm0 hZ => notFace_of_selects (args := #[]) (mvT hZ (W54 B67.gw))) (W53 B67.gw) (W42 B67.gw) (W55 B67.gw) (by decide) (fE (i := 0) rfl) (k_push2 W a36 na g62 g63 g64 g65 s0 s1 s2 [] (xx0 := xs0) (List.mem_of_getElem? (i := 3) rfl) hl0 (xx1 := xs1) (List.mem_of_getElem? (i := 2) rfl) hl1 (xx2 := xs2) (List.mem_of_getElem? (i := 1) rfl) hl2) (argsL := [(.ref s2)]) (rest := []) rfl pd11 rfl rfl rfl (W := 0) rfl (by decide) (by decide) (cs' := 29) rfl (ss' := 394) rfl (by decide) (by decide) ?_
  intro T68 v69 B70
  replace B70 := Rn.and B70
  obtain ⟨rfl, B70⟩ := B70
  replace B70 := Rn.ex B70
  obtain ⟨g71, B70⟩ := B70
  replace B70 := Rn.ex B70
  obtain ⟨g72, B70⟩ := B70
  replace B70 := Rn.ex B70
  obtain ⟨g73, B70⟩ := B70
  replace B70 := Rn.ex B70
  obtain ⟨g74, B70⟩ := B70
  show Fn g D0 M _ (T68.setTop (mkF M.m 74 #[.val (.int p0), .val (.int p1), .val (.int p2), .val (.int p3), .val (.int p4), .val (.ref s0), .val (.ref s1), .val (.ref s2), .val (.ref s3), .val (.ref a36), .val (.int (1 : Int32)), .unset, .unset] []))
  refine p_aload B70 at_74 (pc' := 76) rfl rfl rfl ?_
  refine p_aload B70 at_76 (pc' := 78) rfl rfl rfl ?_
  have B75 : RH g D0 M T68 [(na, .inr ((.object "java/lang/String"), "[Ljava/lang/String;", [(.ref s0), (.ref s1), (.ref s2), .null, .null, .null, .null, .null, .null, .null, .null, .null, .null, .null, .null, .null])), o_Pain001Reader_Element a36 (.ref na) (.int (3 : Int32)) (.int g71) (.int g72) (.int g73) (.int g74)] [(s3, b32, 0, xs3.map Value.int), (s2, b24, 0, xs2.map Value.int), (s1, b16, 0, xs1.map Value.int), (s0, b8, 0, xs0.map Value.int)] 29 394 := B70.front (i := 1) rfl rfl
  have B76 : RH g D0 M T68 [o_Pain001Reader_Element a36 (.ref na) (.int (3 : Int32)) (.int g71) (.int g72) (.int g73) (.int g74), (na, .inr ((.object "java/lang/String"), "[Ljava/lang/String;", [(.ref s0), (.ref s1), (.ref s2), .null, .null, .null, .null, .null, .null, .null, .null, .null, .null, .null, .null, .null]))] [(s3, b32, 0, xs3.map Value.int), (s2, b24, 0, xs2.map Value.int), (s1, b16, 0, xs1.map Value.int), (s0, b8, 0, xs0.map Value.int)] 29 394 := B75.front (i := 1) rfl rfl
  refine r_virtual (D' := D9_push3) B76 at_78 (pc' := 81) rfl (W51 B76.gw) (W52 B76.gw) (W54 B76.gw) (fun vm0 hZ => notFace_of_selects (args := #[]) (mvT hZ (W54 B76.gw))) (W53 B76.gw) (W42 B76.gw) (W55 B76.gw) (by decide) (fE (i := 0) rfl) (k_push3 W a36 na g71 g72 g73 g74 s0 s1 s2 s3 [] (xx0 := xs0) (List.mem_of_getElem? (i := 3) rfl) hl0 (xx1 := xs1) (List.mem_of_getElem? (i := 2) rfl) hl1 (xx2 := xs2) (List.mem_of_getElem? (i := 1) rfl) hl2 (xx3 := xs3) (List.mem_of_getElem? (i := 0) rfl) hl3) (argsL := [(.ref s3)]) (rest := []) rfl pd11 rfl rfl rfl (W := 0) rfl (by decide) (by decide) (cs' := 32) rfl (ss' := 443) rfl (by decide) (by decide) ?_
  intro T77 v78 B79
  replace B79 := Rn.and B79
  obtain ⟨rfl, B79⟩ := B79
  replace B79 := Rn.ex B79
  obtain ⟨g80, B79⟩ := B79
  replace B79 := Rn.ex B79
  obtain ⟨g81, B79⟩ := B79
  replace B79 := Rn.ex B79
  obtain ⟨g82, B79⟩ := B79
  replace B79 := Rn.ex B79
  obtain ⟨g83, B79⟩ := B79
  show Fn g D0 M _ (T77.setTop (mkF M.m 81 #[.val (.int p0), .val (.int p1), .val (.int p2), .val (.int p3), .val (.int p4), .val (.ref s0), .val (.ref s1), .val (.ref s2), .val (.ref s3), .val (.ref a36), .val (.int (1 : Int32)), .unset, .unset] []))
  refine p_iload B79 at_81 (pc' := 83) rfl rfl ?_
  refine b_ifF B79 at_83 (pc' := 86) rfl (show ¬ (1 : Int32) = (0 : Int32) from by decide) ?_
  refine p_aload B79 at_86 (pc' := 88) rfl rfl rfl ?_
  refine p_aload B79 at_88 (pc' := 90) rfl rfl rfl ?_
  have B84 : RH g D0 M T77 [(na, .inr ((.object "java/lang/String"), "[Ljava/lang/String;", [(.ref s0), (.ref s1), (.ref s2), (.ref s3), .null, .null, .null, .null, .null, .null, .null, .null, .null, .null, .null, .null])), o_Pain001Reader_Element a36 (.ref na) (.int (4 : Int32)) (.int g80) (.int g81) (.int g82) (.int g83)] [(s3, b32, 0, xs3.map Value.int), (s2, b24, 0, xs2.map Value.int), (s1, b16, 0, xs1.map Value.int), (s0, b8, 0, xs0.map Value.int)] 32 443 := B79.front (i := 1) rfl rfl
  have B85 : RH g D0 M T77 [o_Pain001Reader_Element a36 (.ref na) (.int (4 : Int32)) (.int g80) (.int g81) (.int g82) (.int g83), (na, .inr ((.object "java/lang/String"), "[Ljava/lang/String;", [(.ref s0), (.ref s1), (.ref s2), (.ref s3), .null, .null, .null, .null, .null, .null, .null, .null, .null, .null, .null, .null]))] [(s3, b32, 0, xs3.map Value.int), (s2, b24, 0, xs2.map Value.int), (s1, b16, 0, xs1.map Value.int), (s0, b8, 0, xs0.map Value.int)] 32 443 := B84.front (i := 1) rfl rfl
  refine r_virtual (D' := D12) B85 at_90 (pc' := 93) rfl (W68 B85.gw) (W69 B85.gw) (W71 B85.gw) (fun vm0 hZ => notFace_of_selects (args := #[]) (mvT hZ (W71 B85.gw))) (W70 B85.gw) (W42 B85.gw) (W72 B85.gw) (by decide) (fE (i := 0) rfl) (k_nm4 W a36 na g80 g81 g82 g83 s0 s1 s2 s3 [] _) (argsL := []) (rest := [(.ref s3)]) rfl pd12 rfl rfl rfl (W := 1) rfl (by decide) (by decide) (cs' := 32) rfl (ss' := 443) rfl (by decide) (by decide) ?_
  intro T86 v87 B88
  replace B88 := Rn.and B88
  obtain ⟨rfl, B88⟩ := B88
  show Fn g D0 M _ (T86.setTop (mkF M.m 93 #[.val (.int p0), .val (.int p1), .val (.int p2), .val (.int p3), .val (.int p4), .val (.ref s0), .val (.ref s1), .val (.ref s2), .val (.ref s3), .val (.ref a36), .val (.int (1 : Int32)), .unset, .unset] [(.ref s3), (.ref s3)]))
  refine r_virtual (D' := D13) B88 at_93 (pc' := 96) rfl (W73 B88.gw) (W74 B88.gw) (W76 B88.gw) (fun vm0 hZ => notFace_of_selects (args := #[]) (mvT hZ (W76 B88.gw))) (W75 B88.gw) (W1 B88.gw) (W77 B88.gw) (by decide) (sE (List.mem_of_getElem? (i := 0) rfl)) (k_se W (xs := xs3) (ys := xs3) (List.mem_of_getElem? (i := 0) rfl) (List.mem_of_getElem? (i := 0) rfl) hl3 hl3) (argsL := [(.ref s3)]) (rest := []) rfl pd5 rfl rfl rfl (W := 0) rfl (by decide) (by decide) (cs' := 32) rfl (ss' := 443) rfl (by decide) (by decide) ?_
  intro T89 v90 B91
  replace B91 := Rn.ex B91
  obtain ⟨z, B91⟩ := B91
  replace B91 := Rn.and B91
  obtain ⟨rfl, B91⟩ := B91
  replace B91 := Rn.and B91
  obtain ⟨hz, B91⟩ := B91
  show Fn g D0 M _ (T89.setTop (mkF M.m 96 #[.val (.int p0), .val (.int p1), .val (.int p2), .val (.int p3), .val (.int p4), .val (.ref s0), .val (.ref s1), .val (.ref s2), .val (.ref s3), .val (.ref a36), .val (.int (1 : Int32)), .unset, .unset] [(.int z)]))
  obtain rfl : z = (1 : Int32) := by
    rcases hz with ⟨q, r⟩ | ⟨q, r⟩
    · exact q
    · exact absurd rfl r
  refine b_ifF B91 at_96 (pc' := 99) rfl (show ¬ (1 : Int32) = (0 : Int32) from by decide) ?_
  refine p_iconst B91 at_99 (pc' := 100) rfl (v := (1 : Int32)) (by decide) ?_
  refine b_goto B91 at_100 (pc' := 104) (by decide) (by decide) ?_
  refine p_istore B91 at_104 (pc' := 106) rfl (Ls' := #[.val (.int p0), .val (.int p1), .val (.int p2), .val (.int p3), .val (.int p4), .val (.ref s0), .val (.ref s1), .val (.ref s2), .val (.ref s3), .val (.ref a36), .val (.int (1 : Int32)), .unset, .unset]) rfl ?_
  refine p_iload B91 at_106 (pc' := 108) rfl rfl ?_
  refine p_iconst B91 at_108 (pc' := 109) rfl (v := (3 : Int32)) (by decide) ?_
  refine p_iand B91 at_109 (pc' := 110) rfl rfl ?_
  rcases m3 p4 with e | e | e | e
  · rw [e]
    refine p_istore B91 at_110 (pc' := 112) rfl (Ls' := #[.val (.int p0), .val (.int p1), .val (.int p2), .val (.int p3), .val (.int p4), .val (.ref s0), .val (.ref s1), .val (.ref s2), .val (.ref s3), .val (.ref a36), .val (.int (1 : Int32)), .val (.int (0 : Int32)), .unset]) rfl ?_
    refine p_iload B91 at_112 (pc' := 114) rfl rfl ?_
    refine p_iconst B91 at_114 (pc' := 115) rfl (v := (1 : Int32)) (by decide) ?_
    refine b_icT B91 at_115 (pc' := 123) (show (0 : Int32) < (1 : Int32) from by decide) (by decide) (by decide) ?_
    refine p_iload B91 at_123 (pc' := 125) rfl rfl ?_
    refine p_iconst B91 at_125 (pc' := 126) rfl (v := (2 : Int32)) (by decide) ?_
    refine b_icT B91 at_126 (pc' := 134) (show (0 : Int32) < (2 : Int32) from by decide) (by decide) (by decide) ?_
    refine p_iload B91 at_134 (pc' := 136) rfl rfl ?_
    refine p_iconst B91 at_136 (pc' := 137) rfl (v := (3 : Int32)) (by decide) ?_
    refine b_icT B91 at_137 (pc' := 145) (show (0 : Int32) < (3 : Int32) from by decide) (by decide) (by decide) ?_
    refine p_iload B91 at_145 (pc' := 147) rfl rfl ?_
    refine b_ifF B91 at_147 (pc' := 150) rfl (show (0 : Int32) = (0 : Int32) from by decide) ?_
    refine p_aload B91 at_150 (pc' := 152) rfl rfl rfl ?_
    refine p_astore B91 at_152 (pc' := 154) rfl rfl (Ls' := #[.val (.int p0), .val (.int p1), .val (.int p2), .val (.int p3), .val (.int p4), .val (.ref s0), .val (.ref s1), .val (.ref s2), .val (.ref s3), .val (.ref a36), .val (.int (1 : Int32)), .val (.int (0 : Int32)), .val (.ref s3)]) rfl ?_
    refine b_goto B91 at_154 (pc' := 187) (by decide) (by decide) ?_
    refine p_iload B91 at_187 (pc' := 189) rfl rfl ?_
    refine b_ifF B91 at_189 (pc' := 192) rfl (show ¬ (1 : Int32) = (0 : Int32) from by decide) ?_
    refine p_aload B91 at_192 (pc' := 194) rfl rfl rfl ?_
    refine p_aload B91 at_194 (pc' := 196) rfl rfl rfl ?_
    have B92 : RH g D0 M T89 [(na, .inr ((.object "java/lang/String"), "[Ljava/lang/String;", [(.ref s0), (.ref s1), (.ref s2), (.ref s3), .null, .null, .null, .null, .null, .null, .null, .null, .null, .null, .null, .null])), o_Pain001Reader_Element a36 (.ref na) (.int (4 : Int32)) (.int g80) (.int g81) (.int g82) (.int g83)] [(s3, b32, 0, xs3.map Value.int), (s2, b24, 0, xs2.map Value.int), (s1, b16, 0, xs1.map Value.int), (s0, b8, 0, xs0.map Value.int)] 32 443 := B91.front (i := 1) rfl rfl
    have B93 : RH g D0 M T89 [o_Pain001Reader_Element a36 (.ref na) (.int (4 : Int32)) (.int g80) (.int g81) (.int g82) (.int g83), (na, .inr ((.object "java/lang/String"), "[Ljava/lang/String;", [(.ref s0), (.ref s1), (.ref s2), (.ref s3), .null, .null, .null, .null, .null, .null, .null, .null, .null, .null, .null, .null]))] [(s3, b32, 0, xs3.map Value.int), (s2, b24, 0, xs2.map Value.int), (s1, b16, 0, xs1.map Value.int), (s0, b8, 0, xs0.map Value.int)] 32 443 := B92.front (i := 1) rfl rfl
    refine r_virtual (D' := D12) B93 at_196 (pc' := 199) rfl (W68 B93.gw) (W69 B93.gw) (W71 B93.gw) (fun vm0 hZ => notFace_of_selects (args := #[]) (mvT hZ (W71 B93.gw))) (W70 B93.gw) (W42 B93.gw) (W72 B93.gw) (by decide) (fE (i := 0) rfl) (k_nm4 W a36 na g80 g81 g82 g83 s0 s1 s2 s3 [] _) (argsL := []) (rest := [(.ref s3)]) rfl pd12 rfl rfl rfl (W := 1) rfl (by decide) (by decide) (cs' := 32) rfl (ss' := 443) rfl (by decide) (by decide) ?_
    intro T94 v95 B96
    replace B96 := Rn.and B96
    obtain ⟨rfl, B96⟩ := B96
    show Fn g D0 M _ (T94.setTop (mkF M.m 199 #[.val (.int p0), .val (.int p1), .val (.int p2), .val (.int p3), .val (.int p4), .val (.ref s0), .val (.ref s1), .val (.ref s2), .val (.ref s3), .val (.ref a36), .val (.int (1 : Int32)), .val (.int (0 : Int32)), .val (.ref s3)] [(.ref s3), (.ref s3)]))
    refine r_virtual (D' := D13) B96 at_199 (pc' := 202) rfl (W73 B96.gw) (W74 B96.gw) (W76 B96.gw) (fun vm0 hZ => notFace_of_selects (args := #[]) (mvT hZ (W76 B96.gw))) (W75 B96.gw) (W1 B96.gw) (W77 B96.gw) (by decide) (sE (List.mem_of_getElem? (i := 0) rfl)) (k_se W (xs := xs3) (ys := xs3) (List.mem_of_getElem? (i := 0) rfl) (List.mem_of_getElem? (i := 0) rfl) hl3 hl3) (argsL := [(.ref s3)]) (rest := []) rfl pd5 rfl rfl rfl (W := 0) rfl (by decide) (by decide) (cs' := 32) rfl (ss' := 443) rfl (by decide) (by decide) ?_
    intro T97 v98 B99
    replace B99 := Rn.ex B99
    obtain ⟨z, B99⟩ := B99
    replace B99 := Rn.and B99
    obtain ⟨rfl, B99⟩ := B99
    replace B99 := Rn.and B99
    obtain ⟨hz, B99⟩ := B99
    show Fn g D0 M _ (T97.setTop (mkF M.m 202 #[.val (.int p0), .val (.int p1), .val (.int p2), .val (.int p3), .val (.int p4), .val (.ref s0), .val (.ref s1), .val (.ref s2), .val (.ref s3), .val (.ref a36), .val (.int (1 : Int32)), .val (.int (0 : Int32)), .val (.ref s3)] [(.int z)]))
    obtain rfl : z = (1 : Int32) := by
      rcases hz with ⟨q, r⟩ | ⟨q, r⟩
      · exact q
      · exact absurd rfl r
    refine b_ifF B99 at_202 (pc' := 205) rfl (show ¬ (1 : Int32) = (0 : Int32) from by decide) ?_
    refine p_iconst B99 at_205 (pc' := 206) rfl (v := (1 : Int32)) (by decide) ?_
    refine b_goto B99 at_206 (pc' := 210) (by decide) (by decide) ?_
    exact r_reti B99 at_210 rfl (by simp) rfl (by decide) (by decide) (fun vm h P => rfl)
  · rw [e]
    refine p_istore B91 at_110 (pc' := 112) rfl (Ls' := #[.val (.int p0), .val (.int p1), .val (.int p2), .val (.int p3), .val (.int p4), .val (.ref s0), .val (.ref s1), .val (.ref s2), .val (.ref s3), .val (.ref a36), .val (.int (1 : Int32)), .val (.int (1 : Int32)), .unset]) rfl ?_
    refine p_iload B91 at_112 (pc' := 114) rfl rfl ?_
    refine p_iconst B91 at_114 (pc' := 115) rfl (v := (1 : Int32)) (by decide) ?_
    refine b_icF B91 at_115 (pc' := 118) rfl (show ¬ (1 : Int32) < (1 : Int32) from by decide) ?_
    refine p_aload B91 at_118 (pc' := 120) rfl rfl rfl ?_
    have B100 : RH g D0 M T89 [(na, .inr ((.object "java/lang/String"), "[Ljava/lang/String;", [(.ref s0), (.ref s1), (.ref s2), (.ref s3), .null, .null, .null, .null, .null, .null, .null, .null, .null, .null, .null, .null])), o_Pain001Reader_Element a36 (.ref na) (.int (4 : Int32)) (.int g80) (.int g81) (.int g82) (.int g83)] [(s3, b32, 0, xs3.map Value.int), (s2, b24, 0, xs2.map Value.int), (s1, b16, 0, xs1.map Value.int), (s0, b8, 0, xs0.map Value.int)] 32 443 := B91.front (i := 1) rfl rfl
    have B101 : RH g D0 M T89 [o_Pain001Reader_Element a36 (.ref na) (.int (4 : Int32)) (.int g80) (.int g81) (.int g82) (.int g83), (na, .inr ((.object "java/lang/String"), "[Ljava/lang/String;", [(.ref s0), (.ref s1), (.ref s2), (.ref s3), .null, .null, .null, .null, .null, .null, .null, .null, .null, .null, .null, .null]))] [(s3, b32, 0, xs3.map Value.int), (s2, b24, 0, xs2.map Value.int), (s1, b16, 0, xs1.map Value.int), (s0, b8, 0, xs0.map Value.int)] 32 443 := B100.front (i := 1) rfl rfl
    refine r_virtual (D' := D16_pop4) B101 at_120 (pc' := 123) rfl (W94 B101.gw) (W95 B101.gw) (W97 B101.gw) (fun vm0 hZ => notFace_of_selects (args := #[]) (mvT hZ (W97 B101.gw))) (W96 B101.gw) (W42 B101.gw) (W98 B101.gw) (by decide) (fE (i := 0) rfl) (k_pop4 W a36 na g80 g81 g82 g83 s0 s1 s2 s3 [] (xx0 := xs0) (List.mem_of_getElem? (i := 3) rfl) hl0 (xx1 := xs1) (List.mem_of_getElem? (i := 2) rfl) hl1 (xx2 := xs2) (List.mem_of_getElem? (i := 1) rfl) hl2 (xx3 := xs3) (List.mem_of_getElem? (i := 0) rfl) hl3) (argsL := []) (rest := []) rfl pd10 rfl rfl rfl (W := 0) rfl (by decide) (by decide) (cs' := 35) rfl (ss' := 492) rfl (by decide) (by decide) ?_
    intro T102 v103 B104
    replace B104 := Rn.and B104
    obtain ⟨rfl, B104⟩ := B104
    replace B104 := Rn.ex B104
    obtain ⟨g105, B104⟩ := B104
    replace B104 := Rn.ex B104
    obtain ⟨g106, B104⟩ := B104
    replace B104 := Rn.ex B104
    obtain ⟨g107, B104⟩ := B104
    replace B104 := Rn.ex B104
    obtain ⟨g108, B104⟩ := B104
    show Fn g D0 M _ (T102.setTop (mkF M.m 123 #[.val (.int p0), .val (.int p1), .val (.int p2), .val (.int p3), .val (.int p4), .val (.ref s0), .val (.ref s1), .val (.ref s2), .val (.ref s3), .val (.ref a36), .val (.int (1 : Int32)), .val (.int (1 : Int32)), .unset] []))
    refine p_iload B104 at_123 (pc' := 125) rfl rfl ?_
    refine p_iconst B104 at_125 (pc' := 126) rfl (v := (2 : Int32)) (by decide) ?_
    refine b_icT B104 at_126 (pc' := 134) (show (1 : Int32) < (2 : Int32) from by decide) (by decide) (by decide) ?_
    refine p_iload B104 at_134 (pc' := 136) rfl rfl ?_
    refine p_iconst B104 at_136 (pc' := 137) rfl (v := (3 : Int32)) (by decide) ?_
    refine b_icT B104 at_137 (pc' := 145) (show (1 : Int32) < (3 : Int32) from by decide) (by decide) (by decide) ?_
    refine p_iload B104 at_145 (pc' := 147) rfl rfl ?_
    refine b_ifT B104 at_147 (pc' := 157) (show ¬ (1 : Int32) = (0 : Int32) from by decide) (by decide) (by decide) ?_
    refine p_iload B104 at_157 (pc' := 159) rfl rfl ?_
    refine p_iconst B104 at_159 (pc' := 160) rfl (v := (1 : Int32)) (by decide) ?_
    refine b_icF B104 at_160 (pc' := 163) rfl (show (1 : Int32) = (1 : Int32) from by decide) ?_
    refine p_aload B104 at_163 (pc' := 165) rfl rfl rfl ?_
    refine p_astore B104 at_165 (pc' := 167) rfl rfl (Ls' := #[.val (.int p0), .val (.int p1), .val (.int p2), .val (.int p3), .val (.int p4), .val (.ref s0), .val (.ref s1), .val (.ref s2), .val (.ref s3), .val (.ref a36), .val (.int (1 : Int32)), .val (.int (1 : Int32)), .val (.ref s2)]) rfl ?_
    refine b_goto B104 at_167 (pc' := 187) (by decide) (by decide) ?_
    refine p_iload B104 at_187 (pc' := 189) rfl rfl ?_
    refine b_ifF B104 at_189 (pc' := 192) rfl (show ¬ (1 : Int32) = (0 : Int32) from by decide) ?_
    refine p_aload B104 at_192 (pc' := 194) rfl rfl rfl ?_
    refine p_aload B104 at_194 (pc' := 196) rfl rfl rfl ?_
    have B109 : RH g D0 M T102 [(na, .inr ((.object "java/lang/String"), "[Ljava/lang/String;", [(.ref s0), (.ref s1), (.ref s2), .null, .null, .null, .null, .null, .null, .null, .null, .null, .null, .null, .null, .null])), o_Pain001Reader_Element a36 (.ref na) (.int (3 : Int32)) (.int g105) (.int g106) (.int g107) (.int g108)] [(s3, b32, 0, xs3.map Value.int), (s2, b24, 0, xs2.map Value.int), (s1, b16, 0, xs1.map Value.int), (s0, b8, 0, xs0.map Value.int)] 35 492 := B104.front (i := 1) rfl rfl
    have B110 : RH g D0 M T102 [o_Pain001Reader_Element a36 (.ref na) (.int (3 : Int32)) (.int g105) (.int g106) (.int g107) (.int g108), (na, .inr ((.object "java/lang/String"), "[Ljava/lang/String;", [(.ref s0), (.ref s1), (.ref s2), .null, .null, .null, .null, .null, .null, .null, .null, .null, .null, .null, .null, .null]))] [(s3, b32, 0, xs3.map Value.int), (s2, b24, 0, xs2.map Value.int), (s1, b16, 0, xs1.map Value.int), (s0, b8, 0, xs0.map Value.int)] 35 492 := B109.front (i := 1) rfl rfl
    refine r_virtual (D' := D12) B110 at_196 (pc' := 199) rfl (W68 B110.gw) (W69 B110.gw) (W71 B110.gw) (fun vm0 hZ => notFace_of_selects (args := #[]) (mvT hZ (W71 B110.gw))) (W70 B110.gw) (W42 B110.gw) (W72 B110.gw) (by decide) (fE (i := 0) rfl) (k_nm3 W a36 na g105 g106 g107 g108 s0 s1 s2 [] _) (argsL := []) (rest := [(.ref s2)]) rfl pd12 rfl rfl rfl (W := 1) rfl (by decide) (by decide) (cs' := 35) rfl (ss' := 492) rfl (by decide) (by decide) ?_
    intro T111 v112 B113
    replace B113 := Rn.and B113
    obtain ⟨rfl, B113⟩ := B113
    show Fn g D0 M _ (T111.setTop (mkF M.m 199 #[.val (.int p0), .val (.int p1), .val (.int p2), .val (.int p3), .val (.int p4), .val (.ref s0), .val (.ref s1), .val (.ref s2), .val (.ref s3), .val (.ref a36), .val (.int (1 : Int32)), .val (.int (1 : Int32)), .val (.ref s2)] [(.ref s2), (.ref s2)]))
    refine r_virtual (D' := D13) B113 at_199 (pc' := 202) rfl (W73 B113.gw) (W74 B113.gw) (W76 B113.gw) (fun vm0 hZ => notFace_of_selects (args := #[]) (mvT hZ (W76 B113.gw))) (W75 B113.gw) (W1 B113.gw) (W77 B113.gw) (by decide) (sE (List.mem_of_getElem? (i := 1) rfl)) (k_se W (xs := xs2) (ys := xs2) (List.mem_of_getElem? (i := 1) rfl) (List.mem_of_getElem? (i := 1) rfl) hl2 hl2) (argsL := [(.ref s2)]) (rest := []) rfl pd5 rfl rfl rfl (W := 0) rfl (by decide) (by decide) (cs' := 35) rfl (ss' := 492) rfl (by decide) (by decide) ?_
    intro T114 v115 B116
    replace B116 := Rn.ex B116
    obtain ⟨z, B116⟩ := B116
    replace B116 := Rn.and B116
    obtain ⟨rfl, B116⟩ := B116
    replace B116 := Rn.and B116
    obtain ⟨hz, B116⟩ := B116
    show Fn g D0 M _ (T114.setTop (mkF M.m 202 #[.val (.int p0), .val (.int p1), .val (.int p2), .val (.int p3), .val (.int p4), .val (.ref s0), .val (.ref s1), .val (.ref s2), .val (.ref s3), .val (.ref a36), .val (.int (1 : Int32)), .val (.int (1 : Int32)), .val (.ref s2)] [(.int z)]))
    obtain rfl : z = (1 : Int32) := by
      rcases hz with ⟨q, r⟩ | ⟨q, r⟩
      · exact q
      · exact absurd rfl r
    refine b_ifF B116 at_202 (pc' := 205) rfl (show ¬ (1 : Int32) = (0 : Int32) from by decide) ?_
    refine p_iconst B116 at_205 (pc' := 206) rfl (v := (1 : Int32)) (by decide) ?_
    refine b_goto B116 at_206 (pc' := 210) (by decide) (by decide) ?_
    exact r_reti B116 at_210 rfl (by simp) rfl (by decide) (by decide) (fun vm h P => rfl)
  · rw [e]
    refine p_istore B91 at_110 (pc' := 112) rfl (Ls' := #[.val (.int p0), .val (.int p1), .val (.int p2), .val (.int p3), .val (.int p4), .val (.ref s0), .val (.ref s1), .val (.ref s2), .val (.ref s3), .val (.ref a36), .val (.int (1 : Int32)), .val (.int (2 : Int32)), .unset]) rfl ?_
    refine p_iload B91 at_112 (pc' := 114) rfl rfl ?_
    refine p_iconst B91 at_114 (pc' := 115) rfl (v := (1 : Int32)) (by decide) ?_
    refine b_icF B91 at_115 (pc' := 118) rfl (show ¬ (2 : Int32) < (1 : Int32) from by decide) ?_
    refine p_aload B91 at_118 (pc' := 120) rfl rfl rfl ?_
    have B117 : RH g D0 M T89 [(na, .inr ((.object "java/lang/String"), "[Ljava/lang/String;", [(.ref s0), (.ref s1), (.ref s2), (.ref s3), .null, .null, .null, .null, .null, .null, .null, .null, .null, .null, .null, .null])), o_Pain001Reader_Element a36 (.ref na) (.int (4 : Int32)) (.int g80) (.int g81) (.int g82) (.int g83)] [(s3, b32, 0, xs3.map Value.int), (s2, b24, 0, xs2.map Value.int), (s1, b16, 0, xs1.map Value.int), (s0, b8, 0, xs0.map Value.int)] 32 443 := B91.front (i := 1) rfl rfl
    have B118 : RH g D0 M T89 [o_Pain001Reader_Element a36 (.ref na) (.int (4 : Int32)) (.int g80) (.int g81) (.int g82) (.int g83), (na, .inr ((.object "java/lang/String"), "[Ljava/lang/String;", [(.ref s0), (.ref s1), (.ref s2), (.ref s3), .null, .null, .null, .null, .null, .null, .null, .null, .null, .null, .null, .null]))] [(s3, b32, 0, xs3.map Value.int), (s2, b24, 0, xs2.map Value.int), (s1, b16, 0, xs1.map Value.int), (s0, b8, 0, xs0.map Value.int)] 32 443 := B117.front (i := 1) rfl rfl
    refine r_virtual (D' := D16_pop4) B118 at_120 (pc' := 123) rfl (W94 B118.gw) (W95 B118.gw) (W97 B118.gw) (fun vm0 hZ => notFace_of_selects (args := #[]) (mvT hZ (W97 B118.gw))) (W96 B118.gw) (W42 B118.gw) (W98 B118.gw) (by decide) (fE (i := 0) rfl) (k_pop4 W a36 na g80 g81 g82 g83 s0 s1 s2 s3 [] (xx0 := xs0) (List.mem_of_getElem? (i := 3) rfl) hl0 (xx1 := xs1) (List.mem_of_getElem? (i := 2) rfl) hl1 (xx2 := xs2) (List.mem_of_getElem? (i := 1) rfl) hl2 (xx3 := xs3) (List.mem_of_getElem? (i := 0) rfl) hl3) (argsL := []) (rest := []) rfl pd10 rfl rfl rfl (W := 0) rfl (by decide) (by decide) (cs' := 35) rfl (ss' := 492) rfl (by decide) (by decide) ?_
    intro T119 v120 B121
    replace B121 := Rn.and B121
    obtain ⟨rfl, B121⟩ := B121
    replace B121 := Rn.ex B121
    obtain ⟨g122, B121⟩ := B121
    replace B121 := Rn.ex B121
    obtain ⟨g123, B121⟩ := B121
    replace B121 := Rn.ex B121
    obtain ⟨g124, B121⟩ := B121
    replace B121 := Rn.ex B121
    obtain ⟨g125, B121⟩ := B121
    show Fn g D0 M _ (T119.setTop (mkF M.m 123 #[.val (.int p0), .val (.int p1), .val (.int p2), .val (.int p3), .val (.int p4), .val (.ref s0), .val (.ref s1), .val (.ref s2), .val (.ref s3), .val (.ref a36), .val (.int (1 : Int32)), .val (.int (2 : Int32)), .unset] []))
    refine p_iload B121 at_123 (pc' := 125) rfl rfl ?_
    refine p_iconst B121 at_125 (pc' := 126) rfl (v := (2 : Int32)) (by decide) ?_
    refine b_icF B121 at_126 (pc' := 129) rfl (show ¬ (2 : Int32) < (2 : Int32) from by decide) ?_
    refine p_aload B121 at_129 (pc' := 131) rfl rfl rfl ?_
    have B126 : RH g D0 M T119 [(na, .inr ((.object "java/lang/String"), "[Ljava/lang/String;", [(.ref s0), (.ref s1), (.ref s2), .null, .null, .null, .null, .null, .null, .null, .null, .null, .null, .null, .null, .null])), o_Pain001Reader_Element a36 (.ref na) (.int (3 : Int32)) (.int g122) (.int g123) (.int g124) (.int g125)] [(s3, b32, 0, xs3.map Value.int), (s2, b24, 0, xs2.map Value.int), (s1, b16, 0, xs1.map Value.int), (s0, b8, 0, xs0.map Value.int)] 35 492 := B121.front (i := 1) rfl rfl
    have B127 : RH g D0 M T119 [o_Pain001Reader_Element a36 (.ref na) (.int (3 : Int32)) (.int g122) (.int g123) (.int g124) (.int g125), (na, .inr ((.object "java/lang/String"), "[Ljava/lang/String;", [(.ref s0), (.ref s1), (.ref s2), .null, .null, .null, .null, .null, .null, .null, .null, .null, .null, .null, .null, .null]))] [(s3, b32, 0, xs3.map Value.int), (s2, b24, 0, xs2.map Value.int), (s1, b16, 0, xs1.map Value.int), (s0, b8, 0, xs0.map Value.int)] 35 492 := B126.front (i := 1) rfl rfl
    refine r_virtual (D' := D16_pop3) B127 at_131 (pc' := 134) rfl (W94 B127.gw) (W95 B127.gw) (W97 B127.gw) (fun vm0 hZ => notFace_of_selects (args := #[]) (mvT hZ (W97 B127.gw))) (W96 B127.gw) (W42 B127.gw) (W98 B127.gw) (by decide) (fE (i := 0) rfl) (k_pop3 W a36 na g122 g123 g124 g125 s0 s1 s2 [] (xx0 := xs0) (List.mem_of_getElem? (i := 3) rfl) hl0 (xx1 := xs1) (List.mem_of_getElem? (i := 2) rfl) hl1 (xx2 := xs2) (List.mem_of_getElem? (i := 1) rfl) hl2) (argsL := []) (rest := []) rfl pd10 rfl rfl rfl (W := 0) rfl (by decide) (by decide) (cs' := 42) rfl (ss' := 627) rfl (by decide) (by decide) ?_
    intro T128 v129 B130
    replace B130 := Rn.and B130
    obtain ⟨rfl, B130⟩ := B130
    replace B130 := Rn.ex B130
    obtain ⟨g131, B130⟩ := B130
    replace B130 := Rn.ex B130
    obtain ⟨g132, B130⟩ := B130
    replace B130 := Rn.ex B130
    obtain ⟨g133, B130⟩ := B130
    replace B130 := Rn.ex B130
    obtain ⟨g134, B130⟩ := B130
    show Fn g D0 M _ (T128.setTop (mkF M.m 134 #[.val (.int p0), .val (.int p1), .val (.int p2), .val (.int p3), .val (.int p4), .val (.ref s0), .val (.ref s1), .val (.ref s2), .val (.ref s3), .val (.ref a36), .val (.int (1 : Int32)), .val (.int (2 : Int32)), .unset] []))
    refine p_iload B130 at_134 (pc' := 136) rfl rfl ?_
    refine p_iconst B130 at_136 (pc' := 137) rfl (v := (3 : Int32)) (by decide) ?_
    refine b_icT B130 at_137 (pc' := 145) (show (2 : Int32) < (3 : Int32) from by decide) (by decide) (by decide) ?_
    refine p_iload B130 at_145 (pc' := 147) rfl rfl ?_
    refine b_ifT B130 at_147 (pc' := 157) (show ¬ (2 : Int32) = (0 : Int32) from by decide) (by decide) (by decide) ?_
    refine p_iload B130 at_157 (pc' := 159) rfl rfl ?_
    refine p_iconst B130 at_159 (pc' := 160) rfl (v := (1 : Int32)) (by decide) ?_
    refine b_icT B130 at_160 (pc' := 170) (show ¬ (2 : Int32) = (1 : Int32) from by decide) (by decide) (by decide) ?_
    refine p_iload B130 at_170 (pc' := 172) rfl rfl ?_
    refine p_iconst B130 at_172 (pc' := 173) rfl (v := (2 : Int32)) (by decide) ?_
    refine b_icF B130 at_173 (pc' := 176) rfl (show (2 : Int32) = (2 : Int32) from by decide) ?_
    refine p_aload B130 at_176 (pc' := 178) rfl rfl rfl ?_
    refine p_astore B130 at_178 (pc' := 180) rfl rfl (Ls' := #[.val (.int p0), .val (.int p1), .val (.int p2), .val (.int p3), .val (.int p4), .val (.ref s0), .val (.ref s1), .val (.ref s2), .val (.ref s3), .val (.ref a36), .val (.int (1 : Int32)), .val (.int (2 : Int32)), .val (.ref s1)]) rfl ?_
    refine b_goto B130 at_180 (pc' := 187) (by decide) (by decide) ?_
    refine p_iload B130 at_187 (pc' := 189) rfl rfl ?_
    refine b_ifF B130 at_189 (pc' := 192) rfl (show ¬ (1 : Int32) = (0 : Int32) from by decide) ?_
    refine p_aload B130 at_192 (pc' := 194) rfl rfl rfl ?_
    refine p_aload B130 at_194 (pc' := 196) rfl rfl rfl ?_
    have B135 : RH g D0 M T128 [(na, .inr ((.object "java/lang/String"), "[Ljava/lang/String;", [(.ref s0), (.ref s1), .null, .null, .null, .null, .null, .null, .null, .null, .null, .null, .null, .null, .null, .null])), o_Pain001Reader_Element a36 (.ref na) (.int (2 : Int32)) (.int g131) (.int g132) (.int g133) (.int g134)] [(s3, b32, 0, xs3.map Value.int), (s2, b24, 0, xs2.map Value.int), (s1, b16, 0, xs1.map Value.int), (s0, b8, 0, xs0.map Value.int)] 42 627 := B130.front (i := 1) rfl rfl
    have B136 : RH g D0 M T128 [o_Pain001Reader_Element a36 (.ref na) (.int (2 : Int32)) (.int g131) (.int g132) (.int g133) (.int g134), (na, .inr ((.object "java/lang/String"), "[Ljava/lang/String;", [(.ref s0), (.ref s1), .null, .null, .null, .null, .null, .null, .null, .null, .null, .null, .null, .null, .null, .null]))] [(s3, b32, 0, xs3.map Value.int), (s2, b24, 0, xs2.map Value.int), (s1, b16, 0, xs1.map Value.int), (s0, b8, 0, xs0.map Value.int)] 42 627 := B135.front (i := 1) rfl rfl
    refine r_virtual (D' := D12) B136 at_196 (pc' := 199) rfl (W68 B136.gw) (W69 B136.gw) (W71 B136.gw) (fun vm0 hZ => notFace_of_selects (args := #[]) (mvT hZ (W71 B136.gw))) (W70 B136.gw) (W42 B136.gw) (W72 B136.gw) (by decide) (fE (i := 0) rfl) (k_nm2 W a36 na g131 g132 g133 g134 s0 s1 [] _) (argsL := []) (rest := [(.ref s1)]) rfl pd12 rfl rfl rfl (W := 1) rfl (by decide) (by decide) (cs' := 42) rfl (ss' := 627) rfl (by decide) (by decide) ?_
    intro T137 v138 B139
    replace B139 := Rn.and B139
    obtain ⟨rfl, B139⟩ := B139
    show Fn g D0 M _ (T137.setTop (mkF M.m 199 #[.val (.int p0), .val (.int p1), .val (.int p2), .val (.int p3), .val (.int p4), .val (.ref s0), .val (.ref s1), .val (.ref s2), .val (.ref s3), .val (.ref a36), .val (.int (1 : Int32)), .val (.int (2 : Int32)), .val (.ref s1)] [(.ref s1), (.ref s1)]))
    refine r_virtual (D' := D13) B139 at_199 (pc' := 202) rfl (W73 B139.gw) (W74 B139.gw) (W76 B139.gw) (fun vm0 hZ => notFace_of_selects (args := #[]) (mvT hZ (W76 B139.gw))) (W75 B139.gw) (W1 B139.gw) (W77 B139.gw) (by decide) (sE (List.mem_of_getElem? (i := 2) rfl)) (k_se W (xs := xs1) (ys := xs1) (List.mem_of_getElem? (i := 2) rfl) (List.mem_of_getElem? (i := 2) rfl) hl1 hl1) (argsL := [(.ref s1)]) (rest := []) rfl pd5 rfl rfl rfl (W := 0) rfl (by decide) (by decide) (cs' := 42) rfl (ss' := 627) rfl (by decide) (by decide) ?_
    intro T140 v141 B142
    replace B142 := Rn.ex B142
    obtain ⟨z, B142⟩ := B142
    replace B142 := Rn.and B142
    obtain ⟨rfl, B142⟩ := B142
    replace B142 := Rn.and B142
    obtain ⟨hz, B142⟩ := B142
    show Fn g D0 M _ (T140.setTop (mkF M.m 202 #[.val (.int p0), .val (.int p1), .val (.int p2), .val (.int p3), .val (.int p4), .val (.ref s0), .val (.ref s1), .val (.ref s2), .val (.ref s3), .val (.ref a36), .val (.int (1 : Int32)), .val (.int (2 : Int32)), .val (.ref s1)] [(.int z)]))
    obtain rfl : z = (1 : Int32) := by
      rcases hz with ⟨q, r⟩ | ⟨q, r⟩
      · exact q
      · exact absurd rfl r
    refine b_ifF B142 at_202 (pc' := 205) rfl (show ¬ (1 : Int32) = (0 : Int32) from by decide) ?_
    refine p_iconst B142 at_205 (pc' := 206) rfl (v := (1 : Int32)) (by decide) ?_
    refine b_goto B142 at_206 (pc' := 210) (by decide) (by decide) ?_
    exact r_reti B142 at_210 rfl (by simp) rfl (by decide) (by decide) (fun vm h P => rfl)
  · rw [e]
    refine p_istore B91 at_110 (pc' := 112) rfl (Ls' := #[.val (.int p0), .val (.int p1), .val (.int p2), .val (.int p3), .val (.int p4), .val (.ref s0), .val (.ref s1), .val (.ref s2), .val (.ref s3), .val (.ref a36), .val (.int (1 : Int32)), .val (.int (3 : Int32)), .unset]) rfl ?_
    refine p_iload B91 at_112 (pc' := 114) rfl rfl ?_
    refine p_iconst B91 at_114 (pc' := 115) rfl (v := (1 : Int32)) (by decide) ?_
    refine b_icF B91 at_115 (pc' := 118) rfl (show ¬ (3 : Int32) < (1 : Int32) from by decide) ?_
    refine p_aload B91 at_118 (pc' := 120) rfl rfl rfl ?_
    have B143 : RH g D0 M T89 [(na, .inr ((.object "java/lang/String"), "[Ljava/lang/String;", [(.ref s0), (.ref s1), (.ref s2), (.ref s3), .null, .null, .null, .null, .null, .null, .null, .null, .null, .null, .null, .null])), o_Pain001Reader_Element a36 (.ref na) (.int (4 : Int32)) (.int g80) (.int g81) (.int g82) (.int g83)] [(s3, b32, 0, xs3.map Value.int), (s2, b24, 0, xs2.map Value.int), (s1, b16, 0, xs1.map Value.int), (s0, b8, 0, xs0.map Value.int)] 32 443 := B91.front (i := 1) rfl rfl
    have B144 : RH g D0 M T89 [o_Pain001Reader_Element a36 (.ref na) (.int (4 : Int32)) (.int g80) (.int g81) (.int g82) (.int g83), (na, .inr ((.object "java/lang/String"), "[Ljava/lang/String;", [(.ref s0), (.ref s1), (.ref s2), (.ref s3), .null, .null, .null, .null, .null, .null, .null, .null, .null, .null, .null, .null]))] [(s3, b32, 0, xs3.map Value.int), (s2, b24, 0, xs2.map Value.int), (s1, b16, 0, xs1.map Value.int), (s0, b8, 0, xs0.map Value.int)] 32 443 := B143.front (i := 1) rfl rfl
    refine r_virtual (D' := D16_pop4) B144 at_120 (pc' := 123) rfl (W94 B144.gw) (W95 B144.gw) (W97 B144.gw) (fun vm0 hZ => notFace_of_selects (args := #[]) (mvT hZ (W97 B144.gw))) (W96 B144.gw) (W42 B144.gw) (W98 B144.gw) (by decide) (fE (i := 0) rfl) (k_pop4 W a36 na g80 g81 g82 g83 s0 s1 s2 s3 [] (xx0 := xs0) (List.mem_of_getElem? (i := 3) rfl) hl0 (xx1 := xs1) (List.mem_of_getElem? (i := 2) rfl) hl1 (xx2 := xs2) (List.mem_of_getElem? (i := 1) rfl) hl2 (xx3 := xs3) (List.mem_of_getElem? (i := 0) rfl) hl3) (argsL := []) (rest := []) rfl pd10 rfl rfl rfl (W := 0) rfl (by decide) (by decide) (cs' := 35) rfl (ss' := 492) rfl (by decide) (by decide) ?_
    intro T145 v146 B147
    replace B147 := Rn.and B147
    obtain ⟨rfl, B147⟩ := B147
    replace B147 := Rn.ex B147
    obtain ⟨g148, B147⟩ := B147
    replace B147 := Rn.ex B147
    obtain ⟨g149, B147⟩ := B147
    replace B147 := Rn.ex B147
    obtain ⟨g150, B147⟩ := B147
    replace B147 := Rn.ex B147
    obtain ⟨g151, B147⟩ := B147
    show Fn g D0 M _ (T145.setTop (mkF M.m 123 #[.val (.int p0), .val (.int p1), .val (.int p2), .val (.int p3), .val (.int p4), .val (.ref s0), .val (.ref s1), .val (.ref s2), .val (.ref s3), .val (.ref a36), .val (.int (1 : Int32)), .val (.int (3 : Int32)), .unset] []))
    refine p_iload B147 at_123 (pc' := 125) rfl rfl ?_
    refine p_iconst B147 at_125 (pc' := 126) rfl (v := (2 : Int32)) (by decide) ?_
    refine b_icF B147 at_126 (pc' := 129) rfl (show ¬ (3 : Int32) < (2 : Int32) from by decide) ?_
    refine p_aload B147 at_129 (pc' := 131) rfl rfl rfl ?_
    have B152 : RH g D0 M T145 [(na, .inr ((.object "java/lang/String"), "[Ljava/lang/String;", [(.ref s0), (.ref s1), (.ref s2), .null, .null, .null, .null, .null, .null, .null, .null, .null, .null, .null, .null, .null])), o_Pain001Reader_Element a36 (.ref na) (.int (3 : Int32)) (.int g148) (.int g149) (.int g150) (.int g151)] [(s3, b32, 0, xs3.map Value.int), (s2, b24, 0, xs2.map Value.int), (s1, b16, 0, xs1.map Value.int), (s0, b8, 0, xs0.map Value.int)] 35 492 := B147.front (i := 1) rfl rfl
    have B153 : RH g D0 M T145 [o_Pain001Reader_Element a36 (.ref na) (.int (3 : Int32)) (.int g148) (.int g149) (.int g150) (.int g151), (na, .inr ((.object "java/lang/String"), "[Ljava/lang/String;", [(.ref s0), (.ref s1), (.ref s2), .null, .null, .null, .null, .null, .null, .null, .null, .null, .null, .null, .null, .null]))] [(s3, b32, 0, xs3.map Value.int), (s2, b24, 0, xs2.map Value.int), (s1, b16, 0, xs1.map Value.int), (s0, b8, 0, xs0.map Value.int)] 35 492 := B152.front (i := 1) rfl rfl
    refine r_virtual (D' := D16_pop3) B153 at_131 (pc' := 134) rfl (W94 B153.gw) (W95 B153.gw) (W97 B153.gw) (fun vm0 hZ => notFace_of_selects (args := #[]) (mvT hZ (W97 B153.gw))) (W96 B153.gw) (W42 B153.gw) (W98 B153.gw) (by decide) (fE (i := 0) rfl) (k_pop3 W a36 na g148 g149 g150 g151 s0 s1 s2 [] (xx0 := xs0) (List.mem_of_getElem? (i := 3) rfl) hl0 (xx1 := xs1) (List.mem_of_getElem? (i := 2) rfl) hl1 (xx2 := xs2) (List.mem_of_getElem? (i := 1) rfl) hl2) (argsL := []) (rest := []) rfl pd10 rfl rfl rfl (W := 0) rfl (by decide) (by decide) (cs' := 42) rfl (ss' := 627) rfl (by decide) (by decide) ?_
    intro T154 v155 B156
    replace B156 := Rn.and B156
    obtain ⟨rfl, B156⟩ := B156
    replace B156 := Rn.ex B156
    obtain ⟨g157, B156⟩ := B156
    replace B156 := Rn.ex B156
    obtain ⟨g158, B156⟩ := B156
    replace B156 := Rn.ex B156
    obtain ⟨g159, B156⟩ := B156
    replace B156 := Rn.ex B156
    obtain ⟨g160, B156⟩ := B156
    show Fn g D0 M _ (T154.setTop (mkF M.m 134 #[.val (.int p0), .val (.int p1), .val (.int p2), .val (.int p3), .val (.int p4), .val (.ref s0), .val (.ref s1), .val (.ref s2), .val (.ref s3), .val (.ref a36), .val (.int (1 : Int32)), .val (.int (3 : Int32)), .unset] []))
    refine p_iload B156 at_134 (pc' := 136) rfl rfl ?_
    refine p_iconst B156 at_136 (pc' := 137) rfl (v := (3 : Int32)) (by decide) ?_
    refine b_icF B156 at_137 (pc' := 140) rfl (show ¬ (3 : Int32) < (3 : Int32) from by decide) ?_
    refine p_aload B156 at_140 (pc' := 142) rfl rfl rfl ?_
    have B161 : RH g D0 M T154 [(na, .inr ((.object "java/lang/String"), "[Ljava/lang/String;", [(.ref s0), (.ref s1), .null, .null, .null, .null, .null, .null, .null, .null, .null, .null, .null, .null, .null, .null])), o_Pain001Reader_Element a36 (.ref na) (.int (2 : Int32)) (.int g157) (.int g158) (.int g159) (.int g160)] [(s3, b32, 0, xs3.map Value.int), (s2, b24, 0, xs2.map Value.int), (s1, b16, 0, xs1.map Value.int), (s0, b8, 0, xs0.map Value.int)] 42 627 := B156.front (i := 1) rfl rfl
    have B162 : RH g D0 M T154 [o_Pain001Reader_Element a36 (.ref na) (.int (2 : Int32)) (.int g157) (.int g158) (.int g159) (.int g160), (na, .inr ((.object "java/lang/String"), "[Ljava/lang/String;", [(.ref s0), (.ref s1), .null, .null, .null, .null, .null, .null, .null, .null, .null, .null, .null, .null, .null, .null]))] [(s3, b32, 0, xs3.map Value.int), (s2, b24, 0, xs2.map Value.int), (s1, b16, 0, xs1.map Value.int), (s0, b8, 0, xs0.map Value.int)] 42 627 := B161.front (i := 1) rfl rfl
    refine r_virtual (D' := D16_pop2) B162 at_142 (pc' := 145) rfl (W94 B162.gw) (W95 B162.gw) (W97 B162.gw) (fun vm0 hZ => notFace_of_selects (args := #[]) (mvT hZ (W97 B162.gw))) (W96 B162.gw) (W42 B162.gw) (W98 B162.gw) (by decide) (fE (i := 0) rfl) (k_pop2 W a36 na g157 g158 g159 g160 s0 s1 [] (xx0 := xs0) (List.mem_of_getElem? (i := 3) rfl) hl0 (xx1 := xs1) (List.mem_of_getElem? (i := 2) rfl) hl1) (argsL := []) (rest := []) rfl pd10 rfl rfl rfl (W := 0) rfl (by decide) (by decide) (cs' := 42) rfl (ss' := 627) rfl (by decide) (by decide) ?_
    intro T163 v164 B165
    replace B165 := Rn.and B165
    obtain ⟨rfl, B165⟩ := B165
    replace B165 := Rn.ex B165
    obtain ⟨g166, B165⟩ := B165
    replace B165 := Rn.ex B165
    obtain ⟨g167, B165⟩ := B165
    replace B165 := Rn.ex B165
    obtain ⟨g168, B165⟩ := B165
    replace B165 := Rn.ex B165
    obtain ⟨g169, B165⟩ := B165
    show Fn g D0 M _ (T163.setTop (mkF M.m 145 #[.val (.int p0), .val (.int p1), .val (.int p2), .val (.int p3), .val (.int p4), .val (.ref s0), .val (.ref s1), .val (.ref s2), .val (.ref s3), .val (.ref a36), .val (.int (1 : Int32)), .val (.int (3 : Int32)), .unset] []))
    refine p_iload B165 at_145 (pc' := 147) rfl rfl ?_
    refine b_ifT B165 at_147 (pc' := 157) (show ¬ (3 : Int32) = (0 : Int32) from by decide) (by decide) (by decide) ?_
    refine p_iload B165 at_157 (pc' := 159) rfl rfl ?_
    refine p_iconst B165 at_159 (pc' := 160) rfl (v := (1 : Int32)) (by decide) ?_
    refine b_icT B165 at_160 (pc' := 170) (show ¬ (3 : Int32) = (1 : Int32) from by decide) (by decide) (by decide) ?_
    refine p_iload B165 at_170 (pc' := 172) rfl rfl ?_
    refine p_iconst B165 at_172 (pc' := 173) rfl (v := (2 : Int32)) (by decide) ?_
    refine b_icT B165 at_173 (pc' := 183) (show ¬ (3 : Int32) = (2 : Int32) from by decide) (by decide) (by decide) ?_
    refine p_aload B165 at_183 (pc' := 185) rfl rfl rfl ?_
    refine p_astore B165 at_185 (pc' := 187) rfl rfl (Ls' := #[.val (.int p0), .val (.int p1), .val (.int p2), .val (.int p3), .val (.int p4), .val (.ref s0), .val (.ref s1), .val (.ref s2), .val (.ref s3), .val (.ref a36), .val (.int (1 : Int32)), .val (.int (3 : Int32)), .val (.ref s0)]) rfl ?_
    refine p_iload B165 at_187 (pc' := 189) rfl rfl ?_
    refine b_ifF B165 at_189 (pc' := 192) rfl (show ¬ (1 : Int32) = (0 : Int32) from by decide) ?_
    refine p_aload B165 at_192 (pc' := 194) rfl rfl rfl ?_
    refine p_aload B165 at_194 (pc' := 196) rfl rfl rfl ?_
    have B170 : RH g D0 M T163 [(na, .inr ((.object "java/lang/String"), "[Ljava/lang/String;", [(.ref s0), .null, .null, .null, .null, .null, .null, .null, .null, .null, .null, .null, .null, .null, .null, .null])), o_Pain001Reader_Element a36 (.ref na) (.int (1 : Int32)) (.int g166) (.int g167) (.int g168) (.int g169)] [(s3, b32, 0, xs3.map Value.int), (s2, b24, 0, xs2.map Value.int), (s1, b16, 0, xs1.map Value.int), (s0, b8, 0, xs0.map Value.int)] 42 627 := B165.front (i := 1) rfl rfl
    have B171 : RH g D0 M T163 [o_Pain001Reader_Element a36 (.ref na) (.int (1 : Int32)) (.int g166) (.int g167) (.int g168) (.int g169), (na, .inr ((.object "java/lang/String"), "[Ljava/lang/String;", [(.ref s0), .null, .null, .null, .null, .null, .null, .null, .null, .null, .null, .null, .null, .null, .null, .null]))] [(s3, b32, 0, xs3.map Value.int), (s2, b24, 0, xs2.map Value.int), (s1, b16, 0, xs1.map Value.int), (s0, b8, 0, xs0.map Value.int)] 42 627 := B170.front (i := 1) rfl rfl
    refine r_virtual (D' := D12) B171 at_196 (pc' := 199) rfl (W68 B171.gw) (W69 B171.gw) (W71 B171.gw) (fun vm0 hZ => notFace_of_selects (args := #[]) (mvT hZ (W71 B171.gw))) (W70 B171.gw) (W42 B171.gw) (W72 B171.gw) (by decide) (fE (i := 0) rfl) (k_nm1 W a36 na g166 g167 g168 g169 s0 [] _) (argsL := []) (rest := [(.ref s0)]) rfl pd12 rfl rfl rfl (W := 1) rfl (by decide) (by decide) (cs' := 42) rfl (ss' := 627) rfl (by decide) (by decide) ?_
    intro T172 v173 B174
    replace B174 := Rn.and B174
    obtain ⟨rfl, B174⟩ := B174
    show Fn g D0 M _ (T172.setTop (mkF M.m 199 #[.val (.int p0), .val (.int p1), .val (.int p2), .val (.int p3), .val (.int p4), .val (.ref s0), .val (.ref s1), .val (.ref s2), .val (.ref s3), .val (.ref a36), .val (.int (1 : Int32)), .val (.int (3 : Int32)), .val (.ref s0)] [(.ref s0), (.ref s0)]))
    refine r_virtual (D' := D13) B174 at_199 (pc' := 202) rfl (W73 B174.gw) (W74 B174.gw) (W76 B174.gw) (fun vm0 hZ => notFace_of_selects (args := #[]) (mvT hZ (W76 B174.gw))) (W75 B174.gw) (W1 B174.gw) (W77 B174.gw) (by decide) (sE (List.mem_of_getElem? (i := 3) rfl)) (k_se W (xs := xs0) (ys := xs0) (List.mem_of_getElem? (i := 3) rfl) (List.mem_of_getElem? (i := 3) rfl) hl0 hl0) (argsL := [(.ref s0)]) (rest := []) rfl pd5 rfl rfl rfl (W := 0) rfl (by decide) (by decide) (cs' := 42) rfl (ss' := 627) rfl (by decide) (by decide) ?_
    intro T175 v176 B177
    replace B177 := Rn.ex B177
    obtain ⟨z, B177⟩ := B177
    replace B177 := Rn.and B177
    obtain ⟨rfl, B177⟩ := B177
    replace B177 := Rn.and B177
    obtain ⟨hz, B177⟩ := B177
    show Fn g D0 M _ (T175.setTop (mkF M.m 202 #[.val (.int p0), .val (.int p1), .val (.int p2), .val (.int p3), .val (.int p4), .val (.ref s0), .val (.ref s1), .val (.ref s2), .val (.ref s3), .val (.ref a36), .val (.int (1 : Int32)), .val (.int (3 : Int32)), .val (.ref s0)] [(.int z)]))
    obtain rfl : z = (1 : Int32) := by
      rcases hz with ⟨q, r⟩ | ⟨q, r⟩
      · exact q
      · exact absurd rfl r
    refine b_ifF B177 at_202 (pc' := 205) rfl (show ¬ (1 : Int32) = (0 : Int32) from by decide) ?_
    refine p_iconst B177 at_205 (pc' := 206) rfl (v := (1 : Int32)) (by decide) ?_
    refine b_goto B177 at_206 (pc' := 210) (by decide) (by decide) ?_
    exact r_reti B177 at_210 rfl (by simp) rfl (by decide) (by decide) (fun vm h P => rfl)
theorem comes_1 {Post : Tables → Env → Array Value → State → Outcome → State → Prop} (hpost : ∀ tb e args s v u, (limb_1_1.after args s (.returned v) u = true ∧ limb_1_2.after args s (.returned v) u = true ∧ True) → FramedW s (.returned v) u (Jvm.fieldLocs frame_1_writes args s ++ Jvm.arrayLocs frame_1_arrays args s ++ Jvm.staticLocs frame_1_statics s) 56 8448 → Post tb e args s (.returned v) u) :
    ArmFor flags0 classFile x code maxLocals ret World_1 tables_1 room_1 Calls_1 rest_1 Pre_1 Post := by
  intro l hfl _ _ p e ha hc hk s m args below hf hA hF happ hP
  obtain ⟨hcalls, hrest, hpre⟩ := hP
  obtain ⟨-, -, -, hnamed, -, -, -, hat⟩ := (Spec.applies_iff hf).mp happ
  obtain ⟨hg, hn⟩ := and_e (Cond.before_iff.mp (show (Jvm.Cond.and given_1 narrow_1).before args s = true from hpre))
  obtain ⟨q0, r0⟩ := and_e hg
  obtain ⟨q1, r1⟩ := and_e r0
  obtain ⟨q2, r2⟩ := and_e r1
  obtain ⟨q3, r3⟩ := and_e r2
  obtain ⟨q4, r4⟩ := and_e r3
  obtain ⟨w0, w1, w2, w3, w4, rfl⟩ : ∃ w0 w1 w2 w3 w4 : Value, args = #[w0, w1, w2, w3, w4] := by
    have hs : args.size = 5 := by simpa [Cond.value, given_1] using q0
    obtain ⟨L⟩ := args
    match L, hs with
    | [w0, w1, w2, w3, w4], _ => exact ⟨w0, w1, w2, w3, w4, rfl⟩
  have hw := fun d (hd : d ∈ tables_1) => atoms_spec (ws := Jvm.Cond.code x code maxLocals ret :: tables_1) hat d (List.mem_cons_of_mem _ hd)
  have hfit : Fit s := fun {y c} hc i hi => by
    obtain ⟨ha, rfl⟩ := Array.getElem?_eq_some_iff.mp hc
    have q := List.all_eq_true.mp ((Array.all_eq_true_iff_forall_mem.mp hF) _ (Array.getElem_mem ha)) i (List.mem_range.mpr hi)
    simpa [Array.getElem?_eq_getElem hi] using q
  obtain ⟨hsets, -⟩ := atoms_of _ (rest_1_c_eq ▸ (show rest_1_c.before _ s = true from hrest))
  obtain ⟨i0, ei0⟩ := is_v q1
  obtain rfl : w0 = (.int i0) := Option.some.inj ei0
  obtain ⟨i1, ei1⟩ := is_v q2
  obtain rfl : w1 = (.int i1) := Option.some.inj ei1
  obtain ⟨i2, ei2⟩ := is_v q3
  obtain rfl : w2 = (.int i2) := Option.some.inj ei2
  obtain ⟨i3, ei3⟩ := is_v q4
  obtain rfl : w3 = (.int i3) := Option.some.inj ei3
  obtain ⟨i4, ei4⟩ := is_v r4
  obtain rfl : w4 = (.int i4) := Option.some.inj ei4
  have hEW : EW s #[(.int i0), (.int i1), (.int i2), (.int i3), (.int i4)] consts_1 := EW.cons (hw _ (List.mem_of_getElem? (i := 0) rfl)) (by decide) (EW.cons (hw _ (List.mem_of_getElem? (i := 37) rfl)) (by decide) (EW.cons (hw _ (List.mem_of_getElem? (i := 38) rfl)) (by decide) (EW.cons (hw _ (List.mem_of_getElem? (i := 39) rfl)) (by decide) (EW.cons (hw _ (List.mem_of_getElem? (i := 78) rfl)) (by decide) (EW.cons (hw _ (List.mem_of_getElem? (i := 79) rfl)) (by decide) (EW.cons (hw _ (List.mem_of_getElem? (i := 80) rfl)) (by decide) (EW.cons (hw _ (List.mem_of_getElem? (i := 103) rfl)) (by decide) (EW.nil))))))))
  have hcw : Jvm.Lit.compactW.before #[(.int i0), (.int i1), (.int i2), (.int i3), (.int i4)] s = true := hsets _ (List.mem_of_getElem? (i := 2) rfl)
  have hCH : CHv s consts_1 s.vm s.heap := CHv.start hEW (fun p hp => hcalls.1 p hp) hcw (hw _ (List.mem_of_getElem? (i := 3) rfl)) (hw _ (List.mem_of_getElem? (i := 2) rfl))
  have W : GW (l, s, #[(.int i0), (.int i1), (.int i2), (.int i3), (.int i4)], consts_1) := ⟨hw, hEW, hsets, hfit, rfl⟩
  obtain ⟨n, o, h1, h2, h3, _, L, rfl, rfl, N, hr⟩ := k_law W i0 i1 i2 i3 i4 p e ha hc hk s m _ below hf ((Spec.applies_iff_loose hf).mp happ).1 ⟨rfl, State.Warmed39.refl s, hCH, ext_rfl _, Hp.nil⟩ trivial
  exact ⟨n, _, h1, h2, h3, hpost _ _ _ _ _ _ ⟨Cond.after_iff.mpr rfl, Cond.after_iff.mpr (eq_i res_at (Term.int_eval (1)) rfl), trivial⟩ ⟨hr.2.2.1, hr.2.2.2.1, hr.2.2.2.2.1, (hr.2.2.2.2.2.sift fun y hy => Or.inr (N y hy)).mono (by decide) (by decide)⟩⟩
theorem main_1_1 : Claimed_1_1 := comes_1 fun _ _ _ _ _ _ h hF => ⟨h.1, hF⟩
theorem main_1_2 : Claimed_1_2 := comes_1 fun _ _ _ _ _ _ h hF => ⟨h.2.1, hF⟩
end Jvm.Pilot.@@N@@
namespace Jvm.Pilot.@@N@@
open Jvm Jvm.ClassFile Sem Op Lib Jvm.Free Jvm.Stand Jvm.Pilot.@@N@@.Jvm.D
/-! MADE BY PROGRAM (witnessworld.py) out of the Statement's table words and the real class files: 21 classes; the members and pool entries that the words name. The judged class is class 1, her method 1. -/
namespace start1
open Jvm.ClassFile
def u (s : String) : CpInfo := .utf8 (stringToUtf16 s)
/-- a pool by its gaps: so many unusable entries, then the entry; so many at the end -/
def gap : Nat → List CpInfo → List CpInfo
  | 0, r => r
  | n + 1, r => .unusable :: gap n r
def poolList (es : List (Nat × CpInfo)) (last : Nat) : List CpInfo := es.foldr (fun e r => gap e.1 (e.2 :: r)) (gap last [])
def pool (es : List (Nat × CpInfo)) (last : Nat) : Array CpInfo := ⟨poolList es last⟩
def fileOf (pool : Array CpInfo) (this : Nat) (attrs : Array Attribute := #[]) (ms : Array MethodInfo := #[]) (fl : Nat := 33) (sup : Nat := 0) (ifs : Array Nat := #[]) (fds : Array FieldInfo := #[]) : ClassFile where
  minorVersion := 0
  majorVersion := 65
  constantPool := pool
  accessFlags := fl
  thisClass := this
  superClass := sup
  interfaces := ifs
  fields := fds
  methods := ms
  attributes := attrs
def plain (name : String) (sup : Option ClassId) : Class where
  name := name
  kind := .ordinary
  loader := none
  accessFlags := 33
  super := sup
  interfaces := #[]
  cf := none
  fields := #[]
  methods := #[]
  instanceTypes := #[]
  staticTypes := #[]
  resolved := #[]
  callSites := []
  init := .initialized
  statics := none
  mirror := none

def pool0 : Array CpInfo := pool [(5, u "<init>"), (0, u "()V"), (1, .class_ 10), (1, u "java/lang/Object")] 113

def k0c0 : Code := { maxStack := 0, maxLocals := 1, code := object_method_1_code, exceptionTable := #[], attributes := #[] }
def k0m0 : Method := { name := "<init>", desc := "()V", sig := { parameters := [], returnType := none }, accessFlags := 1, code := some k0c0 }
/-- java/lang/Object -/
def k0 : Class := { plain "java/lang/Object" none with
  accessFlags := 33
  interfaces := #[]
  cf := some (fileOf pool0 8 #[] #[{ accessFlags := 1, nameIndex := 5, descriptorIndex := 6, attributes := #[] }] 33 0 #[] #[])
  fields := #[]
  methods := #[k0m0]
  instanceTypes := #[]
  staticTypes := #[]
  resolved := Array.replicate 124 none
  statics := none }

def pool1 : Array CpInfo := pool [(2, .class_ 4), (0, .nameAndType 5 6), (0, u "java/lang/Object"), (0, u "<init>"), (0, u "()V"), (0, .string 8), (0, u "Document"), (0, .methodref 10 11), (0, .class_ 12), (0, .nameAndType 13 14), (0, u "com/example/polecenie/polecenie/core/ElementNamePinLaw"), (0, u "pick"), (0, u "(ILjava/lang/String;)Ljava/lang/String;"), (0, .string 16), (0, u "CstmrCdtTrfInitn"), (0, .string 18), (0, u "PmtInf"), (0, .string 20), (0, u "CdtTrfTxInf"), (0, .class_ 22), (0, u "com/example/polecenie/polecenie/core/Pain001Reader$Element"), (0, .methodref 21 3), (0, .methodref 21 25), (0, .nameAndType 26 27), (0, u "push"), (0, u "(Ljava/lang/String;)V"), (0, .methodref 21 29), (0, .nameAndType 30 31), (0, u "name"), (0, u "()Ljava/lang/String;"), (0, .methodref 33 34), (0, .class_ 35), (0, .nameAndType 36 37), (0, u "java/lang/String"), (0, u "equals"), (0, u "(Ljava/lang/Object;)Z"), (0, .methodref 21 39), (0, .nameAndType 40 6), (0, u "pop"), (0, .methodref 33 42), (0, .nameAndType 5 43), (0, u "([C)V"), (2, u "law"), (0, u "(IIIII)Z")] 7

def k1m0 : Method := { name := "<init>", desc := "()V", sig := { parameters := [], returnType := none }, accessFlags := 1, code := none }
def k1c1 : Code := { maxStack := 2, maxLocals := 13, code := code, exceptionTable := #[], attributes := #[] }
def k1m1 : Method := { name := "law", desc := "(IIIII)Z", sig := { parameters := [.int, .int, .int, .int, .int], returnType := some .boolean }, accessFlags := 9, code := some k1c1 }
def k1c2 : Code := { maxStack := 4, maxLocals := 3, code := method_3_code, exceptionTable := #[], attributes := #[] }
def k1m2 : Method := { name := "pick", desc := "(ILjava/lang/String;)Ljava/lang/String;", sig := { parameters := [.int, (.object "java/lang/String")], returnType := some (.object "java/lang/String") }, accessFlags := 10, code := some k1c2 }
/-- com/example/polecenie/polecenie/core/ElementNamePinLaw -/
def k1 : Class := { plain "com/example/polecenie/polecenie/core/ElementNamePinLaw" (some 0) with
  accessFlags := 49
  interfaces := #[]
  cf := some (fileOf pool1 10 #[] #[{ accessFlags := 1, nameIndex := 5, descriptorIndex := 6, attributes := #[] }, { accessFlags := 9, nameIndex := 46, descriptorIndex := 47, attributes := #[] }, { accessFlags := 10, nameIndex := 13, descriptorIndex := 14, attributes := #[] }] 49 2 #[] #[])
  fields := #[]
  methods := #[k1m0, k1m1, k1m2]
  instanceTypes := #[]
  staticTypes := #[]
  resolved := Array.replicate 55 none
  statics := none }

def pool2 : Array CpInfo := pool [(1, .class_ 2), (0, u "java/io/Serializable"), (0, .class_ 4), (0, u "java/lang/Object")] 2

/-- java/io/Serializable -/
def k2 : Class := { plain "java/io/Serializable" (some 0) with
  accessFlags := 1537
  interfaces := #[]
  cf := some (fileOf pool2 1 #[] #[] 1537 3 #[] #[])
  fields := #[]
  methods := #[]
  instanceTypes := #[]
  staticTypes := #[]
  resolved := Array.replicate 7 none
  statics := none }

def pool3 : Array CpInfo := pool [(1, .class_ 2), (0, u "java/lang/Comparable"), (0, .class_ 4), (0, u "java/lang/Object")] 7

/-- java/lang/Comparable -/
def k3 : Class := { plain "java/lang/Comparable" (some 0) with
  accessFlags := 1537
  interfaces := #[]
  cf := some (fileOf pool3 1 #[] #[] 1537 3 #[] #[])
  fields := #[]
  methods := #[]
  instanceTypes := #[]
  staticTypes := #[]
  resolved := Array.replicate 12 none
  statics := none }

def pool4 : Array CpInfo := pool [(2, .class_ 4), (1, u "java/lang/CharSequence"), (42, .class_ 48), (0, u "java/lang/CharSequence$1CodePointIterator"), (10, .class_ 60), (0, u "java/lang/CharSequence$1CharIterator"), (5, .class_ 67), (0, u "java/lang/Object")] 63

/-- java/lang/CharSequence -/
def k4 : Class := { plain "java/lang/CharSequence" (some 0) with
  accessFlags := 1537
  interfaces := #[]
  cf := some (fileOf pool4 2 #[.nestMembers #[47, 59]] #[] 1537 66 #[] #[])
  fields := #[]
  methods := #[]
  instanceTypes := #[]
  staticTypes := #[]
  resolved := Array.replicate 131 none
  statics := none }

def pool5 : Array CpInfo := pool [(1, .class_ 2), (0, u "java/lang/constant/Constable"), (0, .class_ 4), (0, u "java/lang/Object")] 6

/-- java/lang/constant/Constable -/
def k5 : Class := { plain "java/lang/constant/Constable" (some 0) with
  accessFlags := 1537
  interfaces := #[]
  cf := some (fileOf pool5 1 #[] #[] 1537 3 #[] #[])
  fields := #[]
  methods := #[]
  instanceTypes := #[]
  staticTypes := #[]
  resolved := Array.replicate 11 none
  statics := none }

def pool6 : Array CpInfo := pool [(1, .class_ 2), (0, u "java/lang/constant/ConstantDesc"), (0, .class_ 4), (0, u "java/lang/Object")] 32

/-- java/lang/constant/ConstantDesc -/
def k6 : Class := { plain "java/lang/constant/ConstantDesc" (some 0) with
  accessFlags := 1537
  interfaces := #[]
  cf := some (fileOf pool6 1 #[] #[] 1537 3 #[] #[])
  fields := #[]
  methods := #[]
  instanceTypes := #[]
  staticTypes := #[]
  resolved := Array.replicate 37 none
  statics := none }

def pool7 : Array CpInfo := pool [(1, .methodref 2 3), (0, .class_ 4), (0, .nameAndType 5 6), (0, u "java/lang/Object"), (0, u "<init>"), (0, u "()V"), (2, .fieldref 10 11), (0, .class_ 12), (0, .nameAndType 13 14), (0, u "java/lang/String"), (0, u "value"), (0, u "[B"), (0, .fieldref 10 16), (0, .nameAndType 17 18), (0, u "coder"), (0, u "B"), (2, u "hash"), (0, u "I"), (2, u "hashIsZero"), (0, u "Z"), (0, .methodref 10 28), (0, .nameAndType 5 29), (0, u "([CIILjava/lang/Void;)V"), (8, .fieldref 10 39), (0, .nameAndType 40 26), (0, u "COMPACT_STRINGS"), (1, .class_ 44), (1, u "java/lang/StringUTF16"), (0, u "compress"), (1, .methodref 42 48), (0, .nameAndType 49 50), (0, u "coderFromArrayLen"), (0, u "([BI)B"), (56, .class_ 109), (1, u "java/lang/StringLatin1"), (67, .methodref 42 178), (0, .nameAndType 45 179), (0, u "([CII)[B"), (361, .methodref 107 542), (0, .nameAndType 543 544), (0, u "equals"), (0, u "([B[B)Z"), (28, u "(Ljava/lang/Object;)Z"), (1, .class_ 576), (0, u "java/lang/CharSequence"), (22, u "CASE_INSENSITIVE_ORDER"), (0, u "Ljava/util/Comparator;"), (409, u "([C)V"), (90, u "serialPersistentFields"), (0, u "[Ljava/io/ObjectStreamField;"), (0, .class_ 1104), (0, u "java/lang/String$CaseInsensitiveComparator"), (1, .class_ 1107), (0, u "java/io/Serializable"), (0, .class_ 1109), (0, u "java/lang/Comparable"), (0, .class_ 1111), (0, u "java/lang/constant/Constable"), (0, .class_ 1113), (0, u "java/lang/constant/ConstantDesc"), (2, u "serialVersionUID"), (0, u "J"), (3, u "REPL"), (0, u "C"), (2, u "LATIN1"), (1, u "UTF16")] 323

def k7m0 : Method := { name := "<init>", desc := "()V", sig := { parameters := [], returnType := none }, accessFlags := 1, code := none }
def k7c1 : Code := { maxStack := 5, maxLocals := 2, code := jdk_42_method_3_code, exceptionTable := #[], attributes := #[] }
def k7m1 : Method := { name := "<init>", desc := "([C)V", sig := { parameters := [(.array .char)], returnType := none }, accessFlags := 1, code := some k7c1 }
def k7c2 : Code := { maxStack := 2, maxLocals := 3, code := jdk_42_method_66_code, exceptionTable := #[], attributes := #[] }
def k7m2 : Method := { name := "equals", desc := "(Ljava/lang/Object;)Z", sig := { parameters := [(.object "java/lang/Object")], returnType := some .boolean }, accessFlags := 1, code := some k7c2 }
def k7c3 : Code := { maxStack := 4, maxLocals := 6, code := jdk_42_method_149_code, exceptionTable := #[], attributes := #[] }
def k7m3 : Method := { name := "<init>", desc := "([CIILjava/lang/Void;)V", sig := { parameters := [(.array .char), .int, .int, (.object "java/lang/Void")], returnType := none }, accessFlags := 2, code := some k7c3 }
/-- java/lang/String -/
def k7 : Class := { plain "java/lang/String" (some 0) with
  accessFlags := 49
  interfaces := #[2, 3, 4, 5, 6]
  cf := some (fileOf pool7 10 #[.nestMembers #[1103]] #[{ accessFlags := 1, nameIndex := 5, descriptorIndex := 6, attributes := #[] }, { accessFlags := 1, nameIndex := 5, descriptorIndex := 1010, attributes := #[] }, { accessFlags := 1, nameIndex := 543, descriptorIndex := 573, attributes := #[] }, { accessFlags := 2, nameIndex := 5, descriptorIndex := 29, attributes := #[] }] 49 2 #[1106, 1108, 575, 1110, 1112] #[{ accessFlags := 18, nameIndex := 13, descriptorIndex := 14, attributes := #[] }, { accessFlags := 18, nameIndex := 17, descriptorIndex := 18, attributes := #[] }, { accessFlags := 2, nameIndex := 21, descriptorIndex := 22, attributes := #[] }, { accessFlags := 2, nameIndex := 25, descriptorIndex := 26, attributes := #[] }, { accessFlags := 26, nameIndex := 1116, descriptorIndex := 1117, attributes := #[] }, { accessFlags := 24, nameIndex := 40, descriptorIndex := 26, attributes := #[] }, { accessFlags := 26, nameIndex := 1101, descriptorIndex := 1102, attributes := #[] }, { accessFlags := 26, nameIndex := 1121, descriptorIndex := 1122, attributes := #[] }, { accessFlags := 25, nameIndex := 599, descriptorIndex := 600, attributes := #[] }, { accessFlags := 24, nameIndex := 1125, descriptorIndex := 18, attributes := #[] }, { accessFlags := 24, nameIndex := 1127, descriptorIndex := 18, attributes := #[] }])
  fields := #[{ name := "value", type := (.array .byte), accessFlags := 18, slot := 0, constantValue := 0 }, { name := "coder", type := .byte, accessFlags := 18, slot := 1, constantValue := 0 }, { name := "hash", type := .int, accessFlags := 2, slot := 2, constantValue := 0 }, { name := "hashIsZero", type := .boolean, accessFlags := 2, slot := 3, constantValue := 0 }, { name := "serialVersionUID", type := .long, accessFlags := 26, slot := 0, constantValue := 0 }, { name := "COMPACT_STRINGS", type := .boolean, accessFlags := 24, slot := 1, constantValue := 0 }, { name := "serialPersistentFields", type := (.array (.object "java/io/ObjectStreamField")), accessFlags := 26, slot := 2, constantValue := 0 }, { name := "REPL", type := .char, accessFlags := 26, slot := 3, constantValue := 0 }, { name := "CASE_INSENSITIVE_ORDER", type := (.object "java/util/Comparator"), accessFlags := 25, slot := 4, constantValue := 0 }, { name := "LATIN1", type := .byte, accessFlags := 24, slot := 5, constantValue := 0 }, { name := "UTF16", type := .byte, accessFlags := 24, slot := 6, constantValue := 0 }]
  methods := #[k7m0, k7m1, k7m2, k7m3]
  instanceTypes := #[(.array .byte), .byte, .int, .boolean]
  staticTypes := #[.long, .boolean, (.array (.object "java/io/ObjectStreamField")), .char, (.object "java/util/Comparator"), .byte, .byte]
  resolved := Array.replicate 1451 none
  statics := some 0 }

def pool8 : Array CpInfo := pool [(6, .class_ 8), (1, u "java/lang/Object"), (0, u "<init>"), (0, u "()V"), (1, .class_ 14), (1, u "java/lang/StringUTF16"), (31, u "$assertionsDisabled"), (0, u "Z"), (13, u "HI_BYTE_SHIFT"), (0, u "I"), (2, u "LO_BYTE_SHIFT"), (49, .methodref 12 116), (0, .nameAndType 117 118), (0, u "compress"), (0, u "([CI[BII)I"), (3, u "([CII)[B"), (138, u "coderFromArrayLen"), (0, u "([BI)B"), (106, .class_ 371), (1, u "java/lang/StringUTF16$LinesSpliterator"), (58, u "MAX_LENGTH"), (196, .class_ 628), (0, u "java/lang/StringUTF16$CodePointsSpliterator"), (0, .class_ 630), (0, u "java/lang/StringUTF16$CharsSpliterator")] 4

def k8m0 : Method := { name := "<init>", desc := "()V", sig := { parameters := [], returnType := none }, accessFlags := 0, code := none }
def k8c1 : Code := { maxStack := 2, maxLocals := 2, code := jdk_52_method_15_code, exceptionTable := #[], attributes := #[] }
def k8m1 : Method := { name := "coderFromArrayLen", desc := "([BI)B", sig := { parameters := [(.array .byte), .int], returnType := some .byte }, accessFlags := 8, code := some k8c1 }
def k8c2 : Code := { maxStack := 5, maxLocals := 6, code := jdk_52_method_16_code, exceptionTable := #[], attributes := #[] }
def k8m2 : Method := { name := "compress", desc := "([CII)[B", sig := { parameters := [(.array .char), .int, .int], returnType := some (.array .byte) }, accessFlags := 9, code := some k8c2 }
def k8c3 : Code := { maxStack := 3, maxLocals := 7, code := jdk_52_method_21_code, exceptionTable := #[], attributes := #[] }
def k8m3 : Method := { name := "compress", desc := "([CI[BII)I", sig := { parameters := [(.array .char), .int, (.array .byte), .int, .int], returnType := some .int }, accessFlags := 9, code := some k8c3 }
/-- java/lang/StringUTF16 -/
def k8 : Class := { plain "java/lang/StringUTF16" (some 0) with
  accessFlags := 48
  interfaces := #[]
  cf := some (fileOf pool8 12 #[.nestMembers #[627, 629, 369]] #[{ accessFlags := 0, nameIndex := 9, descriptorIndex := 10, attributes := #[] }, { accessFlags := 8, nameIndex := 261, descriptorIndex := 262, attributes := #[] }, { accessFlags := 9, nameIndex := 117, descriptorIndex := 122, attributes := #[] }, { accessFlags := 9, nameIndex := 117, descriptorIndex := 118, attributes := #[] }] 48 6 #[] #[{ accessFlags := 26, nameIndex := 61, descriptorIndex := 62, attributes := #[] }, { accessFlags := 26, nameIndex := 65, descriptorIndex := 62, attributes := #[] }, { accessFlags := 24, nameIndex := 430, descriptorIndex := 62, attributes := #[] }, { accessFlags := 4120, nameIndex := 46, descriptorIndex := 47, attributes := #[] }])
  fields := #[{ name := "HI_BYTE_SHIFT", type := .int, accessFlags := 26, slot := 0, constantValue := 0 }, { name := "LO_BYTE_SHIFT", type := .int, accessFlags := 26, slot := 1, constantValue := 0 }, { name := "MAX_LENGTH", type := .int, accessFlags := 24, slot := 2, constantValue := 0 }, { name := "$assertionsDisabled", type := .boolean, accessFlags := 4120, slot := 3, constantValue := 0 }]
  methods := #[k8m0, k8m1, k8m2, k8m3]
  instanceTypes := #[]
  staticTypes := #[.int, .int, .int, .boolean]
  resolved := Array.replicate 635 none
  statics := none }

def pool9 : Array CpInfo := pool [(1, .methodref 2 3), (0, .class_ 4), (0, .nameAndType 5 6), (0, u "java/lang/Object"), (0, u "<init>"), (0, u "()V"), (0, .class_ 8), (0, u "java/lang/String"), (0, .fieldref 10 11), (0, .class_ 12), (0, .nameAndType 13 14), (0, u "com/example/polecenie/polecenie/core/Pain001Reader$Element"), (0, u "names"), (0, u "[Ljava/lang/String;"), (0, .fieldref 10 16), (0, .nameAndType 17 18), (0, u "depth"), (0, u "I"), (2, u "attributes"), (0, u "Lorg/xml/sax/Attributes;"), (8, .methodref 7 32), (0, .nameAndType 33 34), (0, u "equals"), (0, u "(Ljava/lang/Object;)Z"), (0, .fieldref 10 36), (0, .nameAndType 37 18), (0, u "block"), (0, .fieldref 10 39), (0, .nameAndType 40 18), (0, u "transaction"), (0, .string 42), (0, u "Document"), (0, .string 44), (0, u "CstmrCdtTrfInitn"), (2, .methodref 10 48), (0, .nameAndType 49 50), (0, u "is"), (0, u "([Ljava/lang/String;)Z"), (0, .string 52), (0, u "PmtInf"), (0, .string 54), (0, u "CdtTrfTxInf"), (7, .methodref 10 63), (0, .nameAndType 64 65), (0, u "isBlock"), (0, u "()Z"), (0, .fieldref 10 67), (0, .nameAndType 68 18), (0, u "blocks"), (0, .fieldref 10 70), (0, .nameAndType 71 18), (0, u "transactions"), (0, .methodref 10 73), (0, .nameAndType 74 65), (0, u "isTransaction"), (2, u "name"), (0, u "()Ljava/lang/String;"), (7, u "push"), (0, u "(Ljava/lang/String;)V"), (0, u "pop"), (3, .class_ 93), (0, u "com/example/polecenie/polecenie/core/Pain001Reader")] 2

def k9c0 : Code := { maxStack := 2, maxLocals := 1, code := prog_35_method_1_code, exceptionTable := #[], attributes := #[] }
def k9m0 : Method := { name := "<init>", desc := "()V", sig := { parameters := [], returnType := none }, accessFlags := 0, code := some k9c0 }
def k9c1 : Code := { maxStack := 3, maxLocals := 1, code := prog_35_method_2_code, exceptionTable := #[], attributes := #[] }
def k9m1 : Method := { name := "name", desc := "()Ljava/lang/String;", sig := { parameters := [], returnType := some (.object "java/lang/String") }, accessFlags := 1, code := some k9c1 }
def k9c2 : Code := { maxStack := 4, maxLocals := 3, code := prog_35_method_6_code, exceptionTable := #[], attributes := #[] }
def k9m2 : Method := { name := "is", desc := "([Ljava/lang/String;)Z", sig := { parameters := [(.array (.object "java/lang/String"))], returnType := some .boolean }, accessFlags := 129, code := some k9c2 }
def k9c3 : Code := { maxStack := 5, maxLocals := 1, code := prog_35_method_10_code, exceptionTable := #[], attributes := #[] }
def k9m3 : Method := { name := "isBlock", desc := "()Z", sig := { parameters := [], returnType := some .boolean }, accessFlags := 1, code := some k9c3 }
def k9c4 : Code := { maxStack := 5, maxLocals := 1, code := prog_35_method_11_code, exceptionTable := #[], attributes := #[] }
def k9m4 : Method := { name := "isTransaction", desc := "()Z", sig := { parameters := [], returnType := some .boolean }, accessFlags := 1, code := some k9c4 }
def k9c5 : Code := { maxStack := 5, maxLocals := 2, code := prog_35_method_12_code, exceptionTable := #[], attributes := #[] }
def k9m5 : Method := { name := "push", desc := "(Ljava/lang/String;)V", sig := { parameters := [(.object "java/lang/String")], returnType := none }, accessFlags := 0, code := some k9c5 }
def k9c6 : Code := { maxStack := 4, maxLocals := 1, code := prog_35_method_13_code, exceptionTable := #[], attributes := #[] }
def k9m6 : Method := { name := "pop", desc := "()V", sig := { parameters := [], returnType := none }, accessFlags := 0, code := some k9c6 }
/-- com/example/polecenie/polecenie/core/Pain001Reader$Element -/
def k9 : Class := { plain "com/example/polecenie/polecenie/core/Pain001Reader$Element" (some 0) with
  accessFlags := 49
  interfaces := #[]
  cf := some (fileOf pool9 10 #[.nestHost 92] #[{ accessFlags := 0, nameIndex := 5, descriptorIndex := 6, attributes := #[] }, { accessFlags := 1, nameIndex := 77, descriptorIndex := 78, attributes := #[] }, { accessFlags := 129, nameIndex := 49, descriptorIndex := 50, attributes := #[] }, { accessFlags := 1, nameIndex := 64, descriptorIndex := 65, attributes := #[] }, { accessFlags := 1, nameIndex := 74, descriptorIndex := 65, attributes := #[] }, { accessFlags := 0, nameIndex := 86, descriptorIndex := 87, attributes := #[] }, { accessFlags := 0, nameIndex := 88, descriptorIndex := 6, attributes := #[] }] 49 2 #[] #[{ accessFlags := 2, nameIndex := 13, descriptorIndex := 14, attributes := #[] }, { accessFlags := 2, nameIndex := 17, descriptorIndex := 18, attributes := #[] }, { accessFlags := 2, nameIndex := 37, descriptorIndex := 18, attributes := #[] }, { accessFlags := 2, nameIndex := 40, descriptorIndex := 18, attributes := #[] }, { accessFlags := 2, nameIndex := 68, descriptorIndex := 18, attributes := #[] }, { accessFlags := 2, nameIndex := 71, descriptorIndex := 18, attributes := #[] }, { accessFlags := 0, nameIndex := 21, descriptorIndex := 22, attributes := #[] }])
  fields := #[{ name := "names", type := (.array (.object "java/lang/String")), accessFlags := 2, slot := 0, constantValue := 0 }, { name := "depth", type := .int, accessFlags := 2, slot := 1, constantValue := 0 }, { name := "block", type := .int, accessFlags := 2, slot := 2, constantValue := 0 }, { name := "transaction", type := .int, accessFlags := 2, slot := 3, constantValue := 0 }, { name := "blocks", type := .int, accessFlags := 2, slot := 4, constantValue := 0 }, { name := "transactions", type := .int, accessFlags := 2, slot := 5, constantValue := 0 }, { name := "attributes", type := (.object "org/xml/sax/Attributes"), accessFlags := 0, slot := 6, constantValue := 0 }]
  methods := #[k9m0, k9m1, k9m2, k9m3, k9m4, k9m5, k9m6]
  instanceTypes := #[(.array (.object "java/lang/String")), .int, .int, .int, .int, .int, (.object "org/xml/sax/Attributes")]
  staticTypes := #[]
  resolved := Array.replicate 96 none
  statics := none }

def pool10 : Array CpInfo := pool [(4, .class_ 6), (1, u "java/lang/Object"), (0, u "<init>"), (0, u "()V"), (5, .class_ 16), (1, u "java/lang/StringLatin1"), (104, u "$assertionsDisabled"), (0, u "Z"), (98, .class_ 223), (1, u "java/lang/StringLatin1$LinesSpliterator"), (57, u "equals"), (0, u "([B[B)Z"), (107, .class_ 391), (0, u "java/lang/StringLatin1$CharsSpliterator")] 3

def k10m0 : Method := { name := "<init>", desc := "()V", sig := { parameters := [], returnType := none }, accessFlags := 0, code := none }
def k10c1 : Code := { maxStack := 3, maxLocals := 3, code := jdk_43_method_13_code, exceptionTable := #[], attributes := #[] }
def k10m1 : Method := { name := "equals", desc := "([B[B)Z", sig := { parameters := [(.array .byte), (.array .byte)], returnType := some .boolean }, accessFlags := 9, code := some k10c1 }
/-- java/lang/StringLatin1 -/
def k10 : Class := { plain "java/lang/StringLatin1" (some 0) with
  accessFlags := 48
  interfaces := #[]
  cf := some (fileOf pool10 14 #[.nestMembers #[390, 221]] #[{ accessFlags := 0, nameIndex := 7, descriptorIndex := 8, attributes := #[] }, { accessFlags := 9, nameIndex := 281, descriptorIndex := 282, attributes := #[] }] 48 4 #[] #[{ accessFlags := 4120, nameIndex := 121, descriptorIndex := 122, attributes := #[] }])
  fields := #[{ name := "$assertionsDisabled", type := .boolean, accessFlags := 4120, slot := 0, constantValue := 0 }]
  methods := #[k10m0, k10m1]
  instanceTypes := #[]
  staticTypes := #[.boolean]
  resolved := Array.replicate 395 none
  statics := none }

def pool11 : Array CpInfo := pool [(2, .class_ 4), (1, u "java/lang/Object"), (0, u "<init>"), (0, u "()V"), (17, .class_ 26), (1, u "jdk/internal/util/Preconditions"), (28, .class_ 56), (0, u "jdk/internal/util/Preconditions$4"), (57, .class_ 115), (0, u "jdk/internal/util/Preconditions$1"), (7, u "SIOOBE_FORMATTER"), (0, u "Ljava/util/function/BiFunction;"), (0, .class_ 126), (0, u "jdk/internal/util/Preconditions$2"), (3, u "AIOOBE_FORMATTER"), (0, .class_ 132), (0, u "jdk/internal/util/Preconditions$3"), (3, u "IOOBE_FORMATTER")] 57

def k11m0 : Method := { name := "<init>", desc := "()V", sig := { parameters := [], returnType := none }, accessFlags := 1, code := none }
/-- jdk/internal/util/Preconditions -/
def k11 : Class := { plain "jdk/internal/util/Preconditions" (some 0) with
  accessFlags := 33
  interfaces := #[]
  cf := some (fileOf pool11 24 #[.nestMembers #[55, 131, 125, 114]] #[{ accessFlags := 1, nameIndex := 5, descriptorIndex := 6, attributes := #[] }] 33 2 #[] #[{ accessFlags := 25, nameIndex := 123, descriptorIndex := 124, attributes := #[] }, { accessFlags := 25, nameIndex := 130, descriptorIndex := 124, attributes := #[] }, { accessFlags := 25, nameIndex := 136, descriptorIndex := 124, attributes := #[] }])
  fields := #[{ name := "SIOOBE_FORMATTER", type := (.object "java/util/function/BiFunction"), accessFlags := 25, slot := 0, constantValue := 0 }, { name := "AIOOBE_FORMATTER", type := (.object "java/util/function/BiFunction"), accessFlags := 25, slot := 1, constantValue := 0 }, { name := "IOOBE_FORMATTER", type := (.object "java/util/function/BiFunction"), accessFlags := 25, slot := 2, constantValue := 0 }]
  methods := #[k11m0]
  instanceTypes := #[]
  staticTypes := #[(.object "java/util/function/BiFunction"), (.object "java/util/function/BiFunction"), (.object "java/util/function/BiFunction")]
  resolved := Array.replicate 194 none
  statics := some 1 }

def pool12 : Array CpInfo := pool [(9, u "<init>"), (6, .class_ 18), (1, u "java/lang/Object"), (0, u "()V"), (1, .class_ 23), (1, u "jdk/internal/util/ArraysSupport"), (0, u "LOG2_ARRAY_LONG_INDEX_SCALE"), (0, u "I"), (2, u "U"), (0, u "Ljdk/internal/misc/Unsafe;"), (8, u "BIG_ENDIAN"), (0, u "Z"), (8, u "LOG2_BYTE_BIT_SIZE"), (4, u "LOG2_ARRAY_INT_INDEX_SCALE"), (54, u "JLA"), (0, u "Ljdk/internal/access/JavaLangAccess;"), (11, u "LOG2_ARRAY_BOOLEAN_INDEX_SCALE"), (9, u "LOG2_ARRAY_BYTE_INDEX_SCALE"), (5, u "LOG2_ARRAY_CHAR_INDEX_SCALE"), (5, u "LOG2_ARRAY_SHORT_INDEX_SCALE"), (18, u "LOG2_ARRAY_FLOAT_INDEX_SCALE"), (24, u "LOG2_ARRAY_DOUBLE_INDEX_SCALE"), (89, u "T_BOOLEAN"), (2, u "T_CHAR"), (1, u "T_FLOAT"), (1, u "T_DOUBLE"), (1, u "T_BYTE"), (1, u "T_SHORT"), (1, u "T_INT"), (1, u "T_LONG"), (1, u "SOFT_MAX_ARRAY_LENGTH")] 83

def k12m0 : Method := { name := "<init>", desc := "()V", sig := { parameters := [], returnType := none }, accessFlags := 2, code := none }
/-- jdk/internal/util/ArraysSupport -/
def k12 : Class := { plain "jdk/internal/util/ArraysSupport" (some 0) with
  accessFlags := 33
  interfaces := #[]
  cf := some (fileOf pool12 21 #[] #[{ accessFlags := 2, nameIndex := 9, descriptorIndex := 19, attributes := #[] }] 33 16 #[] #[{ accessFlags := 24, nameIndex := 28, descriptorIndex := 29, attributes := #[] }, { accessFlags := 26, nameIndex := 38, descriptorIndex := 39, attributes := #[] }, { accessFlags := 25, nameIndex := 121, descriptorIndex := 25, attributes := #[] }, { accessFlags := 25, nameIndex := 131, descriptorIndex := 25, attributes := #[] }, { accessFlags := 25, nameIndex := 137, descriptorIndex := 25, attributes := #[] }, { accessFlags := 25, nameIndex := 143, descriptorIndex := 25, attributes := #[] }, { accessFlags := 25, nameIndex := 53, descriptorIndex := 25, attributes := #[] }, { accessFlags := 25, nameIndex := 24, descriptorIndex := 25, attributes := #[] }, { accessFlags := 25, nameIndex := 162, descriptorIndex := 25, attributes := #[] }, { accessFlags := 25, nameIndex := 187, descriptorIndex := 25, attributes := #[] }, { accessFlags := 26, nameIndex := 48, descriptorIndex := 25, attributes := #[] }, { accessFlags := 25, nameIndex := 277, descriptorIndex := 25, attributes := #[] }, { accessFlags := 25, nameIndex := 280, descriptorIndex := 25, attributes := #[] }, { accessFlags := 25, nameIndex := 282, descriptorIndex := 25, attributes := #[] }, { accessFlags := 25, nameIndex := 284, descriptorIndex := 25, attributes := #[] }, { accessFlags := 25, nameIndex := 286, descriptorIndex := 25, attributes := #[] }, { accessFlags := 25, nameIndex := 288, descriptorIndex := 25, attributes := #[] }, { accessFlags := 25, nameIndex := 290, descriptorIndex := 25, attributes := #[] }, { accessFlags := 25, nameIndex := 292, descriptorIndex := 25, attributes := #[] }, { accessFlags := 26, nameIndex := 108, descriptorIndex := 109, attributes := #[] }, { accessFlags := 25, nameIndex := 294, descriptorIndex := 25, attributes := #[] }])
  fields := #[{ name := "U", type := (.object "jdk/internal/misc/Unsafe"), accessFlags := 24, slot := 0, constantValue := 0 }, { name := "BIG_ENDIAN", type := .boolean, accessFlags := 26, slot := 1, constantValue := 0 }, { name := "LOG2_ARRAY_BOOLEAN_INDEX_SCALE", type := .int, accessFlags := 25, slot := 2, constantValue := 0 }, { name := "LOG2_ARRAY_BYTE_INDEX_SCALE", type := .int, accessFlags := 25, slot := 3, constantValue := 0 }, { name := "LOG2_ARRAY_CHAR_INDEX_SCALE", type := .int, accessFlags := 25, slot := 4, constantValue := 0 }, { name := "LOG2_ARRAY_SHORT_INDEX_SCALE", type := .int, accessFlags := 25, slot := 5, constantValue := 0 }, { name := "LOG2_ARRAY_INT_INDEX_SCALE", type := .int, accessFlags := 25, slot := 6, constantValue := 0 }, { name := "LOG2_ARRAY_LONG_INDEX_SCALE", type := .int, accessFlags := 25, slot := 7, constantValue := 0 }, { name := "LOG2_ARRAY_FLOAT_INDEX_SCALE", type := .int, accessFlags := 25, slot := 8, constantValue := 0 }, { name := "LOG2_ARRAY_DOUBLE_INDEX_SCALE", type := .int, accessFlags := 25, slot := 9, constantValue := 0 }, { name := "LOG2_BYTE_BIT_SIZE", type := .int, accessFlags := 26, slot := 10, constantValue := 0 }, { name := "T_BOOLEAN", type := .int, accessFlags := 25, slot := 11, constantValue := 0 }, { name := "T_CHAR", type := .int, accessFlags := 25, slot := 12, constantValue := 0 }, { name := "T_FLOAT", type := .int, accessFlags := 25, slot := 13, constantValue := 0 }, { name := "T_DOUBLE", type := .int, accessFlags := 25, slot := 14, constantValue := 0 }, { name := "T_BYTE", type := .int, accessFlags := 25, slot := 15, constantValue := 0 }, { name := "T_SHORT", type := .int, accessFlags := 25, slot := 16, constantValue := 0 }, { name := "T_INT", type := .int, accessFlags := 25, slot := 17, constantValue := 0 }, { name := "T_LONG", type := .int, accessFlags := 25, slot := 18, constantValue := 0 }, { name := "JLA", type := (.object "jdk/internal/access/JavaLangAccess"), accessFlags := 26, slot := 19, constantValue := 0 }, { name := "SOFT_MAX_ARRAY_LENGTH", type := .int, accessFlags := 25, slot := 20, constantValue := 0 }]
  methods := #[k12m0]
  instanceTypes := #[]
  staticTypes := #[(.object "jdk/internal/misc/Unsafe"), .boolean, .int, .int, .int, .int, .int, .int, .int, .int, .int, .int, .int, .int, .int, .int, .int, .int, .int, (.object "jdk/internal/access/JavaLangAccess"), .int]
  resolved := Array.replicate 378 none
  statics := none }

def pool13 : Array CpInfo := pool [(1, u "java/lang/Cloneable"), (0, .class_ 1), (0, u "java/lang/Object"), (0, .class_ 3)] 3

/-- java/lang/Cloneable -/
def k13 : Class := { plain "java/lang/Cloneable" (some 0) with
  accessFlags := 1537
  interfaces := #[]
  cf := some (fileOf pool13 2 #[] #[] 1537 4 #[] #[])
  fields := #[]
  methods := #[]
  instanceTypes := #[]
  staticTypes := #[]
  resolved := Array.replicate 8 none
  statics := none }

/-- the primitive byte -/
def k14 : Class := { plain "byte" none with kind := .primitive 'B', accessFlags := 0x411 }
/-- [B -/
def k15 : Class := { plain "[B" (some 0) with kind := .array 14 .byte, interfaces := #[13, 2], accessFlags := 1041 }

/-- the primitive char -/
def k16 : Class := { plain "char" none with kind := .primitive 'C', accessFlags := 0x411 }
/-- [C -/
def k17 : Class := { plain "[C" (some 0) with kind := .array 16 .char, interfaces := #[13, 2], accessFlags := 1041 }

/-- the primitive int -/
def k18 : Class := { plain "int" none with kind := .primitive 'I', accessFlags := 0x411 }
/-- [I -/
def k19 : Class := { plain "[I" (some 0) with kind := .array 18 .int, interfaces := #[13, 2], accessFlags := 1041 }

/-- [Ljava/lang/String; -/
def k20 : Class := { plain "[Ljava/lang/String;" (some 0) with kind := .array 7 (.object "java/lang/String"), interfaces := #[13, 2], accessFlags := 1041 }

def heap : Heap := #[{ cls := 7, slots := #[.long 0, .int 1, .null, .int 0, .null, .int 0, .int 0], vm := .statics 7 },
  { cls := 11, slots := #[.null, .null, .null], vm := .statics 11 }]
def classes : Array Class := #[k0, k1, k2, k3, k4, k5, k6, k7, k8, k9, k10, k11, k12, k13, k14, k15, k16, k17, k18, k19, k20]
def interned : List (Array UInt16 × Addr) := []
def slotsUsed : Nat := 10
def theMethod : MethodId := ⟨1, 1⟩
def args0 : Array Value := #[.int 5, .int 5, .int 5, .int 5, .int 5]
def aboutOver (below : List Frame) : State where
  vm := { classes := classes, interned := interned.toArray }
  heap := heap
  slotsUsed := slotsUsed
  threads := #[{ frames := .invoking theMethod args0 :: below }]
def below0 : List Frame := [.native { method := ⟨0, 0⟩, args := #[] }]
def about1 : State := aboutOver below0
def p0 : Program := .bare "" "" ""
def e0 : Env := launch0.env 0 0 0
theorem w_frames : about1.frames = Frame.invoking theMethod args0 :: below0 := rfl
set_option maxRecDepth 65536 in
theorem w_args : argsFit about1.vm theMethod args0 = true := by decide +kernel
set_option maxRecDepth 65536 in
theorem w_heap : heapFits about1 = true := by decide +kernel
set_option maxRecDepth 65536 in
theorem w_runnable : about1.curStatus? = some .runnable := by decide +kernel
set_option maxRecDepth 65536 in
theorem w_alone : about1.alone = true := by decide +kernel
set_option maxRecDepth 65536 in
theorem w_named : about1.methodNamed? x = some theMethod := by decide +kernel
set_option maxRecDepth 65536 in
theorem w_hears : about1.hears theMethod below0 = true := by decide +kernel
set_option maxRecDepth 65536 in
theorem w_ripe : about1.ripe theMethod args0 below0 = true := by decide +kernel
theorem w_running : about1.status = .running := rfl
set_option maxRecDepth 65536 in
theorem w_room : about1.hasRoom e0.platform room_1 = true :=
  launch0.hasRoom_least _ room_1 (by decide +kernel) (by decide +kernel) (by decide +kernel) (by decide +kernel) (by decide +kernel) (by decide +kernel)
theorem allAtoms_all (ts : List Jvm.Cond) (a : Array Jvm.Value) (st : Jvm.State) : (allAtoms ts).before a st = ts.all (fun c => c.before a st) := by
  induction ts with
  | nil => rfl
  | cons c t ih =>
    show (Jvm.Cond.and c (allAtoms t)).before a st = _
    rw [Jvm.Cond.before_and, ih, List.all_cons]
def words1 : List Jvm.Cond := Jvm.Cond.code x code maxLocals ret :: tables_1
/-- a 'code' word, met by the world's own term for the bytes: nothing is compared byte by byte -/
theorem code_word {y : MethodName} {bytes : ByteArray} {mx : Nat} {rt : Option FieldType} {a : Array Value} {s : State} {m : MethodId} {meth : Method} {c : Code} (h1 : s.methodNamed? y = some m) (h2 : s.vm.method? m = some meth) (h3 : meth.code = some c) (h4 : c.code = bytes)
    (h5 : (c.maxLocals == mx && c.exceptionTable.isEmpty && decide (c.maxStack ≤ mostOperands) && decide (meth.sig.returnType = rt) && !meth.locks && decide (parseMethodDescriptor y.desc = some meth.sig)) = true) : (Jvm.Cond.code y bytes mx rt).before a s = true := by
  simp only [Bool.and_eq_true, beq_iff_eq, Bool.not_eq_true', decide_eq_true_eq] at h5
  obtain ⟨⟨⟨⟨⟨g1, g2⟩, g3⟩, g4⟩, g5⟩, g6⟩ := h5
  simp [Cond.before, Cond.holds, Cond.value, h1, h2, h3, h4, g1, g2, g3, g4, g5, g6]
def isCode : Jvm.Cond → Bool
  | .code _ _ _ _ => true
  | _ => false
theorem all_split {L : List Jvm.Cond} {P : Jvm.Cond → Bool} (h1 : L.all (fun c => isCode c || P c) = true) (h2 : ∀ c ∈ L.filter isCode, P c = true) : L.all P = true := by
  refine List.all_eq_true.mpr fun c hc => ?_
  have h := List.all_eq_true.mp h1 c hc
  rcases Bool.eq_false_or_eq_true (isCode c) with hi | hi
  · exact h2 c (List.mem_filter.mpr ⟨hc, hi⟩)
  · simpa [hi] using h
set_option maxRecDepth 65536 in
theorem w_c0 : (Jvm.Cond.code x code maxLocals ret).before args0 about1 = true := code_word (m := ⟨1, 1⟩) (meth := k1m1) (c := k1c1) (by decide +kernel) rfl rfl rfl (by decide +kernel)
set_option maxRecDepth 65536 in
theorem w_c1 : (Jvm.Cond.code ({ cls := "com/example/polecenie/polecenie/core/ElementNamePinLaw", name := "pick", desc := "(ILjava/lang/String;)Ljava/lang/String;" } : Jvm.MethodName) method_3_code (3 : Nat) (Option.some (Jvm.ClassFile.FieldType.object "java/lang/String"))).before args0 about1 = true := code_word (m := ⟨1, 2⟩) (meth := k1m2) (c := k1c2) (by decide +kernel) rfl rfl rfl (by decide +kernel)
set_option maxRecDepth 65536 in
theorem w_c2 : (Jvm.Cond.code ({ cls := "java/lang/String", name := "<init>", desc := "([C)V" } : Jvm.MethodName) jdk_42_method_3_code (2 : Nat) (Option.none : Option Jvm.ClassFile.FieldType)).before args0 about1 = true := code_word (m := ⟨7, 1⟩) (meth := k7m1) (c := k7c1) (by decide +kernel) rfl rfl rfl (by decide +kernel)
set_option maxRecDepth 65536 in
theorem w_c3 : (Jvm.Cond.code ({ cls := "java/lang/String", name := "<init>", desc := "([CIILjava/lang/Void;)V" } : Jvm.MethodName) jdk_42_method_149_code (6 : Nat) (Option.none : Option Jvm.ClassFile.FieldType)).before args0 about1 = true := code_word (m := ⟨7, 3⟩) (meth := k7m3) (c := k7c3) (by decide +kernel) rfl rfl rfl (by decide +kernel)
set_option maxRecDepth 65536 in
theorem w_c4 : (Jvm.Cond.code ({ cls := "java/lang/Object", name := "<init>", desc := "()V" } : Jvm.MethodName) object_method_1_code (1 : Nat) (Option.none : Option Jvm.ClassFile.FieldType)).before args0 about1 = true := code_word (m := ⟨0, 0⟩) (meth := k0m0) (c := k0c0) (by decide +kernel) rfl rfl rfl (by decide +kernel)
set_option maxRecDepth 65536 in
theorem w_c5 : (Jvm.Cond.code ({ cls := "java/lang/StringUTF16", name := "compress", desc := "([CII)[B" } : Jvm.MethodName) jdk_52_method_16_code (6 : Nat) (Option.some (Jvm.ClassFile.FieldType.array Jvm.ClassFile.FieldType.byte))).before args0 about1 = true := code_word (m := ⟨8, 2⟩) (meth := k8m2) (c := k8c2) (by decide +kernel) rfl rfl rfl (by decide +kernel)
set_option maxRecDepth 65536 in
theorem w_c6 : (Jvm.Cond.code ({ cls := "java/lang/StringUTF16", name := "compress", desc := "([CI[BII)I" } : Jvm.MethodName) jdk_52_method_21_code (7 : Nat) (Option.some Jvm.ClassFile.FieldType.int)).before args0 about1 = true := code_word (m := ⟨8, 3⟩) (meth := k8m3) (c := k8c3) (by decide +kernel) rfl rfl rfl (by decide +kernel)
set_option maxRecDepth 65536 in
theorem w_c7 : (Jvm.Cond.code ({ cls := "java/lang/StringUTF16", name := "coderFromArrayLen", desc := "([BI)B" } : Jvm.MethodName) jdk_52_method_15_code (2 : Nat) (Option.some Jvm.ClassFile.FieldType.byte)).before args0 about1 = true := code_word (m := ⟨8, 1⟩) (meth := k8m1) (c := k8c1) (by decide +kernel) rfl rfl rfl (by decide +kernel)
set_option maxRecDepth 65536 in
theorem w_c8 : (Jvm.Cond.code ({ cls := "com/example/polecenie/polecenie/core/Pain001Reader$Element", name := "<init>", desc := "()V" } : Jvm.MethodName) prog_35_method_1_code (1 : Nat) (Option.none : Option Jvm.ClassFile.FieldType)).before args0 about1 = true := code_word (m := ⟨9, 0⟩) (meth := k9m0) (c := k9c0) (by decide +kernel) rfl rfl rfl (by decide +kernel)
set_option maxRecDepth 65536 in
theorem w_c9 : (Jvm.Cond.code ({ cls := "com/example/polecenie/polecenie/core/Pain001Reader$Element", name := "push", desc := "(Ljava/lang/String;)V" } : Jvm.MethodName) prog_35_method_12_code (2 : Nat) (Option.none : Option Jvm.ClassFile.FieldType)).before args0 about1 = true := code_word (m := ⟨9, 5⟩) (meth := k9m5) (c := k9c5) (by decide +kernel) rfl rfl rfl (by decide +kernel)
set_option maxRecDepth 65536 in
theorem w_c10 : (Jvm.Cond.code ({ cls := "com/example/polecenie/polecenie/core/Pain001Reader$Element", name := "isBlock", desc := "()Z" } : Jvm.MethodName) prog_35_method_10_code (1 : Nat) (Option.some Jvm.ClassFile.FieldType.boolean)).before args0 about1 = true := code_word (m := ⟨9, 3⟩) (meth := k9m3) (c := k9c3) (by decide +kernel) rfl rfl rfl (by decide +kernel)
set_option maxRecDepth 65536 in
theorem w_c11 : (Jvm.Cond.code ({ cls := "com/example/polecenie/polecenie/core/Pain001Reader$Element", name := "isTransaction", desc := "()Z" } : Jvm.MethodName) prog_35_method_11_code (1 : Nat) (Option.some Jvm.ClassFile.FieldType.boolean)).before args0 about1 = true := code_word (m := ⟨9, 4⟩) (meth := k9m4) (c := k9c4) (by decide +kernel) rfl rfl rfl (by decide +kernel)
set_option maxRecDepth 65536 in
theorem w_c12 : (Jvm.Cond.code ({ cls := "com/example/polecenie/polecenie/core/Pain001Reader$Element", name := "name", desc := "()Ljava/lang/String;" } : Jvm.MethodName) prog_35_method_2_code (1 : Nat) (Option.some (Jvm.ClassFile.FieldType.object "java/lang/String"))).before args0 about1 = true := code_word (m := ⟨9, 1⟩) (meth := k9m1) (c := k9c1) (by decide +kernel) rfl rfl rfl (by decide +kernel)
set_option maxRecDepth 65536 in
theorem w_c13 : (Jvm.Cond.code ({ cls := "java/lang/String", name := "equals", desc := "(Ljava/lang/Object;)Z" } : Jvm.MethodName) jdk_42_method_66_code (3 : Nat) (Option.some Jvm.ClassFile.FieldType.boolean)).before args0 about1 = true := code_word (m := ⟨7, 2⟩) (meth := k7m2) (c := k7c2) (by decide +kernel) rfl rfl rfl (by decide +kernel)
set_option maxRecDepth 65536 in
theorem w_c14 : (Jvm.Cond.code ({ cls := "com/example/polecenie/polecenie/core/Pain001Reader$Element", name := "is", desc := "([Ljava/lang/String;)Z" } : Jvm.MethodName) prog_35_method_6_code (3 : Nat) (Option.some Jvm.ClassFile.FieldType.boolean)).before args0 about1 = true := code_word (m := ⟨9, 2⟩) (meth := k9m2) (c := k9c2) (by decide +kernel) rfl rfl rfl (by decide +kernel)
set_option maxRecDepth 65536 in
theorem w_c15 : (Jvm.Cond.code ({ cls := "java/lang/StringLatin1", name := "equals", desc := "([B[B)Z" } : Jvm.MethodName) jdk_43_method_13_code (3 : Nat) (Option.some Jvm.ClassFile.FieldType.boolean)).before args0 about1 = true := code_word (m := ⟨10, 1⟩) (meth := k10m1) (c := k10c1) (by decide +kernel) rfl rfl rfl (by decide +kernel)
set_option maxRecDepth 65536 in
theorem w_c16 : (Jvm.Cond.code ({ cls := "com/example/polecenie/polecenie/core/Pain001Reader$Element", name := "pop", desc := "()V" } : Jvm.MethodName) prog_35_method_13_code (1 : Nat) (Option.none : Option Jvm.ClassFile.FieldType)).before args0 about1 = true := code_word (m := ⟨9, 6⟩) (meth := k9m6) (c := k9c6) (by decide +kernel) rfl rfl rfl (by decide +kernel)
def codes1 : List Jvm.Cond := [Jvm.Cond.code x code maxLocals ret, Jvm.Cond.code ({ cls := "com/example/polecenie/polecenie/core/ElementNamePinLaw", name := "pick", desc := "(ILjava/lang/String;)Ljava/lang/String;" } : Jvm.MethodName) method_3_code (3 : Nat) (Option.some (Jvm.ClassFile.FieldType.object "java/lang/String")), Jvm.Cond.code ({ cls := "java/lang/String", name := "<init>", desc := "([C)V" } : Jvm.MethodName) jdk_42_method_3_code (2 : Nat) (Option.none : Option Jvm.ClassFile.FieldType), Jvm.Cond.code ({ cls := "java/lang/String", name := "<init>", desc := "([CIILjava/lang/Void;)V" } : Jvm.MethodName) jdk_42_method_149_code (6 : Nat) (Option.none : Option Jvm.ClassFile.FieldType), Jvm.Cond.code ({ cls := "java/lang/Object", name := "<init>", desc := "()V" } : Jvm.MethodName) object_method_1_code (1 : Nat) (Option.none : Option Jvm.ClassFile.FieldType), Jvm.Cond.code ({ cls := "java/lang/StringUTF16", name := "compress", desc := "([CII)[B" } : Jvm.MethodName) jdk_52_method_16_code (6 : Nat) (Option.some (Jvm.ClassFile.FieldType.array Jvm.ClassFile.FieldType.byte)), Jvm.Cond.code ({ cls := "java/lang/StringUTF16", name := "compress", desc := "([CI[BII)I" } : Jvm.MethodName) jdk_52_method_21_code (7 : Nat) (Option.some Jvm.ClassFile.FieldType.int), Jvm.Cond.code ({ cls := "java/lang/StringUTF16", name := "coderFromArrayLen", desc := "([BI)B" } : Jvm.MethodName) jdk_52_method_15_code (2 : Nat) (Option.some Jvm.ClassFile.FieldType.byte), Jvm.Cond.code ({ cls := "com/example/polecenie/polecenie/core/Pain001Reader$Element", name := "<init>", desc := "()V" } : Jvm.MethodName) prog_35_method_1_code (1 : Nat) (Option.none : Option Jvm.ClassFile.FieldType), Jvm.Cond.code ({ cls := "com/example/polecenie/polecenie/core/Pain001Reader$Element", name := "push", desc := "(Ljava/lang/String;)V" } : Jvm.MethodName) prog_35_method_12_code (2 : Nat) (Option.none : Option Jvm.ClassFile.FieldType), Jvm.Cond.code ({ cls := "com/example/polecenie/polecenie/core/Pain001Reader$Element", name := "isBlock", desc := "()Z" } : Jvm.MethodName) prog_35_method_10_code (1 : Nat) (Option.some Jvm.ClassFile.FieldType.boolean), Jvm.Cond.code ({ cls := "com/example/polecenie/polecenie/core/Pain001Reader$Element", name := "isTransaction", desc := "()Z" } : Jvm.MethodName) prog_35_method_11_code (1 : Nat) (Option.some Jvm.ClassFile.FieldType.boolean), Jvm.Cond.code ({ cls := "com/example/polecenie/polecenie/core/Pain001Reader$Element", name := "name", desc := "()Ljava/lang/String;" } : Jvm.MethodName) prog_35_method_2_code (1 : Nat) (Option.some (Jvm.ClassFile.FieldType.object "java/lang/String")), Jvm.Cond.code ({ cls := "java/lang/String", name := "equals", desc := "(Ljava/lang/Object;)Z" } : Jvm.MethodName) jdk_42_method_66_code (3 : Nat) (Option.some Jvm.ClassFile.FieldType.boolean), Jvm.Cond.code ({ cls := "com/example/polecenie/polecenie/core/Pain001Reader$Element", name := "is", desc := "([Ljava/lang/String;)Z" } : Jvm.MethodName) prog_35_method_6_code (3 : Nat) (Option.some Jvm.ClassFile.FieldType.boolean), Jvm.Cond.code ({ cls := "java/lang/StringLatin1", name := "equals", desc := "([B[B)Z" } : Jvm.MethodName) jdk_43_method_13_code (3 : Nat) (Option.some Jvm.ClassFile.FieldType.boolean), Jvm.Cond.code ({ cls := "com/example/polecenie/polecenie/core/Pain001Reader$Element", name := "pop", desc := "()V" } : Jvm.MethodName) prog_35_method_13_code (1 : Nat) (Option.none : Option Jvm.ClassFile.FieldType)]
set_option maxRecDepth 65536 in
theorem codes_eq : words1.filter isCode = codes1 := rfl
theorem w_codes : ∀ c ∈ words1.filter isCode, c.before args0 about1 = true := by
  rw [codes_eq]
  intro c hc
  simp only [codes1, List.mem_cons, List.not_mem_nil, or_false] at hc
  rcases hc with rfl | rfl | rfl | rfl | rfl | rfl | rfl | rfl | rfl | rfl | rfl | rfl | rfl | rfl | rfl | rfl | rfl
  · exact w_c0
  · exact w_c1
  · exact w_c2
  · exact w_c3
  · exact w_c4
  · exact w_c5
  · exact w_c6
  · exact w_c7
  · exact w_c8
  · exact w_c9
  · exact w_c10
  · exact w_c11
  · exact w_c12
  · exact w_c13
  · exact w_c14
  · exact w_c15
  · exact w_c16
set_option maxRecDepth 65536 in
theorem w_t1 : (words1.take 24).all (fun c => isCode c || c.before args0 about1) = true := by decide +kernel
set_option maxRecDepth 65536 in
theorem w_t2 : ((words1.drop 24).take 24).all (fun c => isCode c || c.before args0 about1) = true := by decide +kernel
set_option maxRecDepth 65536 in
theorem w_t3 : (((words1.drop 24).drop 24).take 24).all (fun c => isCode c || c.before args0 about1) = true := by decide +kernel
set_option maxRecDepth 65536 in
theorem w_t4 : ((((words1.drop 24).drop 24).drop 24).take 24).all (fun c => isCode c || c.before args0 about1) = true := by decide +kernel
set_option maxRecDepth 65536 in
theorem w_t5 : ((((words1.drop 24).drop 24).drop 24).drop 24).all (fun c => isCode c || c.before args0 about1) = true := by decide +kernel
theorem w_tables : (allAtoms (Jvm.Cond.code x code maxLocals ret :: tables_1)).before args0 about1 = true := by
  rw [allAtoms_all]
  show words1.all (fun c => c.before args0 about1) = true
  refine all_split ?_ w_codes
  rw [← List.take_append_drop 24 words1, List.all_append, w_t1, ← List.take_append_drop 24 (words1.drop 24), List.all_append, w_t2, ← List.take_append_drop 24 ((words1.drop 24).drop 24), List.all_append, w_t3, ← List.take_append_drop 24 (((words1.drop 24).drop 24).drop 24), List.all_append, w_t4, w_t5]
  rfl
set_option maxRecDepth 65536 in
theorem w_rest : rest_1_c.before args0 about1 = true := by decide +kernel
set_option maxRecDepth 65536 in
theorem w_case : (Jvm.Cond.and given_1 narrow_1).before args0 about1 = true := by decide +kernel
set_option maxRecDepth 65536 in
theorem w_consts : constsHeld consts_1 about1 := Jvm.Lit.constsHeldB_iff.mp (by decide +kernel)
theorem w_applies : (headSpec (Jvm.Cond.code x code maxLocals ret :: tables_1) room_1).applies x e0.platform about1 = true :=
  (Spec.applies_iff w_frames).mpr ⟨w_running, w_runnable, w_alone, w_named, w_hears, w_ripe, w_room, w_tables⟩
theorem atStart : AtStart classFile x code maxLocals ret World_1 tables_1 room_1 Calls_1 rest_1 Pre_1 launch0 p0 e0 about1 theMethod args0 below0 :=
  ⟨lists_1, trivial, launch0.admits_env _ _ _, launch0.least_env, fairChoices_fair.cas, fairChoices_fair.clock, w_frames, w_args, w_heap, w_applies, ⟨w_consts, trivial⟩, w_rest, w_case⟩
end start1
theorem witness_1 : WitnessClaimed_1 := ⟨start1.p0, start1.e0, start1.about1, start1.theMethod, start1.args0, start1.below0, start1.atStart⟩
end Jvm.Pilot.@@N@@
