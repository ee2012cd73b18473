import JvmDerived
import JvmDerived.Pilot.@@N@@Statement
import JvmDerived.Pilot.@@N@@Code
set_option linter.unusedVariables false
set_option linter.unusedSimpArgs false
set_option maxRecDepth 65536
set_option maxHeartbeats 4000000
namespace Jvm.Pilot.@@N@@
open Jvm Jvm.ClassFile Sem Op Lib Jvm.Free Jvm.Stand Jvm.LawKit Jvm.RoadKit Bundle Jvm.Pilot.@@N@@.Jvm.D

def OwnSets (g : Launch × State × Array Value × List (String × Nat)) : Prop := (∀ d ∈ jdkStatics_1, d.before g.2.2.1 g.2.1 = true) ∧ Fit g.2.1 ∧ g.2.2.2 = consts_1 ∧ ∃ (c : ClassId) (k : Class) (m : Addr), g.2.1.vm.findClass "[Ljava/lang/Object;" = some c ∧ g.2.1.vm.classes[c]? = some k ∧ k.mirror = some m
/-! OWN WALKING KIT, part 1: the heap as an explicit list, the running state, the goal, contracts. -/
abbrev GG := Launch × State × Array Value × List (String × Nat)
abbrev GG.l (g : GG) : Launch := g.1
abbrev GG.Z (g : GG) : State := g.2.1
abbrev GG.a0 (g : GG) : Array Value := g.2.2.1
abbrev GG.EL (g : GG) : List (String × Nat) := g.2.2.2
abbrev MM := Program × Env × State × MethodId × Array Value × List Frame × Method × Code
abbrev MM.p (M : MM) : Program := M.1
abbrev MM.e (M : MM) : Env := M.2.1
abbrev MM.s (M : MM) : State := M.2.2.1
abbrev MM.m (M : MM) : MethodId := M.2.2.2.1
abbrev MM.args (M : MM) : Array Value := M.2.2.2.2.1
abbrev MM.below (M : MM) : List Frame := M.2.2.2.2.2.1
abbrev MM.meth (M : MM) : Method := M.2.2.2.2.2.2.1
abbrev MM.c (M : MM) : Code := M.2.2.2.2.2.2.2
abbrev DD := MethodName × ByteArray × Nat × Option FieldType × Room
abbrev DD.y (D : DD) : MethodName := D.1
abbrev DD.cd (D : DD) : ByteArray := D.2.1
abbrev DD.mx (D : DD) : Nat := D.2.2.1
abbrev DD.rt (D : DD) : Option FieldType := D.2.2.2.1
abbrev DD.rm (D : DD) : Room := D.2.2.2.2
/-- the case's words, at its start -/
def GW (g : GG) : Prop := (∀ d ∈ tables_1, d.before g.a0 g.Z = true) ∧ EW g.Z g.a0 g.EL ∧ OwnSets g
theorem GW.w {g : GG} (W : GW g) : ∀ d ∈ tables_1, d.before g.a0 g.Z = true := W.1
abbrev FD := String × String × String × Value
abbrev Ent := Addr × ((String × List FD) ⊕ (FieldType × String × List Value))
abbrev SE := Addr × Addr × Int32 × List Value
def Ary (Z : State) (h : Heap) (a : Addr) (ty : FieldType) (nm : String) (vs : List Value) : Prop :=
  ∃ c : Cell, Jvm.RoadKit.Arr Z h a c ty ∧ c.slots = vs.toArray ∧ vs.length < 2 ^ 31 ∧ (∀ v ∈ vs, fits ty v = true) ∧ (∀ C, ty = .object C → Ovr Z c.cls C) ∧ (nm ≠ "" → Exa Z h a nm)
def Is (Z : State) (h : Heap) : Ent → Prop
  | (a, .inl (C, fs)) => Exa Z h a C ∧ ∀ f ∈ fs, Fld Z h a f.1 f.2.1 f.2.2.1 f.2.2.2
  | (a, .inr (ty, nm, vs)) => Ary Z h a ty nm vs
def Lays (Z : State) (a0 : Array Value) (C : String) (fs : List FD) : Prop :=
  (fs.map fun f => f.2.1).Nodup ∧ ∀ f ∈ fs, Laid Z a0 C f.1 f.2.1 f.2.2.1 ∧ ∃ ty, parseFieldDescriptor f.2.2.1 = some ty
def Ld (Z : State) (a0 : Array Value) : Ent → Prop
  | (_, .inl (C, fs)) => Lays Z a0 C fs
  | (_, .inr _) => True
def IsS (Z : State) (h : Heap) (y : SE) : Prop :=
  Exa Z h y.1 "java/lang/String" ∧ Fld Z h y.1 "java/lang/String" "value" "[B" (.ref y.2.1) ∧ Fld Z h y.1 "java/lang/String" "coder" "B" (.int y.2.2.1) ∧ Ary Z h y.2.1 .byte "" y.2.2.2
def Hp (g : GG) (vm : Vm) (h : Heap) (H : List Ent) (Lt : List SE) : Prop :=
  (∀ x ∈ H, Is g.Z h x ∧ Ld g.Z g.a0 x ∧ g.Z.heap.size ≤ x.1 ∧ Safe g.Z g.EL vm h x.1) ∧ (H.map Prod.fst).Nodup ∧ (∀ y ∈ Lt, IsS g.Z h y) ∧ ∀ x ∈ H, ∀ y ∈ Lt, x.1 ≠ y.1 ∧ x.1 ≠ y.2.1
section Heap
variable {g : GG} {Z : State} {h h' : Heap} {vm vm1 : Vm} {a b : Addr} {ty : FieldType} {nm : String} {vs : List Value} {H H' : List Ent} {Lt Lt' : List SE} {ws : List Addr} {a0 : Array Value}
theorem Ary.ext (A : Ary Z h a ty nm vs) (E : Ext h h') : Ary Z h' a ty nm vs := by
  obtain ⟨c, r1, r2, r3, r4, r5, r6⟩ := A
  exact ⟨c, r1.ext E, r2, r3, r4, r5, fun q => (r6 q).ext E⟩
theorem Ary.keep (A : Ary Z h a ty nm vs) (K : Keep h h' ws) (q : a ∉ ws) : Ary Z h' a ty nm vs := by
  obtain ⟨c, r1, r2, r3, r4, r5, r6⟩ := A
  exact ⟨c, ⟨K.2.1 a c r1.1 q, r1.2⟩, r2, r3, r4, r5, fun q => (r6 q).keep K⟩
theorem Ary.lt (A : Ary Z h a ty nm vs) : a < h.size := by obtain ⟨c, r1, -⟩ := A; exact r1.lt
theorem Is.lt {x : Ent} (I : Is Z h x) : x.1 < h.size := by
  obtain ⟨a, ⟨C, fs⟩ | ⟨ty, nm, vs⟩⟩ := x
  · exact I.1.lt
  · exact Ary.lt I
theorem Is.ext {x : Ent} (I : Is Z h x) (E : Ext h h') : Is Z h' x := by
  obtain ⟨a, ⟨C, fs⟩ | ⟨ty, nm, vs⟩⟩ := x
  · exact ⟨I.1.ext E, fun f hf => (I.2 f hf).ext E⟩
  · exact Ary.ext I E
theorem Is.keep {x : Ent} (I : Is Z h x) (K : Keep h h' ws) (q : x.1 ∉ ws) : Is Z h' x := by
  obtain ⟨a, ⟨C, fs⟩ | ⟨ty, nm, vs⟩⟩ := x
  · exact ⟨I.1.keep K, fun f hf => (I.2 f hf).keep K q⟩
  · exact Ary.keep I K q
theorem IsS.ext {y : SE} (I : IsS Z h y) (E : Ext h h') : IsS Z h' y := ⟨I.1.ext E, I.2.1.ext E, I.2.2.1.ext E, I.2.2.2.ext E⟩
theorem IsS.keep {y : SE} (I : IsS Z h y) (K : Keep h h' ws) (q : y.1 ∉ ws) (r : y.2.1 ∉ ws) : IsS Z h' y := ⟨I.1.keep K, I.2.1.keep K q, I.2.2.1.keep K q, I.2.2.2.keep K r⟩
/-- the tables and the heap go on, the heap at its end -/
theorem Hp.move (P : Hp g vm h H Lt) (C : CHr g.Z g.EL vm h vm1 h') (E : Ext h h') : Hp g vm1 h' H Lt :=
  ⟨fun x hx => ⟨(P.1 x hx).1.ext E, (P.1 x hx).2.1, (P.1 x hx).2.2.1, C.safe (P.1 x hx).1.lt (P.1 x hx).2.2.2⟩, P.2.1, fun y hy => (P.2.2.1 y hy).ext E, P.2.2.2⟩
theorem Hp.perm (P : Hp g vm h H Lt) (q : H.Perm H') : Hp g vm h H' Lt :=
  ⟨fun x hx => P.1 x (q.mem_iff.mpr hx), (q.map Prod.fst).nodup_iff.mp P.2.1, P.2.2.1, fun x hx => P.2.2.2 x (q.mem_iff.mpr hx)⟩
theorem perm_front {α : Type} {x : α} : ∀ {l : List α} {i : Nat}, l[i]? = some x → (x :: l.eraseIdx i).Perm l
  | [], _, h => by simp at h
  | a :: l, 0, h => by
    rw [List.getElem?_cons_zero] at h
    cases h
    exact List.Perm.refl _
  | a :: l, i + 1, h => by
    rw [List.getElem?_cons_succ] at h
    exact (List.Perm.swap a x _).trans ((perm_front h).cons a)
theorem Hp.front (P : Hp g vm h H Lt) {i : Nat} {x : Ent} (hi : H[i]? = some x) : Hp g vm h (x :: H.eraseIdx i) Lt := by
  exact P.perm (perm_front hi).symm
theorem Hp.sub (P : Hp g vm h H Lt) (q : H'.Sublist H) : Hp g vm h H' Lt :=
  ⟨fun x hx => P.1 x (q.subset hx), (q.map Prod.fst).nodup P.2.1, P.2.2.1, fun x hx => P.2.2.2 x (q.subset hx)⟩
theorem Hp.del (P : Hp g vm h H Lt) (i : Nat) : Hp g vm h (H.eraseIdx i) Lt := P.sub (List.eraseIdx_sublist H i)
theorem Hp.lsub (P : Hp g vm h H Lt) (q : ∀ y ∈ Lt', y ∈ Lt) : Hp g vm h H Lt' := ⟨P.1, P.2.1, fun y hy => P.2.2.1 y (q y hy), fun x hx y hy => P.2.2.2 x hx y (q y hy)⟩
theorem Hp.add (P : Hp g vm h H Lt) {x : Ent} (hI : Is g.Z h x) (hL : Ld g.Z g.a0 x) (h0 : g.Z.heap.size ≤ x.1) (hs : Safe g.Z g.EL vm h x.1) (hn : ∀ y ∈ H, y.1 ≠ x.1) (hl : ∀ y ∈ Lt, x.1 ≠ y.1 ∧ x.1 ≠ y.2.1) : Hp g vm h (x :: H) Lt := by
  refine ⟨fun y hy => ?_, ?_, P.2.2.1, fun y hy => ?_⟩
  · rcases List.mem_cons.mp hy with rfl | hy
    · exact ⟨hI, hL, h0, hs⟩
    · exact P.1 y hy
  · rw [List.map_cons, List.nodup_cons]
    refine ⟨fun q => ?_, P.2.1⟩
    obtain ⟨y, hy, e⟩ := List.mem_map.mp q
    exact hn y hy e
  · rcases List.mem_cons.mp hy with rfl | hy
    · exact hl
    · exact P.2.2.2 y hy
/-- a new cell at the heap's end -/
theorem Hp.born (P : Hp g vm h H Lt) (HC : CHv g.Z g.EL vm h) (E0 : Ext g.Z.heap h) (E : Ext h h') {x : Ent} (ha : x.1 = h.size) (hI : Is g.Z h' x) (hL : Ld g.Z g.a0 x) : Hp g vm h' (x :: H) Lt := by
  have C := CHr.ext E HC
  refine (P.move C E).add hI hL (by rw [ha]; exact E0.1) ?_ (fun y hy => ?_) (fun y hy => ?_)
  · intro B
    have B' := (HC.step fun _ _ _ q => E.2 _ _ q).2 _ B
    obtain ⟨cell, q⟩ := B'.there
    have := (Array.getElem?_eq_some_iff.mp q).1
    rw [ha] at this; omega
  · exact fun e => Nat.lt_irrefl _ (Nat.lt_of_lt_of_eq (P.1 y hy).1.lt (e.trans ha).symm)
  · have q1 := (P.2.2.1 y hy).1.lt
    have q2 := (P.2.2.1 y hy).2.2.2.lt
    exact ⟨fun e => Nat.lt_irrefl _ (Nat.lt_of_lt_of_eq q1 (e.symm.trans ha).symm), fun e => Nat.lt_irrefl _ (Nat.lt_of_lt_of_eq q2 (e.symm.trans ha).symm)⟩
theorem Hp.upd (P : Hp g vm h H Lt) (C : CHr g.Z g.EL vm h vm1 h') (K : Keep h h' [a]) {i : Nat} {x x' : Ent} (hi : H[i]? = some x) (ha : x.1 = a) (ha' : x'.1 = a) (hI : Is g.Z h' x') (hL : Ld g.Z g.a0 x') : Hp g vm1 h' (H.set i x') Lt := by
  obtain ⟨hl, hg⟩ := List.getElem?_eq_some_iff.mp hi
  have hmap : (H.set i x').map Prod.fst = H.map Prod.fst := by
    rw [List.map_set, ha']
    apply List.ext_getElem?
    intro j
    rw [List.getElem?_set]
    split
    · rename_i e; subst e
      rw [if_pos (by simpa using hl), List.getElem?_map, hi, ← ha]; rfl
    · rfl
  have hx : x ∈ H := hg ▸ List.getElem_mem hl
  have hmem : ∀ z ∈ H.set i x', z = x' ∨ (z ∈ H ∧ z.1 ≠ a) := fun z hz => by
    obtain ⟨j, hj⟩ := List.mem_iff_getElem?.mp hz
    rw [List.getElem?_set] at hj
    split at hj
    · exact Or.inl (Option.some.inj hj).symm
    · rename_i hne
      refine Or.inr ⟨List.mem_iff_getElem?.mpr ⟨j, hj⟩, fun e => hne ?_⟩
      obtain ⟨hjl, hjg⟩ := List.getElem?_eq_some_iff.mp hj
      have e1 : (H.map Prod.fst)[i]'(by simpa using hl) = (H.map Prod.fst)[j]'(by simpa using hjl) := by
        rw [List.getElem_map, List.getElem_map, hg, hjg, ha, e]
      exact (List.getElem_inj P.2.1).mp e1
  refine ⟨fun z hz => ?_, by rw [hmap]; exact P.2.1, fun y hy => ?_, fun z hz y hy => ?_⟩
  · rcases hmem z hz with rfl | ⟨hz, hne⟩
    · refine ⟨hI, hL, by rw [ha', ← ha]; exact (P.1 x hx).2.2.1, ?_⟩
      have := C.safe (P.1 x hx).1.lt (P.1 x hx).2.2.2
      rw [ha', ← ha]; exact this
    · exact ⟨(P.1 z hz).1.keep K (fun q => hne (List.mem_singleton.mp q)), (P.1 z hz).2.1, (P.1 z hz).2.2.1, C.safe (P.1 z hz).1.lt (P.1 z hz).2.2.2⟩
  · have q := P.2.2.2 x hx y hy
    rw [ha] at q
    exact (P.2.2.1 y hy).keep K (fun r => q.1 (List.mem_singleton.mp r).symm) (fun r => q.2 (List.mem_singleton.mp r).symm)
  · rcases hmem z hz with rfl | ⟨hz, -⟩
    · have q := P.2.2.2 x hx y hy
      rw [ha'] ; rw [ha] at q; exact q
    · exact P.2.2.2 z hz y hy
theorem Hp.lit (P : Hp g vm h H Lt) {y : SE} (I : IsS g.Z h y) (q : ∀ x ∈ H, x.1 ≠ y.1 ∧ x.1 ≠ y.2.1) : Hp g vm h H (y :: Lt) := by
  refine ⟨P.1, P.2.1, fun z hz => ?_, fun x hx z hz => ?_⟩
  · rcases List.mem_cons.mp hz with rfl | hz
    · exact I
    · exact P.2.2.1 z hz
  · rcases List.mem_cons.mp hz with rfl | hz
    · exact q x hx
    · exact P.2.2.2 x hx z hz
/-- a String that is made: it and its bytes are never written again -/
theorem Hp.freeze {cd : Int32} {n : String} {fs : List FD} (P : Hp g vm h ((a, .inl ("java/lang/String", fs)) :: (b, .inr (.byte, n, vs)) :: H) Lt)
    (f1 : ("java/lang/String", "value", "[B", Value.ref b) ∈ fs) (f2 : ("java/lang/String", "coder", "B", Value.int cd) ∈ fs) : Hp g vm h H ((a, b, cd, vs) :: Lt) := by
  have q := P.2.1
  simp only [List.map_cons, List.nodup_cons, List.mem_cons, not_or] at q
  have I1 := (P.1 _ (List.mem_cons_self ..)).1
  have I2 := (P.1 _ (List.mem_cons_of_mem _ (List.mem_cons_self ..))).1
  have I2' : Ary g.Z h b .byte "" vs := by
    obtain ⟨c, r1, r2, r3, r4, r5, r6⟩ := I2
    exact ⟨c, r1, r2, r3, r4, r5, fun q => absurd rfl q⟩
  have P' : Hp g vm h H Lt := P.sub ((List.sublist_cons_self _ _).trans (List.sublist_cons_self _ _))
  refine P'.lit ⟨I1.1, I1.2 _ f1, I1.2 _ f2, I2'⟩ fun x hx => ⟨fun e => ?_, fun e => ?_⟩
  · exact q.1.2 (List.mem_map.mpr ⟨x, hx, e⟩)
  · exact q.2.1 (List.mem_map.mpr ⟨x, hx, e⟩)
/-- .. whose bytes are another String's -/
theorem Hp.freezeL {cd cd' : Int32} {a' : Addr} {fs : List FD} (P : Hp g vm h ((a, .inl ("java/lang/String", fs)) :: H) Lt)
    (f1 : ("java/lang/String", "value", "[B", Value.ref b) ∈ fs) (f2 : ("java/lang/String", "coder", "B", Value.int cd) ∈ fs) (hm : (a', b, cd', vs) ∈ Lt) : Hp g vm h H ((a, b, cd, vs) :: Lt) := by
  have q := P.2.1
  simp only [List.map_cons, List.nodup_cons] at q
  have I1 := (P.1 _ (List.mem_cons_self ..)).1
  refine (P.del 0).lit ⟨I1.1, I1.2 _ f1, I1.2 _ f2, (P.2.2.1 _ hm).2.2.2⟩ fun x hx => ⟨fun e => q.1 (List.mem_map.mpr ⟨x, hx, e⟩), ?_⟩
  exact (P.2.2.2 x (List.mem_cons_of_mem _ hx) _ hm).2
/-- what holds wherever the list holds -/
abbrev Al (g : GG) (H : List Ent) (Lt : List SE) (P : Heap → Prop) : Prop := ∀ vm h, Ext g.Z.heap h → Hp g vm h H Lt → P h
theorem fO {i j : Nat} {C O n d : String} {fs : List FD} {v : Value} (hi : H[i]? = some (a, .inl (C, fs))) (hf : fs[j]? = some (O, n, d, v)) : Al g H Lt fun h => Fld g.Z h a O n d v := fun vm h _ P =>
  (P.1 _ (List.mem_of_getElem? hi)).1.2 _ (List.mem_of_getElem? hf)
theorem fE {i : Nat} {C : String} {fs : List FD} (hi : H[i]? = some (a, .inl (C, fs))) : Al g H Lt fun h => Exa g.Z h a C := fun vm h _ P => (P.1 _ (List.mem_of_getElem? hi)).1.1
theorem aH {i : Nat} (hi : H[i]? = some (a, .inr (ty, nm, vs))) : Al g H Lt fun h => Ary g.Z h a ty nm vs := fun vm h _ P => (P.1 _ (List.mem_of_getElem? hi)).1
theorem sE {cd : Int32} (hm : (a, b, cd, vs) ∈ Lt) : Al g H Lt fun h => Exa g.Z h a "java/lang/String" := fun vm h _ P => (P.2.2.1 _ hm).1
theorem sV {cd : Int32} (hm : (a, b, cd, vs) ∈ Lt) : Al g H Lt fun h => Fld g.Z h a "java/lang/String" "value" "[B" (.ref b) := fun vm h _ P => (P.2.2.1 _ hm).2.1
theorem sC {cd : Int32} (hm : (a, b, cd, vs) ∈ Lt) : Al g H Lt fun h => Fld g.Z h a "java/lang/String" "coder" "B" (.int cd) := fun vm h _ P => (P.2.2.1 _ hm).2.2.1
theorem sA {cd : Int32} (hm : (a, b, cd, vs) ∈ Lt) : Al g H Lt fun h => Ary g.Z h b .byte "" vs := fun vm h _ P => (P.2.2.1 _ hm).2.2.2
theorem Al.old {P : Heap → Prop} (hP : ∀ h, Ext g.Z.heap h → P h) : Al g H Lt P := fun _ h E _ => hP h E
theorem Ary.cell (A : Ary Z h a ty nm vs) : ∃ c : Cell, Jvm.RoadKit.Arr Z h a c ty ∧ c.slots.size = vs.length ∧ ∀ i : Nat, c.slots[i]? = vs[i]? := by
  obtain ⟨c, r1, r2, -⟩ := A
  exact ⟨c, r1, by rw [r2]; simp, fun i => by rw [r2]; simp⟩
end Heap
/-! OWN WALKING KIT, part 2: running, goal, contract, and one rule an instruction. -/
def Rn (g : GG) (D : DD) (M : MM) (T : State) (A : Vm → Heap → Prop) (cs ss : Nat) : Prop :=
  (GW g ∧ M.p.tables.exec = Jvm.exec ∧ M.c.code = D.cd ∧ M.c.maxLocals = D.mx ∧ M.meth.sig.returnType = D.rt ∧ M.meth.locks = false ∧ M.meth.name = D.y.name) ∧
  ∃ (vm0 : Vm) (k0 : Nat) (locs : List Loc), Stand M.p g.l M.e D.rm (M.s.setVm vm0) M.m M.args M.below M.meth M.c T locs cs ss ∧ M.s.Since vm0 k0 ∧ k0 ≤ T.heap.size ∧ g.Z.Warmed39 vm0 ∧ vm0.findClass D.y.cls = some M.m.cls ∧
    CHr g.Z g.EL M.s.vm M.s.heap vm0 T.heap ∧ Fr g.Z.heap.size locs ∧ Ext g.Z.heap T.heap ∧ A vm0 T.heap
abbrev RH (g : GG) (D : DD) (M : MM) (T : State) (H : List Ent) (Lt : List SE) (cs ss : Nat) : Prop := Rn g D M T (fun vm h => Hp g vm h H Lt) cs ss
def Fn (g : GG) (D : DD) (M : MM) (Q : Option Value → Vm → Heap → Prop) (U : State) : Prop :=
  ∃ (t : State) (v : Option Value) (L : List Loc), Steps M.p.tables M.e M.below U t ∧ t.status = .running ∧ Ended t M.below (.returned v) ∧ Q v t.vm t.heap ∧ Fr g.Z.heap.size L ∧ CHr g.Z g.EL M.s.vm M.s.heap t.vm t.heap ∧ Ext g.Z.heap t.heap ∧
    ReturnedEndW M.s (.returned v) t L D.rm.cells D.rm.slots
def CtW (g : GG) (D : DD) (ws : List Jvm.Cond) (as : Array Value) (H : List Ent) (Lt : List SE) (Q : Option Value → Vm → Heap → Prop) : Prop :=
  MetFree g.l D.y (head1 (Jvm.Cond.code D.y D.cd D.mx D.rt :: ws) D.rm) (fun a U => a = as ∧ g.Z.Warmed39 U.vm ∧ CHv g.Z g.EL U.vm U.heap ∧ Ext g.Z.heap U.heap ∧ Hp g U.vm U.heap H Lt) (fun _ _ _ _ _ => True)
    (fun _ U o U' => ∃ v L, o = .returned v ∧ Q v U'.vm U'.heap ∧ Fr g.Z.heap.size L ∧ CHr g.Z g.EL U.vm U.heap U'.vm U'.heap ∧ Ext g.Z.heap U'.heap ∧ ReturnedEndW U o U' L D.rm.cells D.rm.slots)
abbrev Ct (g : GG) (D : DD) (as : Array Value) (H : List Ent) (Lt : List SE) (Q : Option Value → Vm → Heap → Prop) : Prop := CtW g D [] as H Lt Q
abbrev CallOK (D D' : DD) (W cs ss cs' ss' : Nat) : Prop := D'.rm.frames + 1 ≤ D.rm.frames ∧ W + (D'.mx + 11) + D'.rm.locals ≤ D.rm.locals ∧ cs + D'.rm.cells = cs' ∧ ss + D'.rm.slots = ss' ∧ cs' ≤ D.rm.cells ∧ ss' ≤ D.rm.slots
section Rules
variable {g : GG} {D D' : DD} {M : MM} {T : State} {A A' : Vm → Heap → Prop} {cs ss : Nat} {Q Q' : Option Value → Vm → Heap → Prop} {pc pc' : Nat} {Ls Ls' : Array Slot} {S : List Value} {H H' : List Ent} {Lt Lt' : List SE} {as : Array Value} {ws : List Jvm.Cond}
theorem ext_rfl (h : Heap) : Ext h h := ⟨Nat.le_refl _, fun _ _ q => q⟩
theorem ext_trans {h h1 h2 : Heap} (E : Ext h h1) (E' : Ext h1 h2) : Ext h h2 := ⟨Nat.le_trans E.1 E'.1, fun a c q => E'.2 a c (E.2 a c q)⟩
theorem Rn.gw (B : Rn g D M T A cs ss) : GW g := B.1.1
theorem Rn.hw (B : Rn g D M T A cs ss) : ∀ d ∈ tables_1, d.before g.a0 g.Z = true := B.1.1.1
theorem Rn.hx (B : Rn g D M T A cs ss) : M.p.tables.exec = Jvm.exec := B.1.2.1
theorem Rn.cd (B : Rn g D M T A cs ss) : M.c.code = D.cd := B.1.2.2.1
theorem Rn.here (B : Rn g D M T A cs ss) : At T M.m M.c M.below := by obtain ⟨-, vm0, k0, locs, X, -⟩ := B; exact X.here
theorem Rn.map (B : Rn g D M T A cs ss) (q : ∀ vm h, Ext g.Z.heap h → A vm h → A' vm h) : Rn g D M T A' cs ss := by
  obtain ⟨st, vm0, k0, locs, X, hS, hk, hZ, hown, hC, N, E0, hH⟩ := B
  exact ⟨st, vm0, k0, locs, X, hS, hk, hZ, hown, hC, N, E0, q _ _ E0 hH⟩
theorem Rn.ex {α : Type} {P : α → Vm → Heap → Prop} (B : Rn g D M T (fun vm h => ∃ x, P x vm h) cs ss) : ∃ x, Rn g D M T (P x) cs ss := by
  obtain ⟨st, vm0, k0, locs, X, hS, hk, hZ, hown, hC, N, E0, x, hH⟩ := B
  exact ⟨x, st, vm0, k0, locs, X, hS, hk, hZ, hown, hC, N, E0, hH⟩
theorem Rn.and {P : Prop} (B : Rn g D M T (fun vm h => P ∧ A vm h) cs ss) : P ∧ Rn g D M T A cs ss := by
  obtain ⟨st, vm0, k0, locs, X, hS, hk, hZ, hown, hC, N, E0, x, hH⟩ := B
  exact ⟨x, st, vm0, k0, locs, X, hS, hk, hZ, hown, hC, N, E0, hH⟩
theorem Rn.or (B : Rn g D M T (fun vm h => A vm h ∨ A' vm h) cs ss) : Rn g D M T A cs ss ∨ Rn g D M T A' cs ss := by
  obtain ⟨st, vm0, k0, locs, X, hS, hk, hZ, hown, hC, N, E0, hH | hH⟩ := B
  · exact Or.inl ⟨st, vm0, k0, locs, X, hS, hk, hZ, hown, hC, N, E0, hH⟩
  · exact Or.inr ⟨st, vm0, k0, locs, X, hS, hk, hZ, hown, hC, N, E0, hH⟩
theorem Rn.front (B : RH g D M T H Lt cs ss) {i : Nat} {x : Ent} (hi : H[i]? = some x) (e : x :: H.eraseIdx i = H') : RH g D M T H' Lt cs ss := B.map fun _ _ _ P => e ▸ P.front hi
theorem Rn.del (B : RH g D M T H Lt cs ss) (i : Nat) (e : H.eraseIdx i = H') : RH g D M T H' Lt cs ss := B.map fun _ _ _ P => e ▸ P.del i
theorem Rn.lsub (B : RH g D M T H Lt cs ss) (q : ∀ y ∈ Lt', y ∈ Lt) : RH g D M T H Lt' cs ss := B.map fun _ _ _ P => P.lsub q
theorem Rn.mono (B : Rn g D M T A cs ss) {cs' ss' : Nat} (h1 : cs ≤ cs') (h2 : ss ≤ ss') : Rn g D M T A cs' ss' := by
  obtain ⟨st, vm0, k0, locs, X, r⟩ := B
  exact ⟨st, vm0, k0, locs, X.mono h1 h2, r⟩
theorem Fn.go {U U' : State} (F : Fn g D M Q U') (st : ∀ t, Steps M.p.tables M.e M.below U' t → Steps M.p.tables M.e M.below U t) : Fn g D M Q U := by
  obtain ⟨t, v, L, h1, r⟩ := F
  exact ⟨t, v, L, st _ h1, r⟩
theorem CtW.body (W : GW g) (hpl : plainFor D.y = true) (ef : ∀ m, entryFrame m as D.mx = mkF m 0 Ls []) (K : ∀ M T, RH g D M T H Lt 0 0 → Fn g D M Q (T.setTop (mkF M.m 0 Ls []))) : CtW g D ws as H Lt Q := by
  refine MetFree.of_bodySF hpl hisR ?_
  intro p e s m args below meth c s₁ Bd hml0 hP hK
  obtain ⟨rfl, hZ, hC, hE, hH⟩ := hP
  have hown : s.vm.findClass D.y.cls = some m.cls := findClass_of_methodNamed Bd.named
  have hnm := (name_of_methodNamed Bd.named Bd.method).1
  have X0 := Stand.of_body Bd
  have e0 : s₁.heap = s.heap := by rw [Bd.state]; rfl
  obtain ⟨t, v, L, h1, h2, h3, h4, h5, h6, h7, h8⟩ := K (p, e, s, m, args, below, meth, c) s₁ ⟨⟨W, Bd.exec, Bd.bytes, hml0, Bd.returns, Bd.notSynchronized, hnm⟩, s.vm, 0, [], X0, (State.WarmedH.refl s).since 0, Nat.zero_le _, hZ, hown, by rw [e0]; exact CHr.refl hC, Fr.nil _, by rw [e0]; exact hE, by rw [e0]; exact hH⟩
  exact ⟨t, _, castTop (ef m) h1, h2, h3, v, L, rfl, h4, h5, h6, h7, h8⟩
/-! returns -/
theorem endW {s t : State} {o : Outcome} {L : List Loc} {k n k' n' : Nat} (h : ReturnedEndW s o t L k n) (h1 : k ≤ k') (h2 : n ≤ n') : ReturnedEndW s o t L k' n' := ⟨h.1, h.2.1, h.2.2.1, h.2.2.2.mono h1 h2⟩
theorem r_ret (B : RH g D M T H Lt cs ss) (hd : decode D.cd pc = .ok (.return_, 1)) (hr : D.rt = none) (hc : cs ≤ D.rm.cells) (hs : ss ≤ D.rm.slots) (hQ : ∀ vm h, Hp g vm h H Lt → Q none vm h) : Fn g D M Q (T.setTop (mkF M.m pc Ls [])) := by
  obtain ⟨⟨W, hx, hcd, hml, hrt, hlk, hnm⟩, vm0, k0, locs, X, hS, hk, hZ, hown, hC, N, E0, hH⟩ := B
  obtain ⟨fs, hl, h1, h2, h3⟩ := X.leaveW hS hk (v := none) (fun _ => rfl) hlk
  have hat := CHv.at X hZ W.2.1 hC.1
  exact ⟨T.setFrames fs, none, locs, X.returnOut hx (hrt.trans hr) (hb hcd hd) hl, h1, h2, hQ _ _ (hH.move hat (ext_rfl _)), N, hC.trans hat, E0, endW h3 hc hs⟩
theorem r_retv (B : RH g D M T H Lt cs ss) {i : Instr} {w : Value} {t : FieldType} {rest : List Value} (hd : decode D.cd pc = .ok (i, 1)) (hr : D.rt = some t) (hn : narrow t w = w)
    (hi : (i = .ireturn ∧ (t = .int ∨ t = .boolean ∨ t = .byte ∨ t = .char ∨ t = .short) ∧ ∃ z, w = .int z) ∨ (i = .lreturn ∧ t = .long ∧ ∃ z, w = .long z) ∨ (i = .dreturn ∧ t = .double ∧ ∃ z, w = .double z) ∨ (i = .freturn ∧ t = .float ∧ ∃ z, w = .float z) ∨ (i = .areturn ∧ t.isReference = true ∧ w.isRef = true))
    (hc : cs ≤ D.rm.cells) (hs : ss ≤ D.rm.slots) (hQ : ∀ vm h, Hp g vm h H Lt → Q (some w) vm h) : Fn g D M Q (T.setTop (mkF M.m pc Ls (w :: rest))) := by
  obtain ⟨⟨W, hx, hcd, hml, hrt, hlk, hnm⟩, vm0, k0, locs, X, hS, hk, hZ, hown, hC, N, E0, hH⟩ := B
  obtain ⟨fs, hl, h1, h2, h3⟩ := X.leaveW hS hk (v := some w) (fun q => by rw [hrt, hr] at q; cases q) hlk
  have hat := CHv.at X hZ W.2.1 hC.1
  exact ⟨T.setFrames fs, some w, locs, retOut X hx (hrt.trans hr) hn hi (hb hcd hd) hl, h1, h2, hQ _ _ (hH.move hat (ext_rfl _)), N, hC.trans hat, E0, endW h3 hc hs⟩
theorem r_reti (B : RH g D M T H Lt cs ss) {z : Int32} {t : FieldType} {rest : List Value} (hd : decode D.cd pc = .ok (.ireturn, 1)) (hr : D.rt = some t) (ht : t = .int ∨ t = .boolean ∨ t = .byte ∨ t = .char ∨ t = .short) (hn : narrow t (.int z) = .int z)
    (hc : cs ≤ D.rm.cells) (hs : ss ≤ D.rm.slots) (hQ : ∀ vm h, Hp g vm h H Lt → Q (some (.int z)) vm h) : Fn g D M Q (T.setTop (mkF M.m pc Ls (.int z :: rest))) :=
  r_retv B hd hr hn (Or.inl ⟨rfl, ht, z, rfl⟩) hc hs hQ
theorem r_reta (B : RH g D M T H Lt cs ss) {w : Value} {t : FieldType} {rest : List Value} (hd : decode D.cd pc = .ok (.areturn, 1)) (hr : D.rt = some t) (ht : t.isReference = true) (hw : w.isRef = true)
    (hc : cs ≤ D.rm.cells) (hs : ss ≤ D.rm.slots) (hQ : ∀ vm h, Hp g vm h H Lt → Q (some w) vm h) : Fn g D M Q (T.setTop (mkF M.m pc Ls (w :: rest))) :=
  r_retv B hd hr (by cases t <;> first | (cases w <;> first | rfl | cases hw) | cases ht) (Or.inr (Or.inr (Or.inr (Or.inr ⟨rfl, ht, hw⟩)))) hc hs hQ
/-! fields -/
theorem r_get (B : RH g D M T H Lt cs ss) {ix : Nat} {R0 O n d host : String} {a : Addr} {v : Value} (hd : decode D.cd pc = .ok (.getfield ix, 3)) (hp : pc + 3 = pc')
    (w : (Jvm.Cond.fieldLink D.y.cls ix R0 n d).before g.a0 g.Z = true ∨ (Jvm.Cond.fieldLinkNest D.y.cls ix R0 n d host).before g.a0 g.Z = true) (via : Via g.Z R0 O n d) (F : Al g H Lt fun h => Fld g.Z h a O n d v)
    (K : ∀ T', RH g D M T' H Lt cs ss → Fn g D M Q (T'.setTop (mkF M.m pc' Ls (v :: S)))) : Fn g D M Q (T.setTop (mkF M.m pc Ls (.ref a :: S))) := by
  subst hp
  obtain ⟨st, vm0, k0, locs, X, hS, hk, hZ, hown, hC, N, E0, hH⟩ := B
  obtain ⟨T', X', e', stp⟩ := getF (Z := g.Z) (a0 := g.a0) X st.2.1 hZ hown w via rfl (F _ _ E0 hH) (g := mkF M.m pc Ls (.ref a :: S)) rfl rfl (hb st.2.2.1 hd)
  exact (K T' ⟨st, vm0, k0, locs, X', hS, by rw [e']; exact hk, hZ, hown, by rw [e']; exact hC, N, by rw [e']; exact E0, by rw [e']; exact hH⟩).go stp
theorem r_gets (B : RH g D M T H Lt cs ss) {ix : Nat} {R0 O n d host : String} {v : Value} (hd : decode D.cd pc = .ok (.getstatic ix, 3)) (hp : pc + 3 = pc')
    (w : (Jvm.Cond.fieldLink D.y.cls ix R0 n d).before g.a0 g.Z = true ∨ (Jvm.Cond.fieldLinkNest D.y.cls ix R0 n d host).before g.a0 g.Z = true) (via : Via g.Z R0 O n d) (F : Sta g.Z g.Z.heap O n d v)
    (K : ∀ T', RH g D M T' H Lt cs ss → Fn g D M Q (T'.setTop (mkF M.m pc' Ls (v :: S)))) : Fn g D M Q (T.setTop (mkF M.m pc Ls S)) := by
  subst hp
  obtain ⟨st, vm0, k0, locs, X, hS, hk, hZ, hown, hC, N, E0, hH⟩ := B
  obtain ⟨T', X', e', stp⟩ := getS2 (Z := g.Z) (a0 := g.a0) X st.2.1 hZ hown w via rfl (F.ext E0) (g := mkF M.m pc Ls S) rfl (hb st.2.2.1 hd)
  exact (K T' ⟨st, vm0, k0, locs, X', hS, by rw [e']; exact hk, hZ, hown, by rw [e']; exact hC, N, by rw [e']; exact E0, by rw [e']; exact hH⟩).go stp
theorem is_put {Z : State} {h h' : Heap} {a0 : Array Value} {a : Addr} {C O n d : String} {fs : List FD} {j : Nat} {old v : Value} (I : Is Z h (a, .inl (C, fs))) (L : Lays Z a0 C fs) (hf : fs[j]? = some (O, n, d, old)) (W : Wr h h' a (Jvm.RoadKit.slotOf Z O n d) v) : Is Z h' (a, .inl (C, fs.set j (O, n, d, v))) ∧ Lays Z a0 C (fs.set j (O, n, d, v)) := by
  obtain ⟨hj, hg⟩ := List.getElem?_eq_some_iff.mp hf
  have hmap : (fs.set j (O, n, d, v)).map (fun f => f.2.1) = fs.map fun f => f.2.1 := by
    rw [List.map_set]
    apply List.ext_getElem?
    intro i
    rw [List.getElem?_set]
    split
    · rename_i e; subst e
      rw [if_pos (by simpa using hj), List.getElem?_map, hf]; rfl
    · rfl
  have hmem : ∀ z ∈ fs.set j (O, n, d, v), z = (O, n, d, v) ∨ (z ∈ fs ∧ z.2.1 ≠ n) := fun z hz => by
    obtain ⟨i, hi⟩ := List.mem_iff_getElem?.mp hz
    rw [List.getElem?_set] at hi
    split at hi
    · exact Or.inl (Option.some.inj hi).symm
    · rename_i hne
      refine Or.inr ⟨List.mem_iff_getElem?.mpr ⟨i, hi⟩, fun e => hne ?_⟩
      obtain ⟨hil, hig⟩ := List.getElem?_eq_some_iff.mp hi
      have e1 : (fs.map fun f => f.2.1)[j]'(by simpa using hj) = (fs.map fun f => f.2.1)[i]'(by simpa using hil) := by
        rw [List.getElem_map, List.getElem_map, hg, hig, e]
      exact (List.getElem_inj L.1).mp e1
  have hx : (O, n, d, old) ∈ fs := List.mem_of_getElem? hf
  refine ⟨⟨I.1.wr W, fun z hz => ?_⟩, by rw [hmap]; exact L.1, fun z hz => ?_⟩
  · rcases hmem z hz with rfl | ⟨hz, hne⟩
    · exact (I.2 _ hx).same W
    · obtain ⟨t1, ht1⟩ := (L.2 _ hx).2
      obtain ⟨t2, ht2⟩ := (L.2 _ hz).2
      exact (I.2 _ hz).other W (Or.inr (slot_ne (L.2 _ hz).1 (L.2 _ hx).1 hne ht2 ht1))
  · rcases hmem z hz with rfl | ⟨hz, -⟩
    · exact (show _ from L.2 (O, n, d, old) hx)
    · exact L.2 _ hz
theorem r_put (B : RH g D M T H Lt cs ss) {ix kk i j : Nat} {R0 O n d host C : String} {a : Addr} {v old : Value} {fs : List FD} {ty : FieldType} (hd : decode D.cd pc = .ok (.putfield ix, 3)) (hp : pc + 3 = pc')
    (w : (Jvm.Cond.fieldLink D.y.cls ix R0 n d).before g.a0 g.Z = true ∨ (Jvm.Cond.fieldLinkNest D.y.cls ix R0 n d host).before g.a0 g.Z = true) (via : Via g.Z R0 O n d)
    (hi : H[i]? = some (a, .inl (C, fs))) (hf : fs[j]? = some (O, n, d, old)) (L : (Jvm.Cond.lays C O n d).before g.a0 g.Z = true ∨ ((Jvm.Cond.laysFinal C O n d).before g.a0 g.Z = true ∧ D.y.cls = O ∧ D.y.name = "<init>")) (wi : (Jvm.Cond.instantiable C kk).before g.a0 g.Z = true)
    (hty : parseFieldDescriptor d = some ty) (hn : narrow ty v = v) (hft : fits ty v = true) (e : H.set i (a, .inl (C, fs.set j (O, n, d, v))) = H')
    (K : ∀ T', RH g D M T' H' Lt cs ss → Fn g D M Q (T'.setTop (mkF M.m pc' Ls S))) : Fn g D M Q (T.setTop (mkF M.m pc Ls (v :: .ref a :: S))) := by
  subst hp
  obtain ⟨st, vm0, k0, locs, X, hS, hk, hZ, hown, hC, N, E0, hH⟩ := B
  have I := hH.1 _ (List.mem_of_getElem? hi)
  obtain ⟨T', h', X', e', W, stp⟩ := putF (Z := g.Z) (a0 := g.a0) X st.2.1 hZ hown w via rfl (I.1.2 _ (List.mem_of_getElem? hf)) I.1.1 (L.imp id fun q => ⟨q.1, q.2.1, st.2.2.2.2.2.2.trans q.2.2⟩) wi hty hn hft (g := mkF M.m pc Ls (v :: .ref a :: S)) rfl rfl (hb st.2.2.1 hd)
  have C1 := CHr.wr W I.2.2.2 hC.1
  have hsz := W.size
  obtain ⟨q1, q2⟩ := is_put I.1 I.2.1 hf W
  have P' := hH.upd C1 (Keep.of_wr W) hi rfl rfl q1 q2
  rw [e] at P'
  refine (K T' ⟨st, vm0, k0, _, X', hS, by rw [e', hsz]; exact hk, hZ, hown, by rw [e']; exact hC.trans C1, Fr.snoc X' N I.2.2.1, ?_, by rw [e']; exact P'⟩).go stp
  rw [e']; exact (Old.wr ⟨rfl, E0⟩ W I.2.2.1).2
/-! new objects and arrays -/
theorem r_new (B : RH g D M T H Lt cs ss) {ix n cs' ss' : Nat} {C : String} {fs : List FD} (hd : decode D.cd pc = .ok (.new ix, 3)) (hp : pc + 3 = pc')
    (w : (Jvm.Cond.classLink D.y.cls ix C).before g.a0 g.Z = true) (wi : (Jvm.Cond.instantiable C n).before g.a0 g.Z = true) (wz : (Jvm.Cond.initialized C).before g.a0 g.Z = true) (hl : Lays g.Z g.a0 C fs)
    (hv : ∀ f ∈ fs, (parseFieldDescriptor f.2.2.1).map defaultValue = some f.2.2.2) (hc : cs + 1 = cs') (hs : ss + n = ss') (hc' : cs' ≤ D.rm.cells) (hs' : ss' ≤ D.rm.slots)
    (K : ∀ T' a, RH g D M T' ((a, .inl (C, fs)) :: H) Lt cs' ss' → Fn g D M Q (T'.setTop (mkF M.m pc' Ls (.ref a :: S)))) : Fn g D M Q (T.setTop (mkF M.m pc Ls S)) := by
  subst hp hc hs
  obtain ⟨st, vm0, k0, locs, X, hS, hk, hZ, hown, hC, N, E0, hH⟩ := B
  obtain ⟨T', h', X', e', E, A1, D1, -, stp⟩ := newO (Z := g.Z) (a0 := g.a0) X st.2.1 hZ hown w wi wz rfl (g := mkF M.m pc Ls S) rfl (hb st.2.2.1 hd) hc' hs'
  have P' := hH.born (x := (T.heap.size, .inl (C, fs))) hC.1 E0 E rfl ⟨A1, fun f hf => by
    obtain ⟨ty, ht⟩ := (hl.2 f hf).2
    have q := hv f hf
    rw [ht] at q
    rw [← Option.some.inj q]
    exact D1 (hl.2 f hf).1 ht⟩ hl
  exact (K T' _ ⟨st, vm0, k0, locs, X', hS, by rw [e']; exact Nat.le_trans hk E.1, hZ, hown, by rw [e']; exact hC.trans (CHr.ext E hC.1), N, by rw [e']; exact ext_trans E0 E, by rw [e']; exact P'⟩).go stp
theorem ary_new {Z : State} {h : Heap} {a : Addr} {k : ClassId} {ty : FieldType} {n : Int32} {nm : String} {nn : Nat} (A : Jvm.RoadKit.Arr Z h a (newA k ty n) ty) (hn : ¬ n < 0) (hnn : n.toNatClampNeg = nn) (hf : fits ty (defaultValue ty) = true) (hO : ∀ C, ty = .object C → Ovr Z k C) (hE : nm ≠ "" → Exa Z h a nm) : Ary Z h a ty nm (List.replicate nn (defaultValue ty)) := by
  refine ⟨_, A, ?_, ?_, ?_, hO, hE⟩
  · subst hnn; simp [newA]
  · have := (back32 hn).2
    rw [List.length_replicate, ← hnn]; exact this
  · intro v hv
    rw [(List.mem_replicate.mp hv).2]; exact hf
theorem r_newp (B : RH g D M T H Lt cs ss) {aty : ArrayType} {n : Int32} {nn cap cs' ss' : Nat} {ty : FieldType} {vs : List Value} {ad : String} (hd : decode D.cd pc = .ok (.newarray aty, 2)) (hp : pc + 2 = pc')
    (w : (Jvm.Cond.arrayClass ty).before g.a0 g.Z = true) (hty : newarray.typeOf aty = ty) (hn : ¬ n < 0) (hnn : n.toNatClampNeg = nn) (hcap : nn ≤ cap) (hb8 : cap * 8 ≤ 536870912) (hc : cs + 1 = cs') (hs : ss + cap = ss') (hc' : cs' ≤ D.rm.cells) (hs' : ss' ≤ D.rm.slots)
    (had : "[" ++ ty.toString = ad) (hfd : fits ty (defaultValue ty) = true) (hob : ∀ C, ty ≠ .object C) (hvs : List.replicate nn (defaultValue ty) = vs)
    (K : ∀ T' a, RH g D M T' ((a, .inr (ty, ad, vs)) :: H) Lt cs' ss' → Fn g D M Q (T'.setTop (mkF M.m pc' Ls (.ref a :: S)))) : Fn g D M Q (T.setTop (mkF M.m pc Ls (.int n :: S))) := by
  subst hp hty hc hs
  obtain ⟨st, vm0, k0, locs, X, hS, hk, hZ, hown, hC, N, E0, hH⟩ := B
  obtain ⟨T', h', cA, X', e', E, A1, A2, stp⟩ := newPE (Z := g.Z) (a0 := g.a0) X st.2.1 hZ w rfl (g := mkF M.m pc Ls (.int n :: S)) rfl (hb st.2.2.1 hd) rfl hn (cap := cap) (by rw [hnn]; exact hcap) hb8 hc' hs' had
  have P' := hH.born (x := (T.heap.size, .inr (newarray.typeOf aty, ad, vs))) hC.1 E0 E rfl (hvs ▸ ary_new A1 hn hnn hfd (fun C q => absurd q (hob C)) (fun _ => A2)) trivial
  exact (K T' _ ⟨st, vm0, k0, locs, X', hS, by rw [e']; exact Nat.le_trans hk E.1, hZ, hown, by rw [e']; exact hC.trans (CHr.ext E hC.1), N, by rw [e']; exact ext_trans E0 E, by rw [e']; exact P'⟩).go stp
theorem r_newr (B : RH g D M T H Lt cs ss) {ix : Nat} {C : String} {n : Int32} {nn cap cs' ss' : Nat} {vs : List Value} {ad : String} (hd : decode D.cd pc = .ok (.anewarray ix, 3)) (hp : pc + 3 = pc')
    (w1 : (Jvm.Cond.classLink D.y.cls ix C).before g.a0 g.Z = true) (w2 : (Jvm.Cond.arrayOver (.object C)).before g.a0 g.Z = true) (hn : ¬ n < 0) (hnn : n.toNatClampNeg = nn) (hcap : nn ≤ cap) (hb8 : cap * 8 ≤ 536870912) (hc : cs + 1 = cs') (hs : ss + cap = ss') (hc' : cs' ≤ D.rm.cells) (hs' : ss' ≤ D.rm.slots)
    (had : "[" ++ (FieldType.object C).toString = ad) (hvs : List.replicate nn Value.null = vs)
    (K : ∀ T' a, RH g D M T' ((a, .inr (.object C, ad, vs)) :: H) Lt cs' ss' → Fn g D M Q (T'.setTop (mkF M.m pc' Ls (.ref a :: S)))) : Fn g D M Q (T.setTop (mkF M.m pc Ls (.int n :: S))) := by
  subst hp hc hs
  obtain ⟨st, vm0, k0, locs, X, hS, hk, hZ, hown, hC, N, E0, hH⟩ := B
  obtain ⟨T', h', cA, X', e', E, A1, A2, A3, stp⟩ := newRE (Z := g.Z) (a0 := g.a0) X st.2.1 hZ hown w1 w2 rfl (g := mkF M.m pc Ls (.int n :: S)) rfl (hb st.2.2.1 hd) rfl hn (cap := cap) (by rw [hnn]; exact hcap) hb8 hc' hs' had
  have P' := hH.born (x := (T.heap.size, .inr (.object C, ad, vs))) hC.1 E0 E rfl (hvs ▸ ary_new A1 hn hnn rfl (fun C' q => by cases q; exact A3) (fun _ => A2)) trivial
  exact (K T' _ ⟨st, vm0, k0, locs, X', hS, by rw [e']; exact Nat.le_trans hk E.1, hZ, hown, by rw [e']; exact hC.trans (CHr.ext E hC.1), N, by rw [e']; exact ext_trans E0 E, by rw [e']; exact P'⟩).go stp
/-! arrays read and written -/
theorem xarr {Z : State} {h : Heap} {U : State} {a : Addr} {ty : FieldType} {nm : String} {vs : List Value} (hZ : Z.vm.Alike U.vm) (eU : U.heap = h) (A : Ary Z h a ty nm vs) : ∃ c : Cell, Jvm.Free.XT.Arr ty a c U ∧ c.slots.size = vs.length ∧ ∀ i : Nat, c.slots[i]? = vs[i]? := by
  obtain ⟨c, r1, r2, r3, -⟩ := A
  refine ⟨c, ⟨by rw [eU]; exact r1.1, State.isArrayOf_alike hZ r1.2.1, r1.2.2, by rw [r2]; simpa using r3⟩, by rw [r2]; simp, fun i => by rw [r2]; simp⟩
theorem r_alen (B : RH g D M T H Lt cs ss) {a : Addr} {ty : FieldType} {nm : String} {vs : List Value} {z : Int32} (hd : decode D.cd pc = .ok (.arraylength, 1)) (hp : pc + 1 = pc') (F : Al g H Lt fun h => Ary g.Z h a ty nm vs) (hz : Int32.ofNat vs.length = z)
    (K : Fn g D M Q (T.setTop (mkF M.m pc' Ls (.int z :: S)))) : Fn g D M Q (T.setTop (mkF M.m pc Ls (.ref a :: S))) := by
  subst hp; subst hz
  obtain ⟨st, vm0, k0, locs, X, hS, hk, hZ, hown, hC, N, E0, hH⟩ := B
  obtain ⟨c, r1, r2, r3⟩ := xarr (U := T) (hZ.alike.trans X.warmed.alike) rfl (F _ _ E0 hH)
  rw [← r2] at K
  exact K.go fun t => X.alen (g := mkF M.m pc Ls (.ref a :: S)) st.2.1 r1 rfl rfl (hb st.2.2.1 hd)
theorem r_aget (B : RH g D M T H Lt cs ss) {a : Addr} {ty : FieldType} {nm : String} {vs : List Value} {j : Int32} {k : Nat} {v : Value} {i : Instr} (hd : decode D.cd pc = .ok (i, 1)) (hi : i = Jvm.Free.XT.loadOf ty) (hp : pc + 1 = pc') (F : Al g H Lt fun h => Ary g.Z h a ty nm vs) (hj : j = Int32.ofNat k) (hv : vs[k]? = some v)
    (K : Fn g D M Q (T.setTop (mkF M.m pc' Ls (v :: S)))) : Fn g D M Q (T.setTop (mkF M.m pc Ls (.int j :: .ref a :: S))) := by
  subst hp; subst hi
  obtain ⟨st, vm0, k0, locs, X, hS, hk, hZ, hown, hC, N, E0, hH⟩ := B
  obtain ⟨c, r1, r2, r3⟩ := xarr (U := T) (hZ.alike.trans X.warmed.alike) rfl (F _ _ E0 hH)
  exact K.go fun t => X.aget (g := mkF M.m pc Ls (.int j :: .ref a :: S)) st.2.1 r1 hj ((r3 k).trans hv) rfl rfl (hb st.2.2.1 hd)
theorem ary_set {Z : State} {h h' : Heap} {a : Addr} {ty : FieldType} {nm : String} {vs : List Value} {k : Nat} {v : Value} (A : Ary Z h a ty nm vs) (W : Wr h h' a k v) (hf : fits ty v = true) : Ary Z h' a ty nm (vs.set k v) := by
  obtain ⟨c, r1, r2, r3, r4, r5, r6⟩ := A
  refine ⟨_, r1.same W, ?_, by rw [List.length_set]; exact r3, fun w hw => ?_, r5, fun q => (r6 q).wr W⟩
  · simp [Cell.setSlot, r2]
  · rcases List.mem_or_eq_of_mem_set hw with q | rfl
    · exact r4 w q
    · exact hf
theorem r_aputW (B : RH g D M T H Lt cs ss) {i : Nat} {a : Addr} {ty : FieldType} {nm : String} {vs : List Value} {k : Nat} {v : Value} (hi : H[i]? = some (a, .inr (ty, nm, vs))) (hf : fits ty v = true) (e : H.set i (a, .inr (ty, nm, vs.set k v)) = H')
    {U : State} {f : JFrame} (P : ∀ (vm0 : Vm) (locs : List Loc), Stand M.p g.l M.e D.rm (M.s.setVm vm0) M.m M.args M.below M.meth M.c T locs cs ss → g.Z.Warmed39 vm0 → ∀ c, Jvm.RoadKit.Arr g.Z T.heap a c ty → c.slots.size = vs.length → ∃ T' h', Stand M.p g.l M.e D.rm (M.s.setVm vm0) M.m M.args M.below M.meth M.c T' (locs ++ [⟨a, k⟩]) cs ss ∧ T'.heap = h' ∧ Wr T.heap h' a k v ∧ ∀ t, Steps M.p.tables M.e M.below (T'.setTop f) t → Steps M.p.tables M.e M.below U t)
    (K : ∀ T', RH g D M T' H' Lt cs ss → Fn g D M Q (T'.setTop f)) : Fn g D M Q U := by
  obtain ⟨st, vm0, k0, locs, X, hS, hk, hZ, hown, hC, N, E0, hH⟩ := B
  have I := hH.1 _ (List.mem_of_getElem? hi)
  have I1 : Ary g.Z T.heap a ty nm vs := I.1
  have I2 := I1
  obtain ⟨c, r1, r2', -⟩ := I2
  have r2 : c.slots.size = vs.length := by rw [r2']; simp
  obtain ⟨T', h', X', e', W, stp⟩ := P vm0 locs X hZ c r1 r2
  have C1 := CHr.wr W I.2.2.2 hC.1
  have hsz := W.size
  have P' := hH.upd C1 (Keep.of_wr W) hi rfl rfl (show Is g.Z h' (a, .inr (ty, nm, vs.set k v)) from ary_set I1 W hf) trivial
  rw [e] at P'
  refine (K T' ⟨st, vm0, k0, _, X', hS, by rw [e', hsz]; exact hk, hZ, hown, by rw [e']; exact hC.trans C1, Fr.snoc X' N I.2.2.1, ?_, by rw [e']; exact P'⟩).go stp
  rw [e']; exact (Old.wr ⟨rfl, E0⟩ W I.2.2.1).2
theorem inb {j : Int32} {k n : Nat} (hj : ¬ j < 0) (hk : j.toNatClampNeg = k) (hl : k < n) : ¬ (j < 0 ∨ n ≤ j.toNatClampNeg) := fun q => q.elim hj fun r => by rw [hk] at r; omega
theorem r_castore (B : RH g D M T H Lt cs ss) {i : Nat} {a : Addr} {nm : String} {vs : List Value} {j x x' : Int32} {k : Nat} (hd : decode D.cd pc = .ok (.castore, 1)) (hp : pc + 1 = pc') (hi : H[i]? = some (a, .inr (.char, nm, vs))) (hj : ¬ j < 0) (hk : j.toNatClampNeg = k) (hl : k < vs.length) (hx : nar .char x = x')
    (e : H.set i (a, .inr (.char, nm, vs.set k (.int x'))) = H') (K : ∀ T', RH g D M T' H' Lt cs ss → Fn g D M Q (T'.setTop (mkF M.m pc' Ls S))) : Fn g D M Q (T.setTop (mkF M.m pc Ls (.int x :: .int j :: .ref a :: S))) := by
  subst hp; subst hx; subst hk
  exact r_aputW B hi (fits_nar_char x) e (fun vm0 locs X hZ c r1 r2 => stC X B.hx hZ rfl r1 (by rw [r2]; exact inb hj rfl hl) (g := mkF M.m pc Ls (.int x :: .int j :: .ref a :: S)) rfl rfl (hb B.cd hd)) K
theorem r_bastore (B : RH g D M T H Lt cs ss) {i : Nat} {a : Addr} {nm : String} {vs : List Value} {j x x' : Int32} {k : Nat} (hd : decode D.cd pc = .ok (.bastore, 1)) (hp : pc + 1 = pc') (hi : H[i]? = some (a, .inr (.byte, nm, vs))) (hj : ¬ j < 0) (hk : j.toNatClampNeg = k) (hl : k < vs.length) (hx : nar .byte x = x')
    (e : H.set i (a, .inr (.byte, nm, vs.set k (.int x'))) = H') (K : ∀ T', RH g D M T' H' Lt cs ss → Fn g D M Q (T'.setTop (mkF M.m pc' Ls S))) : Fn g D M Q (T.setTop (mkF M.m pc Ls (.int x :: .int j :: .ref a :: S))) := by
  subst hp; subst hx; subst hk
  exact r_aputW B hi (fits_nar_byte x) e (fun vm0 locs X hZ c r1 r2 => stB X B.hx hZ rfl r1 (by rw [r2]; exact inb hj rfl hl) (g := mkF M.m pc Ls (.int x :: .int j :: .ref a :: S)) rfl rfl (hb B.cd hd)) K
theorem r_iastore (B : RH g D M T H Lt cs ss) {i : Nat} {a : Addr} {nm : String} {vs : List Value} {j x : Int32} {k : Nat} (hd : decode D.cd pc = .ok (.iastore, 1)) (hp : pc + 1 = pc') (hi : H[i]? = some (a, .inr (.int, nm, vs))) (hj : ¬ j < 0) (hk : j.toNatClampNeg = k) (hl : k < vs.length)
    (e : H.set i (a, .inr (.int, nm, vs.set k (.int x))) = H') (K : ∀ T', RH g D M T' H' Lt cs ss → Fn g D M Q (T'.setTop (mkF M.m pc' Ls S))) : Fn g D M Q (T.setTop (mkF M.m pc Ls (.int x :: .int j :: .ref a :: S))) := by
  subst hp; subst hk
  exact r_aputW B hi rfl e (fun vm0 locs X hZ c r1 r2 => stI X B.hx hZ rfl r1 (by rw [r2]; exact inb hj rfl hl) (g := mkF M.m pc Ls (.int x :: .int j :: .ref a :: S)) rfl rfl (hb B.cd hd)) K
/-- aastore: null, or an object that is one of the array's kind -/
theorem r_aastore (B : RH g D M T H Lt cs ss) {i : Nat} {a : Addr} {nm C : String} {vs : List Value} {j : Int32} {v : Value} {k : Nat} (hd : decode D.cd pc = .ok (.aastore, 1)) (hp : pc + 1 = pc') (hi : H[i]? = some (a, .inr (.object C, nm, vs))) (hj : ¬ j < 0) (hk : j.toNatClampNeg = k) (hl : k < vs.length)
    (hv : v = .null ∨ ∃ y, v = .ref y ∧ Al g H Lt fun h => Ins g.Z h y C true)
    (e : H.set i (a, .inr (.object C, nm, vs.set k v)) = H') (K : ∀ T', RH g D M T' H' Lt cs ss → Fn g D M Q (T'.setTop (mkF M.m pc' Ls S))) : Fn g D M Q (T.setTop (mkF M.m pc Ls (v :: .int j :: .ref a :: S))) := by
  subst hp; subst hk
  have hf : fits (.object C) v = true := by rcases hv with rfl | ⟨y, rfl, -⟩ <;> rfl
  refine r_aputW B hi hf e (fun vm0 locs X hZ c r1 r2 => ?_) K
  obtain ⟨st, vm1, k0, locs1, X1, hS, hk, hZ1, hown, hC, N, E0, hH⟩ := B
  have I1 : Ary g.Z T.heap a (.object C) nm vs := (hH.1 _ (List.mem_of_getElem? hi)).1
  obtain ⟨c2, q1, -, -, -, q5, -⟩ := I1
  have hcc : c2 = c := Option.some.inj (q1.1.symm.trans r1.1)
  subst hcc
  have hsto : Sto g.Z T.heap a v := by
    rcases hv with rfl | ⟨y, rfl, I⟩
    · exact Or.inl rfl
    · exact Sto.of r1 (q5 C rfl) (I _ _ E0 hH)
  exact stR X st.2.1 hZ rfl r1 (by rw [r2]; exact inb hj rfl hl) rfl hsto (g := mkF M.m pc Ls (v :: .int j :: .ref a :: S)) rfl rfl (hb st.2.2.1 hd)
/-! OWN WALKING KIT, part 3: plain steps (printed by mkpure.py). -/
theorem p_iload (B : Rn g D M T A cs ss) {k : Nat} {v : Int32} (hd : decode D.cd pc = .ok (.iload k, 2)) (hp : pc + 2 = pc') (hl : Ls[k]? = some (.val (.int v))) (K : Fn g D M Q (T.setTop (mkF M.m pc' Ls (.int v :: S)))) : Fn g D M Q (T.setTop (mkF M.m pc Ls (S))) := by
  subst hp
  exact K.go fun t => XS.iload (g := mkF M.m pc Ls (S)) B.here B.hx rfl (hb B.cd hd) hl
theorem p_iloadN (B : Rn g D M T A cs ss) {k : Fin 4} {v : Int32} (hd : decode D.cd pc = .ok (.iload_n k, 1)) (hp : pc + 1 = pc') (hl : Ls[k.val]? = some (.val (.int v))) (K : Fn g D M Q (T.setTop (mkF M.m pc' Ls (.int v :: S)))) : Fn g D M Q (T.setTop (mkF M.m pc Ls (S))) := by
  subst hp
  exact K.go fun t => XS.iloadN (g := mkF M.m pc Ls (S)) B.here B.hx rfl (hb B.cd hd) hl
theorem p_aload (B : Rn g D M T A cs ss) {k : Nat} {v : Value} (hd : decode D.cd pc = .ok (.aload k, 2)) (hp : pc + 2 = pc') (hl : Ls[k]? = some (.val v)) (hv : v.isRef = true) (K : Fn g D M Q (T.setTop (mkF M.m pc' Ls (v :: S)))) : Fn g D M Q (T.setTop (mkF M.m pc Ls (S))) := by
  subst hp
  exact K.go fun t => XS.aload (g := mkF M.m pc Ls (S)) B.here B.hx rfl (hb B.cd hd) hl hv
theorem p_aloadN (B : Rn g D M T A cs ss) {k : Fin 4} {v : Value} (hd : decode D.cd pc = .ok (.aload_n k, 1)) (hp : pc + 1 = pc') (hl : Ls[k.val]? = some (.val v)) (hv : v.isRef = true) (K : Fn g D M Q (T.setTop (mkF M.m pc' Ls (v :: S)))) : Fn g D M Q (T.setTop (mkF M.m pc Ls (S))) := by
  subst hp
  exact K.go fun t => XS.aloadN (g := mkF M.m pc Ls (S)) B.here B.hx rfl (hb B.cd hd) hl hv
theorem p_istore (B : Rn g D M T A cs ss) {k : Nat} {v : Int32} (hd : decode D.cd pc = .ok (.istore k, 2)) (hp : pc + 2 = pc') (hl : storeLocals Ls k (.int v) = some Ls') (K : Fn g D M Q (T.setTop (mkF M.m pc' Ls' (S)))) : Fn g D M Q (T.setTop (mkF M.m pc Ls (.int v :: S))) := by
  subst hp
  exact K.go fun t => XS.istore (g := mkF M.m pc Ls (.int v :: S)) B.here B.hx rfl (hb B.cd hd) rfl hl
theorem p_istoreN (B : Rn g D M T A cs ss) {k : Fin 4} {v : Int32} (hd : decode D.cd pc = .ok (.istore_n k, 1)) (hp : pc + 1 = pc') (hl : storeLocals Ls k.val (.int v) = some Ls') (K : Fn g D M Q (T.setTop (mkF M.m pc' Ls' (S)))) : Fn g D M Q (T.setTop (mkF M.m pc Ls (.int v :: S))) := by
  subst hp
  exact K.go fun t => XS.istoreN (g := mkF M.m pc Ls (.int v :: S)) B.here B.hx rfl (hb B.cd hd) rfl hl
theorem p_astore (B : Rn g D M T A cs ss) {k : Nat} {v : Value} (hd : decode D.cd pc = .ok (.astore k, 2)) (hp : pc + 2 = pc') (hv : v.isRef = true) (hl : storeLocals Ls k v = some Ls') (K : Fn g D M Q (T.setTop (mkF M.m pc' Ls' (S)))) : Fn g D M Q (T.setTop (mkF M.m pc Ls (v :: S))) := by
  subst hp
  exact K.go fun t => XS.astore (g := mkF M.m pc Ls (v :: S)) B.here B.hx rfl (hb B.cd hd) rfl hv hl
theorem p_astoreN (B : Rn g D M T A cs ss) {k : Fin 4} {v : Value} (hd : decode D.cd pc = .ok (.astore_n k, 1)) (hp : pc + 1 = pc') (hv : v.isRef = true) (hl : storeLocals Ls k.val v = some Ls') (K : Fn g D M Q (T.setTop (mkF M.m pc' Ls' (S)))) : Fn g D M Q (T.setTop (mkF M.m pc Ls (v :: S))) := by
  subst hp
  exact K.go fun t => XS.astoreN (g := mkF M.m pc Ls (v :: S)) B.here B.hx rfl (hb B.cd hd) rfl hv hl
theorem p_iconst (B : Rn g D M T A cs ss) {i : Int} {v : Int32} (hd : decode D.cd pc = .ok (.iconst i, 1)) (hp : pc + 1 = pc') (hv : Int32.ofInt i = v) (K : Fn g D M Q (T.setTop (mkF M.m pc' Ls (.int v :: S)))) : Fn g D M Q (T.setTop (mkF M.m pc Ls (S))) := by
  subst hp
  exact K.go fun t => Jvm.Free.XT.iconstV (g := mkF M.m pc Ls (S)) B.here B.hx rfl v (hb B.cd hd) hv
theorem p_bipush (B : Rn g D M T A cs ss) {i : Int} {v : Int32} (hd : decode D.cd pc = .ok (.bipush i, 2)) (hp : pc + 2 = pc') (hv : (Int8.ofInt i).toInt32 = v) (K : Fn g D M Q (T.setTop (mkF M.m pc' Ls (.int v :: S)))) : Fn g D M Q (T.setTop (mkF M.m pc Ls (S))) := by
  subst hp
  exact K.go fun t => Jvm.Free.XT.bipushV (g := mkF M.m pc Ls (S)) B.here B.hx rfl v (hb B.cd hd) hv
theorem p_sipush (B : Rn g D M T A cs ss) {i : Int} {v : Int32} (hd : decode D.cd pc = .ok (.sipush i, 3)) (hp : pc + 3 = pc') (hv : (Int16.ofInt i).toInt32 = v) (K : Fn g D M Q (T.setTop (mkF M.m pc' Ls (.int v :: S)))) : Fn g D M Q (T.setTop (mkF M.m pc Ls (S))) := by
  subst hp
  exact K.go fun t => Jvm.Free.XT.sipushV (g := mkF M.m pc Ls (S)) B.here B.hx rfl v (hb B.cd hd) hv
theorem p_null (B : Rn g D M T A cs ss) (hd : decode D.cd pc = .ok (.aconst_null, 1)) (hp : pc + 1 = pc') (K : Fn g D M Q (T.setTop (mkF M.m pc' Ls (.null :: S)))) : Fn g D M Q (T.setTop (mkF M.m pc Ls (S))) := by
  subst hp
  exact K.go fun t => XS.aconstNull (g := mkF M.m pc Ls (S)) B.here B.hx rfl (hb B.cd hd)
theorem p_iadd (B : Rn g D M T A cs ss) {x y z : Int32} (hd : decode D.cd pc = .ok (.iadd, 1)) (hp : pc + 1 = pc') (hz : x + y = z) (K : Fn g D M Q (T.setTop (mkF M.m pc' Ls (.int z :: S)))) : Fn g D M Q (T.setTop (mkF M.m pc Ls (.int y :: .int x :: S))) := by
  subst hp; subst hz
  exact K.go fun t => XS.iadd (g := mkF M.m pc Ls (.int y :: .int x :: S)) B.here B.hx rfl (hb B.cd hd) rfl
theorem p_isub (B : Rn g D M T A cs ss) {x y z : Int32} (hd : decode D.cd pc = .ok (.isub, 1)) (hp : pc + 1 = pc') (hz : x - y = z) (K : Fn g D M Q (T.setTop (mkF M.m pc' Ls (.int z :: S)))) : Fn g D M Q (T.setTop (mkF M.m pc Ls (.int y :: .int x :: S))) := by
  subst hp; subst hz
  exact K.go fun t => XS.isub (g := mkF M.m pc Ls (.int y :: .int x :: S)) B.here B.hx rfl (hb B.cd hd) rfl
theorem p_iand (B : Rn g D M T A cs ss) {x y z : Int32} (hd : decode D.cd pc = .ok (.iand, 1)) (hp : pc + 1 = pc') (hz : x &&& y = z) (K : Fn g D M Q (T.setTop (mkF M.m pc' Ls (.int z :: S)))) : Fn g D M Q (T.setTop (mkF M.m pc Ls (.int y :: .int x :: S))) := by
  subst hp; subst hz
  exact K.go fun t => XS.iand (g := mkF M.m pc Ls (.int y :: .int x :: S)) B.here B.hx rfl (hb B.cd hd) rfl
theorem p_ior (B : Rn g D M T A cs ss) {x y z : Int32} (hd : decode D.cd pc = .ok (.ior, 1)) (hp : pc + 1 = pc') (hz : x ||| y = z) (K : Fn g D M Q (T.setTop (mkF M.m pc' Ls (.int z :: S)))) : Fn g D M Q (T.setTop (mkF M.m pc Ls (.int y :: .int x :: S))) := by
  subst hp; subst hz
  exact K.go fun t => XS.ior (g := mkF M.m pc Ls (.int y :: .int x :: S)) B.here B.hx rfl (hb B.cd hd) rfl
theorem p_ishl (B : Rn g D M T A cs ss) {x y z : Int32} (hd : decode D.cd pc = .ok (.ishl, 1)) (hp : pc + 1 = pc') (hz : x <<< (y &&& 31) = z) (K : Fn g D M Q (T.setTop (mkF M.m pc' Ls (.int z :: S)))) : Fn g D M Q (T.setTop (mkF M.m pc Ls (.int y :: .int x :: S))) := by
  subst hp; subst hz
  exact K.go fun t => XS.ishl (g := mkF M.m pc Ls (.int y :: .int x :: S)) B.here B.hx rfl (hb B.cd hd) rfl
theorem p_ishr (B : Rn g D M T A cs ss) {x y z : Int32} (hd : decode D.cd pc = .ok (.ishr, 1)) (hp : pc + 1 = pc') (hz : x >>> (y &&& 31) = z) (K : Fn g D M Q (T.setTop (mkF M.m pc' Ls (.int z :: S)))) : Fn g D M Q (T.setTop (mkF M.m pc Ls (.int y :: .int x :: S))) := by
  subst hp; subst hz
  exact K.go fun t => XS.ishr (g := mkF M.m pc Ls (.int y :: .int x :: S)) B.here B.hx rfl (hb B.cd hd) rfl
theorem p_iushr (B : Rn g D M T A cs ss) {x y z : Int32} (hd : decode D.cd pc = .ok (.iushr, 1)) (hp : pc + 1 = pc') (hz : (x.toUInt32 >>> (y &&& 31).toUInt32).toInt32 = z) (K : Fn g D M Q (T.setTop (mkF M.m pc' Ls (.int z :: S)))) : Fn g D M Q (T.setTop (mkF M.m pc Ls (.int y :: .int x :: S))) := by
  subst hp; subst hz
  exact K.go fun t => XS.iushr (g := mkF M.m pc Ls (.int y :: .int x :: S)) B.here B.hx rfl (hb B.cd hd) rfl
theorem p_irem (B : Rn g D M T A cs ss) {x y z : Int32} (hd : decode D.cd pc = .ok (.irem, 1)) (hp : pc + 1 = pc') (hy : y ≠ 0) (hz : x % y = z) (K : Fn g D M Q (T.setTop (mkF M.m pc' Ls (.int z :: S)))) : Fn g D M Q (T.setTop (mkF M.m pc Ls (.int y :: .int x :: S))) := by
  subst hp; subst hz; rw [← Jvm.irem_eq_mod] at K
  exact K.go fun t => XS.irem (g := mkF M.m pc Ls (.int y :: .int x :: S)) B.here B.hx rfl (hb B.cd hd) rfl hy
theorem p_i2b (B : Rn g D M T A cs ss) {x : Int32} (hd : decode D.cd pc = .ok (.i2b, 1)) (hp : pc + 1 = pc') (K : Fn g D M Q (T.setTop (mkF M.m pc' Ls (.int x.toInt8.toInt32 :: S)))) : Fn g D M Q (T.setTop (mkF M.m pc Ls (.int x :: S))) := by
  subst hp
  exact K.go fun t => XS.i2b (g := mkF M.m pc Ls (.int x :: S)) B.here B.hx rfl (hb B.cd hd) rfl
theorem p_i2c (B : Rn g D M T A cs ss) {x : Int32} (hd : decode D.cd pc = .ok (.i2c, 1)) (hp : pc + 1 = pc') (K : Fn g D M Q (T.setTop (mkF M.m pc' Ls (.int x.toUInt32.toUInt16.toUInt32.toInt32 :: S)))) : Fn g D M Q (T.setTop (mkF M.m pc Ls (.int x :: S))) := by
  subst hp
  exact K.go fun t => XS.i2c (g := mkF M.m pc Ls (.int x :: S)) B.here B.hx rfl (hb B.cd hd) rfl
theorem p_dup (B : Rn g D M T A cs ss) {x : Value} (hd : decode D.cd pc = .ok (.dup, 1)) (hp : pc + 1 = pc') (hc : x.category = 1) (K : Fn g D M Q (T.setTop (mkF M.m pc' Ls (x :: x :: S)))) : Fn g D M Q (T.setTop (mkF M.m pc Ls (x :: S))) := by
  subst hp
  exact K.go fun t => XS.dup (g := mkF M.m pc Ls (x :: S)) B.here B.hx rfl (hb B.cd hd) rfl hc
theorem p_pop (B : Rn g D M T A cs ss) {x : Value} (hd : decode D.cd pc = .ok (.pop, 1)) (hp : pc + 1 = pc') (hc : x.category = 1) (K : Fn g D M Q (T.setTop (mkF M.m pc' Ls (S)))) : Fn g D M Q (T.setTop (mkF M.m pc Ls (x :: S))) := by
  subst hp
  exact K.go fun t => XS.pop (g := mkF M.m pc Ls (x :: S)) B.here B.hx rfl (hb B.cd hd) rfl hc
theorem p_dupx1 (B : Rn g D M T A cs ss) {x y : Value} (hd : decode D.cd pc = .ok (.dup_x1, 1)) (hp : pc + 1 = pc') (hc : x.category = 1) (hc' : y.category = 1) (K : Fn g D M Q (T.setTop (mkF M.m pc' Ls (x :: y :: x :: S)))) : Fn g D M Q (T.setTop (mkF M.m pc Ls (x :: y :: S))) := by
  subst hp
  exact K.go fun t => XS.dupX1 (g := mkF M.m pc Ls (x :: y :: S)) B.here B.hx rfl (hb B.cd hd) rfl hc hc'
theorem p_iinc (B : Rn g D M T A cs ss) {k : Nat} {cst : Int} {x v z : Int32} (hd : decode D.cd pc = .ok (.iinc k cst, 3)) (hp : pc + 3 = pc') (hv : Int32.ofInt cst = v) (hl : Ls[k]? = some (.val (.int x))) (hz : x + v = z) (hl' : storeLocals Ls k (.int z) = some Ls') (K : Fn g D M Q (T.setTop (mkF M.m pc' Ls' (S)))) : Fn g D M Q (T.setTop (mkF M.m pc Ls (S))) := by
  subst hp; subst hz
  exact K.go fun t => Jvm.Free.XT.iincV (g := mkF M.m pc Ls (S)) B.here B.hx rfl v (hb B.cd hd) hv hl hl'
def hldT : ClassFile.Cond → Int32 → Int32 → Prop
  | .eq, x, y => x = y
  | .ne, x, y => ¬ x = y
  | .lt, x, y => x < y
  | .ge, x, y => ¬ x < y
  | .gt, x, y => y < x
  | .le, x, y => ¬ y < x
def hldF : ClassFile.Cond → Int32 → Int32 → Prop
  | .eq, x, y => ¬ x = y
  | .ne, x, y => x = y
  | .lt, x, y => ¬ x < y
  | .ge, x, y => x < y
  | .gt, x, y => ¬ y < x
  | .le, x, y => y < x
theorem hldT_ii {cd : ClassFile.Cond} {x y : Int32} (h : hldT cd x y) : if_icmp.holds cd x y = true := by
  cases cd
  · exact Jvm.Free.XT.ii_eq_t h
  · exact Jvm.Free.XT.ii_ne_t h
  · exact Jvm.Free.XT.ii_lt_t h
  · exact Jvm.Free.XT.ii_ge_t h
  · exact Jvm.Free.XT.ii_gt_t h
  · exact Jvm.Free.XT.ii_le_t h
theorem hldF_ii {cd : ClassFile.Cond} {x y : Int32} (h : hldF cd x y) : if_icmp.holds cd x y = false := by
  cases cd
  · exact Jvm.Free.XT.ii_eq_f h
  · exact Jvm.Free.XT.ii_ne_f h
  · exact Jvm.Free.XT.ii_lt_f h
  · exact Jvm.Free.XT.ii_ge_f h
  · exact Jvm.Free.XT.ii_gt_f h
  · exact Jvm.Free.XT.ii_le_f h
theorem b_ifT (B : Rn g D M T A cs ss) {cd : ClassFile.Cond} {x : Int32} {o : Int} (hd : decode D.cd pc = .ok (.ifCond cd o, 3)) (h : hldT cd x 0) (ho : 0 ≤ (pc : Int) + o) (hp : ((pc : Int) + o).toNat = pc') (K : Fn g D M Q (T.setTop (mkF M.m pc' Ls S))) : Fn g D M Q (T.setTop (mkF M.m pc Ls (.int x :: S))) :=
  K.go fun t => XS.ifYes (g := mkF M.m pc Ls (.int x :: S)) B.here B.hx rfl (pc0 := pc) (pc' := pc') rfl (hb B.cd hd) rfl ((if0 cd x).trans (hldT_ii h)) ho hp
theorem b_ifF (B : Rn g D M T A cs ss) {cd : ClassFile.Cond} {x : Int32} {o : Int} (hd : decode D.cd pc = .ok (.ifCond cd o, 3)) (hp : pc + 3 = pc') (h : hldF cd x 0) (K : Fn g D M Q (T.setTop (mkF M.m pc' Ls S))) : Fn g D M Q (T.setTop (mkF M.m pc Ls (.int x :: S))) := by
  subst hp
  exact K.go fun t => XS.ifNo (g := mkF M.m pc Ls (.int x :: S)) B.here B.hx rfl (hb B.cd hd) rfl ((if0 cd x).trans (hldF_ii h))
theorem b_icT (B : Rn g D M T A cs ss) {cd : ClassFile.Cond} {x y : Int32} {o : Int} (hd : decode D.cd pc = .ok (.if_icmp cd o, 3)) (h : hldT cd x y) (ho : 0 ≤ (pc : Int) + o) (hp : ((pc : Int) + o).toNat = pc') (K : Fn g D M Q (T.setTop (mkF M.m pc' Ls S))) : Fn g D M Q (T.setTop (mkF M.m pc Ls (.int y :: .int x :: S))) :=
  K.go fun t => XS.icmpYes (g := mkF M.m pc Ls (.int y :: .int x :: S)) B.here B.hx rfl (pc0 := pc) (pc' := pc') rfl (hb B.cd hd) rfl (hldT_ii h) ho hp
theorem b_icF (B : Rn g D M T A cs ss) {cd : ClassFile.Cond} {x y : Int32} {o : Int} (hd : decode D.cd pc = .ok (.if_icmp cd o, 3)) (hp : pc + 3 = pc') (h : hldF cd x y) (K : Fn g D M Q (T.setTop (mkF M.m pc' Ls S))) : Fn g D M Q (T.setTop (mkF M.m pc Ls (.int y :: .int x :: S))) := by
  subst hp
  exact K.go fun t => XS.icmpNo (g := mkF M.m pc Ls (.int y :: .int x :: S)) B.here B.hx rfl (hb B.cd hd) rfl (hldF_ii h)
theorem b_nnT (B : Rn g D M T A cs ss) {b : Addr} {o : Int} (hd : decode D.cd pc = .ok (.ifnonnull o, 3)) (ho : 0 ≤ (pc : Int) + o) (hp : ((pc : Int) + o).toNat = pc') (K : Fn g D M Q (T.setTop (mkF M.m pc' Ls S))) : Fn g D M Q (T.setTop (mkF M.m pc Ls (.ref b :: S))) :=
  K.go fun t => XS.ifnonnullYes (g := mkF M.m pc Ls (.ref b :: S)) B.here B.hx rfl (pc0 := pc) (pc' := pc') rfl (hb B.cd hd) rfl ho hp
theorem b_aeT (B : Rn g D M T A cs ss) {x y : Value} {o : Int} (hd : decode D.cd pc = .ok (.if_acmp .eq o, 3)) (hx : x.isRef = true) (hy : y.isRef = true) (h : x = y) (ho : 0 ≤ (pc : Int) + o) (hp : ((pc : Int) + o).toNat = pc') (K : Fn g D M Q (T.setTop (mkF M.m pc' Ls S))) : Fn g D M Q (T.setTop (mkF M.m pc Ls (y :: x :: S))) :=
  K.go fun t => Jvm.Free.XT.acmpYes (g := mkF M.m pc Ls (y :: x :: S)) B.here B.hx rfl (pc0 := pc) (pc' := pc') rfl (hb B.cd hd) rfl hx hy (Jvm.Free.XT.aa_eq_t h) ho hp
theorem b_aeF (B : Rn g D M T A cs ss) {x y : Value} {o : Int} (hd : decode D.cd pc = .ok (.if_acmp .eq o, 3)) (hp : pc + 3 = pc') (hx : x.isRef = true) (hy : y.isRef = true) (h : ¬ x = y) (K : Fn g D M Q (T.setTop (mkF M.m pc' Ls S))) : Fn g D M Q (T.setTop (mkF M.m pc Ls (y :: x :: S))) := by
  subst hp
  exact K.go fun t => Jvm.Free.XT.acmpNo (g := mkF M.m pc Ls (y :: x :: S)) B.here B.hx rfl (hb B.cd hd) rfl hx hy (Jvm.Free.XT.aa_eq_f h)
theorem b_anF (B : Rn g D M T A cs ss) {x y : Value} {o : Int} (hd : decode D.cd pc = .ok (.if_acmp .ne o, 3)) (hp : pc + 3 = pc') (hx : x.isRef = true) (hy : y.isRef = true) (h : x = y) (K : Fn g D M Q (T.setTop (mkF M.m pc' Ls S))) : Fn g D M Q (T.setTop (mkF M.m pc Ls (y :: x :: S))) := by
  subst hp
  exact K.go fun t => Jvm.Free.XT.acmpNo (g := mkF M.m pc Ls (y :: x :: S)) B.here B.hx rfl (hb B.cd hd) rfl hx hy (Jvm.Free.XT.aa_ne_f h)
theorem b_goto (B : Rn g D M T A cs ss) {o : Int} (hd : decode D.cd pc = .ok (.goto o, 3)) (ho : 0 ≤ (pc : Int) + o) (hp : ((pc : Int) + o).toNat = pc') (K : Fn g D M Q (T.setTop (mkF M.m pc' Ls S))) : Fn g D M Q (T.setTop (mkF M.m pc Ls S)) :=
  K.go fun t => XS.goto (g := mkF M.m pc Ls S) B.here B.hx rfl (pc0 := pc) (pc' := pc') rfl (hb B.cd hd) ho hp
/-! OWN WALKING KIT, part 4: calls, constants, casts. -/
theorem r_initO (B : RH g D M T H Lt cs ss) {ix W : Nat} {a : Addr} (hd : decode D.cd pc = .ok (.invokespecial ix, 3)) (hp : pc + 3 = pc') (w1 : (Jvm.Cond.methodLink D.y.cls ix Lib.objectInit).before g.a0 g.Z = true) (w2 : (Jvm.Cond.instanceMethod Lib.objectInit).before g.a0 g.Z = true)
    (w3 : (Jvm.Cond.code Lib.objectInit ⟨#[0xb1]⟩ 1 none).before g.a0 g.Z = true) (hsz : Ls.size = D.mx) (hf : 1 ≤ D.rm.frames) (hW : (S.map fun v => v.category).sum = W) (hl : W + 12 ≤ D.rm.locals)
    (K : ∀ T', RH g D M T' H Lt cs ss → Fn g D M Q (T'.setTop (mkF M.m pc' Ls S))) : Fn g D M Q (T.setTop (mkF M.m pc Ls (.ref a :: S))) := by
  subst hp
  obtain ⟨st, vm0, k0, locs, X, hS, hk, hZ, hown, hC, N, E0, hH⟩ := B
  obtain ⟨T', X', e', stp⟩ := initO (Z := g.Z) (a0 := g.a0) X st.2.1 hZ hown w1 w2 w3 rfl (g := mkF M.m pc Ls (.ref a :: S)) rfl (hsz.trans st.2.2.2.1.symm) rfl (hb st.2.2.1 hd) hf (W := W) (by show 2 * 0 + _ ≤ _; rw [hW]; omega) hl
  exact (K T' ⟨st, vm0, k0, locs, X', hS, by rw [e']; exact hk, hZ, hown, by rw [e']; exact hC, N, by rw [e']; exact E0, by rw [e']; exact hH⟩).go stp
theorem Ct.back {R : Room} {p : Program} {e : Env} {below : List Frame} {s : State} {args : Array Value} {vm0 : Vm} {h : Heap} {len Wt : Nat} (K : Ct g D' as H Lt Q') (W : GW g) (hZ : g.Z.Warmed39 vm0) (wc : (Jvm.Cond.code D'.y D'.cd D'.mx D'.rt).before g.a0 g.Z = true) (wz : (Jvm.Cond.initialized D'.y.cls).before g.a0 g.Z = true)
    (hf : D'.rm.frames + 1 ≤ R.frames) (hl : Wt + (D'.mx + 11) + D'.rm.locals ≤ R.locals) (HC : CHv g.Z g.EL vm0 h) (E0 : Ext g.Z.heap h) (P : Hp g vm0 h H Lt) :
    BackS g.l R p e below (s.setVm vm0) args D'.y len Wt (fun A a => a = as ∧ A.U.heap = h ∧ A.cells + D'.rm.cells ≤ R.cells ∧ A.slots + D'.rm.slots ≤ R.slots)
      (fun A _ v B => ∃ L, Q' v B.U.vm B.U.heap ∧ Fr g.Z.heap.size L ∧ Ext g.Z.heap B.U.heap ∧ B.locs = A.locs ++ L ∧ B.cells = A.cells + D'.rm.cells ∧ B.slots = A.slots + D'.rm.slots ∧ CHr g.Z g.EL vm0 h B.U.vm B.U.heap) :=
  BackS.of_freeW (bytes := D'.cd) (maxL := D'.mx) (ret := D'.rt) (E := fun _ first o t L k n => k = D'.rm.cells ∧ n = D'.rm.slots ∧ (∃ v, o = .returned v ∧ Q' v t.vm t.heap) ∧ Fr g.Z.heap.size L ∧ Ext g.Z.heap t.heap ∧ CHr g.Z g.EL first.vm first.heap t.vm t.heap) K hf hl
    (fun m meth c A a Y hp => have hU : g.Z.Warmed39 A.U.vm := wtrans (s := s.setVm vm0) hZ Y.warmed
      ⟨by show (Jvm.Cond.and _ .tt).before a A.U = true; rw [Cond.before_and, mv hU wc]; rfl, mv hU wc, mv hU wz, hp.2.2.1, hp.2.2.2⟩)
    (fun m meth c A a g' mk Y hp => by
      have hat := CHv.at Y hZ W.2.1 HC
      have e1 : (A.U.calling g' mk a).heap = h := hp.2.1
      have e2 : (A.U.calling g' mk a).vm = A.U.vm := rfl
      refine ⟨hp.1, wtrans (s := s.setVm vm0) hZ Y.warmed, ?_, ?_, ?_⟩
      · rw [e1, e2]; exact hat.1
      · rw [e1]; exact E0
      · rw [e1, e2]; exact P.move hat (ext_rfl _))
    (fun _ _ _ _ _ _ _ _ _ => trivial)
    (fun _ _ _ _ ⟨v, L, h1, h2, h3, h4, h5, h6⟩ => ⟨L, _, _, h6, rfl, rfl, ⟨v, h1, h2⟩, h3, h5, h4⟩)
    (fun m meth c A a g' mk v t L k n Y hp _ _ ⟨e1, e2, ⟨v', e3, e4⟩, e5, e6, e7⟩ => by
      cases e3; subst e1 e2
      refine ⟨L, e4, e5, e6, rfl, rfl, rfl, (CHv.at Y hZ W.2.1 HC).trans ?_⟩
      rw [← hp.2.1]; exact e7)
theorem Rn.after {vm0 : Vm} {k0 : Nat} {locs : List Loc} {B : Pt} {L : List Loc} {v : Option Value} {rc rs : Nat} (st : GW g ∧ M.p.tables.exec = Jvm.exec ∧ M.c.code = D.cd ∧ M.c.maxLocals = D.mx ∧ M.meth.sig.returnType = D.rt ∧ M.meth.locks = false ∧ M.meth.name = D.y.name)
    (hS : M.s.Since vm0 k0) (hk : k0 ≤ T.heap.size) (hZ : g.Z.Warmed39 vm0) (hown : vm0.findClass D.y.cls = some M.m.cls) (hC : CHr g.Z g.EL M.s.vm M.s.heap vm0 T.heap) (N : Fr g.Z.heap.size locs)
    (X' : Stand M.p g.l M.e D.rm ((M.s.setVm vm0).setVm B.U.vm) M.m M.args M.below M.meth M.c B.U B.locs B.cells B.slots) (hS' : (M.s.setVm vm0).Since B.U.vm B.U.heap.size) (hg' : T.heap.size ≤ B.U.heap.size)
    (hQ : Q' v B.U.vm B.U.heap) (hL : Fr g.Z.heap.size L) (hE : Ext g.Z.heap B.U.heap) (e1 : B.locs = locs ++ L) (e2 : B.cells = cs + rc) (e3 : B.slots = ss + rs) (hC' : CHr g.Z g.EL vm0 T.heap B.U.vm B.U.heap) : Rn g D M B.U (Q' v) (cs + rc) (ss + rs) := by
  obtain ⟨r1, r2, r3, r4⟩ := rebS (Z := g.Z) hS hk X' hS' hg' hZ hown
  rw [e1, e2, e3] at r1
  exact ⟨st, B.U.vm, B.U.heap.size, _, r1, r2, Nat.le_refl _, r3, r4, hC.trans hC', N.app hL, hE, hQ⟩
theorem r_static (B : RH g D M T H Lt cs ss) {ix W cs' ss' : Nat} {argsL rest : List Value} {ps : List FieldType} {r : Option FieldType} (hd : decode D.cd pc = .ok (.invokestatic ix, 3)) (hp : pc + 3 = pc')
    (w1 : (Jvm.Cond.methodLink D.y.cls ix D'.y).before g.a0 g.Z = true) (w2 : (Jvm.Cond.static D'.y).before g.a0 g.Z = true) (w3 : (Jvm.Cond.initialized D'.y.cls).before g.a0 g.Z = true) (w4 : (Jvm.Cond.code D'.y D'.cd D'.mx D'.rt).before g.a0 g.Z = true)
    (hy : D'.y.cls ≠ "java/lang/invoke/MethodHandle" ∧ D'.y.cls ≠ "java/lang/invoke/VarHandle") (C : Ct g D' as H Lt Q') (has : argsL.toArray = as) (pd : parseMethodDescriptor D'.y.desc = some ⟨ps, r⟩) (hlen : argsL.length = ps.length) (hst : S = argsL.reverse ++ rest)
    (hsz : Ls.size = D.mx) (hW : (rest.map fun v => v.category).sum = W) (ok : CallOK D D' W cs ss cs' ss')
    (K : ∀ T' v, Rn g D M T' (Q' v) cs' ss' → Fn g D M Q (T'.setTop (mkF M.m pc' Ls (v.toList ++ rest)))) : Fn g D M Q (T.setTop (mkF M.m pc Ls S)) := by
  obtain ⟨hf, hl, hc, hs, hc', hs'⟩ := ok
  subst hp hc hs
  obtain ⟨st, vm0, k0, locs, X, hS, hk, hZ, hown, hC, N, E0, hH⟩ := B
  obtain ⟨v, vm1, Bp, -, X', hS', hg', ⟨L, hQ, hL, hE, e1, e2, e3, hC'⟩, stp⟩ := callSS X st.2.1 hown (mvT hZ w1) (mvT hZ w2) (mvT hZ w3) (mvT hZ w4) hy (Ct.back (p := M.p) (e := M.e) (below := M.below) (s := M.s) (args := M.args) (len := 3) (Wt := W) C st.1 hZ w4 w3 hf hl hC.1 E0 hH) (g := mkF M.m pc Ls S) rfl (hsz.trans st.2.2.2.1.symm) (argsL := argsL) (rest := rest) (lenOf pd hlen) hst (by show 2 * 0 + _ ≤ _; rw [hW]; omega) (hb st.2.2.1 hd) (fun _ _ => ⟨has, rfl, hc', hs'⟩)
  exact (K Bp.U v (Rn.after st hS hk hZ hown hC N X' hS' hg' hQ hL hE e1 e2 e3 hC')).go fun t => stp.trans
theorem r_special (B : RH g D M T H Lt cs ss) {ix W cs' ss' : Nat} {a : Addr} {argsL rest : List Value} {ps : List FieldType} {r : Option FieldType} (hd : decode D.cd pc = .ok (.invokespecial ix, 3)) (hp : pc + 3 = pc') (hy1 : D'.y.name = "<init>") (hrt : D'.rt = none)
    (w1 : (Jvm.Cond.methodLink D.y.cls ix D'.y).before g.a0 g.Z = true) (w2 : (Jvm.Cond.instanceMethod D'.y).before g.a0 g.Z = true) (w3 : (Jvm.Cond.initialized D'.y.cls).before g.a0 g.Z = true) (w4 : (Jvm.Cond.code D'.y D'.cd D'.mx D'.rt).before g.a0 g.Z = true)
    (hy : D'.y.cls ≠ "java/lang/invoke/MethodHandle" ∧ D'.y.cls ≠ "java/lang/invoke/VarHandle") (C : Ct g D' as H Lt Q') (has : (.ref a :: argsL).toArray = as) (pd : parseMethodDescriptor D'.y.desc = some ⟨ps, r⟩) (hlen : argsL.length = ps.length) (hst : S = argsL.reverse ++ .ref a :: rest)
    (hsz : Ls.size = D.mx) (hW : (rest.map fun v => v.category).sum = W) (ok : CallOK D D' W cs ss cs' ss')
    (K : ∀ T' v, Rn g D M T' (Q' v) cs' ss' → Fn g D M Q (T'.setTop (mkF M.m pc' Ls (v.toList ++ rest)))) : Fn g D M Q (T.setTop (mkF M.m pc Ls S)) := by
  obtain ⟨hf, hl, hc, hs, hc', hs'⟩ := ok
  subst hp hc hs
  obtain ⟨st, vm0, k0, locs, X, hS, hk, hZ, hown, hC, N, E0, hH⟩ := B
  obtain ⟨v, vm1, Bp, -, X', hS', hg', ⟨L, hQ, hL, hE, e1, e2, e3, hC'⟩, stp⟩ := X.specialBackS st.2.1 hy1 hown (mvT hZ w1) (mvT hZ w2) (bytes := D'.cd) (maxL := D'.mx) (by rw [hrt] at w4; exact mvT hZ w4) hy (Ct.back (p := M.p) (e := M.e) (below := M.below) (s := M.s) (args := M.args) (len := 3) (Wt := W) C st.1 hZ w4 w3 hf hl hC.1 E0 hH) (g := mkF M.m pc Ls S) rfl (hsz.trans st.2.2.2.1.symm) (Steps.refl _) (a := a) (argsL := argsL) (rest := rest) (lenOf pd hlen) hst (by show 2 * 0 + _ ≤ _; rw [hW]; omega) (hb st.2.2.1 hd) (fun _ _ => ⟨has, rfl, hc', hs'⟩)
  exact (K Bp.U v (Rn.after st hS hk hZ hown hC N X' hS' hg' hQ hL hE e1 e2 e3 hC')).go fun t => stp.trans
theorem r_virtual (B : RH g D M T H Lt cs ss) {ix W cs' ss' : Nat} {y : MethodName} {C0 : String} {b : Addr} {argsL rest : List Value} {ps : List FieldType} {r : Option FieldType} (hd : decode D.cd pc = .ok (.invokevirtual ix, 3)) (hp : pc + 3 = pc')
    (w1 : (Jvm.Cond.methodLink D.y.cls ix y).before g.a0 g.Z = true) (wd : (Jvm.Cond.declares y).before g.a0 g.Z = true) (ws : (Jvm.Cond.selects C0 y D'.y).before g.a0 g.Z = true) (nf : ∀ vm0, g.Z.Warmed39 vm0 → NotFace (M.s.setVm vm0) y) (w2 : (Jvm.Cond.instanceMethod D'.y).before g.a0 g.Z = true) (w3 : (Jvm.Cond.initialized D'.y.cls).before g.a0 g.Z = true) (w4 : (Jvm.Cond.code D'.y D'.cd D'.mx D'.rt).before g.a0 g.Z = true)
    (hy : y.cls ≠ "java/lang/invoke/MethodHandle" ∧ y.cls ≠ "java/lang/invoke/VarHandle") (F : Al g H Lt fun h => Exa g.Z h b C0) (C : Ct g D' as H Lt Q') (has : (.ref b :: argsL).toArray = as) (pd : parseMethodDescriptor y.desc = some ⟨ps, r⟩) (hlen : argsL.length = ps.length) (hst : S = argsL.reverse ++ .ref b :: rest)
    (hsz : Ls.size = D.mx) (hW : (rest.map fun v => v.category).sum = W) (ok : CallOK D D' W cs ss cs' ss')
    (K : ∀ T' v, Rn g D M T' (Q' v) cs' ss' → Fn g D M Q (T'.setTop (mkF M.m pc' Ls (v.toList ++ rest)))) : Fn g D M Q (T.setTop (mkF M.m pc Ls S)) := by
  obtain ⟨hf, hl, hc, hs, hc', hs'⟩ := ok
  subst hp hc hs
  obtain ⟨st, vm0, k0, locs, X, hS, hk, hZ, hown, hC, N, E0, hH⟩ := B
  obtain ⟨cB, kB, q1, q2, q3⟩ := isOf (s := M.s.setVm vm0) (T := T) hZ rfl (F _ _ E0 hH)
  obtain ⟨v, vm1, Bp, -, X', hS', hg', ⟨L, hQ, hL, hE, e1, e2, e3, hC'⟩, stp⟩ := X.virtualBackS st.2.1 hown (mvT hZ w1) (mvT hZ wd) (nf vm0 hZ) (mvT hZ ws) (mvT hZ w2) hy (Ct.back (p := M.p) (e := M.e) (below := M.below) (s := M.s) (args := M.args) (len := 3) (Wt := W) C st.1 hZ w4 w3 hf hl hC.1 E0 hH) q1 q3 (g := mkF M.m pc Ls S) rfl (hsz.trans st.2.2.2.1.symm) (Steps.refl _) (argsL := argsL) (rest := rest) (lenOf pd hlen) hst (by show 2 * 0 + _ ≤ _; rw [hW]; omega) (hb st.2.2.1 hd) (fun _ _ => ⟨has, rfl, hc', hs'⟩)
  exact (K Bp.U v (Rn.after st hS hk hZ hown hC N X' hS' hg' hQ hL hE e1 e2 e3 hC')).go fun t => stp.trans
theorem r_iface (B : RH g D M T H Lt cs ss) {ix cnt W cs' ss' : Nat} {y : MethodName} {C0 : String} {b : Addr} {argsL rest : List Value} {ps : List FieldType} {r : Option FieldType} (hd : decode D.cd pc = .ok (.invokeinterface ix cnt, 5)) (hp : pc + 5 = pc')
    (w1 : (Jvm.Cond.methodLink D.y.cls ix y).before g.a0 g.Z = true) (wd : (Jvm.Cond.declares y).before g.a0 g.Z = true) (wf : (Jvm.Cond.interfaceMethod y.cls y.cls y.name y.desc).before g.a0 g.Z = true) (hfa : ((Jvm.Cond.interfaceMethod y.cls y.cls y.name y.desc).onTables && (Jvm.Cond.interfaceMethod y.cls y.cls y.name y.desc).keepsFace) = true) (ws : (Jvm.Cond.selects C0 y D'.y).before g.a0 g.Z = true) (w2 : (Jvm.Cond.instanceMethod D'.y).before g.a0 g.Z = true)
    (wp : (Jvm.Cond.publicMethod D'.y).before g.a0 g.Z = true) (wu : (Jvm.Cond.unhidden C0 y.name y.desc).before g.a0 g.Z = true) (wk : (Jvm.Cond.castable C0 y.cls).before g.a0 g.Z = true)
    (w3 : (Jvm.Cond.initialized D'.y.cls).before g.a0 g.Z = true) (w4 : (Jvm.Cond.code D'.y D'.cd D'.mx D'.rt).before g.a0 g.Z = true)
    (hy : y.cls ≠ "java/lang/invoke/MethodHandle" ∧ y.cls ≠ "java/lang/invoke/VarHandle") (F : Al g H Lt fun h => Exa g.Z h b C0) (C : Ct g D' as H Lt Q') (has : (.ref b :: argsL).toArray = as) (pd : parseMethodDescriptor y.desc = some ⟨ps, r⟩) (hlen : argsL.length = ps.length) (hst : S = argsL.reverse ++ .ref b :: rest)
    (hsz : Ls.size = D.mx) (hW : (rest.map fun v => v.category).sum = W) (ok : CallOK D D' W cs ss cs' ss')
    (K : ∀ T' v, Rn g D M T' (Q' v) cs' ss' → Fn g D M Q (T'.setTop (mkF M.m pc' Ls (v.toList ++ rest)))) : Fn g D M Q (T.setTop (mkF M.m pc Ls S)) := by
  obtain ⟨hf, hl, hc, hs, hc', hs'⟩ := ok
  subst hp hc hs
  obtain ⟨st, vm0, k0, locs, X, hS, hk, hZ, hown, hC, N, E0, hH⟩ := B
  obtain ⟨cB, kB, q1, q2, q3⟩ := isOf (s := M.s.setVm vm0) (T := T) hZ rfl (F _ _ E0 hH)
  obtain ⟨v, vm1, Bp, -, X', hS', hg', ⟨L, hQ, hL, hE, e1, e2, e3, hC'⟩, stp⟩ := X.interfaceBackS st.2.1 hown (mvT hZ w1) (mvT hZ wd) (mvT hZ wf hfa) (mvT hZ ws) (mvT hZ w2) (mvT hZ wp) (mvT hZ wu) (mvT hZ wk) hy (Ct.back (p := M.p) (e := M.e) (below := M.below) (s := M.s) (args := M.args) (len := 5) (Wt := W) C st.1 hZ w4 w3 hf hl hC.1 E0 hH) q1 q2 q3 (g := mkF M.m pc Ls S) rfl (hsz.trans st.2.2.2.1.symm) (Steps.refl _) (argsL := argsL) (rest := rest) (lenOf pd hlen) hst (by show 2 * 0 + _ ≤ _; rw [hW]; omega) (hb st.2.2.1 hd) (fun _ _ => ⟨has, rfl, hc', hs'⟩)
  exact (K Bp.U v (Rn.after st hS hk hZ hown hC N X' hS' hg' hQ hL hE e1 e2 e3 hC')).go fun t => stp.trans
/-! constants -/
theorem ary_of {Z : State} {h : Heap} {b : Addr} {k : ClassId} {z : Int32} {vs : List Value} {dv : Value} (A : Arv Z h b k .byte z vs dv) (hl : z.toNatClampNeg = vs.length) : Ary Z h b .byte "" vs := by
  obtain ⟨c, r1, r2, r3, r4, r5, r6⟩ := A
  have hs : c.slots.size = vs.length := r3.trans hl
  refine ⟨c, r1, ?_, ?_, fun v hv => ?_, nofun, fun q => absurd rfl q⟩
  · apply Array.ext_getElem?
    intro i
    by_cases hi : i < c.slots.size
    · rw [r5 i hi]
      have : i < vs.length := hs ▸ hi
      simp [this]
    · rw [Array.getElem?_eq_none (by omega), List.getElem?_toArray, List.getElem?_eq_none (by omega)]
  · have := (back32 r4).2
    omega
  · obtain ⟨i, hi, rfl⟩ := List.getElem_of_mem hv
    have := r6 i (by omega)
    simpa [hi] using this
theorem r_ldc (B : RH g D M T H Lt cs ss) {ix n cs' ss' : Nat} {text : String} {bs : List Value} {z : Int32} (hd : decode D.cd pc = .ok (.ldc ix, 2)) (hp : pc + 2 = pc') (w : (Jvm.Cond.stringLink D.y.cls ix text).before g.a0 g.Z = true) (wS : ∀ a ∈ Bundle.stringAtoms, a.before g.a0 g.Z = true) (hm : (D.y.cls, ix) ∈ g.EL)
    (ht : (∀ c ∈ text.toList, c.toNat < 256) ∧ text.toList.map (fun c => Value.int (Jvm.Lit.byteI c.toNat.toUInt16)) = bs) (hz : ¬ z < 0) (hzl : z.toNatClampNeg = bs.length) (hn : 4 * text.toList.length ≤ n) (hbig : n ≤ 536870912) (hc : cs + 2 = cs') (hs : ss + (n + 4) = ss') (hc' : cs' ≤ D.rm.cells) (hs' : ss' ≤ D.rm.slots)
    (K : ∀ T' a b, RH g D M T' H ((a, b, 0, bs) :: Lt) cs' ss' → Fn g D M Q (T'.setTop (mkF M.m pc' Ls (.ref a :: S)))) : Fn g D M Q (T.setTop (mkF M.m pc Ls S)) := by
  subst hp hc hs
  obtain ⟨st, vm0, k0, locs, X, hS, hk, hZ, hown, hC, N, E0, hH⟩ := B
  obtain ⟨a, T', h', k1, b, kk, X', e', E, hS', hk', hZ', hown', F1, F2, F3, F4, -, -, hC', -, hsafe, stp⟩ := ldcCH (Z := g.Z) (a0 := g.a0) (EL := g.EL) X st.2.1 hZ hown w wS rfl hS hk st.1.2.1 hm hC.1 ht hz hzl (g := mkF M.m pc Ls S) rfl (hb st.2.2.1 hd) hn hbig hc' hs'
  have P1 := hH.move hC' E
  have P' := P1.lit (y := (a, b, 0, bs)) ⟨F1, F3, F2, ary_of F4 hzl⟩ (fun x hx => hsafe x.1 (P1.1 x hx).2.2.2)
  subst e'
  exact (K T' a b ⟨st, T'.vm, k1, locs, X', hS', hk', hZ', hown', hC.trans hC', N, ext_trans E0 E, P'⟩).go stp
theorem r_ldcI (B : RH g D M T H Lt cs ss) {ix : Nat} {v : Int32} (hd : decode D.cd pc = .ok (.ldc ix, 2)) (hp : pc + 2 = pc') (w : (Jvm.Cond.constant D.y.cls ix v).before g.a0 g.Z = true) (K : Fn g D M Q (T.setTop (mkF M.m pc' Ls (.int v :: S)))) : Fn g D M Q (T.setTop (mkF M.m pc Ls S)) := by
  subst hp
  obtain ⟨st, vm0, k0, locs, X, hS, hk, hZ, hown, hC, N, E0, hH⟩ := B
  exact K.go fun t => X.ldcI (g := mkF M.m pc Ls S) st.2.1 hown (mvT hZ w) rfl (hb st.2.2.1 hd)
/-! casts -/
theorem r_cast (B : RH g D M T H Lt cs ss) {ix : Nat} {C : String} {a : Addr} (hd : decode D.cd pc = .ok (.checkcast ix, 3)) (hp : pc + 3 = pc') (w : (Jvm.Cond.classLink D.y.cls ix C).before g.a0 g.Z = true) (F : Al g H Lt fun h => Ins g.Z h a C true)
    (K : ∀ T', RH g D M T' H Lt cs ss → Fn g D M Q (T'.setTop (mkF M.m pc' Ls (.ref a :: S)))) : Fn g D M Q (T.setTop (mkF M.m pc Ls (.ref a :: S))) := by
  subst hp
  obtain ⟨st, vm0, k0, locs, X, hS, hk, hZ, hown, hC, N, E0, hH⟩ := B
  obtain ⟨T', X', e', stp⟩ := castY (Z := g.Z) (a0 := g.a0) X st.2.1 hZ hown w rfl (F _ _ E0 hH) (g := mkF M.m pc Ls (.ref a :: S)) rfl rfl (hb st.2.2.1 hd)
  exact (K T' ⟨st, vm0, k0, locs, X', hS, by rw [e']; exact hk, hZ, hown, by rw [e']; exact hC, N, by rw [e']; exact E0, by rw [e']; exact hH⟩).go stp
theorem r_inst0 (B : RH g D M T H Lt cs ss) {ix : Nat} {C C1 : String} {a : Addr} (hd : decode D.cd pc = .ok (.instanceof ix, 3)) (hp : pc + 3 = pc') (w : (Jvm.Cond.classLink D.y.cls ix C).before g.a0 g.Z = true) (F : Al g H Lt fun h => Ins g.Z h a C false) (F1 : Al g H Lt fun h => Exa g.Z h a C1)
    (K : ∀ T', RH g D M T' H Lt cs ss → Fn g D M Q (T'.setTop (mkF M.m pc' Ls (.int 0 :: S)))) : Fn g D M Q (T.setTop (mkF M.m pc Ls (.ref a :: S))) := by
  subst hp
  obtain ⟨st, vm0, k0, locs, X, hS, hk, hZ, hown, hC, N, E0, hH⟩ := B
  obtain ⟨cell, cT, h1, h2, h3⟩ := F _ _ E0 hH
  obtain ⟨cell', k, e1, -, e3, e4, -⟩ := F1 _ _ E0 hH
  cases h1.symm.trans e1
  obtain ⟨k', q, -⟩ := hZ.alike.2.2 _ _ e3
  obtain ⟨vm', X', stp⟩ := Jvm.Sym.instanceofNoAt X st.2.1 hown (mvT hZ w) h1 e4 q (by show vm0.findClass C = some cT; rw [hZ.alike.findClass]; exact h2) (by show vm0.assignable cell.cls cT = false; rw [hZ.alike.assignable]; simpa [e4] using h3) (g := mkF M.m pc Ls (.ref a :: S)) rfl rfl (hb st.2.2.1 hd)
  exact (K _ ⟨st, vm0, k0, locs, X', hS, hk, hZ, hown, hC, N, E0, hH⟩).go stp
/-! OWN WALKING KIT, part 6: a private method. -/
theorem r_private (B : RH g D M T H Lt cs ss) {ix W cs' ss' kk : Nat} {C0 : String} {b : Addr} {argsL rest : List Value} {ps : List FieldType} {r : Option FieldType} (hd : decode D.cd pc = .ok (.invokevirtual ix, 3)) (hp : pc + 3 = pc')
    (w1 : (Jvm.Cond.methodLink D.y.cls ix D'.y).before g.a0 g.Z = true) (wp : (Jvm.Cond.privateMethod D'.y).before g.a0 g.Z = true) (wi : (Jvm.Cond.instantiable D'.y.cls kk).before g.a0 g.Z = true) (w2 : (Jvm.Cond.instanceMethod D'.y).before g.a0 g.Z = true) (w3 : (Jvm.Cond.initialized D'.y.cls).before g.a0 g.Z = true) (w4 : (Jvm.Cond.code D'.y D'.cd D'.mx D'.rt).before g.a0 g.Z = true)
    (hy : D'.y.cls ≠ "java/lang/invoke/MethodHandle" ∧ D'.y.cls ≠ "java/lang/invoke/VarHandle") (F : Al g H Lt fun h => Exa g.Z h b C0) (C : Ct g D' as H Lt Q') (has : (.ref b :: argsL).toArray = as) (pd : parseMethodDescriptor D'.y.desc = some ⟨ps, r⟩) (hlen : argsL.length = ps.length) (hst : S = argsL.reverse ++ .ref b :: rest)
    (hsz : Ls.size = D.mx) (hW : (rest.map fun v => v.category).sum = W) (ok : CallOK D D' W cs ss cs' ss')
    (K : ∀ T' v, Rn g D M T' (Q' v) cs' ss' → Fn g D M Q (T'.setTop (mkF M.m pc' Ls (v.toList ++ rest)))) : Fn g D M Q (T.setTop (mkF M.m pc Ls S)) := by
  obtain ⟨hf, hl, hc, hs, hc', hs'⟩ := ok
  subst hp hc hs
  obtain ⟨st, vm0, k0, locs, X, hS, hk, hZ, hown, hC, N, E0, hH⟩ := B
  obtain ⟨cB, kB, q1, q2, cell, c1, c2, c3⟩ := isOf (s := M.s.setVm vm0) (T := T) hZ rfl (F _ _ E0 hH)
  obtain ⟨tt, kt, t1, t2, t3, t4, -⟩ := Cond.instantiable_spec (args := M.args) (s := M.s.setVm vm0) (mvT hZ wi)
  have hpv := Cond.privateMethod_at (args := M.args) (s := M.s.setVm vm0) (mvT hZ wp)
  have hse := selects_self_of_private (s := M.s.setVm vm0) (args := M.args) t1 t2 (Bool.or_eq_false_iff.mp t4).1 hpv (mvT hZ w2) hy
  obtain ⟨v, vm1, Bp, -, X', hS', hg', ⟨L, hQ, hL, hE, e1, e2, e3, hC'⟩, stp⟩ := X.privateBackS st.2.1 hown (mvT hZ w1) (mvT hZ w2) hse hpv (mvT hZ w4) hy (Ct.back (p := M.p) (e := M.e) (below := M.below) (s := M.s) (args := M.args) (len := 3) (Wt := W) C st.1 hZ w4 w3 hf hl hC.1 E0 hH) (g := mkF M.m pc Ls S) rfl (hsz.trans st.2.2.2.1.symm) (Steps.refl _) c1 (fun q e => by rw [e] at c3; cases c3) (argsL := argsL) (rest := rest) (lenOf pd hlen) hst (by show 2 * 0 + _ ≤ _; rw [hW]; omega) (hb st.2.2.1 hd) (fun _ _ => ⟨has, rfl, hc', hs'⟩)
  exact (K Bp.U v (Rn.after st hS hk hZ hown hC N X' hS' hg' hQ hL hE e1 e2 e3 hC')).go fun t => stp.trans
/-! OWN WALKING KIT, part 7: System.arraycopy, getClass and a class constant, dup2_x1, a float constant. -/
theorem Ary.arv {Z : State} {h : Heap} {a : Addr} {ty : FieldType} {nm : String} {vs : List Value} (A : Ary Z h a ty nm vs) : ∃ k, Arv Z h a k ty (Int32.ofNat vs.length) vs .null ∧ (∀ C, ty = .object C → Ovr Z k C) ∧ (nm ≠ "" → Exa Z h a nm) ∧ (Int32.ofNat vs.length).toNatClampNeg = vs.length := by
  obtain ⟨c, r1, r2, r3, r4, r5, r6⟩ := A
  have hz : (Int32.ofNat vs.length).toNatClampNeg = vs.length := Jvm.Free.XT.n32 (by omega)
  have hs : c.slots.size = vs.length := by rw [r2]; simp
  refine ⟨c.cls, ⟨c, r1, rfl, by rw [hz, hs], Int32.ofNat_not_neg (by omega), fun k hk => ?_, fun i hi => ?_⟩, r5, r6, hz⟩
  · rw [hs] at hk
    rw [r2]
    simp [hk]
  · rw [hs] at hi
    have : vs.getD i .null = vs[i] := by simp [hi]
    rw [this]; exact r4 _ (List.getElem_mem hi)
theorem Ary.of_arv {Z : State} {h : Heap} {a : Addr} {k : ClassId} {ty : FieldType} {z : Int32} {nm : String} {vs : List Value} {dv : Value} (A : Arv Z h a k ty z vs dv) (hl : z.toNatClampNeg = vs.length) (hO : ∀ C, ty = .object C → Ovr Z k C) (hE : nm ≠ "" → Exa Z h a nm) : Ary Z h a ty nm vs := by
  obtain ⟨c, r1, r2, r3, r4, r5, r6⟩ := A
  have hs : c.slots.size = vs.length := r3.trans hl
  refine ⟨c, r1, ?_, ?_, fun v hv => ?_, fun C q => by rw [r2]; exact hO C q, hE⟩
  · apply Array.ext_getElem?
    intro i
    by_cases hi : i < c.slots.size
    · rw [r5 i hi]
      have : i < vs.length := hs ▸ hi
      simp [this]
    · rw [Array.getElem?_eq_none (by omega), List.getElem?_toArray, List.getElem?_eq_none (by omega)]
  · have := (back32 r4).2
    omega
  · obtain ⟨i, hi, rfl⟩ := List.getElem_of_mem hv
    have := r6 i (by omega)
    simpa [hi] using this
theorem rangeL {vs : List Value} {s0 n0 : Nat} (h : s0 + n0 ≤ vs.length) : (vs.drop s0).take n0 = (List.range n0).map fun i => vs.getD (s0 + i) .null := by
  apply List.ext_getElem?
  intro i
  by_cases hi : i < n0
  · rw [List.getElem?_take, if_pos hi, List.getElem?_drop, List.getElem?_map, List.getElem?_range hi, List.getElem?_eq_getElem (by omega)]
    simp [show s0 + i < vs.length by omega]
  · rw [List.getElem?_take, if_neg hi, List.getElem?_map, List.getElem?_eq_none (by simpa using hi)]
    rfl
theorem stoL {Z : State} {h : Heap} {a : Addr} : ∀ {us : List Value}, (∀ v ∈ us, Sto Z h a v) → StoL Z h a us
  | [], _ => trivial
  | _ :: _, H => ⟨H _ (List.mem_cons_self ..), stoL fun v hv => H v (List.mem_cons_of_mem _ hv)⟩
theorem r_acopy (B : RH g D M T H Lt cs ss) {ix i W s0 d0 n0 : Nat} {a b : Addr} {ty ty' : FieldType} {nm nm' : String} {vs vd us vd' rest : List Value} {sp dp nn : Int32} (hd : decode D.cd pc = .ok (.invokestatic ix, 3)) (hp : pc + 3 = pc')
    (w1 : (Jvm.Cond.methodLink D.y.cls ix Jvm.Stand.acN).before g.a0 g.Z = true) (w2 : (Jvm.Cond.native Jvm.Stand.acN).before g.a0 g.Z = true) (w3 : (Jvm.Cond.static Jvm.Stand.acN).before g.a0 g.Z = true) (w4 : (Jvm.Cond.initialized "java/lang/System").before g.a0 g.Z = true)
    (FA : Al g H Lt fun h => Ary g.Z h a ty nm vs) (hi : H[i]? = some (b, .inr (ty', nm', vd)))
    (hty : (ty = ty' ∧ refKind ty = false) ∨ (refKind ty = true ∧ ∃ C, ty' = .object C ∧ ∀ v ∈ us, v = .null ∨ ∃ y, v = .ref y ∧ Al g H Lt fun h => Ins g.Z h y C true))
    (h1 : ¬ sp < 0) (e1 : sp.toNatClampNeg = s0) (h2 : ¬ dp < 0) (e2 : dp.toNatClampNeg = d0) (h3 : ¬ nn < 0) (e3 : nn.toNatClampNeg = n0) (h4 : s0 + n0 ≤ vs.length) (h5 : d0 + n0 ≤ vd.length) (hus : (vs.drop s0).take n0 = us) (ev : vd.take d0 ++ us ++ vd.drop (d0 + n0) = vd')
    (e : H.set i (b, .inr (ty', nm', vd')) = H') (hsz : Ls.size = D.mx) (hW : (rest.map fun v => v.category).sum = W) (hf : 1 ≤ D.rm.frames) (hl : W + 18 ≤ D.rm.locals)
    (K : ∀ T', RH g D M T' H' Lt cs ss → Fn g D M Q (T'.setTop (mkF M.m pc' Ls rest))) : Fn g D M Q (T.setTop (mkF M.m pc Ls (.int nn :: .int dp :: .ref b :: .int sp :: .ref a :: rest))) := by
  subst hp
  obtain ⟨st, vm0, k0, locs, X, hS, hk, hZ, hown, hC, N, E0, hH⟩ := B
  have I := hH.1 _ (List.mem_of_getElem? hi)
  have I1 : Ary g.Z T.heap b ty' nm' vd := I.1
  obtain ⟨ka, A1, -, -, za⟩ := (FA _ _ E0 hH).arv
  obtain ⟨kb, B1, O1, X1, zb⟩ := I1.arv
  have hul : us.length = n0 := by rw [← hus, List.length_take, List.length_drop]; omega
  have hst : (ty = ty' ∧ refKind ty = false) ∨ (refKind ty = true ∧ refKind ty' = true ∧ StoL g.Z T.heap b us) := by
    rcases hty with q | ⟨q, C, rfl, r⟩
    · exact Or.inl q
    · refine Or.inr ⟨q, rfl, stoL fun v hv => ?_⟩
      rcases r v hv with rfl | ⟨y, rfl, I⟩
      · exact Or.inl rfl
      · obtain ⟨c, r1, -, -, -, r5, -⟩ := I1
        exact Sto.of r1 (r5 C rfl) (I _ _ E0 hH)
  obtain ⟨T', h', L, X', e', N', K1, B2, stp⟩ := cpA (Z := g.Z) (a0 := g.a0) X st.2.1 hZ hown w1 w2 w3 w4 rfl A1 B1 hst h1 h2 h3 (by rw [e1, e3, za]; exact h4) (by rw [e2, e3, zb]; exact h5) (by rw [e1, e3, ← hus]; exact rangeL h4) (by rw [e2, e3]; exact h5) N I.2.2.1 (g := mkF M.m pc Ls (.int nn :: .int dp :: .ref b :: .int sp :: .ref a :: rest)) rfl (hsz.trans st.2.2.2.1.symm) rfl (hb st.2.2.1 hd) hf (W := W) (by show 2 * 0 + _ ≤ _; rw [hW]; omega) (by show W + (nativeFrameWords "java/lang/System" "arraycopy" 5 + 11) ≤ _; exact hl)
  rw [e2, e3, ev] at B2
  have hlen : vd'.length = vd.length := by rw [← ev]; simp only [List.length_append, List.length_take, List.length_drop, hul]; omega
  have A2 : Ary g.Z h' b ty' nm' vd' := Ary.of_arv B2 (by rw [zb, hlen]) O1 (fun q => (X1 q).keep K1)
  have C1 := CHr.keep K1 (fun x hx => by rw [List.mem_singleton.mp hx]; exact I.2.2.2) hC.1
  have P' := hH.upd C1 K1 hi rfl rfl (show Is g.Z h' (b, .inr (ty', nm', vd')) from A2) trivial
  rw [e] at P'
  refine (K T' ⟨st, vm0, k0, _, X', hS, by rw [e']; exact Nat.le_trans hk K1.1, hZ, hown, by rw [e']; exact hC.trans C1, N', ?_, by rw [e']; exact P'⟩).go stp
  rw [e']; exact (Old.keep ⟨rfl, E0⟩ K1 (fun x hx => by rw [List.mem_singleton.mp hx]; exact I.2.2.1)).2
theorem r_getClass (B : RH g D M T H Lt cs ss) {ix W : Nat} {b mir : Addr} {C0 : String} {rest : List Value} (hd : decode D.cd pc = .ok (.invokevirtual ix, 3)) (hp : pc + 3 = pc')
    (w1 : (Jvm.Cond.methodLink D.y.cls ix Jvm.Stand.gcN).before g.a0 g.Z = true) (wd : (Jvm.Cond.declares Jvm.Stand.gcN).before g.a0 g.Z = true) (ws : (Jvm.Cond.selects C0 Jvm.Stand.gcN Jvm.Stand.gcN).before g.a0 g.Z = true) (w2 : (Jvm.Cond.instanceMethod Jvm.Stand.gcN).before g.a0 g.Z = true) (w3 : (Jvm.Cond.native Jvm.Stand.gcN).before g.a0 g.Z = true)
    (F : Al g H Lt fun h => Exa g.Z h b C0) (hm : ∃ (c : ClassId) (k : Class), g.Z.vm.findClass C0 = some c ∧ g.Z.vm.classes[c]? = some k ∧ k.mirror = some mir) (hsz : Ls.size = D.mx) (hW : (rest.map fun v => v.category).sum = W) (hf : 1 ≤ D.rm.frames) (hl : W + 14 ≤ D.rm.locals)
    (K : ∀ T', RH g D M T' H Lt cs ss → Fn g D M Q (T'.setTop (mkF M.m pc' Ls (.ref mir :: rest)))) : Fn g D M Q (T.setTop (mkF M.m pc Ls (.ref b :: rest))) := by
  subst hp
  obtain ⟨st, vm0, k0, locs, X, hS, hk, hZ, hown, hC, N, E0, hH⟩ := B
  obtain ⟨cB, kB, q1, q2, q3⟩ := isOf (s := M.s.setVm vm0) (T := T) hZ rfl (F _ _ E0 hH)
  obtain ⟨c, k, m1, m2, m3⟩ := hm
  obtain ⟨k', n1, n2⟩ := hZ.alike.2.2 _ _ m2
  have f1 : (M.s.setVm vm0).vm.findClass C0 = some c := by show vm0.findClass C0 = some c; rw [hZ.alike.findClass]; exact m1
  obtain ⟨vm1, X', stp⟩ := X.getClassOf st.2.1 hown (mvT hZ w1) (mvT hZ wd) (notFace_of_selects (args := #[]) (mvT hZ ws)) (mvT hZ ws) (mvT hZ w2) (mvT hZ w3) f1 (by rw [← Option.some.inj (q1.symm.trans f1)]; exact q3) n1 (mir := mir) (by rw [n2]; exact m3) (g := mkF M.m pc Ls (.ref b :: rest)) rfl (hsz.trans st.2.2.2.1.symm) rfl (hb st.2.2.1 hd) hf (by show 2 * 0 + _ + (nativeFrameWords "java/lang/Object" "getClass" 1 + 11) ≤ _; rw [hW]; show 2 * 0 + W + 14 ≤ _; omega)
  exact (K _ ⟨st, vm0, k0, locs, X', hS, hk, hZ, hown, hC, N, E0, hH⟩).go stp
theorem r_ldcM (B : RH g D M T H Lt cs ss) {ix : Nat} {C0 : String} {mir : Addr} (hd : decode D.cd pc = .ok (.ldc ix, 2)) (hp : pc + 2 = pc') (w : (Jvm.Cond.classLink D.y.cls ix C0).before g.a0 g.Z = true) (hm : ∃ (c : ClassId) (k : Class), g.Z.vm.findClass C0 = some c ∧ g.Z.vm.classes[c]? = some k ∧ k.mirror = some mir)
    (K : ∀ T', RH g D M T' H Lt cs ss → Fn g D M Q (T'.setTop (mkF M.m pc' Ls (.ref mir :: S)))) : Fn g D M Q (T.setTop (mkF M.m pc Ls S)) := by
  subst hp
  obtain ⟨st, vm0, k0, locs, X, hS, hk, hZ, hown, hC, N, E0, hH⟩ := B
  obtain ⟨c, k, m1, m2, m3⟩ := hm
  obtain ⟨k', n1, n2⟩ := hZ.alike.2.2 _ _ m2
  have f1 : (M.s.setVm vm0).vm.findClass C0 = some c := by show vm0.findClass C0 = some c; rw [hZ.alike.findClass]; exact m1
  have hm' : k'.mirror = some mir := by rw [n2]; exact m3
  obtain ⟨vm1, X', stp⟩ := X.ldcMirror st.2.1 hown (mvT hZ w) (a := mir) (by have f1' : vm0.findClass C0 = some c := f1; simp [Term.eval, f1', n1, hm']) (g := mkF M.m pc Ls S) rfl (hb st.2.2.1 hd)
  exact (K _ ⟨st, vm0, k0, locs, X', hS, hk, hZ, hown, hC, N, E0, hH⟩).go stp
/-! OWN WALKING KIT, part 8: inherited methods, nest mates (printed from kit4's rules). -/
theorem r_virtualUp (B : RH g D M T H Lt cs ss) {ix W cs' ss' : Nat} {y : MethodName} {C0 owner : String} {b : Addr} {argsL rest : List Value} {ps : List FieldType} {r : Option FieldType} (hd : decode D.cd pc = .ok (.invokevirtual ix, 3)) (hp : pc + 3 = pc')
    (w1 : (Jvm.Cond.methodLink D.y.cls ix y).before g.a0 g.Z = true) (wsm : (Jvm.Cond.sameMethod y.cls owner y.name y.desc).before g.a0 g.Z = true) (wd : (Jvm.Cond.declares ⟨owner, y.name, y.desc⟩).before g.a0 g.Z = true) (how : owner ≠ "java/lang/invoke/MethodHandle" ∧ owner ≠ "java/lang/invoke/VarHandle") (ws : (Jvm.Cond.selects C0 y D'.y).before g.a0 g.Z = true) (w2 : (Jvm.Cond.instanceMethod D'.y).before g.a0 g.Z = true) (w3 : (Jvm.Cond.initialized D'.y.cls).before g.a0 g.Z = true) (w4 : (Jvm.Cond.code D'.y D'.cd D'.mx D'.rt).before g.a0 g.Z = true)
    (F : Al g H Lt fun h => Exa g.Z h b C0) (C : Ct g D' as H Lt Q') (has : (.ref b :: argsL).toArray = as) (pd : parseMethodDescriptor y.desc = some ⟨ps, r⟩) (hlen : argsL.length = ps.length) (hst : S = argsL.reverse ++ .ref b :: rest)
    (hsz : Ls.size = D.mx) (hW : (rest.map fun v => v.category).sum = W) (ok : CallOK D D' W cs ss cs' ss')
    (K : ∀ T' v, Rn g D M T' (Q' v) cs' ss' → Fn g D M Q (T'.setTop (mkF M.m pc' Ls (v.toList ++ rest)))) : Fn g D M Q (T.setTop (mkF M.m pc Ls S)) := by
  obtain ⟨hf, hl, hc, hs, hc', hs'⟩ := ok
  subst hp hc hs
  obtain ⟨st, vm0, k0, locs, X, hS, hk, hZ, hown, hC, N, E0, hH⟩ := B
  obtain ⟨cB, kB, q1, q2, q3⟩ := isOf (s := M.s.setVm vm0) (T := T) hZ rfl (F _ _ E0 hH)
  obtain ⟨v, vm1, Bp, -, X', hS', hg', ⟨L, hQ, hL, hE, e1, e2, e3, hC'⟩, stp⟩ := X.virtualBackUpS st.2.1 hown (mvT hZ w1) (mvT hZ wsm) (mvT hZ wd) how (mvT hZ ws) (mvT hZ w2) (Ct.back (p := M.p) (e := M.e) (below := M.below) (s := M.s) (args := M.args) (len := 3) (Wt := W) C st.1 hZ w4 w3 hf hl hC.1 E0 hH) q1 q3 (g := mkF M.m pc Ls S) rfl (hsz.trans st.2.2.2.1.symm) (Steps.refl _) (argsL := argsL) (rest := rest) (lenOf pd hlen) hst (by show 2 * 0 + _ ≤ _; rw [hW]; omega) (hb st.2.2.1 hd) (fun _ _ => ⟨has, rfl, hc', hs'⟩)
  exact (K Bp.U v (Rn.after st hS hk hZ hown hC N X' hS' hg' hQ hL hE e1 e2 e3 hC')).go fun t => stp.trans
/-! OWN WALKING KIT, part 9: old arrays (a static's): their length as the sheet's words say it. -/
theorem old_len {g : GG} {t : Term} {a : Addr} {ty : FieldType} {z : Int32} (e : t.eval g.a0 g.Z none [] g.Z = some (.ref a)) (h1 : (Jvm.Cond.arrayOf t ty).value g.a0 g.Z none g.Z [] = some true)
    (h3 : (Jvm.Cond.eq (.length t) (.int z)).value g.a0 g.Z none g.Z [] = some true) : ∃ c : Cell, Jvm.RoadKit.Arr g.Z g.Z.heap a c ty ∧ c.slots.size.toInt32 = z := by
  obtain ⟨c, A⟩ := Jvm.RoadKit.Arr.start e h1
  have hl := eqv_i (Term.int_eval z) h3
  obtain ⟨y, c2, q1, q2, q3⟩ := Term.length_spec hl
  cases e.symm.trans q1
  have hc : c2 = c := by
    have hA := A.1
    simp only [State.arrayAt?, hA, Option.bind_eq_bind, Option.bind_some] at q2
    cases hk : g.Z.vm.classes[c.cls]? with
    | none => simp [hk] at q2
    | some k =>
      simp only [hk, Option.bind_some] at q2
      split at q2
      · cases q2
      · split at q2
        · exact (Option.some.inj q2).symm
        · cases q2
  subst hc
  cases q3
  exact ⟨c2, A, rfl⟩
theorem r_alenO (B : RH g D M T H Lt cs ss) {a : Addr} {c : Cell} {ty : FieldType} {z : Int32} (hd : decode D.cd pc = .ok (.arraylength, 1)) (hp : pc + 1 = pc') (A : Jvm.RoadKit.Arr g.Z g.Z.heap a c ty) (hz : c.slots.size.toInt32 = z)
    (K : Fn g D M Q (T.setTop (mkF M.m pc' Ls (.int z :: S)))) : Fn g D M Q (T.setTop (mkF M.m pc Ls (.ref a :: S))) := by
  subst hp hz
  obtain ⟨st, vm0, k0, locs, X, hS, hk, hZ, hown, hC, N, E0, hH⟩ := B
  exact K.go fun t => X.arraylength st.2.1 (E0.2 _ _ A.1) (State.isArrayOf_alike (hZ.alike :) A.2.1) (g := mkF M.m pc Ls (.ref a :: S)) rfl rfl (hb st.2.2.1 hd) t
/-- instanceof answered no, over a chain of superclasses -/
theorem ns_root {Z : State} {a0 : Array Value} {O K : String} {n : Nat} (w : (Jvm.Cond.noSuperclass O).before a0 Z = true) (wk : (Jvm.Cond.instantiable K n).before a0 Z = true) (hn : O ≠ K) : NS Z O K := by
  obtain ⟨c, k, h1, h2, h3, -, -⟩ := Cond.noSuperclass_spec w
  obtain ⟨t, kt, t1, -⟩ := Cond.instantiable_spec wk
  have ne := ids_ne h1 t1 hn
  refine ⟨c, t, h1, t1, fun fuel => ?_⟩
  cases fuel with
  | zero => rfl
  | succ f => simp [Vm.isSubclassAux, ne, h2, h3]
theorem ins_chain {Z : State} {h : Heap} {a : Addr} {a0 : Array Value} {C S K : String} {n : Nat} (E : Exa Z h a C) (w : (Jvm.Cond.superclass C S).before a0 Z = true) (N : NS Z C K) (wk : (Jvm.Cond.instantiable K n).before a0 Z = true) (hn : C ≠ K) : Ins Z h a K false := by
  obtain ⟨cell, k, e1, e2, e3, e4, -⟩ := E
  obtain ⟨c, t, g1, g2, g3⟩ := N
  obtain ⟨t', kt, t1, t2, t3, t4, -⟩ := Cond.instantiable_spec wk
  obtain ⟨p, kc, kp, q1, q2, q3, q4, q5, q6, q7⟩ := Cond.superclass_spec e2 w
  cases g1.symm.trans e2
  cases g2.symm.trans t1
  have n1 := ids_ne e2 t1 hn
  have hi : kt.isInterface = false := (Bool.or_eq_false_iff.mp t4).1
  have hA : Z.vm.assignable cell.cls t = false := by
    show Z.vm.assignableAux (255 + 1) cell.cls t = false
    simp [Vm.assignableAux, n1, q2, t2, q5, t3, hi, Vm.isSubclass, g3]
  exact ⟨cell, t, e1, t1, by simp [hA]⟩
theorem aE {g : GG} {H : List Ent} {Lt : List SE} {i : Nat} {a : Addr} {ty : FieldType} {nm : String} {vs : List Value} (hi : H[i]? = some (a, .inr (ty, nm, vs))) (hn : nm ≠ "") : Al g H Lt fun h => Exa g.Z h a nm := fun vm h E P => by
  have I : Ary g.Z h a ty nm vs := (P.1 _ (List.mem_of_getElem? hi)).1
  obtain ⟨c, -, -, -, -, -, r6⟩ := I
  exact r6 hn
/-! OWN WALKING KIT, part 10 (printed by mk10.py). -/
theorem p_tswIn (B : RH g D M T H Lt cs ss) {k : Int32} {df lo hi off : Int} {offs : Array Int} {len : Nat} (hd : decode D.cd pc = .ok (.tableswitch df lo hi offs, len)) (hin : ¬ (k.toInt < lo ∨ k.toInt > hi)) (ho : offs[(k.toInt - lo).toNat]? = some off) (h0 : 0 ≤ (pc : Int) + off) (hp : ((pc : Int) + off).toNat = pc')
    (K : Fn g D M Q (T.setTop (mkF M.m pc' Ls S))) : Fn g D M Q (T.setTop (mkF M.m pc Ls (.int k :: S))) := by
  subst hp
  obtain ⟨st, vm0, k0, locs, X, hS, hk, hZ, hown, hC, N, E0, hH⟩ := B
  exact K.go fun t => X.tableswitchIn st.2.1 (g := mkF M.m pc Ls (.int k :: S)) rfl rfl (hb st.2.2.1 hd) hin ho h0 t
end Rules
def CtH (g : GG) (D : DD) (xt : List (Nat × Nat × Nat × Nat)) (as : Array Value) (H : List Ent) (Lt : List SE) (Q : Option Value → Vm → Heap → Prop) : Prop :=
  MetFree g.l D.y (head1 [Jvm.Cond.codeWith D.y D.cd D.mx D.rt xt] D.rm) (fun a U => a = as ∧ g.Z.Warmed39 U.vm ∧ CHv g.Z g.EL U.vm U.heap ∧ Ext g.Z.heap U.heap ∧ Hp g U.vm U.heap H Lt) (fun _ _ _ _ _ => True)
    (fun _ U o U' => ∃ v L, o = .returned v ∧ Q v U'.vm U'.heap ∧ Fr g.Z.heap.size L ∧ CHr g.Z g.EL U.vm U.heap U'.vm U'.heap ∧ Ext g.Z.heap U'.heap ∧ ReturnedEndW U o U' L D.rm.cells D.rm.slots)
section Rules
variable {g : GG} {D D' : DD} {M : MM} {T : State} {A A' : Vm → Heap → Prop} {cs ss : Nat} {Q Q' : Option Value → Vm → Heap → Prop} {pc pc' : Nat} {Ls Ls' : Array Slot} {S : List Value} {H H' : List Ent} {Lt Lt' : List SE} {as : Array Value} {ws : List Jvm.Cond}
theorem CtH.body {xt : List (Nat × Nat × Nat × Nat)} (W : GW g) (hpl : plainFor D.y = true) (ef : ∀ m, entryFrame m as D.mx = mkF m 0 Ls []) (K : ∀ M T, RH g D M T H Lt 0 0 → Fn g D M Q (T.setTop (mkF M.m 0 Ls []))) : CtH g D xt as H Lt Q := by
  refine MetFree.of_bodySF hpl hisWith ?_
  intro p e s m args below meth c s₁ Bd hml0 hP hK
  obtain ⟨rfl, hZ, hC, hE, hH⟩ := hP
  have hown : s.vm.findClass D.y.cls = some m.cls := findClass_of_methodNamed Bd.named
  have hnm := (name_of_methodNamed Bd.named Bd.method).1
  have X0 := Stand.of_body Bd
  have e0 : s₁.heap = s.heap := by rw [Bd.state]; rfl
  obtain ⟨t, v, L, h1, h2, h3, h4, h5, h6, h7, h8⟩ := K (p, e, s, m, args, below, meth, c) s₁ ⟨⟨W, Bd.exec, Bd.bytes, hml0, Bd.returns, Bd.notSynchronized, hnm⟩, s.vm, 0, [], X0, (State.WarmedH.refl s).since 0, Nat.zero_le _, hZ, hown, by rw [e0]; exact CHr.refl hC, Fr.nil _, by rw [e0]; exact hE, by rw [e0]; exact hH⟩
  exact ⟨t, _, castTop (ef m) h1, h2, h3, v, L, rfl, h4, h5, h6, h7, h8⟩
/-- where a call that has returned stands, read off its end -/
theorem landed {U s₂ : State} {f : JFrame} {mk : MethodId} {a : Array Value} {c : Code} {below : List Frame} {ig : Instr} {len k n : Nat} {v : Option Value} {L : List Loc} (hat : At U f.method c below) (hdc : decode c.code f.pc = .ok (ig, len)) (hr : ReturnedEndW (U.calling f mk a) (.returned v) s₂ L k n) (hend : Ended s₂ (U.setTop f).frames (.returned v)) :
    s₂ = (({ U with heap := s₂.heap, slotsUsed := s₂.slotsUsed } : State).setVm s₂.vm).setTop { f with pc := f.pc + len, stack := v.toList ++ f.stack } ∧ U.Warmed39 s₂.vm ∧ U.sameButNew ({ U with heap := s₂.heap, slotsUsed := s₂.slotsUsed } : State) L k n := by
  obtain ⟨f0, hf0⟩ := Option.isSome_iff_exists.mp hat.top
  obtain ⟨tl, htl⟩ := State.topJava?_eq_some.mp hf0
  have hU : U.calling f mk a = U.setFrames (.invoking mk a :: .java f :: tl) := by rw [State.calling_eq hat.top, htl]; rfl
  have hF : (U.setTop f).frames = .java f :: tl := by rw [State.frames_setTop' f hat.top, htl]; rfl
  rw [hU] at hr
  rw [hF] at hend
  obtain ⟨-, hw, -, hs, hrest⟩ := hr
  obtain ⟨c', i', len', hc', hd', hfr⟩ := hend
  have w : U.Warmed39 s₂.vm := hw
  have hcc : s₂.code? f.method = some c := by rw [State.code?_eq, w.alike.method?, ← State.code?_eq]; exact hat.code
  cases hc'.symm.trans hcc
  cases hdc.symm.trans hd'
  have hs' : ({ s₂ with vm := U.vm } : State) = { (U.setFrames (.invoking mk a :: .java f :: tl)).setFrames s₂.frames with heap := s₂.heap, slotsUsed := s₂.slotsUsed } := hs
  refine ⟨?_, w, ?_, hrest⟩
  · rw [State.setTop_of_frames _ (show (({ U with heap := s₂.heap, slotsUsed := s₂.slotsUsed } : State).setVm s₂.vm).frames = .java f0 :: tl from htl)]
    refine (show s₂ = ({ s₂ with vm := U.vm } : State).setVm s₂.vm from rfl).trans ?_
    rw [hs', hfr, State.setFrames_setFrames]
    rfl
  · obtain ⟨t, ht, -⟩ := State.frames_cons htl
    show ({ U with heap := s₂.heap, slotsUsed := s₂.slotsUsed } : State) = { U.setFrames U.frames with heap := s₂.heap, slotsUsed := s₂.slotsUsed }
    rw [State.setFrames_self ht]
theorem bsWith {l : Launch} {R : Room} {p : Program} {e : Env} {below : List Frame} {s : State} {sargs : Array Value} {y : MethodName} {len W : Nat} {xt : List (Nat × Nat × Nat × Nat)} {Pre : Pt → Array Value → Prop} {Post : Pt → Array Value → Option Value → Pt → Prop} {S : Spec} {P : Array Value → State → Prop} {K : Program → Env → List Frame → State → Array Value → Prop} {Q : Array Value → State → Outcome → State → Prop} {bytes : ByteArray} {maxL : Nat} {ret : Option FieldType} {E : Array Value → State → Outcome → State → List Loc → Nat → Nat → Prop}
    (hM : MetFree l y S P K Q) (hframes : S.room.frames + 1 ≤ R.frames) (hlocals : W + (maxL + 11) + S.room.locals ≤ R.locals)
    (hpre : ∀ m meth c (A : Pt) a, Stand p l e R s m sargs below meth c A.U A.locs A.cells A.slots → Pre A a → S.pre.before a A.U = true ∧ (Jvm.Cond.codeWith y bytes maxL ret xt).before a A.U = true ∧ (Jvm.Cond.initialized y.cls).before a A.U = true ∧ A.cells + S.room.cells ≤ R.cells ∧ A.slots + S.room.slots ≤ R.slots)
    (hP : ∀ m meth c (A : Pt) a (g : JFrame) mk, Stand p l e R s m sargs below meth c A.U A.locs A.cells A.slots → Pre A a → P a (A.U.calling g mk a))
    (hK : ∀ m meth c (A : Pt) a (g : JFrame) mk, Stand p l e R s m sargs below meth c A.U A.locs A.cells A.slots → Pre A a → K p e (A.U.setTop g).frames (A.U.calling g mk a) a)
    (hQ : ∀ a first o t, Q a first o t → ∃ L k n, ReturnedEndW first o t L k n ∧ E a first o t L k n)
    (hpost : ∀ m meth c (A : Pt) a (g : JFrame) mk v t L k n, Stand p l e R s m sargs below meth c A.U A.locs A.cells A.slots → Pre A a → Q a (A.U.calling g mk a) (.returned v) t → ReturnedEndW (A.U.calling g mk a) (.returned v) t L k n → E a (A.U.calling g mk a) (.returned v) t L k n →
      Post A a v ⟨(({ A.U with heap := t.heap, slotsUsed := t.slotsUsed } : State).setVm t.vm), A.locs ++ L, A.cells + k, A.slots + n⟩) : BackS l R p e below s sargs y len W Pre Post := by
  intro m meth c A f ig mk a X hfm hsz hdc hW hnm hpr
  obtain ⟨p1, p2, p3, p4, p5⟩ := hpre m meth c A a X hpr
  obtain ⟨mk', mY, cY, n1, n2, n3, -, n4, -, -, -, -⟩ := Cond.codeWith_spec p2
  cases n1.symm.trans hnm
  obtain ⟨kY, y1, -⟩ := className_of_methodNamed hnm
  subst hfm
  have hap := Spec.appliesLoose_calling (g := f) X.here hdc hnm y1 (Cond.initialized_spec (findClass_of_methodNamed hnm) y1 p3) (X.room_calling (g := f) (R' := S.room) hsz n2 n3 hframes (by rw [n4]; omega) p4 p5) p1
  obtain ⟨mid, hmid⟩ := X.here.above
  obtain ⟨o, s₂, st, -, hend, hq⟩ := Steps.callFree hM p X.admits X.cas X.clock (acts := []) (mid := .java f :: mid) (by rw [State.frames_setTop' f X.here.top, hmid]; rfl) hap (hP _ _ _ _ _ f mk X hpr) (hK _ _ _ _ _ f mk X hpr)
  obtain ⟨L, k, n, hre, hE⟩ := hQ _ _ _ _ hq
  obtain ⟨v, rfl⟩ := hre.1
  obtain ⟨e1, e2, e3⟩ := landed X.here hdc hre hend
  obtain ⟨X', hS⟩ := X.movedW ((X.here.setHeapUsed s₂.heap s₂.slotsUsed).setVm e2.alike) X.tail rfl rfl e2 hre.2.2.1 e3
  refine ⟨v, ⟨_, _, _, _⟩, X', hS, e3.2.1, hpost _ _ _ _ _ f mk v s₂ L k n X hpr hq hre hE, ?_⟩
  have st' : Steps p.tables e below (doInvoke e (A.U.setTop f) [] mk a).1 s₂ := st
  rw [e1] at st'
  exact st'
theorem CtH.back {xt : List (Nat × Nat × Nat × Nat)} {R : Room} {p : Program} {e : Env} {below : List Frame} {s : State} {args : Array Value} {vm0 : Vm} {h : Heap} {len Wt : Nat} (K : CtH g D' xt as H Lt Q') (W : GW g) (hZ : g.Z.Warmed39 vm0) (wc : (Jvm.Cond.codeWith D'.y D'.cd D'.mx D'.rt xt).before g.a0 g.Z = true) (wz : (Jvm.Cond.initialized D'.y.cls).before g.a0 g.Z = true)
    (hf : D'.rm.frames + 1 ≤ R.frames) (hl : Wt + (D'.mx + 11) + D'.rm.locals ≤ R.locals) (HC : CHv g.Z g.EL vm0 h) (E0 : Ext g.Z.heap h) (P : Hp g vm0 h H Lt) :
    BackS g.l R p e below (s.setVm vm0) args D'.y len Wt (fun A a => a = as ∧ A.U.heap = h ∧ A.cells + D'.rm.cells ≤ R.cells ∧ A.slots + D'.rm.slots ≤ R.slots)
      (fun A _ v B => ∃ L, Q' v B.U.vm B.U.heap ∧ Fr g.Z.heap.size L ∧ Ext g.Z.heap B.U.heap ∧ B.locs = A.locs ++ L ∧ B.cells = A.cells + D'.rm.cells ∧ B.slots = A.slots + D'.rm.slots ∧ CHr g.Z g.EL vm0 h B.U.vm B.U.heap) :=
  bsWith (xt := xt) (bytes := D'.cd) (maxL := D'.mx) (ret := D'.rt) (E := fun _ first o t L k n => k = D'.rm.cells ∧ n = D'.rm.slots ∧ (∃ v, o = .returned v ∧ Q' v t.vm t.heap) ∧ Fr g.Z.heap.size L ∧ Ext g.Z.heap t.heap ∧ CHr g.Z g.EL first.vm first.heap t.vm t.heap) K hf hl
    (fun m meth c A a Y hp => have hU : g.Z.Warmed39 A.U.vm := wtrans (s := s.setVm vm0) hZ Y.warmed
      ⟨by show (Jvm.Cond.and _ .tt).before a A.U = true; rw [Cond.before_and, mv hU wc]; rfl, mv hU wc, mv hU wz, hp.2.2.1, hp.2.2.2⟩)
    (fun m meth c A a g' mk Y hp => by
      have hat := CHv.at Y hZ W.2.1 HC
      have e1 : (A.U.calling g' mk a).heap = h := hp.2.1
      have e2 : (A.U.calling g' mk a).vm = A.U.vm := rfl
      refine ⟨hp.1, wtrans (s := s.setVm vm0) hZ Y.warmed, ?_, ?_, ?_⟩
      · rw [e1, e2]; exact hat.1
      · rw [e1]; exact E0
      · rw [e1, e2]; exact P.move hat (ext_rfl _))
    (fun _ _ _ _ _ _ _ _ _ => trivial)
    (fun _ _ _ _ ⟨v, L, h1, h2, h3, h4, h5, h6⟩ => ⟨L, _, _, h6, rfl, rfl, ⟨v, h1, h2⟩, h3, h5, h4⟩)
    (fun m meth c A a g' mk v t L k n Y hp _ _ ⟨e1, e2, ⟨v', e3, e4⟩, e5, e6, e7⟩ => by
      cases e3; subst e1 e2
      refine ⟨L, e4, e5, e6, rfl, rfl, rfl, (CHv.at Y hZ W.2.1 HC).trans ?_⟩
      rw [← hp.2.1]; exact e7)
theorem r_ifaceH {xt : List (Nat × Nat × Nat × Nat)} (B : RH g D M T H Lt cs ss) {ix cnt W cs' ss' : Nat} {y : MethodName} {C0 : String} {b : Addr} {argsL rest : List Value} {ps : List FieldType} {r : Option FieldType} (hd : decode D.cd pc = .ok (.invokeinterface ix cnt, 5)) (hp : pc + 5 = pc')
    (w1 : (Jvm.Cond.methodLink D.y.cls ix y).before g.a0 g.Z = true) (wd : (Jvm.Cond.declares y).before g.a0 g.Z = true) (wf : (Jvm.Cond.interfaceMethod y.cls y.cls y.name y.desc).before g.a0 g.Z = true) (hfa : ((Jvm.Cond.interfaceMethod y.cls y.cls y.name y.desc).onTables && (Jvm.Cond.interfaceMethod y.cls y.cls y.name y.desc).keepsFace) = true) (ws : (Jvm.Cond.selects C0 y D'.y).before g.a0 g.Z = true) (w2 : (Jvm.Cond.instanceMethod D'.y).before g.a0 g.Z = true)
    (wp : (Jvm.Cond.publicMethod D'.y).before g.a0 g.Z = true) (wu : (Jvm.Cond.unhidden C0 y.name y.desc).before g.a0 g.Z = true) (wk : (Jvm.Cond.castable C0 y.cls).before g.a0 g.Z = true)
    (w3 : (Jvm.Cond.initialized D'.y.cls).before g.a0 g.Z = true) (w4 : (Jvm.Cond.codeWith D'.y D'.cd D'.mx D'.rt xt).before g.a0 g.Z = true)
    (hy : y.cls ≠ "java/lang/invoke/MethodHandle" ∧ y.cls ≠ "java/lang/invoke/VarHandle") (F : Al g H Lt fun h => Exa g.Z h b C0) (C : CtH g D' xt as H Lt Q') (has : (.ref b :: argsL).toArray = as) (pd : parseMethodDescriptor y.desc = some ⟨ps, r⟩) (hlen : argsL.length = ps.length) (hst : S = argsL.reverse ++ .ref b :: rest)
    (hsz : Ls.size = D.mx) (hW : (rest.map fun v => v.category).sum = W) (ok : CallOK D D' W cs ss cs' ss')
    (K : ∀ T' v, Rn g D M T' (Q' v) cs' ss' → Fn g D M Q (T'.setTop (mkF M.m pc' Ls (v.toList ++ rest)))) : Fn g D M Q (T.setTop (mkF M.m pc Ls S)) := by
  obtain ⟨hf, hl, hc, hs, hc', hs'⟩ := ok
  subst hp hc hs
  obtain ⟨st, vm0, k0, locs, X, hS, hk, hZ, hown, hC, N, E0, hH⟩ := B
  obtain ⟨cB, kB, q1, q2, q3⟩ := isOf (s := M.s.setVm vm0) (T := T) hZ rfl (F _ _ E0 hH)
  obtain ⟨v, vm1, Bp, -, X', hS', hg', ⟨L, hQ, hL, hE, e1, e2, e3, hC'⟩, stp⟩ := X.interfaceBackS st.2.1 hown (mvT hZ w1) (mvT hZ wd) (mvT hZ wf hfa) (mvT hZ ws) (mvT hZ w2) (mvT hZ wp) (mvT hZ wu) (mvT hZ wk) hy (CtH.back (p := M.p) (e := M.e) (below := M.below) (s := M.s) (args := M.args) (len := 5) (Wt := W) C st.1 hZ w4 w3 hf hl hC.1 E0 hH) q1 q2 q3 (g := mkF M.m pc Ls S) rfl (hsz.trans st.2.2.2.1.symm) (Steps.refl _) (argsL := argsL) (rest := rest) (lenOf pd hlen) hst (by show 2 * 0 + _ ≤ _; rw [hW]; omega) (hb st.2.2.1 hd) (fun _ _ => ⟨has, rfl, hc', hs'⟩)
  exact (K Bp.U v (Rn.after st hS hk hZ hown hC N X' hS' hg' hQ hL hE e1 e2 e3 hC')).go fun t => stp.trans
theorem r_privateS (B : RH g D M T H Lt cs ss) {ix W cs' ss' : Nat} {C0 C1 : String} {b : Addr} {argsL rest : List Value} {ps : List FieldType} {r : Option FieldType} (hd : decode D.cd pc = .ok (.invokevirtual ix, 3)) (hp : pc + 3 = pc')
    (w1 : (Jvm.Cond.methodLink D.y.cls ix D'.y).before g.a0 g.Z = true) (wp : (Jvm.Cond.privateMethod D'.y).before g.a0 g.Z = true) (wi : (Jvm.Cond.selects C1 D'.y D'.y).before g.a0 g.Z = true) (w2 : (Jvm.Cond.instanceMethod D'.y).before g.a0 g.Z = true) (w3 : (Jvm.Cond.initialized D'.y.cls).before g.a0 g.Z = true) (w4 : (Jvm.Cond.code D'.y D'.cd D'.mx D'.rt).before g.a0 g.Z = true)
    (hy : D'.y.cls ≠ "java/lang/invoke/MethodHandle" ∧ D'.y.cls ≠ "java/lang/invoke/VarHandle") (F : Al g H Lt fun h => Exa g.Z h b C0) (C : Ct g D' as H Lt Q') (has : (.ref b :: argsL).toArray = as) (pd : parseMethodDescriptor D'.y.desc = some ⟨ps, r⟩) (hlen : argsL.length = ps.length) (hst : S = argsL.reverse ++ .ref b :: rest)
    (hsz : Ls.size = D.mx) (hW : (rest.map fun v => v.category).sum = W) (ok : CallOK D D' W cs ss cs' ss')
    (K : ∀ T' v, Rn g D M T' (Q' v) cs' ss' → Fn g D M Q (T'.setTop (mkF M.m pc' Ls (v.toList ++ rest)))) : Fn g D M Q (T.setTop (mkF M.m pc Ls S)) := by
  obtain ⟨hf, hl, hc, hs, hc', hs'⟩ := ok
  subst hp hc hs
  obtain ⟨st, vm0, k0, locs, X, hS, hk, hZ, hown, hC, N, E0, hH⟩ := B
  obtain ⟨cB, kB, q1, q2, cell, c1, c2, c3⟩ := isOf (s := M.s.setVm vm0) (T := T) hZ rfl (F _ _ E0 hH)
  obtain ⟨c2, r2, m2, -, -, t3, -, kt, t2, t4⟩ := Cond.selects_spec (args := M.args) (s := M.s.setVm vm0) (mvT hZ wi)
  have t1 := findClass_of_methodNamed t3
  have hpv := Cond.privateMethod_at (args := M.args) (s := M.s.setVm vm0) (mvT hZ wp)
  have hse := selects_self_of_private (s := M.s.setVm vm0) (args := M.args) t1 t2 t4 hpv (mvT hZ w2) hy
  obtain ⟨v, vm1, Bp, -, X', hS', hg', ⟨L, hQ, hL, hE, e1, e2, e3, hC'⟩, stp⟩ := X.privateBackS st.2.1 hown (mvT hZ w1) (mvT hZ w2) hse hpv (mvT hZ w4) hy (Ct.back (p := M.p) (e := M.e) (below := M.below) (s := M.s) (args := M.args) (len := 3) (Wt := W) C st.1 hZ w4 w3 hf hl hC.1 E0 hH) (g := mkF M.m pc Ls S) rfl (hsz.trans st.2.2.2.1.symm) (Steps.refl _) c1 (fun q e => by rw [e] at c3; cases c3) (argsL := argsL) (rest := rest) (lenOf pd hlen) hst (by show 2 * 0 + _ ≤ _; rw [hW]; omega) (hb st.2.2.1 hd) (fun _ _ => ⟨has, rfl, hc', hs'⟩)
  exact (K Bp.U v (Rn.after st hS hk hZ hown hC N X' hS' hg' hQ hL hE e1 e2 e3 hC')).go fun t => stp.trans
theorem same_self {s : State} {args : Array Value} {x y z : MethodName} {C : String} (wi : (Jvm.Cond.instanceMethod y).before args s = true) (ws : (Jvm.Cond.selects C x z).before args s = true) (hz : z.cls = y.cls) (hy : y.cls ≠ "java/lang/invoke/MethodHandle" ∧ y.cls ≠ "java/lang/invoke/VarHandle") : (Jvm.Cond.sameMethod y.cls y.cls y.name y.desc).before args s = true := by
  obtain ⟨mk, methM, hn, -, -, -⟩ := Cond.instanceMethod_spec wi
  have hf := State.methodFound?_of_named hn hy
  obtain ⟨c2, r2, m2, -, -, t3, -, kt, t2, t4⟩ := Cond.selects_spec ws
  have h1 := findClass_of_methodNamed hn
  have h2 := findClass_of_methodNamed t3
  rw [hz] at h2
  have e : m2.cls = mk.cls := Option.some.inj (h2.symm.trans h1)
  rw [e] at t2
  have hn' : s.methodNamed? ⟨y.cls, y.name, y.desc⟩ = some mk := hn
  simp [Cond.before, Cond.holds, Cond.value, h1, hf, hn', t2, t4]
theorem nf_mate {s : State} {args : Array Value} {x y z : MethodName} {C : String} (ws : (Jvm.Cond.selects C x z).before args s = true) (hz : z.cls = y.cls) : NotFace s y := fun r0 h0 => by
  obtain ⟨c2, r2, m2, -, -, t3, -, kt, t2, t4⟩ := Cond.selects_spec ws
  have h1 := findClass_of_methodNamed h0
  have h2 := findClass_of_methodNamed t3
  rw [hz] at h2
  have e : m2.cls = r0.cls := Option.some.inj (h2.symm.trans h1)
  rw [e] at t2
  exact ⟨kt, t2, t4⟩
theorem r_super (B : RH g D M T H Lt cs ss) {ix W cs' ss' : Nat} {a : Addr} {C0 : String} {argsL rest : List Value} {ps : List FieldType} {r : Option FieldType} (hd : decode D.cd pc = .ok (.invokespecial ix, 3)) (hp : pc + 3 = pc') (hy1 : D'.y.name ≠ "<init>") (ws : (Jvm.Cond.sameMethod D'.y.cls D'.y.cls D'.y.name D'.y.desc).before g.a0 g.Z = true) (wu : (Jvm.Cond.superclass D.y.cls D'.y.cls).before g.a0 g.Z = true) (F : Al g H Lt fun h => Exa g.Z h a C0)
    (w1 : (Jvm.Cond.methodLink D.y.cls ix D'.y).before g.a0 g.Z = true) (w2 : (Jvm.Cond.instanceMethod D'.y).before g.a0 g.Z = true) (w3 : (Jvm.Cond.initialized D'.y.cls).before g.a0 g.Z = true) (w4 : (Jvm.Cond.code D'.y D'.cd D'.mx D'.rt).before g.a0 g.Z = true)
    (hy : D'.y.cls ≠ "java/lang/invoke/MethodHandle" ∧ D'.y.cls ≠ "java/lang/invoke/VarHandle") (C : Ct g D' as H Lt Q') (has : (.ref a :: argsL).toArray = as) (pd : parseMethodDescriptor D'.y.desc = some ⟨ps, r⟩) (hlen : argsL.length = ps.length) (hst : S = argsL.reverse ++ .ref a :: rest)
    (hsz : Ls.size = D.mx) (hW : (rest.map fun v => v.category).sum = W) (ok : CallOK D D' W cs ss cs' ss')
    (K : ∀ T' v, Rn g D M T' (Q' v) cs' ss' → Fn g D M Q (T'.setTop (mkF M.m pc' Ls (v.toList ++ rest)))) : Fn g D M Q (T.setTop (mkF M.m pc Ls S)) := by
  obtain ⟨hf, hl, hc, hs, hc', hs'⟩ := ok
  subst hp hc hs
  obtain ⟨st, vm0, k0, locs, X, hS, hk, hZ, hown, hC, N, E0, hH⟩ := B
  obtain ⟨v, vm1, Bp, -, X', hS', hg', ⟨L, hQ, hL, hE, e1, e2, e3, hC'⟩, stp⟩ := superBackS X st.2.1 hZ hown w1 ws w2 wu hy1 (Ct.back (p := M.p) (e := M.e) (below := M.below) (s := M.s) (args := M.args) (len := 3) (Wt := W) C st.1 hZ w4 w3 hf hl hC.1 E0 hH) rfl (Ins.self (F _ _ E0 hH)) (g := mkF M.m pc Ls S) rfl (hsz.trans st.2.2.2.1.symm) w4 (argsL := argsL) (rest := rest) (lenOf pd hlen) hst (by show 2 * 0 + _ ≤ _; rw [hW]; omega) (hb st.2.2.1 hd) (fun _ _ => ⟨has, rfl, hc', hs'⟩)
  exact (K Bp.U v (Rn.after st hS hk hZ hown hC N X' hS' hg' hQ hL hE e1 e2 e3 hC')).go fun t => stp.trans
theorem Rn.perm (B : RH g D M T H Lt cs ss) (q : H.Perm H') : RH g D M T H' Lt cs ss := B.map fun _ _ _ P => P.perm q
theorem Rn.sub (B : RH g D M T H Lt cs ss) (q : H'.Sublist H) : RH g D M T H' Lt cs ss := B.map fun _ _ _ P => P.sub q
theorem Rn.fact {P : Prop} (B : RH g D M T H Lt cs ss) (q : ∀ vm h, Ext g.Z.heap h → Hp g vm h H Lt → P) : P := by
  obtain ⟨st, vm0, k0, locs, X, hS, hk, hZ, hown, hC, N, E0, hH⟩ := B
  exact q _ _ E0 hH
theorem Rn.fr (B : RH g D M T H Lt cs ss) (i : Nat) {x : Ent} (hi : H[i]? = some x) : RH g D M T (x :: H.eraseIdx i) Lt cs ss := B.map fun _ _ _ P => P.front hi
theorem Rn.dl (B : RH g D M T H Lt cs ss) (i : Nat) : RH g D M T (H.eraseIdx i) Lt cs ss := B.map fun _ _ _ P => P.del i
def StrIn (Lt : List SE) (x : Addr) : Prop := ∃ (b : Addr) (cd : Int32) (vs : List Value), (x, b, cd, vs) ∈ Lt
theorem sI {a : Addr} (hm : StrIn Lt a) : Al g H Lt fun h => Exa g.Z h a "java/lang/String" := fun vm h E P => by
  obtain ⟨b, cd, vs, hm⟩ := hm
  exact sE hm vm h E P
theorem r_clone (B : RH g D M T H Lt cs ss) {ix W cap cs' ss' : Nat} {a : Addr} {ad : String} {ty : FieldType} {vs rest : List Value} (hd : decode D.cd pc = .ok (.invokevirtual ix, 3)) (hp : pc + 3 = pc')
    (w1 : (Jvm.Cond.methodLink D.y.cls ix ⟨ad, "clone", "()Ljava/lang/Object;"⟩).before g.a0 g.Z = true) (w2 : (Jvm.Cond.sameMethod ad "java/lang/Object" "clone" "()Ljava/lang/Object;").before g.a0 g.Z = true) (w3 : (Jvm.Cond.native ⟨"java/lang/Object", "clone", "()Ljava/lang/Object;"⟩).before g.a0 g.Z = true) (w4 : (Jvm.Cond.instanceMethod ⟨"java/lang/Object", "clone", "()Ljava/lang/Object;"⟩).before g.a0 g.Z = true) (w5 : (Jvm.Cond.selects ad ⟨ad, "clone", "()Ljava/lang/Object;"⟩ ⟨"java/lang/Object", "clone", "()Ljava/lang/Object;"⟩).before g.a0 g.Z = true) (w6 : (Jvm.Cond.castable ad "java/lang/Cloneable").before g.a0 g.Z = true)
    (FA : Al g H Lt fun h => Ary g.Z h a ty ad vs) (hne : ad ≠ "") (hob : ∀ C, ty ≠ .object C) (hcap : vs.length ≤ cap) (hc : cs + 1 = cs') (hs : ss + cap = ss') (hc' : cs' ≤ D.rm.cells) (hs' : ss' ≤ D.rm.slots) (hsz : Ls.size = D.mx) (hW : (rest.map fun v => v.category).sum = W) (hf : 1 ≤ D.rm.frames) (hl : W + 14 ≤ D.rm.locals)
    (K : ∀ T' a', RH g D M T' ((a', .inr (ty, ad, vs)) :: H) Lt cs' ss' → Fn g D M Q (T'.setTop (mkF M.m pc' Ls (.ref a' :: rest)))) : Fn g D M Q (T.setTop (mkF M.m pc Ls (.ref a :: rest))) := by
  subst hp hc hs
  obtain ⟨st, vm0, k0, locs, X, hS, hk, hZ, hown, hC, N, E0, hH⟩ := B
  obtain ⟨c, r1, r2, r3, r4, r5, r6⟩ := FA _ _ E0 hH
  have hsl : c.slots.size = vs.length := by rw [r2]; simp
  have FC : FitC g.Z c := fitC_of r1 fun i hi v hv => by
    rw [r2] at hv; exact r4 v (List.mem_of_getElem? (by simpa using hv))
  obtain ⟨T', h', X', e', E, A1, A2, stp⟩ := cloneA (Z := g.Z) (a0 := g.a0) X st.2.1 hZ hown w1 w2 w3 w4 w5 w6 rfl r1 (r6 hne) FC (g := mkF M.m pc Ls (.ref a :: rest)) rfl (hsz.trans st.2.2.2.1.symm) rfl (hb st.2.2.1 hd) hf (W := W) (cap := cap) (by show 2 * 0 + _ ≤ _; rw [hW]; omega) hl (by rw [hsl]; exact hcap) hc' hs'
  have P' := hH.born (x := (T.heap.size, .inr (ty, ad, vs))) hC.1 E0 E rfl ⟨cloneOf c, A1, r2, r3, r4, fun C q => absurd q (hob C), fun _ => A2⟩ trivial
  exact (K T' _ ⟨st, vm0, k0, locs, X', hS, by rw [e']; exact Nat.le_trans hk E.1, hZ, hown, by rw [e']; exact hC.trans (CHr.ext E hC.1), N, by rw [e']; exact ext_trans E0 E, by rw [e']; exact P'⟩).go stp
theorem ns_root2 {Z : State} {a0 : Array Value} {O K C : String} {y z : MethodName} (w : (Jvm.Cond.noSuperclass O).before a0 Z = true) (ws : (Jvm.Cond.selects C y z).before a0 Z = true) (hz : z.cls = K) (hn : O ≠ K) : NS Z O K := by
  obtain ⟨c, k, h1, h2, h3, -, -⟩ := Cond.noSuperclass_spec w
  obtain ⟨c2, r2, m2, -, -, t3, -, kt, t2, t4⟩ := Cond.selects_spec ws
  have t1 := findClass_of_methodNamed t3
  rw [hz] at t1
  have ne := ids_ne h1 t1 hn
  refine ⟨c, m2.cls, h1, t1, fun fuel => ?_⟩
  cases fuel with
  | zero => rfl
  | succ f => simp [Vm.isSubclassAux, ne, h2, h3]
theorem ins_chain2 {Z : State} {h : Heap} {a : Addr} {a0 : Array Value} {C S K C' : String} {y z : MethodName} (E : Exa Z h a C) (w : (Jvm.Cond.superclass C S).before a0 Z = true) (N : NS Z C K) (ws : (Jvm.Cond.selects C' y z).before a0 Z = true) (hz : z.cls = K) (hn : C ≠ K) : Ins Z h a K false := by
  obtain ⟨cell, k, e1, e2, e3, e4, -⟩ := E
  obtain ⟨c, t, g1, g2, g3⟩ := N
  obtain ⟨c2, r2, m2, -, -, t3, -, kt, t2, t4⟩ := Cond.selects_spec ws
  have t1 := findClass_of_methodNamed t3
  rw [hz] at t1
  obtain ⟨p, kc, kp, q1, q2, q3, q4, q5, q6, q7⟩ := Cond.superclass_spec e2 w
  cases g1.symm.trans e2
  cases g2.symm.trans t1
  have n1 := ids_ne e2 t1 hn
  have hA : Z.vm.assignable cell.cls m2.cls = false := by
    show Z.vm.assignableAux (255 + 1) cell.cls m2.cls = false
    cases hk : kt.kind <;> simp [Vm.assignableAux, n1, q2, t2, q5, hk, t4, Vm.isSubclass, g3]
  exact ⟨cell, _, e1, t1, by simp [hA]⟩
theorem pm1 {α : Type} (A B : List α) {R : List α} : (A ++ (B ++ R)).Perm (B ++ (A ++ R)) := List.perm_append_comm_assoc A B R
theorem pm2 {α : Type} (A B C : List α) {R : List α} : (A ++ (B ++ (C ++ R))).Perm (C ++ (A ++ (B ++ R))) := ((pm1 B C).append_left A).trans (pm1 A C)
theorem Kv1 {A' : Vm → Heap → Prop} {rest : List Value} {x : Value} (K : ∀ T', Rn g D M T' A' cs ss → Fn g D M Q (T'.setTop (mkF M.m pc Ls (x :: rest)))) : ∀ T' v, Rn g D M T' (fun vm h => v = some x ∧ A' vm h) cs ss → Fn g D M Q (T'.setTop (mkF M.m pc Ls (v.toList ++ rest))) := by
  intro T' v B
  obtain ⟨rfl, B'⟩ := Rn.and B
  exact K T' B'
theorem Kv0 {A' : Vm → Heap → Prop} {rest : List Value} (K : ∀ T', Rn g D M T' A' cs ss → Fn g D M Q (T'.setTop (mkF M.m pc Ls rest))) : ∀ T' v, Rn g D M T' (fun vm h => v = none ∧ A' vm h) cs ss → Fn g D M Q (T'.setTop (mkF M.m pc Ls (v.toList ++ rest))) := by
  intro T' v B
  obtain ⟨rfl, B'⟩ := Rn.and B
  exact K T' B'
theorem efr {as : Array Value} {mx : Nat} {L : Array Slot} (h : (entryFrame ⟨0, 0⟩ as mx).locals = L) : ∀ m, entryFrame m as mx = mkF m 0 L [] := fun m => by subst h; rfl
theorem Kex {α : Type} {P : α → Option Value → Vm → Heap → Prop} {rest : List Value} (K : ∀ x, ∀ T' v, Rn g D M T' (P x v) cs ss → Fn g D M Q (T'.setTop (mkF M.m pc Ls (v.toList ++ rest)))) : ∀ T' v, Rn g D M T' (fun vm h => ∃ x, P x v vm h) cs ss → Fn g D M Q (T'.setTop (mkF M.m pc Ls (v.toList ++ rest))) := by
  intro T' v B
  obtain ⟨x, B'⟩ := Rn.ex B
  exact K x T' v B'
end Rules
theorem nar_ref {t : FieldType} {v : Value} (h : v.isRef = true) (ht : t.isReference = true) : narrow t v = v := by cases t <;> first | (cases v <;> first | rfl | (cases h; done)) | (cases ht; done)
theorem fit_ref {t : FieldType} {v : Value} (h : v.isRef = true) (ht : t.isReference = true) : fits t v = true := by cases t <;> first | (cases v <;> first | rfl | (cases h; done)) | (cases ht; done)
theorem cat_ref {v : Value} (h : v.isRef = true) : v.category = 1 := Jvm.Free.XT.cat1 h
theorem ins_no {Z : State} {h : Heap} {a : Addr} {a0 : Array Value} {C S K : String} {n : Nat} (E : Exa Z h a C) (w : (Jvm.Cond.superclass C S).before a0 Z = true) (w0 : (Jvm.Cond.noSuperclass S).before a0 Z = true) (wi : (Jvm.Cond.instantiable K n).before a0 Z = true) (h1 : C ≠ K) (h2 : S ≠ K) : Ins Z h a K false := by
  obtain ⟨cell, k, e1, e2, e3, e4, -⟩ := E
  obtain ⟨t, kt, t1, t2, t3, t4, -⟩ := Cond.instantiable_spec wi
  obtain ⟨p, kc, kp, q1, q2, q3, q4, q5, q6, q7⟩ := Cond.superclass_spec e2 w
  obtain ⟨p', kp', r1, r2, r3, r4, r5⟩ := Cond.noSuperclass_spec w0
  cases q1.symm.trans r1
  have n1 := ids_ne e2 t1 h1
  have n2 := ids_ne r1 t1 h2
  have hi : kt.isInterface = false := (Bool.or_eq_false_iff.mp t4).1
  have hs0 : ∀ fuel, Z.vm.isSubclassAux fuel p t = false := fun fuel => by
    cases fuel with
    | zero => rfl
    | succ f => simp [Vm.isSubclassAux, n2, r2, r3]
  have hs : ∀ fuel, Z.vm.isSubclassAux fuel cell.cls t = false := fun fuel => by
    cases fuel with
    | zero => rfl
    | succ f => simp [Vm.isSubclassAux, n1, q2, q4, hs0]
  have hA : Z.vm.assignable cell.cls t = false := by
    show Z.vm.assignableAux (255 + 1) cell.cls t = false
    simp [Vm.assignableAux, n1, q2, t2, q5, t3, hi, Vm.isSubclass, hs]
  exact ⟨cell, t, e1, t1, by simp [hA]⟩
theorem tl1 {α : Type} {a : α} {l : List α} : ∀ y ∈ l, y ∈ a :: l := fun _ h => List.mem_cons_of_mem _ h
theorem tlm {α : Type} {a b : α} {l : List α} : ∀ y ∈ a :: l, y ∈ a :: b :: l := fun _ h => (List.mem_cons.mp h).elim (fun e => e ▸ List.mem_cons_self ..) fun h => List.mem_cons_of_mem _ (tl1 _ h)
theorem tlh {α : Type} {a : α} {l : List α} (m : a ∈ l) : ∀ y ∈ a :: l, y ∈ l := fun _ h => (List.mem_cons.mp h).elim (fun e => e ▸ m) id
theorem Hp.nil {g : GG} {vm : Vm} {h : Heap} : Hp g vm h [] [] := ⟨nofun, List.nodup_nil, nofun, nofun⟩

abbrev sn0 := "java/lang/AbstractStringBuilder"
abbrev sn1 := "com/example/credence/credence/gateway/EventStream$Event"
abbrev sn2 := "com/example/credence/credence/gateway/EventBytesPinLaw"
abbrev sn3 := "java/util/ImmutableCollections$ListItr"
abbrev sn4 := "java/util/ImmutableCollections$List12"
abbrev sn5 := "java/lang/StringBuilder"
abbrev sn6 := "java/util/ImmutableCollections$AbstractImmutableList"
abbrev sn7 := "java/util/ImmutableCollections"
abbrev sn8 := "java/util/ImmutableCollections$ListN"
abbrev sn9 := "java/lang/StringUTF16"
abbrev sn10 := "(Ljava/util/Collection;)Ljava/util/List;"
abbrev sn11 := "java/util/ImmutableCollections$AbstractImmutableCollection"
abbrev sn12 := "(Ljava/lang/String;)Ljava/lang/StringBuilder;"
abbrev sn13 := "()[Ljava/lang/Object;"
abbrev sn14 := "(Ljava/lang/String;)Ljava/lang/AbstractStringBuilder;"
abbrev sn15 := "([Ljava/lang/Object;ILjava/lang/Class;)[Ljava/lang/Object;"
abbrev sn16 := "java/nio/charset/Charset"
abbrev sn17 := "()Ljava/lang/Object;"
abbrev sn18 := "java/util/AbstractCollection"
abbrev sn19 := "(Ljava/lang/AbstractStringBuilder;Ljava/lang/Void;)V"
abbrev sn20 := "()Ljava/util/Iterator;"
abbrev sn21 := "java/util/AbstractList"
abbrev sn22 := "(Ljava/lang/Object;[Ljava/lang/Object;I)V"
abbrev sn23 := "([Ljava/lang/Object;I)[Ljava/lang/Object;"
abbrev sn24 := "java/lang/StringLatin1"
abbrev sn25 := "(Ljava/nio/charset/Charset;)[B"
abbrev sn26 := "(Ljava/lang/Object;Ljava/lang/Object;)V"
abbrev sn27 := "java/util/Collection"
abbrev sn28 := "(Ljava/lang/Object;)Ljava/lang/Object;"
abbrev sn29 := "(I)Ljava/lang/Object;"
abbrev sn30 := "java/lang/StringCoding"
abbrev sn31 := "([Ljava/lang/Object;)Ljava/util/List;"
abbrev sn32 := "(C)Ljava/lang/StringBuilder;"
abbrev sn33 := "(C)Ljava/lang/AbstractStringBuilder;"
abbrev sn34 := "(Ljava/lang/Object;ILjava/lang/Object;II)V"
abbrev sn35 := "Ljava/util/ImmutableCollections$ListN;"
abbrev sn36 := "(Ljava/nio/charset/Charset;B[B)[B"
abbrev sn37 := "(Ljava/lang/StringBuilder;)V"
abbrev sn38 := "(Ljava/lang/Object;)Z"
abbrev sn39 := "(ILjava/lang/String;)V"
abbrev sn40 := "()Ljava/lang/String;"
abbrev sn41 := "(Ljava/lang/String;)V"
abbrev sn42 := "ensureCapacityInternal"
abbrev sn43 := "java/nio/charset/StandardCharsets"
abbrev sn44 := "(I)[Ljava/lang/Object;"
abbrev sn45 := "(Ljava/lang/Object;)V"
abbrev sn46 := "(C)Ljava/lang/String;"
abbrev sn47 := "(ICC)Ljava/lang/String;"
abbrev sn48 := "([CIILjava/lang/Void;)V"
abbrev sn49 := "(Ljava/util/List;I)V"
abbrev sn50 := "DEFAULTCAPACITY_EMPTY_ELEMENTDATA"
abbrev sn51 := "Ljava/nio/charset/Charset;"
abbrev sn52 := "java/util/function/BiFunction"
abbrev sn53 := "java/io/Serializable"
abbrev sn54 := "jdk/internal/access/JavaLangAccess"
abbrev sn55 := "java/lang/CharSequence"
abbrev sn56 := "java/lang/Comparable"
abbrev sn57 := "java/util/RandomAccess"
abbrev sn58 := "java/lang/Appendable"
abbrev HW (g : GG) (c : Jvm.Cond) : Prop := c.before g.a0 g.Z = true
theorem gw {g : GG} (W : GW g) (i : Nat) {c : Jvm.Cond} (h : tables_1[i]? = some c) : HW g c := W.1 _ (List.mem_of_getElem? h)
theorem W0 {g} (W : GW g) : HW g (.methodLink sn2 7 ⟨sn2, "str", sn47⟩) := gw W 0 rfl
theorem W1 {g} (W : GW g) : HW g (.static ⟨sn2, "str", sn47⟩) := gw W 1 rfl
theorem W2 {g} (W : GW g) : HW g (.initialized sn2) := gw W 2 rfl
theorem W3 {g} (W : GW g) : HW g (.code ⟨sn2, "str", sn47⟩ method_3_code 3 (Option.some (FieldType.object "java/lang/String"))) := gw W 3 rfl
theorem W4 {g} (W : GW g) : HW g (.stringLink sn2 37 "") := gw W 4 rfl
theorem W5 {g} (W : GW g) : HW g (.initialized "java/lang/String") := gw W 5 rfl
theorem W6 {g} (W : GW g) : HW g (.instantiable "java/lang/String" 4) := gw W 6 rfl
theorem W7 {g} (W : GW g) : HW g (.arrayClass FieldType.byte) := gw W 7 rfl
theorem W8 {g} (W : GW g) : HW g (.laysFinal "java/lang/String" "java/lang/String" "value" "[B") := gw W 8 rfl
theorem W9 {g} (W : GW g) : HW g (.laysFinal "java/lang/String" "java/lang/String" "coder" "B") := gw W 9 rfl
theorem W10 {g} (W : GW g) : HW g (.soleField "java/lang/String" "value") := gw W 10 rfl
theorem W11 {g} (W : GW g) : HW g (.soleField "java/lang/String" "coder") := gw W 11 rfl
theorem W12 {g} (W : GW g) : HW g (.classLink sn2 13 "java/util/ArrayList") := gw W 12 rfl
theorem W13 {g} (W : GW g) : HW g (.instantiable "java/util/ArrayList" 3) := gw W 13 rfl
theorem W14 {g} (W : GW g) : HW g (.initialized "java/util/ArrayList") := gw W 14 rfl
theorem W15 {g} (W : GW g) : HW g (.methodLink sn2 15 ⟨"java/util/ArrayList", "<init>", "()V"⟩) := gw W 15 rfl
theorem W16 {g} (W : GW g) : HW g (.instanceMethod ⟨"java/util/ArrayList", "<init>", "()V"⟩) := gw W 16 rfl
theorem W17 {g} (W : GW g) : HW g (.code ⟨"java/util/ArrayList", "<init>", "()V"⟩ jdk_38_method_2_code 1 (Option.none : Option FieldType)) := gw W 17 rfl
theorem W18 {g} (W : GW g) : HW g (.methodLink "java/util/ArrayList" 1 ⟨sn21, "<init>", "()V"⟩) := gw W 18 rfl
theorem W19 {g} (W : GW g) : HW g (.instanceMethod ⟨sn21, "<init>", "()V"⟩) := gw W 19 rfl
theorem W22 {g} (W : GW g) : HW g (.initialized sn21) := gw W 22 rfl
theorem W23 {g} (W : GW g) : HW g (.code ⟨sn21, "<init>", "()V"⟩ jdk_39_method_1_code 1 (Option.none : Option FieldType)) := gw W 23 rfl
theorem W24 {g} (W : GW g) : HW g (.methodLink sn21 1 ⟨sn18, "<init>", "()V"⟩) := gw W 24 rfl
theorem W25 {g} (W : GW g) : HW g (.instanceMethod ⟨sn18, "<init>", "()V"⟩) := gw W 25 rfl
theorem W28 {g} (W : GW g) : HW g (.initialized sn18) := gw W 28 rfl
theorem W29 {g} (W : GW g) : HW g (.code ⟨sn18, "<init>", "()V"⟩ jdk_22_method_1_code 1 (Option.none : Option FieldType)) := gw W 29 rfl
theorem W30 {g} (W : GW g) : HW g (.methodLink sn18 1 ⟨"java/lang/Object", "<init>", "()V"⟩) := gw W 30 rfl
theorem W31 {g} (W : GW g) : HW g (.instanceMethod ⟨"java/lang/Object", "<init>", "()V"⟩) := gw W 31 rfl
theorem W32 {g} (W : GW g) : HW g (.code ⟨"java/lang/Object", "<init>", "()V"⟩ object_method_1_code 1 (Option.none : Option FieldType)) := gw W 32 rfl
theorem W33 {g} (W : GW g) : HW g (.fieldLink sn21 7 sn21 "modCount" "I") := gw W 33 rfl
theorem W34 {g} (W : GW g) : HW g (.lays "java/util/ArrayList" sn21 "modCount" "I") := gw W 34 rfl
theorem W35 {g} (W : GW g) : HW g (.fieldLink "java/util/ArrayList" 39 "java/util/ArrayList" sn50 "[Ljava/lang/Object;") := gw W 35 rfl
theorem W36 {g} (W : GW g) : HW g (.fieldLink "java/util/ArrayList" 9 "java/util/ArrayList" "elementData" "[Ljava/lang/Object;") := gw W 36 rfl
theorem W37 {g} (W : GW g) : HW g (.lays "java/util/ArrayList" "java/util/ArrayList" "elementData" "[Ljava/lang/Object;") := gw W 37 rfl
theorem W38 {g} (W : GW g) : HW g (.classLink sn2 20 sn1) := gw W 38 rfl
theorem W39 {g} (W : GW g) : HW g (.instantiable sn1 1) := gw W 39 rfl
theorem W40 {g} (W : GW g) : HW g (.initialized sn1) := gw W 40 rfl
theorem W41 {g} (W : GW g) : HW g (.methodLink sn2 22 ⟨sn1, "<init>", "(Ljava/util/List;)V"⟩) := gw W 41 rfl
theorem W42 {g} (W : GW g) : HW g (.instanceMethod ⟨sn1, "<init>", "(Ljava/util/List;)V"⟩) := gw W 42 rfl
theorem W43 {g} (W : GW g) : HW g (.code ⟨sn1, "<init>", "(Ljava/util/List;)V"⟩ prog_7_method_1_code 2 (Option.none : Option FieldType)) := gw W 43 rfl
theorem W44 {g} (W : GW g) : HW g (.methodLink sn1 3 ⟨"java/lang/Record", "<init>", "()V"⟩) := gw W 44 rfl
theorem W45 {g} (W : GW g) : HW g (.instanceMethod ⟨"java/lang/Record", "<init>", "()V"⟩) := gw W 45 rfl
theorem W47 {g} (W : GW g) : HW g (.initialized "java/lang/Record") := gw W 47 rfl
theorem W48 {g} (W : GW g) : HW g (.code ⟨"java/lang/Record", "<init>", "()V"⟩ jdk_30_method_1_code 1 (Option.none : Option FieldType)) := gw W 48 rfl
theorem W49 {g} (W : GW g) : HW g (.methodLink "java/lang/Record" 1 ⟨"java/lang/Object", "<init>", "()V"⟩) := gw W 49 rfl
theorem W50 {g} (W : GW g) : HW g (.methodLink sn1 9 ⟨"java/util/List", "copyOf", sn10⟩) := gw W 50 rfl
theorem W51 {g} (W : GW g) : HW g (.static ⟨"java/util/List", "copyOf", sn10⟩) := gw W 51 rfl
theorem W52 {g} (W : GW g) : HW g (.initialized "java/util/List") := gw W 52 rfl
theorem W53 {g} (W : GW g) : HW g (.code ⟨"java/util/List", "copyOf", sn10⟩ jdk_40_method_48_code 1 (Option.some (FieldType.object "java/util/List"))) := gw W 53 rfl
theorem W54 {g} (W : GW g) : HW g (.methodLink "java/util/List" 112 ⟨sn7, "listCopy", sn10⟩) := gw W 54 rfl
theorem W55 {g} (W : GW g) : HW g (.static ⟨sn7, "listCopy", sn10⟩) := gw W 55 rfl
theorem W56 {g} (W : GW g) : HW g (.initialized sn7) := gw W 56 rfl
theorem W57 {g} (W : GW g) : HW g (.code ⟨sn7, "listCopy", sn10⟩ jdk_56_method_3_code 2 (Option.some (FieldType.object "java/util/List"))) := gw W 57 rfl
theorem W58 {g} (W : GW g) : HW g (.classLink sn7 10 sn4) := gw W 58 rfl
theorem W59 {g} (W : GW g) : HW g (.superclass "java/util/ArrayList" sn21) := gw W 59 rfl
theorem W60 {g} (W : GW g) : HW g (.superclass sn21 sn18) := gw W 60 rfl
theorem W61 {g} (W : GW g) : HW g (.superclass sn18 "java/lang/Object") := gw W 61 rfl
theorem W62 {g} (W : GW g) : HW g (.noSuperclass "java/lang/Object") := gw W 62 rfl
theorem W63 {g} (W : GW g) : HW g (.classLink sn7 12 sn8) := gw W 63 rfl
theorem W64 {g} (W : GW g) : HW g (.methodLink sn7 20 ⟨sn27, "isEmpty", "()Z"⟩) := gw W 64 rfl
theorem W65 {g} (W : GW g) : HW g (.declares ⟨sn27, "isEmpty", "()Z"⟩) := gw W 65 rfl
theorem W66 {g} (W : GW g) : HW g (.interfaceMethod sn27 sn27 "isEmpty" "()Z") := gw W 66 rfl
theorem W67 {g} (W : GW g) : HW g (.selects "java/util/ArrayList" ⟨sn27, "isEmpty", "()Z"⟩ ⟨"java/util/ArrayList", "isEmpty", "()Z"⟩) := gw W 67 rfl
theorem W68 {g} (W : GW g) : HW g (.instanceMethod ⟨"java/util/ArrayList", "isEmpty", "()Z"⟩) := gw W 68 rfl
theorem W69 {g} (W : GW g) : HW g (.publicMethod ⟨"java/util/ArrayList", "isEmpty", "()Z"⟩) := gw W 69 rfl
theorem W70 {g} (W : GW g) : HW g (.unhidden "java/util/ArrayList" "isEmpty" "()Z") := gw W 70 rfl
theorem W71 {g} (W : GW g) : HW g (.castable "java/util/ArrayList" sn27) := gw W 71 rfl
theorem W72 {g} (W : GW g) : HW g (.code ⟨"java/util/ArrayList", "isEmpty", "()Z"⟩ jdk_38_method_9_code 1 (Option.some FieldType.boolean)) := gw W 72 rfl
theorem W73 {g} (W : GW g) : HW g (.fieldLink "java/util/ArrayList" 48 "java/util/ArrayList" "size" "I") := gw W 73 rfl
theorem W74 {g} (W : GW g) : HW g (.lays "java/util/ArrayList" "java/util/ArrayList" "size" "I") := gw W 74 rfl
theorem W75 {g} (W : GW g) : HW g (.methodLink sn7 26 ⟨"java/util/List", "of", "()Ljava/util/List;"⟩) := gw W 75 rfl
theorem W76 {g} (W : GW g) : HW g (.static ⟨"java/util/List", "of", "()Ljava/util/List;"⟩) := gw W 76 rfl
theorem W77 {g} (W : GW g) : HW g (.code ⟨"java/util/List", "of", "()Ljava/util/List;"⟩ jdk_40_method_36_code 0 (Option.some (FieldType.object "java/util/List"))) := gw W 77 rfl
theorem W78 {g} (W : GW g) : HW g (.fieldLink "java/util/List" 90 sn7 "EMPTY_LIST" sn35) := gw W 78 rfl
theorem W79 {g} (W : GW g) : HW g (.fieldLink sn1 15 sn1 "lines" "Ljava/util/List;") := gw W 79 rfl
theorem W80 {g} (W : GW g) : HW g (.laysFinal sn1 sn1 "lines" "Ljava/util/List;") := gw W 80 rfl
theorem W81 {g} (W : GW g) : HW g (.methodLink sn2 25 ⟨sn1, "bytes", "()[B"⟩) := gw W 81 rfl
theorem W82 {g} (W : GW g) : HW g (.declares ⟨sn1, "bytes", "()[B"⟩) := gw W 82 rfl
theorem W83 {g} (W : GW g) : HW g (.instanceMethod ⟨sn1, "bytes", "()[B"⟩) := gw W 83 rfl
theorem W84 {g} (W : GW g) : HW g (.selects sn1 ⟨sn1, "bytes", "()[B"⟩ ⟨sn1, "bytes", "()[B"⟩) := gw W 84 rfl
theorem W85 {g} (W : GW g) : HW g (.code ⟨sn1, "bytes", "()[B"⟩ prog_7_method_4_code 4 (Option.some (FieldType.array FieldType.byte))) := gw W 85 rfl
theorem W86 {g} (W : GW g) : HW g (.classLink sn1 85 sn5) := gw W 86 rfl
theorem W87 {g} (W : GW g) : HW g (.instantiable sn5 4) := gw W 87 rfl
theorem W88 {g} (W : GW g) : HW g (.initialized sn5) := gw W 88 rfl
theorem W89 {g} (W : GW g) : HW g (.methodLink sn1 87 ⟨sn5, "<init>", "()V"⟩) := gw W 89 rfl
theorem W90 {g} (W : GW g) : HW g (.instanceMethod ⟨sn5, "<init>", "()V"⟩) := gw W 90 rfl
theorem W91 {g} (W : GW g) : HW g (.code ⟨sn5, "<init>", "()V"⟩ jdk_67_method_1_code 1 (Option.none : Option FieldType)) := gw W 91 rfl
theorem W92 {g} (W : GW g) : HW g (.methodLink sn5 1 ⟨sn0, "<init>", "(I)V"⟩) := gw W 92 rfl
theorem W93 {g} (W : GW g) : HW g (.instanceMethod ⟨sn0, "<init>", "(I)V"⟩) := gw W 93 rfl
theorem W96 {g} (W : GW g) : HW g (.initialized sn0) := gw W 96 rfl
theorem W97 {g} (W : GW g) : HW g (.code ⟨sn0, "<init>", "(I)V"⟩ jdk_68_method_2_code 2 (Option.none : Option FieldType)) := gw W 97 rfl
theorem W98 {g} (W : GW g) : HW g (.methodLink sn0 3 ⟨"java/lang/Object", "<init>", "()V"⟩) := gw W 98 rfl
theorem W99 {g} (W : GW g) : HW g (.fieldLink sn0 18 "java/lang/String" "COMPACT_STRINGS" "Z") := gw W 99 rfl
theorem W100 {g} (W : GW g) : HW g (.fieldLink sn0 15 sn0 "value" "[B") := gw W 100 rfl
theorem W101 {g} (W : GW g) : HW g (.lays sn5 sn0 "value" "[B") := gw W 101 rfl
theorem W102 {g} (W : GW g) : HW g (.fieldLink sn0 22 sn0 "coder" "B") := gw W 102 rfl
theorem W103 {g} (W : GW g) : HW g (.lays sn5 sn0 "coder" "B") := gw W 103 rfl
theorem W104 {g} (W : GW g) : HW g (.methodLink sn1 24 ⟨"java/util/List", "iterator", sn20⟩) := gw W 104 rfl
theorem W105 {g} (W : GW g) : HW g (.declares ⟨"java/util/List", "iterator", sn20⟩) := gw W 105 rfl
theorem W106 {g} (W : GW g) : HW g (.interfaceMethod "java/util/List" "java/util/List" "iterator" sn20) := gw W 106 rfl
theorem W107 {g} (W : GW g) : HW g (.selects sn8 ⟨"java/util/List", "iterator", sn20⟩ ⟨sn6, "iterator", sn20⟩) := gw W 107 rfl
theorem W108 {g} (W : GW g) : HW g (.instanceMethod ⟨sn6, "iterator", sn20⟩) := gw W 108 rfl
theorem W109 {g} (W : GW g) : HW g (.publicMethod ⟨sn6, "iterator", sn20⟩) := gw W 109 rfl
theorem W110 {g} (W : GW g) : HW g (.unhidden sn8 "iterator" sn20) := gw W 110 rfl
theorem W111 {g} (W : GW g) : HW g (.castable sn8 "java/util/List") := gw W 111 rfl
theorem W112 {g} (W : GW g) : HW g (.initialized sn6) := gw W 112 rfl
theorem W113 {g} (W : GW g) : HW g (.code ⟨sn6, "iterator", sn20⟩ jdk_46_method_10_code 1 (Option.some (FieldType.object "java/util/Iterator"))) := gw W 113 rfl
theorem W114 {g} (W : GW g) : HW g (.classLink sn6 61 sn3) := gw W 114 rfl
theorem W115 {g} (W : GW g) : HW g (.instantiable sn3 4) := gw W 115 rfl
theorem W116 {g} (W : GW g) : HW g (.initialized sn3) := gw W 116 rfl
theorem W117 {g} (W : GW g) : HW g (.methodLink sn6 13 ⟨sn6, "size", "()I"⟩) := gw W 117 rfl
theorem W118 {g} (W : GW g) : HW g (.sameMethod sn6 sn18 "size" "()I") := gw W 118 rfl
theorem W119 {g} (W : GW g) : HW g (.declares ⟨sn18, "size", "()I"⟩) := gw W 119 rfl
theorem W120 {g} (W : GW g) : HW g (.selects sn8 ⟨sn6, "size", "()I"⟩ ⟨sn8, "size", "()I"⟩) := gw W 120 rfl
theorem W121 {g} (W : GW g) : HW g (.instanceMethod ⟨sn8, "size", "()I"⟩) := gw W 121 rfl
theorem W122 {g} (W : GW g) : HW g (.initialized sn8) := gw W 122 rfl
theorem W123 {g} (W : GW g) : HW g (.code ⟨sn8, "size", "()I"⟩ jdk_45_method_3_code 1 (Option.some FieldType.int)) := gw W 123 rfl
theorem W124 {g} (W : GW g) : HW g (.fieldLink sn8 7 sn8 "elements" "[Ljava/lang/Object;") := gw W 124 rfl
theorem W126 {g} (W : GW g) : HW g (.methodLink sn6 63 ⟨sn3, "<init>", sn49⟩) := gw W 126 rfl
theorem W127 {g} (W : GW g) : HW g (.instanceMethod ⟨sn3, "<init>", sn49⟩) := gw W 127 rfl
theorem W129 {g} (W : GW g) : HW g (.code ⟨sn3, "<init>", sn49⟩ jdk_53_method_1_code 3 (Option.none : Option FieldType)) := gw W 129 rfl
theorem W130 {g} (W : GW g) : HW g (.methodLink sn3 1 ⟨"java/lang/Object", "<init>", "()V"⟩) := gw W 130 rfl
theorem W131 {g} (W : GW g) : HW g (.fieldLink sn3 7 sn3 "list" "Ljava/util/List;") := gw W 131 rfl
theorem W132 {g} (W : GW g) : HW g (.laysFinal sn3 sn3 "list" "Ljava/util/List;") := gw W 132 rfl
theorem W133 {g} (W : GW g) : HW g (.fieldLink sn3 13 sn3 "size" "I") := gw W 133 rfl
theorem W134 {g} (W : GW g) : HW g (.laysFinal sn3 sn3 "size" "I") := gw W 134 rfl
theorem W135 {g} (W : GW g) : HW g (.fieldLink sn3 17 sn3 "cursor" "I") := gw W 135 rfl
theorem W136 {g} (W : GW g) : HW g (.lays sn3 sn3 "cursor" "I") := gw W 136 rfl
theorem W137 {g} (W : GW g) : HW g (.fieldLink sn3 20 sn3 "isListIterator" "Z") := gw W 137 rfl
theorem W138 {g} (W : GW g) : HW g (.laysFinal sn3 sn3 "isListIterator" "Z") := gw W 138 rfl
theorem W139 {g} (W : GW g) : HW g (.methodLink sn1 28 ⟨"java/util/Iterator", "hasNext", "()Z"⟩) := gw W 139 rfl
theorem W140 {g} (W : GW g) : HW g (.declares ⟨"java/util/Iterator", "hasNext", "()Z"⟩) := gw W 140 rfl
theorem W141 {g} (W : GW g) : HW g (.interfaceMethod "java/util/Iterator" "java/util/Iterator" "hasNext" "()Z") := gw W 141 rfl
theorem W142 {g} (W : GW g) : HW g (.selects sn3 ⟨"java/util/Iterator", "hasNext", "()Z"⟩ ⟨sn3, "hasNext", "()Z"⟩) := gw W 142 rfl
theorem W143 {g} (W : GW g) : HW g (.instanceMethod ⟨sn3, "hasNext", "()Z"⟩) := gw W 143 rfl
theorem W144 {g} (W : GW g) : HW g (.publicMethod ⟨sn3, "hasNext", "()Z"⟩) := gw W 144 rfl
theorem W145 {g} (W : GW g) : HW g (.unhidden sn3 "hasNext" "()Z") := gw W 145 rfl
theorem W146 {g} (W : GW g) : HW g (.castable sn3 "java/util/Iterator") := gw W 146 rfl
theorem W147 {g} (W : GW g) : HW g (.code ⟨sn3, "hasNext", "()Z"⟩ jdk_53_method_3_code 1 (Option.some FieldType.boolean)) := gw W 147 rfl
theorem W148 {g} (W : GW g) : HW g (.methodLink sn1 92 ⟨sn5, "append", sn32⟩) := gw W 148 rfl
theorem W149 {g} (W : GW g) : HW g (.declares ⟨sn5, "append", sn32⟩) := gw W 149 rfl
theorem W150 {g} (W : GW g) : HW g (.instanceMethod ⟨sn5, "append", sn32⟩) := gw W 150 rfl
theorem W151 {g} (W : GW g) : HW g (.selects sn5 ⟨sn5, "append", sn32⟩ ⟨sn5, "append", sn32⟩) := gw W 151 rfl
theorem W152 {g} (W : GW g) : HW g (.code ⟨sn5, "append", sn32⟩ jdk_67_method_14_code 2 (Option.some (FieldType.object sn5))) := gw W 152 rfl
theorem W153 {g} (W : GW g) : HW g (.methodLink sn5 50 ⟨sn0, "append", sn33⟩) := gw W 153 rfl
theorem W154 {g} (W : GW g) : HW g (.instanceMethod ⟨sn0, "append", sn33⟩) := gw W 154 rfl
theorem W155 {g} (W : GW g) : HW g (.superclass sn5 sn0) := gw W 155 rfl
theorem W157 {g} (W : GW g) : HW g (.code ⟨sn0, "append", sn33⟩ jdk_68_method_31_code 2 (Option.some (FieldType.object sn0))) := gw W 157 rfl
theorem W158 {g} (W : GW g) : HW g (.fieldLink sn0 79 sn0 "count" "I") := gw W 158 rfl
theorem W159 {g} (W : GW g) : HW g (.lays sn5 sn0 "count" "I") := gw W 159 rfl
theorem W160 {g} (W : GW g) : HW g (.methodLink sn0 100 ⟨sn0, sn42, "(I)V"⟩) := gw W 160 rfl
theorem W161 {g} (W : GW g) : HW g (.instanceMethod ⟨sn0, sn42, "(I)V"⟩) := gw W 161 rfl
theorem W162 {g} (W : GW g) : HW g (.privateMethod ⟨sn0, sn42, "(I)V"⟩) := gw W 162 rfl
theorem W163 {g} (W : GW g) : HW g (.selects sn5 ⟨sn0, sn42, "(I)V"⟩ ⟨sn0, sn42, "(I)V"⟩) := gw W 163 rfl
theorem W164 {g} (W : GW g) : HW g (.code ⟨sn0, sn42, "(I)V"⟩ jdk_68_method_9_code 3 (Option.none : Option FieldType)) := gw W 164 rfl
theorem W165 {g} (W : GW g) : HW g (.methodLink sn0 83 ⟨sn0, "isLatin1", "()Z"⟩) := gw W 165 rfl
theorem W166 {g} (W : GW g) : HW g (.declares ⟨sn0, "isLatin1", "()Z"⟩) := gw W 166 rfl
theorem W167 {g} (W : GW g) : HW g (.instanceMethod ⟨sn0, "isLatin1", "()Z"⟩) := gw W 167 rfl
theorem W168 {g} (W : GW g) : HW g (.selects sn5 ⟨sn0, "isLatin1", "()Z"⟩ ⟨sn0, "isLatin1", "()Z"⟩) := gw W 168 rfl
theorem W169 {g} (W : GW g) : HW g (.code ⟨sn0, "isLatin1", "()Z"⟩ jdk_68_method_68_code 1 (Option.some FieldType.boolean)) := gw W 169 rfl
theorem W170 {g} (W : GW g) : HW g (.methodLink sn0 191 ⟨sn24, "canEncode", "(C)Z"⟩) := gw W 170 rfl
theorem W171 {g} (W : GW g) : HW g (.static ⟨sn24, "canEncode", "(C)Z"⟩) := gw W 171 rfl
theorem W172 {g} (W : GW g) : HW g (.initialized sn24) := gw W 172 rfl
theorem W173 {g} (W : GW g) : HW g (.code ⟨sn24, "canEncode", "(C)Z"⟩ jdk_43_method_3_code 1 (Option.some FieldType.boolean)) := gw W 173 rfl
theorem W174 {g} (W : GW g) : HW g (.methodLink sn1 95 ⟨sn5, "toString", sn40⟩) := gw W 174 rfl
theorem W175 {g} (W : GW g) : HW g (.declares ⟨sn5, "toString", sn40⟩) := gw W 175 rfl
theorem W176 {g} (W : GW g) : HW g (.instanceMethod ⟨sn5, "toString", sn40⟩) := gw W 176 rfl
theorem W177 {g} (W : GW g) : HW g (.selects sn5 ⟨sn5, "toString", sn40⟩ ⟨sn5, "toString", sn40⟩) := gw W 177 rfl
theorem W178 {g} (W : GW g) : HW g (.code ⟨sn5, "toString", sn40⟩ jdk_67_method_42_code 1 (Option.some (FieldType.object "java/lang/String"))) := gw W 178 rfl
theorem W179 {g} (W : GW g) : HW g (.classLink sn5 18 "java/lang/String") := gw W 179 rfl
theorem W180 {g} (W : GW g) : HW g (.methodLink sn5 137 ⟨"java/lang/String", "<init>", sn37⟩) := gw W 180 rfl
theorem W181 {g} (W : GW g) : HW g (.instanceMethod ⟨"java/lang/String", "<init>", sn37⟩) := gw W 181 rfl
theorem W183 {g} (W : GW g) : HW g (.code ⟨"java/lang/String", "<init>", sn37⟩ jdk_42_method_53_code 2 (Option.none : Option FieldType)) := gw W 183 rfl
theorem W184 {g} (W : GW g) : HW g (.methodLink "java/lang/String" 489 ⟨"java/lang/String", "<init>", sn19⟩) := gw W 184 rfl
theorem W185 {g} (W : GW g) : HW g (.instanceMethod ⟨"java/lang/String", "<init>", sn19⟩) := gw W 185 rfl
theorem W186 {g} (W : GW g) : HW g (.code ⟨"java/lang/String", "<init>", sn19⟩ jdk_42_method_150_code 5 (Option.none : Option FieldType)) := gw W 186 rfl
theorem W187 {g} (W : GW g) : HW g (.methodLink "java/lang/String" 1 ⟨"java/lang/Object", "<init>", "()V"⟩) := gw W 187 rfl
theorem W188 {g} (W : GW g) : HW g (.methodLink "java/lang/String" 552 ⟨sn0, "getValue", "()[B"⟩) := gw W 188 rfl
theorem W189 {g} (W : GW g) : HW g (.declares ⟨sn0, "getValue", "()[B"⟩) := gw W 189 rfl
theorem W190 {g} (W : GW g) : HW g (.instanceMethod ⟨sn0, "getValue", "()[B"⟩) := gw W 190 rfl
theorem W191 {g} (W : GW g) : HW g (.selects sn5 ⟨sn0, "getValue", "()[B"⟩ ⟨sn0, "getValue", "()[B"⟩) := gw W 191 rfl
theorem W192 {g} (W : GW g) : HW g (.code ⟨sn0, "getValue", "()[B"⟩ jdk_68_method_64_code 1 (Option.some (FieldType.array FieldType.byte))) := gw W 192 rfl
theorem W193 {g} (W : GW g) : HW g (.methodLink "java/lang/String" 549 ⟨sn0, "length", "()I"⟩) := gw W 193 rfl
theorem W194 {g} (W : GW g) : HW g (.declares ⟨sn0, "length", "()I"⟩) := gw W 194 rfl
theorem W195 {g} (W : GW g) : HW g (.instanceMethod ⟨sn0, "length", "()I"⟩) := gw W 195 rfl
theorem W196 {g} (W : GW g) : HW g (.selects sn5 ⟨sn0, "length", "()I"⟩ ⟨sn5, "length", "()I"⟩) := gw W 196 rfl
theorem W197 {g} (W : GW g) : HW g (.instanceMethod ⟨sn5, "length", "()I"⟩) := gw W 197 rfl
theorem W198 {g} (W : GW g) : HW g (.code ⟨sn5, "length", "()I"⟩ jdk_67_method_93_code 1 (Option.some FieldType.int)) := gw W 198 rfl
theorem W199 {g} (W : GW g) : HW g (.methodLink sn5 343 ⟨sn0, "length", "()I"⟩) := gw W 199 rfl
theorem W200 {g} (W : GW g) : HW g (.code ⟨sn0, "length", "()I"⟩ jdk_68_method_6_code 1 (Option.some FieldType.int)) := gw W 200 rfl
theorem W201 {g} (W : GW g) : HW g (.methodLink "java/lang/String" 1047 ⟨sn0, "isLatin1", "()Z"⟩) := gw W 201 rfl
theorem W202 {g} (W : GW g) : HW g (.fieldLink "java/lang/String" 15 "java/lang/String" "coder" "B") := gw W 202 rfl
theorem W203 {g} (W : GW g) : HW g (.methodLink "java/lang/String" 54 ⟨"java/util/Arrays", "copyOfRange", "([BII)[B"⟩) := gw W 203 rfl
theorem W204 {g} (W : GW g) : HW g (.static ⟨"java/util/Arrays", "copyOfRange", "([BII)[B"⟩) := gw W 204 rfl
theorem W205 {g} (W : GW g) : HW g (.initialized "java/util/Arrays") := gw W 205 rfl
theorem W206 {g} (W : GW g) : HW g (.code ⟨"java/util/Arrays", "copyOfRange", "([BII)[B"⟩ jdk_65_method_132_code 3 (Option.some (FieldType.array FieldType.byte))) := gw W 206 rfl
theorem W207 {g} (W : GW g) : HW g (.methodLink "java/util/Arrays" 339 ⟨"java/util/Arrays", "copyOfRangeByte", "([BII)[B"⟩) := gw W 207 rfl
theorem W208 {g} (W : GW g) : HW g (.static ⟨"java/util/Arrays", "copyOfRangeByte", "([BII)[B"⟩) := gw W 208 rfl
theorem W209 {g} (W : GW g) : HW g (.code ⟨"java/util/Arrays", "copyOfRangeByte", "([BII)[B"⟩ jdk_65_method_133_code 5 (Option.some (FieldType.array FieldType.byte))) := gw W 209 rfl
theorem W210 {g} (W : GW g) : HW g (.methodLink "java/util/Arrays" 343 ⟨"java/util/Arrays", "checkLength", "(II)V"⟩) := gw W 210 rfl
theorem W211 {g} (W : GW g) : HW g (.static ⟨"java/util/Arrays", "checkLength", "(II)V"⟩) := gw W 211 rfl
theorem W212 {g} (W : GW g) : HW g (.code ⟨"java/util/Arrays", "checkLength", "(II)V"⟩ jdk_65_method_131_code 2 (Option.none : Option FieldType)) := gw W 212 rfl
theorem W213 {g} (W : GW g) : HW g (.methodLink "java/util/Arrays" 304 ⟨"java/lang/Math", "min", "(II)I"⟩) := gw W 213 rfl
theorem W214 {g} (W : GW g) : HW g (.static ⟨"java/lang/Math", "min", "(II)I"⟩) := gw W 214 rfl
theorem W215 {g} (W : GW g) : HW g (.initialized "java/lang/Math") := gw W 215 rfl
theorem W216 {g} (W : GW g) : HW g (.code ⟨"java/lang/Math", "min", "(II)I"⟩ jdk_29_method_69_code 2 (Option.some FieldType.int)) := gw W 216 rfl
theorem W217 {g} (W : GW g) : HW g (.methodLink "java/util/Arrays" 150 ⟨"java/lang/System", "arraycopy", sn34⟩) := gw W 217 rfl
theorem W218 {g} (W : GW g) : HW g (.static ⟨"java/lang/System", "arraycopy", sn34⟩) := gw W 218 rfl
theorem W219 {g} (W : GW g) : HW g (.initialized "java/lang/System") := gw W 219 rfl
theorem W220 {g} (W : GW g) : HW g (.native ⟨"java/lang/System", "arraycopy", sn34⟩) := gw W 220 rfl
theorem W221 {g} (W : GW g) : HW g (.fieldLink "java/lang/String" 9 "java/lang/String" "value" "[B") := gw W 221 rfl
theorem W222 {g} (W : GW g) : HW g (.fieldLink sn1 99 sn43 "UTF_8" sn51) := gw W 222 rfl
theorem W224 {g} (W : GW g) : HW g (.methodLink sn1 105 ⟨"java/lang/String", "getBytes", sn25⟩) := gw W 224 rfl
theorem W225 {g} (W : GW g) : HW g (.declares ⟨"java/lang/String", "getBytes", sn25⟩) := gw W 225 rfl
theorem W226 {g} (W : GW g) : HW g (.instanceMethod ⟨"java/lang/String", "getBytes", sn25⟩) := gw W 226 rfl
theorem W227 {g} (W : GW g) : HW g (.selects "java/lang/String" ⟨"java/lang/String", "getBytes", sn25⟩ ⟨"java/lang/String", "getBytes", sn25⟩) := gw W 227 rfl
theorem W228 {g} (W : GW g) : HW g (.code ⟨"java/lang/String", "getBytes", sn25⟩ jdk_42_method_64_code 2 (Option.some (FieldType.array FieldType.byte))) := gw W 228 rfl
theorem W229 {g} (W : GW g) : HW g (.methodLink "java/lang/String" 335 ⟨"java/lang/String", "coder", "()B"⟩) := gw W 229 rfl
theorem W230 {g} (W : GW g) : HW g (.declares ⟨"java/lang/String", "coder", "()B"⟩) := gw W 230 rfl
theorem W231 {g} (W : GW g) : HW g (.instanceMethod ⟨"java/lang/String", "coder", "()B"⟩) := gw W 231 rfl
theorem W232 {g} (W : GW g) : HW g (.selects "java/lang/String" ⟨"java/lang/String", "coder", "()B"⟩ ⟨"java/lang/String", "coder", "()B"⟩) := gw W 232 rfl
theorem W233 {g} (W : GW g) : HW g (.code ⟨"java/lang/String", "coder", "()B"⟩ jdk_42_method_152_code 1 (Option.some FieldType.byte)) := gw W 233 rfl
theorem W234 {g} (W : GW g) : HW g (.fieldLink "java/lang/String" 38 "java/lang/String" "COMPACT_STRINGS" "Z") := gw W 234 rfl
theorem W235 {g} (W : GW g) : HW g (.methodLink "java/lang/String" 535 ⟨"java/lang/String", "encode", sn36⟩) := gw W 235 rfl
theorem W236 {g} (W : GW g) : HW g (.static ⟨"java/lang/String", "encode", sn36⟩) := gw W 236 rfl
theorem W237 {g} (W : GW g) : HW g (.code ⟨"java/lang/String", "encode", sn36⟩ jdk_42_method_18_code 3 (Option.some (FieldType.array FieldType.byte))) := gw W 237 rfl
theorem W238 {g} (W : GW g) : HW g (.fieldLink "java/lang/String" 86 "sun/nio/cs/UTF_8" "INSTANCE" "Lsun/nio/cs/UTF_8;") := gw W 238 rfl
theorem W240 {g} (W : GW g) : HW g (.methodLink "java/lang/String" 252 ⟨"java/lang/String", "encodeUTF8", "(B[BZ)[B"⟩) := gw W 240 rfl
theorem W241 {g} (W : GW g) : HW g (.static ⟨"java/lang/String", "encodeUTF8", "(B[BZ)[B"⟩) := gw W 241 rfl
theorem W242 {g} (W : GW g) : HW g (.code ⟨"java/lang/String", "encodeUTF8", "(B[BZ)[B"⟩ jdk_42_method_46_code 9 (Option.some (FieldType.array FieldType.byte))) := gw W 242 rfl
theorem W243 {g} (W : GW g) : HW g (.methodLink "java/lang/String" 128 ⟨sn30, "hasNegatives", "([BII)Z"⟩) := gw W 243 rfl
theorem W244 {g} (W : GW g) : HW g (.static ⟨sn30, "hasNegatives", "([BII)Z"⟩) := gw W 244 rfl
theorem W245 {g} (W : GW g) : HW g (.initialized sn30) := gw W 245 rfl
theorem W246 {g} (W : GW g) : HW g (.code ⟨sn30, "hasNegatives", "([BII)Z"⟩ jdk_123_method_2_code 3 (Option.some FieldType.boolean)) := gw W 246 rfl
theorem W247 {g} (W : GW g) : HW g (.methodLink sn30 7 ⟨sn30, "countPositives", "([BII)I"⟩) := gw W 247 rfl
theorem W248 {g} (W : GW g) : HW g (.static ⟨sn30, "countPositives", "([BII)I"⟩) := gw W 248 rfl
theorem W249 {g} (W : GW g) : HW g (.code ⟨sn30, "countPositives", "([BII)I"⟩ jdk_123_method_3_code 5 (Option.some FieldType.int)) := gw W 249 rfl
theorem W250 {g} (W : GW g) : HW g (.methodLink "java/lang/String" 279 ⟨"[B", "clone", sn17⟩) := gw W 250 rfl
theorem W251 {g} (W : GW g) : HW g (.sameMethod "[B" "java/lang/Object" "clone" sn17) := gw W 251 rfl
theorem W253 {g} (W : GW g) : HW g (.instanceMethod ⟨"java/lang/Object", "clone", sn17⟩) := gw W 253 rfl
theorem W254 {g} (W : GW g) : HW g (.selects "[B" ⟨"[B", "clone", sn17⟩ ⟨"java/lang/Object", "clone", sn17⟩) := gw W 254 rfl
theorem W255 {g} (W : GW g) : HW g (.native ⟨"java/lang/Object", "clone", sn17⟩) := gw W 255 rfl
theorem W256 {g} (W : GW g) : HW g (.castable "[B" "java/lang/Cloneable") := gw W 256 rfl
theorem W257 {g} (W : GW g) : HW g (.classLink "java/lang/String" 280 "[B") := gw W 257 rfl
theorem W259 {g} (W : GW g) : HW g (.arrayClass FieldType.int) := gw W 259 rfl
theorem W260 {g} (W : GW g) : HW g (.methodLink sn2 33 ⟨sn2, "same", "([B[II)Z"⟩) := gw W 260 rfl
theorem W261 {g} (W : GW g) : HW g (.static ⟨sn2, "same", "([B[II)Z"⟩) := gw W 261 rfl
theorem W262 {g} (W : GW g) : HW g (.code ⟨sn2, "same", "([B[II)Z"⟩ method_6_code 4 (Option.some FieldType.boolean)) := gw W 262 rfl
theorem W263 {g} (W : GW g) : HW g (.methodLink sn2 16 ⟨"java/util/ArrayList", "add", sn38⟩) := gw W 263 rfl
theorem W264 {g} (W : GW g) : HW g (.declares ⟨"java/util/ArrayList", "add", sn38⟩) := gw W 264 rfl
theorem W265 {g} (W : GW g) : HW g (.instanceMethod ⟨"java/util/ArrayList", "add", sn38⟩) := gw W 265 rfl
theorem W266 {g} (W : GW g) : HW g (.selects "java/util/ArrayList" ⟨"java/util/ArrayList", "add", sn38⟩ ⟨"java/util/ArrayList", "add", sn38⟩) := gw W 266 rfl
theorem W267 {g} (W : GW g) : HW g (.code ⟨"java/util/ArrayList", "add", sn38⟩ jdk_38_method_25_code 2 (Option.some FieldType.boolean)) := gw W 267 rfl
theorem W268 {g} (W : GW g) : HW g (.fieldLink "java/util/ArrayList" 63 "java/util/ArrayList" "modCount" "I") := gw W 268 rfl
theorem W269 {g} (W : GW g) : HW g (.sameField "java/util/ArrayList" sn21 "modCount" "I") := gw W 269 rfl
theorem W270 {g} (W : GW g) : HW g (.methodLink "java/util/ArrayList" 131 ⟨"java/util/ArrayList", "add", sn22⟩) := gw W 270 rfl
theorem W271 {g} (W : GW g) : HW g (.instanceMethod ⟨"java/util/ArrayList", "add", sn22⟩) := gw W 271 rfl
theorem W272 {g} (W : GW g) : HW g (.privateMethod ⟨"java/util/ArrayList", "add", sn22⟩) := gw W 272 rfl
theorem W274 {g} (W : GW g) : HW g (.code ⟨"java/util/ArrayList", "add", sn22⟩ jdk_38_method_24_code 4 (Option.none : Option FieldType)) := gw W 274 rfl
theorem W275 {g} (W : GW g) : HW g (.methodLink "java/util/ArrayList" 129 ⟨"java/util/ArrayList", "grow", sn13⟩) := gw W 275 rfl
theorem W276 {g} (W : GW g) : HW g (.instanceMethod ⟨"java/util/ArrayList", "grow", sn13⟩) := gw W 276 rfl
theorem W277 {g} (W : GW g) : HW g (.privateMethod ⟨"java/util/ArrayList", "grow", sn13⟩) := gw W 277 rfl
theorem W279 {g} (W : GW g) : HW g (.code ⟨"java/util/ArrayList", "grow", sn13⟩ jdk_38_method_7_code 1 (Option.some (FieldType.array (FieldType.object "java/lang/Object")))) := gw W 279 rfl
theorem W280 {g} (W : GW g) : HW g (.methodLink "java/util/ArrayList" 69 ⟨"java/util/ArrayList", "grow", sn44⟩) := gw W 280 rfl
theorem W281 {g} (W : GW g) : HW g (.instanceMethod ⟨"java/util/ArrayList", "grow", sn44⟩) := gw W 281 rfl
theorem W282 {g} (W : GW g) : HW g (.privateMethod ⟨"java/util/ArrayList", "grow", sn44⟩) := gw W 282 rfl
theorem W284 {g} (W : GW g) : HW g (.code ⟨"java/util/ArrayList", "grow", sn44⟩ jdk_38_method_6_code 4 (Option.some (FieldType.array (FieldType.object "java/lang/Object")))) := gw W 284 rfl
theorem W285 {g} (W : GW g) : HW g (.methodLink "java/util/ArrayList" 79 ⟨"java/lang/Math", "max", "(II)I"⟩) := gw W 285 rfl
theorem W286 {g} (W : GW g) : HW g (.static ⟨"java/lang/Math", "max", "(II)I"⟩) := gw W 286 rfl
theorem W287 {g} (W : GW g) : HW g (.code ⟨"java/lang/Math", "max", "(II)I"⟩ jdk_29_method_65_code 2 (Option.some FieldType.int)) := gw W 287 rfl
theorem W288 {g} (W : GW g) : HW g (.classLink "java/util/ArrayList" 7 "java/lang/Object") := gw W 288 rfl
theorem W289 {g} (W : GW g) : HW g (.arrayOver (FieldType.object "java/lang/Object")) := gw W 289 rfl
theorem W290 {g} (W : GW g) : HW g (.castable "java/lang/String" "java/lang/Object") := gw W 290 rfl
theorem W291 {g} (W : GW g) : HW g (.methodLink sn7 30 ⟨sn27, "toArray", sn13⟩) := gw W 291 rfl
theorem W292 {g} (W : GW g) : HW g (.declares ⟨sn27, "toArray", sn13⟩) := gw W 292 rfl
theorem W293 {g} (W : GW g) : HW g (.interfaceMethod sn27 sn27 "toArray" sn13) := gw W 293 rfl
theorem W294 {g} (W : GW g) : HW g (.selects "java/util/ArrayList" ⟨sn27, "toArray", sn13⟩ ⟨"java/util/ArrayList", "toArray", sn13⟩) := gw W 294 rfl
theorem W295 {g} (W : GW g) : HW g (.instanceMethod ⟨"java/util/ArrayList", "toArray", sn13⟩) := gw W 295 rfl
theorem W296 {g} (W : GW g) : HW g (.publicMethod ⟨"java/util/ArrayList", "toArray", sn13⟩) := gw W 296 rfl
theorem W297 {g} (W : GW g) : HW g (.unhidden "java/util/ArrayList" "toArray" sn13) := gw W 297 rfl
theorem W298 {g} (W : GW g) : HW g (.code ⟨"java/util/ArrayList", "toArray", sn13⟩ jdk_38_method_16_code 1 (Option.some (FieldType.array (FieldType.object "java/lang/Object")))) := gw W 298 rfl
theorem W299 {g} (W : GW g) : HW g (.methodLink "java/util/ArrayList" 66 ⟨"java/util/Arrays", "copyOf", sn23⟩) := gw W 299 rfl
theorem W300 {g} (W : GW g) : HW g (.static ⟨"java/util/Arrays", "copyOf", sn23⟩) := gw W 300 rfl
theorem W301 {g} (W : GW g) : HW g (.code ⟨"java/util/Arrays", "copyOf", sn23⟩ jdk_65_method_119_code 2 (Option.some (FieldType.array (FieldType.object "java/lang/Object")))) := gw W 301 rfl
theorem W302 {g} (W : GW g) : HW g (.methodLink "java/util/Arrays" 86 ⟨"java/lang/Object", "getClass", "()Ljava/lang/Class;"⟩) := gw W 302 rfl
theorem W303 {g} (W : GW g) : HW g (.declares ⟨"java/lang/Object", "getClass", "()Ljava/lang/Class;"⟩) := gw W 303 rfl
theorem W304 {g} (W : GW g) : HW g (.instanceMethod ⟨"java/lang/Object", "getClass", "()Ljava/lang/Class;"⟩) := gw W 304 rfl
theorem W305 {g} (W : GW g) : HW g (.selects "[Ljava/lang/Object;" ⟨"java/lang/Object", "getClass", "()Ljava/lang/Class;"⟩ ⟨"java/lang/Object", "getClass", "()Ljava/lang/Class;"⟩) := gw W 305 rfl
theorem W306 {g} (W : GW g) : HW g (.native ⟨"java/lang/Object", "getClass", "()Ljava/lang/Class;"⟩) := gw W 306 rfl
theorem W308 {g} (W : GW g) : HW g (.methodLink "java/util/Arrays" 300 ⟨"java/util/Arrays", "copyOf", sn15⟩) := gw W 308 rfl
theorem W309 {g} (W : GW g) : HW g (.static ⟨"java/util/Arrays", "copyOf", sn15⟩) := gw W 309 rfl
theorem W310 {g} (W : GW g) : HW g (.code ⟨"java/util/Arrays", "copyOf", sn15⟩ jdk_65_method_120_code 4 (Option.some (FieldType.array (FieldType.object "java/lang/Object")))) := gw W 310 rfl
theorem W311 {g} (W : GW g) : HW g (.classLink "java/util/Arrays" 110 "[Ljava/lang/Object;") := gw W 311 rfl
theorem W312 {g} (W : GW g) : HW g (.classLink "java/util/Arrays" 2 "java/lang/Object") := gw W 312 rfl
theorem W313 {g} (W : GW g) : HW g (.methodLink sn7 34 ⟨"java/util/List", "of", sn31⟩) := gw W 313 rfl
theorem W314 {g} (W : GW g) : HW g (.static ⟨"java/util/List", "of", sn31⟩) := gw W 314 rfl
theorem W315 {g} (W : GW g) : HW g (.code ⟨"java/util/List", "of", sn31⟩ jdk_40_method_47_code 2 (Option.some (FieldType.object "java/util/List"))) := gw W 315 rfl
theorem W316 {g} (W : GW g) : HW g (.classLink "java/util/List" 96 sn4) := gw W 316 rfl
theorem W317 {g} (W : GW g) : HW g (.instantiable sn4 2) := gw W 317 rfl
theorem W318 {g} (W : GW g) : HW g (.initialized sn4) := gw W 318 rfl
theorem W319 {g} (W : GW g) : HW g (.methodLink "java/util/List" 98 ⟨sn4, "<init>", sn45⟩) := gw W 319 rfl
theorem W320 {g} (W : GW g) : HW g (.instanceMethod ⟨sn4, "<init>", sn45⟩) := gw W 320 rfl
theorem W322 {g} (W : GW g) : HW g (.code ⟨sn4, "<init>", sn45⟩ jdk_44_method_1_code 2 (Option.none : Option FieldType)) := gw W 322 rfl
theorem W323 {g} (W : GW g) : HW g (.methodLink sn4 1 ⟨sn6, "<init>", "()V"⟩) := gw W 323 rfl
theorem W324 {g} (W : GW g) : HW g (.instanceMethod ⟨sn6, "<init>", "()V"⟩) := gw W 324 rfl
theorem W327 {g} (W : GW g) : HW g (.code ⟨sn6, "<init>", "()V"⟩ jdk_46_method_1_code 1 (Option.none : Option FieldType)) := gw W 327 rfl
theorem W328 {g} (W : GW g) : HW g (.methodLink sn6 1 ⟨sn11, "<init>", "()V"⟩) := gw W 328 rfl
theorem W329 {g} (W : GW g) : HW g (.instanceMethod ⟨sn11, "<init>", "()V"⟩) := gw W 329 rfl
theorem W332 {g} (W : GW g) : HW g (.initialized sn11) := gw W 332 rfl
theorem W333 {g} (W : GW g) : HW g (.code ⟨sn11, "<init>", "()V"⟩ jdk_47_method_1_code 1 (Option.none : Option FieldType)) := gw W 333 rfl
theorem W334 {g} (W : GW g) : HW g (.methodLink sn11 1 ⟨sn18, "<init>", "()V"⟩) := gw W 334 rfl
theorem W336 {g} (W : GW g) : HW g (.methodLink sn4 7 ⟨"java/util/Objects", "requireNonNull", sn28⟩) := gw W 336 rfl
theorem W337 {g} (W : GW g) : HW g (.static ⟨"java/util/Objects", "requireNonNull", sn28⟩) := gw W 337 rfl
theorem W338 {g} (W : GW g) : HW g (.initialized "java/util/Objects") := gw W 338 rfl
theorem W339 {g} (W : GW g) : HW g (.code ⟨"java/util/Objects", "requireNonNull", sn28⟩ jdk_31_method_10_code 1 (Option.some (FieldType.object "java/lang/Object"))) := gw W 339 rfl
theorem W340 {g} (W : GW g) : HW g (.fieldLink sn4 13 sn4 "e0" "Ljava/lang/Object;") := gw W 340 rfl
theorem W341 {g} (W : GW g) : HW g (.laysFinal sn4 sn4 "e0" "Ljava/lang/Object;") := gw W 341 rfl
theorem W342 {g} (W : GW g) : HW g (.fieldLinkNest sn4 19 sn7 "EMPTY" "Ljava/lang/Object;" sn7) := gw W 342 rfl
theorem W343 {g} (W : GW g) : HW g (.fieldLink sn4 24 sn4 "e1" "Ljava/lang/Object;") := gw W 343 rfl
theorem W344 {g} (W : GW g) : HW g (.laysFinal sn4 sn4 "e1" "Ljava/lang/Object;") := gw W 344 rfl
theorem W345 {g} (W : GW g) : HW g (.selects sn4 ⟨"java/util/List", "iterator", sn20⟩ ⟨sn6, "iterator", sn20⟩) := gw W 345 rfl
theorem W346 {g} (W : GW g) : HW g (.unhidden sn4 "iterator" sn20) := gw W 346 rfl
theorem W347 {g} (W : GW g) : HW g (.castable sn4 "java/util/List") := gw W 347 rfl
theorem W348 {g} (W : GW g) : HW g (.selects sn4 ⟨sn6, "size", "()I"⟩ ⟨sn4, "size", "()I"⟩) := gw W 348 rfl
theorem W349 {g} (W : GW g) : HW g (.instanceMethod ⟨sn4, "size", "()I"⟩) := gw W 349 rfl
theorem W350 {g} (W : GW g) : HW g (.code ⟨sn4, "size", "()I"⟩ jdk_44_method_3_code 1 (Option.some FieldType.int)) := gw W 350 rfl
theorem W351 {g} (W : GW g) : HW g (.methodLink sn1 34 ⟨"java/util/Iterator", "next", sn17⟩) := gw W 351 rfl
theorem W352 {g} (W : GW g) : HW g (.declares ⟨"java/util/Iterator", "next", sn17⟩) := gw W 352 rfl
theorem W353 {g} (W : GW g) : HW g (.interfaceMethod "java/util/Iterator" "java/util/Iterator" "next" sn17) := gw W 353 rfl
theorem W354 {g} (W : GW g) : HW g (.selects sn3 ⟨"java/util/Iterator", "next", sn17⟩ ⟨sn3, "next", sn17⟩) := gw W 354 rfl
theorem W355 {g} (W : GW g) : HW g (.instanceMethod ⟨sn3, "next", sn17⟩) := gw W 355 rfl
theorem W356 {g} (W : GW g) : HW g (.publicMethod ⟨sn3, "next", sn17⟩) := gw W 356 rfl
theorem W357 {g} (W : GW g) : HW g (.unhidden sn3 "next" sn17) := gw W 357 rfl
theorem W358 {g} (W : GW g) : HW g (.codeWith ⟨sn3, "next", sn17⟩ jdk_53_method_4_code 3 (Option.some (FieldType.object "java/lang/Object")) [(0, 24, 25, 30)]) := gw W 358 rfl
theorem W359 {g} (W : GW g) : HW g (.methodLink sn3 24 ⟨"java/util/List", "get", sn29⟩) := gw W 359 rfl
theorem W360 {g} (W : GW g) : HW g (.declares ⟨"java/util/List", "get", sn29⟩) := gw W 360 rfl
theorem W361 {g} (W : GW g) : HW g (.interfaceMethod "java/util/List" "java/util/List" "get" sn29) := gw W 361 rfl
theorem W362 {g} (W : GW g) : HW g (.selects sn4 ⟨"java/util/List", "get", sn29⟩ ⟨sn4, "get", sn29⟩) := gw W 362 rfl
theorem W363 {g} (W : GW g) : HW g (.instanceMethod ⟨sn4, "get", sn29⟩) := gw W 363 rfl
theorem W364 {g} (W : GW g) : HW g (.publicMethod ⟨sn4, "get", sn29⟩) := gw W 364 rfl
theorem W365 {g} (W : GW g) : HW g (.unhidden sn4 "get" sn29) := gw W 365 rfl
theorem W366 {g} (W : GW g) : HW g (.code ⟨sn4, "get", sn29⟩ jdk_44_method_5_code 2 (Option.some (FieldType.object "java/lang/Object"))) := gw W 366 rfl
theorem W367 {g} (W : GW g) : HW g (.classLink sn1 38 "java/lang/String") := gw W 367 rfl
theorem W368 {g} (W : GW g) : HW g (.methodLink sn1 88 ⟨sn5, "append", sn12⟩) := gw W 368 rfl
theorem W369 {g} (W : GW g) : HW g (.declares ⟨sn5, "append", sn12⟩) := gw W 369 rfl
theorem W370 {g} (W : GW g) : HW g (.instanceMethod ⟨sn5, "append", sn12⟩) := gw W 370 rfl
theorem W371 {g} (W : GW g) : HW g (.selects sn5 ⟨sn5, "append", sn12⟩ ⟨sn5, "append", sn12⟩) := gw W 371 rfl
theorem W372 {g} (W : GW g) : HW g (.code ⟨sn5, "append", sn12⟩ jdk_67_method_7_code 2 (Option.some (FieldType.object sn5))) := gw W 372 rfl
theorem W373 {g} (W : GW g) : HW g (.methodLink sn5 29 ⟨sn0, "append", sn14⟩) := gw W 373 rfl
theorem W374 {g} (W : GW g) : HW g (.instanceMethod ⟨sn0, "append", sn14⟩) := gw W 374 rfl
theorem W376 {g} (W : GW g) : HW g (.code ⟨sn0, "append", sn14⟩ jdk_68_method_22_code 3 (Option.some (FieldType.object sn0))) := gw W 376 rfl
theorem W377 {g} (W : GW g) : HW g (.methodLink sn0 32 ⟨"java/lang/String", "length", "()I"⟩) := gw W 377 rfl
theorem W378 {g} (W : GW g) : HW g (.declares ⟨"java/lang/String", "length", "()I"⟩) := gw W 378 rfl
theorem W379 {g} (W : GW g) : HW g (.instanceMethod ⟨"java/lang/String", "length", "()I"⟩) := gw W 379 rfl
theorem W380 {g} (W : GW g) : HW g (.selects "java/lang/String" ⟨"java/lang/String", "length", "()I"⟩ ⟨"java/lang/String", "length", "()I"⟩) := gw W 380 rfl
theorem W381 {g} (W : GW g) : HW g (.code ⟨"java/lang/String", "length", "()I"⟩ jdk_42_method_54_code 1 (Option.some FieldType.int)) := gw W 381 rfl
theorem W382 {g} (W : GW g) : HW g (.methodLink sn0 208 ⟨sn0, "putStringAt", sn39⟩) := gw W 382 rfl
theorem W383 {g} (W : GW g) : HW g (.instanceMethod ⟨sn0, "putStringAt", sn39⟩) := gw W 383 rfl
theorem W384 {g} (W : GW g) : HW g (.privateMethod ⟨sn0, "putStringAt", sn39⟩) := gw W 384 rfl
theorem W385 {g} (W : GW g) : HW g (.selects sn5 ⟨sn0, "putStringAt", sn39⟩ ⟨sn0, "putStringAt", sn39⟩) := gw W 385 rfl
theorem W386 {g} (W : GW g) : HW g (.code ⟨sn0, "putStringAt", sn39⟩ jdk_68_method_73_code 3 (Option.none : Option FieldType)) := gw W 386 rfl
theorem W387 {g} (W : GW g) : HW g (.methodLink sn0 397 ⟨sn0, "inflateIfNeededFor", sn41⟩) := gw W 387 rfl
theorem W388 {g} (W : GW g) : HW g (.instanceMethod ⟨sn0, "inflateIfNeededFor", sn41⟩) := gw W 388 rfl
theorem W389 {g} (W : GW g) : HW g (.privateMethod ⟨sn0, "inflateIfNeededFor", sn41⟩) := gw W 389 rfl
theorem W390 {g} (W : GW g) : HW g (.selects sn5 ⟨sn0, "inflateIfNeededFor", sn41⟩ ⟨sn0, "inflateIfNeededFor", sn41⟩) := gw W 390 rfl
theorem W391 {g} (W : GW g) : HW g (.code ⟨sn0, "inflateIfNeededFor", sn41⟩ jdk_68_method_71_code 2 (Option.none : Option FieldType)) := gw W 391 rfl
theorem W392 {g} (W : GW g) : HW g (.methodLink sn0 40 ⟨"java/lang/String", "coder", "()B"⟩) := gw W 392 rfl
theorem W393 {g} (W : GW g) : HW g (.methodLink sn0 399 ⟨"java/lang/String", "getBytes", "([BIB)V"⟩) := gw W 393 rfl
theorem W394 {g} (W : GW g) : HW g (.declares ⟨"java/lang/String", "getBytes", "([BIB)V"⟩) := gw W 394 rfl
theorem W395 {g} (W : GW g) : HW g (.instanceMethod ⟨"java/lang/String", "getBytes", "([BIB)V"⟩) := gw W 395 rfl
theorem W396 {g} (W : GW g) : HW g (.selects "java/lang/String" ⟨"java/lang/String", "getBytes", "([BIB)V"⟩ ⟨"java/lang/String", "getBytes", "([BIB)V"⟩) := gw W 396 rfl
theorem W397 {g} (W : GW g) : HW g (.code ⟨"java/lang/String", "getBytes", "([BIB)V"⟩ jdk_42_method_147_code 4 (Option.none : Option FieldType)) := gw W 397 rfl
theorem W398 {g} (W : GW g) : HW g (.methodLink "java/lang/String" 212 ⟨"java/lang/System", "arraycopy", sn34⟩) := gw W 398 rfl
theorem W399 {g} (W : GW g) : HW g (.methodLink sn2 29 ⟨sn2, "putLine", "([IIICC)I"⟩) := gw W 399 rfl
theorem W400 {g} (W : GW g) : HW g (.static ⟨sn2, "putLine", "([IIICC)I"⟩) := gw W 400 rfl
theorem W401 {g} (W : GW g) : HW g (.code ⟨sn2, "putLine", "([IIICC)I"⟩ method_4_code 6 (Option.some FieldType.int)) := gw W 401 rfl
theorem W402 {g} (W : GW g) : HW g (.methodLink sn2 39 ⟨"java/lang/String", "valueOf", sn46⟩) := gw W 402 rfl
theorem W403 {g} (W : GW g) : HW g (.static ⟨"java/lang/String", "valueOf", sn46⟩) := gw W 403 rfl
theorem W404 {g} (W : GW g) : HW g (.code ⟨"java/lang/String", "valueOf", sn46⟩ jdk_42_method_139_code 1 (Option.some (FieldType.object "java/lang/String"))) := gw W 404 rfl
theorem W405 {g} (W : GW g) : HW g (.methodLink "java/lang/String" 1015 ⟨sn24, "canEncode", "(C)Z"⟩) := gw W 405 rfl
theorem W406 {g} (W : GW g) : HW g (.classLink "java/lang/String" 10 "java/lang/String") := gw W 406 rfl
theorem W407 {g} (W : GW g) : HW g (.methodLink "java/lang/String" 1018 ⟨sn24, "toBytes", "(C)[B"⟩) := gw W 407 rfl
theorem W408 {g} (W : GW g) : HW g (.static ⟨sn24, "toBytes", "(C)[B"⟩) := gw W 408 rfl
theorem W409 {g} (W : GW g) : HW g (.code ⟨sn24, "toBytes", "(C)[B"⟩ jdk_43_method_46_code 1 (Option.some (FieldType.array FieldType.byte))) := gw W 409 rfl
theorem W410 {g} (W : GW g) : HW g (.methodLink "java/lang/String" 209 ⟨"java/lang/String", "<init>", "([BB)V"⟩) := gw W 410 rfl
theorem W411 {g} (W : GW g) : HW g (.instanceMethod ⟨"java/lang/String", "<init>", "([BB)V"⟩) := gw W 411 rfl
theorem W412 {g} (W : GW g) : HW g (.code ⟨"java/lang/String", "<init>", "([BB)V"⟩ jdk_42_method_151_code 3 (Option.none : Option FieldType)) := gw W 412 rfl
theorem W413 {g} (W : GW g) : HW g (.classLink sn2 40 "java/lang/String") := gw W 413 rfl
theorem W414 {g} (W : GW g) : HW g (.arrayClass FieldType.char) := gw W 414 rfl
theorem W415 {g} (W : GW g) : HW g (.methodLink sn2 45 ⟨"java/lang/String", "<init>", "([C)V"⟩) := gw W 415 rfl
theorem W416 {g} (W : GW g) : HW g (.instanceMethod ⟨"java/lang/String", "<init>", "([C)V"⟩) := gw W 416 rfl
theorem W417 {g} (W : GW g) : HW g (.code ⟨"java/lang/String", "<init>", "([C)V"⟩ jdk_42_method_3_code 2 (Option.none : Option FieldType)) := gw W 417 rfl
theorem W418 {g} (W : GW g) : HW g (.methodLink "java/lang/String" 27 ⟨"java/lang/String", "<init>", sn48⟩) := gw W 418 rfl
theorem W419 {g} (W : GW g) : HW g (.instanceMethod ⟨"java/lang/String", "<init>", sn48⟩) := gw W 419 rfl
theorem W420 {g} (W : GW g) : HW g (.code ⟨"java/lang/String", "<init>", sn48⟩ jdk_42_method_149_code 6 (Option.none : Option FieldType)) := gw W 420 rfl
theorem W421 {g} (W : GW g) : HW g (.methodLink "java/lang/String" 177 ⟨sn9, "compress", "([CII)[B"⟩) := gw W 421 rfl
theorem W422 {g} (W : GW g) : HW g (.static ⟨sn9, "compress", "([CII)[B"⟩) := gw W 422 rfl
theorem W423 {g} (W : GW g) : HW g (.initialized sn9) := gw W 423 rfl
theorem W424 {g} (W : GW g) : HW g (.code ⟨sn9, "compress", "([CII)[B"⟩ jdk_52_method_16_code 6 (Option.some (FieldType.array FieldType.byte))) := gw W 424 rfl
theorem W425 {g} (W : GW g) : HW g (.methodLink sn9 115 ⟨sn9, "compress", "([CI[BII)I"⟩) := gw W 425 rfl
theorem W426 {g} (W : GW g) : HW g (.static ⟨sn9, "compress", "([CI[BII)I"⟩) := gw W 426 rfl
theorem W427 {g} (W : GW g) : HW g (.code ⟨sn9, "compress", "([CI[BII)I"⟩ jdk_52_method_21_code 7 (Option.some FieldType.int)) := gw W 427 rfl
theorem W428 {g} (W : GW g) : HW g (.methodLink "java/lang/String" 47 ⟨sn9, "coderFromArrayLen", "([BI)B"⟩) := gw W 428 rfl
theorem W429 {g} (W : GW g) : HW g (.static ⟨sn9, "coderFromArrayLen", "([BI)B"⟩) := gw W 429 rfl
theorem W430 {g} (W : GW g) : HW g (.code ⟨sn9, "coderFromArrayLen", "([BI)B"⟩ jdk_52_method_15_code 2 (Option.some FieldType.byte)) := gw W 430 rfl
theorem W431 {g} (W : GW g) : HW g (.methodLink "java/util/List" 100 ⟨sn4, "<init>", sn26⟩) := gw W 431 rfl
theorem W432 {g} (W : GW g) : HW g (.instanceMethod ⟨sn4, "<init>", sn26⟩) := gw W 432 rfl
theorem W433 {g} (W : GW g) : HW g (.code ⟨sn4, "<init>", sn26⟩ jdk_44_method_2_code 3 (Option.none : Option FieldType)) := gw W 433 rfl
theorem W434 {g} (W : GW g) : HW g (.methodLink sn2 48 ⟨sn2, "putChar", "([IIC)I"⟩) := gw W 434 rfl
theorem W435 {g} (W : GW g) : HW g (.static ⟨sn2, "putChar", "([IIC)I"⟩) := gw W 435 rfl
theorem W436 {g} (W : GW g) : HW g (.code ⟨sn2, "putChar", "([IIC)I"⟩ method_5_code 3 (Option.some FieldType.int)) := gw W 436 rfl
theorem W437 {g} (W : GW g) : HW g (.methodLink "java/lang/String" 60 ⟨sn9, "newBytesFor", "(I)[B"⟩) := gw W 437 rfl
theorem W438 {g} (W : GW g) : HW g (.static ⟨sn9, "newBytesFor", "(I)[B"⟩) := gw W 438 rfl
theorem W439 {g} (W : GW g) : HW g (.code ⟨sn9, "newBytesFor", "(I)[B"⟩ jdk_52_method_2_code 1 (Option.some (FieldType.array FieldType.byte))) := gw W 439 rfl
theorem W440 {g} (W : GW g) : HW g (.methodLink sn9 11 ⟨sn9, "newBytesLength", "(I)I"⟩) := gw W 440 rfl
theorem W441 {g} (W : GW g) : HW g (.static ⟨sn9, "newBytesLength", "(I)I"⟩) := gw W 441 rfl
theorem W442 {g} (W : GW g) : HW g (.code ⟨sn9, "newBytesLength", "(I)I"⟩ jdk_52_method_3_code 1 (Option.some FieldType.int)) := gw W 442 rfl
theorem W443 {g} (W : GW g) : HW g (.constant sn9 20 (1073741823 : Int32)) := gw W 443 rfl
theorem W444 {g} (W : GW g) : HW g (.methodLink "java/lang/String" 102 ⟨"java/util/Arrays", "copyOf", "([BI)[B"⟩) := gw W 444 rfl
theorem W445 {g} (W : GW g) : HW g (.static ⟨"java/util/Arrays", "copyOf", "([BI)[B"⟩) := gw W 445 rfl
theorem W446 {g} (W : GW g) : HW g (.code ⟨"java/util/Arrays", "copyOf", "([BI)[B"⟩ jdk_65_method_121_code 3 (Option.some (FieldType.array FieldType.byte))) := gw W 446 rfl
abbrev dcd (b : ByteArray) (p : Nat) (i : Instr) (n : Nat) : Prop := decode b p = .ok (i, n)
abbrev y1 := method_3_code
abbrev y2 := jdk_38_method_2_code
abbrev y3 := jdk_39_method_1_code
abbrev y4 := jdk_22_method_1_code
abbrev y6 := prog_7_method_1_code
abbrev y7 := jdk_30_method_1_code
abbrev y8 := jdk_40_method_48_code
abbrev y9 := jdk_56_method_3_code
abbrev y10 := jdk_38_method_9_code
abbrev y11 := jdk_40_method_36_code
abbrev y12 := prog_7_method_4_code
abbrev y13 := jdk_67_method_1_code
abbrev y14 := jdk_68_method_2_code
abbrev y15 := jdk_46_method_10_code
abbrev y16 := jdk_45_method_3_code
abbrev y17 := jdk_53_method_1_code
abbrev y18 := jdk_53_method_3_code
abbrev y19 := jdk_67_method_14_code
abbrev y20 := jdk_68_method_31_code
abbrev y21 := jdk_68_method_9_code
abbrev y22 := jdk_68_method_68_code
abbrev y23 := jdk_43_method_3_code
abbrev y24 := jdk_67_method_42_code
abbrev y25 := jdk_42_method_53_code
abbrev y26 := jdk_42_method_150_code
abbrev y27 := jdk_68_method_64_code
abbrev y28 := jdk_67_method_93_code
abbrev y29 := jdk_68_method_6_code
abbrev y30 := jdk_65_method_132_code
abbrev y31 := jdk_65_method_133_code
abbrev y32 := jdk_65_method_131_code
abbrev y33 := jdk_29_method_69_code
abbrev y34 := jdk_42_method_64_code
abbrev y35 := jdk_42_method_152_code
abbrev y36 := jdk_42_method_18_code
abbrev y37 := jdk_42_method_46_code
abbrev y38 := jdk_123_method_2_code
abbrev y39 := jdk_123_method_3_code
abbrev y40 := method_6_code
abbrev y41 := jdk_38_method_25_code
abbrev y42 := jdk_38_method_24_code
abbrev y43 := jdk_38_method_7_code
abbrev y44 := jdk_38_method_6_code
abbrev y45 := jdk_29_method_65_code
abbrev y46 := jdk_38_method_16_code
abbrev y47 := jdk_65_method_119_code
abbrev y48 := jdk_65_method_120_code
abbrev y49 := jdk_40_method_47_code
abbrev y50 := jdk_44_method_1_code
abbrev y51 := jdk_46_method_1_code
abbrev y52 := jdk_47_method_1_code
abbrev y53 := jdk_31_method_10_code
abbrev y54 := jdk_44_method_3_code
abbrev y55 := jdk_44_method_5_code
abbrev y56 := jdk_67_method_7_code
abbrev y57 := jdk_68_method_22_code
abbrev y58 := jdk_42_method_54_code
abbrev y59 := jdk_68_method_73_code
abbrev y60 := jdk_68_method_71_code
abbrev y61 := jdk_42_method_147_code
abbrev y62 := method_4_code
abbrev y63 := jdk_42_method_139_code
abbrev y64 := jdk_43_method_46_code
abbrev y65 := jdk_42_method_151_code
abbrev y66 := jdk_42_method_3_code
abbrev y67 := jdk_42_method_149_code
abbrev y68 := jdk_52_method_16_code
abbrev y69 := jdk_52_method_21_code
abbrev y70 := jdk_52_method_15_code
abbrev y71 := jdk_44_method_2_code
abbrev y72 := method_5_code
abbrev y73 := jdk_52_method_2_code
abbrev y74 := jdk_52_method_3_code
abbrev y75 := jdk_65_method_121_code
abbrev y76 := jdk_53_method_4_code
theorem d1_0 : dcd y1 0 (.iload_n 0) 1 := by decide +kernel
theorem d1_1 : dcd y1 1 (.ifCond .ne 6) 3 := by decide +kernel
theorem d1_4 : dcd y1 4 (.ldc 37) 2 := by decide +kernel
theorem d1_6 : dcd y1 6 (.areturn) 1 := by decide +kernel
theorem d1_7 : dcd y1 7 (.iload_n 0) 1 := by decide +kernel
theorem d1_8 : dcd y1 8 (.iconst 1) 1 := by decide +kernel
theorem d1_9 : dcd y1 9 (.if_icmp .ne 8) 3 := by decide +kernel
theorem d1_12 : dcd y1 12 (.iload_n 1) 1 := by decide +kernel
theorem d1_13 : dcd y1 13 (.invokestatic 39) 3 := by decide +kernel
theorem d1_16 : dcd y1 16 (.areturn) 1 := by decide +kernel
theorem d1_17 : dcd y1 17 (.new 40) 3 := by decide +kernel
theorem d1_20 : dcd y1 20 (.dup) 1 := by decide +kernel
theorem d1_21 : dcd y1 21 (.iconst 2) 1 := by decide +kernel
theorem d1_22 : dcd y1 22 (.newarray .char) 2 := by decide +kernel
theorem d1_24 : dcd y1 24 (.dup) 1 := by decide +kernel
theorem d1_25 : dcd y1 25 (.iconst 0) 1 := by decide +kernel
theorem d1_26 : dcd y1 26 (.iload_n 1) 1 := by decide +kernel
theorem d1_27 : dcd y1 27 (.castore) 1 := by decide +kernel
theorem d1_28 : dcd y1 28 (.dup) 1 := by decide +kernel
theorem d1_29 : dcd y1 29 (.iconst 1) 1 := by decide +kernel
theorem d1_30 : dcd y1 30 (.iload_n 2) 1 := by decide +kernel
theorem d1_31 : dcd y1 31 (.castore) 1 := by decide +kernel
theorem d1_32 : dcd y1 32 (.invokespecial 45) 3 := by decide +kernel
theorem d1_35 : dcd y1 35 (.areturn) 1 := by decide +kernel
theorem d2_0 : dcd y2 0 (.aload_n 0) 1 := by decide +kernel
theorem d2_1 : dcd y2 1 (.invokespecial 1) 3 := by decide +kernel
theorem d2_4 : dcd y2 4 (.aload_n 0) 1 := by decide +kernel
theorem d2_5 : dcd y2 5 (.getstatic 39) 3 := by decide +kernel
theorem d2_8 : dcd y2 8 (.putfield 9) 3 := by decide +kernel
theorem d2_11 : dcd y2 11 (.return_) 1 := by decide +kernel
theorem d3_0 : dcd y3 0 (.aload_n 0) 1 := by decide +kernel
theorem d3_1 : dcd y3 1 (.invokespecial 1) 3 := by decide +kernel
theorem d3_4 : dcd y3 4 (.aload_n 0) 1 := by decide +kernel
theorem d3_5 : dcd y3 5 (.iconst 0) 1 := by decide +kernel
theorem d3_6 : dcd y3 6 (.putfield 7) 3 := by decide +kernel
theorem d3_9 : dcd y3 9 (.return_) 1 := by decide +kernel
theorem d4_0 : dcd y4 0 (.aload_n 0) 1 := by decide +kernel
theorem d4_1 : dcd y4 1 (.invokespecial 1) 3 := by decide +kernel
theorem d4_4 : dcd y4 4 (.return_) 1 := by decide +kernel
theorem d6_0 : dcd y6 0 (.aload_n 0) 1 := by decide +kernel
theorem d6_1 : dcd y6 1 (.invokespecial 3) 3 := by decide +kernel
theorem d6_4 : dcd y6 4 (.aload_n 1) 1 := by decide +kernel
theorem d6_5 : dcd y6 5 (.invokestatic 9) 3 := by decide +kernel
theorem d6_8 : dcd y6 8 (.astore_n 1) 1 := by decide +kernel
theorem d6_9 : dcd y6 9 (.aload_n 0) 1 := by decide +kernel
theorem d6_10 : dcd y6 10 (.aload_n 1) 1 := by decide +kernel
theorem d6_11 : dcd y6 11 (.putfield 15) 3 := by decide +kernel
theorem d6_14 : dcd y6 14 (.return_) 1 := by decide +kernel
theorem d7_0 : dcd y7 0 (.aload_n 0) 1 := by decide +kernel
theorem d7_1 : dcd y7 1 (.invokespecial 1) 3 := by decide +kernel
theorem d7_4 : dcd y7 4 (.return_) 1 := by decide +kernel
theorem d8_0 : dcd y8 0 (.aload_n 0) 1 := by decide +kernel
theorem d8_1 : dcd y8 1 (.invokestatic 112) 3 := by decide +kernel
theorem d8_4 : dcd y8 4 (.areturn) 1 := by decide +kernel
theorem d9_0 : dcd y9 0 (.aload_n 0) 1 := by decide +kernel
theorem d9_1 : dcd y9 1 (.instanceof 10) 3 := by decide +kernel
theorem d9_4 : dcd y9 4 (.ifCond .ne 22) 3 := by decide +kernel
theorem d9_7 : dcd y9 7 (.aload_n 0) 1 := by decide +kernel
theorem d9_8 : dcd y9 8 (.instanceof 12) 3 := by decide +kernel
theorem d9_11 : dcd y9 11 (.ifCond .eq 20) 3 := by decide +kernel
theorem d9_31 : dcd y9 31 (.aload_n 0) 1 := by decide +kernel
theorem d9_32 : dcd y9 32 (.invokeinterface 20 1) 5 := by decide +kernel
theorem d9_37 : dcd y9 37 (.ifCond .eq 7) 3 := by decide +kernel
theorem d9_40 : dcd y9 40 (.invokestatic 26) 3 := by decide +kernel
theorem d9_43 : dcd y9 43 (.areturn) 1 := by decide +kernel
theorem d9_44 : dcd y9 44 (.aload_n 0) 1 := by decide +kernel
theorem d9_45 : dcd y9 45 (.invokeinterface 30 1) 5 := by decide +kernel
theorem d9_50 : dcd y9 50 (.invokestatic 34) 3 := by decide +kernel
theorem d9_53 : dcd y9 53 (.areturn) 1 := by decide +kernel
theorem d10_0 : dcd y10 0 (.aload_n 0) 1 := by decide +kernel
theorem d10_1 : dcd y10 1 (.getfield 48) 3 := by decide +kernel
theorem d10_4 : dcd y10 4 (.ifCond .ne 7) 3 := by decide +kernel
theorem d10_7 : dcd y10 7 (.iconst 1) 1 := by decide +kernel
theorem d10_8 : dcd y10 8 (.goto 4) 3 := by decide +kernel
theorem d10_11 : dcd y10 11 (.iconst 0) 1 := by decide +kernel
theorem d10_12 : dcd y10 12 (.ireturn) 1 := by decide +kernel
theorem d11_0 : dcd y11 0 (.getstatic 90) 3 := by decide +kernel
theorem d11_3 : dcd y11 3 (.areturn) 1 := by decide +kernel
theorem d12_0 : dcd y12 0 (.new 85) 3 := by decide +kernel
theorem d12_3 : dcd y12 3 (.dup) 1 := by decide +kernel
theorem d12_4 : dcd y12 4 (.invokespecial 87) 3 := by decide +kernel
theorem d12_7 : dcd y12 7 (.astore_n 1) 1 := by decide +kernel
theorem d12_8 : dcd y12 8 (.aload_n 0) 1 := by decide +kernel
theorem d12_9 : dcd y12 9 (.getfield 15) 3 := by decide +kernel
theorem d12_12 : dcd y12 12 (.invokeinterface 24 1) 5 := by decide +kernel
theorem d12_17 : dcd y12 17 (.astore_n 2) 1 := by decide +kernel
theorem d12_18 : dcd y12 18 (.aload_n 2) 1 := by decide +kernel
theorem d12_19 : dcd y12 19 (.invokeinterface 28 1) 5 := by decide +kernel
theorem d12_24 : dcd y12 24 (.ifCond .eq 27) 3 := by decide +kernel
theorem d12_27 : dcd y12 27 (.aload_n 2) 1 := by decide +kernel
theorem d12_28 : dcd y12 28 (.invokeinterface 34 1) 5 := by decide +kernel
theorem d12_33 : dcd y12 33 (.checkcast 38) 3 := by decide +kernel
theorem d12_36 : dcd y12 36 (.astore_n 3) 1 := by decide +kernel
theorem d12_37 : dcd y12 37 (.aload_n 1) 1 := by decide +kernel
theorem d12_38 : dcd y12 38 (.aload_n 3) 1 := by decide +kernel
theorem d12_39 : dcd y12 39 (.invokevirtual 88) 3 := by decide +kernel
theorem d12_42 : dcd y12 42 (.bipush 10) 2 := by decide +kernel
theorem d12_44 : dcd y12 44 (.invokevirtual 92) 3 := by decide +kernel
theorem d12_47 : dcd y12 47 (.pop) 1 := by decide +kernel
theorem d12_48 : dcd y12 48 (.goto (-30)) 3 := by decide +kernel
theorem d12_51 : dcd y12 51 (.aload_n 1) 1 := by decide +kernel
theorem d12_52 : dcd y12 52 (.bipush 10) 2 := by decide +kernel
theorem d12_54 : dcd y12 54 (.invokevirtual 92) 3 := by decide +kernel
theorem d12_57 : dcd y12 57 (.invokevirtual 95) 3 := by decide +kernel
theorem d12_60 : dcd y12 60 (.getstatic 99) 3 := by decide +kernel
theorem d12_63 : dcd y12 63 (.invokevirtual 105) 3 := by decide +kernel
theorem d12_66 : dcd y12 66 (.areturn) 1 := by decide +kernel
theorem d13_0 : dcd y13 0 (.aload_n 0) 1 := by decide +kernel
theorem d13_1 : dcd y13 1 (.bipush 16) 2 := by decide +kernel
theorem d13_3 : dcd y13 3 (.invokespecial 1) 3 := by decide +kernel
theorem d13_6 : dcd y13 6 (.return_) 1 := by decide +kernel
theorem d14_0 : dcd y14 0 (.aload_n 0) 1 := by decide +kernel
theorem d14_1 : dcd y14 1 (.invokespecial 3) 3 := by decide +kernel
theorem d14_4 : dcd y14 4 (.getstatic 18) 3 := by decide +kernel
theorem d14_7 : dcd y14 7 (.ifCond .eq 18) 3 := by decide +kernel
theorem d14_10 : dcd y14 10 (.aload_n 0) 1 := by decide +kernel
theorem d14_11 : dcd y14 11 (.iload_n 1) 1 := by decide +kernel
theorem d14_12 : dcd y14 12 (.newarray .byte) 2 := by decide +kernel
theorem d14_14 : dcd y14 14 (.putfield 15) 3 := by decide +kernel
theorem d14_17 : dcd y14 17 (.aload_n 0) 1 := by decide +kernel
theorem d14_18 : dcd y14 18 (.iconst 0) 1 := by decide +kernel
theorem d14_19 : dcd y14 19 (.putfield 22) 3 := by decide +kernel
theorem d14_22 : dcd y14 22 (.goto 16) 3 := by decide +kernel
theorem d14_38 : dcd y14 38 (.return_) 1 := by decide +kernel
theorem d15_0 : dcd y15 0 (.new 61) 3 := by decide +kernel
theorem d15_3 : dcd y15 3 (.dup) 1 := by decide +kernel
theorem d15_4 : dcd y15 4 (.aload_n 0) 1 := by decide +kernel
theorem d15_5 : dcd y15 5 (.aload_n 0) 1 := by decide +kernel
theorem d15_6 : dcd y15 6 (.invokevirtual 13) 3 := by decide +kernel
theorem d15_9 : dcd y15 9 (.invokespecial 63) 3 := by decide +kernel
theorem d15_12 : dcd y15 12 (.areturn) 1 := by decide +kernel
theorem d16_0 : dcd y16 0 (.aload_n 0) 1 := by decide +kernel
theorem d16_1 : dcd y16 1 (.getfield 7) 3 := by decide +kernel
theorem d16_4 : dcd y16 4 (.arraylength) 1 := by decide +kernel
theorem d16_5 : dcd y16 5 (.ireturn) 1 := by decide +kernel
theorem d17_0 : dcd y17 0 (.aload_n 0) 1 := by decide +kernel
theorem d17_1 : dcd y17 1 (.invokespecial 1) 3 := by decide +kernel
theorem d17_4 : dcd y17 4 (.aload_n 0) 1 := by decide +kernel
theorem d17_5 : dcd y17 5 (.aload_n 1) 1 := by decide +kernel
theorem d17_6 : dcd y17 6 (.putfield 7) 3 := by decide +kernel
theorem d17_9 : dcd y17 9 (.aload_n 0) 1 := by decide +kernel
theorem d17_10 : dcd y17 10 (.iload_n 2) 1 := by decide +kernel
theorem d17_11 : dcd y17 11 (.putfield 13) 3 := by decide +kernel
theorem d17_14 : dcd y17 14 (.aload_n 0) 1 := by decide +kernel
theorem d17_15 : dcd y17 15 (.iconst 0) 1 := by decide +kernel
theorem d17_16 : dcd y17 16 (.putfield 17) 3 := by decide +kernel
theorem d17_19 : dcd y17 19 (.aload_n 0) 1 := by decide +kernel
theorem d17_20 : dcd y17 20 (.iconst 0) 1 := by decide +kernel
theorem d17_21 : dcd y17 21 (.putfield 20) 3 := by decide +kernel
theorem d17_24 : dcd y17 24 (.return_) 1 := by decide +kernel
theorem d18_0 : dcd y18 0 (.aload_n 0) 1 := by decide +kernel
theorem d18_1 : dcd y18 1 (.getfield 17) 3 := by decide +kernel
theorem d18_4 : dcd y18 4 (.aload_n 0) 1 := by decide +kernel
theorem d18_5 : dcd y18 5 (.getfield 13) 3 := by decide +kernel
theorem d18_8 : dcd y18 8 (.if_icmp .eq 7) 3 := by decide +kernel
theorem d18_11 : dcd y18 11 (.iconst 1) 1 := by decide +kernel
theorem d18_12 : dcd y18 12 (.goto 4) 3 := by decide +kernel
theorem d18_15 : dcd y18 15 (.iconst 0) 1 := by decide +kernel
theorem d18_16 : dcd y18 16 (.ireturn) 1 := by decide +kernel
theorem d19_0 : dcd y19 0 (.aload_n 0) 1 := by decide +kernel
theorem d19_1 : dcd y19 1 (.iload_n 1) 1 := by decide +kernel
theorem d19_2 : dcd y19 2 (.invokespecial 50) 3 := by decide +kernel
theorem d19_5 : dcd y19 5 (.pop) 1 := by decide +kernel
theorem d19_6 : dcd y19 6 (.aload_n 0) 1 := by decide +kernel
theorem d19_7 : dcd y19 7 (.areturn) 1 := by decide +kernel
theorem d20_0 : dcd y20 0 (.aload_n 0) 1 := by decide +kernel
theorem d20_1 : dcd y20 1 (.aload_n 0) 1 := by decide +kernel
theorem d20_2 : dcd y20 2 (.getfield 79) 3 := by decide +kernel
theorem d20_5 : dcd y20 5 (.iconst 1) 1 := by decide +kernel
theorem d20_6 : dcd y20 6 (.iadd) 1 := by decide +kernel
theorem d20_7 : dcd y20 7 (.invokevirtual 100) 3 := by decide +kernel
theorem d20_10 : dcd y20 10 (.aload_n 0) 1 := by decide +kernel
theorem d20_11 : dcd y20 11 (.invokevirtual 83) 3 := by decide +kernel
theorem d20_14 : dcd y20 14 (.ifCond .eq 31) 3 := by decide +kernel
theorem d20_17 : dcd y20 17 (.iload_n 1) 1 := by decide +kernel
theorem d20_18 : dcd y20 18 (.invokestatic 191) 3 := by decide +kernel
theorem d20_21 : dcd y20 21 (.ifCond .eq 24) 3 := by decide +kernel
theorem d20_24 : dcd y20 24 (.aload_n 0) 1 := by decide +kernel
theorem d20_25 : dcd y20 25 (.getfield 15) 3 := by decide +kernel
theorem d20_28 : dcd y20 28 (.aload_n 0) 1 := by decide +kernel
theorem d20_29 : dcd y20 29 (.dup) 1 := by decide +kernel
theorem d20_30 : dcd y20 30 (.getfield 79) 3 := by decide +kernel
theorem d20_33 : dcd y20 33 (.dup_x1) 1 := by decide +kernel
theorem d20_34 : dcd y20 34 (.iconst 1) 1 := by decide +kernel
theorem d20_35 : dcd y20 35 (.iadd) 1 := by decide +kernel
theorem d20_36 : dcd y20 36 (.putfield 79) 3 := by decide +kernel
theorem d20_39 : dcd y20 39 (.iload_n 1) 1 := by decide +kernel
theorem d20_40 : dcd y20 40 (.i2b) 1 := by decide +kernel
theorem d20_41 : dcd y20 41 (.bastore) 1 := by decide +kernel
theorem d20_42 : dcd y20 42 (.goto 33) 3 := by decide +kernel
theorem d20_75 : dcd y20 75 (.aload_n 0) 1 := by decide +kernel
theorem d20_76 : dcd y20 76 (.areturn) 1 := by decide +kernel
theorem d21_0 : dcd y21 0 (.aload_n 0) 1 := by decide +kernel
theorem d21_1 : dcd y21 1 (.getfield 15) 3 := by decide +kernel
theorem d21_4 : dcd y21 4 (.arraylength) 1 := by decide +kernel
theorem d21_5 : dcd y21 5 (.aload_n 0) 1 := by decide +kernel
theorem d21_6 : dcd y21 6 (.getfield 22) 3 := by decide +kernel
theorem d21_9 : dcd y21 9 (.ishr) 1 := by decide +kernel
theorem d21_10 : dcd y21 10 (.istore_n 2) 1 := by decide +kernel
theorem d21_11 : dcd y21 11 (.iload_n 1) 1 := by decide +kernel
theorem d21_12 : dcd y21 12 (.iload_n 2) 1 := by decide +kernel
theorem d21_13 : dcd y21 13 (.isub) 1 := by decide +kernel
theorem d21_14 : dcd y21 14 (.ifCond .le 24) 3 := by decide +kernel
theorem d21_38 : dcd y21 38 (.return_) 1 := by decide +kernel
theorem d22_0 : dcd y22 0 (.getstatic 18) 3 := by decide +kernel
theorem d22_3 : dcd y22 3 (.ifCond .eq 14) 3 := by decide +kernel
theorem d22_6 : dcd y22 6 (.aload_n 0) 1 := by decide +kernel
theorem d22_7 : dcd y22 7 (.getfield 22) 3 := by decide +kernel
theorem d22_10 : dcd y22 10 (.ifCond .ne 7) 3 := by decide +kernel
theorem d22_13 : dcd y22 13 (.iconst 1) 1 := by decide +kernel
theorem d22_14 : dcd y22 14 (.goto 4) 3 := by decide +kernel
theorem d22_18 : dcd y22 18 (.ireturn) 1 := by decide +kernel
theorem d23_0 : dcd y23 0 (.iload_n 0) 1 := by decide +kernel
theorem d23_1 : dcd y23 1 (.sipush 255) 3 := by decide +kernel
theorem d23_4 : dcd y23 4 (.if_icmp .gt 7) 3 := by decide +kernel
theorem d23_7 : dcd y23 7 (.iconst 1) 1 := by decide +kernel
theorem d23_8 : dcd y23 8 (.goto 4) 3 := by decide +kernel
theorem d23_12 : dcd y23 12 (.ireturn) 1 := by decide +kernel
theorem d24_0 : dcd y24 0 (.new 18) 3 := by decide +kernel
theorem d24_3 : dcd y24 3 (.dup) 1 := by decide +kernel
theorem d24_4 : dcd y24 4 (.aload_n 0) 1 := by decide +kernel
theorem d24_5 : dcd y24 5 (.invokespecial 137) 3 := by decide +kernel
theorem d24_8 : dcd y24 8 (.areturn) 1 := by decide +kernel
theorem d25_0 : dcd y25 0 (.aload_n 0) 1 := by decide +kernel
theorem d25_1 : dcd y25 1 (.aload_n 1) 1 := by decide +kernel
theorem d25_2 : dcd y25 2 (.aconst_null) 1 := by decide +kernel
theorem d25_3 : dcd y25 3 (.invokespecial 489) 3 := by decide +kernel
theorem d25_6 : dcd y25 6 (.return_) 1 := by decide +kernel
theorem d26_0 : dcd y26 0 (.aload_n 0) 1 := by decide +kernel
theorem d26_1 : dcd y26 1 (.invokespecial 1) 3 := by decide +kernel
theorem d26_4 : dcd y26 4 (.aload_n 1) 1 := by decide +kernel
theorem d26_5 : dcd y26 5 (.invokevirtual 552) 3 := by decide +kernel
theorem d26_8 : dcd y26 8 (.astore_n 3) 1 := by decide +kernel
theorem d26_9 : dcd y26 9 (.aload_n 1) 1 := by decide +kernel
theorem d26_10 : dcd y26 10 (.invokevirtual 549) 3 := by decide +kernel
theorem d26_13 : dcd y26 13 (.istore 4) 2 := by decide +kernel
theorem d26_15 : dcd y26 15 (.aload_n 1) 1 := by decide +kernel
theorem d26_16 : dcd y26 16 (.invokevirtual 1047) 3 := by decide +kernel
theorem d26_19 : dcd y26 19 (.ifCond .eq 22) 3 := by decide +kernel
theorem d26_22 : dcd y26 22 (.aload_n 0) 1 := by decide +kernel
theorem d26_23 : dcd y26 23 (.iconst 0) 1 := by decide +kernel
theorem d26_24 : dcd y26 24 (.putfield 15) 3 := by decide +kernel
theorem d26_27 : dcd y26 27 (.aload_n 0) 1 := by decide +kernel
theorem d26_28 : dcd y26 28 (.aload_n 3) 1 := by decide +kernel
theorem d26_29 : dcd y26 29 (.iconst 0) 1 := by decide +kernel
theorem d26_30 : dcd y26 30 (.iload 4) 2 := by decide +kernel
theorem d26_32 : dcd y26 32 (.invokestatic 54) 3 := by decide +kernel
theorem d26_35 : dcd y26 35 (.putfield 9) 3 := by decide +kernel
theorem d26_38 : dcd y26 38 (.goto 59) 3 := by decide +kernel
theorem d26_97 : dcd y26 97 (.return_) 1 := by decide +kernel
theorem d27_0 : dcd y27 0 (.aload_n 0) 1 := by decide +kernel
theorem d27_1 : dcd y27 1 (.getfield 15) 3 := by decide +kernel
theorem d27_4 : dcd y27 4 (.areturn) 1 := by decide +kernel
theorem d28_0 : dcd y28 0 (.aload_n 0) 1 := by decide +kernel
theorem d28_1 : dcd y28 1 (.invokespecial 343) 3 := by decide +kernel
theorem d28_4 : dcd y28 4 (.ireturn) 1 := by decide +kernel
theorem d29_0 : dcd y29 0 (.aload_n 0) 1 := by decide +kernel
theorem d29_1 : dcd y29 1 (.getfield 79) 3 := by decide +kernel
theorem d29_4 : dcd y29 4 (.ireturn) 1 := by decide +kernel
theorem d30_0 : dcd y30 0 (.iload_n 1) 1 := by decide +kernel
theorem d30_1 : dcd y30 1 (.ifCond .ne 9) 3 := by decide +kernel
theorem d30_4 : dcd y30 4 (.iload_n 2) 1 := by decide +kernel
theorem d30_5 : dcd y30 5 (.aload_n 0) 1 := by decide +kernel
theorem d30_6 : dcd y30 6 (.arraylength) 1 := by decide +kernel
theorem d30_7 : dcd y30 7 (.if_icmp .eq 10) 3 := by decide +kernel
theorem d30_10 : dcd y30 10 (.aload_n 0) 1 := by decide +kernel
theorem d30_11 : dcd y30 11 (.iload_n 1) 1 := by decide +kernel
theorem d30_12 : dcd y30 12 (.iload_n 2) 1 := by decide +kernel
theorem d30_13 : dcd y30 13 (.invokestatic 339) 3 := by decide +kernel
theorem d30_16 : dcd y30 16 (.areturn) 1 := by decide +kernel
theorem d31_0 : dcd y31 0 (.iload_n 1) 1 := by decide +kernel
theorem d31_1 : dcd y31 1 (.iload_n 2) 1 := by decide +kernel
theorem d31_2 : dcd y31 2 (.invokestatic 343) 3 := by decide +kernel
theorem d31_5 : dcd y31 5 (.iload_n 2) 1 := by decide +kernel
theorem d31_6 : dcd y31 6 (.iload_n 1) 1 := by decide +kernel
theorem d31_7 : dcd y31 7 (.isub) 1 := by decide +kernel
theorem d31_8 : dcd y31 8 (.istore_n 3) 1 := by decide +kernel
theorem d31_9 : dcd y31 9 (.iload_n 3) 1 := by decide +kernel
theorem d31_10 : dcd y31 10 (.newarray .byte) 2 := by decide +kernel
theorem d31_12 : dcd y31 12 (.astore 4) 2 := by decide +kernel
theorem d31_14 : dcd y31 14 (.aload_n 0) 1 := by decide +kernel
theorem d31_15 : dcd y31 15 (.iload_n 1) 1 := by decide +kernel
theorem d31_16 : dcd y31 16 (.aload 4) 2 := by decide +kernel
theorem d31_18 : dcd y31 18 (.iconst 0) 1 := by decide +kernel
theorem d31_19 : dcd y31 19 (.aload_n 0) 1 := by decide +kernel
theorem d31_20 : dcd y31 20 (.arraylength) 1 := by decide +kernel
theorem d31_21 : dcd y31 21 (.iload_n 1) 1 := by decide +kernel
theorem d31_22 : dcd y31 22 (.isub) 1 := by decide +kernel
theorem d31_23 : dcd y31 23 (.iload_n 3) 1 := by decide +kernel
theorem d31_24 : dcd y31 24 (.invokestatic 304) 3 := by decide +kernel
theorem d31_27 : dcd y31 27 (.invokestatic 150) 3 := by decide +kernel
theorem d31_30 : dcd y31 30 (.aload 4) 2 := by decide +kernel
theorem d31_32 : dcd y31 32 (.areturn) 1 := by decide +kernel
theorem d32_0 : dcd y32 0 (.iload_n 1) 1 := by decide +kernel
theorem d32_1 : dcd y32 1 (.iload_n 0) 1 := by decide +kernel
theorem d32_2 : dcd y32 2 (.if_icmp .ge 35) 3 := by decide +kernel
theorem d32_37 : dcd y32 37 (.return_) 1 := by decide +kernel
theorem d33_0 : dcd y33 0 (.iload_n 0) 1 := by decide +kernel
theorem d33_1 : dcd y33 1 (.iload_n 1) 1 := by decide +kernel
theorem d33_2 : dcd y33 2 (.if_icmp .gt 7) 3 := by decide +kernel
theorem d33_9 : dcd y33 9 (.iload_n 1) 1 := by decide +kernel
theorem d33_10 : dcd y33 10 (.ireturn) 1 := by decide +kernel
theorem d34_0 : dcd y34 0 (.aload_n 1) 1 := by decide +kernel
theorem d34_1 : dcd y34 1 (.ifnonnull 11) 3 := by decide +kernel
theorem d34_12 : dcd y34 12 (.aload_n 1) 1 := by decide +kernel
theorem d34_13 : dcd y34 13 (.aload_n 0) 1 := by decide +kernel
theorem d34_14 : dcd y34 14 (.invokevirtual 335) 3 := by decide +kernel
theorem d34_17 : dcd y34 17 (.aload_n 0) 1 := by decide +kernel
theorem d34_18 : dcd y34 18 (.getfield 9) 3 := by decide +kernel
theorem d34_21 : dcd y34 21 (.invokestatic 535) 3 := by decide +kernel
theorem d34_24 : dcd y34 24 (.areturn) 1 := by decide +kernel
theorem d35_0 : dcd y35 0 (.getstatic 38) 3 := by decide +kernel
theorem d35_3 : dcd y35 3 (.ifCond .eq 10) 3 := by decide +kernel
theorem d35_6 : dcd y35 6 (.aload_n 0) 1 := by decide +kernel
theorem d35_7 : dcd y35 7 (.getfield 15) 3 := by decide +kernel
theorem d35_10 : dcd y35 10 (.goto 4) 3 := by decide +kernel
theorem d35_14 : dcd y35 14 (.ireturn) 1 := by decide +kernel
theorem d36_0 : dcd y36 0 (.aload_n 0) 1 := by decide +kernel
theorem d36_1 : dcd y36 1 (.getstatic 86) 3 := by decide +kernel
theorem d36_4 : dcd y36 4 (.if_acmp .ne 10) 3 := by decide +kernel
theorem d36_7 : dcd y36 7 (.iload_n 1) 1 := by decide +kernel
theorem d36_8 : dcd y36 8 (.aload_n 2) 1 := by decide +kernel
theorem d36_9 : dcd y36 9 (.iconst 1) 1 := by decide +kernel
theorem d36_10 : dcd y36 10 (.invokestatic 252) 3 := by decide +kernel
theorem d36_13 : dcd y36 13 (.areturn) 1 := by decide +kernel
theorem d37_0 : dcd y37 0 (.iload_n 0) 1 := by decide +kernel
theorem d37_1 : dcd y37 1 (.iconst 1) 1 := by decide +kernel
theorem d37_2 : dcd y37 2 (.if_icmp .ne 9) 3 := by decide +kernel
theorem d37_11 : dcd y37 11 (.aload_n 1) 1 := by decide +kernel
theorem d37_12 : dcd y37 12 (.iconst 0) 1 := by decide +kernel
theorem d37_13 : dcd y37 13 (.aload_n 1) 1 := by decide +kernel
theorem d37_14 : dcd y37 14 (.arraylength) 1 := by decide +kernel
theorem d37_15 : dcd y37 15 (.invokestatic 128) 3 := by decide +kernel
theorem d37_18 : dcd y37 18 (.ifCond .ne 11) 3 := by decide +kernel
theorem d37_21 : dcd y37 21 (.aload_n 1) 1 := by decide +kernel
theorem d37_22 : dcd y37 22 (.invokevirtual 279) 3 := by decide +kernel
theorem d37_25 : dcd y37 25 (.checkcast 280) 3 := by decide +kernel
theorem d37_28 : dcd y37 28 (.areturn) 1 := by decide +kernel
theorem d37_29 : dcd y37 29 (.iconst 0) 1 := by decide +kernel
theorem d37_30 : dcd y37 30 (.istore_n 3) 1 := by decide +kernel
theorem d37_31 : dcd y37 31 (.aload_n 1) 1 := by decide +kernel
theorem d37_32 : dcd y37 32 (.arraylength) 1 := by decide +kernel
theorem d37_33 : dcd y37 33 (.invokestatic 60) 3 := by decide +kernel
theorem d37_36 : dcd y37 36 (.astore 4) 2 := by decide +kernel
theorem d37_38 : dcd y37 38 (.aload_n 1) 1 := by decide +kernel
theorem d37_39 : dcd y37 39 (.astore 5) 2 := by decide +kernel
theorem d37_41 : dcd y37 41 (.aload 5) 2 := by decide +kernel
theorem d37_43 : dcd y37 43 (.arraylength) 1 := by decide +kernel
theorem d37_44 : dcd y37 44 (.istore 6) 2 := by decide +kernel
theorem d37_46 : dcd y37 46 (.iconst 0) 1 := by decide +kernel
theorem d37_47 : dcd y37 47 (.istore 7) 2 := by decide +kernel
theorem d37_49 : dcd y37 49 (.iload 7) 2 := by decide +kernel
theorem d37_51 : dcd y37 51 (.iload 6) 2 := by decide +kernel
theorem d37_53 : dcd y37 53 (.if_icmp .ge 71) 3 := by decide +kernel
theorem d37_56 : dcd y37 56 (.aload 5) 2 := by decide +kernel
theorem d37_58 : dcd y37 58 (.iload 7) 2 := by decide +kernel
theorem d37_60 : dcd y37 60 (.baload) 1 := by decide +kernel
theorem d37_61 : dcd y37 61 (.istore 8) 2 := by decide +kernel
theorem d37_63 : dcd y37 63 (.iload 8) 2 := by decide +kernel
theorem d37_65 : dcd y37 65 (.ifCond .ge 44) 3 := by decide +kernel
theorem d37_68 : dcd y37 68 (.aload 4) 2 := by decide +kernel
theorem d37_70 : dcd y37 70 (.iload_n 3) 1 := by decide +kernel
theorem d37_71 : dcd y37 71 (.iinc 3 1) 3 := by decide +kernel
theorem d37_74 : dcd y37 74 (.sipush 192) 3 := by decide +kernel
theorem d37_77 : dcd y37 77 (.iload 8) 2 := by decide +kernel
theorem d37_79 : dcd y37 79 (.sipush 255) 3 := by decide +kernel
theorem d37_82 : dcd y37 82 (.iand) 1 := by decide +kernel
theorem d37_83 : dcd y37 83 (.bipush 6) 2 := by decide +kernel
theorem d37_85 : dcd y37 85 (.ishr) 1 := by decide +kernel
theorem d37_86 : dcd y37 86 (.ior) 1 := by decide +kernel
theorem d37_87 : dcd y37 87 (.i2b) 1 := by decide +kernel
theorem d37_88 : dcd y37 88 (.bastore) 1 := by decide +kernel
theorem d37_89 : dcd y37 89 (.aload 4) 2 := by decide +kernel
theorem d37_91 : dcd y37 91 (.iload_n 3) 1 := by decide +kernel
theorem d37_92 : dcd y37 92 (.iinc 3 1) 3 := by decide +kernel
theorem d37_95 : dcd y37 95 (.sipush 128) 3 := by decide +kernel
theorem d37_98 : dcd y37 98 (.iload 8) 2 := by decide +kernel
theorem d37_100 : dcd y37 100 (.bipush 63) 2 := by decide +kernel
theorem d37_102 : dcd y37 102 (.iand) 1 := by decide +kernel
theorem d37_103 : dcd y37 103 (.ior) 1 := by decide +kernel
theorem d37_104 : dcd y37 104 (.i2b) 1 := by decide +kernel
theorem d37_105 : dcd y37 105 (.bastore) 1 := by decide +kernel
theorem d37_106 : dcd y37 106 (.goto 12) 3 := by decide +kernel
theorem d37_109 : dcd y37 109 (.aload 4) 2 := by decide +kernel
theorem d37_111 : dcd y37 111 (.iload_n 3) 1 := by decide +kernel
theorem d37_112 : dcd y37 112 (.iinc 3 1) 3 := by decide +kernel
theorem d37_115 : dcd y37 115 (.iload 8) 2 := by decide +kernel
theorem d37_117 : dcd y37 117 (.bastore) 1 := by decide +kernel
theorem d37_118 : dcd y37 118 (.iinc 7 1) 3 := by decide +kernel
theorem d37_121 : dcd y37 121 (.goto (-72)) 3 := by decide +kernel
theorem d37_124 : dcd y37 124 (.iload_n 3) 1 := by decide +kernel
theorem d37_125 : dcd y37 125 (.aload 4) 2 := by decide +kernel
theorem d37_127 : dcd y37 127 (.arraylength) 1 := by decide +kernel
theorem d37_128 : dcd y37 128 (.if_icmp .ne 6) 3 := by decide +kernel
theorem d37_134 : dcd y37 134 (.aload 4) 2 := by decide +kernel
theorem d37_136 : dcd y37 136 (.iload_n 3) 1 := by decide +kernel
theorem d37_137 : dcd y37 137 (.invokestatic 102) 3 := by decide +kernel
theorem d37_140 : dcd y37 140 (.areturn) 1 := by decide +kernel
theorem d38_0 : dcd y38 0 (.aload_n 0) 1 := by decide +kernel
theorem d38_1 : dcd y38 1 (.iload_n 1) 1 := by decide +kernel
theorem d38_2 : dcd y38 2 (.iload_n 2) 1 := by decide +kernel
theorem d38_3 : dcd y38 3 (.invokestatic 7) 3 := by decide +kernel
theorem d38_6 : dcd y38 6 (.iload_n 2) 1 := by decide +kernel
theorem d38_7 : dcd y38 7 (.if_icmp .eq 7) 3 := by decide +kernel
theorem d38_10 : dcd y38 10 (.iconst 1) 1 := by decide +kernel
theorem d38_11 : dcd y38 11 (.goto 4) 3 := by decide +kernel
theorem d38_14 : dcd y38 14 (.iconst 0) 1 := by decide +kernel
theorem d38_15 : dcd y38 15 (.ireturn) 1 := by decide +kernel
theorem d39_0 : dcd y39 0 (.iload_n 1) 1 := by decide +kernel
theorem d39_1 : dcd y39 1 (.iload_n 2) 1 := by decide +kernel
theorem d39_2 : dcd y39 2 (.iadd) 1 := by decide +kernel
theorem d39_3 : dcd y39 3 (.istore_n 3) 1 := by decide +kernel
theorem d39_4 : dcd y39 4 (.iload_n 1) 1 := by decide +kernel
theorem d39_5 : dcd y39 5 (.istore 4) 2 := by decide +kernel
theorem d39_7 : dcd y39 7 (.iload 4) 2 := by decide +kernel
theorem d39_9 : dcd y39 9 (.iload_n 3) 1 := by decide +kernel
theorem d39_10 : dcd y39 10 (.if_icmp .ge 21) 3 := by decide +kernel
theorem d39_13 : dcd y39 13 (.aload_n 0) 1 := by decide +kernel
theorem d39_14 : dcd y39 14 (.iload 4) 2 := by decide +kernel
theorem d39_16 : dcd y39 16 (.baload) 1 := by decide +kernel
theorem d39_17 : dcd y39 17 (.ifCond .ge 8) 3 := by decide +kernel
theorem d39_20 : dcd y39 20 (.iload 4) 2 := by decide +kernel
theorem d39_22 : dcd y39 22 (.iload_n 1) 1 := by decide +kernel
theorem d39_23 : dcd y39 23 (.isub) 1 := by decide +kernel
theorem d39_24 : dcd y39 24 (.ireturn) 1 := by decide +kernel
theorem d39_25 : dcd y39 25 (.iinc 4 1) 3 := by decide +kernel
theorem d39_28 : dcd y39 28 (.goto (-21)) 3 := by decide +kernel
theorem d39_31 : dcd y39 31 (.iload_n 2) 1 := by decide +kernel
theorem d39_32 : dcd y39 32 (.ireturn) 1 := by decide +kernel
theorem d40_0 : dcd y40 0 (.iload_n 2) 1 := by decide +kernel
theorem d40_1 : dcd y40 1 (.aload_n 0) 1 := by decide +kernel
theorem d40_2 : dcd y40 2 (.arraylength) 1 := by decide +kernel
theorem d40_3 : dcd y40 3 (.if_icmp .ge 13) 3 := by decide +kernel
theorem d40_6 : dcd y40 6 (.aload_n 0) 1 := by decide +kernel
theorem d40_7 : dcd y40 7 (.iload_n 2) 1 := by decide +kernel
theorem d40_8 : dcd y40 8 (.baload) 1 := by decide +kernel
theorem d40_9 : dcd y40 9 (.sipush 255) 3 := by decide +kernel
theorem d40_12 : dcd y40 12 (.iand) 1 := by decide +kernel
theorem d40_13 : dcd y40 13 (.goto 4) 3 := by decide +kernel
theorem d40_16 : dcd y40 16 (.iconst (-1)) 1 := by decide +kernel
theorem d40_17 : dcd y40 17 (.istore_n 3) 1 := by decide +kernel
theorem d40_18 : dcd y40 18 (.iload_n 3) 1 := by decide +kernel
theorem d40_19 : dcd y40 19 (.aload_n 1) 1 := by decide +kernel
theorem d40_20 : dcd y40 20 (.iload_n 2) 1 := by decide +kernel
theorem d40_21 : dcd y40 21 (.iaload) 1 := by decide +kernel
theorem d40_22 : dcd y40 22 (.if_icmp .ne 7) 3 := by decide +kernel
theorem d40_25 : dcd y40 25 (.iconst 1) 1 := by decide +kernel
theorem d40_26 : dcd y40 26 (.goto 4) 3 := by decide +kernel
theorem d40_30 : dcd y40 30 (.ireturn) 1 := by decide +kernel
theorem d41_0 : dcd y41 0 (.aload_n 0) 1 := by decide +kernel
theorem d41_1 : dcd y41 1 (.dup) 1 := by decide +kernel
theorem d41_2 : dcd y41 2 (.getfield 63) 3 := by decide +kernel
theorem d41_5 : dcd y41 5 (.iconst 1) 1 := by decide +kernel
theorem d41_6 : dcd y41 6 (.iadd) 1 := by decide +kernel
theorem d41_7 : dcd y41 7 (.putfield 63) 3 := by decide +kernel
theorem d41_10 : dcd y41 10 (.aload_n 0) 1 := by decide +kernel
theorem d41_11 : dcd y41 11 (.aload_n 1) 1 := by decide +kernel
theorem d41_12 : dcd y41 12 (.aload_n 0) 1 := by decide +kernel
theorem d41_13 : dcd y41 13 (.getfield 9) 3 := by decide +kernel
theorem d41_16 : dcd y41 16 (.aload_n 0) 1 := by decide +kernel
theorem d41_17 : dcd y41 17 (.getfield 48) 3 := by decide +kernel
theorem d41_20 : dcd y41 20 (.invokevirtual 131) 3 := by decide +kernel
theorem d41_23 : dcd y41 23 (.iconst 1) 1 := by decide +kernel
theorem d41_24 : dcd y41 24 (.ireturn) 1 := by decide +kernel
theorem d42_0 : dcd y42 0 (.iload_n 3) 1 := by decide +kernel
theorem d42_1 : dcd y42 1 (.aload_n 2) 1 := by decide +kernel
theorem d42_2 : dcd y42 2 (.arraylength) 1 := by decide +kernel
theorem d42_3 : dcd y42 3 (.if_icmp .ne 8) 3 := by decide +kernel
theorem d42_6 : dcd y42 6 (.aload_n 0) 1 := by decide +kernel
theorem d42_7 : dcd y42 7 (.invokevirtual 129) 3 := by decide +kernel
theorem d42_10 : dcd y42 10 (.astore_n 2) 1 := by decide +kernel
theorem d42_11 : dcd y42 11 (.aload_n 2) 1 := by decide +kernel
theorem d42_12 : dcd y42 12 (.iload_n 3) 1 := by decide +kernel
theorem d42_13 : dcd y42 13 (.aload_n 1) 1 := by decide +kernel
theorem d42_14 : dcd y42 14 (.aastore) 1 := by decide +kernel
theorem d42_15 : dcd y42 15 (.aload_n 0) 1 := by decide +kernel
theorem d42_16 : dcd y42 16 (.iload_n 3) 1 := by decide +kernel
theorem d42_17 : dcd y42 17 (.iconst 1) 1 := by decide +kernel
theorem d42_18 : dcd y42 18 (.iadd) 1 := by decide +kernel
theorem d42_19 : dcd y42 19 (.putfield 48) 3 := by decide +kernel
theorem d42_22 : dcd y42 22 (.return_) 1 := by decide +kernel
theorem d43_0 : dcd y43 0 (.aload_n 0) 1 := by decide +kernel
theorem d43_1 : dcd y43 1 (.aload_n 0) 1 := by decide +kernel
theorem d43_2 : dcd y43 2 (.getfield 48) 3 := by decide +kernel
theorem d43_5 : dcd y43 5 (.iconst 1) 1 := by decide +kernel
theorem d43_6 : dcd y43 6 (.iadd) 1 := by decide +kernel
theorem d43_7 : dcd y43 7 (.invokevirtual 69) 3 := by decide +kernel
theorem d43_10 : dcd y43 10 (.areturn) 1 := by decide +kernel
theorem d44_0 : dcd y44 0 (.aload_n 0) 1 := by decide +kernel
theorem d44_1 : dcd y44 1 (.getfield 9) 3 := by decide +kernel
theorem d44_4 : dcd y44 4 (.arraylength) 1 := by decide +kernel
theorem d44_5 : dcd y44 5 (.istore_n 2) 1 := by decide +kernel
theorem d44_6 : dcd y44 6 (.iload_n 2) 1 := by decide +kernel
theorem d44_7 : dcd y44 7 (.ifCond .gt 13) 3 := by decide +kernel
theorem d44_10 : dcd y44 10 (.aload_n 0) 1 := by decide +kernel
theorem d44_11 : dcd y44 11 (.getfield 9) 3 := by decide +kernel
theorem d44_14 : dcd y44 14 (.getstatic 39) 3 := by decide +kernel
theorem d44_17 : dcd y44 17 (.if_acmp .eq 28) 3 := by decide +kernel
theorem d44_45 : dcd y44 45 (.aload_n 0) 1 := by decide +kernel
theorem d44_46 : dcd y44 46 (.bipush 10) 2 := by decide +kernel
theorem d44_48 : dcd y44 48 (.iload_n 1) 1 := by decide +kernel
theorem d44_49 : dcd y44 49 (.invokestatic 79) 3 := by decide +kernel
theorem d44_52 : dcd y44 52 (.anewarray 7) 3 := by decide +kernel
theorem d44_55 : dcd y44 55 (.dup_x1) 1 := by decide +kernel
theorem d44_56 : dcd y44 56 (.putfield 9) 3 := by decide +kernel
theorem d44_59 : dcd y44 59 (.areturn) 1 := by decide +kernel
theorem d45_0 : dcd y45 0 (.iload_n 0) 1 := by decide +kernel
theorem d45_1 : dcd y45 1 (.iload_n 1) 1 := by decide +kernel
theorem d45_2 : dcd y45 2 (.if_icmp .lt 7) 3 := by decide +kernel
theorem d45_5 : dcd y45 5 (.iload_n 0) 1 := by decide +kernel
theorem d45_6 : dcd y45 6 (.goto 4) 3 := by decide +kernel
theorem d45_10 : dcd y45 10 (.ireturn) 1 := by decide +kernel
theorem d46_0 : dcd y46 0 (.aload_n 0) 1 := by decide +kernel
theorem d46_1 : dcd y46 1 (.getfield 9) 3 := by decide +kernel
theorem d46_4 : dcd y46 4 (.aload_n 0) 1 := by decide +kernel
theorem d46_5 : dcd y46 5 (.getfield 48) 3 := by decide +kernel
theorem d46_8 : dcd y46 8 (.invokestatic 66) 3 := by decide +kernel
theorem d46_11 : dcd y46 11 (.areturn) 1 := by decide +kernel
theorem d47_0 : dcd y47 0 (.aload_n 0) 1 := by decide +kernel
theorem d47_1 : dcd y47 1 (.iload_n 1) 1 := by decide +kernel
theorem d47_2 : dcd y47 2 (.aload_n 0) 1 := by decide +kernel
theorem d47_3 : dcd y47 3 (.invokevirtual 86) 3 := by decide +kernel
theorem d47_6 : dcd y47 6 (.invokestatic 300) 3 := by decide +kernel
theorem d47_9 : dcd y47 9 (.areturn) 1 := by decide +kernel
theorem d48_0 : dcd y48 0 (.aload_n 2) 1 := by decide +kernel
theorem d48_1 : dcd y48 1 (.ldc 110) 2 := by decide +kernel
theorem d48_3 : dcd y48 3 (.if_acmp .ne 10) 3 := by decide +kernel
theorem d48_6 : dcd y48 6 (.iload_n 1) 1 := by decide +kernel
theorem d48_7 : dcd y48 7 (.anewarray 2) 3 := by decide +kernel
theorem d48_10 : dcd y48 10 (.goto 14) 3 := by decide +kernel
theorem d48_24 : dcd y48 24 (.astore_n 3) 1 := by decide +kernel
theorem d48_25 : dcd y48 25 (.aload_n 0) 1 := by decide +kernel
theorem d48_26 : dcd y48 26 (.iconst 0) 1 := by decide +kernel
theorem d48_27 : dcd y48 27 (.aload_n 3) 1 := by decide +kernel
theorem d48_28 : dcd y48 28 (.iconst 0) 1 := by decide +kernel
theorem d48_29 : dcd y48 29 (.aload_n 0) 1 := by decide +kernel
theorem d48_30 : dcd y48 30 (.arraylength) 1 := by decide +kernel
theorem d48_31 : dcd y48 31 (.iload_n 1) 1 := by decide +kernel
theorem d48_32 : dcd y48 32 (.invokestatic 304) 3 := by decide +kernel
theorem d48_35 : dcd y48 35 (.invokestatic 150) 3 := by decide +kernel
theorem d48_38 : dcd y48 38 (.aload_n 3) 1 := by decide +kernel
theorem d48_39 : dcd y48 39 (.areturn) 1 := by decide +kernel
theorem d49_0 : dcd y49 0 (.aload_n 0) 1 := by decide +kernel
theorem d49_1 : dcd y49 1 (.arraylength) 1 := by decide +kernel
theorem d49_2 : dcd y49 2 (.tableswitch 57 0 2 #[26, 32, 43]) 26 := by decide +kernel
theorem d49_34 : dcd y49 34 (.new 96) 3 := by decide +kernel
theorem d49_37 : dcd y49 37 (.dup) 1 := by decide +kernel
theorem d49_38 : dcd y49 38 (.aload_n 0) 1 := by decide +kernel
theorem d49_39 : dcd y49 39 (.iconst 0) 1 := by decide +kernel
theorem d49_40 : dcd y49 40 (.aaload) 1 := by decide +kernel
theorem d49_41 : dcd y49 41 (.invokespecial 98) 3 := by decide +kernel
theorem d49_44 : dcd y49 44 (.areturn) 1 := by decide +kernel
theorem d49_45 : dcd y49 45 (.new 96) 3 := by decide +kernel
theorem d49_48 : dcd y49 48 (.dup) 1 := by decide +kernel
theorem d49_49 : dcd y49 49 (.aload_n 0) 1 := by decide +kernel
theorem d49_50 : dcd y49 50 (.iconst 0) 1 := by decide +kernel
theorem d49_51 : dcd y49 51 (.aaload) 1 := by decide +kernel
theorem d49_52 : dcd y49 52 (.aload_n 0) 1 := by decide +kernel
theorem d49_53 : dcd y49 53 (.iconst 1) 1 := by decide +kernel
theorem d49_54 : dcd y49 54 (.aaload) 1 := by decide +kernel
theorem d49_55 : dcd y49 55 (.invokespecial 100) 3 := by decide +kernel
theorem d49_58 : dcd y49 58 (.areturn) 1 := by decide +kernel
theorem d50_0 : dcd y50 0 (.aload_n 0) 1 := by decide +kernel
theorem d50_1 : dcd y50 1 (.invokespecial 1) 3 := by decide +kernel
theorem d50_4 : dcd y50 4 (.aload_n 0) 1 := by decide +kernel
theorem d50_5 : dcd y50 5 (.aload_n 1) 1 := by decide +kernel
theorem d50_6 : dcd y50 6 (.invokestatic 7) 3 := by decide +kernel
theorem d50_9 : dcd y50 9 (.putfield 13) 3 := by decide +kernel
theorem d50_12 : dcd y50 12 (.aload_n 0) 1 := by decide +kernel
theorem d50_13 : dcd y50 13 (.getstatic 19) 3 := by decide +kernel
theorem d50_16 : dcd y50 16 (.putfield 24) 3 := by decide +kernel
theorem d50_19 : dcd y50 19 (.return_) 1 := by decide +kernel
theorem d51_0 : dcd y51 0 (.aload_n 0) 1 := by decide +kernel
theorem d51_1 : dcd y51 1 (.invokespecial 1) 3 := by decide +kernel
theorem d51_4 : dcd y51 4 (.return_) 1 := by decide +kernel
theorem d52_0 : dcd y52 0 (.aload_n 0) 1 := by decide +kernel
theorem d52_1 : dcd y52 1 (.invokespecial 1) 3 := by decide +kernel
theorem d52_4 : dcd y52 4 (.return_) 1 := by decide +kernel
theorem d53_0 : dcd y53 0 (.aload_n 0) 1 := by decide +kernel
theorem d53_1 : dcd y53 1 (.ifnonnull 11) 3 := by decide +kernel
theorem d53_12 : dcd y53 12 (.aload_n 0) 1 := by decide +kernel
theorem d53_13 : dcd y53 13 (.areturn) 1 := by decide +kernel
theorem d54_0 : dcd y54 0 (.aload_n 0) 1 := by decide +kernel
theorem d54_1 : dcd y54 1 (.getfield 24) 3 := by decide +kernel
theorem d54_4 : dcd y54 4 (.getstatic 19) 3 := by decide +kernel
theorem d54_7 : dcd y54 7 (.if_acmp .eq 7) 3 := by decide +kernel
theorem d54_10 : dcd y54 10 (.iconst 2) 1 := by decide +kernel
theorem d54_11 : dcd y54 11 (.goto 4) 3 := by decide +kernel
theorem d54_14 : dcd y54 14 (.iconst 1) 1 := by decide +kernel
theorem d54_15 : dcd y54 15 (.ireturn) 1 := by decide +kernel
theorem d55_0 : dcd y55 0 (.iload_n 1) 1 := by decide +kernel
theorem d55_1 : dcd y55 1 (.ifCond .ne 8) 3 := by decide +kernel
theorem d55_4 : dcd y55 4 (.aload_n 0) 1 := by decide +kernel
theorem d55_5 : dcd y55 5 (.getfield 13) 3 := by decide +kernel
theorem d55_8 : dcd y55 8 (.areturn) 1 := by decide +kernel
theorem d55_9 : dcd y55 9 (.iload_n 1) 1 := by decide +kernel
theorem d55_10 : dcd y55 10 (.iconst 1) 1 := by decide +kernel
theorem d55_11 : dcd y55 11 (.if_icmp .ne 18) 3 := by decide +kernel
theorem d55_14 : dcd y55 14 (.aload_n 0) 1 := by decide +kernel
theorem d55_15 : dcd y55 15 (.getfield 24) 3 := by decide +kernel
theorem d55_18 : dcd y55 18 (.getstatic 19) 3 := by decide +kernel
theorem d55_21 : dcd y55 21 (.if_acmp .eq 8) 3 := by decide +kernel
theorem d55_24 : dcd y55 24 (.aload_n 0) 1 := by decide +kernel
theorem d55_25 : dcd y55 25 (.getfield 24) 3 := by decide +kernel
theorem d55_28 : dcd y55 28 (.areturn) 1 := by decide +kernel
theorem d56_0 : dcd y56 0 (.aload_n 0) 1 := by decide +kernel
theorem d56_1 : dcd y56 1 (.aload_n 1) 1 := by decide +kernel
theorem d56_2 : dcd y56 2 (.invokespecial 29) 3 := by decide +kernel
theorem d56_5 : dcd y56 5 (.pop) 1 := by decide +kernel
theorem d56_6 : dcd y56 6 (.aload_n 0) 1 := by decide +kernel
theorem d56_7 : dcd y56 7 (.areturn) 1 := by decide +kernel
theorem d57_0 : dcd y57 0 (.aload_n 1) 1 := by decide +kernel
theorem d57_1 : dcd y57 1 (.ifnonnull 8) 3 := by decide +kernel
theorem d57_9 : dcd y57 9 (.aload_n 1) 1 := by decide +kernel
theorem d57_10 : dcd y57 10 (.invokevirtual 32) 3 := by decide +kernel
theorem d57_13 : dcd y57 13 (.istore_n 2) 1 := by decide +kernel
theorem d57_14 : dcd y57 14 (.aload_n 0) 1 := by decide +kernel
theorem d57_15 : dcd y57 15 (.aload_n 0) 1 := by decide +kernel
theorem d57_16 : dcd y57 16 (.getfield 79) 3 := by decide +kernel
theorem d57_19 : dcd y57 19 (.iload_n 2) 1 := by decide +kernel
theorem d57_20 : dcd y57 20 (.iadd) 1 := by decide +kernel
theorem d57_21 : dcd y57 21 (.invokevirtual 100) 3 := by decide +kernel
theorem d57_24 : dcd y57 24 (.aload_n 0) 1 := by decide +kernel
theorem d57_25 : dcd y57 25 (.aload_n 0) 1 := by decide +kernel
theorem d57_26 : dcd y57 26 (.getfield 79) 3 := by decide +kernel
theorem d57_29 : dcd y57 29 (.aload_n 1) 1 := by decide +kernel
theorem d57_30 : dcd y57 30 (.invokevirtual 208) 3 := by decide +kernel
theorem d57_33 : dcd y57 33 (.aload_n 0) 1 := by decide +kernel
theorem d57_34 : dcd y57 34 (.dup) 1 := by decide +kernel
theorem d57_35 : dcd y57 35 (.getfield 79) 3 := by decide +kernel
theorem d57_38 : dcd y57 38 (.iload_n 2) 1 := by decide +kernel
theorem d57_39 : dcd y57 39 (.iadd) 1 := by decide +kernel
theorem d57_40 : dcd y57 40 (.putfield 79) 3 := by decide +kernel
theorem d57_43 : dcd y57 43 (.aload_n 0) 1 := by decide +kernel
theorem d57_44 : dcd y57 44 (.areturn) 1 := by decide +kernel
theorem d58_0 : dcd y58 0 (.aload_n 0) 1 := by decide +kernel
theorem d58_1 : dcd y58 1 (.getfield 9) 3 := by decide +kernel
theorem d58_4 : dcd y58 4 (.arraylength) 1 := by decide +kernel
theorem d58_5 : dcd y58 5 (.aload_n 0) 1 := by decide +kernel
theorem d58_6 : dcd y58 6 (.invokevirtual 335) 3 := by decide +kernel
theorem d58_9 : dcd y58 9 (.ishr) 1 := by decide +kernel
theorem d58_10 : dcd y58 10 (.ireturn) 1 := by decide +kernel
theorem d59_0 : dcd y59 0 (.aload_n 0) 1 := by decide +kernel
theorem d59_1 : dcd y59 1 (.aload_n 2) 1 := by decide +kernel
theorem d59_2 : dcd y59 2 (.invokevirtual 397) 3 := by decide +kernel
theorem d59_5 : dcd y59 5 (.aload_n 2) 1 := by decide +kernel
theorem d59_6 : dcd y59 6 (.aload_n 0) 1 := by decide +kernel
theorem d59_7 : dcd y59 7 (.getfield 15) 3 := by decide +kernel
theorem d59_10 : dcd y59 10 (.iload_n 1) 1 := by decide +kernel
theorem d59_11 : dcd y59 11 (.aload_n 0) 1 := by decide +kernel
theorem d59_12 : dcd y59 12 (.getfield 22) 3 := by decide +kernel
theorem d59_15 : dcd y59 15 (.invokevirtual 399) 3 := by decide +kernel
theorem d59_18 : dcd y59 18 (.return_) 1 := by decide +kernel
theorem d60_0 : dcd y60 0 (.getstatic 18) 3 := by decide +kernel
theorem d60_3 : dcd y60 3 (.ifCond .eq 18) 3 := by decide +kernel
theorem d60_6 : dcd y60 6 (.aload_n 0) 1 := by decide +kernel
theorem d60_7 : dcd y60 7 (.getfield 22) 3 := by decide +kernel
theorem d60_10 : dcd y60 10 (.aload_n 1) 1 := by decide +kernel
theorem d60_11 : dcd y60 11 (.invokevirtual 40) 3 := by decide +kernel
theorem d60_14 : dcd y60 14 (.if_icmp .eq 7) 3 := by decide +kernel
theorem d60_21 : dcd y60 21 (.return_) 1 := by decide +kernel
theorem d61_0 : dcd y61 0 (.aload_n 0) 1 := by decide +kernel
theorem d61_1 : dcd y61 1 (.invokevirtual 335) 3 := by decide +kernel
theorem d61_4 : dcd y61 4 (.iload_n 3) 1 := by decide +kernel
theorem d61_5 : dcd y61 5 (.if_icmp .ne 23) 3 := by decide +kernel
theorem d61_8 : dcd y61 8 (.aload_n 0) 1 := by decide +kernel
theorem d61_9 : dcd y61 9 (.getfield 9) 3 := by decide +kernel
theorem d61_12 : dcd y61 12 (.iconst 0) 1 := by decide +kernel
theorem d61_13 : dcd y61 13 (.aload_n 1) 1 := by decide +kernel
theorem d61_14 : dcd y61 14 (.iload_n 2) 1 := by decide +kernel
theorem d61_15 : dcd y61 15 (.iload_n 3) 1 := by decide +kernel
theorem d61_16 : dcd y61 16 (.ishl) 1 := by decide +kernel
theorem d61_17 : dcd y61 17 (.aload_n 0) 1 := by decide +kernel
theorem d61_18 : dcd y61 18 (.getfield 9) 3 := by decide +kernel
theorem d61_21 : dcd y61 21 (.arraylength) 1 := by decide +kernel
theorem d61_22 : dcd y61 22 (.invokestatic 212) 3 := by decide +kernel
theorem d61_25 : dcd y61 25 (.goto 18) 3 := by decide +kernel
theorem d61_43 : dcd y61 43 (.return_) 1 := by decide +kernel
theorem d62_0 : dcd y62 0 (.iload_n 1) 1 := by decide +kernel
theorem d62_1 : dcd y62 1 (.istore 5) 2 := by decide +kernel
theorem d62_3 : dcd y62 3 (.iload_n 2) 1 := by decide +kernel
theorem d62_4 : dcd y62 4 (.iconst 1) 1 := by decide +kernel
theorem d62_5 : dcd y62 5 (.if_icmp .lt 12) 3 := by decide +kernel
theorem d62_8 : dcd y62 8 (.aload_n 0) 1 := by decide +kernel
theorem d62_9 : dcd y62 9 (.iload 5) 2 := by decide +kernel
theorem d62_11 : dcd y62 11 (.iload_n 3) 1 := by decide +kernel
theorem d62_12 : dcd y62 12 (.invokestatic 48) 3 := by decide +kernel
theorem d62_15 : dcd y62 15 (.istore 5) 2 := by decide +kernel
theorem d62_17 : dcd y62 17 (.iload_n 2) 1 := by decide +kernel
theorem d62_18 : dcd y62 18 (.iconst 2) 1 := by decide +kernel
theorem d62_19 : dcd y62 19 (.if_icmp .lt 13) 3 := by decide +kernel
theorem d62_22 : dcd y62 22 (.aload_n 0) 1 := by decide +kernel
theorem d62_23 : dcd y62 23 (.iload 5) 2 := by decide +kernel
theorem d62_25 : dcd y62 25 (.iload 4) 2 := by decide +kernel
theorem d62_27 : dcd y62 27 (.invokestatic 48) 3 := by decide +kernel
theorem d62_30 : dcd y62 30 (.istore 5) 2 := by decide +kernel
theorem d62_32 : dcd y62 32 (.aload_n 0) 1 := by decide +kernel
theorem d62_33 : dcd y62 33 (.iload 5) 2 := by decide +kernel
theorem d62_35 : dcd y62 35 (.bipush 10) 2 := by decide +kernel
theorem d62_37 : dcd y62 37 (.iastore) 1 := by decide +kernel
theorem d62_38 : dcd y62 38 (.iload 5) 2 := by decide +kernel
theorem d62_40 : dcd y62 40 (.iconst 1) 1 := by decide +kernel
theorem d62_41 : dcd y62 41 (.iadd) 1 := by decide +kernel
theorem d62_42 : dcd y62 42 (.ireturn) 1 := by decide +kernel
theorem d63_0 : dcd y63 0 (.getstatic 38) 3 := by decide +kernel
theorem d63_3 : dcd y63 3 (.ifCond .eq 23) 3 := by decide +kernel
theorem d63_6 : dcd y63 6 (.iload_n 0) 1 := by decide +kernel
theorem d63_7 : dcd y63 7 (.invokestatic 1015) 3 := by decide +kernel
theorem d63_10 : dcd y63 10 (.ifCond .eq 16) 3 := by decide +kernel
theorem d63_13 : dcd y63 13 (.new 10) 3 := by decide +kernel
theorem d63_16 : dcd y63 16 (.dup) 1 := by decide +kernel
theorem d63_17 : dcd y63 17 (.iload_n 0) 1 := by decide +kernel
theorem d63_18 : dcd y63 18 (.invokestatic 1018) 3 := by decide +kernel
theorem d63_21 : dcd y63 21 (.iconst 0) 1 := by decide +kernel
theorem d63_22 : dcd y63 22 (.invokespecial 209) 3 := by decide +kernel
theorem d63_25 : dcd y63 25 (.areturn) 1 := by decide +kernel
theorem d64_0 : dcd y64 0 (.iconst 1) 1 := by decide +kernel
theorem d64_1 : dcd y64 1 (.newarray .byte) 2 := by decide +kernel
theorem d64_3 : dcd y64 3 (.dup) 1 := by decide +kernel
theorem d64_4 : dcd y64 4 (.iconst 0) 1 := by decide +kernel
theorem d64_5 : dcd y64 5 (.iload_n 0) 1 := by decide +kernel
theorem d64_6 : dcd y64 6 (.i2b) 1 := by decide +kernel
theorem d64_7 : dcd y64 7 (.bastore) 1 := by decide +kernel
theorem d64_8 : dcd y64 8 (.areturn) 1 := by decide +kernel
theorem d65_0 : dcd y65 0 (.aload_n 0) 1 := by decide +kernel
theorem d65_1 : dcd y65 1 (.invokespecial 1) 3 := by decide +kernel
theorem d65_4 : dcd y65 4 (.aload_n 0) 1 := by decide +kernel
theorem d65_5 : dcd y65 5 (.aload_n 1) 1 := by decide +kernel
theorem d65_6 : dcd y65 6 (.putfield 9) 3 := by decide +kernel
theorem d65_9 : dcd y65 9 (.aload_n 0) 1 := by decide +kernel
theorem d65_10 : dcd y65 10 (.iload_n 2) 1 := by decide +kernel
theorem d65_11 : dcd y65 11 (.putfield 15) 3 := by decide +kernel
theorem d65_14 : dcd y65 14 (.return_) 1 := by decide +kernel
theorem d66_0 : dcd y66 0 (.aload_n 0) 1 := by decide +kernel
theorem d66_1 : dcd y66 1 (.aload_n 1) 1 := by decide +kernel
theorem d66_2 : dcd y66 2 (.iconst 0) 1 := by decide +kernel
theorem d66_3 : dcd y66 3 (.aload_n 1) 1 := by decide +kernel
theorem d66_4 : dcd y66 4 (.arraylength) 1 := by decide +kernel
theorem d66_5 : dcd y66 5 (.aconst_null) 1 := by decide +kernel
theorem d66_6 : dcd y66 6 (.invokespecial 27) 3 := by decide +kernel
theorem d66_9 : dcd y66 9 (.return_) 1 := by decide +kernel
theorem d67_0 : dcd y67 0 (.aload_n 0) 1 := by decide +kernel
theorem d67_1 : dcd y67 1 (.invokespecial 1) 3 := by decide +kernel
theorem d67_4 : dcd y67 4 (.iload_n 3) 1 := by decide +kernel
theorem d67_5 : dcd y67 5 (.ifCond .ne 22) 3 := by decide +kernel
theorem d67_27 : dcd y67 27 (.getstatic 38) 3 := by decide +kernel
theorem d67_30 : dcd y67 30 (.ifCond .eq 28) 3 := by decide +kernel
theorem d67_33 : dcd y67 33 (.aload_n 1) 1 := by decide +kernel
theorem d67_34 : dcd y67 34 (.iload_n 2) 1 := by decide +kernel
theorem d67_35 : dcd y67 35 (.iload_n 3) 1 := by decide +kernel
theorem d67_36 : dcd y67 36 (.invokestatic 177) 3 := by decide +kernel
theorem d67_39 : dcd y67 39 (.astore 5) 2 := by decide +kernel
theorem d67_41 : dcd y67 41 (.aload_n 0) 1 := by decide +kernel
theorem d67_42 : dcd y67 42 (.aload 5) 2 := by decide +kernel
theorem d67_44 : dcd y67 44 (.iload_n 3) 1 := by decide +kernel
theorem d67_45 : dcd y67 45 (.invokestatic 47) 3 := by decide +kernel
theorem d67_48 : dcd y67 48 (.putfield 15) 3 := by decide +kernel
theorem d67_51 : dcd y67 51 (.aload_n 0) 1 := by decide +kernel
theorem d67_52 : dcd y67 52 (.aload 5) 2 := by decide +kernel
theorem d67_54 : dcd y67 54 (.putfield 9) 3 := by decide +kernel
theorem d67_57 : dcd y67 57 (.return_) 1 := by decide +kernel
theorem d68_0 : dcd y68 0 (.iload_n 2) 1 := by decide +kernel
theorem d68_1 : dcd y68 1 (.newarray .byte) 2 := by decide +kernel
theorem d68_3 : dcd y68 3 (.astore_n 3) 1 := by decide +kernel
theorem d68_4 : dcd y68 4 (.aload_n 0) 1 := by decide +kernel
theorem d68_5 : dcd y68 5 (.iload_n 1) 1 := by decide +kernel
theorem d68_6 : dcd y68 6 (.aload_n 3) 1 := by decide +kernel
theorem d68_7 : dcd y68 7 (.iconst 0) 1 := by decide +kernel
theorem d68_8 : dcd y68 8 (.iload_n 2) 1 := by decide +kernel
theorem d68_9 : dcd y68 9 (.invokestatic 115) 3 := by decide +kernel
theorem d68_12 : dcd y68 12 (.istore 4) 2 := by decide +kernel
theorem d68_14 : dcd y68 14 (.iload 4) 2 := by decide +kernel
theorem d68_16 : dcd y68 16 (.iload_n 2) 1 := by decide +kernel
theorem d68_17 : dcd y68 17 (.if_icmp .eq 40) 3 := by decide +kernel
theorem d68_57 : dcd y68 57 (.aload_n 3) 1 := by decide +kernel
theorem d68_58 : dcd y68 58 (.areturn) 1 := by decide +kernel
theorem d69_0 : dcd y69 0 (.iconst 0) 1 := by decide +kernel
theorem d69_1 : dcd y69 1 (.istore 5) 2 := by decide +kernel
theorem d69_3 : dcd y69 3 (.iload 5) 2 := by decide +kernel
theorem d69_5 : dcd y69 5 (.iload 4) 2 := by decide +kernel
theorem d69_7 : dcd y69 7 (.if_icmp .ge 37) 3 := by decide +kernel
theorem d69_10 : dcd y69 10 (.aload_n 0) 1 := by decide +kernel
theorem d69_11 : dcd y69 11 (.iload_n 1) 1 := by decide +kernel
theorem d69_12 : dcd y69 12 (.caload) 1 := by decide +kernel
theorem d69_13 : dcd y69 13 (.istore 6) 2 := by decide +kernel
theorem d69_15 : dcd y69 15 (.iload 6) 2 := by decide +kernel
theorem d69_17 : dcd y69 17 (.sipush 255) 3 := by decide +kernel
theorem d69_20 : dcd y69 20 (.if_icmp .le 6) 3 := by decide +kernel
theorem d69_26 : dcd y69 26 (.aload_n 2) 1 := by decide +kernel
theorem d69_27 : dcd y69 27 (.iload_n 3) 1 := by decide +kernel
theorem d69_28 : dcd y69 28 (.iload 6) 2 := by decide +kernel
theorem d69_30 : dcd y69 30 (.i2b) 1 := by decide +kernel
theorem d69_31 : dcd y69 31 (.bastore) 1 := by decide +kernel
theorem d69_32 : dcd y69 32 (.iinc 1 1) 3 := by decide +kernel
theorem d69_35 : dcd y69 35 (.iinc 3 1) 3 := by decide +kernel
theorem d69_38 : dcd y69 38 (.iinc 5 1) 3 := by decide +kernel
theorem d69_41 : dcd y69 41 (.goto (-38)) 3 := by decide +kernel
theorem d69_44 : dcd y69 44 (.iload 4) 2 := by decide +kernel
theorem d69_46 : dcd y69 46 (.ireturn) 1 := by decide +kernel
theorem d70_0 : dcd y70 0 (.iload_n 1) 1 := by decide +kernel
theorem d70_1 : dcd y70 1 (.aload_n 0) 1 := by decide +kernel
theorem d70_2 : dcd y70 2 (.arraylength) 1 := by decide +kernel
theorem d70_3 : dcd y70 3 (.isub) 1 := by decide +kernel
theorem d70_4 : dcd y70 4 (.bipush 31) 2 := by decide +kernel
theorem d70_6 : dcd y70 6 (.iushr) 1 := by decide +kernel
theorem d70_7 : dcd y70 7 (.i2b) 1 := by decide +kernel
theorem d70_8 : dcd y70 8 (.ireturn) 1 := by decide +kernel
theorem d71_0 : dcd y71 0 (.aload_n 0) 1 := by decide +kernel
theorem d71_1 : dcd y71 1 (.invokespecial 1) 3 := by decide +kernel
theorem d71_4 : dcd y71 4 (.aload_n 0) 1 := by decide +kernel
theorem d71_5 : dcd y71 5 (.aload_n 1) 1 := by decide +kernel
theorem d71_6 : dcd y71 6 (.invokestatic 7) 3 := by decide +kernel
theorem d71_9 : dcd y71 9 (.putfield 13) 3 := by decide +kernel
theorem d71_12 : dcd y71 12 (.aload_n 0) 1 := by decide +kernel
theorem d71_13 : dcd y71 13 (.aload_n 2) 1 := by decide +kernel
theorem d71_14 : dcd y71 14 (.invokestatic 7) 3 := by decide +kernel
theorem d71_17 : dcd y71 17 (.putfield 24) 3 := by decide +kernel
theorem d71_20 : dcd y71 20 (.return_) 1 := by decide +kernel
theorem d72_0 : dcd y72 0 (.iload_n 2) 1 := by decide +kernel
theorem d72_1 : dcd y72 1 (.sipush 128) 3 := by decide +kernel
theorem d72_4 : dcd y72 4 (.if_icmp .ge 11) 3 := by decide +kernel
theorem d72_7 : dcd y72 7 (.aload_n 0) 1 := by decide +kernel
theorem d72_8 : dcd y72 8 (.iload_n 1) 1 := by decide +kernel
theorem d72_9 : dcd y72 9 (.iload_n 2) 1 := by decide +kernel
theorem d72_10 : dcd y72 10 (.iastore) 1 := by decide +kernel
theorem d72_11 : dcd y72 11 (.iload_n 1) 1 := by decide +kernel
theorem d72_12 : dcd y72 12 (.iconst 1) 1 := by decide +kernel
theorem d72_13 : dcd y72 13 (.iadd) 1 := by decide +kernel
theorem d72_14 : dcd y72 14 (.ireturn) 1 := by decide +kernel
theorem d72_15 : dcd y72 15 (.aload_n 0) 1 := by decide +kernel
theorem d72_16 : dcd y72 16 (.iload_n 1) 1 := by decide +kernel
theorem d72_17 : dcd y72 17 (.sipush 192) 3 := by decide +kernel
theorem d72_20 : dcd y72 20 (.iload_n 2) 1 := by decide +kernel
theorem d72_21 : dcd y72 21 (.bipush 6) 2 := by decide +kernel
theorem d72_23 : dcd y72 23 (.ishr) 1 := by decide +kernel
theorem d72_24 : dcd y72 24 (.ior) 1 := by decide +kernel
theorem d72_25 : dcd y72 25 (.iastore) 1 := by decide +kernel
theorem d72_26 : dcd y72 26 (.aload_n 0) 1 := by decide +kernel
theorem d72_27 : dcd y72 27 (.iload_n 1) 1 := by decide +kernel
theorem d72_28 : dcd y72 28 (.iconst 1) 1 := by decide +kernel
theorem d72_29 : dcd y72 29 (.iadd) 1 := by decide +kernel
theorem d72_30 : dcd y72 30 (.sipush 128) 3 := by decide +kernel
theorem d72_33 : dcd y72 33 (.iload_n 2) 1 := by decide +kernel
theorem d72_34 : dcd y72 34 (.bipush 63) 2 := by decide +kernel
theorem d72_36 : dcd y72 36 (.iand) 1 := by decide +kernel
theorem d72_37 : dcd y72 37 (.ior) 1 := by decide +kernel
theorem d72_38 : dcd y72 38 (.iastore) 1 := by decide +kernel
theorem d72_39 : dcd y72 39 (.iload_n 1) 1 := by decide +kernel
theorem d72_40 : dcd y72 40 (.iconst 2) 1 := by decide +kernel
theorem d72_41 : dcd y72 41 (.iadd) 1 := by decide +kernel
theorem d72_42 : dcd y72 42 (.ireturn) 1 := by decide +kernel
theorem d73_0 : dcd y73 0 (.iload_n 0) 1 := by decide +kernel
theorem d73_1 : dcd y73 1 (.invokestatic 11) 3 := by decide +kernel
theorem d73_4 : dcd y73 4 (.newarray .byte) 2 := by decide +kernel
theorem d73_6 : dcd y73 6 (.areturn) 1 := by decide +kernel
theorem d74_0 : dcd y74 0 (.iload_n 0) 1 := by decide +kernel
theorem d74_1 : dcd y74 1 (.ifCond .ge 11) 3 := by decide +kernel
theorem d74_12 : dcd y74 12 (.iload_n 0) 1 := by decide +kernel
theorem d74_13 : dcd y74 13 (.ldc 20) 2 := by decide +kernel
theorem d74_15 : dcd y74 15 (.if_icmp .lt 40) 3 := by decide +kernel
theorem d74_55 : dcd y74 55 (.iload_n 0) 1 := by decide +kernel
theorem d74_56 : dcd y74 56 (.iconst 1) 1 := by decide +kernel
theorem d74_57 : dcd y74 57 (.ishl) 1 := by decide +kernel
theorem d74_58 : dcd y74 58 (.ireturn) 1 := by decide +kernel
theorem d75_0 : dcd y75 0 (.iload_n 1) 1 := by decide +kernel
theorem d75_1 : dcd y75 1 (.aload_n 0) 1 := by decide +kernel
theorem d75_2 : dcd y75 2 (.arraylength) 1 := by decide +kernel
theorem d75_3 : dcd y75 3 (.if_icmp .ne 11) 3 := by decide +kernel
theorem d75_14 : dcd y75 14 (.iload_n 1) 1 := by decide +kernel
theorem d75_15 : dcd y75 15 (.newarray .byte) 2 := by decide +kernel
theorem d75_17 : dcd y75 17 (.astore_n 2) 1 := by decide +kernel
theorem d75_18 : dcd y75 18 (.aload_n 0) 1 := by decide +kernel
theorem d75_19 : dcd y75 19 (.iconst 0) 1 := by decide +kernel
theorem d75_20 : dcd y75 20 (.aload_n 2) 1 := by decide +kernel
theorem d75_21 : dcd y75 21 (.iconst 0) 1 := by decide +kernel
theorem d75_22 : dcd y75 22 (.aload_n 0) 1 := by decide +kernel
theorem d75_23 : dcd y75 23 (.arraylength) 1 := by decide +kernel
theorem d75_24 : dcd y75 24 (.iload_n 1) 1 := by decide +kernel
theorem d75_25 : dcd y75 25 (.invokestatic 304) 3 := by decide +kernel
theorem d75_28 : dcd y75 28 (.invokestatic 150) 3 := by decide +kernel
theorem d75_31 : dcd y75 31 (.aload_n 2) 1 := by decide +kernel
theorem d75_32 : dcd y75 32 (.areturn) 1 := by decide +kernel
theorem d76_0 : dcd y76 0 (.aload_n 0) 1 := by decide +kernel
theorem d76_1 : dcd y76 1 (.getfield 17) 3 := by decide +kernel
theorem d76_4 : dcd y76 4 (.istore_n 1) 1 := by decide +kernel
theorem d76_5 : dcd y76 5 (.aload_n 0) 1 := by decide +kernel
theorem d76_6 : dcd y76 6 (.getfield 7) 3 := by decide +kernel
theorem d76_9 : dcd y76 9 (.iload_n 1) 1 := by decide +kernel
theorem d76_10 : dcd y76 10 (.invokeinterface 24 2) 5 := by decide +kernel
theorem d76_15 : dcd y76 15 (.astore_n 2) 1 := by decide +kernel
theorem d76_16 : dcd y76 16 (.aload_n 0) 1 := by decide +kernel
theorem d76_17 : dcd y76 17 (.iload_n 1) 1 := by decide +kernel
theorem d76_18 : dcd y76 18 (.iconst 1) 1 := by decide +kernel
theorem d76_19 : dcd y76 19 (.iadd) 1 := by decide +kernel
theorem d76_20 : dcd y76 20 (.putfield 17) 3 := by decide +kernel
theorem d76_23 : dcd y76 23 (.aload_n 2) 1 := by decide +kernel
theorem d76_24 : dcd y76 24 (.areturn) 1 := by decide +kernel
theorem pd0 : parseMethodDescriptor "([CI[BII)I" = some ⟨[(.array .char), .int, (.array .byte), .int, .int], some .int⟩ := by decide +kernel
theorem pd1 : parseMethodDescriptor "([CII)[B" = some ⟨[(.array .char), .int, .int], some (.array .byte)⟩ := by decide +kernel
theorem pd2 : parseMethodDescriptor "([BI)B" = some ⟨[(.array .byte), .int], some .byte⟩ := by decide +kernel
theorem pd3 : parseMethodDescriptor sn48 = some ⟨[(.array .char), .int, .int, (.object "java/lang/Void")], none⟩ := by decide +kernel
theorem pd4 : parseMethodDescriptor "(C)Z" = some ⟨[.char], some .boolean⟩ := by decide +kernel
theorem pd5 : parseMethodDescriptor "(C)[B" = some ⟨[.char], some (.array .byte)⟩ := by decide +kernel
theorem pd6 : parseMethodDescriptor "([BB)V" = some ⟨[(.array .byte), .byte], none⟩ := by decide +kernel
theorem pd7 : parseMethodDescriptor "()B" = some ⟨[], some .byte⟩ := by decide +kernel
theorem pd8 : parseMethodDescriptor "()V" = some ⟨[], none⟩ := by decide +kernel
theorem pd9 : parseMethodDescriptor "(II)I" = some ⟨[.int, .int], some .int⟩ := by decide +kernel
theorem pd10 : parseMethodDescriptor sn44 = some ⟨[.int], some (.array (.object "java/lang/Object"))⟩ := by decide +kernel
theorem pd11 : parseMethodDescriptor sn13 = some ⟨[], some (.array (.object "java/lang/Object"))⟩ := by decide +kernel
theorem pd12 : parseMethodDescriptor sn22 = some ⟨[(.object "java/lang/Object"), (.array (.object "java/lang/Object")), .int], none⟩ := by decide +kernel
theorem pd13 : parseMethodDescriptor "()Z" = some ⟨[], some .boolean⟩ := by decide +kernel
theorem pd14 : parseMethodDescriptor "()Ljava/util/List;" = some ⟨[], some (.object "java/util/List")⟩ := by decide +kernel
theorem pd15 : parseMethodDescriptor sn10 = some ⟨[(.object sn27)], some (.object "java/util/List")⟩ := by decide +kernel
theorem pd16 : parseMethodDescriptor sn15 = some ⟨[(.array (.object "java/lang/Object")), .int, (.object "java/lang/Class")], some (.array (.object "java/lang/Object"))⟩ := by decide +kernel
theorem pd17 : parseMethodDescriptor sn23 = some ⟨[(.array (.object "java/lang/Object")), .int], some (.array (.object "java/lang/Object"))⟩ := by decide +kernel
theorem pd18 : parseMethodDescriptor sn28 = some ⟨[(.object "java/lang/Object")], some (.object "java/lang/Object")⟩ := by decide +kernel
theorem pd19 : parseMethodDescriptor sn45 = some ⟨[(.object "java/lang/Object")], none⟩ := by decide +kernel
theorem pd20 : parseMethodDescriptor sn31 = some ⟨[(.array (.object "java/lang/Object"))], some (.object "java/util/List")⟩ := by decide +kernel
theorem pd21 : parseMethodDescriptor sn26 = some ⟨[(.object "java/lang/Object"), (.object "java/lang/Object")], none⟩ := by decide +kernel
theorem pd22 : parseMethodDescriptor "()I" = some ⟨[], some .int⟩ := by decide +kernel
theorem pd23 : parseMethodDescriptor "(I)V" = some ⟨[.int], none⟩ := by decide +kernel
theorem pd24 : parseMethodDescriptor sn41 = some ⟨[(.object "java/lang/String")], none⟩ := by decide +kernel
theorem pd25 : parseMethodDescriptor "([BIB)V" = some ⟨[(.array .byte), .int, .byte], none⟩ := by decide +kernel
theorem pd26 : parseMethodDescriptor sn39 = some ⟨[.int, (.object "java/lang/String")], none⟩ := by decide +kernel
theorem pd27 : parseMethodDescriptor sn14 = some ⟨[(.object "java/lang/String")], some (.object sn0)⟩ := by decide +kernel
theorem pd28 : parseMethodDescriptor sn33 = some ⟨[.char], some (.object sn0)⟩ := by decide +kernel
theorem pd29 : parseMethodDescriptor "()[B" = some ⟨[], some (.array .byte)⟩ := by decide +kernel
theorem pd30 : parseMethodDescriptor "(II)V" = some ⟨[.int, .int], none⟩ := by decide +kernel
theorem pd31 : parseMethodDescriptor "([BII)[B" = some ⟨[(.array .byte), .int, .int], some (.array .byte)⟩ := by decide +kernel
theorem pd32 : parseMethodDescriptor sn19 = some ⟨[(.object sn0), (.object "java/lang/Void")], none⟩ := by decide +kernel
theorem pd33 : parseMethodDescriptor sn37 = some ⟨[(.object sn5)], none⟩ := by decide +kernel
theorem pd34 : parseMethodDescriptor "([BII)I" = some ⟨[(.array .byte), .int, .int], some .int⟩ := by decide +kernel
theorem pd35 : parseMethodDescriptor "(I)I" = some ⟨[.int], some .int⟩ := by decide +kernel
theorem pd36 : parseMethodDescriptor "([BII)Z" = some ⟨[(.array .byte), .int, .int], some .boolean⟩ := by decide +kernel
theorem pd37 : parseMethodDescriptor "(I)[B" = some ⟨[.int], some (.array .byte)⟩ := by decide +kernel
theorem pd38 : parseMethodDescriptor "([BI)[B" = some ⟨[(.array .byte), .int], some (.array .byte)⟩ := by decide +kernel
theorem pd39 : parseMethodDescriptor "(B[BZ)[B" = some ⟨[.byte, (.array .byte), .boolean], some (.array .byte)⟩ := by decide +kernel
theorem pd40 : parseMethodDescriptor sn36 = some ⟨[(.object sn16), .byte, (.array .byte)], some (.array .byte)⟩ := by decide +kernel
theorem pd41 : parseMethodDescriptor sn46 = some ⟨[.char], some (.object "java/lang/String")⟩ := by decide +kernel
theorem pd42 : parseMethodDescriptor "([C)V" = some ⟨[(.array .char)], none⟩ := by decide +kernel
theorem pd43 : parseMethodDescriptor sn49 = some ⟨[(.object "java/util/List"), .int], none⟩ := by decide +kernel
theorem pd44 : parseMethodDescriptor sn20 = some ⟨[], some (.object "java/util/Iterator")⟩ := by decide +kernel
theorem pd45 : parseMethodDescriptor sn32 = some ⟨[.char], some (.object sn5)⟩ := by decide +kernel
theorem pd46 : parseMethodDescriptor sn40 = some ⟨[], some (.object "java/lang/String")⟩ := by decide +kernel
theorem pd47 : parseMethodDescriptor sn25 = some ⟨[(.object sn16)], some (.array .byte)⟩ := by decide +kernel
theorem pd48 : parseMethodDescriptor sn29 = some ⟨[.int], some (.object "java/lang/Object")⟩ := by decide +kernel
theorem pd49 : parseMethodDescriptor sn17 = some ⟨[], some (.object "java/lang/Object")⟩ := by decide +kernel
theorem pd50 : parseMethodDescriptor sn12 = some ⟨[(.object "java/lang/String")], some (.object sn5)⟩ := by decide +kernel
theorem pd51 : parseMethodDescriptor "([IIC)I" = some ⟨[(.array .int), .int, .char], some .int⟩ := by decide +kernel
theorem pd52 : parseMethodDescriptor sn47 = some ⟨[.int, .char, .char], some (.object "java/lang/String")⟩ := by decide +kernel
theorem pd53 : parseMethodDescriptor "(Ljava/util/List;)V" = some ⟨[(.object "java/util/List")], none⟩ := by decide +kernel
theorem pd54 : parseMethodDescriptor "([B[II)Z" = some ⟨[(.array .byte), (.array .int), .int], some .boolean⟩ := by decide +kernel
theorem pd55 : parseMethodDescriptor sn38 = some ⟨[(.object "java/lang/Object")], some .boolean⟩ := by decide +kernel
theorem pd56 : parseMethodDescriptor "([IIICC)I" = some ⟨[(.array .int), .int, .int, .char, .char], some .int⟩ := by decide +kernel
abbrev E1 (f c s l : Nat) : DD := (⟨sn2, "str", sn47⟩, method_3_code, 3, (some (.object "java/lang/String")), { frames := f, cells := c, slots := s, locals := l })
abbrev E2 (f c s l : Nat) : DD := (⟨"java/util/ArrayList", "<init>", "()V"⟩, jdk_38_method_2_code, 1, none, { frames := f, cells := c, slots := s, locals := l })
abbrev E3 (f c s l : Nat) : DD := (⟨sn21, "<init>", "()V"⟩, jdk_39_method_1_code, 1, none, { frames := f, cells := c, slots := s, locals := l })
abbrev E4 (f c s l : Nat) : DD := (⟨sn18, "<init>", "()V"⟩, jdk_22_method_1_code, 1, none, { frames := f, cells := c, slots := s, locals := l })
abbrev E6 (f c s l : Nat) : DD := (⟨sn1, "<init>", "(Ljava/util/List;)V"⟩, prog_7_method_1_code, 2, none, { frames := f, cells := c, slots := s, locals := l })
abbrev E7 (f c s l : Nat) : DD := (⟨"java/lang/Record", "<init>", "()V"⟩, jdk_30_method_1_code, 1, none, { frames := f, cells := c, slots := s, locals := l })
abbrev E8 (f c s l : Nat) : DD := (⟨"java/util/List", "copyOf", sn10⟩, jdk_40_method_48_code, 1, (some (.object "java/util/List")), { frames := f, cells := c, slots := s, locals := l })
abbrev E9 (f c s l : Nat) : DD := (⟨sn7, "listCopy", sn10⟩, jdk_56_method_3_code, 2, (some (.object "java/util/List")), { frames := f, cells := c, slots := s, locals := l })
abbrev E10 (f c s l : Nat) : DD := (⟨"java/util/ArrayList", "isEmpty", "()Z"⟩, jdk_38_method_9_code, 1, (some .boolean), { frames := f, cells := c, slots := s, locals := l })
abbrev E11 (f c s l : Nat) : DD := (⟨"java/util/List", "of", "()Ljava/util/List;"⟩, jdk_40_method_36_code, 0, (some (.object "java/util/List")), { frames := f, cells := c, slots := s, locals := l })
abbrev E12 (f c s l : Nat) : DD := (⟨sn1, "bytes", "()[B"⟩, prog_7_method_4_code, 4, (some (.array .byte)), { frames := f, cells := c, slots := s, locals := l })
abbrev E13 (f c s l : Nat) : DD := (⟨sn5, "<init>", "()V"⟩, jdk_67_method_1_code, 1, none, { frames := f, cells := c, slots := s, locals := l })
abbrev E14 (f c s l : Nat) : DD := (⟨sn0, "<init>", "(I)V"⟩, jdk_68_method_2_code, 2, none, { frames := f, cells := c, slots := s, locals := l })
abbrev E15 (f c s l : Nat) : DD := (⟨sn6, "iterator", sn20⟩, jdk_46_method_10_code, 1, (some (.object "java/util/Iterator")), { frames := f, cells := c, slots := s, locals := l })
abbrev E16 (f c s l : Nat) : DD := (⟨sn8, "size", "()I"⟩, jdk_45_method_3_code, 1, (some .int), { frames := f, cells := c, slots := s, locals := l })
abbrev E17 (f c s l : Nat) : DD := (⟨sn3, "<init>", sn49⟩, jdk_53_method_1_code, 3, none, { frames := f, cells := c, slots := s, locals := l })
abbrev E18 (f c s l : Nat) : DD := (⟨sn3, "hasNext", "()Z"⟩, jdk_53_method_3_code, 1, (some .boolean), { frames := f, cells := c, slots := s, locals := l })
abbrev E19 (f c s l : Nat) : DD := (⟨sn5, "append", sn32⟩, jdk_67_method_14_code, 2, (some (.object sn5)), { frames := f, cells := c, slots := s, locals := l })
abbrev E20 (f c s l : Nat) : DD := (⟨sn0, "append", sn33⟩, jdk_68_method_31_code, 2, (some (.object sn0)), { frames := f, cells := c, slots := s, locals := l })
abbrev E21 (f c s l : Nat) : DD := (⟨sn0, sn42, "(I)V"⟩, jdk_68_method_9_code, 3, none, { frames := f, cells := c, slots := s, locals := l })
abbrev E22 (f c s l : Nat) : DD := (⟨sn0, "isLatin1", "()Z"⟩, jdk_68_method_68_code, 1, (some .boolean), { frames := f, cells := c, slots := s, locals := l })
abbrev E23 (f c s l : Nat) : DD := (⟨sn24, "canEncode", "(C)Z"⟩, jdk_43_method_3_code, 1, (some .boolean), { frames := f, cells := c, slots := s, locals := l })
abbrev E24 (f c s l : Nat) : DD := (⟨sn5, "toString", sn40⟩, jdk_67_method_42_code, 1, (some (.object "java/lang/String")), { frames := f, cells := c, slots := s, locals := l })
abbrev E25 (f c s l : Nat) : DD := (⟨"java/lang/String", "<init>", sn37⟩, jdk_42_method_53_code, 2, none, { frames := f, cells := c, slots := s, locals := l })
abbrev E26 (f c s l : Nat) : DD := (⟨"java/lang/String", "<init>", sn19⟩, jdk_42_method_150_code, 5, none, { frames := f, cells := c, slots := s, locals := l })
abbrev E27 (f c s l : Nat) : DD := (⟨sn0, "getValue", "()[B"⟩, jdk_68_method_64_code, 1, (some (.array .byte)), { frames := f, cells := c, slots := s, locals := l })
abbrev E28 (f c s l : Nat) : DD := (⟨sn5, "length", "()I"⟩, jdk_67_method_93_code, 1, (some .int), { frames := f, cells := c, slots := s, locals := l })
abbrev E29 (f c s l : Nat) : DD := (⟨sn0, "length", "()I"⟩, jdk_68_method_6_code, 1, (some .int), { frames := f, cells := c, slots := s, locals := l })
abbrev E30 (f c s l : Nat) : DD := (⟨"java/util/Arrays", "copyOfRange", "([BII)[B"⟩, jdk_65_method_132_code, 3, (some (.array .byte)), { frames := f, cells := c, slots := s, locals := l })
abbrev E31 (f c s l : Nat) : DD := (⟨"java/util/Arrays", "copyOfRangeByte", "([BII)[B"⟩, jdk_65_method_133_code, 5, (some (.array .byte)), { frames := f, cells := c, slots := s, locals := l })
abbrev E32 (f c s l : Nat) : DD := (⟨"java/util/Arrays", "checkLength", "(II)V"⟩, jdk_65_method_131_code, 2, none, { frames := f, cells := c, slots := s, locals := l })
abbrev E33 (f c s l : Nat) : DD := (⟨"java/lang/Math", "min", "(II)I"⟩, jdk_29_method_69_code, 2, (some .int), { frames := f, cells := c, slots := s, locals := l })
abbrev E34 (f c s l : Nat) : DD := (⟨"java/lang/String", "getBytes", sn25⟩, jdk_42_method_64_code, 2, (some (.array .byte)), { frames := f, cells := c, slots := s, locals := l })
abbrev E35 (f c s l : Nat) : DD := (⟨"java/lang/String", "coder", "()B"⟩, jdk_42_method_152_code, 1, (some .byte), { frames := f, cells := c, slots := s, locals := l })
abbrev E36 (f c s l : Nat) : DD := (⟨"java/lang/String", "encode", sn36⟩, jdk_42_method_18_code, 3, (some (.array .byte)), { frames := f, cells := c, slots := s, locals := l })
abbrev E37 (f c s l : Nat) : DD := (⟨"java/lang/String", "encodeUTF8", "(B[BZ)[B"⟩, jdk_42_method_46_code, 9, (some (.array .byte)), { frames := f, cells := c, slots := s, locals := l })
abbrev E38 (f c s l : Nat) : DD := (⟨sn30, "hasNegatives", "([BII)Z"⟩, jdk_123_method_2_code, 3, (some .boolean), { frames := f, cells := c, slots := s, locals := l })
abbrev E39 (f c s l : Nat) : DD := (⟨sn30, "countPositives", "([BII)I"⟩, jdk_123_method_3_code, 5, (some .int), { frames := f, cells := c, slots := s, locals := l })
abbrev E40 (f c s l : Nat) : DD := (⟨sn2, "same", "([B[II)Z"⟩, method_6_code, 4, (some .boolean), { frames := f, cells := c, slots := s, locals := l })
abbrev E41 (f c s l : Nat) : DD := (⟨"java/util/ArrayList", "add", sn38⟩, jdk_38_method_25_code, 2, (some .boolean), { frames := f, cells := c, slots := s, locals := l })
abbrev E42 (f c s l : Nat) : DD := (⟨"java/util/ArrayList", "add", sn22⟩, jdk_38_method_24_code, 4, none, { frames := f, cells := c, slots := s, locals := l })
abbrev E43 (f c s l : Nat) : DD := (⟨"java/util/ArrayList", "grow", sn13⟩, jdk_38_method_7_code, 1, (some (.array (.object "java/lang/Object"))), { frames := f, cells := c, slots := s, locals := l })
abbrev E44 (f c s l : Nat) : DD := (⟨"java/util/ArrayList", "grow", sn44⟩, jdk_38_method_6_code, 4, (some (.array (.object "java/lang/Object"))), { frames := f, cells := c, slots := s, locals := l })
abbrev E45 (f c s l : Nat) : DD := (⟨"java/lang/Math", "max", "(II)I"⟩, jdk_29_method_65_code, 2, (some .int), { frames := f, cells := c, slots := s, locals := l })
abbrev E46 (f c s l : Nat) : DD := (⟨"java/util/ArrayList", "toArray", sn13⟩, jdk_38_method_16_code, 1, (some (.array (.object "java/lang/Object"))), { frames := f, cells := c, slots := s, locals := l })
abbrev E47 (f c s l : Nat) : DD := (⟨"java/util/Arrays", "copyOf", sn23⟩, jdk_65_method_119_code, 2, (some (.array (.object "java/lang/Object"))), { frames := f, cells := c, slots := s, locals := l })
abbrev E48 (f c s l : Nat) : DD := (⟨"java/util/Arrays", "copyOf", sn15⟩, jdk_65_method_120_code, 4, (some (.array (.object "java/lang/Object"))), { frames := f, cells := c, slots := s, locals := l })
abbrev E49 (f c s l : Nat) : DD := (⟨"java/util/List", "of", sn31⟩, jdk_40_method_47_code, 2, (some (.object "java/util/List")), { frames := f, cells := c, slots := s, locals := l })
abbrev E50 (f c s l : Nat) : DD := (⟨sn4, "<init>", sn45⟩, jdk_44_method_1_code, 2, none, { frames := f, cells := c, slots := s, locals := l })
abbrev E51 (f c s l : Nat) : DD := (⟨sn6, "<init>", "()V"⟩, jdk_46_method_1_code, 1, none, { frames := f, cells := c, slots := s, locals := l })
abbrev E52 (f c s l : Nat) : DD := (⟨sn11, "<init>", "()V"⟩, jdk_47_method_1_code, 1, none, { frames := f, cells := c, slots := s, locals := l })
abbrev E53 (f c s l : Nat) : DD := (⟨"java/util/Objects", "requireNonNull", sn28⟩, jdk_31_method_10_code, 1, (some (.object "java/lang/Object")), { frames := f, cells := c, slots := s, locals := l })
abbrev E54 (f c s l : Nat) : DD := (⟨sn4, "size", "()I"⟩, jdk_44_method_3_code, 1, (some .int), { frames := f, cells := c, slots := s, locals := l })
abbrev E55 (f c s l : Nat) : DD := (⟨sn4, "get", sn29⟩, jdk_44_method_5_code, 2, (some (.object "java/lang/Object")), { frames := f, cells := c, slots := s, locals := l })
abbrev E56 (f c s l : Nat) : DD := (⟨sn5, "append", sn12⟩, jdk_67_method_7_code, 2, (some (.object sn5)), { frames := f, cells := c, slots := s, locals := l })
abbrev E57 (f c s l : Nat) : DD := (⟨sn0, "append", sn14⟩, jdk_68_method_22_code, 3, (some (.object sn0)), { frames := f, cells := c, slots := s, locals := l })
abbrev E58 (f c s l : Nat) : DD := (⟨"java/lang/String", "length", "()I"⟩, jdk_42_method_54_code, 1, (some .int), { frames := f, cells := c, slots := s, locals := l })
abbrev E59 (f c s l : Nat) : DD := (⟨sn0, "putStringAt", sn39⟩, jdk_68_method_73_code, 3, none, { frames := f, cells := c, slots := s, locals := l })
abbrev E60 (f c s l : Nat) : DD := (⟨sn0, "inflateIfNeededFor", sn41⟩, jdk_68_method_71_code, 2, none, { frames := f, cells := c, slots := s, locals := l })
abbrev E61 (f c s l : Nat) : DD := (⟨"java/lang/String", "getBytes", "([BIB)V"⟩, jdk_42_method_147_code, 4, none, { frames := f, cells := c, slots := s, locals := l })
abbrev E62 (f c s l : Nat) : DD := (⟨sn2, "putLine", "([IIICC)I"⟩, method_4_code, 6, (some .int), { frames := f, cells := c, slots := s, locals := l })
abbrev E63 (f c s l : Nat) : DD := (⟨"java/lang/String", "valueOf", sn46⟩, jdk_42_method_139_code, 1, (some (.object "java/lang/String")), { frames := f, cells := c, slots := s, locals := l })
abbrev E64 (f c s l : Nat) : DD := (⟨sn24, "toBytes", "(C)[B"⟩, jdk_43_method_46_code, 1, (some (.array .byte)), { frames := f, cells := c, slots := s, locals := l })
abbrev E65 (f c s l : Nat) : DD := (⟨"java/lang/String", "<init>", "([BB)V"⟩, jdk_42_method_151_code, 3, none, { frames := f, cells := c, slots := s, locals := l })
abbrev E66 (f c s l : Nat) : DD := (⟨"java/lang/String", "<init>", "([C)V"⟩, jdk_42_method_3_code, 2, none, { frames := f, cells := c, slots := s, locals := l })
abbrev E67 (f c s l : Nat) : DD := (⟨"java/lang/String", "<init>", sn48⟩, jdk_42_method_149_code, 6, none, { frames := f, cells := c, slots := s, locals := l })
abbrev E68 (f c s l : Nat) : DD := (⟨sn9, "compress", "([CII)[B"⟩, jdk_52_method_16_code, 6, (some (.array .byte)), { frames := f, cells := c, slots := s, locals := l })
abbrev E69 (f c s l : Nat) : DD := (⟨sn9, "compress", "([CI[BII)I"⟩, jdk_52_method_21_code, 7, (some .int), { frames := f, cells := c, slots := s, locals := l })
abbrev E70 (f c s l : Nat) : DD := (⟨sn9, "coderFromArrayLen", "([BI)B"⟩, jdk_52_method_15_code, 2, (some .byte), { frames := f, cells := c, slots := s, locals := l })
abbrev E71 (f c s l : Nat) : DD := (⟨sn4, "<init>", sn26⟩, jdk_44_method_2_code, 3, none, { frames := f, cells := c, slots := s, locals := l })
abbrev E72 (f c s l : Nat) : DD := (⟨sn2, "putChar", "([IIC)I"⟩, method_5_code, 3, (some .int), { frames := f, cells := c, slots := s, locals := l })
abbrev E73 (f c s l : Nat) : DD := (⟨sn9, "newBytesFor", "(I)[B"⟩, jdk_52_method_2_code, 1, (some (.array .byte)), { frames := f, cells := c, slots := s, locals := l })
abbrev E74 (f c s l : Nat) : DD := (⟨sn9, "newBytesLength", "(I)I"⟩, jdk_52_method_3_code, 1, (some .int), { frames := f, cells := c, slots := s, locals := l })
abbrev E75 (f c s l : Nat) : DD := (⟨"java/util/Arrays", "copyOf", "([BI)[B"⟩, jdk_65_method_121_code, 3, (some (.array .byte)), { frames := f, cells := c, slots := s, locals := l })
abbrev E76 (f c s l : Nat) : DD := (⟨sn3, "next", sn17⟩, jdk_53_method_4_code, 3, (some (.object "java/lang/Object")), { frames := f, cells := c, slots := s, locals := l })
abbrev oS (a : Addr) (v0 v1 : Value) : Ent := (a, .inl ("java/lang/String", [("java/lang/String", "value", "[B", v0), ("java/lang/String", "coder", "B", v1)]))
theorem Ly_oS {g : GG} (W : GW g) : Lays g.Z g.a0 "java/lang/String" [("java/lang/String", "value", "[B", .null), ("java/lang/String", "coder", "B", (.int (0 : Int32)))] := by
  refine ⟨by decide, fun f hf => ?_⟩
  simp only [List.mem_cons, List.not_mem_nil, or_false] at hf
  rcases hf with rfl | rfl
  · exact ⟨Or.inr (W8 W), (.array .byte), by decide⟩
  · exact ⟨Or.inr (W9 W), .byte, by decide⟩
abbrev oAL (a : Addr) (v0 v1 v2 : Value) : Ent := (a, .inl ("java/util/ArrayList", [(sn21, "modCount", "I", v0), ("java/util/ArrayList", "elementData", "[Ljava/lang/Object;", v1), ("java/util/ArrayList", "size", "I", v2)]))
theorem Ly_oAL {g : GG} (W : GW g) : Lays g.Z g.a0 "java/util/ArrayList" [(sn21, "modCount", "I", (.int (0 : Int32))), ("java/util/ArrayList", "elementData", "[Ljava/lang/Object;", .null), ("java/util/ArrayList", "size", "I", (.int (0 : Int32)))] := by
  refine ⟨by decide, fun f hf => ?_⟩
  simp only [List.mem_cons, List.not_mem_nil, or_false] at hf
  rcases hf with rfl | rfl | rfl
  · exact ⟨Or.inl (W34 W), .int, by decide⟩
  · exact ⟨Or.inl (W37 W), (.array (.object "java/lang/Object")), by decide⟩
  · exact ⟨Or.inl (W74 W), .int, by decide⟩
abbrev oEV (a : Addr) (v0 : Value) : Ent := (a, .inl (sn1, [(sn1, "lines", "Ljava/util/List;", v0)]))
theorem Ly_oEV {g : GG} (W : GW g) : Lays g.Z g.a0 sn1 [(sn1, "lines", "Ljava/util/List;", .null)] := by
  refine ⟨by decide, fun f hf => ?_⟩
  simp only [List.mem_cons, List.not_mem_nil, or_false] at hf
  rcases hf with rfl
  · exact ⟨Or.inr (W80 W), (.object "java/util/List"), by decide⟩
abbrev o12 (a : Addr) (v0 v1 : Value) : Ent := (a, .inl (sn4, [(sn4, "e0", "Ljava/lang/Object;", v0), (sn4, "e1", "Ljava/lang/Object;", v1)]))
theorem Ly_o12 {g : GG} (W : GW g) : Lays g.Z g.a0 sn4 [(sn4, "e0", "Ljava/lang/Object;", .null), (sn4, "e1", "Ljava/lang/Object;", .null)] := by
  refine ⟨by decide, fun f hf => ?_⟩
  simp only [List.mem_cons, List.not_mem_nil, or_false] at hf
  rcases hf with rfl | rfl
  · exact ⟨Or.inr (W341 W), (.object "java/lang/Object"), by decide⟩
  · exact ⟨Or.inr (W344 W), (.object "java/lang/Object"), by decide⟩
abbrev oSB (a : Addr) (v0 v1 v2 : Value) : Ent := (a, .inl (sn5, [(sn0, "value", "[B", v0), (sn0, "coder", "B", v1), (sn0, "count", "I", v2)]))
theorem Ly_oSB {g : GG} (W : GW g) : Lays g.Z g.a0 sn5 [(sn0, "value", "[B", .null), (sn0, "coder", "B", (.int (0 : Int32))), (sn0, "count", "I", (.int (0 : Int32)))] := by
  refine ⟨by decide, fun f hf => ?_⟩
  simp only [List.mem_cons, List.not_mem_nil, or_false] at hf
  rcases hf with rfl | rfl | rfl
  · exact ⟨Or.inl (W101 W), (.array .byte), by decide⟩
  · exact ⟨Or.inl (W103 W), .byte, by decide⟩
  · exact ⟨Or.inl (W159 W), .int, by decide⟩
abbrev oLI (a : Addr) (v0 v1 v2 v3 : Value) : Ent := (a, .inl (sn3, [(sn3, "list", "Ljava/util/List;", v0), (sn3, "size", "I", v1), (sn3, "cursor", "I", v2), (sn3, "isListIterator", "Z", v3)]))
theorem Ly_oLI {g : GG} (W : GW g) : Lays g.Z g.a0 sn3 [(sn3, "list", "Ljava/util/List;", .null), (sn3, "size", "I", (.int (0 : Int32))), (sn3, "cursor", "I", (.int (0 : Int32))), (sn3, "isListIterator", "Z", (.int (0 : Int32)))] := by
  refine ⟨by decide, fun f hf => ?_⟩
  simp only [List.mem_cons, List.not_mem_nil, or_false] at hf
  rcases hf with rfl | rfl | rfl | rfl
  · exact ⟨Or.inr (W132 W), (.object "java/util/List"), by decide⟩
  · exact ⟨Or.inr (W134 W), .int, by decide⟩
  · exact ⟨Or.inl (W136 W), .int, by decide⟩
  · exact ⟨Or.inr (W138 W), .boolean, by decide⟩
theorem strW {g : GG} (W : GW g) : ∀ a ∈ Bundle.stringAtoms, a.before g.a0 g.Z = true := by
  intro a ha
  simp only [Bundle.stringAtoms, List.mem_cons, List.not_mem_nil, or_false] at ha
  rcases ha with rfl | rfl | rfl | rfl | rfl | rfl | rfl
  · exact W5 W
  · exact W6 W
  · exact W7 W
  · exact W8 W
  · exact W9 W
  · exact W10 W
  · exact W11 W
theorem inEL {g : GG} (W : GW g) {p : String × Nat} (h : p ∈ consts_1) : p ∈ g.EL := by
  show p ∈ g.2.2.2
  rw [W.2.2.2.2.1]
  exact h
/-! String's making: plain facts -/
abbrev bV (x : Int32) : Value := .int x.toInt8.toInt32
def bpre (cs : List Int32) (i : Nat) : List Value := (cs.take i).map bV ++ List.replicate (cs.length - i) (.int 0)
theorem ch_ch (x : Int32) : nar .char x.toUInt32.toUInt16.toUInt32.toInt32 = x.toUInt32.toUInt16.toUInt32.toInt32 := by simp only [nar, UInt32.toUInt32_toInt32, UInt16.toUInt16_toUInt32]
theorem by_by (x : Int32) : nar .byte x.toInt8.toInt32 = x.toInt8.toInt32 := by simp [nar]
theorem bpre0 (cs : List Int32) : bpre cs 0 = List.replicate cs.length (.int 0) := by simp [bpre]
theorem bpreN (cs : List Int32) : bpre cs cs.length = cs.map bV := by simp [bpre]
theorem bpre_len {cs : List Int32} {i : Nat} (h : i ≤ cs.length) : (bpre cs i).length = cs.length := by simp [bpre]; omega
theorem bpre_set {cs : List Int32} {i : Nat} {x : Int32} (h : cs[i]? = some x) : (bpre cs i).set i (bV x) = bpre cs (i + 1) := by
  obtain ⟨hl, rfl⟩ := List.getElem?_eq_some_iff.mp h
  have e : cs.length - i = (cs.length - (i + 1)) + 1 := by omega
  have ht : ((cs.take i).map bV).length = i := by simp; omega
  unfold bpre
  rw [e, List.replicate_succ, List.set_append_right _ _ (by omega), ht, Nat.sub_self, List.set_cons_zero, List.take_succ_eq_append_getElem hl, List.map_append, List.append_assoc]
  rfl
theorem n31 {n : Nat} (h : n < 2147483648) : ¬ Int32.ofNat n < 0 := Int32.ofNat_not_neg (by omega)
theorem n31c {n : Nat} (h : n < 2147483648) : (Int32.ofNat n).toNatClampNeg = n := Jvm.Free.XT.n32 (by omega)
theorem ltN {i n : Nat} (h : i < n) (hn : n < 2147483648) : Int32.ofNat i < Int32.ofNat n := by
  rw [Int32.lt_iff_toInt_lt, Int32.toInt_ofNat_small (by omega), Int32.toInt_ofNat_small (by omega)]; omega
theorem neN {n : Nat} (h : 0 < n) (hn : n < 2147483648) : ¬ Int32.ofNat n = 0 := fun e => by
  have := congrArg Int32.toInt e
  rw [Int32.toInt_ofNat_small (by omega)] at this
  have h0 : (0 : Int32).toInt = 0 := rfl
  omega
theorem injN {n k : Nat} (hn : n < 2147483648) (hk : k < 2147483648) (e : Int32.ofNat n = Int32.ofNat k) : n = k := by
  have := congrArg Int32.toInt e
  rw [Int32.toInt_ofNat_small (by omega), Int32.toInt_ofNat_small (by omega)] at this
  omega
theorem sucN (i : Nat) : Int32.ofNat i + (1 : Int32) = Int32.ofNat (i + 1) := by simp
theorem cdr0 (x : Int32) : (((x - x).toUInt32 >>> ((31 : Int32) &&& 31).toUInt32).toInt32).toInt8.toInt32 = 0 := by
  rw [Int32.sub_self]; decide

theorem le255 (x : Int32) : ¬ (255 : Int32) < (x &&& (255 : Int32)).toUInt32.toUInt16.toUInt32.toInt32 := by
  rw [i2c_mask]
  have h := c_mask x 255 8 (by decide) rfl
  rw [Int32.lt_iff_toInt_lt, h, show (255 : Int32).toInt = 255 from rfl]
  simp only [Nat.reducePow, Int.cast_ofNat_Int]
  omega

theorem compact {g : GG} (W : GW g) : ∃ z : Int32, Sta g.Z g.Z.heap "java/lang/String" "COMPACT_STRINGS" "Z" (.int z) ∧ ¬ z = 0 := by
  obtain ⟨z, e⟩ := is_v (Cond.before_iff.mp (W.2.2.1 _ (List.mem_of_getElem? (i := 17) rfl)))
  refine ⟨z, Sta.start e (Or.inl (W.2.2.1 _ (List.mem_of_getElem? (i := 16) rfl))), fun q => ?_⟩
  have n := not_v (Cond.before_iff.mp (W.2.2.1 _ (List.mem_of_getElem? (i := 18) rfl)))
  rw [eq_i e (Term.int_eval 0) (by rw [q])] at n
  cases n

theorem ef_c5 (c d : Addr) (n : Nat) (m : MethodId) : entryFrame m #[(.ref c), (.int 0), (.ref d), (.int 0), (.int (Int32.ofNat n))] 7 = mkF m 0 #[.val (.ref c), .val (.int 0), .val (.ref d), .val (.int 0), .val (.int (Int32.ofNat n)), .unset, .unset] [] := by first | (simp [entryFrame, mkF, argsToLocals, Value.category]; done) | rfl
abbrev D69 := E69 0 0 0 0
theorem lp_c5 {g : GG} (W : GW g) (c : Addr) (nm : String) (cs : List Int32) (hcs : ∀ x ∈ cs, ¬ (255 : Int32) < x) (hn : cs.length ≤ 8) {H0 : List Ent} {Lt : List SE} {M : MM} {d : Addr} : ∀ (k i : Nat), i + k = cs.length → ∀ (o : Slot), (o = .unset ∨ ∃ w, o = .val w ∧ w.category = 1) → ∀ {T : State}, RH g D69 M T ((d, .inr (.byte, "[B", bpre cs i)) :: (c, .inr (.char, nm, cs.map Value.int)) :: H0) Lt 0 0 →
    Fn g D69 M (fun v vm h => v = some (.int (Int32.ofNat cs.length)) ∧ Hp g vm h ((d, .inr (.byte, "[B", cs.map bV)) :: (c, .inr (.char, nm, cs.map Value.int)) :: H0) Lt) (T.setTop (mkF M.m 3 #[.val (.ref c), .val (.int (Int32.ofNat i)), .val (.ref d), .val (.int (Int32.ofNat i)), .val (.int (Int32.ofNat cs.length)), .val (.int (Int32.ofNat i)), o] [])) := by
  intro k
  induction k with
  | zero =>
    intro i hi o ho T B
    have hi' : i = cs.length := by omega
    refine p_iload B d69_3 rfl rfl ?_
    refine p_iload B d69_5 rfl rfl ?_
    refine b_icT B d69_7 (pc' := 44) (by subst hi'; exact Int32.lt_irrefl) (by decide) (by decide) ?_
    refine p_iload B d69_44 rfl rfl ?_
    exact r_reti B d69_46 rfl (by simp) rfl (by decide) (by decide) (fun vm h P => ⟨rfl, by subst hi'; rw [← bpreN cs]; exact P⟩)
  | succ k ih =>
    intro i hi o ho T B
    have hlt : i < cs.length := by omega
    obtain ⟨x, hx⟩ : ∃ x, cs[i]? = some x := ⟨_, List.getElem?_eq_getElem hlt⟩
    have hx2 : (cs.map Value.int)[i]? = some (.int x) := by rw [List.getElem?_map, hx]; rfl
    refine p_iload B d69_3 rfl rfl ?_
    refine p_iload B d69_5 rfl rfl ?_
    refine b_icF B d69_7 (pc' := 10) rfl (ltN hlt (by omega)) ?_
    refine p_aloadN B d69_10 rfl rfl rfl ?_
    refine p_iloadN B d69_11 rfl rfl ?_
    refine r_aget B d69_12 rfl rfl (aH (i := 1) rfl) (k := i) rfl hx2 ?_
    refine p_istore B d69_13 rfl (Ls' := #[.val (.ref c), .val (.int (Int32.ofNat i)), .val (.ref d), .val (.int (Int32.ofNat i)), .val (.int (Int32.ofNat cs.length)), .val (.int (Int32.ofNat i)), .val (.int x)]) (XS.store1 (o := o) rfl ho rfl) ?_
    refine p_iload B d69_15 rfl rfl ?_
    refine p_sipush B d69_17 rfl (v := (255 : Int32)) (by decide) ?_
    refine b_icT B d69_20 (pc' := 26) (hcs x (List.mem_of_getElem? hx)) (by decide) (by decide) ?_
    refine p_aloadN B d69_26 rfl rfl rfl ?_
    refine p_iloadN B d69_27 rfl rfl ?_
    refine p_iload B d69_28 rfl rfl ?_
    refine p_i2b B d69_30 rfl ?_
    refine r_bastore B d69_31 rfl (i := 0) rfl (n31 (by omega)) (k := i) (n31c (by omega)) (by rw [bpre_len (by omega)]; exact hlt) (by_by x) (H' := ((d, .inr (.byte, "[B", bpre cs (i + 1))) :: (c, .inr (.char, nm, cs.map Value.int)) :: H0)) (by rw [List.set_cons_zero, bpre_set hx]) fun T2 B2 => ?_
    refine p_iinc B2 d69_32 rfl (v := (1 : Int32)) (by decide) rfl (z := ((Int32.ofNat i) + (1 : Int32))) rfl (Ls' := #[.val (.ref c), .val (.int ((Int32.ofNat i) + (1 : Int32))), .val (.ref d), .val (.int (Int32.ofNat i)), .val (.int (Int32.ofNat cs.length)), .val (.int (Int32.ofNat i)), .val (.int x)]) rfl ?_
    refine p_iinc B2 d69_35 rfl (v := (1 : Int32)) (by decide) rfl (z := ((Int32.ofNat i) + (1 : Int32))) rfl (Ls' := #[.val (.ref c), .val (.int ((Int32.ofNat i) + (1 : Int32))), .val (.ref d), .val (.int ((Int32.ofNat i) + (1 : Int32))), .val (.int (Int32.ofNat cs.length)), .val (.int (Int32.ofNat i)), .val (.int x)]) rfl ?_
    refine p_iinc B2 d69_38 rfl (v := (1 : Int32)) (by decide) rfl (z := ((Int32.ofNat i) + (1 : Int32))) rfl (Ls' := #[.val (.ref c), .val (.int ((Int32.ofNat i) + (1 : Int32))), .val (.ref d), .val (.int ((Int32.ofNat i) + (1 : Int32))), .val (.int (Int32.ofNat cs.length)), .val (.int ((Int32.ofNat i) + (1 : Int32))), .val (.int x)]) rfl ?_
    refine b_goto B2 d69_41 (pc' := 3) (by decide) (by decide) ?_
    rw [sucN i]
    exact ih (i + 1) (by omega) _ (Or.inr ⟨_, rfl, rfl⟩) B2
theorem k_c5 {g : GG} (W : GW g) (c : Addr) (nm : String) (cs : List Int32) (hcs : ∀ x ∈ cs, ¬ (255 : Int32) < x) (hn : cs.length ≤ 8) (d : Addr) (H0 : List Ent) (Lt : List SE) : Ct g D69 #[.ref c, .int (0 : Int32), .ref d, .int (0 : Int32), .int (Int32.ofNat cs.length)] ((d, .inr (.byte, "[B", bpre cs 0)) :: (c, .inr (.char, nm, cs.map Value.int)) :: H0) Lt (fun v vm h => v = some (.int (Int32.ofNat cs.length)) ∧ Hp g vm h ((d, .inr (.byte, "[B", cs.map bV)) :: (c, .inr (.char, nm, cs.map Value.int)) :: H0) Lt) := by
  refine CtW.body W (by decide +kernel) (ef_c5 c d cs.length) ?_
  intro M T B
  refine p_iconst B d69_0 rfl (v := (0 : Int32)) (by decide) ?_
  refine p_istore B d69_1 rfl (Ls' := #[.val (.ref c), .val (.int 0), .val (.ref d), .val (.int 0), .val (.int (Int32.ofNat cs.length)), .val (.int 0), .unset]) rfl ?_
  exact lp_c5 W c nm cs hcs hn cs.length 0 (by omega) _ (Or.inl rfl) B
theorem ef_cf (d : Addr) (n : Nat) (m : MethodId) : entryFrame m #[(.ref d), (.int (Int32.ofNat n))] 2 = mkF m 0 #[.val (.ref d), .val (.int (Int32.ofNat n))] [] := by first | (simp [entryFrame, mkF, argsToLocals, Value.category]; done) | rfl
abbrev D70 := E70 0 0 0 0
theorem k_cf {g : GG} (W : GW g) (d : Addr) (nm : String) (vs : List Value) (n : Nat) (hn : vs.length = n) (H0 : List Ent) (Lt : List SE) : Ct g D70 #[.ref d, .int (Int32.ofNat n)] ((d, .inr (.byte, nm, vs)) :: H0) Lt (fun v vm h => v = some (.int (0 : Int32)) ∧ Hp g vm h ((d, .inr (.byte, nm, vs)) :: H0) Lt) := by
  subst hn
  refine CtW.body W (by decide +kernel) (ef_cf d vs.length) ?_
  intro M T B
  refine p_iloadN B d70_0 rfl rfl ?_
  refine p_aloadN B d70_1 rfl rfl rfl ?_
  refine r_alen B d70_2 rfl (aH (i := 0) rfl) (z := (Int32.ofNat vs.length)) rfl ?_
  refine p_isub B d70_3 rfl rfl ?_
  refine p_bipush B d70_4 rfl (v := (31 : Int32)) (by decide) ?_
  refine p_iushr B d70_6 rfl rfl ?_
  refine p_i2b B d70_7 rfl ?_
  rw [cdr0]
  exact r_reti B d70_8 rfl (by simp) rfl (by decide) (by decide) (fun vm h P => ⟨rfl, P⟩)
theorem ef_c3 (c : Addr) (n : Nat) (m : MethodId) : entryFrame m #[(.ref c), (.int 0), (.int (Int32.ofNat n))] 6 = mkF m 0 #[.val (.ref c), .val (.int 0), .val (.int (Int32.ofNat n)), .unset, .unset, .unset] [] := by first | (simp [entryFrame, mkF, argsToLocals, Value.category]; done) | rfl
abbrev D68 := E68 1 1 8 18
theorem k_c3 {g : GG} (W : GW g) (c : Addr) (nm : String) (cs : List Int32) (hcs : ∀ x ∈ cs, ¬ (255 : Int32) < x) (hn : cs.length ≤ 8) (H0 : List Ent) (Lt : List SE) : Ct g D68 #[.ref c, .int (0 : Int32), .int (Int32.ofNat cs.length)] ((c, .inr (.char, nm, cs.map Value.int)) :: H0) Lt (fun v vm h => ∃ d, v = some (.ref d) ∧ Hp g vm h ((d, .inr (.byte, "[B", cs.map bV)) :: (c, .inr (.char, nm, cs.map Value.int)) :: H0) Lt) := by
  refine CtW.body W (by decide +kernel) (ef_c3 c cs.length) ?_
  intro M T B
  refine p_iloadN B d68_0 rfl rfl ?_
  refine r_newp B d68_1 rfl (ty := .byte) (W7 B.gw) rfl (n31 (by omega)) (nn := cs.length) (n31c (by omega)) (cap := 8) hn (by decide) (cs' := 1) rfl (ss' := 8) rfl (by decide) (by decide) (ad := "[B") (by decide) (by decide) nofun (vs := bpre cs 0) (bpre0 cs).symm fun T1 d B1 => ?_
  refine p_astoreN B1 d68_3 rfl rfl (Ls' := #[.val (.ref c), .val (.int 0), .val (.int (Int32.ofNat cs.length)), .val (.ref d), .unset, .unset]) rfl ?_
  refine p_aloadN B1 d68_4 rfl rfl rfl ?_
  refine p_iloadN B1 d68_5 rfl rfl ?_
  refine p_aloadN B1 d68_6 rfl rfl rfl ?_
  refine p_iconst B1 d68_7 rfl (v := (0 : Int32)) (by decide) ?_
  refine p_iloadN B1 d68_8 rfl rfl ?_
  refine r_static (D' := D69) B1 d68_9 rfl (W425 B1.gw) (W426 B1.gw) (W423 B1.gw) (W427 B1.gw) (by decide) (k_c5 W c nm cs hcs hn d H0 Lt) (argsL := [(.ref c), (.int 0), (.ref d), (.int 0), (.int (Int32.ofNat cs.length))]) (rest := []) rfl pd0 rfl rfl rfl (W := 0) rfl (cs' := 1) (ss' := 8) (by decide) (Kv1 fun T1 B3 => ?_)
  refine p_istore B3 d68_12 rfl (Ls' := #[.val (.ref c), .val (.int 0), .val (.int (Int32.ofNat cs.length)), .val (.ref d), .val (.int (Int32.ofNat cs.length)), .unset]) rfl ?_
  refine p_iload B3 d68_14 rfl rfl ?_
  refine p_iloadN B3 d68_16 rfl rfl ?_
  refine b_icT B3 d68_17 (pc' := 57) rfl (by decide) (by decide) ?_
  refine p_aloadN B3 d68_57 rfl rfl rfl ?_
  exact r_reta B3 d68_58 rfl rfl rfl (by decide) (by decide) (fun vm h P => ⟨d, rfl, P⟩)
theorem ef_i4 (a c : Addr) (n : Nat) (m : MethodId) : entryFrame m #[(.ref a), (.ref c), (.int 0), (.int (Int32.ofNat n)), .null] 6 = mkF m 0 #[.val (.ref a), .val (.ref c), .val (.int 0), .val (.int (Int32.ofNat n)), .val .null, .unset] [] := by first | (simp [entryFrame, mkF, argsToLocals, Value.category]; done) | rfl
abbrev D67 := E67 2 1 8 35
theorem k_i4 {g : GG} (W : GW g) (a : Addr) (c : Addr) (nm : String) (cs : List Int32) (hcs : ∀ x ∈ cs, ¬ (255 : Int32) < x) (hn : cs.length ≤ 8) (hne : cs ≠ []) (H0 : List Ent) (Lt : List SE) : Ct g D67 #[.ref a, .ref c, .int (0 : Int32), .int (Int32.ofNat cs.length), .null] (oS a .null (.int 0) :: (c, .inr (.char, nm, cs.map Value.int)) :: H0) Lt (fun v vm h => v = none ∧ ∃ d, Hp g vm h ((c, .inr (.char, nm, cs.map Value.int)) :: H0) ((a, d, 0, cs.map bV) :: Lt)) := by
  refine CtW.body W (by decide +kernel) (ef_i4 a c cs.length) ?_
  intro M T B
  refine p_aloadN B d67_0 rfl rfl rfl ?_
  refine r_initO B d67_1 rfl (W187 B.gw) (W31 B.gw) (W32 B.gw) rfl (by decide) (W := 0) rfl (by decide) fun T1 B2 => ?_
  refine p_iloadN B2 d67_4 rfl rfl ?_
  by_cases h0 : 0 < cs.length
  · refine b_ifT B2 d67_5 (pc' := 27) (neN h0 (by omega)) (by decide) (by decide) ?_
    obtain ⟨z, hz, hz0⟩ := compact W
    refine r_gets B2 d67_27 rfl (host := "") (Or.inl (W234 B2.gw)) Via.refl (v := (.int z)) hz fun T3 B4 => ?_
    refine b_ifF B4 d67_30 (pc' := 33) rfl hz0 ?_
    refine p_aloadN B4 d67_33 rfl rfl rfl ?_
    refine p_iloadN B4 d67_34 rfl rfl ?_
    refine p_iloadN B4 d67_35 rfl rfl ?_
    have B5 : RH g D67 M T3 ((c, .inr (.char, nm, (cs.map Value.int))) :: oS a .null (.int 0) :: H0) (Lt) 0 0 := B4.front (i := 1) rfl rfl
    refine r_static (D' := D68) B5 d67_36 rfl (W421 B5.gw) (W422 B5.gw) (W423 B5.gw) (W424 B5.gw) (by decide) (k_c3 W c nm cs hcs hn (oS a .null (.int 0) :: H0) Lt) (argsL := [(.ref c), (.int 0), (.int (Int32.ofNat cs.length))]) (rest := []) rfl pd1 rfl rfl rfl (W := 0) rfl (cs' := 1) (ss' := 8) (by decide) (Kex fun d => Kv1 fun T6 B8 => ?_)
    refine p_astore B8 d67_39 rfl rfl (Ls' := #[.val (.ref a), .val (.ref c), .val (.int 0), .val (.int (Int32.ofNat cs.length)), .val .null, .val (.ref d)]) rfl ?_
    refine p_aloadN B8 d67_41 rfl rfl rfl ?_
    refine p_aload B8 d67_42 rfl rfl rfl ?_
    refine p_iloadN B8 d67_44 rfl rfl ?_
    refine r_static (D' := D70) B8 d67_45 rfl (W428 B8.gw) (W429 B8.gw) (W423 B8.gw) (W430 B8.gw) (by decide) (k_cf W d "[B" (cs.map bV) cs.length (List.length_map ..) _ Lt) (argsL := [(.ref d), (.int (Int32.ofNat cs.length))]) (rest := [(.ref a)]) rfl pd2 rfl rfl rfl (W := 1) rfl (cs' := 1) (ss' := 8) (by decide) (Kv1 fun T9 B11 => ?_)
    refine r_put B11 d67_48 rfl (host := "") (Or.inl (W202 B11.gw)) Via.refl (i := 2) (j := 1) rfl rfl (Or.inr ⟨(W9 B11.gw), rfl, rfl⟩) (W6 B11.gw) (ty := .byte) (by decide) (by decide) (by decide) (H' := ((d, .inr (.byte, "[B", (cs.map bV))) :: (c, .inr (.char, nm, (cs.map Value.int))) :: oS a .null (.int 0) :: H0)) rfl fun T12 B13 => ?_
    refine p_aloadN B13 d67_51 rfl rfl rfl ?_
    refine p_aload B13 d67_52 rfl rfl rfl ?_
    refine r_put B13 d67_54 rfl (host := "") (Or.inl (W221 B13.gw)) Via.refl (i := 2) (j := 0) rfl rfl (Or.inr ⟨(W8 B13.gw), rfl, rfl⟩) (W6 B13.gw) (ty := (.array .byte)) (by decide) rfl rfl (H' := ((d, .inr (.byte, "[B", (cs.map bV))) :: (c, .inr (.char, nm, (cs.map Value.int))) :: oS a (.ref d) (.int 0) :: H0)) rfl fun T14 B15 => ?_
    have B16 : RH g D67 M T14 (oS a (.ref d) (.int 0) :: (d, .inr (.byte, "[B", (cs.map bV))) :: (c, .inr (.char, nm, (cs.map Value.int))) :: H0) (Lt) 1 8 := B15.front (i := 2) rfl rfl
    exact r_ret B16 d67_57 rfl (by decide) (by decide) (fun vm h P => ⟨rfl, d, P.freeze (by simp) (by simp)⟩)
  · have e0 : cs = [] := List.eq_nil_of_length_eq_zero (by omega)
    exact absurd e0 hne
abbrev D66 := E66 3 1 8 52
theorem k_i1 {g : GG} (W : GW g) (a : Addr) (c : Addr) (nm : String) (cs : List Int32) (hcs : ∀ x ∈ cs, ¬ (255 : Int32) < x) (hn : cs.length ≤ 8) (hne : cs ≠ []) (H0 : List Ent) (Lt : List SE) : Ct g D66 #[.ref a, .ref c] (oS a .null (.int 0) :: (c, .inr (.char, nm, cs.map Value.int)) :: H0) Lt (fun v vm h => v = none ∧ ∃ d, Hp g vm h ((c, .inr (.char, nm, cs.map Value.int)) :: H0) ((a, d, 0, cs.map bV) :: Lt)) := by
  refine CtW.body (Ls := #[.val (.ref a), .val (.ref c)]) W (by decide +kernel) (efr rfl) ?_
  intro M T B
  refine p_aloadN B d66_0 rfl rfl rfl ?_
  refine p_aloadN B d66_1 rfl rfl rfl ?_
  refine p_iconst B d66_2 rfl (v := (0 : Int32)) (by decide) ?_
  refine p_aloadN B d66_3 rfl rfl rfl ?_
  refine r_alen B d66_4 rfl (aH (i := 1) rfl) (z := Int32.ofNat cs.length) (by rw [List.length_map]) ?_
  refine p_null B d66_5 rfl ?_
  refine r_special (D' := D67) B d66_6 rfl rfl rfl (W418 B.gw) (W419 B.gw) (W5 B.gw) (W420 B.gw) (by decide) (k_i4 W a c nm cs hcs hn hne H0 Lt) (a := a) (argsL := [(.ref c), (.int 0), (.int (Int32.ofNat cs.length)), .null]) (rest := []) rfl pd3 rfl rfl rfl (W := 0) rfl (cs' := 1) (ss' := 8) (by decide) fun T1 v2 B3 => ?_
  replace B3 := Rn.and B3
  obtain ⟨rfl, B3⟩ := B3
  replace B3 := Rn.ex B3
  obtain ⟨d, B3⟩ := B3
  show Fn g D66 M _ (T1.setTop (mkF M.m 9 #[.val (.ref a), .val (.ref c)] []))
  exact r_ret B3 d66_9 rfl (by decide) (by decide) (fun vm h P => ⟨rfl, d, P⟩)
abbrev D23 := E23 0 0 0 0
theorem k_ce {g : GG} (W : GW g) (x : Int32) (hx : ¬ (255 : Int32) < x) (H : List Ent) (Lt : List SE) : Ct g D23 #[.int x] H Lt (fun v vm h => v = some (.int (1 : Int32)) ∧ Hp g vm h H Lt) := by
  refine CtW.body (Ls := #[.val (.int x)]) W (by decide +kernel) (efr rfl) ?_
  intro M T B
  refine p_iloadN B d23_0 rfl rfl ?_
  refine p_sipush B d23_1 rfl (v := (255 : Int32)) (by decide) ?_
  refine b_icF B d23_4 (pc' := 7) rfl hx ?_
  refine p_iconst B d23_7 rfl (v := (1 : Int32)) (by decide) ?_
  refine b_goto B d23_8 (pc' := 12) (by decide) (by decide) ?_
  exact r_reti B d23_12 rfl (by simp) rfl (by decide) (by decide) (fun vm h P => ⟨rfl, P⟩)
abbrev D64 := E64 0 1 1 0
theorem k_tb {g : GG} (W : GW g) (x : Int32) (H : List Ent) (Lt : List SE) : Ct g D64 #[.int x] H Lt (fun v vm h => ∃ b, v = some (.ref b) ∧ Hp g vm h ((b, .inr (.byte, "[B", [bV x])) :: H) Lt) := by
  refine CtW.body (Ls := #[.val (.int x)]) W (by decide +kernel) (efr rfl) ?_
  intro M T B
  refine p_iconst B d64_0 rfl (v := (1 : Int32)) (by decide) ?_
  refine r_newp B d64_1 rfl (ty := .byte) (W7 B.gw) rfl (by decide) (nn := 1) (by decide) (cap := 1) (by decide) (by decide) (cs' := 1) rfl (ss' := 1) rfl (by decide) (by decide) (ad := "[B") (by decide) (by decide) nofun (vs := [(.int 0)]) rfl fun T1 a3 B2 => ?_
  refine p_dup B2 d64_3 rfl rfl ?_
  refine p_iconst B2 d64_4 rfl (v := (0 : Int32)) (by decide) ?_
  refine p_iloadN B2 d64_5 rfl rfl ?_
  refine p_i2b B2 d64_6 rfl ?_
  refine r_bastore B2 d64_7 rfl (i := 0) rfl (by decide) (k := 0) (by decide) (by simp) (x' := (x).toInt8.toInt32) (by_by _) (H' := ((a3, .inr (.byte, "[B", [(.int (x).toInt8.toInt32)])) :: H)) rfl fun T4 B5 => ?_
  exact r_reta B5 d64_8 rfl rfl rfl (by decide) (by decide) (fun vm h P => ⟨_, rfl, P⟩)
abbrev D65 := E65 1 0 0 12
theorem k_ib {g : GG} (W : GW g) (a b : Addr) (H : List Ent) (Lt : List SE) : Ct g D65 #[.ref a, .ref b, .int (0 : Int32)] (oS a .null (.int 0) :: H) Lt (fun v vm h => v = none ∧ Hp g vm h (oS a (.ref b) (.int 0) :: H) Lt) := by
  refine CtW.body (Ls := #[.val (.ref a), .val (.ref b), .val (.int 0)]) W (by decide +kernel) (efr rfl) ?_
  intro M T B
  refine p_aloadN B d65_0 rfl rfl rfl ?_
  refine r_initO B d65_1 rfl (W187 B.gw) (W31 B.gw) (W32 B.gw) rfl (by decide) (W := 0) rfl (by decide) fun T1 B2 => ?_
  refine p_aloadN B2 d65_4 rfl rfl rfl ?_
  refine p_aloadN B2 d65_5 rfl rfl rfl ?_
  refine r_put B2 d65_6 rfl (host := "") (Or.inl (W221 B2.gw)) Via.refl (i := 0) (j := 0) rfl rfl (Or.inr ⟨(W8 B2.gw), rfl, rfl⟩) (W6 B2.gw) (ty := (.array .byte)) (by decide) rfl rfl (H' := (oS a (.ref b) (.int 0) :: H)) rfl fun T3 B4 => ?_
  refine p_aloadN B4 d65_9 rfl rfl rfl ?_
  refine p_iloadN B4 d65_10 rfl rfl ?_
  refine r_put B4 d65_11 rfl (host := "") (Or.inl (W202 B4.gw)) Via.refl (i := 0) (j := 1) rfl rfl (Or.inr ⟨(W9 B4.gw), rfl, rfl⟩) (W6 B4.gw) (ty := .byte) (by decide) (by decide) (by decide) (H' := (oS a (.ref b) (.int 0) :: H)) rfl fun T5 B6 => ?_
  exact r_ret B6 d65_14 rfl (by decide) (by decide) (fun vm h P => ⟨rfl, P⟩)
abbrev D63 := E63 2 2 5 27
theorem k_vo {g : GG} (W : GW g) (x : Int32) (hx : ¬ (255 : Int32) < x) (H : List Ent) (Lt : List SE) : Ct g D63 #[.int x] H Lt (fun v vm h => ∃ a b, v = some (.ref a) ∧ Hp g vm h H ((a, b, 0, [bV x]) :: Lt)) := by
  refine CtW.body (Ls := #[.val (.int x)]) W (by decide +kernel) (efr rfl) ?_
  intro M T B
  obtain ⟨z, hz, hz0⟩ := compact W
  refine r_gets B d63_0 rfl (host := "") (Or.inl (W234 B.gw)) Via.refl (v := (.int z)) hz fun T1 B2 => ?_
  refine b_ifF B2 d63_3 (pc' := 6) rfl hz0 ?_
  refine p_iloadN B2 d63_6 rfl rfl ?_
  refine r_static (D' := D23) B2 d63_7 rfl (W405 B2.gw) (W171 B2.gw) (W172 B2.gw) (W173 B2.gw) (by decide) (k_ce W x hx _ _) (argsL := [(.int x)]) (rest := []) rfl pd4 rfl rfl rfl (W := 0) rfl (cs' := 0) (ss' := 0) (by decide) (Kv1 fun T3 B5 => ?_)
  refine b_ifF B5 d63_10 (pc' := 13) rfl (show ¬ (1 : Int32) = (0 : Int32) from by decide) ?_
  refine r_new B5 d63_13 rfl (W406 B5.gw) (W6 B5.gw) (W5 B5.gw) (Ly_oS B5.gw) (by decide) (cs' := 1) rfl (ss' := 4) rfl (by decide) (by decide) fun T6 a8 B7 => ?_
  refine p_dup B7 d63_16 rfl rfl ?_
  refine p_iloadN B7 d63_17 rfl rfl ?_
  refine r_static (D' := D64) B7 d63_18 rfl (W407 B7.gw) (W408 B7.gw) (W172 B7.gw) (W409 B7.gw) (by decide) (k_tb W x _ _) (argsL := [(.int x)]) (rest := [(.ref a8), (.ref a8)]) rfl pd5 rfl rfl rfl (W := 2) rfl (cs' := 2) (ss' := 5) (by decide) (Kex fun b => Kv1 fun T9 B11 => ?_)
  refine p_iconst B11 d63_21 rfl (v := (0 : Int32)) (by decide) ?_
  have B12 : RH g D63 M T9 (oS a8 .null (.int 0) :: (b, .inr (.byte, "[B", [(bV x)])) :: H) (Lt) 2 5 := B11.front (i := 1) rfl rfl
  refine r_special (D' := D65) B12 d63_22 rfl rfl rfl (W410 B12.gw) (W411 B12.gw) (W5 B12.gw) (W412 B12.gw) (by decide) (k_ib W a8 b _ _) (a := a8) (argsL := [(.ref b), (.int 0)]) (rest := [(.ref a8)]) rfl pd6 rfl rfl rfl (W := 1) rfl (cs' := 2) (ss' := 5) (by decide) (Kv0 fun T13 B15 => ?_)
  exact r_reta B15 d63_25 rfl rfl rfl (by decide) (by decide) (fun vm h P => ⟨_, b, rfl, P.freeze (by simp) (by simp)⟩)
def dcOf (g : GG) : Addr := match (Jvm.Term.static "java/util/ArrayList" sn50 "[Ljava/lang/Object;").eval g.a0 g.Z none [] g.Z with | some (.ref a) => a | _ => 0
theorem dc_ev {g : GG} (W : GW g) : (Jvm.Term.static "java/util/ArrayList" sn50 "[Ljava/lang/Object;").eval g.a0 g.Z none [] g.Z = some (.ref (dcOf g)) := by
  obtain ⟨a, e⟩ := exa_v (Cond.before_iff.mp (W.2.2.1 _ (List.mem_of_getElem? (i := 7) rfl)))
  have h : dcOf g = a := by unfold dcOf; rw [e]
  rw [h]; exact e
theorem dc_sta {g : GG} (W : GW g) : Sta g.Z g.Z.heap "java/util/ArrayList" sn50 "[Ljava/lang/Object;" (.ref (dcOf g)) := Sta.start (dc_ev W) (Or.inr ⟨W14 W, (W.2.2.1 _ (List.mem_of_getElem? (i := 2) rfl))⟩)
theorem dc_arr {g : GG} (W : GW g) : ∃ c : Cell, Jvm.RoadKit.Arr g.Z g.Z.heap (dcOf g) c (.object "java/lang/Object") ∧ c.slots.size.toInt32 = 0 := old_len (dc_ev W) (Cond.before_iff.mp (W.2.2.1 _ (List.mem_of_getElem? (i := 6) rfl))) (Cond.before_iff.mp (W.2.2.1 _ (List.mem_of_getElem? (i := 8) rfl)))
def emOf (g : GG) : Addr := match (Jvm.Term.static sn7 "EMPTY" "Ljava/lang/Object;").eval g.a0 g.Z none [] g.Z with | some (.ref a) => a | _ => 0
theorem em_ev {g : GG} (W : GW g) : (Jvm.Term.static sn7 "EMPTY" "Ljava/lang/Object;").eval g.a0 g.Z none [] g.Z = some (.ref (emOf g)) := by
  obtain ⟨a, e⟩ := exa_v (Cond.before_iff.mp (W.2.2.1 _ (List.mem_of_getElem? (i := 36) rfl)))
  have h : emOf g = a := by unfold emOf; rw [e]
  rw [h]; exact e
theorem em_sta {g : GG} (W : GW g) : Sta g.Z g.Z.heap sn7 "EMPTY" "Ljava/lang/Object;" (.ref (emOf g)) := Sta.start (em_ev W) (Or.inl (W.2.2.1 _ (List.mem_of_getElem? (i := 35) rfl)))
theorem em_exa {g : GG} (W : GW g) {H : List Ent} {Lt : List SE} : Al g H Lt fun h => Exa g.Z h (emOf g) "java/lang/Object" := Al.old fun h E => (Exa.start (em_ev W) (Cond.before_iff.mp (W.2.2.1 _ (List.mem_of_getElem? (i := 36) rfl)))).ext E
def elOf (g : GG) : Addr := match (Jvm.Term.static sn7 "EMPTY_LIST" sn35).eval g.a0 g.Z none [] g.Z with | some (.ref a) => a | _ => 0
theorem el_ev {g : GG} (W : GW g) : (Jvm.Term.static sn7 "EMPTY_LIST" sn35).eval g.a0 g.Z none [] g.Z = some (.ref (elOf g)) := by
  obtain ⟨a, e⟩ := exa_v (Cond.before_iff.mp (W.2.2.1 _ (List.mem_of_getElem? (i := 11) rfl)))
  have h : elOf g = a := by unfold elOf; rw [e]
  rw [h]; exact e
theorem el_sta {g : GG} (W : GW g) : Sta g.Z g.Z.heap sn7 "EMPTY_LIST" sn35 (.ref (elOf g)) := Sta.start (el_ev W) (Or.inl (W.2.2.1 _ (List.mem_of_getElem? (i := 10) rfl)))
theorem el_exa {g : GG} (W : GW g) {H : List Ent} {Lt : List SE} : Al g H Lt fun h => Exa g.Z h (elOf g) sn8 := Al.old fun h E => (Exa.start (el_ev W) (Cond.before_iff.mp (W.2.2.1 _ (List.mem_of_getElem? (i := 11) rfl)))).ext E
def eaOf (g : GG) : Addr := match (Jvm.Term.field (Jvm.Term.static sn7 "EMPTY_LIST" sn35) sn8 "elements" "[Ljava/lang/Object;").eval g.a0 g.Z none [] g.Z with | some (.ref a) => a | _ => 0
theorem ea_ev {g : GG} (W : GW g) : (Jvm.Term.field (Jvm.Term.static sn7 "EMPTY_LIST" sn35) sn8 "elements" "[Ljava/lang/Object;").eval g.a0 g.Z none [] g.Z = some (.ref (eaOf g)) := by
  obtain ⟨a, e⟩ := exa_v (Cond.before_iff.mp (W.2.2.1 _ (List.mem_of_getElem? (i := 13) rfl)))
  have h : eaOf g = a := by unfold eaOf; rw [e]
  rw [h]; exact e
theorem ea_arr {g : GG} (W : GW g) : ∃ c : Cell, Jvm.RoadKit.Arr g.Z g.Z.heap (eaOf g) c (.object "java/lang/Object") ∧ c.slots.size.toInt32 = 0 := old_len (ea_ev W) (Cond.before_iff.mp (W.2.2.1 _ (List.mem_of_getElem? (i := 12) rfl))) (Cond.before_iff.mp (W.2.2.1 _ (List.mem_of_getElem? (i := 14) rfl)))
theorem el_fld {g : GG} (W : GW g) {H : List Ent} {Lt : List SE} : Al g H Lt fun h => Fld g.Z h (elOf g) sn8 "elements" "[Ljava/lang/Object;" (.ref (eaOf g)) := Al.old fun h E => (Fld.start ((fld_at (el_ev W)).symm.trans (ea_ev W))).ext E
def miOf (g : GG) : Addr := match g.Z.vm.findClass "[Ljava/lang/Object;" with | some c => (match g.Z.vm.classes[c]? with | some k => k.mirror.getD 0 | none => 0) | none => 0
theorem mi_ok {g : GG} (W : GW g) : ∃ (c : ClassId) (k : Class), g.Z.vm.findClass "[Ljava/lang/Object;" = some c ∧ g.Z.vm.classes[c]? = some k ∧ k.mirror = some (miOf g) := by
  obtain ⟨c, k, m, h1, h2, h3⟩ := W.2.2.2.2.2
  have h1' : g.Z.vm.findClass "[Ljava/lang/Object;" = some c := h1
  have h2' : g.Z.vm.classes[c]? = some k := h2
  refine ⟨c, k, h1', h2', ?_⟩
  have e : miOf g = m := by unfold miOf; simp [h1', h2', h3]
  rw [e]; exact h3
def utOf (g : GG) : Addr := match (Jvm.Term.static sn43 "UTF_8" sn51).eval g.a0 g.Z none [] g.Z with | some (.ref a) => a | _ => 0
theorem ut_ev {g : GG} (W : GW g) : (Jvm.Term.static sn43 "UTF_8" sn51).eval g.a0 g.Z none [] g.Z = some (.ref (utOf g)) := by
  obtain ⟨a, e⟩ := exa_v (Cond.before_iff.mp (W.2.2.1 _ (List.mem_of_getElem? (i := 30) rfl)))
  have h : utOf g = a := by unfold utOf; rw [e]
  rw [h]; exact e
theorem ut_sta {g : GG} (W : GW g) : Sta g.Z g.Z.heap sn43 "UTF_8" sn51 (.ref (utOf g)) := Sta.start (ut_ev W) (Or.inl (W.2.2.1 _ (List.mem_of_getElem? (i := 26) rfl)))
theorem ui_sta {g : GG} (W : GW g) : Sta g.Z g.Z.heap "sun/nio/cs/UTF_8" "INSTANCE" "Lsun/nio/cs/UTF_8;" (.ref (utOf g)) := by
  obtain ⟨a, e⟩ := exa_v (Cond.before_iff.mp (W.2.2.1 _ (List.mem_of_getElem? (i := 33) rfl)))
  have q := eq_R (ut_ev W) e rfl rfl
  rw [(Cond.before_iff.mp (W.2.2.1 _ (List.mem_of_getElem? (i := 29) rfl)))] at q
  have h : Value.ref (utOf g) = Value.ref a := of_decide_eq_true (Option.some.inj q).symm
  rw [h]; exact Sta.start e (Or.inl (W.2.2.1 _ (List.mem_of_getElem? (i := 28) rfl)))
def AL (g : GG) (a b : Addr) : List Addr → List Ent
  | [] => [oAL a (.int (0 : Int32)) (.ref (dcOf g)) (.int (0 : Int32))]
  | x :: t => [oAL a (.int (Int32.ofNat (x :: t).length)) (.ref b) (.int (Int32.ofNat (x :: t).length)), (b, .inr (.object "java/lang/Object", "[Ljava/lang/Object;", (x :: t).map Value.ref ++ List.replicate (10 - (x :: t).length) Value.null))]
theorem al_exa {g : GG} {a b : Addr} {H : List Ent} {Lt : List SE} : ∀ (L : List Addr), Al g (AL g a b L ++ H) Lt fun h => Exa g.Z h a "java/util/ArrayList"
  | [] => fE (i := 0) rfl
  | _ :: _ => fE (i := 0) rfl
def ilA (g : GG) (c : Addr) : List Addr → Addr
  | [] => elOf g
  | _ :: _ => c
def IL (g : GG) (c d : Addr) : List Addr → List Ent
  | [] => []
  | [x] => [o12 c (.ref x) (.ref (emOf g))]
  | [x, y] => [o12 c (.ref x) (.ref y)]
  | _ :: _ :: _ :: _ => []

/-! builders -/
theorem shr0 (x : Int32) : x >>> ((0 : Int32) &&& 31) = x := by
  rw [show ((0 : Int32) &&& 31) = 0 from by decide]; exact Int32.shiftRight_zero
theorem shl0 (x : Int32) : x <<< ((0 : Int32) &&& 31) = x := by
  rw [show ((0 : Int32) &&& 31) = 0 from by decide]; exact Int32.shiftLeft_zero
theorem addN {cs ds : List Int32} : Int32.ofNat cs.length + Int32.ofNat ds.length = Int32.ofNat (cs ++ ds).length := by rw [List.length_append, Int32.ofNat_add]
theorem add1 {cs : List Int32} : Int32.ofNat cs.length + 1 = Int32.ofNat (cs ++ [(10 : Int32)]).length := by rw [List.length_append, Int32.ofNat_add]; rfl
theorem le16 {n : Nat} (h : n ≤ 16) : ¬ (0 : Int32) < Int32.ofNat n - 16 := by
  rw [Int32.lt_iff_toInt_lt, Int32.toInt_sub, Int32.toInt_ofNat_small (by omega), show (16 : Int32).toInt = 16 from rfl, show (0 : Int32).toInt = 0 from rfl, Int.bmod_eq_of_le_mul_two (by omega) (by omega)]
  omega
def sbv (cs : List Int32) : List Value := cs.map Value.int ++ List.replicate (16 - cs.length) (Value.int (0 : Int32))
theorem sbl {cs : List Int32} (h : cs.length ≤ 16) : (sbv cs).length = 16 := by
  unfold sbv; rw [List.length_append, List.length_map, List.length_replicate]; omega
theorem sbt (cs : List Int32) : ((sbv cs).drop 0).take cs.length = cs.map Value.int := by
  unfold sbv; rw [List.drop_zero, List.take_left' (List.length_map ..)]
theorem sbu (cs : List Int32) : (List.replicate cs.length (Value.int 0)).take 0 ++ cs.map Value.int ++ (List.replicate cs.length (Value.int 0)).drop (0 + cs.length) = cs.map Value.int := by
  rw [Nat.zero_add, List.take_zero, List.nil_append, List.drop_of_length_le (by rw [List.length_replicate]; exact Nat.le_refl _), List.append_nil]
theorem sbc {cs ds : List Int32} (h : cs.length + ds.length ≤ 16) : (sbv cs).take cs.length ++ ds.map Value.int ++ (sbv cs).drop (cs.length + ds.length) = sbv (cs ++ ds) := by
  unfold sbv
  rw [List.take_left' (List.length_map ..), List.drop_append, List.drop_of_length_le (by rw [List.length_map]; omega), List.nil_append, List.length_map, Nat.add_sub_cancel_left, List.drop_replicate, List.map_append, List.length_append, Nat.sub_sub]
theorem sbs {cs : List Int32} (h : cs.length ≤ 15) : (sbv cs).set cs.length (.int (10 : Int32)) = sbv (cs ++ [(10 : Int32)]) := by
  unfold sbv
  rw [List.set_append_right _ _ (by rw [List.length_map]; exact Nat.le_refl _), List.length_map, Nat.sub_self, show 16 - cs.length = (16 - (cs ++ [(10 : Int32)]).length) + 1 from by rw [List.length_append]; simp only [List.length_cons, List.length_nil]; omega, List.replicate_succ, List.set_cons_zero, List.map_append, List.append_assoc]
  rfl
def SBo (sb vb : Addr) (vs : List Int32) : List Ent := [oSB sb (.ref vb) (.int (0 : Int32)) (.int (Int32.ofNat vs.length)), (vb, .inr (.byte, "[B", sbv vs))]
theorem sb_exa {g : GG} {sb vb : Addr} {vs : List Int32} {H : List Ent} {Lt : List SE} : Al g (SBo sb vb vs ++ H) Lt fun h => Exa g.Z h sb sn5 := fE (i := 0) rfl

/-! the plain law -/
abbrev b1 (b : Int32) : Int32 := ((192 : Int32) ||| ((b &&& (255 : Int32)) >>> ((6 : Int32) &&& 31))).toInt8.toInt32
abbrev b2 (b : Int32) : Int32 := ((128 : Int32) ||| (b &&& (63 : Int32))).toInt8.toInt32
def u8 (b : Int32) : List Int32 := if b < 0 then [b1 b, b2 b] else [b]
def u8L (cs : List Int32) : List Int32 := cs.flatMap u8
theorem u8n {b : Int32} (h : b < 0) : u8 b = [b1 b, b2 b] := if_pos h
theorem u8p {b : Int32} (h : ¬ b < 0) : u8 b = [b] := if_neg h
theorem u8len (b : Int32) : (u8 b).length ≤ 2 := by unfold u8; split <;> simp
theorem u8L_app (a b : List Int32) : u8L (a ++ b) = u8L a ++ u8L b := List.flatMap_append
theorem u8L_one (b : Int32) : u8L [b] = u8 b := by unfold u8L; simp
theorem u8L_len : ∀ (cs : List Int32), (u8L cs).length ≤ 2 * cs.length
  | [] => by unfold u8L; simp
  | b :: t => by
    have h1 := u8L_len t
    have h2 := u8len b
    rw [show b :: t = [b] ++ t from rfl, u8L_app, u8L_one, List.length_append, List.length_append, List.length_singleton]
    omega
theorem u8L_lt : ∀ {cs : List Int32}, (∃ b ∈ cs, ¬ b < 0) → (u8L cs).length < 2 * cs.length
  | [], ⟨b, hb, _⟩ => absurd hb List.not_mem_nil
  | b :: t, ⟨x, hx, hp⟩ => by
    have h1 := u8L_len t
    have h2 := u8len b
    rw [show b :: t = [b] ++ t from rfl, u8L_app, u8L_one, List.length_append, List.length_append, List.length_singleton]
    rcases List.mem_cons.mp hx with rfl | hx
    · rw [u8p hp, List.length_singleton]; omega
    · have h3 := u8L_lt ⟨x, hx, hp⟩
      omega
theorem u8L_id : ∀ {cs : List Int32}, (∀ b ∈ cs, ¬ b < 0) → u8L cs = cs
  | [], _ => rfl
  | b :: t, h => by
    rw [show b :: t = [b] ++ t from rfl, u8L_app, u8L_one, u8p (h b (List.mem_cons_self ..)), u8L_id fun x hx => h x (List.mem_cons_of_mem _ hx)]
/-- the target's bytes when i are done -/
def dv (cs : List Int32) (i : Nat) : List Value := (u8L (cs.take i)).map Value.int ++ List.replicate (2 * cs.length - (u8L (cs.take i)).length) (Value.int 0)
abbrev dl (cs : List Int32) (i : Nat) : Nat := (u8L (cs.take i)).length
theorem dl_le (cs : List Int32) (i : Nat) (h : i ≤ cs.length) : dl cs i ≤ 2 * i := by
  have q := u8L_len (cs.take i)
  rw [List.length_take, Nat.min_eq_left h] at q
  exact q
theorem dv_len (cs : List Int32) (i : Nat) (h : i ≤ cs.length) : (dv cs i).length = 2 * cs.length := by
  have q : (u8L (cs.take i)).length ≤ 2 * i := dl_le cs i h
  unfold dv; rw [List.length_append, List.length_map, List.length_replicate]; omega
theorem dv0 (cs : List Int32) : dv cs 0 = List.replicate (2 * cs.length) (Value.int 0) := by
  unfold dv u8L; simp
theorem tk1 {cs : List Int32} {i : Nat} {y : Int32} (h : cs[i]? = some y) : u8L (cs.take (i + 1)) = u8L (cs.take i) ++ u8 y := by
  rw [List.take_add_one, h, u8L_app]; show _ ++ u8L [y] = _; rw [u8L_one]
theorem dv1 {cs : List Int32} {i : Nat} {y : Int32} (h : cs[i]? = some y) (hp : ¬ y < 0) : (dv cs i).set (dl cs i) (.int y) = dv cs (i + 1) := by
  have hi := (List.getElem?_eq_some_iff.mp h).1
  have q : (u8L (cs.take i)).length ≤ 2 * i := dl_le cs i (by omega)
  unfold dv
  rw [tk1 h, u8p hp, List.set_append_right _ _ (by rw [List.length_map]; exact Nat.le_refl _), List.length_map, Nat.sub_self, show 2 * cs.length - (u8L (cs.take i)).length = (2 * cs.length - (u8L (cs.take i) ++ [y]).length) + 1 from by rw [List.length_append, List.length_singleton]; omega, List.replicate_succ, List.set_cons_zero, List.map_append, List.append_assoc]
  rfl
theorem dv2 {cs : List Int32} {i : Nat} {y : Int32} (h : cs[i]? = some y) (hp : y < 0) : ((dv cs i).set (dl cs i) (.int (b1 y))).set (dl cs i + 1) (.int (b2 y)) = dv cs (i + 1) := by
  have hi := (List.getElem?_eq_some_iff.mp h).1
  have q := dl_le cs i (by omega)
  unfold dv
  rw [tk1 h, u8n hp, List.set_append_right _ _ (by rw [List.length_map]; exact Nat.le_refl _), List.length_map, Nat.sub_self, show 2 * cs.length - (u8L (cs.take i)).length = (2 * cs.length - (u8L (cs.take i) ++ [b1 y, b2 y]).length) + 1 + 1 from by rw [List.length_append]; show 2 * cs.length - dl cs i = (2 * cs.length - (dl cs i + 2)) + 1 + 1; omega, List.replicate_succ, List.set_cons_zero, List.set_append_right _ _ (by rw [List.length_map]; exact Nat.le_succ _), List.length_map, Nat.add_sub_cancel_left, List.set_cons_succ, List.replicate_succ, List.set_cons_zero, List.map_append, List.append_assoc]
  rfl

theorem tka {cs : List Int32} {i : Nat} {y : Int32} (ht : ∀ x ∈ cs.take i, ¬ x < 0) (ey : cs[i]? = some y) (hy : ¬ y < 0) : ∀ x ∈ cs.take (i + 1), ¬ x < 0 := by
  rw [List.take_add_one, ey]
  intro x hx
  rcases List.mem_append.mp hx with hx | hx
  · exact ht x hx
  · rw [show x = y from by simpa using hx]; exact hy
theorem shl1 : ∀ n : Fin 16, Int32.ofNat n.val <<< ((1 : Int32) &&& 31) = Int32.ofNat (2 * n.val) := by decide +kernel
theorem shl1' {n : Nat} (h : n ≤ 15) : Int32.ofNat n <<< ((1 : Int32) &&& 31) = Int32.ofNat (2 * n) := shl1 ⟨n, by omega⟩
theorem ltBig {n : Nat} (h : n ≤ 15) : Int32.ofNat n < (1073741823 : Int32) := by
  rw [Int32.lt_iff_toInt_lt, Int32.toInt_ofNat_small (by omega), show (1073741823 : Int32).toInt = 1073741823 from rfl]; omega
theorem cpt {vs : List Value} {k : Nat} (h : k ≤ vs.length) : ((vs.drop 0).take k) = vs.take k := by rw [List.drop_zero]
theorem cpu {us : List Value} {k : Nat} (h : us.length = k) : (List.replicate k (Value.int 0)).take 0 ++ us ++ (List.replicate k (Value.int 0)).drop (0 + k) = us := by
  rw [Nat.zero_add, List.take_zero, List.nil_append, List.drop_of_length_le (by rw [List.length_replicate]; exact Nat.le_refl _), List.append_nil]
/-- what the law expects -/
abbrev ex1 (c : Int32) : Int32 := (192 : Int32) ||| (c >>> ((6 : Int32) &&& 31))
abbrev ex2 (c : Int32) : Int32 := (128 : Int32) ||| (c &&& (63 : Int32))
def e8 (c : Int32) : List Int32 := if c < 128 then [c] else [ex1 c, ex2 c]
def pl (l c0 c1 : Int32) : List Int32 := (if l < 1 then [] else e8 c0) ++ (if l < 2 then [] else e8 c1)
abbrev by_ (c : Int32) : Int32 := c.toInt8.toInt32
def stB (l c0 c1 : Int32) : List Int32 := if l = 0 then [] else if l = 1 then [by_ c0] else [by_ c0, by_ c1]
abbrev lo (b : Int32) : Int32 := b &&& (255 : Int32)
def exv (enc : List Int32) : List Value := enc.map Value.int ++ List.replicate (11 - enc.length) (Value.int (-1 : Int32))
theorem exl {enc : List Int32} (h : enc.length ≤ 11) : (exv enc).length = 11 := by
  unfold exv; rw [List.length_append, List.length_map, List.length_replicate]; omega
theorem exs {enc : List Int32} {c : Int32} (h : enc.length ≤ 10) : (exv enc).set enc.length (.int c) = exv (enc ++ [c]) := by
  unfold exv
  rw [List.set_append_right _ _ (by rw [List.length_map]; exact Nat.le_refl _), List.length_map, Nat.sub_self, show 11 - enc.length = (11 - (enc ++ [c]).length) + 1 from by rw [List.length_append, List.length_singleton]; omega, List.replicate_succ, List.set_cons_zero, List.map_append, List.append_assoc]
  rfl
theorem exg {enc : List Int32} {i : Nat} {x : Int32} (h : enc[i]? = some x) : (exv enc)[i]? = some (.int x) := by
  have hi := (List.getElem?_eq_some_iff.mp h).1
  unfold exv; rw [List.getElem?_append_left (by rw [List.length_map]; exact hi), List.getElem?_map, h]; rfl
theorem exn {enc : List Int32} {i : Nat} (h : enc.length ≤ i) (hi : i < 11) : (exv enc)[i]? = some (.int (-1 : Int32)) := by
  unfold exv; rw [List.getElem?_append_right (by rw [List.length_map]; exact h), List.length_map, List.getElem?_replicate, if_pos (by omega)]
theorem lenS {enc : List Int32} {c : Int32} : Int32.ofNat enc.length + (1 : Int32) = Int32.ofNat (enc ++ [c]).length := by rw [sucN, List.length_append]; rfl
theorem addN1 (n : Nat) : Int32.ofNat n + (2 : Int32) = Int32.ofNat (n + 2) := by rw [Int32.ofNat_add]; rfl
theorem e8lo : ∀ n : Fin 256, (u8 (by_ (Int32.ofNat n.val))).map lo = e8 (Int32.ofNat n.val) := by decide +kernel
theorem ge0 (x : Int32) : 0 ≤ ((x &&& (255 : Int32)).toUInt32.toUInt16.toUInt32.toInt32).toInt := by
  rw [i2c_mask]
  have h := c_mask x 255 8 (by decide) rfl
  rw [h]
  simp only [Nat.reducePow, Int.cast_ofNat_Int]
  omega
theorem chN {c : Int32} (h1 : ¬ (255 : Int32) < c) (h0 : 0 ≤ c.toInt) : ∃ n : Fin 256, c = Int32.ofNat n.val := by
  have a : ¬ (255 : Int32).toInt < c.toInt := fun q => h1 (Int32.lt_iff_toInt_lt.mpr q)
  rw [show (255 : Int32).toInt = 255 from rfl] at a
  refine ⟨⟨c.toInt.toNat, by omega⟩, ?_⟩
  rw [← Int32.toInt_inj, Int32.toInt_ofNat_small (by show c.toInt.toNat < _; omega)]
  show c.toInt = (c.toInt.toNat : Int)
  omega
theorem e8c {c : Int32} (h1 : ¬ (255 : Int32) < c) (h0 : 0 ≤ c.toInt) : (u8 (by_ c)).map lo = e8 c := by
  obtain ⟨n, rfl⟩ := chN h1 h0
  exact e8lo n
theorem e8len (c : Int32) : (e8 c).length ≤ 2 := by unfold e8; split <;> simp
theorem pllen (l c0 c1 : Int32) : (pl l c0 c1).length ≤ 4 := by
  have a := e8len c0
  have b := e8len c1
  unfold pl; rw [List.length_append]; split <;> split <;> (try simp only [List.length_nil]) <;> omega
theorem stlen (l c0 c1 : Int32) : (stB l c0 c1).length ≤ 2 := by unfold stB; split <;> (try split) <;> simp
theorem stby (l c0 c1 : Int32) : ∀ x ∈ stB l c0 c1, x.toInt8.toInt32 = x := by
  have q : ∀ c : Int32, (by_ c).toInt8.toInt32 = by_ c := fun c => by_by c
  unfold stB
  split
  · exact nofun
  · split
    · exact List.forall_mem_cons.2 ⟨q _, nofun⟩
    · exact List.forall_mem_cons.2 ⟨q _, List.forall_mem_cons.2 ⟨q _, nofun⟩⟩
theorem stpl {l c0 c1 : Int32} (hl : l = 0 ∨ l = 1 ∨ l = 2) (h1 : ¬ (255 : Int32) < c0) (h2 : 0 ≤ c0.toInt) (h3 : ¬ (255 : Int32) < c1) (h4 : 0 ≤ c1.toInt) : (u8L (stB l c0 c1)).map lo = pl l c0 c1 := by
  rcases hl with rfl | rfl | rfl
  · rfl
  · show (u8L [by_ c0]).map lo = e8 c0 ++ []
    rw [u8L_one, e8c h1 h2, List.append_nil]
  · show (u8L ([by_ c0] ++ [by_ c1])).map lo = e8 c0 ++ e8 c1
    rw [u8L_app, u8L_one, u8L_one, List.map_append, e8c h1 h2, e8c h3 h4]
theorem lt12 {n : Int32} (h : n < 1) : n < 2 := by
  rw [Int32.lt_iff_toInt_lt] at *
  rw [show (1 : Int32).toInt = 1 from rfl] at h
  rw [show (2 : Int32).toInt = 2 from rfl]
  omega
theorem ten : (u8L [(10 : Int32)]).map lo = [(10 : Int32)] := by decide +kernel
theorem rem3 (x : Int32) : (x &&& (3 : Int32)) % (3 : Int32) = 0 ∨ (x &&& (3 : Int32)) % (3 : Int32) = 1 ∨ (x &&& (3 : Int32)) % (3 : Int32) = 2 := by
  have a := c_mask x 3 2 (by decide) rfl
  simp only [Nat.reducePow, Int.cast_ofNat_Int] at a
  have b : x &&& (3 : Int32) = 0 ∨ x &&& (3 : Int32) = 1 ∨ x &&& (3 : Int32) = 2 ∨ x &&& (3 : Int32) = 3 := by
    simp only [← Int32.toInt_inj, show (0 : Int32).toInt = 0 from rfl, show (1 : Int32).toInt = 1 from rfl, show (2 : Int32).toInt = 2 from rfl, show (3 : Int32).toInt = 3 from rfl]
    omega
  rcases b with b | b | b | b <;> rw [b] <;> decide

abbrev D35_w := E35 0 0 0 0
theorem c_cd {g : GG} (W : GW g) (a : Addr) (H : List Ent) (Lt : List SE) {b : Addr} {vs : List Value} (m1 : (a, b, 0, vs) ∈ Lt) : Ct g D35_w #[(.ref a)] H Lt (fun v vm h => v = some (.int (0 : Int32)) ∧ Hp g vm h H Lt) := by
  refine CtW.body (Ls := #[.val (.ref a)]) W (by decide +kernel) (efr rfl) ?_
  intro M T B
  replace B : RH g D35_w M T (H) Lt 0 0 := B
  obtain ⟨cz1, hcz1, gcz1⟩ := compact W
  refine r_gets B d35_0 rfl (host := "") (Or.inl (W234 B.gw)) Via.refl (v := (.int cz1)) hcz1 fun T2 B3 => ?_
  refine b_ifF B3 d35_3 (pc' := 6) rfl gcz1 ?_
  refine p_aloadN B3 d35_6 rfl rfl rfl ?_
  refine r_get B3 d35_7 rfl (host := "") (Or.inl (W202 B3.gw)) Via.refl (v := (.int 0)) (sC m1) fun T4 B5 => ?_
  refine b_goto B5 d35_10 (pc' := 14) (by decide) (by decide) ?_
  exact r_reti B5 d35_14 rfl (by simp) rfl (by decide) (by decide) (fun vm h P => ⟨rfl, P⟩)
abbrev D58_w := E58 1 0 0 13
theorem c_len {g : GG} (W : GW g) (a : Addr) (H : List Ent) (Lt : List SE) {b : Addr} {vs : List Value} (m1 : (a, b, 0, vs) ∈ Lt) : Ct g D58_w #[(.ref a)] H Lt (fun v vm h => v = some (.int (Int32.ofNat vs.length)) ∧ Hp g vm h H Lt) := by
  refine CtW.body (Ls := #[.val (.ref a)]) W (by decide +kernel) (efr rfl) ?_
  intro M T B
  replace B : RH g D58_w M T (H) Lt 0 0 := B
  refine p_aloadN B d58_0 rfl rfl rfl ?_
  refine r_get B d58_1 rfl (host := "") (Or.inl (W221 B.gw)) Via.refl (v := (.ref b)) (sV m1) fun T1 B2 => ?_
  refine r_alen B2 d58_4 rfl (sA m1) (z := (Int32.ofNat vs.length)) rfl ?_
  refine p_aloadN B2 d58_5 rfl rfl rfl ?_
  refine r_virtual (D' := D35_w) B2 d58_6 rfl (W229 B2.gw) (W230 B2.gw) (W232 B2.gw) (fun vm0 hZ => notFace_of_selects (args := #[]) (mvT hZ (W232 B2.gw))) (W231 B2.gw) (W5 B2.gw) (W233 B2.gw) (by decide) (sE m1) (c_cd W a _ _ m1) (argsL := []) (rest := [(.int (Int32.ofNat vs.length))]) rfl pd7 rfl rfl rfl (W := 1) rfl (cs' := 0) (ss' := 0) (by decide) (Kv1 fun T3 B5 => ?_)
  refine p_ishr B5 d58_9 rfl (z := (Int32.ofNat vs.length)) (shr0 _) ?_
  exact r_reti B5 d58_10 rfl (by simp) rfl (by decide) (by decide) (fun vm h P => ⟨rfl, P⟩)
abbrev D4_q3 := E4 1 0 0 12
theorem k_q3 {g : GG} (W : GW g) (x0 : Addr) (H : List Ent) (Lt : List SE) : Ct g D4_q3 #[(.ref x0)] (H) Lt (fun v vm h => v = none ∧ Hp g vm h (H) (Lt)) := by
  refine CtW.body (Ls := #[.val (.ref x0)]) W (by decide +kernel) (efr rfl) ?_
  intro M T B
  refine p_aloadN B d4_0 rfl rfl rfl ?_
  refine r_initO B d4_1 rfl (W30 B.gw) (W31 B.gw) (W32 B.gw) rfl (by decide) (W := 0) rfl (by decide) fun T1 B2 => ?_
  exact r_ret B2 d4_4 rfl (by decide) (by decide) (fun vm h P => ⟨rfl, P⟩)
abbrev D3_q1 := E3 2 0 0 24
theorem k_q1 {g : GG} (W : GW g) (x0 : Addr) (H : List Ent) (Lt : List SE) : Ct g D3_q1 #[(.ref x0)] (oAL x0 (.int 0) .null (.int 0) :: H) Lt (fun v vm h => v = none ∧ Hp g vm h (oAL x0 (.int 0) .null (.int 0) :: H) (Lt)) := by
  refine CtW.body (Ls := #[.val (.ref x0)]) W (by decide +kernel) (efr rfl) ?_
  intro M T B
  refine p_aloadN B d3_0 rfl rfl rfl ?_
  refine r_special (D' := D4_q3) B d3_1 rfl rfl rfl (W24 B.gw) (W25 B.gw) (W28 B.gw) (W29 B.gw) (by decide) (k_q3 W x0 _ _) (a := x0) (argsL := []) (rest := []) rfl pd8 rfl rfl rfl (W := 0) rfl (cs' := 0) (ss' := 0) (by decide) (Kv0 fun T1 B3 => ?_)
  refine p_aloadN B3 d3_4 rfl rfl rfl ?_
  refine p_iconst B3 d3_5 rfl (v := (0 : Int32)) (by decide) ?_
  refine r_put B3 d3_6 rfl (host := "") (Or.inl (W33 B3.gw)) Via.refl (i := 0) (j := 0) rfl rfl (Or.inl (W34 B3.gw)) (W13 B3.gw) (ty := .int) (by decide) rfl rfl (H' := (oAL x0 (.int 0) .null (.int 0) :: H)) rfl fun T4 B5 => ?_
  exact r_ret B5 d3_9 rfl (by decide) (by decide) (fun vm h P => ⟨rfl, P⟩)
abbrev D2_w := E2 3 0 0 36
theorem c_ai {g : GG} (W : GW g) (a : Addr) (H : List Ent) (Lt : List SE) : Ct g D2_w #[(.ref a)] (oAL a (.int (0 : Int32)) .null (.int (0 : Int32)) :: H) Lt (fun v vm h => v = none ∧ Hp g vm h (AL g a a [] ++ H) Lt) := by
  refine CtW.body (Ls := #[.val (.ref a)]) W (by decide +kernel) (efr rfl) ?_
  intro M T B
  replace B : RH g D2_w M T (oAL a (.int 0) .null (.int 0) :: H) Lt 0 0 := B
  refine p_aloadN B d2_0 rfl rfl rfl ?_
  refine r_special (D' := D3_q1) B d2_1 rfl rfl rfl (W18 B.gw) (W19 B.gw) (W22 B.gw) (W23 B.gw) (by decide) (k_q1 W a _ _) (a := a) (argsL := []) (rest := []) rfl pd8 rfl rfl rfl (W := 0) rfl (cs' := 0) (ss' := 0) (by decide) (Kv0 fun T1 B3 => ?_)
  refine p_aloadN B3 d2_4 rfl rfl rfl ?_
  refine r_gets B3 d2_5 rfl (host := "") (Or.inl (W35 B3.gw)) Via.refl (v := (.ref (dcOf g))) (dc_sta W) fun T4 B5 => ?_
  refine r_put B5 d2_8 rfl (host := "") (Or.inl (W36 B5.gw)) Via.refl (i := 0) (j := 1) rfl rfl (Or.inl (W37 B5.gw)) (W13 B5.gw) (ty := (.array (.object "java/lang/Object"))) (by decide) rfl rfl (H' := (oAL a (.int 0) (.ref (dcOf g)) (.int 0) :: H)) rfl fun T6 B7 => ?_
  exact r_ret B7 d2_11 rfl (by decide) (by decide) (fun vm h P => ⟨rfl, P⟩)
abbrev D45_q7 := E45 0 0 0 0
theorem k_q7 {g : GG} (W : GW g) (H : List Ent) (Lt : List SE) : Ct g D45_q7 #[(.int 10), (.int 1)] (H) Lt (fun v vm h => v = some (.int 10) ∧ Hp g vm h (H) (Lt)) := by
  refine CtW.body (Ls := #[.val (.int 10), .val (.int 1)]) W (Jvm.Free.JP.mathPlain rfl (by decide +kernel)) (efr rfl) ?_
  intro M T B
  refine p_iloadN B d45_0 rfl rfl ?_
  refine p_iloadN B d45_1 rfl rfl ?_
  refine b_icF B d45_2 (pc' := 5) rfl (show ¬ (10 : Int32) < (1 : Int32) from by decide) ?_
  refine p_iloadN B d45_5 rfl rfl ?_
  refine b_goto B d45_6 (pc' := 10) (by decide) (by decide) ?_
  exact r_reti B d45_10 rfl (by simp) rfl (by decide) (by decide) (fun vm h P => ⟨rfl, P⟩)
abbrev D44_q6 := E44 1 1 10 14
theorem k_q6 {g : GG} (W : GW g) (x0 : Addr) (H : List Ent) (Lt : List SE) : Ct g D44_q6 #[(.ref x0), (.int 1)] (oAL x0 (.int 1) (.ref (dcOf g)) (.int 0) :: H) Lt (fun v vm h => ∃ a15, v = some (.ref a15) ∧ Hp g vm h ((a15, .inr ((.object "java/lang/Object"), "[Ljava/lang/Object;", [.null, .null, .null, .null, .null, .null, .null, .null, .null, .null])) :: oAL x0 (.int 1) (.ref a15) (.int 0) :: H) (Lt)) := by
  refine CtW.body (Ls := #[.val (.ref x0), .val (.int 1), .unset, .unset]) W (by decide +kernel) (efr rfl) ?_
  intro M T B
  refine p_aloadN B d44_0 rfl rfl rfl ?_
  refine r_get B d44_1 rfl (host := "") (Or.inl (W36 B.gw)) Via.refl (v := (.ref (dcOf g))) (fO (i := 0) (j := 1) rfl rfl) fun T1 B2 => ?_
  obtain ⟨oc3, oA4, oz5⟩ := dc_arr W
  refine r_alenO B2 d44_4 rfl oA4 oz5 ?_
  refine p_istoreN B2 d44_5 rfl (Ls' := #[.val (.ref x0), .val (.int 1), .val (.int 0), .unset]) rfl ?_
  refine p_iloadN B2 d44_6 rfl rfl ?_
  refine b_ifF B2 d44_7 (pc' := 10) rfl (show ¬ (0 : Int32) < (0 : Int32) from by decide) ?_
  refine p_aloadN B2 d44_10 rfl rfl rfl ?_
  refine r_get B2 d44_11 rfl (host := "") (Or.inl (W36 B2.gw)) Via.refl (v := (.ref (dcOf g))) (fO (i := 0) (j := 1) rfl rfl) fun T6 B7 => ?_
  refine r_gets B7 d44_14 rfl (host := "") (Or.inl (W35 B7.gw)) Via.refl (v := (.ref (dcOf g))) (dc_sta W) fun T8 B9 => ?_
  refine b_aeT B9 d44_17 (pc' := 45) rfl rfl rfl (by decide) (by decide) ?_
  refine p_aloadN B9 d44_45 rfl rfl rfl ?_
  refine p_bipush B9 d44_46 rfl (v := (10 : Int32)) (by decide) ?_
  refine p_iloadN B9 d44_48 rfl rfl ?_
  refine r_static (D' := D45_q7) B9 d44_49 rfl (W285 B9.gw) (W286 B9.gw) (W215 B9.gw) (W287 B9.gw) (by decide) (k_q7 W _ _) (argsL := [(.int 10), (.int 1)]) (rest := [(.ref x0)]) rfl pd9 rfl rfl rfl (W := 1) rfl (cs' := 0) (ss' := 0) (by decide) (Kv1 fun T10 B12 => ?_)
  refine r_newr B12 d44_52 rfl (W288 B12.gw) (W289 B12.gw) (by decide) (nn := 10) (by decide) (cap := 10) (by decide) (by decide) (cs' := 1) rfl (ss' := 10) rfl (by decide) (by decide) (ad := "[Ljava/lang/Object;") (by decide) (vs := [.null, .null, .null, .null, .null, .null, .null, .null, .null, .null]) rfl fun T13 a15 B14 => ?_
  refine p_dupx1 B14 d44_55 rfl rfl rfl ?_
  refine r_put B14 d44_56 rfl (host := "") (Or.inl (W36 B14.gw)) Via.refl (i := 1) (j := 1) rfl rfl (Or.inl (W37 B14.gw)) (W13 B14.gw) (ty := (.array (.object "java/lang/Object"))) (by decide) rfl rfl (H' := ((a15, .inr ((.object "java/lang/Object"), "[Ljava/lang/Object;", [.null, .null, .null, .null, .null, .null, .null, .null, .null, .null])) :: oAL x0 (.int 1) (.ref a15) (.int 0) :: H)) rfl fun T16 B17 => ?_
  exact r_reta B17 d44_59 rfl rfl rfl (by decide) (by decide) (fun vm h P => ⟨a15, rfl, P⟩)
abbrev D43_q5 := E43 2 1 10 29
theorem k_q5 {g : GG} (W : GW g) (x0 : Addr) (H : List Ent) (Lt : List SE) : Ct g D43_q5 #[(.ref x0)] (oAL x0 (.int 1) (.ref (dcOf g)) (.int 0) :: H) Lt (fun v vm h => ∃ a6, v = some (.ref a6) ∧ Hp g vm h ((a6, .inr ((.object "java/lang/Object"), "[Ljava/lang/Object;", [.null, .null, .null, .null, .null, .null, .null, .null, .null, .null])) :: oAL x0 (.int 1) (.ref a6) (.int 0) :: H) (Lt)) := by
  refine CtW.body (Ls := #[.val (.ref x0)]) W (by decide +kernel) (efr rfl) ?_
  intro M T B
  refine p_aloadN B d43_0 rfl rfl rfl ?_
  refine p_aloadN B d43_1 rfl rfl rfl ?_
  refine r_get B d43_2 rfl (host := "") (Or.inl (W73 B.gw)) Via.refl (v := (.int 0)) (fO (i := 0) (j := 2) rfl rfl) fun T1 B2 => ?_
  refine p_iconst B2 d43_5 rfl (v := (1 : Int32)) (by decide) ?_
  refine p_iadd B2 d43_6 rfl (z := (1 : Int32)) (by decide) ?_
  refine r_private (D' := D44_q6) B2 d43_7 rfl (W280 B2.gw) (W282 B2.gw) (W13 B2.gw) (W281 B2.gw) (W14 B2.gw) (W284 B2.gw) (by decide) (fE (i := 0) rfl) (k_q6 W x0 _ _) (argsL := [(.int 1)]) (rest := []) rfl pd10 rfl rfl rfl (W := 0) rfl (cs' := 1) (ss' := 10) (by decide) (Kex fun a6 => Kv1 fun T3 B5 => ?_)
  exact r_reta B5 d43_10 rfl rfl rfl (by decide) (by decide) (fun vm h P => ⟨a6, rfl, P⟩)
abbrev D42_q4 := E42 3 1 10 41
theorem k_q4 {g : GG} (W : GW g) (x0 x1 : Addr) (H : List Ent) (Lt : List SE) (ms0 : StrIn Lt x1) : Ct g D42_q4 #[(.ref x0), (.ref x1), (.ref (dcOf g)), (.int 0)] (oAL x0 (.int 1) (.ref (dcOf g)) (.int 0) :: H) Lt (fun v vm h => ∃ a7, v = none ∧ Hp g vm h ((a7, .inr ((.object "java/lang/Object"), "[Ljava/lang/Object;", [(.ref x1), .null, .null, .null, .null, .null, .null, .null, .null, .null])) :: oAL x0 (.int 1) (.ref a7) (.int 1) :: H) (Lt)) := by
  refine CtW.body (Ls := #[.val (.ref x0), .val (.ref x1), .val (.ref (dcOf g)), .val (.int 0)]) W (by decide +kernel) (efr rfl) ?_
  intro M T B
  refine p_iloadN B d42_0 rfl rfl ?_
  refine p_aloadN B d42_1 rfl rfl rfl ?_
  obtain ⟨oc1, oA2, oz3⟩ := dc_arr W
  refine r_alenO B d42_2 rfl oA2 oz3 ?_
  refine b_icF B d42_3 (pc' := 6) rfl (show (0 : Int32) = (0 : Int32) from by decide) ?_
  refine p_aloadN B d42_6 rfl rfl rfl ?_
  refine r_private (D' := D43_q5) B d42_7 rfl (W275 B.gw) (W277 B.gw) (W13 B.gw) (W276 B.gw) (W14 B.gw) (W279 B.gw) (by decide) (fE (i := 0) rfl) (k_q5 W x0 _ _) (argsL := []) (rest := []) rfl pd11 rfl rfl rfl (W := 0) rfl (cs' := 1) (ss' := 10) (by decide) (Kex fun a7 => Kv1 fun T4 B6 => ?_)
  refine p_astoreN B6 d42_10 rfl rfl (Ls' := #[.val (.ref x0), .val (.ref x1), .val (.ref a7), .val (.int 0)]) rfl ?_
  refine p_aloadN B6 d42_11 rfl rfl rfl ?_
  refine p_iloadN B6 d42_12 rfl rfl ?_
  refine p_aloadN B6 d42_13 rfl rfl rfl ?_
  refine r_aastore B6 d42_14 rfl (i := 0) rfl (by decide) (k := 0) (by decide) (by simp) (Or.inr ⟨_, rfl, (fun vm h E P => Ins.of_exa ((sI ms0) vm h E P) (W290 B6.gw))⟩) (H' := ((a7, .inr ((.object "java/lang/Object"), "[Ljava/lang/Object;", [(.ref x1), .null, .null, .null, .null, .null, .null, .null, .null, .null])) :: oAL x0 (.int 1) (.ref a7) (.int 0) :: H)) rfl fun T8 B9 => ?_
  refine p_aloadN B9 d42_15 rfl rfl rfl ?_
  refine p_iloadN B9 d42_16 rfl rfl ?_
  refine p_iconst B9 d42_17 rfl (v := (1 : Int32)) (by decide) ?_
  refine p_iadd B9 d42_18 rfl (z := (1 : Int32)) (by decide) ?_
  refine r_put B9 d42_19 rfl (host := "") (Or.inl (W73 B9.gw)) Via.refl (i := 1) (j := 2) rfl rfl (Or.inl (W74 B9.gw)) (W13 B9.gw) (ty := .int) (by decide) rfl rfl (H' := ((a7, .inr ((.object "java/lang/Object"), "[Ljava/lang/Object;", [(.ref x1), .null, .null, .null, .null, .null, .null, .null, .null, .null])) :: oAL x0 (.int 1) (.ref a7) (.int 1) :: H)) rfl fun T10 B11 => ?_
  exact r_ret B11 d42_22 rfl (by decide) (by decide) (fun vm h P => ⟨a7, rfl, P⟩)
abbrev D41_w := E41 4 1 10 56
theorem c_add0 {g : GG} (W : GW g) (a b x : Addr) (H : List Ent) (Lt : List SE) (ms0 : StrIn Lt x) : Ct g D41_w #[(.ref a), (.ref x)] (AL g a b [] ++ H) Lt (fun v vm h => ∃ b', v = some (.int (1 : Int32)) ∧ Hp g vm h (AL g a b' [x] ++ H) Lt) := by
  refine CtW.body (Ls := #[.val (.ref a), .val (.ref x)]) W (by decide +kernel) (efr rfl) ?_
  intro M T B
  replace B : RH g D41_w M T (oAL a (.int 0) (.ref (dcOf g)) (.int 0) :: H) Lt 0 0 := B
  refine p_aloadN B d41_0 rfl rfl rfl ?_
  refine p_dup B d41_1 rfl rfl ?_
  refine r_get B d41_2 rfl (host := "") (Or.inl (W268 B.gw)) (Via.of (W269 B.gw)) (v := (.int 0)) (fO (i := 0) (j := 0) rfl rfl) fun T1 B2 => ?_
  refine p_iconst B2 d41_5 rfl (v := (1 : Int32)) (by decide) ?_
  refine p_iadd B2 d41_6 rfl (z := (1 : Int32)) (by decide) ?_
  refine r_put B2 d41_7 rfl (host := "") (Or.inl (W268 B2.gw)) (Via.of (W269 B2.gw)) (i := 0) (j := 0) rfl rfl (Or.inl (W34 B2.gw)) (W13 B2.gw) (ty := .int) (by decide) rfl rfl (H' := (oAL a (.int 1) (.ref (dcOf g)) (.int 0) :: H)) rfl fun T3 B4 => ?_
  refine p_aloadN B4 d41_10 rfl rfl rfl ?_
  refine p_aloadN B4 d41_11 rfl rfl rfl ?_
  refine p_aloadN B4 d41_12 rfl rfl rfl ?_
  refine r_get B4 d41_13 rfl (host := "") (Or.inl (W36 B4.gw)) Via.refl (v := (.ref (dcOf g))) (fO (i := 0) (j := 1) rfl rfl) fun T5 B6 => ?_
  refine p_aloadN B6 d41_16 rfl rfl rfl ?_
  refine r_get B6 d41_17 rfl (host := "") (Or.inl (W73 B6.gw)) Via.refl (v := (.int 0)) (fO (i := 0) (j := 2) rfl rfl) fun T7 B8 => ?_
  refine r_private (D' := D42_q4) B8 d41_20 rfl (W270 B8.gw) (W272 B8.gw) (W13 B8.gw) (W271 B8.gw) (W14 B8.gw) (W274 B8.gw) (by decide) (fE (i := 0) rfl) (k_q4 W a x _ _ ms0) (argsL := [(.ref x), (.ref (dcOf g)), (.int 0)]) (rest := []) rfl pd12 rfl rfl rfl (W := 0) rfl (cs' := 1) (ss' := 10) (by decide) (Kex fun a12 => Kv0 fun T9 B11 => ?_)
  refine p_iconst B11 d41_23 rfl (v := (1 : Int32)) (by decide) ?_
  have B13 := (B11.fr 1 rfl)
  exact r_reti B13 d41_24 rfl (by simp) rfl (by decide) (by decide) (fun vm h P => ⟨a12, rfl, P⟩)
abbrev D42_q8 := E42 0 0 0 0
theorem k_q8 {g : GG} (W : GW g) (x0 x1 x2 x3 : Addr) (H : List Ent) (Lt : List SE) (ms0 : StrIn Lt x1) : Ct g D42_q8 #[(.ref x0), (.ref x1), (.ref x2), (.int 1)] (oAL x0 (.int 2) (.ref x2) (.int 1) :: (x2, .inr ((.object "java/lang/Object"), "[Ljava/lang/Object;", [(.ref x3), .null, .null, .null, .null, .null, .null, .null, .null, .null])) :: H) Lt (fun v vm h => v = none ∧ Hp g vm h (oAL x0 (.int 2) (.ref x2) (.int 2) :: (x2, .inr ((.object "java/lang/Object"), "[Ljava/lang/Object;", [(.ref x3), (.ref x1), .null, .null, .null, .null, .null, .null, .null, .null])) :: H) (Lt)) := by
  refine CtW.body (Ls := #[.val (.ref x0), .val (.ref x1), .val (.ref x2), .val (.int 1)]) W (by decide +kernel) (efr rfl) ?_
  intro M T B
  refine p_iloadN B d42_0 rfl rfl ?_
  refine p_aloadN B d42_1 rfl rfl rfl ?_
  refine r_alen B d42_2 rfl (aH (i := 1) rfl) (z := (10 : Int32)) rfl ?_
  refine b_icT B d42_3 (pc' := 11) (show ¬ (1 : Int32) = (10 : Int32) from by decide) (by decide) (by decide) ?_
  refine p_aloadN B d42_11 rfl rfl rfl ?_
  refine p_iloadN B d42_12 rfl rfl ?_
  refine p_aloadN B d42_13 rfl rfl rfl ?_
  refine r_aastore B d42_14 rfl (i := 1) rfl (by decide) (k := 1) (by decide) (by simp) (Or.inr ⟨_, rfl, (fun vm h E P => Ins.of_exa ((sI ms0) vm h E P) (W290 B.gw))⟩) (H' := (oAL x0 (.int 2) (.ref x2) (.int 1) :: (x2, .inr ((.object "java/lang/Object"), "[Ljava/lang/Object;", [(.ref x3), (.ref x1), .null, .null, .null, .null, .null, .null, .null, .null])) :: H)) rfl fun T1 B2 => ?_
  refine p_aloadN B2 d42_15 rfl rfl rfl ?_
  refine p_iloadN B2 d42_16 rfl rfl ?_
  refine p_iconst B2 d42_17 rfl (v := (1 : Int32)) (by decide) ?_
  refine p_iadd B2 d42_18 rfl (z := (2 : Int32)) (by decide) ?_
  refine r_put B2 d42_19 rfl (host := "") (Or.inl (W73 B2.gw)) Via.refl (i := 0) (j := 2) rfl rfl (Or.inl (W74 B2.gw)) (W13 B2.gw) (ty := .int) (by decide) rfl rfl (H' := (oAL x0 (.int 2) (.ref x2) (.int 2) :: (x2, .inr ((.object "java/lang/Object"), "[Ljava/lang/Object;", [(.ref x3), (.ref x1), .null, .null, .null, .null, .null, .null, .null, .null])) :: H)) rfl fun T3 B4 => ?_
  exact r_ret B4 d42_22 rfl (by decide) (by decide) (fun vm h P => ⟨rfl, P⟩)
theorem c_add1 {g : GG} (W : GW g) (a b x x0 : Addr) (H : List Ent) (Lt : List SE) (ms0 : StrIn Lt x) : Ct g D41_w #[(.ref a), (.ref x)] (AL g a b [x0] ++ H) Lt (fun v vm h => ∃ b', v = some (.int (1 : Int32)) ∧ Hp g vm h (AL g a b' [x0, x] ++ H) Lt) := by
  refine CtW.body (Ls := #[.val (.ref a), .val (.ref x)]) W (by decide +kernel) (efr rfl) ?_
  intro M T B
  replace B : RH g D41_w M T (oAL a (.int 1) (.ref b) (.int 1) :: (b, .inr ((.object "java/lang/Object"), "[Ljava/lang/Object;", [(.ref x0), .null, .null, .null, .null, .null, .null, .null, .null, .null])) :: H) Lt 0 0 := B
  refine p_aloadN B d41_0 rfl rfl rfl ?_
  refine p_dup B d41_1 rfl rfl ?_
  refine r_get B d41_2 rfl (host := "") (Or.inl (W268 B.gw)) (Via.of (W269 B.gw)) (v := (.int 1)) (fO (i := 0) (j := 0) rfl rfl) fun T1 B2 => ?_
  refine p_iconst B2 d41_5 rfl (v := (1 : Int32)) (by decide) ?_
  refine p_iadd B2 d41_6 rfl (z := (2 : Int32)) (by decide) ?_
  refine r_put B2 d41_7 rfl (host := "") (Or.inl (W268 B2.gw)) (Via.of (W269 B2.gw)) (i := 0) (j := 0) rfl rfl (Or.inl (W34 B2.gw)) (W13 B2.gw) (ty := .int) (by decide) rfl rfl (H' := (oAL a (.int 2) (.ref b) (.int 1) :: (b, .inr ((.object "java/lang/Object"), "[Ljava/lang/Object;", [(.ref x0), .null, .null, .null, .null, .null, .null, .null, .null, .null])) :: H)) rfl fun T3 B4 => ?_
  refine p_aloadN B4 d41_10 rfl rfl rfl ?_
  refine p_aloadN B4 d41_11 rfl rfl rfl ?_
  refine p_aloadN B4 d41_12 rfl rfl rfl ?_
  refine r_get B4 d41_13 rfl (host := "") (Or.inl (W36 B4.gw)) Via.refl (v := (.ref b)) (fO (i := 0) (j := 1) rfl rfl) fun T5 B6 => ?_
  refine p_aloadN B6 d41_16 rfl rfl rfl ?_
  refine r_get B6 d41_17 rfl (host := "") (Or.inl (W73 B6.gw)) Via.refl (v := (.int 1)) (fO (i := 0) (j := 2) rfl rfl) fun T7 B8 => ?_
  refine r_private (D' := D42_q8) B8 d41_20 rfl (W270 B8.gw) (W272 B8.gw) (W13 B8.gw) (W271 B8.gw) (W14 B8.gw) (W274 B8.gw) (by decide) (fE (i := 0) rfl) (k_q8 W a x b x0 _ _ ms0) (argsL := [(.ref x), (.ref b), (.int 1)]) (rest := []) rfl pd12 rfl rfl rfl (W := 0) rfl (cs' := 0) (ss' := 0) (by decide) (Kv0 fun T9 B11 => ?_)
  refine p_iconst B11 d41_23 rfl (v := (1 : Int32)) (by decide) ?_
  exact r_reti B11 d41_24 rfl (by simp) rfl (by decide) (by decide) (fun vm h P => ⟨b, rfl, P⟩)
theorem W_add {g : GG} (W : GW g) (a b x : Addr) (L : List Addr) (hl : L.length ≤ 1) (H : List Ent) (Lt : List SE) (ms : StrIn Lt x) : Ct g D41_w #[.ref a, .ref x] (AL g a b L ++ H) Lt (fun v vm h => ∃ b', v = some (.int (1 : Int32)) ∧ Hp g vm h (AL g a b' (L ++ [x]) ++ H) Lt) :=
  match L, hl with
  | [], _ => c_add0 W a b x  H Lt ms
  | [x0], _ => c_add1 W a b x x0 H Lt ms
  | _ :: _ :: _, h => absurd h (by simp only [List.length_cons]; omega)
abbrev D7_q10 := E7 1 0 0 12
theorem k_q10 {g : GG} (W : GW g) (x0 : Addr) (H : List Ent) (Lt : List SE) : Ct g D7_q10 #[(.ref x0)] (H) Lt (fun v vm h => v = none ∧ Hp g vm h (H) (Lt)) := by
  refine CtW.body (Ls := #[.val (.ref x0)]) W (by decide +kernel) (efr rfl) ?_
  intro M T B
  refine p_aloadN B d7_0 rfl rfl rfl ?_
  refine r_initO B d7_1 rfl (W49 B.gw) (W31 B.gw) (W32 B.gw) rfl (by decide) (W := 0) rfl (by decide) fun T1 B2 => ?_
  exact r_ret B2 d7_4 rfl (by decide) (by decide) (fun vm h P => ⟨rfl, P⟩)
abbrev D10_q13 := E10 0 0 0 0
theorem k_q13 {g : GG} (W : GW g) (x0 : Addr) (H : List Ent) (Lt : List SE) : Ct g D10_q13 #[(.ref x0)] (oAL x0 (.int 0) (.ref (dcOf g)) (.int 0) :: H) Lt (fun v vm h => v = some (.int 1) ∧ Hp g vm h (oAL x0 (.int 0) (.ref (dcOf g)) (.int 0) :: H) (Lt)) := by
  refine CtW.body (Ls := #[.val (.ref x0)]) W (by decide +kernel) (efr rfl) ?_
  intro M T B
  refine p_aloadN B d10_0 rfl rfl rfl ?_
  refine r_get B d10_1 rfl (host := "") (Or.inl (W73 B.gw)) Via.refl (v := (.int 0)) (fO (i := 0) (j := 2) rfl rfl) fun T1 B2 => ?_
  refine b_ifF B2 d10_4 (pc' := 7) rfl (show (0 : Int32) = (0 : Int32) from by decide) ?_
  refine p_iconst B2 d10_7 rfl (v := (1 : Int32)) (by decide) ?_
  refine b_goto B2 d10_8 (pc' := 12) (by decide) (by decide) ?_
  exact r_reti B2 d10_12 rfl (by simp) rfl (by decide) (by decide) (fun vm h P => ⟨rfl, P⟩)
abbrev D11_q14 := E11 0 0 0 0
theorem k_q14 {g : GG} (W : GW g) (H : List Ent) (Lt : List SE) : Ct g D11_q14 #[] (H) Lt (fun v vm h => v = some (.ref (elOf g)) ∧ Hp g vm h (H) (Lt)) := by
  refine CtW.body (Ls := #[]) W (by decide +kernel) (efr rfl) ?_
  intro M T B
  refine r_gets B d11_0 rfl (host := "") (Or.inl (W78 B.gw)) Via.refl (v := (.ref (elOf g))) (el_sta W) fun T1 B2 => ?_
  exact r_reta B2 d11_3 rfl rfl rfl (by decide) (by decide) (fun vm h P => ⟨rfl, P⟩)
abbrev D9_q12 := E9 1 0 0 12
theorem k_q12 {g : GG} (W : GW g) (x0 : Addr) (H : List Ent) (Lt : List SE) : Ct g D9_q12 #[(.ref x0)] (oAL x0 (.int 0) (.ref (dcOf g)) (.int 0) :: H) Lt (fun v vm h => v = some (.ref (elOf g)) ∧ Hp g vm h (oAL x0 (.int 0) (.ref (dcOf g)) (.int 0) :: H) (Lt)) := by
  refine CtW.body (Ls := #[.val (.ref x0), .unset]) W (by decide +kernel) (efr rfl) ?_
  intro M T B
  refine p_aloadN B d9_0 rfl rfl rfl ?_
  refine r_inst0 B d9_1 rfl (W58 B.gw) (fun vm h E P => ins_chain ((fE (i := 0) rfl) vm h E P) (W59 B.gw) (NS.step (W59 B.gw) (NS.step (W60 B.gw) (NS.step (W61 B.gw) (ns_root (W62 B.gw) (W317 B.gw) (by decide)) (by decide)) (by decide)) (by decide)) (W317 B.gw) (by decide)) (fE (i := 0) rfl) fun T1 B2 => ?_
  refine b_ifF B2 d9_4 (pc' := 7) rfl (show (0 : Int32) = (0 : Int32) from by decide) ?_
  refine p_aloadN B2 d9_7 rfl rfl rfl ?_
  refine r_inst0 B2 d9_8 rfl (W63 B2.gw) (fun vm h E P => ins_chain2 ((fE (i := 0) rfl) vm h E P) (W59 B2.gw) (NS.step (W59 B2.gw) (NS.step (W60 B2.gw) (NS.step (W61 B2.gw) (ns_root2 (W62 B2.gw) (W120 B2.gw) rfl (by decide)) (by decide)) (by decide)) (by decide)) (W120 B2.gw) rfl (by decide)) (fE (i := 0) rfl) fun T3 B4 => ?_
  refine b_ifT B4 d9_11 (pc' := 31) (show (0 : Int32) = (0 : Int32) from by decide) (by decide) (by decide) ?_
  refine p_aloadN B4 d9_31 rfl rfl rfl ?_
  refine r_iface (D' := D10_q13) B4 d9_32 rfl (W64 B4.gw) (W65 B4.gw) (W66 B4.gw) (by first | rfl | decide) (W67 B4.gw) (W68 B4.gw) (W69 B4.gw) (W70 B4.gw) (W71 B4.gw) (W14 B4.gw) (W72 B4.gw) (by decide) (fE (i := 0) rfl) (k_q13 W x0 _ _) (argsL := []) (rest := []) rfl pd13 rfl rfl rfl (W := 0) rfl (cs' := 0) (ss' := 0) (by decide) (Kv1 fun T5 B7 => ?_)
  refine b_ifF B7 d9_37 (pc' := 40) rfl (show ¬ (1 : Int32) = (0 : Int32) from by decide) ?_
  refine r_static (D' := D11_q14) B7 d9_40 rfl (W75 B7.gw) (W76 B7.gw) (W52 B7.gw) (W77 B7.gw) (by decide) (k_q14 W _ _) (argsL := []) (rest := []) rfl pd14 rfl rfl rfl (W := 0) rfl (cs' := 0) (ss' := 0) (by decide) (Kv1 fun T8 B10 => ?_)
  exact r_reta B10 d9_43 rfl rfl rfl (by decide) (by decide) (fun vm h P => ⟨rfl, P⟩)
abbrev D8_q11 := E8 2 0 0 25
theorem k_q11 {g : GG} (W : GW g) (x0 : Addr) (H : List Ent) (Lt : List SE) : Ct g D8_q11 #[(.ref x0)] (oAL x0 (.int 0) (.ref (dcOf g)) (.int 0) :: H) Lt (fun v vm h => v = some (.ref (elOf g)) ∧ Hp g vm h (oAL x0 (.int 0) (.ref (dcOf g)) (.int 0) :: H) (Lt)) := by
  refine CtW.body (Ls := #[.val (.ref x0)]) W (by decide +kernel) (efr rfl) ?_
  intro M T B
  refine p_aloadN B d8_0 rfl rfl rfl ?_
  refine r_static (D' := D9_q12) B d8_1 rfl (W54 B.gw) (W55 B.gw) (W56 B.gw) (W57 B.gw) (by decide) (k_q12 W x0 _ _) (argsL := [(.ref x0)]) (rest := []) rfl pd15 rfl rfl rfl (W := 0) rfl (cs' := 0) (ss' := 0) (by decide) (Kv1 fun T1 B3 => ?_)
  exact r_reta B3 d8_4 rfl rfl rfl (by decide) (by decide) (fun vm h P => ⟨rfl, P⟩)
abbrev D6_w := E6 8 2 4 101
theorem c_ei0 {g : GG} (W : GW g) (ev a b : Addr) (H : List Ent) (Lt : List SE) : Ct g D6_w #[(.ref ev), (.ref a)] (oEV ev .null :: (AL g a b [] ++ H)) Lt (fun v vm h => ∃ c d, v = none ∧ Hp g vm h (oEV ev (.ref (ilA g c [])) :: (AL g a b [] ++ (IL g c d [] ++ H))) Lt) := by
  refine CtW.body (Ls := #[.val (.ref ev), .val (.ref a)]) W (by decide +kernel) (efr rfl) ?_
  intro M T B
  replace B : RH g D6_w M T (oEV ev .null :: oAL a (.int 0) (.ref (dcOf g)) (.int 0) :: H) Lt 0 0 := B
  refine p_aloadN B d6_0 rfl rfl rfl ?_
  refine r_special (D' := D7_q10) B d6_1 rfl rfl rfl (W44 B.gw) (W45 B.gw) (W47 B.gw) (W48 B.gw) (by decide) (k_q10 W ev _ _) (a := ev) (argsL := []) (rest := []) rfl pd8 rfl rfl rfl (W := 0) rfl (cs' := 0) (ss' := 0) (by decide) (Kv0 fun T1 B3 => ?_)
  refine p_aloadN B3 d6_4 rfl rfl rfl ?_
  have B4 := (B3.fr 1 rfl)
  refine r_static (D' := D8_q11) B4 d6_5 rfl (W50 B4.gw) (W51 B4.gw) (W52 B4.gw) (W53 B4.gw) (by decide) (k_q11 W a _ _) (argsL := [(.ref a)]) (rest := []) rfl pd15 rfl rfl rfl (W := 0) rfl (cs' := 0) (ss' := 0) (by decide) (Kv1 fun T5 B7 => ?_)
  refine p_astoreN B7 d6_8 rfl rfl (Ls' := #[.val (.ref ev), .val (.ref (elOf g))]) rfl ?_
  refine p_aloadN B7 d6_9 rfl rfl rfl ?_
  refine p_aloadN B7 d6_10 rfl rfl rfl ?_
  refine r_put B7 d6_11 rfl (host := "") (Or.inl (W79 B7.gw)) Via.refl (i := 1) (j := 0) rfl rfl (Or.inr ⟨(W80 B7.gw), rfl, rfl⟩) (W39 B7.gw) (ty := (.object "java/util/List")) (by decide) rfl rfl (H' := (oAL a (.int 0) (.ref (dcOf g)) (.int 0) :: oEV ev (.ref (elOf g)) :: H)) rfl fun T8 B9 => ?_
  have B10 := (B9.fr 1 rfl)
  exact r_ret B10 d6_14 rfl (by decide) (by decide) (fun vm h P => ⟨0, 0, rfl, P⟩)
abbrev D10_q18 := E10 0 0 0 0
theorem k_q18 {g : GG} (W : GW g) (x0 x1 : Addr) (H : List Ent) (Lt : List SE) : Ct g D10_q18 #[(.ref x0)] (oAL x0 (.int 1) (.ref x1) (.int 1) :: H) Lt (fun v vm h => v = some (.int 0) ∧ Hp g vm h (oAL x0 (.int 1) (.ref x1) (.int 1) :: H) (Lt)) := by
  refine CtW.body (Ls := #[.val (.ref x0)]) W (by decide +kernel) (efr rfl) ?_
  intro M T B
  refine p_aloadN B d10_0 rfl rfl rfl ?_
  refine r_get B d10_1 rfl (host := "") (Or.inl (W73 B.gw)) Via.refl (v := (.int 1)) (fO (i := 0) (j := 2) rfl rfl) fun T1 B2 => ?_
  refine b_ifT B2 d10_4 (pc' := 11) (show ¬ (1 : Int32) = (0 : Int32) from by decide) (by decide) (by decide) ?_
  refine p_iconst B2 d10_11 rfl (v := (0 : Int32)) (by decide) ?_
  exact r_reti B2 d10_12 rfl (by simp) rfl (by decide) (by decide) (fun vm h P => ⟨rfl, P⟩)
abbrev D33_q22 := E33 0 0 0 0
theorem k_q22 {g : GG} (W : GW g) (H : List Ent) (Lt : List SE) : Ct g D33_q22 #[(.int 10), (.int 1)] (H) Lt (fun v vm h => v = some (.int 1) ∧ Hp g vm h (H) (Lt)) := by
  refine CtW.body (Ls := #[.val (.int 10), .val (.int 1)]) W (Jvm.Free.JP.mathPlain rfl (by decide +kernel)) (efr rfl) ?_
  intro M T B
  refine p_iloadN B d33_0 rfl rfl ?_
  refine p_iloadN B d33_1 rfl rfl ?_
  refine b_icT B d33_2 (pc' := 9) (show (1 : Int32) < (10 : Int32) from by decide) (by decide) (by decide) ?_
  refine p_iloadN B d33_9 rfl rfl ?_
  exact r_reti B d33_10 rfl (by simp) rfl (by decide) (by decide) (fun vm h P => ⟨rfl, P⟩)
abbrev D48_q21 := E48 1 1 1 18
theorem k_q21 {g : GG} (W : GW g) (x0 x1 : Addr) (H : List Ent) (Lt : List SE) (ms0 : StrIn Lt x1) : Ct g D48_q21 #[(.ref x0), (.int 1), (.ref (miOf g))] ((x0, .inr ((.object "java/lang/Object"), "[Ljava/lang/Object;", [(.ref x1), .null, .null, .null, .null, .null, .null, .null, .null, .null])) :: H) Lt (fun v vm h => ∃ a5, v = some (.ref a5) ∧ Hp g vm h ((a5, .inr ((.object "java/lang/Object"), "[Ljava/lang/Object;", [(.ref x1)])) :: (x0, .inr ((.object "java/lang/Object"), "[Ljava/lang/Object;", [(.ref x1), .null, .null, .null, .null, .null, .null, .null, .null, .null])) :: H) (Lt)) := by
  refine CtW.body (Ls := #[.val (.ref x0), .val (.int 1), .val (.ref (miOf g)), .unset]) W (by decide +kernel) (efr rfl) ?_
  intro M T B
  refine p_aloadN B d48_0 rfl rfl rfl ?_
  refine r_ldcM B d48_1 rfl (W311 B.gw) (mi_ok W) fun T1 B2 => ?_
  refine b_anF B2 d48_3 (pc' := 6) rfl rfl rfl rfl ?_
  refine p_iloadN B2 d48_6 rfl rfl ?_
  refine r_newr B2 d48_7 rfl (W312 B2.gw) (W289 B2.gw) (by decide) (nn := 1) (by decide) (cap := 1) (by decide) (by decide) (cs' := 1) rfl (ss' := 1) rfl (by decide) (by decide) (ad := "[Ljava/lang/Object;") (by decide) (vs := [.null]) rfl fun T3 a5 B4 => ?_
  refine b_goto B4 d48_10 (pc' := 24) (by decide) (by decide) ?_
  refine p_astoreN B4 d48_24 rfl rfl (Ls' := #[.val (.ref x0), .val (.int 1), .val (.ref (miOf g)), .val (.ref a5)]) rfl ?_
  refine p_aloadN B4 d48_25 rfl rfl rfl ?_
  refine p_iconst B4 d48_26 rfl (v := (0 : Int32)) (by decide) ?_
  refine p_aloadN B4 d48_27 rfl rfl rfl ?_
  refine p_iconst B4 d48_28 rfl (v := (0 : Int32)) (by decide) ?_
  refine p_aloadN B4 d48_29 rfl rfl rfl ?_
  refine r_alen B4 d48_30 rfl (aH (i := 1) rfl) (z := (10 : Int32)) rfl ?_
  refine p_iloadN B4 d48_31 rfl rfl ?_
  refine r_static (D' := D33_q22) B4 d48_32 rfl (W213 B4.gw) (W214 B4.gw) (W215 B4.gw) (W216 B4.gw) (by decide) (k_q22 W _ _) (argsL := [(.int 10), (.int 1)]) (rest := [(.int 0), (.ref a5), (.int 0), (.ref x0)]) rfl pd9 rfl rfl rfl (W := 4) rfl (cs' := 1) (ss' := 1) (by decide) (Kv1 fun T6 B8 => ?_)
  refine r_acopy B8 d48_35 (pc' := 38) (s0 := 0) (d0 := 0) (n0 := 1) (us := [(.ref x1)]) (vd' := [(.ref x1)]) rfl (W217 B8.gw) (W220 B8.gw) (W218 B8.gw) (W219 B8.gw) (aH (i := 1) rfl) (i := 0) rfl (Or.inr ⟨rfl, _, rfl, List.forall_mem_cons.2 ⟨Or.inr ⟨_, rfl, (fun vm h E P => Ins.of_exa ((sI ms0) vm h E P) (W290 B8.gw))⟩, nofun⟩⟩) (by decide) (by decide) (by decide) (by decide) (by decide) (by decide) (by simp) (by simp) rfl rfl (H' := ((a5, .inr ((.object "java/lang/Object"), "[Ljava/lang/Object;", [(.ref x1)])) :: (x0, .inr ((.object "java/lang/Object"), "[Ljava/lang/Object;", [(.ref x1), .null, .null, .null, .null, .null, .null, .null, .null, .null])) :: H)) rfl rfl (W := 0) rfl (by decide) (by decide) fun T9 B10 => ?_
  refine p_aloadN B10 d48_38 rfl rfl rfl ?_
  exact r_reta B10 d48_39 rfl rfl rfl (by decide) (by decide) (fun vm h P => ⟨a5, rfl, P⟩)
abbrev D47_q20 := E47 2 1 1 33
theorem k_q20 {g : GG} (W : GW g) (x0 x1 : Addr) (H : List Ent) (Lt : List SE) (ms0 : StrIn Lt x1) : Ct g D47_q20 #[(.ref x0), (.int 1)] ((x0, .inr ((.object "java/lang/Object"), "[Ljava/lang/Object;", [(.ref x1), .null, .null, .null, .null, .null, .null, .null, .null, .null])) :: H) Lt (fun v vm h => ∃ a6, v = some (.ref a6) ∧ Hp g vm h ((a6, .inr ((.object "java/lang/Object"), "[Ljava/lang/Object;", [(.ref x1)])) :: (x0, .inr ((.object "java/lang/Object"), "[Ljava/lang/Object;", [(.ref x1), .null, .null, .null, .null, .null, .null, .null, .null, .null])) :: H) (Lt)) := by
  refine CtW.body (Ls := #[.val (.ref x0), .val (.int 1)]) W (by decide +kernel) (efr rfl) ?_
  intro M T B
  refine p_aloadN B d47_0 rfl rfl rfl ?_
  refine p_iloadN B d47_1 rfl rfl ?_
  refine p_aloadN B d47_2 rfl rfl rfl ?_
  refine r_getClass B d47_3 rfl (W302 B.gw) (W303 B.gw) (W305 B.gw) (W304 B.gw) (W306 B.gw) (aE (i := 0) rfl (by decide)) (mi_ok W) rfl (W := 2) rfl (by decide) (by decide) fun T1 B2 => ?_
  refine r_static (D' := D48_q21) B2 d47_6 rfl (W308 B2.gw) (W309 B2.gw) (W205 B2.gw) (W310 B2.gw) (by decide) (k_q21 W x0 x1 _ _ ms0) (argsL := [(.ref x0), (.int 1), (.ref (miOf g))]) (rest := []) rfl pd16 rfl rfl rfl (W := 0) rfl (cs' := 1) (ss' := 1) (by decide) (Kex fun a6 => Kv1 fun T3 B5 => ?_)
  exact r_reta B5 d47_9 rfl rfl rfl (by decide) (by decide) (fun vm h P => ⟨a6, rfl, P⟩)
abbrev D46_q19 := E46 3 1 1 46
theorem k_q19 {g : GG} (W : GW g) (x0 x1 x2 : Addr) (H : List Ent) (Lt : List SE) (ms0 : StrIn Lt x2) : Ct g D46_q19 #[(.ref x0)] (oAL x0 (.int 1) (.ref x1) (.int 1) :: (x1, .inr ((.object "java/lang/Object"), "[Ljava/lang/Object;", [(.ref x2), .null, .null, .null, .null, .null, .null, .null, .null, .null])) :: H) Lt (fun v vm h => ∃ a9, v = some (.ref a9) ∧ Hp g vm h ((a9, .inr ((.object "java/lang/Object"), "[Ljava/lang/Object;", [(.ref x2)])) :: (x1, .inr ((.object "java/lang/Object"), "[Ljava/lang/Object;", [(.ref x2), .null, .null, .null, .null, .null, .null, .null, .null, .null])) :: oAL x0 (.int 1) (.ref x1) (.int 1) :: H) (Lt)) := by
  refine CtW.body (Ls := #[.val (.ref x0)]) W (by decide +kernel) (efr rfl) ?_
  intro M T B
  refine p_aloadN B d46_0 rfl rfl rfl ?_
  refine r_get B d46_1 rfl (host := "") (Or.inl (W36 B.gw)) Via.refl (v := (.ref x1)) (fO (i := 0) (j := 1) rfl rfl) fun T1 B2 => ?_
  refine p_aloadN B2 d46_4 rfl rfl rfl ?_
  refine r_get B2 d46_5 rfl (host := "") (Or.inl (W73 B2.gw)) Via.refl (v := (.int 1)) (fO (i := 0) (j := 2) rfl rfl) fun T3 B4 => ?_
  have B5 := (B4.fr 1 rfl)
  refine r_static (D' := D47_q20) B5 d46_8 rfl (W299 B5.gw) (W300 B5.gw) (W205 B5.gw) (W301 B5.gw) (by decide) (k_q20 W x1 x2 _ _ ms0) (argsL := [(.ref x1), (.int 1)]) (rest := []) rfl pd17 rfl rfl rfl (W := 0) rfl (cs' := 1) (ss' := 1) (by decide) (Kex fun a9 => Kv1 fun T6 B8 => ?_)
  exact r_reta B8 d46_11 rfl rfl rfl (by decide) (by decide) (fun vm h P => ⟨a9, rfl, P⟩)
abbrev D52_q28 := E52 2 0 0 24
theorem k_q28 {g : GG} (W : GW g) (x0 : Addr) (H : List Ent) (Lt : List SE) : Ct g D52_q28 #[(.ref x0)] (H) Lt (fun v vm h => v = none ∧ Hp g vm h (H) (Lt)) := by
  refine CtW.body (Ls := #[.val (.ref x0)]) W (by decide +kernel) (efr rfl) ?_
  intro M T B
  refine p_aloadN B d52_0 rfl rfl rfl ?_
  refine r_special (D' := D4_q3) B d52_1 rfl rfl rfl (W334 B.gw) (W25 B.gw) (W28 B.gw) (W29 B.gw) (by decide) (k_q3 W x0 _ _) (a := x0) (argsL := []) (rest := []) rfl pd8 rfl rfl rfl (W := 0) rfl (cs' := 0) (ss' := 0) (by decide) (Kv0 fun T1 B3 => ?_)
  exact r_ret B3 d52_4 rfl (by decide) (by decide) (fun vm h P => ⟨rfl, P⟩)
abbrev D51_q29 := E51 3 0 0 36
theorem k_q29 {g : GG} (W : GW g) (x0 : Addr) (H : List Ent) (Lt : List SE) : Ct g D51_q29 #[(.ref x0)] (H) Lt (fun v vm h => v = none ∧ Hp g vm h (H) (Lt)) := by
  refine CtW.body (Ls := #[.val (.ref x0)]) W (by decide +kernel) (efr rfl) ?_
  intro M T B
  refine p_aloadN B d51_0 rfl rfl rfl ?_
  refine r_special (D' := D52_q28) B d51_1 rfl rfl rfl (W328 B.gw) (W329 B.gw) (W332 B.gw) (W333 B.gw) (by decide) (k_q28 W x0 _ _) (a := x0) (argsL := []) (rest := []) rfl pd8 rfl rfl rfl (W := 0) rfl (cs' := 0) (ss' := 0) (by decide) (Kv0 fun T1 B3 => ?_)
  exact r_ret B3 d51_4 rfl (by decide) (by decide) (fun vm h P => ⟨rfl, P⟩)
abbrev D53_q30 := E53 0 0 0 0
theorem k_q30 {g : GG} (W : GW g) (x0 : Addr) (H : List Ent) (Lt : List SE) (ms0 : StrIn Lt x0) : Ct g D53_q30 #[(.ref x0)] (H) Lt (fun v vm h => v = some (.ref x0) ∧ Hp g vm h (H) (Lt)) := by
  refine CtW.body (Ls := #[.val (.ref x0)]) W (by decide +kernel) (efr rfl) ?_
  intro M T B
  refine p_aloadN B d53_0 rfl rfl rfl ?_
  refine b_nnT B d53_1 (pc' := 12) (by decide) (by decide) ?_
  refine p_aloadN B d53_12 rfl rfl rfl ?_
  exact r_reta B d53_13 rfl rfl rfl (by decide) (by decide) (fun vm h P => ⟨rfl, P⟩)
abbrev D50_q24 := E50 4 0 0 48
theorem k_q24 {g : GG} (W : GW g) (x0 x1 : Addr) (H : List Ent) (Lt : List SE) (ms0 : StrIn Lt x1) : Ct g D50_q24 #[(.ref x0), (.ref x1)] (o12 x0 .null .null :: H) Lt (fun v vm h => v = none ∧ Hp g vm h (o12 x0 (.ref x1) (.ref (emOf g)) :: H) (Lt)) := by
  refine CtW.body (Ls := #[.val (.ref x0), .val (.ref x1)]) W (by decide +kernel) (efr rfl) ?_
  intro M T B
  refine p_aloadN B d50_0 rfl rfl rfl ?_
  refine r_special (D' := D51_q29) B d50_1 rfl rfl rfl (W323 B.gw) (W324 B.gw) (W112 B.gw) (W327 B.gw) (by decide) (k_q29 W x0 _ _) (a := x0) (argsL := []) (rest := []) rfl pd8 rfl rfl rfl (W := 0) rfl (cs' := 0) (ss' := 0) (by decide) (Kv0 fun T1 B3 => ?_)
  refine p_aloadN B3 d50_4 rfl rfl rfl ?_
  refine p_aloadN B3 d50_5 rfl rfl rfl ?_
  refine r_static (D' := D53_q30) B3 d50_6 rfl (W336 B3.gw) (W337 B3.gw) (W338 B3.gw) (W339 B3.gw) (by decide) (k_q30 W x1 _ _ ms0) (argsL := [(.ref x1)]) (rest := [(.ref x0)]) rfl pd18 rfl rfl rfl (W := 1) rfl (cs' := 0) (ss' := 0) (by decide) (Kv1 fun T4 B6 => ?_)
  refine r_put B6 d50_9 rfl (host := "") (Or.inl (W340 B6.gw)) Via.refl (i := 0) (j := 0) rfl rfl (Or.inr ⟨(W341 B6.gw), rfl, rfl⟩) (W317 B6.gw) (ty := (.object "java/lang/Object")) (by decide) rfl rfl (H' := (o12 x0 (.ref x1) .null :: H)) rfl fun T7 B8 => ?_
  refine p_aloadN B8 d50_12 rfl rfl rfl ?_
  refine r_gets B8 d50_13 rfl (Or.inr (W342 B8.gw)) Via.refl (v := (.ref (emOf g))) (em_sta W) fun T9 B10 => ?_
  refine r_put B10 d50_16 rfl (host := "") (Or.inl (W343 B10.gw)) Via.refl (i := 0) (j := 1) rfl rfl (Or.inr ⟨(W344 B10.gw), rfl, rfl⟩) (W317 B10.gw) (ty := (.object "java/lang/Object")) (by decide) rfl rfl (H' := (o12 x0 (.ref x1) (.ref (emOf g)) :: H)) rfl fun T11 B12 => ?_
  exact r_ret B12 d50_19 rfl (by decide) (by decide) (fun vm h P => ⟨rfl, P⟩)
abbrev D49_q23 := E49 5 1 2 62
theorem k_q23 {g : GG} (W : GW g) (x0 x1 : Addr) (H : List Ent) (Lt : List SE) (ms0 : StrIn Lt x1) : Ct g D49_q23 #[(.ref x0)] ((x0, .inr ((.object "java/lang/Object"), "[Ljava/lang/Object;", [(.ref x1)])) :: H) Lt (fun v vm h => ∃ a3, v = some (.ref a3) ∧ Hp g vm h (o12 a3 (.ref x1) (.ref (emOf g)) :: (x0, .inr ((.object "java/lang/Object"), "[Ljava/lang/Object;", [(.ref x1)])) :: H) (Lt)) := by
  refine CtW.body (Ls := #[.val (.ref x0), .unset]) W (by decide +kernel) (efr rfl) ?_
  intro M T B
  refine p_aloadN B d49_0 rfl rfl rfl ?_
  refine r_alen B d49_1 rfl (aH (i := 0) rfl) (z := (1 : Int32)) rfl ?_
  refine p_tswIn B d49_2 (pc' := 34) (by decide) (off := 32) (by first | rfl | decide) (by decide) (by decide) ?_
  refine r_new B d49_34 rfl (W316 B.gw) (W317 B.gw) (W318 B.gw) (Ly_o12 B.gw) (by decide) (cs' := 1) rfl (ss' := 2) rfl (by decide) (by decide) fun T1 a3 B2 => ?_
  refine p_dup B2 d49_37 rfl rfl ?_
  refine p_aloadN B2 d49_38 rfl rfl rfl ?_
  refine p_iconst B2 d49_39 rfl (v := (0 : Int32)) (by decide) ?_
  refine r_aget B2 d49_40 rfl rfl (aH (i := 1) rfl) (k := 0) (by decide) rfl ?_
  refine r_special (D' := D50_q24) B2 d49_41 rfl rfl rfl (W319 B2.gw) (W320 B2.gw) (W318 B2.gw) (W322 B2.gw) (by decide) (k_q24 W a3 x1 _ _ ms0) (a := a3) (argsL := [(.ref x1)]) (rest := [(.ref a3)]) rfl pd19 rfl rfl rfl (W := 1) rfl (cs' := 1) (ss' := 2) (by decide) (Kv0 fun T4 B6 => ?_)
  exact r_reta B6 d49_44 rfl rfl rfl (by decide) (by decide) (fun vm h P => ⟨a3, rfl, P⟩)
abbrev D9_q16 := E9 6 2 3 75
theorem k_q16 {g : GG} (W : GW g) (x0 x1 x2 : Addr) (H : List Ent) (Lt : List SE) (ms0 : StrIn Lt x2) : Ct g D9_q16 #[(.ref x0)] (oAL x0 (.int 1) (.ref x1) (.int 1) :: (x1, .inr ((.object "java/lang/Object"), "[Ljava/lang/Object;", [(.ref x2), .null, .null, .null, .null, .null, .null, .null, .null, .null])) :: H) Lt (fun v vm h => ∃ a15, v = some (.ref a15) ∧ Hp g vm h (o12 a15 (.ref x2) (.ref (emOf g)) :: (x1, .inr ((.object "java/lang/Object"), "[Ljava/lang/Object;", [(.ref x2), .null, .null, .null, .null, .null, .null, .null, .null, .null])) :: oAL x0 (.int 1) (.ref x1) (.int 1) :: H) (Lt)) := by
  refine CtW.body (Ls := #[.val (.ref x0), .unset]) W (by decide +kernel) (efr rfl) ?_
  intro M T B
  refine p_aloadN B d9_0 rfl rfl rfl ?_
  refine r_inst0 B d9_1 rfl (W58 B.gw) (fun vm h E P => ins_chain ((fE (i := 0) rfl) vm h E P) (W59 B.gw) (NS.step (W59 B.gw) (NS.step (W60 B.gw) (NS.step (W61 B.gw) (ns_root (W62 B.gw) (W317 B.gw) (by decide)) (by decide)) (by decide)) (by decide)) (W317 B.gw) (by decide)) (fE (i := 0) rfl) fun T1 B2 => ?_
  refine b_ifF B2 d9_4 (pc' := 7) rfl (show (0 : Int32) = (0 : Int32) from by decide) ?_
  refine p_aloadN B2 d9_7 rfl rfl rfl ?_
  refine r_inst0 B2 d9_8 rfl (W63 B2.gw) (fun vm h E P => ins_chain2 ((fE (i := 0) rfl) vm h E P) (W59 B2.gw) (NS.step (W59 B2.gw) (NS.step (W60 B2.gw) (NS.step (W61 B2.gw) (ns_root2 (W62 B2.gw) (W120 B2.gw) rfl (by decide)) (by decide)) (by decide)) (by decide)) (W120 B2.gw) rfl (by decide)) (fE (i := 0) rfl) fun T3 B4 => ?_
  refine b_ifT B4 d9_11 (pc' := 31) (show (0 : Int32) = (0 : Int32) from by decide) (by decide) (by decide) ?_
  refine p_aloadN B4 d9_31 rfl rfl rfl ?_
  refine r_iface (D' := D10_q18) B4 d9_32 rfl (W64 B4.gw) (W65 B4.gw) (W66 B4.gw) (by first | rfl | decide) (W67 B4.gw) (W68 B4.gw) (W69 B4.gw) (W70 B4.gw) (W71 B4.gw) (W14 B4.gw) (W72 B4.gw) (by decide) (fE (i := 0) rfl) (k_q18 W x0 x1 _ _) (argsL := []) (rest := []) rfl pd13 rfl rfl rfl (W := 0) rfl (cs' := 0) (ss' := 0) (by decide) (Kv1 fun T5 B7 => ?_)
  refine b_ifT B7 d9_37 (pc' := 44) (show (0 : Int32) = (0 : Int32) from by decide) (by decide) (by decide) ?_
  refine p_aloadN B7 d9_44 rfl rfl rfl ?_
  refine r_iface (D' := D46_q19) B7 d9_45 rfl (W291 B7.gw) (W292 B7.gw) (W293 B7.gw) (by first | rfl | decide) (W294 B7.gw) (W295 B7.gw) (W296 B7.gw) (W297 B7.gw) (W71 B7.gw) (W14 B7.gw) (W298 B7.gw) (by decide) (fE (i := 0) rfl) (k_q19 W x0 x1 x2 _ _ ms0) (argsL := []) (rest := []) rfl pd11 rfl rfl rfl (W := 0) rfl (cs' := 1) (ss' := 1) (by decide) (Kex fun a11 => Kv1 fun T8 B10 => ?_)
  refine r_static (D' := D49_q23) B10 d9_50 rfl (W313 B10.gw) (W314 B10.gw) (W52 B10.gw) (W315 B10.gw) (by decide) (k_q23 W a11 x2 _ _ ms0) (argsL := [(.ref a11)]) (rest := []) rfl pd20 rfl rfl rfl (W := 0) rfl (cs' := 2) (ss' := 3) (by decide) (Kex fun a15 => Kv1 fun T12 B14 => ?_)
  have B16 := (B14.dl 1)
  exact r_reta B16 d9_53 rfl rfl rfl (by decide) (by decide) (fun vm h P => ⟨a15, rfl, P⟩)
abbrev D8_q15 := E8 7 2 3 88
theorem k_q15 {g : GG} (W : GW g) (x0 x1 x2 : Addr) (H : List Ent) (Lt : List SE) (ms0 : StrIn Lt x2) : Ct g D8_q15 #[(.ref x0)] (oAL x0 (.int 1) (.ref x1) (.int 1) :: (x1, .inr ((.object "java/lang/Object"), "[Ljava/lang/Object;", [(.ref x2), .null, .null, .null, .null, .null, .null, .null, .null, .null])) :: H) Lt (fun v vm h => ∃ a4, v = some (.ref a4) ∧ Hp g vm h (o12 a4 (.ref x2) (.ref (emOf g)) :: (x1, .inr ((.object "java/lang/Object"), "[Ljava/lang/Object;", [(.ref x2), .null, .null, .null, .null, .null, .null, .null, .null, .null])) :: oAL x0 (.int 1) (.ref x1) (.int 1) :: H) (Lt)) := by
  refine CtW.body (Ls := #[.val (.ref x0)]) W (by decide +kernel) (efr rfl) ?_
  intro M T B
  refine p_aloadN B d8_0 rfl rfl rfl ?_
  refine r_static (D' := D9_q16) B d8_1 rfl (W54 B.gw) (W55 B.gw) (W56 B.gw) (W57 B.gw) (by decide) (k_q16 W x0 x1 x2 _ _ ms0) (argsL := [(.ref x0)]) (rest := []) rfl pd15 rfl rfl rfl (W := 0) rfl (cs' := 2) (ss' := 3) (by decide) (Kex fun a4 => Kv1 fun T1 B3 => ?_)
  exact r_reta B3 d8_4 rfl rfl rfl (by decide) (by decide) (fun vm h P => ⟨a4, rfl, P⟩)
theorem c_ei1 {g : GG} (W : GW g) (ev a b x0 : Addr) (H : List Ent) (Lt : List SE) (ms0 : StrIn Lt x0) : Ct g D6_w #[(.ref ev), (.ref a)] (oEV ev .null :: (AL g a b [x0] ++ H)) Lt (fun v vm h => ∃ c d, v = none ∧ Hp g vm h (oEV ev (.ref (ilA g c [x0])) :: (AL g a b [x0] ++ (IL g c d [x0] ++ H))) Lt) := by
  refine CtW.body (Ls := #[.val (.ref ev), .val (.ref a)]) W (by decide +kernel) (efr rfl) ?_
  intro M T B
  replace B : RH g D6_w M T (oEV ev .null :: oAL a (.int 1) (.ref b) (.int 1) :: (b, .inr ((.object "java/lang/Object"), "[Ljava/lang/Object;", [(.ref x0), .null, .null, .null, .null, .null, .null, .null, .null, .null])) :: H) Lt 0 0 := B
  refine p_aloadN B d6_0 rfl rfl rfl ?_
  refine r_special (D' := D7_q10) B d6_1 rfl rfl rfl (W44 B.gw) (W45 B.gw) (W47 B.gw) (W48 B.gw) (by decide) (k_q10 W ev _ _) (a := ev) (argsL := []) (rest := []) rfl pd8 rfl rfl rfl (W := 0) rfl (cs' := 0) (ss' := 0) (by decide) (Kv0 fun T1 B3 => ?_)
  refine p_aloadN B3 d6_4 rfl rfl rfl ?_
  have B4 := ((B3.fr 2 rfl).fr 2 rfl)
  refine r_static (D' := D8_q15) B4 d6_5 rfl (W50 B4.gw) (W51 B4.gw) (W52 B4.gw) (W53 B4.gw) (by decide) (k_q15 W a b x0 _ _ ms0) (argsL := [(.ref a)]) (rest := []) rfl pd15 rfl rfl rfl (W := 0) rfl (cs' := 2) (ss' := 3) (by decide) (Kex fun a8 => Kv1 fun T5 B7 => ?_)
  refine p_astoreN B7 d6_8 rfl rfl (Ls' := #[.val (.ref ev), .val (.ref a8)]) rfl ?_
  refine p_aloadN B7 d6_9 rfl rfl rfl ?_
  refine p_aloadN B7 d6_10 rfl rfl rfl ?_
  refine r_put B7 d6_11 rfl (host := "") (Or.inl (W79 B7.gw)) Via.refl (i := 3) (j := 0) rfl rfl (Or.inr ⟨(W80 B7.gw), rfl, rfl⟩) (W39 B7.gw) (ty := (.object "java/util/List")) (by decide) rfl rfl (H' := (o12 a8 (.ref x0) (.ref (emOf g)) :: (b, .inr ((.object "java/lang/Object"), "[Ljava/lang/Object;", [(.ref x0), .null, .null, .null, .null, .null, .null, .null, .null, .null])) :: oAL a (.int 1) (.ref b) (.int 1) :: oEV ev (.ref a8) :: H)) rfl fun T9 B10 => ?_
  have B11 := (((B10.fr 1 rfl).fr 2 rfl).fr 3 rfl)
  exact r_ret B11 d6_14 rfl (by decide) (by decide) (fun vm h P => ⟨a8, 0, rfl, P⟩)
abbrev D10_q34 := E10 0 0 0 0
theorem k_q34 {g : GG} (W : GW g) (x0 x1 : Addr) (H : List Ent) (Lt : List SE) : Ct g D10_q34 #[(.ref x0)] (oAL x0 (.int 2) (.ref x1) (.int 2) :: H) Lt (fun v vm h => v = some (.int 0) ∧ Hp g vm h (oAL x0 (.int 2) (.ref x1) (.int 2) :: H) (Lt)) := by
  refine CtW.body (Ls := #[.val (.ref x0)]) W (by decide +kernel) (efr rfl) ?_
  intro M T B
  refine p_aloadN B d10_0 rfl rfl rfl ?_
  refine r_get B d10_1 rfl (host := "") (Or.inl (W73 B.gw)) Via.refl (v := (.int 2)) (fO (i := 0) (j := 2) rfl rfl) fun T1 B2 => ?_
  refine b_ifT B2 d10_4 (pc' := 11) (show ¬ (2 : Int32) = (0 : Int32) from by decide) (by decide) (by decide) ?_
  refine p_iconst B2 d10_11 rfl (v := (0 : Int32)) (by decide) ?_
  exact r_reti B2 d10_12 rfl (by simp) rfl (by decide) (by decide) (fun vm h P => ⟨rfl, P⟩)
abbrev D33_q38 := E33 0 0 0 0
theorem k_q38 {g : GG} (W : GW g) (H : List Ent) (Lt : List SE) : Ct g D33_q38 #[(.int 10), (.int 2)] (H) Lt (fun v vm h => v = some (.int 2) ∧ Hp g vm h (H) (Lt)) := by
  refine CtW.body (Ls := #[.val (.int 10), .val (.int 2)]) W (Jvm.Free.JP.mathPlain rfl (by decide +kernel)) (efr rfl) ?_
  intro M T B
  refine p_iloadN B d33_0 rfl rfl ?_
  refine p_iloadN B d33_1 rfl rfl ?_
  refine b_icT B d33_2 (pc' := 9) (show (2 : Int32) < (10 : Int32) from by decide) (by decide) (by decide) ?_
  refine p_iloadN B d33_9 rfl rfl ?_
  exact r_reti B d33_10 rfl (by simp) rfl (by decide) (by decide) (fun vm h P => ⟨rfl, P⟩)
abbrev D48_q37 := E48 1 1 2 18
theorem k_q37 {g : GG} (W : GW g) (x0 x1 x2 : Addr) (H : List Ent) (Lt : List SE) (ms0 : StrIn Lt x1) (ms1 : StrIn Lt x2) : Ct g D48_q37 #[(.ref x0), (.int 2), (.ref (miOf g))] ((x0, .inr ((.object "java/lang/Object"), "[Ljava/lang/Object;", [(.ref x1), (.ref x2), .null, .null, .null, .null, .null, .null, .null, .null])) :: H) Lt (fun v vm h => ∃ a5, v = some (.ref a5) ∧ Hp g vm h ((a5, .inr ((.object "java/lang/Object"), "[Ljava/lang/Object;", [(.ref x1), (.ref x2)])) :: (x0, .inr ((.object "java/lang/Object"), "[Ljava/lang/Object;", [(.ref x1), (.ref x2), .null, .null, .null, .null, .null, .null, .null, .null])) :: H) (Lt)) := by
  refine CtW.body (Ls := #[.val (.ref x0), .val (.int 2), .val (.ref (miOf g)), .unset]) W (by decide +kernel) (efr rfl) ?_
  intro M T B
  refine p_aloadN B d48_0 rfl rfl rfl ?_
  refine r_ldcM B d48_1 rfl (W311 B.gw) (mi_ok W) fun T1 B2 => ?_
  refine b_anF B2 d48_3 (pc' := 6) rfl rfl rfl rfl ?_
  refine p_iloadN B2 d48_6 rfl rfl ?_
  refine r_newr B2 d48_7 rfl (W312 B2.gw) (W289 B2.gw) (by decide) (nn := 2) (by decide) (cap := 2) (by decide) (by decide) (cs' := 1) rfl (ss' := 2) rfl (by decide) (by decide) (ad := "[Ljava/lang/Object;") (by decide) (vs := [.null, .null]) rfl fun T3 a5 B4 => ?_
  refine b_goto B4 d48_10 (pc' := 24) (by decide) (by decide) ?_
  refine p_astoreN B4 d48_24 rfl rfl (Ls' := #[.val (.ref x0), .val (.int 2), .val (.ref (miOf g)), .val (.ref a5)]) rfl ?_
  refine p_aloadN B4 d48_25 rfl rfl rfl ?_
  refine p_iconst B4 d48_26 rfl (v := (0 : Int32)) (by decide) ?_
  refine p_aloadN B4 d48_27 rfl rfl rfl ?_
  refine p_iconst B4 d48_28 rfl (v := (0 : Int32)) (by decide) ?_
  refine p_aloadN B4 d48_29 rfl rfl rfl ?_
  refine r_alen B4 d48_30 rfl (aH (i := 1) rfl) (z := (10 : Int32)) rfl ?_
  refine p_iloadN B4 d48_31 rfl rfl ?_
  refine r_static (D' := D33_q38) B4 d48_32 rfl (W213 B4.gw) (W214 B4.gw) (W215 B4.gw) (W216 B4.gw) (by decide) (k_q38 W _ _) (argsL := [(.int 10), (.int 2)]) (rest := [(.int 0), (.ref a5), (.int 0), (.ref x0)]) rfl pd9 rfl rfl rfl (W := 4) rfl (cs' := 1) (ss' := 2) (by decide) (Kv1 fun T6 B8 => ?_)
  refine r_acopy B8 d48_35 (pc' := 38) (s0 := 0) (d0 := 0) (n0 := 2) (us := [(.ref x1), (.ref x2)]) (vd' := [(.ref x1), (.ref x2)]) rfl (W217 B8.gw) (W220 B8.gw) (W218 B8.gw) (W219 B8.gw) (aH (i := 1) rfl) (i := 0) rfl (Or.inr ⟨rfl, _, rfl, List.forall_mem_cons.2 ⟨Or.inr ⟨_, rfl, (fun vm h E P => Ins.of_exa ((sI ms0) vm h E P) (W290 B8.gw))⟩, List.forall_mem_cons.2 ⟨Or.inr ⟨_, rfl, (fun vm h E P => Ins.of_exa ((sI ms1) vm h E P) (W290 B8.gw))⟩, nofun⟩⟩⟩) (by decide) (by decide) (by decide) (by decide) (by decide) (by decide) (by simp) (by simp) rfl rfl (H' := ((a5, .inr ((.object "java/lang/Object"), "[Ljava/lang/Object;", [(.ref x1), (.ref x2)])) :: (x0, .inr ((.object "java/lang/Object"), "[Ljava/lang/Object;", [(.ref x1), (.ref x2), .null, .null, .null, .null, .null, .null, .null, .null])) :: H)) rfl rfl (W := 0) rfl (by decide) (by decide) fun T9 B10 => ?_
  refine p_aloadN B10 d48_38 rfl rfl rfl ?_
  exact r_reta B10 d48_39 rfl rfl rfl (by decide) (by decide) (fun vm h P => ⟨a5, rfl, P⟩)
abbrev D47_q36 := E47 2 1 2 33
theorem k_q36 {g : GG} (W : GW g) (x0 x1 x2 : Addr) (H : List Ent) (Lt : List SE) (ms0 : StrIn Lt x1) (ms1 : StrIn Lt x2) : Ct g D47_q36 #[(.ref x0), (.int 2)] ((x0, .inr ((.object "java/lang/Object"), "[Ljava/lang/Object;", [(.ref x1), (.ref x2), .null, .null, .null, .null, .null, .null, .null, .null])) :: H) Lt (fun v vm h => ∃ a6, v = some (.ref a6) ∧ Hp g vm h ((a6, .inr ((.object "java/lang/Object"), "[Ljava/lang/Object;", [(.ref x1), (.ref x2)])) :: (x0, .inr ((.object "java/lang/Object"), "[Ljava/lang/Object;", [(.ref x1), (.ref x2), .null, .null, .null, .null, .null, .null, .null, .null])) :: H) (Lt)) := by
  refine CtW.body (Ls := #[.val (.ref x0), .val (.int 2)]) W (by decide +kernel) (efr rfl) ?_
  intro M T B
  refine p_aloadN B d47_0 rfl rfl rfl ?_
  refine p_iloadN B d47_1 rfl rfl ?_
  refine p_aloadN B d47_2 rfl rfl rfl ?_
  refine r_getClass B d47_3 rfl (W302 B.gw) (W303 B.gw) (W305 B.gw) (W304 B.gw) (W306 B.gw) (aE (i := 0) rfl (by decide)) (mi_ok W) rfl (W := 2) rfl (by decide) (by decide) fun T1 B2 => ?_
  refine r_static (D' := D48_q37) B2 d47_6 rfl (W308 B2.gw) (W309 B2.gw) (W205 B2.gw) (W310 B2.gw) (by decide) (k_q37 W x0 x1 x2 _ _ ms0 ms1) (argsL := [(.ref x0), (.int 2), (.ref (miOf g))]) (rest := []) rfl pd16 rfl rfl rfl (W := 0) rfl (cs' := 1) (ss' := 2) (by decide) (Kex fun a6 => Kv1 fun T3 B5 => ?_)
  exact r_reta B5 d47_9 rfl rfl rfl (by decide) (by decide) (fun vm h P => ⟨a6, rfl, P⟩)
abbrev D46_q35 := E46 3 1 2 46
theorem k_q35 {g : GG} (W : GW g) (x0 x1 x2 x3 : Addr) (H : List Ent) (Lt : List SE) (ms0 : StrIn Lt x2) (ms1 : StrIn Lt x3) : Ct g D46_q35 #[(.ref x0)] (oAL x0 (.int 2) (.ref x1) (.int 2) :: (x1, .inr ((.object "java/lang/Object"), "[Ljava/lang/Object;", [(.ref x2), (.ref x3), .null, .null, .null, .null, .null, .null, .null, .null])) :: H) Lt (fun v vm h => ∃ a9, v = some (.ref a9) ∧ Hp g vm h ((a9, .inr ((.object "java/lang/Object"), "[Ljava/lang/Object;", [(.ref x2), (.ref x3)])) :: (x1, .inr ((.object "java/lang/Object"), "[Ljava/lang/Object;", [(.ref x2), (.ref x3), .null, .null, .null, .null, .null, .null, .null, .null])) :: oAL x0 (.int 2) (.ref x1) (.int 2) :: H) (Lt)) := by
  refine CtW.body (Ls := #[.val (.ref x0)]) W (by decide +kernel) (efr rfl) ?_
  intro M T B
  refine p_aloadN B d46_0 rfl rfl rfl ?_
  refine r_get B d46_1 rfl (host := "") (Or.inl (W36 B.gw)) Via.refl (v := (.ref x1)) (fO (i := 0) (j := 1) rfl rfl) fun T1 B2 => ?_
  refine p_aloadN B2 d46_4 rfl rfl rfl ?_
  refine r_get B2 d46_5 rfl (host := "") (Or.inl (W73 B2.gw)) Via.refl (v := (.int 2)) (fO (i := 0) (j := 2) rfl rfl) fun T3 B4 => ?_
  have B5 := (B4.fr 1 rfl)
  refine r_static (D' := D47_q36) B5 d46_8 rfl (W299 B5.gw) (W300 B5.gw) (W205 B5.gw) (W301 B5.gw) (by decide) (k_q36 W x1 x2 x3 _ _ ms0 ms1) (argsL := [(.ref x1), (.int 2)]) (rest := []) rfl pd17 rfl rfl rfl (W := 0) rfl (cs' := 1) (ss' := 2) (by decide) (Kex fun a9 => Kv1 fun T6 B8 => ?_)
  exact r_reta B8 d46_11 rfl rfl rfl (by decide) (by decide) (fun vm h P => ⟨a9, rfl, P⟩)
abbrev D71_q40 := E71 4 0 0 48
theorem k_q40 {g : GG} (W : GW g) (x0 x1 x2 : Addr) (H : List Ent) (Lt : List SE) (ms0 : StrIn Lt x1) (ms1 : StrIn Lt x2) : Ct g D71_q40 #[(.ref x0), (.ref x1), (.ref x2)] (o12 x0 .null .null :: H) Lt (fun v vm h => v = none ∧ Hp g vm h (o12 x0 (.ref x1) (.ref x2) :: H) (Lt)) := by
  refine CtW.body (Ls := #[.val (.ref x0), .val (.ref x1), .val (.ref x2)]) W (by decide +kernel) (efr rfl) ?_
  intro M T B
  refine p_aloadN B d71_0 rfl rfl rfl ?_
  refine r_special (D' := D51_q29) B d71_1 rfl rfl rfl (W323 B.gw) (W324 B.gw) (W112 B.gw) (W327 B.gw) (by decide) (k_q29 W x0 _ _) (a := x0) (argsL := []) (rest := []) rfl pd8 rfl rfl rfl (W := 0) rfl (cs' := 0) (ss' := 0) (by decide) (Kv0 fun T1 B3 => ?_)
  refine p_aloadN B3 d71_4 rfl rfl rfl ?_
  refine p_aloadN B3 d71_5 rfl rfl rfl ?_
  refine r_static (D' := D53_q30) B3 d71_6 rfl (W336 B3.gw) (W337 B3.gw) (W338 B3.gw) (W339 B3.gw) (by decide) (k_q30 W x1 _ _ ms0) (argsL := [(.ref x1)]) (rest := [(.ref x0)]) rfl pd18 rfl rfl rfl (W := 1) rfl (cs' := 0) (ss' := 0) (by decide) (Kv1 fun T4 B6 => ?_)
  refine r_put B6 d71_9 rfl (host := "") (Or.inl (W340 B6.gw)) Via.refl (i := 0) (j := 0) rfl rfl (Or.inr ⟨(W341 B6.gw), rfl, rfl⟩) (W317 B6.gw) (ty := (.object "java/lang/Object")) (by decide) rfl rfl (H' := (o12 x0 (.ref x1) .null :: H)) rfl fun T7 B8 => ?_
  refine p_aloadN B8 d71_12 rfl rfl rfl ?_
  refine p_aloadN B8 d71_13 rfl rfl rfl ?_
  refine r_static (D' := D53_q30) B8 d71_14 rfl (W336 B8.gw) (W337 B8.gw) (W338 B8.gw) (W339 B8.gw) (by decide) (k_q30 W x2 _ _ ms1) (argsL := [(.ref x2)]) (rest := [(.ref x0)]) rfl pd18 rfl rfl rfl (W := 1) rfl (cs' := 0) (ss' := 0) (by decide) (Kv1 fun T9 B11 => ?_)
  refine r_put B11 d71_17 rfl (host := "") (Or.inl (W343 B11.gw)) Via.refl (i := 0) (j := 1) rfl rfl (Or.inr ⟨(W344 B11.gw), rfl, rfl⟩) (W317 B11.gw) (ty := (.object "java/lang/Object")) (by decide) rfl rfl (H' := (o12 x0 (.ref x1) (.ref x2) :: H)) rfl fun T12 B13 => ?_
  exact r_ret B13 d71_20 rfl (by decide) (by decide) (fun vm h P => ⟨rfl, P⟩)
abbrev D49_q39 := E49 5 1 2 63
theorem k_q39 {g : GG} (W : GW g) (x0 x1 x2 : Addr) (H : List Ent) (Lt : List SE) (ms0 : StrIn Lt x1) (ms1 : StrIn Lt x2) : Ct g D49_q39 #[(.ref x0)] ((x0, .inr ((.object "java/lang/Object"), "[Ljava/lang/Object;", [(.ref x1), (.ref x2)])) :: H) Lt (fun v vm h => ∃ a3, v = some (.ref a3) ∧ Hp g vm h (o12 a3 (.ref x1) (.ref x2) :: (x0, .inr ((.object "java/lang/Object"), "[Ljava/lang/Object;", [(.ref x1), (.ref x2)])) :: H) (Lt)) := by
  refine CtW.body (Ls := #[.val (.ref x0), .unset]) W (by decide +kernel) (efr rfl) ?_
  intro M T B
  refine p_aloadN B d49_0 rfl rfl rfl ?_
  refine r_alen B d49_1 rfl (aH (i := 0) rfl) (z := (2 : Int32)) rfl ?_
  refine p_tswIn B d49_2 (pc' := 45) (by decide) (off := 43) (by first | rfl | decide) (by decide) (by decide) ?_
  refine r_new B d49_45 rfl (W316 B.gw) (W317 B.gw) (W318 B.gw) (Ly_o12 B.gw) (by decide) (cs' := 1) rfl (ss' := 2) rfl (by decide) (by decide) fun T1 a3 B2 => ?_
  refine p_dup B2 d49_48 rfl rfl ?_
  refine p_aloadN B2 d49_49 rfl rfl rfl ?_
  refine p_iconst B2 d49_50 rfl (v := (0 : Int32)) (by decide) ?_
  refine r_aget B2 d49_51 rfl rfl (aH (i := 1) rfl) (k := 0) (by decide) rfl ?_
  refine p_aloadN B2 d49_52 rfl rfl rfl ?_
  refine p_iconst B2 d49_53 rfl (v := (1 : Int32)) (by decide) ?_
  refine r_aget B2 d49_54 rfl rfl (aH (i := 1) rfl) (k := 1) (by decide) rfl ?_
  refine r_special (D' := D71_q40) B2 d49_55 rfl rfl rfl (W431 B2.gw) (W432 B2.gw) (W318 B2.gw) (W433 B2.gw) (by decide) (k_q40 W a3 x1 x2 _ _ ms0 ms1) (a := a3) (argsL := [(.ref x1), (.ref x2)]) (rest := [(.ref a3)]) rfl pd21 rfl rfl rfl (W := 1) rfl (cs' := 1) (ss' := 2) (by decide) (Kv0 fun T4 B6 => ?_)
  exact r_reta B6 d49_58 rfl rfl rfl (by decide) (by decide) (fun vm h P => ⟨a3, rfl, P⟩)
abbrev D9_q32 := E9 6 2 4 76
theorem k_q32 {g : GG} (W : GW g) (x0 x1 x2 x3 : Addr) (H : List Ent) (Lt : List SE) (ms0 : StrIn Lt x2) (ms1 : StrIn Lt x3) : Ct g D9_q32 #[(.ref x0)] (oAL x0 (.int 2) (.ref x1) (.int 2) :: (x1, .inr ((.object "java/lang/Object"), "[Ljava/lang/Object;", [(.ref x2), (.ref x3), .null, .null, .null, .null, .null, .null, .null, .null])) :: H) Lt (fun v vm h => ∃ a15, v = some (.ref a15) ∧ Hp g vm h (o12 a15 (.ref x2) (.ref x3) :: (x1, .inr ((.object "java/lang/Object"), "[Ljava/lang/Object;", [(.ref x2), (.ref x3), .null, .null, .null, .null, .null, .null, .null, .null])) :: oAL x0 (.int 2) (.ref x1) (.int 2) :: H) (Lt)) := by
  refine CtW.body (Ls := #[.val (.ref x0), .unset]) W (by decide +kernel) (efr rfl) ?_
  intro M T B
  refine p_aloadN B d9_0 rfl rfl rfl ?_
  refine r_inst0 B d9_1 rfl (W58 B.gw) (fun vm h E P => ins_chain ((fE (i := 0) rfl) vm h E P) (W59 B.gw) (NS.step (W59 B.gw) (NS.step (W60 B.gw) (NS.step (W61 B.gw) (ns_root (W62 B.gw) (W317 B.gw) (by decide)) (by decide)) (by decide)) (by decide)) (W317 B.gw) (by decide)) (fE (i := 0) rfl) fun T1 B2 => ?_
  refine b_ifF B2 d9_4 (pc' := 7) rfl (show (0 : Int32) = (0 : Int32) from by decide) ?_
  refine p_aloadN B2 d9_7 rfl rfl rfl ?_
  refine r_inst0 B2 d9_8 rfl (W63 B2.gw) (fun vm h E P => ins_chain2 ((fE (i := 0) rfl) vm h E P) (W59 B2.gw) (NS.step (W59 B2.gw) (NS.step (W60 B2.gw) (NS.step (W61 B2.gw) (ns_root2 (W62 B2.gw) (W120 B2.gw) rfl (by decide)) (by decide)) (by decide)) (by decide)) (W120 B2.gw) rfl (by decide)) (fE (i := 0) rfl) fun T3 B4 => ?_
  refine b_ifT B4 d9_11 (pc' := 31) (show (0 : Int32) = (0 : Int32) from by decide) (by decide) (by decide) ?_
  refine p_aloadN B4 d9_31 rfl rfl rfl ?_
  refine r_iface (D' := D10_q34) B4 d9_32 rfl (W64 B4.gw) (W65 B4.gw) (W66 B4.gw) (by first | rfl | decide) (W67 B4.gw) (W68 B4.gw) (W69 B4.gw) (W70 B4.gw) (W71 B4.gw) (W14 B4.gw) (W72 B4.gw) (by decide) (fE (i := 0) rfl) (k_q34 W x0 x1 _ _) (argsL := []) (rest := []) rfl pd13 rfl rfl rfl (W := 0) rfl (cs' := 0) (ss' := 0) (by decide) (Kv1 fun T5 B7 => ?_)
  refine b_ifT B7 d9_37 (pc' := 44) (show (0 : Int32) = (0 : Int32) from by decide) (by decide) (by decide) ?_
  refine p_aloadN B7 d9_44 rfl rfl rfl ?_
  refine r_iface (D' := D46_q35) B7 d9_45 rfl (W291 B7.gw) (W292 B7.gw) (W293 B7.gw) (by first | rfl | decide) (W294 B7.gw) (W295 B7.gw) (W296 B7.gw) (W297 B7.gw) (W71 B7.gw) (W14 B7.gw) (W298 B7.gw) (by decide) (fE (i := 0) rfl) (k_q35 W x0 x1 x2 x3 _ _ ms0 ms1) (argsL := []) (rest := []) rfl pd11 rfl rfl rfl (W := 0) rfl (cs' := 1) (ss' := 2) (by decide) (Kex fun a11 => Kv1 fun T8 B10 => ?_)
  refine r_static (D' := D49_q39) B10 d9_50 rfl (W313 B10.gw) (W314 B10.gw) (W52 B10.gw) (W315 B10.gw) (by decide) (k_q39 W a11 x2 x3 _ _ ms0 ms1) (argsL := [(.ref a11)]) (rest := []) rfl pd20 rfl rfl rfl (W := 0) rfl (cs' := 2) (ss' := 4) (by decide) (Kex fun a15 => Kv1 fun T12 B14 => ?_)
  have B16 := (B14.dl 1)
  exact r_reta B16 d9_53 rfl rfl rfl (by decide) (by decide) (fun vm h P => ⟨a15, rfl, P⟩)
abbrev D8_q31 := E8 7 2 4 89
theorem k_q31 {g : GG} (W : GW g) (x0 x1 x2 x3 : Addr) (H : List Ent) (Lt : List SE) (ms0 : StrIn Lt x2) (ms1 : StrIn Lt x3) : Ct g D8_q31 #[(.ref x0)] (oAL x0 (.int 2) (.ref x1) (.int 2) :: (x1, .inr ((.object "java/lang/Object"), "[Ljava/lang/Object;", [(.ref x2), (.ref x3), .null, .null, .null, .null, .null, .null, .null, .null])) :: H) Lt (fun v vm h => ∃ a4, v = some (.ref a4) ∧ Hp g vm h (o12 a4 (.ref x2) (.ref x3) :: (x1, .inr ((.object "java/lang/Object"), "[Ljava/lang/Object;", [(.ref x2), (.ref x3), .null, .null, .null, .null, .null, .null, .null, .null])) :: oAL x0 (.int 2) (.ref x1) (.int 2) :: H) (Lt)) := by
  refine CtW.body (Ls := #[.val (.ref x0)]) W (by decide +kernel) (efr rfl) ?_
  intro M T B
  refine p_aloadN B d8_0 rfl rfl rfl ?_
  refine r_static (D' := D9_q32) B d8_1 rfl (W54 B.gw) (W55 B.gw) (W56 B.gw) (W57 B.gw) (by decide) (k_q32 W x0 x1 x2 x3 _ _ ms0 ms1) (argsL := [(.ref x0)]) (rest := []) rfl pd15 rfl rfl rfl (W := 0) rfl (cs' := 2) (ss' := 4) (by decide) (Kex fun a4 => Kv1 fun T1 B3 => ?_)
  exact r_reta B3 d8_4 rfl rfl rfl (by decide) (by decide) (fun vm h P => ⟨a4, rfl, P⟩)
theorem c_ei2 {g : GG} (W : GW g) (ev a b x0 x1 : Addr) (H : List Ent) (Lt : List SE) (ms0 : StrIn Lt x0) (ms1 : StrIn Lt x1) : Ct g D6_w #[(.ref ev), (.ref a)] (oEV ev .null :: (AL g a b [x0, x1] ++ H)) Lt (fun v vm h => ∃ c d, v = none ∧ Hp g vm h (oEV ev (.ref (ilA g c [x0, x1])) :: (AL g a b [x0, x1] ++ (IL g c d [x0, x1] ++ H))) Lt) := by
  refine CtW.body (Ls := #[.val (.ref ev), .val (.ref a)]) W (by decide +kernel) (efr rfl) ?_
  intro M T B
  replace B : RH g D6_w M T (oEV ev .null :: oAL a (.int 2) (.ref b) (.int 2) :: (b, .inr ((.object "java/lang/Object"), "[Ljava/lang/Object;", [(.ref x0), (.ref x1), .null, .null, .null, .null, .null, .null, .null, .null])) :: H) Lt 0 0 := B
  refine p_aloadN B d6_0 rfl rfl rfl ?_
  refine r_special (D' := D7_q10) B d6_1 rfl rfl rfl (W44 B.gw) (W45 B.gw) (W47 B.gw) (W48 B.gw) (by decide) (k_q10 W ev _ _) (a := ev) (argsL := []) (rest := []) rfl pd8 rfl rfl rfl (W := 0) rfl (cs' := 0) (ss' := 0) (by decide) (Kv0 fun T1 B3 => ?_)
  refine p_aloadN B3 d6_4 rfl rfl rfl ?_
  have B4 := ((B3.fr 2 rfl).fr 2 rfl)
  refine r_static (D' := D8_q31) B4 d6_5 rfl (W50 B4.gw) (W51 B4.gw) (W52 B4.gw) (W53 B4.gw) (by decide) (k_q31 W a b x0 x1 _ _ ms0 ms1) (argsL := [(.ref a)]) (rest := []) rfl pd15 rfl rfl rfl (W := 0) rfl (cs' := 2) (ss' := 4) (by decide) (Kex fun a8 => Kv1 fun T5 B7 => ?_)
  refine p_astoreN B7 d6_8 rfl rfl (Ls' := #[.val (.ref ev), .val (.ref a8)]) rfl ?_
  refine p_aloadN B7 d6_9 rfl rfl rfl ?_
  refine p_aloadN B7 d6_10 rfl rfl rfl ?_
  refine r_put B7 d6_11 rfl (host := "") (Or.inl (W79 B7.gw)) Via.refl (i := 3) (j := 0) rfl rfl (Or.inr ⟨(W80 B7.gw), rfl, rfl⟩) (W39 B7.gw) (ty := (.object "java/util/List")) (by decide) rfl rfl (H' := (o12 a8 (.ref x0) (.ref x1) :: (b, .inr ((.object "java/lang/Object"), "[Ljava/lang/Object;", [(.ref x0), (.ref x1), .null, .null, .null, .null, .null, .null, .null, .null])) :: oAL a (.int 2) (.ref b) (.int 2) :: oEV ev (.ref a8) :: H)) rfl fun T9 B10 => ?_
  have B11 := (((B10.fr 1 rfl).fr 2 rfl).fr 3 rfl)
  exact r_ret B11 d6_14 rfl (by decide) (by decide) (fun vm h P => ⟨a8, 0, rfl, P⟩)
theorem W_ei {g : GG} (W : GW g) (ev a b : Addr) (L : List Addr) (hl : L.length ≤ 2) (H : List Ent) (Lt : List SE) (hs : ∀ x ∈ L, StrIn Lt x) : Ct g D6_w #[.ref ev, .ref a] (oEV ev .null :: (AL g a b L ++ H)) Lt (fun v vm h => ∃ c d, v = none ∧ Hp g vm h (oEV ev (.ref (ilA g c L)) :: (AL g a b L ++ (IL g c d L ++ H))) Lt) :=
  match L, hl, hs with
  | [], _, hs => c_ei0 W ev a b  H Lt
  | [x0], _, hs => c_ei1 W ev a b x0 H Lt (hs x0 (by simp))
  | [x0, x1], _, hs => c_ei2 W ev a b x0 x1 H Lt (hs x0 (by simp)) (hs x1 (by simp))
  | _ :: _ :: _ :: _, h, _ => absurd h (by simp only [List.length_cons]; omega)
abbrev D21_q42 := E21 0 0 0 0
theorem k_q42 {g : GG} (W : GW g) (x0 x1 : Addr) (cs ds : List Int32) (H : List Ent) (Lt : List SE) (hf0 : ¬ ((0 : Int32) < ((Int32.ofNat (cs ++ ds).length) - (16 : Int32)))) (hl : cs.length + ds.length ≤ 15) : Ct g D21_q42 #[(.ref x0), (.int (Int32.ofNat (cs ++ ds).length))] (oSB x0 (.ref x1) (.int 0) (.int (Int32.ofNat cs.length)) :: (x1, .inr (.byte, "[B", (sbv cs))) :: H) Lt (fun v vm h => v = none ∧ Hp g vm h (oSB x0 (.ref x1) (.int 0) (.int (Int32.ofNat cs.length)) :: (x1, .inr (.byte, "[B", (sbv cs))) :: H) (Lt)) := by
  refine CtW.body (Ls := #[.val (.ref x0), .val (.int (Int32.ofNat (cs ++ ds).length)), .unset]) W (by decide +kernel) (efr rfl) ?_
  intro M T B
  refine p_aloadN B d21_0 rfl rfl rfl ?_
  refine r_get B d21_1 rfl (host := "") (Or.inl (W100 B.gw)) Via.refl (v := (.ref x1)) (fO (i := 0) (j := 0) rfl rfl) fun T1 B2 => ?_
  refine r_alen B2 d21_4 rfl (aH (i := 1) rfl) (z := (16 : Int32)) (by rw [sbl (by omega)]; rfl) ?_
  refine p_aloadN B2 d21_5 rfl rfl rfl ?_
  refine r_get B2 d21_6 rfl (host := "") (Or.inl (W102 B2.gw)) Via.refl (v := (.int 0)) (fO (i := 0) (j := 1) rfl rfl) fun T3 B4 => ?_
  refine p_ishr B4 d21_9 rfl (z := (16 : Int32)) (by decide) ?_
  refine p_istoreN B4 d21_10 rfl (Ls' := #[.val (.ref x0), .val (.int (Int32.ofNat (cs ++ ds).length)), .val (.int 16)]) rfl ?_
  refine p_iloadN B4 d21_11 rfl rfl ?_
  refine p_iloadN B4 d21_12 rfl rfl ?_
  refine p_isub B4 d21_13 rfl rfl ?_
  refine b_ifT B4 d21_14 (pc' := 38) hf0 (by decide) (by decide) ?_
  exact r_ret B4 d21_38 rfl (by decide) (by decide) (fun vm h P => ⟨rfl, P⟩)
abbrev D60_q45 := E60 1 0 0 13
theorem k_q45 {g : GG} (W : GW g) (x0 x1 x2 : Addr) (cs ds : List Int32) (H : List Ent) (Lt : List SE) {sb0 : Addr} (ms0 : (x1, sb0, 0, (ds.map Value.int)) ∈ Lt) (hf0 : ¬ ((0 : Int32) < ((Int32.ofNat (cs ++ ds).length) - (16 : Int32)))) (hl : cs.length + ds.length ≤ 15) : Ct g D60_q45 #[(.ref x0), (.ref x1)] (oSB x0 (.ref x2) (.int 0) (.int (Int32.ofNat cs.length)) :: H) Lt (fun v vm h => v = none ∧ Hp g vm h (oSB x0 (.ref x2) (.int 0) (.int (Int32.ofNat cs.length)) :: H) (Lt)) := by
  refine CtW.body (Ls := #[.val (.ref x0), .val (.ref x1)]) W (by decide +kernel) (efr rfl) ?_
  intro M T B
  obtain ⟨cz1, hcz1, gcz1⟩ := compact W
  refine r_gets B d60_0 rfl (host := "") (Or.inl (W99 B.gw)) Via.refl (v := (.int cz1)) hcz1 fun T2 B3 => ?_
  refine b_ifF B3 d60_3 (pc' := 6) rfl gcz1 ?_
  refine p_aloadN B3 d60_6 rfl rfl rfl ?_
  refine r_get B3 d60_7 rfl (host := "") (Or.inl (W102 B3.gw)) Via.refl (v := (.int 0)) (fO (i := 0) (j := 1) rfl rfl) fun T4 B5 => ?_
  refine p_aloadN B5 d60_10 rfl rfl rfl ?_
  refine r_virtual (D' := D35_w) B5 d60_11 rfl (W392 B5.gw) (W230 B5.gw) (W232 B5.gw) (fun vm0 hZ => notFace_of_selects (args := #[]) (mvT hZ (W232 B5.gw))) (W231 B5.gw) (W5 B5.gw) (W233 B5.gw) (by decide) (sE ms0) (c_cd W x1 _ _ ms0) (argsL := []) (rest := [(.int 0)]) rfl pd7 rfl rfl rfl (W := 1) rfl (cs' := 0) (ss' := 0) (by decide) (Kv1 fun T6 B8 => ?_)
  refine b_icT B8 d60_14 (pc' := 21) (show (0 : Int32) = (0 : Int32) from by decide) (by decide) (by decide) ?_
  exact r_ret B8 d60_21 rfl (by decide) (by decide) (fun vm h P => ⟨rfl, P⟩)
abbrev D61_q46 := E61 1 0 0 18
theorem k_q46 {g : GG} (W : GW g) (x0 x1 : Addr) (cs ds : List Int32) (H : List Ent) (Lt : List SE) {sb0 : Addr} (ms0 : (x0, sb0, 0, (ds.map Value.int)) ∈ Lt) (hf0 : ¬ ((0 : Int32) < ((Int32.ofNat (cs ++ ds).length) - (16 : Int32)))) (hl : cs.length + ds.length ≤ 15) : Ct g D61_q46 #[(.ref x0), (.ref x1), (.int (Int32.ofNat cs.length)), (.int 0)] ((x1, .inr (.byte, "[B", (sbv cs))) :: H) Lt (fun v vm h => v = none ∧ Hp g vm h ((x1, .inr (.byte, "[B", (sbv (cs ++ ds)))) :: H) (Lt)) := by
  refine CtW.body (Ls := #[.val (.ref x0), .val (.ref x1), .val (.int (Int32.ofNat cs.length)), .val (.int 0)]) W (by decide +kernel) (efr rfl) ?_
  intro M T B
  refine p_aloadN B d61_0 rfl rfl rfl ?_
  refine r_virtual (D' := D35_w) B d61_1 rfl (W229 B.gw) (W230 B.gw) (W232 B.gw) (fun vm0 hZ => notFace_of_selects (args := #[]) (mvT hZ (W232 B.gw))) (W231 B.gw) (W5 B.gw) (W233 B.gw) (by decide) (sE ms0) (c_cd W x0 _ _ ms0) (argsL := []) (rest := []) rfl pd7 rfl rfl rfl (W := 0) rfl (cs' := 0) (ss' := 0) (by decide) (Kv1 fun T1 B3 => ?_)
  refine p_iloadN B3 d61_4 rfl rfl ?_
  refine b_icF B3 d61_5 (pc' := 8) rfl (show (0 : Int32) = (0 : Int32) from by decide) ?_
  refine p_aloadN B3 d61_8 rfl rfl rfl ?_
  refine r_get B3 d61_9 rfl (host := "") (Or.inl (W221 B3.gw)) Via.refl (v := (.ref sb0)) (sV ms0) fun T4 B5 => ?_
  refine p_iconst B5 d61_12 rfl (v := (0 : Int32)) (by decide) ?_
  refine p_aloadN B5 d61_13 rfl rfl rfl ?_
  refine p_iloadN B5 d61_14 rfl rfl ?_
  refine p_iloadN B5 d61_15 rfl rfl ?_
  refine p_ishl B5 d61_16 rfl (z := (Int32.ofNat cs.length)) (shl0 _) ?_
  refine p_aloadN B5 d61_17 rfl rfl rfl ?_
  refine r_get B5 d61_18 rfl (host := "") (Or.inl (W221 B5.gw)) Via.refl (v := (.ref sb0)) (sV ms0) fun T6 B7 => ?_
  refine r_alen B7 d61_21 rfl (sA ms0) (z := (Int32.ofNat ds.length)) (by rw [List.length_map]) ?_
  refine r_acopy B7 d61_22 (pc' := 25) (s0 := 0) (d0 := cs.length) (n0 := ds.length) (us := (ds.map Value.int)) (vd' := (sbv (cs ++ ds))) rfl (W398 B7.gw) (W220 B7.gw) (W218 B7.gw) (W219 B7.gw) (sA ms0) (i := 0) rfl (Or.inl ⟨rfl, rfl⟩) (by decide) (by decide) (n31 (by omega)) (n31c (by omega)) (n31 (by omega)) (n31c (by omega)) (by rw [List.length_map]; omega) (by rw [sbl (by omega)]; omega) (by rw [List.drop_zero]; exact List.take_of_length_le (by rw [List.length_map]; exact Nat.le_refl _)) (sbc (by omega)) (H' := ((x1, .inr (.byte, "[B", (sbv (cs ++ ds)))) :: H)) rfl rfl (W := 0) rfl (by decide) (by decide) fun T8 B9 => ?_
  refine b_goto B9 d61_25 (pc' := 43) (by decide) (by decide) ?_
  exact r_ret B9 d61_43 rfl (by decide) (by decide) (fun vm h P => ⟨rfl, P⟩)
abbrev D59_q43 := E59 2 0 0 33
theorem k_q43 {g : GG} (W : GW g) (x0 x1 x2 : Addr) (cs ds : List Int32) (H : List Ent) (Lt : List SE) {sb0 : Addr} (ms0 : (x1, sb0, 0, (ds.map Value.int)) ∈ Lt) (hf0 : ¬ ((0 : Int32) < ((Int32.ofNat (cs ++ ds).length) - (16 : Int32)))) (hl : cs.length + ds.length ≤ 15) : Ct g D59_q43 #[(.ref x0), (.int (Int32.ofNat cs.length)), (.ref x1)] (oSB x0 (.ref x2) (.int 0) (.int (Int32.ofNat cs.length)) :: (x2, .inr (.byte, "[B", (sbv cs))) :: H) Lt (fun v vm h => v = none ∧ Hp g vm h ((x2, .inr (.byte, "[B", (sbv (cs ++ ds)))) :: oSB x0 (.ref x2) (.int 0) (.int (Int32.ofNat cs.length)) :: H) (Lt)) := by
  refine CtW.body (Ls := #[.val (.ref x0), .val (.int (Int32.ofNat cs.length)), .val (.ref x1)]) W (by decide +kernel) (efr rfl) ?_
  intro M T B
  refine p_aloadN B d59_0 rfl rfl rfl ?_
  refine p_aloadN B d59_1 rfl rfl rfl ?_
  refine r_privateS (D' := D60_q45) B d59_2 rfl (W387 B.gw) (W389 B.gw) (W390 B.gw) (W388 B.gw) (W96 B.gw) (W391 B.gw) (by decide) (fE (i := 0) rfl) (k_q45 W x0 x1 x2 cs ds _ _ ms0 hf0 hl) (argsL := [(.ref x1)]) (rest := []) rfl pd24 rfl rfl rfl (W := 0) rfl (cs' := 0) (ss' := 0) (by decide) (Kv0 fun T1 B3 => ?_)
  refine p_aloadN B3 d59_5 rfl rfl rfl ?_
  refine p_aloadN B3 d59_6 rfl rfl rfl ?_
  refine r_get B3 d59_7 rfl (host := "") (Or.inl (W100 B3.gw)) Via.refl (v := (.ref x2)) (fO (i := 0) (j := 0) rfl rfl) fun T4 B5 => ?_
  refine p_iloadN B5 d59_10 rfl rfl ?_
  refine p_aloadN B5 d59_11 rfl rfl rfl ?_
  refine r_get B5 d59_12 rfl (host := "") (Or.inl (W102 B5.gw)) Via.refl (v := (.int 0)) (fO (i := 0) (j := 1) rfl rfl) fun T6 B7 => ?_
  have B8 := (B7.fr 1 rfl)
  refine r_virtual (D' := D61_q46) B8 d59_15 rfl (W393 B8.gw) (W394 B8.gw) (W396 B8.gw) (fun vm0 hZ => notFace_of_selects (args := #[]) (mvT hZ (W396 B8.gw))) (W395 B8.gw) (W5 B8.gw) (W397 B8.gw) (by decide) (sE ms0) (k_q46 W x1 x2 cs ds _ _ ms0 hf0 hl) (argsL := [(.ref x2), (.int (Int32.ofNat cs.length)), (.int 0)]) (rest := []) rfl pd25 rfl rfl rfl (W := 0) rfl (cs' := 0) (ss' := 0) (by decide) (Kv0 fun T9 B11 => ?_)
  exact r_ret B11 d59_18 rfl (by decide) (by decide) (fun vm h P => ⟨rfl, P⟩)
abbrev D57_q41 := E57 3 0 0 47
theorem k_q41 {g : GG} (W : GW g) (x0 x1 x2 : Addr) (cs ds : List Int32) (H : List Ent) (Lt : List SE) {sb0 : Addr} (ms0 : (x1, sb0, 0, (ds.map Value.int)) ∈ Lt) (hf0 : ¬ ((0 : Int32) < ((Int32.ofNat (cs ++ ds).length) - (16 : Int32)))) (hl : cs.length + ds.length ≤ 15) : Ct g D57_q41 #[(.ref x0), (.ref x1)] (oSB x0 (.ref x2) (.int 0) (.int (Int32.ofNat cs.length)) :: (x2, .inr (.byte, "[B", (sbv cs))) :: H) Lt (fun v vm h => v = some (.ref x0) ∧ Hp g vm h ((x2, .inr (.byte, "[B", (sbv (cs ++ ds)))) :: oSB x0 (.ref x2) (.int 0) (.int (Int32.ofNat (cs ++ ds).length)) :: H) (Lt)) := by
  refine CtW.body (Ls := #[.val (.ref x0), .val (.ref x1), .unset]) W (by decide +kernel) (efr rfl) ?_
  intro M T B
  refine p_aloadN B d57_0 rfl rfl rfl ?_
  refine b_nnT B d57_1 (pc' := 9) (by decide) (by decide) ?_
  refine p_aloadN B d57_9 rfl rfl rfl ?_
  refine r_virtual (D' := D58_w) B d57_10 rfl (W377 B.gw) (W378 B.gw) (W380 B.gw) (fun vm0 hZ => notFace_of_selects (args := #[]) (mvT hZ (W380 B.gw))) (W379 B.gw) (W5 B.gw) (W381 B.gw) (by decide) (sE ms0) (c_len W x1 _ _ ms0) (argsL := []) (rest := []) rfl pd22 rfl rfl rfl (W := 0) rfl (cs' := 0) (ss' := 0) (by decide) (Kv1 fun T1 B3 => ?_)
  show Fn g D57_q41 M _ (T1.setTop (mkF M.m 13 #[.val (.ref x0), .val (.ref x1), .unset] [(.int (Int32.ofNat (ds.map Value.int).length))]))
  rw [List.length_map]
  refine p_istoreN B3 d57_13 rfl (Ls' := #[.val (.ref x0), .val (.ref x1), .val (.int (Int32.ofNat ds.length))]) rfl ?_
  refine p_aloadN B3 d57_14 rfl rfl rfl ?_
  refine p_aloadN B3 d57_15 rfl rfl rfl ?_
  refine r_get B3 d57_16 rfl (host := "") (Or.inl (W158 B3.gw)) Via.refl (v := (.int (Int32.ofNat cs.length))) (fO (i := 0) (j := 2) rfl rfl) fun T4 B5 => ?_
  refine p_iloadN B5 d57_19 rfl rfl ?_
  refine p_iadd B5 d57_20 rfl (z := (Int32.ofNat (cs ++ ds).length)) addN ?_
  refine r_privateS (D' := D21_q42) B5 d57_21 rfl (W160 B5.gw) (W162 B5.gw) (W163 B5.gw) (W161 B5.gw) (W96 B5.gw) (W164 B5.gw) (by decide) (fE (i := 0) rfl) (k_q42 W x0 x2 cs ds _ _ hf0 hl) (argsL := [(.int (Int32.ofNat (cs ++ ds).length))]) (rest := []) rfl pd23 rfl rfl rfl (W := 0) rfl (cs' := 0) (ss' := 0) (by decide) (Kv0 fun T6 B8 => ?_)
  refine p_aloadN B8 d57_24 rfl rfl rfl ?_
  refine p_aloadN B8 d57_25 rfl rfl rfl ?_
  refine r_get B8 d57_26 rfl (host := "") (Or.inl (W158 B8.gw)) Via.refl (v := (.int (Int32.ofNat cs.length))) (fO (i := 0) (j := 2) rfl rfl) fun T9 B10 => ?_
  refine p_aloadN B10 d57_29 rfl rfl rfl ?_
  refine r_privateS (D' := D59_q43) B10 d57_30 rfl (W382 B10.gw) (W384 B10.gw) (W385 B10.gw) (W383 B10.gw) (W96 B10.gw) (W386 B10.gw) (by decide) (fE (i := 0) rfl) (k_q43 W x0 x1 x2 cs ds _ _ ms0 hf0 hl) (argsL := [(.int (Int32.ofNat cs.length)), (.ref x1)]) (rest := []) rfl pd26 rfl rfl rfl (W := 0) rfl (cs' := 0) (ss' := 0) (by decide) (Kv0 fun T11 B13 => ?_)
  refine p_aloadN B13 d57_33 rfl rfl rfl ?_
  refine p_dup B13 d57_34 rfl rfl ?_
  refine r_get B13 d57_35 rfl (host := "") (Or.inl (W158 B13.gw)) Via.refl (v := (.int (Int32.ofNat cs.length))) (fO (i := 1) (j := 2) rfl rfl) fun T14 B15 => ?_
  refine p_iloadN B15 d57_38 rfl rfl ?_
  refine p_iadd B15 d57_39 rfl (z := (Int32.ofNat (cs ++ ds).length)) addN ?_
  refine r_put B15 d57_40 rfl (host := "") (Or.inl (W158 B15.gw)) Via.refl (i := 1) (j := 2) rfl rfl (Or.inl (W159 B15.gw)) (W87 B15.gw) (ty := .int) (by decide) rfl rfl (H' := ((x2, .inr (.byte, "[B", (sbv (cs ++ ds)))) :: oSB x0 (.ref x2) (.int 0) (.int (Int32.ofNat (cs ++ ds).length)) :: H)) rfl fun T16 B17 => ?_
  refine p_aloadN B17 d57_43 rfl rfl rfl ?_
  exact r_reta B17 d57_44 rfl rfl rfl (by decide) (by decide) (fun vm h P => ⟨rfl, P⟩)
abbrev D56_w := E56 4 0 0 61
theorem W_ap {g : GG} (W : GW g) (sb vb dt : Addr) (cs ds : List Int32) (H : List Ent) (Lt : List SE) {db : Addr} (md : (dt, db, 0, ds.map Value.int) ∈ Lt) (hl : cs.length + ds.length ≤ 15) : Ct g D56_w #[(.ref sb), (.ref dt)] (SBo sb vb cs ++ H) Lt (fun v vm h => v = some (.ref sb) ∧ Hp g vm h (SBo sb vb (cs ++ ds) ++ H) Lt) := by
  refine CtW.body (Ls := #[.val (.ref sb), .val (.ref dt)]) W (by decide +kernel) (efr rfl) ?_
  intro M T B
  replace B : RH g D56_w M T (oSB sb (.ref vb) (.int 0) (.int (Int32.ofNat cs.length)) :: (vb, .inr (.byte, "[B", (sbv cs))) :: H) Lt 0 0 := B
  refine p_aloadN B d56_0 rfl rfl rfl ?_
  refine p_aloadN B d56_1 rfl rfl rfl ?_
  refine r_super (D' := D57_q41) B d56_2 rfl (by decide) (same_self (W374 B.gw) (W163 B.gw) rfl (by decide)) (W155 B.gw) (fE (i := 0) rfl) (W373 B.gw) (W374 B.gw) (W96 B.gw) (W376 B.gw) (by decide) (k_q41 W sb dt vb cs ds _ _ md (le16 (by rw [List.length_append]; omega)) hl) (a := sb) (argsL := [(.ref dt)]) (rest := []) rfl pd27 rfl rfl rfl (W := 0) rfl (cs' := 0) (ss' := 0) (by decide) (Kv1 fun T1 B3 => ?_)
  refine p_pop B3 d56_5 rfl rfl ?_
  refine p_aloadN B3 d56_6 rfl rfl rfl ?_
  have B4 := (B3.fr 1 rfl)
  exact r_reta B4 d56_7 rfl rfl rfl (by decide) (by decide) (fun vm h P => ⟨rfl, P⟩)
abbrev D21_q48 := E21 0 0 0 0
theorem k_q48 {g : GG} (W : GW g) (x0 x1 : Addr) (cs : List Int32) (H : List Ent) (Lt : List SE) (hf0 : ¬ ((0 : Int32) < ((Int32.ofNat (cs ++ [(10 : Int32)]).length) - (16 : Int32)))) (hl : cs.length ≤ 14) : Ct g D21_q48 #[(.ref x0), (.int (Int32.ofNat (cs ++ [(10 : Int32)]).length))] (oSB x0 (.ref x1) (.int 0) (.int (Int32.ofNat cs.length)) :: (x1, .inr (.byte, "[B", (sbv cs))) :: H) Lt (fun v vm h => v = none ∧ Hp g vm h (oSB x0 (.ref x1) (.int 0) (.int (Int32.ofNat cs.length)) :: (x1, .inr (.byte, "[B", (sbv cs))) :: H) (Lt)) := by
  refine CtW.body (Ls := #[.val (.ref x0), .val (.int (Int32.ofNat (cs ++ [(10 : Int32)]).length)), .unset]) W (by decide +kernel) (efr rfl) ?_
  intro M T B
  refine p_aloadN B d21_0 rfl rfl rfl ?_
  refine r_get B d21_1 rfl (host := "") (Or.inl (W100 B.gw)) Via.refl (v := (.ref x1)) (fO (i := 0) (j := 0) rfl rfl) fun T1 B2 => ?_
  refine r_alen B2 d21_4 rfl (aH (i := 1) rfl) (z := (16 : Int32)) (by rw [sbl (by omega)]; rfl) ?_
  refine p_aloadN B2 d21_5 rfl rfl rfl ?_
  refine r_get B2 d21_6 rfl (host := "") (Or.inl (W102 B2.gw)) Via.refl (v := (.int 0)) (fO (i := 0) (j := 1) rfl rfl) fun T3 B4 => ?_
  refine p_ishr B4 d21_9 rfl (z := (16 : Int32)) (by decide) ?_
  refine p_istoreN B4 d21_10 rfl (Ls' := #[.val (.ref x0), .val (.int (Int32.ofNat (cs ++ [(10 : Int32)]).length)), .val (.int 16)]) rfl ?_
  refine p_iloadN B4 d21_11 rfl rfl ?_
  refine p_iloadN B4 d21_12 rfl rfl ?_
  refine p_isub B4 d21_13 rfl rfl ?_
  refine b_ifT B4 d21_14 (pc' := 38) hf0 (by decide) (by decide) ?_
  exact r_ret B4 d21_38 rfl (by decide) (by decide) (fun vm h P => ⟨rfl, P⟩)
abbrev D22_q50 := E22 0 0 0 0
theorem k_q50 {g : GG} (W : GW g) (x0 x1 : Addr) (cs : List Int32) (H : List Ent) (Lt : List SE) (hf0 : ¬ ((0 : Int32) < ((Int32.ofNat (cs ++ [(10 : Int32)]).length) - (16 : Int32)))) (hl : cs.length ≤ 14) : Ct g D22_q50 #[(.ref x0)] (oSB x0 (.ref x1) (.int 0) (.int (Int32.ofNat cs.length)) :: H) Lt (fun v vm h => v = some (.int 1) ∧ Hp g vm h (oSB x0 (.ref x1) (.int 0) (.int (Int32.ofNat cs.length)) :: H) (Lt)) := by
  refine CtW.body (Ls := #[.val (.ref x0)]) W (by decide +kernel) (efr rfl) ?_
  intro M T B
  obtain ⟨cz1, hcz1, gcz1⟩ := compact W
  refine r_gets B d22_0 rfl (host := "") (Or.inl (W99 B.gw)) Via.refl (v := (.int cz1)) hcz1 fun T2 B3 => ?_
  refine b_ifF B3 d22_3 (pc' := 6) rfl gcz1 ?_
  refine p_aloadN B3 d22_6 rfl rfl rfl ?_
  refine r_get B3 d22_7 rfl (host := "") (Or.inl (W102 B3.gw)) Via.refl (v := (.int 0)) (fO (i := 0) (j := 1) rfl rfl) fun T4 B5 => ?_
  refine b_ifF B5 d22_10 (pc' := 13) rfl (show (0 : Int32) = (0 : Int32) from by decide) ?_
  refine p_iconst B5 d22_13 rfl (v := (1 : Int32)) (by decide) ?_
  refine b_goto B5 d22_14 (pc' := 18) (by decide) (by decide) ?_
  exact r_reti B5 d22_18 rfl (by simp) rfl (by decide) (by decide) (fun vm h P => ⟨rfl, P⟩)
abbrev D23_q51 := E23 0 0 0 0
theorem k_q51 {g : GG} (W : GW g) (H : List Ent) (Lt : List SE) : Ct g D23_q51 #[(.int 10)] (H) Lt (fun v vm h => v = some (.int 1) ∧ Hp g vm h (H) (Lt)) := by
  refine CtW.body (Ls := #[.val (.int 10)]) W (by decide +kernel) (efr rfl) ?_
  intro M T B
  refine p_iloadN B d23_0 rfl rfl ?_
  refine p_sipush B d23_1 rfl (v := (255 : Int32)) (by decide) ?_
  refine b_icF B d23_4 (pc' := 7) rfl (show ¬ (255 : Int32) < (10 : Int32) from by decide) ?_
  refine p_iconst B d23_7 rfl (v := (1 : Int32)) (by decide) ?_
  refine b_goto B d23_8 (pc' := 12) (by decide) (by decide) ?_
  exact r_reti B d23_12 rfl (by simp) rfl (by decide) (by decide) (fun vm h P => ⟨rfl, P⟩)
abbrev D20_q47 := E20 1 0 0 14
theorem k_q47 {g : GG} (W : GW g) (x0 x1 : Addr) (cs : List Int32) (H : List Ent) (Lt : List SE) (hf0 : ¬ ((0 : Int32) < ((Int32.ofNat (cs ++ [(10 : Int32)]).length) - (16 : Int32)))) (hl : cs.length ≤ 14) : Ct g D20_q47 #[(.ref x0), (.int 10)] (oSB x0 (.ref x1) (.int 0) (.int (Int32.ofNat cs.length)) :: (x1, .inr (.byte, "[B", (sbv cs))) :: H) Lt (fun v vm h => v = some (.ref x0) ∧ Hp g vm h (oSB x0 (.ref x1) (.int 0) (.int (Int32.ofNat (cs ++ [(10 : Int32)]).length)) :: (x1, .inr (.byte, "[B", (sbv (cs ++ [(10 : Int32)])))) :: H) (Lt)) := by
  refine CtW.body (Ls := #[.val (.ref x0), .val (.int 10)]) W (by decide +kernel) (efr rfl) ?_
  intro M T B
  refine p_aloadN B d20_0 rfl rfl rfl ?_
  refine p_aloadN B d20_1 rfl rfl rfl ?_
  refine r_get B d20_2 rfl (host := "") (Or.inl (W158 B.gw)) Via.refl (v := (.int (Int32.ofNat cs.length))) (fO (i := 0) (j := 2) rfl rfl) fun T1 B2 => ?_
  refine p_iconst B2 d20_5 rfl (v := (1 : Int32)) (by decide) ?_
  refine p_iadd B2 d20_6 rfl (z := (Int32.ofNat (cs ++ [(10 : Int32)]).length)) add1 ?_
  refine r_privateS (D' := D21_q48) B2 d20_7 rfl (W160 B2.gw) (W162 B2.gw) (W163 B2.gw) (W161 B2.gw) (W96 B2.gw) (W164 B2.gw) (by decide) (fE (i := 0) rfl) (k_q48 W x0 x1 cs _ _ hf0 hl) (argsL := [(.int (Int32.ofNat (cs ++ [(10 : Int32)]).length))]) (rest := []) rfl pd23 rfl rfl rfl (W := 0) rfl (cs' := 0) (ss' := 0) (by decide) (Kv0 fun T3 B5 => ?_)
  refine p_aloadN B5 d20_10 rfl rfl rfl ?_
  refine r_virtual (D' := D22_q50) B5 d20_11 rfl (W165 B5.gw) (W166 B5.gw) (W168 B5.gw) (fun vm0 hZ => notFace_of_selects (args := #[]) (mvT hZ (W168 B5.gw))) (W167 B5.gw) (W96 B5.gw) (W169 B5.gw) (by decide) (fE (i := 0) rfl) (k_q50 W x0 x1 cs _ _ hf0 hl) (argsL := []) (rest := []) rfl pd13 rfl rfl rfl (W := 0) rfl (cs' := 0) (ss' := 0) (by decide) (Kv1 fun T6 B8 => ?_)
  refine b_ifF B8 d20_14 (pc' := 17) rfl (show ¬ (1 : Int32) = (0 : Int32) from by decide) ?_
  refine p_iloadN B8 d20_17 rfl rfl ?_
  refine r_static (D' := D23_q51) B8 d20_18 rfl (W170 B8.gw) (W171 B8.gw) (W172 B8.gw) (W173 B8.gw) (by decide) (k_q51 W _ _) (argsL := [(.int 10)]) (rest := []) rfl pd4 rfl rfl rfl (W := 0) rfl (cs' := 0) (ss' := 0) (by decide) (Kv1 fun T9 B11 => ?_)
  refine b_ifF B11 d20_21 (pc' := 24) rfl (show ¬ (1 : Int32) = (0 : Int32) from by decide) ?_
  refine p_aloadN B11 d20_24 rfl rfl rfl ?_
  refine r_get B11 d20_25 rfl (host := "") (Or.inl (W100 B11.gw)) Via.refl (v := (.ref x1)) (fO (i := 0) (j := 0) rfl rfl) fun T12 B13 => ?_
  refine p_aloadN B13 d20_28 rfl rfl rfl ?_
  refine p_dup B13 d20_29 rfl rfl ?_
  refine r_get B13 d20_30 rfl (host := "") (Or.inl (W158 B13.gw)) Via.refl (v := (.int (Int32.ofNat cs.length))) (fO (i := 0) (j := 2) rfl rfl) fun T14 B15 => ?_
  refine p_dupx1 B15 d20_33 rfl rfl rfl ?_
  refine p_iconst B15 d20_34 rfl (v := (1 : Int32)) (by decide) ?_
  refine p_iadd B15 d20_35 rfl (z := (Int32.ofNat (cs ++ [(10 : Int32)]).length)) add1 ?_
  refine r_put B15 d20_36 rfl (host := "") (Or.inl (W158 B15.gw)) Via.refl (i := 0) (j := 2) rfl rfl (Or.inl (W159 B15.gw)) (W87 B15.gw) (ty := .int) (by decide) rfl rfl (H' := (oSB x0 (.ref x1) (.int 0) (.int (Int32.ofNat (cs ++ [(10 : Int32)]).length)) :: (x1, .inr (.byte, "[B", (sbv cs))) :: H)) rfl fun T16 B17 => ?_
  refine p_iloadN B17 d20_39 rfl rfl ?_
  refine p_i2b B17 d20_40 rfl ?_
  refine r_bastore B17 d20_41 rfl (i := 1) rfl (n31 (by omega)) (k := cs.length) (n31c (by omega)) (by rw [sbl (by omega)]; omega) (x' := (10 : Int32)) (by decide) (H' := (oSB x0 (.ref x1) (.int 0) (.int (Int32.ofNat (cs ++ [(10 : Int32)]).length)) :: (x1, .inr (.byte, "[B", (sbv (cs ++ [(10 : Int32)])))) :: H)) (by rw [sbs (by omega)]; rfl) fun T18 B19 => ?_
  refine b_goto B19 d20_42 (pc' := 75) (by decide) (by decide) ?_
  refine p_aloadN B19 d20_75 rfl rfl rfl ?_
  exact r_reta B19 d20_76 rfl rfl rfl (by decide) (by decide) (fun vm h P => ⟨rfl, P⟩)
abbrev D19_w := E19 2 0 0 27
theorem W_ac {g : GG} (W : GW g) (sb vb : Addr) (cs : List Int32) (H : List Ent) (Lt : List SE) (hl : cs.length ≤ 14) : Ct g D19_w #[(.ref sb), (.int 10)] (SBo sb vb cs ++ H) Lt (fun v vm h => v = some (.ref sb) ∧ Hp g vm h (SBo sb vb (cs ++ [(10 : Int32)]) ++ H) Lt) := by
  refine CtW.body (Ls := #[.val (.ref sb), .val (.int 10)]) W (by decide +kernel) (efr rfl) ?_
  intro M T B
  replace B : RH g D19_w M T (oSB sb (.ref vb) (.int 0) (.int (Int32.ofNat cs.length)) :: (vb, .inr (.byte, "[B", (sbv cs))) :: H) Lt 0 0 := B
  refine p_aloadN B d19_0 rfl rfl rfl ?_
  refine p_iloadN B d19_1 rfl rfl ?_
  refine r_super (D' := D20_q47) B d19_2 rfl (by decide) (same_self (W154 B.gw) (W163 B.gw) rfl (by decide)) (W155 B.gw) (fE (i := 0) rfl) (W153 B.gw) (W154 B.gw) (W96 B.gw) (W157 B.gw) (by decide) (k_q47 W sb vb cs _ _ (le16 (by rw [List.length_append]; simp only [List.length_cons, List.length_nil]; omega)) hl) (a := sb) (argsL := [(.int 10)]) (rest := []) rfl pd28 rfl rfl rfl (W := 0) rfl (cs' := 0) (ss' := 0) (by decide) (Kv1 fun T1 B3 => ?_)
  refine p_pop B3 d19_5 rfl rfl ?_
  refine p_aloadN B3 d19_6 rfl rfl rfl ?_
  exact r_reta B3 d19_7 rfl rfl rfl (by decide) (by decide) (fun vm h P => ⟨rfl, P⟩)
abbrev D27_q55 := E27 0 0 0 0
theorem k_q55 {g : GG} (W : GW g) (x0 x1 : Addr) (cs : List Int32) (H : List Ent) (Lt : List SE) (hf0 : ¬ ((Int32.ofNat cs.length) = (16 : Int32))) (hf1 : ¬ ((Int32.ofNat cs.length) < (0 : Int32))) (hf2 : (Int32.ofNat cs.length) < (16 : Int32)) (hl : cs.length ≤ 14) : Ct g D27_q55 #[(.ref x0)] (oSB x0 (.ref x1) (.int 0) (.int (Int32.ofNat cs.length)) :: H) Lt (fun v vm h => v = some (.ref x1) ∧ Hp g vm h (oSB x0 (.ref x1) (.int 0) (.int (Int32.ofNat cs.length)) :: H) (Lt)) := by
  refine CtW.body (Ls := #[.val (.ref x0)]) W (by decide +kernel) (efr rfl) ?_
  intro M T B
  refine p_aloadN B d27_0 rfl rfl rfl ?_
  refine r_get B d27_1 rfl (host := "") (Or.inl (W100 B.gw)) Via.refl (v := (.ref x1)) (fO (i := 0) (j := 0) rfl rfl) fun T1 B2 => ?_
  exact r_reta B2 d27_4 rfl rfl rfl (by decide) (by decide) (fun vm h P => ⟨rfl, P⟩)
abbrev D29_q58 := E29 0 0 0 0
theorem k_q58 {g : GG} (W : GW g) (x0 x1 : Addr) (cs : List Int32) (H : List Ent) (Lt : List SE) (hf0 : ¬ ((Int32.ofNat cs.length) = (16 : Int32))) (hf1 : ¬ ((Int32.ofNat cs.length) < (0 : Int32))) (hf2 : (Int32.ofNat cs.length) < (16 : Int32)) (hl : cs.length ≤ 14) : Ct g D29_q58 #[(.ref x0)] (oSB x0 (.ref x1) (.int 0) (.int (Int32.ofNat cs.length)) :: H) Lt (fun v vm h => v = some (.int (Int32.ofNat cs.length)) ∧ Hp g vm h (oSB x0 (.ref x1) (.int 0) (.int (Int32.ofNat cs.length)) :: H) (Lt)) := by
  refine CtW.body (Ls := #[.val (.ref x0)]) W (by decide +kernel) (efr rfl) ?_
  intro M T B
  refine p_aloadN B d29_0 rfl rfl rfl ?_
  refine r_get B d29_1 rfl (host := "") (Or.inl (W158 B.gw)) Via.refl (v := (.int (Int32.ofNat cs.length))) (fO (i := 0) (j := 2) rfl rfl) fun T1 B2 => ?_
  exact r_reti B2 d29_4 rfl (by simp) rfl (by decide) (by decide) (fun vm h P => ⟨rfl, P⟩)
abbrev D28_q59 := E28 1 0 0 12
theorem k_q59 {g : GG} (W : GW g) (x0 x1 : Addr) (cs : List Int32) (H : List Ent) (Lt : List SE) (hf0 : ¬ ((Int32.ofNat cs.length) = (16 : Int32))) (hf1 : ¬ ((Int32.ofNat cs.length) < (0 : Int32))) (hf2 : (Int32.ofNat cs.length) < (16 : Int32)) (hl : cs.length ≤ 14) : Ct g D28_q59 #[(.ref x0)] (oSB x0 (.ref x1) (.int 0) (.int (Int32.ofNat cs.length)) :: H) Lt (fun v vm h => v = some (.int (Int32.ofNat cs.length)) ∧ Hp g vm h (oSB x0 (.ref x1) (.int 0) (.int (Int32.ofNat cs.length)) :: H) (Lt)) := by
  refine CtW.body (Ls := #[.val (.ref x0)]) W (by decide +kernel) (efr rfl) ?_
  intro M T B
  refine p_aloadN B d28_0 rfl rfl rfl ?_
  refine r_super (D' := D29_q58) B d28_1 rfl (by decide) (same_self (W195 B.gw) (W163 B.gw) rfl (by decide)) (W155 B.gw) (fE (i := 0) rfl) (W199 B.gw) (W195 B.gw) (W96 B.gw) (W200 B.gw) (by decide) (k_q58 W x0 x1 cs _ _ hf0 hf1 hf2 hl) (a := x0) (argsL := []) (rest := []) rfl pd22 rfl rfl rfl (W := 0) rfl (cs' := 0) (ss' := 0) (by decide) (Kv1 fun T1 B3 => ?_)
  exact r_reti B3 d28_4 rfl (by simp) rfl (by decide) (by decide) (fun vm h P => ⟨rfl, P⟩)
abbrev D22_q61 := E22 0 0 0 0
theorem k_q61 {g : GG} (W : GW g) (x0 x1 : Addr) (cs : List Int32) (H : List Ent) (Lt : List SE) (hf0 : ¬ ((Int32.ofNat cs.length) = (16 : Int32))) (hf1 : ¬ ((Int32.ofNat cs.length) < (0 : Int32))) (hf2 : (Int32.ofNat cs.length) < (16 : Int32)) (hl : cs.length ≤ 14) : Ct g D22_q61 #[(.ref x0)] (oSB x0 (.ref x1) (.int 0) (.int (Int32.ofNat cs.length)) :: H) Lt (fun v vm h => v = some (.int 1) ∧ Hp g vm h (oSB x0 (.ref x1) (.int 0) (.int (Int32.ofNat cs.length)) :: H) (Lt)) := by
  refine CtW.body (Ls := #[.val (.ref x0)]) W (by decide +kernel) (efr rfl) ?_
  intro M T B
  obtain ⟨cz1, hcz1, gcz1⟩ := compact W
  refine r_gets B d22_0 rfl (host := "") (Or.inl (W99 B.gw)) Via.refl (v := (.int cz1)) hcz1 fun T2 B3 => ?_
  refine b_ifF B3 d22_3 (pc' := 6) rfl gcz1 ?_
  refine p_aloadN B3 d22_6 rfl rfl rfl ?_
  refine r_get B3 d22_7 rfl (host := "") (Or.inl (W102 B3.gw)) Via.refl (v := (.int 0)) (fO (i := 0) (j := 1) rfl rfl) fun T4 B5 => ?_
  refine b_ifF B5 d22_10 (pc' := 13) rfl (show (0 : Int32) = (0 : Int32) from by decide) ?_
  refine p_iconst B5 d22_13 rfl (v := (1 : Int32)) (by decide) ?_
  refine b_goto B5 d22_14 (pc' := 18) (by decide) (by decide) ?_
  exact r_reti B5 d22_18 rfl (by simp) rfl (by decide) (by decide) (fun vm h P => ⟨rfl, P⟩)
abbrev D32_q64 := E32 0 0 0 0
theorem k_q64 {g : GG} (W : GW g) (cs : List Int32) (H : List Ent) (Lt : List SE) (hf0 : ¬ ((Int32.ofNat cs.length) = (16 : Int32))) (hf1 : ¬ ((Int32.ofNat cs.length) < (0 : Int32))) (hf2 : (Int32.ofNat cs.length) < (16 : Int32)) (hl : cs.length ≤ 14) : Ct g D32_q64 #[(.int 0), (.int (Int32.ofNat cs.length))] (H) Lt (fun v vm h => v = none ∧ Hp g vm h (H) (Lt)) := by
  refine CtW.body (Ls := #[.val (.int 0), .val (.int (Int32.ofNat cs.length))]) W (by decide +kernel) (efr rfl) ?_
  intro M T B
  refine p_iloadN B d32_0 rfl rfl ?_
  refine p_iloadN B d32_1 rfl rfl ?_
  refine b_icT B d32_2 (pc' := 37) hf1 (by decide) (by decide) ?_
  exact r_ret B d32_37 rfl (by decide) (by decide) (fun vm h P => ⟨rfl, P⟩)
abbrev D33_q65 := E33 0 0 0 0
theorem k_q65 {g : GG} (W : GW g) (cs : List Int32) (H : List Ent) (Lt : List SE) (hf0 : ¬ ((Int32.ofNat cs.length) = (16 : Int32))) (hf1 : ¬ ((Int32.ofNat cs.length) < (0 : Int32))) (hf2 : (Int32.ofNat cs.length) < (16 : Int32)) (hl : cs.length ≤ 14) : Ct g D33_q65 #[(.int 16), (.int (Int32.ofNat cs.length))] (H) Lt (fun v vm h => v = some (.int (Int32.ofNat cs.length)) ∧ Hp g vm h (H) (Lt)) := by
  refine CtW.body (Ls := #[.val (.int 16), .val (.int (Int32.ofNat cs.length))]) W (Jvm.Free.JP.mathPlain rfl (by decide +kernel)) (efr rfl) ?_
  intro M T B
  refine p_iloadN B d33_0 rfl rfl ?_
  refine p_iloadN B d33_1 rfl rfl ?_
  refine b_icT B d33_2 (pc' := 9) hf2 (by decide) (by decide) ?_
  refine p_iloadN B d33_9 rfl rfl ?_
  exact r_reti B d33_10 rfl (by simp) rfl (by decide) (by decide) (fun vm h P => ⟨rfl, P⟩)
abbrev D31_q63 := E31 1 1 16 18
theorem k_q63 {g : GG} (W : GW g) (x0 : Addr) (cs : List Int32) (H : List Ent) (Lt : List SE) (hf0 : ¬ ((Int32.ofNat cs.length) = (16 : Int32))) (hf1 : ¬ ((Int32.ofNat cs.length) < (0 : Int32))) (hf2 : (Int32.ofNat cs.length) < (16 : Int32)) (hl : cs.length ≤ 14) : Ct g D31_q63 #[(.ref x0), (.int 0), (.int (Int32.ofNat cs.length))] ((x0, .inr (.byte, "[B", (sbv cs))) :: H) Lt (fun v vm h => ∃ a6, v = some (.ref a6) ∧ Hp g vm h ((a6, .inr (.byte, "[B", (cs.map Value.int))) :: (x0, .inr (.byte, "[B", (sbv cs))) :: H) (Lt)) := by
  refine CtW.body (Ls := #[.val (.ref x0), .val (.int 0), .val (.int (Int32.ofNat cs.length)), .unset, .unset]) W (by decide +kernel) (efr rfl) ?_
  intro M T B
  refine p_iloadN B d31_0 rfl rfl ?_
  refine p_iloadN B d31_1 rfl rfl ?_
  refine r_static (D' := D32_q64) B d31_2 rfl (W210 B.gw) (W211 B.gw) (W205 B.gw) (W212 B.gw) (by decide) (k_q64 W cs _ _ hf0 hf1 hf2 hl) (argsL := [(.int 0), (.int (Int32.ofNat cs.length))]) (rest := []) rfl pd30 rfl rfl rfl (W := 0) rfl (cs' := 0) (ss' := 0) (by decide) (Kv0 fun T1 B3 => ?_)
  refine p_iloadN B3 d31_5 rfl rfl ?_
  refine p_iloadN B3 d31_6 rfl rfl ?_
  refine p_isub B3 d31_7 rfl (z := (Int32.ofNat cs.length)) (Int32.sub_zero _) ?_
  refine p_istoreN B3 d31_8 rfl (Ls' := #[.val (.ref x0), .val (.int 0), .val (.int (Int32.ofNat cs.length)), .val (.int (Int32.ofNat cs.length)), .unset]) rfl ?_
  refine p_iloadN B3 d31_9 rfl rfl ?_
  refine r_newp B3 d31_10 rfl (ty := .byte) (W7 B3.gw) rfl (n31 (by omega)) (nn := cs.length) (n31c (by omega)) (cap := 16) (by omega) (by decide) (cs' := 1) rfl (ss' := 16) rfl (by decide) (by decide) (ad := "[B") (by decide) (by decide) nofun (vs := (List.replicate cs.length (Value.int 0))) rfl fun T4 a6 B5 => ?_
  refine p_astore B5 d31_12 rfl rfl (Ls' := #[.val (.ref x0), .val (.int 0), .val (.int (Int32.ofNat cs.length)), .val (.int (Int32.ofNat cs.length)), .val (.ref a6)]) rfl ?_
  refine p_aloadN B5 d31_14 rfl rfl rfl ?_
  refine p_iloadN B5 d31_15 rfl rfl ?_
  refine p_aload B5 d31_16 rfl rfl rfl ?_
  refine p_iconst B5 d31_18 rfl (v := (0 : Int32)) (by decide) ?_
  refine p_aloadN B5 d31_19 rfl rfl rfl ?_
  refine r_alen B5 d31_20 rfl (aH (i := 1) rfl) (z := (16 : Int32)) (by rw [sbl (by omega)]; rfl) ?_
  refine p_iloadN B5 d31_21 rfl rfl ?_
  refine p_isub B5 d31_22 rfl (z := (16 : Int32)) (by decide) ?_
  refine p_iloadN B5 d31_23 rfl rfl ?_
  refine r_static (D' := D33_q65) B5 d31_24 rfl (W213 B5.gw) (W214 B5.gw) (W215 B5.gw) (W216 B5.gw) (by decide) (k_q65 W cs _ _ hf0 hf1 hf2 hl) (argsL := [(.int 16), (.int (Int32.ofNat cs.length))]) (rest := [(.int 0), (.ref a6), (.int 0), (.ref x0)]) rfl pd9 rfl rfl rfl (W := 4) rfl (cs' := 1) (ss' := 16) (by decide) (Kv1 fun T7 B9 => ?_)
  refine r_acopy B9 d31_27 (pc' := 30) (s0 := 0) (d0 := 0) (n0 := cs.length) (us := (cs.map Value.int)) (vd' := (cs.map Value.int)) rfl (W217 B9.gw) (W220 B9.gw) (W218 B9.gw) (W219 B9.gw) (aH (i := 1) rfl) (i := 0) rfl (Or.inl ⟨rfl, rfl⟩) (by decide) (by decide) (by decide) (by decide) (n31 (by omega)) (n31c (by omega)) (by rw [sbl (by omega)]; omega) (by rw [List.length_replicate]; omega) (sbt _) (sbu _) (H' := ((a6, .inr (.byte, "[B", (cs.map Value.int))) :: (x0, .inr (.byte, "[B", (sbv cs))) :: H)) rfl rfl (W := 0) rfl (by decide) (by decide) fun T10 B11 => ?_
  refine p_aload B11 d31_30 rfl rfl rfl ?_
  exact r_reta B11 d31_32 rfl rfl rfl (by decide) (by decide) (fun vm h P => ⟨a6, rfl, P⟩)
abbrev D30_q62 := E30 2 1 16 34
theorem k_q62 {g : GG} (W : GW g) (x0 : Addr) (cs : List Int32) (H : List Ent) (Lt : List SE) (hf0 : ¬ ((Int32.ofNat cs.length) = (16 : Int32))) (hf1 : ¬ ((Int32.ofNat cs.length) < (0 : Int32))) (hf2 : (Int32.ofNat cs.length) < (16 : Int32)) (hl : cs.length ≤ 14) : Ct g D30_q62 #[(.ref x0), (.int 0), (.int (Int32.ofNat cs.length))] ((x0, .inr (.byte, "[B", (sbv cs))) :: H) Lt (fun v vm h => ∃ a4, v = some (.ref a4) ∧ Hp g vm h ((a4, .inr (.byte, "[B", (cs.map Value.int))) :: (x0, .inr (.byte, "[B", (sbv cs))) :: H) (Lt)) := by
  refine CtW.body (Ls := #[.val (.ref x0), .val (.int 0), .val (.int (Int32.ofNat cs.length))]) W (by decide +kernel) (efr rfl) ?_
  intro M T B
  refine p_iloadN B d30_0 rfl rfl ?_
  refine b_ifF B d30_1 (pc' := 4) rfl (show (0 : Int32) = (0 : Int32) from by decide) ?_
  refine p_iloadN B d30_4 rfl rfl ?_
  refine p_aloadN B d30_5 rfl rfl rfl ?_
  refine r_alen B d30_6 rfl (aH (i := 0) rfl) (z := (16 : Int32)) (by rw [sbl (by omega)]; rfl) ?_
  refine b_icF B d30_7 (pc' := 10) rfl hf0 ?_
  refine p_aloadN B d30_10 rfl rfl rfl ?_
  refine p_iloadN B d30_11 rfl rfl ?_
  refine p_iloadN B d30_12 rfl rfl ?_
  refine r_static (D' := D31_q63) B d30_13 rfl (W207 B.gw) (W208 B.gw) (W205 B.gw) (W209 B.gw) (by decide) (k_q63 W x0 cs _ _ hf0 hf1 hf2 hl) (argsL := [(.ref x0), (.int 0), (.int (Int32.ofNat cs.length))]) (rest := []) rfl pd31 rfl rfl rfl (W := 0) rfl (cs' := 1) (ss' := 16) (by decide) (Kex fun a4 => Kv1 fun T1 B3 => ?_)
  exact r_reta B3 d30_16 rfl rfl rfl (by decide) (by decide) (fun vm h P => ⟨a4, rfl, P⟩)
abbrev D26_q53 := E26 3 1 16 49
theorem k_q53 {g : GG} (W : GW g) (x0 x1 x2 : Addr) (cs : List Int32) (H : List Ent) (Lt : List SE) (hf0 : ¬ ((Int32.ofNat cs.length) = (16 : Int32))) (hf1 : ¬ ((Int32.ofNat cs.length) < (0 : Int32))) (hf2 : (Int32.ofNat cs.length) < (16 : Int32)) (hl : cs.length ≤ 14) : Ct g D26_q53 #[(.ref x0), (.ref x1), .null] (oS x0 .null (.int 0) :: oSB x1 (.ref x2) (.int 0) (.int (Int32.ofNat cs.length)) :: (x2, .inr (.byte, "[B", (sbv cs))) :: H) Lt (fun v vm h => ∃ a19, v = none ∧ Hp g vm h ((a19, .inr (.byte, "[B", (cs.map Value.int))) :: (x2, .inr (.byte, "[B", (sbv cs))) :: oSB x1 (.ref x2) (.int 0) (.int (Int32.ofNat cs.length)) :: oS x0 (.ref a19) (.int 0) :: H) (Lt)) := by
  refine CtW.body (Ls := #[.val (.ref x0), .val (.ref x1), .val .null, .unset, .unset]) W (by decide +kernel) (efr rfl) ?_
  intro M T B
  refine p_aloadN B d26_0 rfl rfl rfl ?_
  refine r_initO B d26_1 rfl (W187 B.gw) (W31 B.gw) (W32 B.gw) rfl (by decide) (W := 0) rfl (by decide) fun T1 B2 => ?_
  refine p_aloadN B2 d26_4 rfl rfl rfl ?_
  have B3 := (B2.fr 1 rfl)
  refine r_virtual (D' := D27_q55) B3 d26_5 rfl (W188 B3.gw) (W189 B3.gw) (W191 B3.gw) (fun vm0 hZ => notFace_of_selects (args := #[]) (mvT hZ (W191 B3.gw))) (W190 B3.gw) (W96 B3.gw) (W192 B3.gw) (by decide) (fE (i := 0) rfl) (k_q55 W x1 x2 cs _ _ hf0 hf1 hf2 hl) (argsL := []) (rest := []) rfl pd29 rfl rfl rfl (W := 0) rfl (cs' := 0) (ss' := 0) (by decide) (Kv1 fun T4 B6 => ?_)
  refine p_astoreN B6 d26_8 rfl rfl (Ls' := #[.val (.ref x0), .val (.ref x1), .val .null, .val (.ref x2), .unset]) rfl ?_
  refine p_aloadN B6 d26_9 rfl rfl rfl ?_
  refine r_virtual (D' := D28_q59) B6 d26_10 rfl (W193 B6.gw) (W194 B6.gw) (W196 B6.gw) (fun vm0 hZ => nf_mate (args := #[]) (mvT hZ (W163 B6.gw)) rfl) (W197 B6.gw) (W88 B6.gw) (W198 B6.gw) (by decide) (fE (i := 0) rfl) (k_q59 W x1 x2 cs _ _ hf0 hf1 hf2 hl) (argsL := []) (rest := []) rfl pd22 rfl rfl rfl (W := 0) rfl (cs' := 0) (ss' := 0) (by decide) (Kv1 fun T7 B9 => ?_)
  refine p_istore B9 d26_13 rfl (Ls' := #[.val (.ref x0), .val (.ref x1), .val .null, .val (.ref x2), .val (.int (Int32.ofNat cs.length))]) rfl ?_
  refine p_aloadN B9 d26_15 rfl rfl rfl ?_
  refine r_virtual (D' := D22_q61) B9 d26_16 rfl (W201 B9.gw) (W166 B9.gw) (W168 B9.gw) (fun vm0 hZ => notFace_of_selects (args := #[]) (mvT hZ (W168 B9.gw))) (W167 B9.gw) (W96 B9.gw) (W169 B9.gw) (by decide) (fE (i := 0) rfl) (k_q61 W x1 x2 cs _ _ hf0 hf1 hf2 hl) (argsL := []) (rest := []) rfl pd13 rfl rfl rfl (W := 0) rfl (cs' := 0) (ss' := 0) (by decide) (Kv1 fun T10 B12 => ?_)
  refine b_ifF B12 d26_19 (pc' := 22) rfl (show ¬ (1 : Int32) = (0 : Int32) from by decide) ?_
  refine p_aloadN B12 d26_22 rfl rfl rfl ?_
  refine p_iconst B12 d26_23 rfl (v := (0 : Int32)) (by decide) ?_
  refine r_put B12 d26_24 rfl (host := "") (Or.inl (W202 B12.gw)) Via.refl (i := 1) (j := 1) rfl rfl (Or.inr ⟨(W9 B12.gw), rfl, rfl⟩) (W6 B12.gw) (ty := .byte) (by decide) (by decide) (by decide) (H' := (oSB x1 (.ref x2) (.int 0) (.int (Int32.ofNat cs.length)) :: oS x0 .null (.int 0) :: (x2, .inr (.byte, "[B", (sbv cs))) :: H)) rfl fun T13 B14 => ?_
  refine p_aloadN B14 d26_27 rfl rfl rfl ?_
  refine p_aloadN B14 d26_28 rfl rfl rfl ?_
  refine p_iconst B14 d26_29 rfl (v := (0 : Int32)) (by decide) ?_
  refine p_iload B14 d26_30 rfl rfl ?_
  have B15 := (B14.fr 2 rfl)
  refine r_static (D' := D30_q62) B15 d26_32 rfl (W203 B15.gw) (W204 B15.gw) (W205 B15.gw) (W206 B15.gw) (by decide) (k_q62 W x2 cs _ _ hf0 hf1 hf2 hl) (argsL := [(.ref x2), (.int 0), (.int (Int32.ofNat cs.length))]) (rest := [(.ref x0)]) rfl pd31 rfl rfl rfl (W := 1) rfl (cs' := 1) (ss' := 16) (by decide) (Kex fun a19 => Kv1 fun T16 B18 => ?_)
  refine r_put B18 d26_35 rfl (host := "") (Or.inl (W221 B18.gw)) Via.refl (i := 3) (j := 0) rfl rfl (Or.inr ⟨(W8 B18.gw), rfl, rfl⟩) (W6 B18.gw) (ty := (.array .byte)) (by decide) rfl rfl (H' := ((a19, .inr (.byte, "[B", (cs.map Value.int))) :: (x2, .inr (.byte, "[B", (sbv cs))) :: oSB x1 (.ref x2) (.int 0) (.int (Int32.ofNat cs.length)) :: oS x0 (.ref a19) (.int 0) :: H)) rfl fun T20 B21 => ?_
  refine b_goto B21 d26_38 (pc' := 97) (by decide) (by decide) ?_
  exact r_ret B21 d26_97 rfl (by decide) (by decide) (fun vm h P => ⟨a19, rfl, P⟩)
abbrev D25_q52 := E25 4 1 16 65
theorem k_q52 {g : GG} (W : GW g) (x0 x1 x2 : Addr) (cs : List Int32) (H : List Ent) (Lt : List SE) (hf0 : ¬ ((Int32.ofNat cs.length) = (16 : Int32))) (hf1 : ¬ ((Int32.ofNat cs.length) < (0 : Int32))) (hf2 : (Int32.ofNat cs.length) < (16 : Int32)) (hl : cs.length ≤ 14) : Ct g D25_q52 #[(.ref x0), (.ref x1)] (oS x0 .null (.int 0) :: oSB x1 (.ref x2) (.int 0) (.int (Int32.ofNat cs.length)) :: (x2, .inr (.byte, "[B", (sbv cs))) :: H) Lt (fun v vm h => ∃ a4, v = none ∧ Hp g vm h ((a4, .inr (.byte, "[B", (cs.map Value.int))) :: (x2, .inr (.byte, "[B", (sbv cs))) :: oSB x1 (.ref x2) (.int 0) (.int (Int32.ofNat cs.length)) :: oS x0 (.ref a4) (.int 0) :: H) (Lt)) := by
  refine CtW.body (Ls := #[.val (.ref x0), .val (.ref x1)]) W (by decide +kernel) (efr rfl) ?_
  intro M T B
  refine p_aloadN B d25_0 rfl rfl rfl ?_
  refine p_aloadN B d25_1 rfl rfl rfl ?_
  refine p_null B d25_2 rfl ?_
  refine r_special (D' := D26_q53) B d25_3 rfl rfl rfl (W184 B.gw) (W185 B.gw) (W5 B.gw) (W186 B.gw) (by decide) (k_q53 W x0 x1 x2 cs _ _ hf0 hf1 hf2 hl) (a := x0) (argsL := [(.ref x1), .null]) (rest := []) rfl pd32 rfl rfl rfl (W := 0) rfl (cs' := 1) (ss' := 16) (by decide) (Kex fun a4 => Kv0 fun T1 B3 => ?_)
  exact r_ret B3 d25_6 rfl (by decide) (by decide) (fun vm h P => ⟨a4, rfl, P⟩)
abbrev D24_w := E24 5 2 20 79
theorem W_ts {g : GG} (W : GW g) (sb vb : Addr) (cs : List Int32) (H : List Ent) (Lt : List SE) (hl : cs.length ≤ 14) : Ct g D24_w #[(.ref sb)] (SBo sb vb cs ++ H) Lt (fun v vm h => ∃ w wb, v = some (.ref w) ∧ Hp g vm h (oS w (.ref wb) (.int 0) :: (wb, .inr (.byte, "[B", cs.map Value.int)) :: H) Lt) := by
  refine CtW.body (Ls := #[.val (.ref sb)]) W (by decide +kernel) (efr rfl) ?_
  intro M T B
  replace B : RH g D24_w M T (oSB sb (.ref vb) (.int 0) (.int (Int32.ofNat cs.length)) :: (vb, .inr (.byte, "[B", (sbv cs))) :: H) Lt 0 0 := B
  refine r_new B d24_0 rfl (W179 B.gw) (W6 B.gw) (W5 B.gw) (Ly_oS B.gw) (by decide) (cs' := 1) rfl (ss' := 4) rfl (by decide) (by decide) fun T1 a3 B2 => ?_
  refine p_dup B2 d24_3 rfl rfl ?_
  refine p_aloadN B2 d24_4 rfl rfl rfl ?_
  refine r_special (D' := D25_q52) B2 d24_5 rfl rfl rfl (W180 B2.gw) (W181 B2.gw) (W5 B2.gw) (W183 B2.gw) (by decide) (k_q52 W a3 sb vb cs _ _ (fun q => by have q' := injN (n := cs.length) (k := 16) (by omega) (by omega) q; omega) (n31 (by omega)) (ltN (n := 16) (by omega) (by omega)) hl) (a := a3) (argsL := [(.ref sb)]) (rest := [(.ref a3)]) rfl pd33 rfl rfl rfl (W := 1) rfl (cs' := 2) (ss' := 20) (by decide) (Kex fun a7 => Kv0 fun T4 B6 => ?_)
  have B8 := ((B6.dl 1).dl 1)
  have B9 := (B8.fr 1 rfl)
  exact r_reta B9 d24_8 rfl rfl rfl (by decide) (by decide) (fun vm h P => ⟨a3, a7, rfl, P⟩)
abbrev D39_w := E39 0 0 0 0
theorem lp_cp {g : GG} (W : GW g) {b : Addr} {cs : List Int32} {H : List Ent} {Lt : List SE} (hl : cs.length ≤ 15) {M : MM} : ∀ (k i : Nat), i + k = cs.length → (∀ x ∈ cs.take i, ¬ x < 0) → ∀ {T : State}, RH g D39_w M T ((b, .inr (.byte, "[B", cs.map Value.int)) :: H) Lt 0 0 →
    Fn g D39_w M (fun v vm h => ∃ r : Int32, v = some (.int r) ∧ (r = Int32.ofNat cs.length ∧ (∀ x ∈ cs, ¬ x < 0) ∨ ¬ r = Int32.ofNat cs.length) ∧ Hp g vm h ((b, .inr (.byte, "[B", cs.map Value.int)) :: H) Lt) (T.setTop (mkF M.m 7 #[.val (.ref b), .val (.int (0 : Int32)), .val (.int (Int32.ofNat cs.length)), .val (.int (Int32.ofNat cs.length)), .val (.int (Int32.ofNat i))] [])) := by
  intro k
  induction k with
  | zero =>
    intro i hi ht T B
    have hi' : i = cs.length := by omega
    refine p_iload B d39_7 rfl rfl ?_
    refine p_iloadN B d39_9 rfl rfl ?_
    refine b_icT B d39_10 (pc' := 31) (by subst hi'; exact Int32.lt_irrefl) (by decide) (by decide) ?_
    refine p_iloadN B d39_31 rfl rfl ?_
    exact r_reti B d39_32 rfl (by simp) rfl (by decide) (by decide) (fun vm h P => ⟨_, rfl, Or.inl ⟨rfl, by rw [hi', List.take_length] at ht; exact ht⟩, P⟩)
  | succ k ih =>
    intro i hi ht T B
    have hlt : i < cs.length := by omega
    obtain ⟨y, ey⟩ : ∃ y, cs[i]? = some y := ⟨_, List.getElem?_eq_getElem hlt⟩
    refine p_iload B d39_7 rfl rfl ?_
    refine p_iloadN B d39_9 rfl rfl ?_
    refine b_icF B d39_10 (pc' := 13) rfl (ltN hlt (by omega)) ?_
    refine p_aloadN B d39_13 rfl rfl rfl ?_
    refine p_iload B d39_14 rfl rfl ?_
    refine r_aget B d39_16 rfl rfl (aH (i := 0) rfl) (k := i) rfl (v := .int y) (by rw [List.getElem?_map, ey]; rfl) ?_
    by_cases hy : y < (0 : Int32)
    · refine b_ifF B d39_17 (pc' := 20) rfl hy ?_
      refine p_iload B d39_20 rfl rfl ?_
      refine p_iloadN B d39_22 rfl rfl ?_
      refine p_isub B d39_23 rfl (z := (Int32.ofNat i)) (Int32.sub_zero _) ?_
      exact r_reti B d39_24 rfl (by simp) rfl (by decide) (by decide) (fun vm h P => ⟨_, rfl, Or.inr (fun q => by have q' := injN (by omega) (by omega) q; omega), P⟩)
    · refine b_ifT B d39_17 (pc' := 25) hy (by decide) (by decide) ?_
      refine p_iinc B d39_25 rfl (v := (1 : Int32)) (by decide) rfl (z := ((Int32.ofNat i) + (1 : Int32))) rfl (Ls' := #[.val (.ref b), .val (.int 0), .val (.int (Int32.ofNat cs.length)), .val (.int (Int32.ofNat cs.length)), .val (.int ((Int32.ofNat i) + (1 : Int32)))]) rfl ?_
      refine b_goto B d39_28 (pc' := 7) (by decide) (by decide) ?_
      rw [sucN i]
      exact ih (i + 1) (by omega) (tka ht ey hy) B
theorem k_cp {g : GG} (W : GW g) {b : Addr} {cs : List Int32} {H : List Ent} {Lt : List SE} (hl : cs.length ≤ 15) : Ct g D39_w #[(.ref b), (.int 0), (.int (Int32.ofNat cs.length))] ((b, .inr (.byte, "[B", cs.map Value.int)) :: H) Lt (fun v vm h => ∃ r : Int32, v = some (.int r) ∧ (r = Int32.ofNat cs.length ∧ (∀ x ∈ cs, ¬ x < 0) ∨ ¬ r = Int32.ofNat cs.length) ∧ Hp g vm h ((b, .inr (.byte, "[B", cs.map Value.int)) :: H) Lt) := by
  refine CtW.body (Ls := #[.val (.ref b), .val (.int 0), .val (.int (Int32.ofNat cs.length)), .unset, .unset]) W (by decide +kernel) (efr rfl) ?_
  intro M T B
  refine p_iloadN B d39_0 rfl rfl ?_
  refine p_iloadN B d39_1 rfl rfl ?_
  refine p_iadd B d39_2 rfl (z := (Int32.ofNat cs.length)) (Int32.zero_add _) ?_
  refine p_istoreN B d39_3 rfl (Ls' := #[.val (.ref b), .val (.int 0), .val (.int (Int32.ofNat cs.length)), .val (.int (Int32.ofNat cs.length)), .unset]) rfl ?_
  refine p_iloadN B d39_4 rfl rfl ?_
  refine p_istore B d39_5 rfl (Ls' := #[.val (.ref b), .val (.int 0), .val (.int (Int32.ofNat cs.length)), .val (.int (Int32.ofNat cs.length)), .val (.int 0)]) rfl ?_
  exact lp_cp W hl cs.length 0 (by omega) (by rw [List.take_zero]; exact nofun) B
abbrev D38_w := E38 1 0 0 16
theorem k_hn {g : GG} (W : GW g) {b : Addr} {cs : List Int32} {H : List Ent} {Lt : List SE} (hl : cs.length ≤ 15) : Ct g D38_w #[(.ref b), (.int 0), (.int (Int32.ofNat cs.length))] ((b, .inr (.byte, "[B", cs.map Value.int)) :: H) Lt (fun v vm h => ∃ z : Int32, v = some (.int z) ∧ (z = 0 ∧ (∀ x ∈ cs, ¬ x < 0) ∨ z = 1) ∧ Hp g vm h ((b, .inr (.byte, "[B", cs.map Value.int)) :: H) Lt) := by
  refine CtW.body (Ls := #[.val (.ref b), .val (.int 0), .val (.int (Int32.ofNat cs.length))]) W (by decide +kernel) (efr rfl) ?_
  intro M T B
  refine p_aloadN B d38_0 rfl rfl rfl ?_
  refine p_iloadN B d38_1 rfl rfl ?_
  refine p_iloadN B d38_2 rfl rfl ?_
  refine r_static (D' := D39_w) B d38_3 rfl (W247 B.gw) (W248 B.gw) (W245 B.gw) (W249 B.gw) (by decide) (k_cp W hl) (argsL := [(.ref b), (.int 0), (.int (Int32.ofNat cs.length))]) (rest := []) rfl pd34 rfl rfl rfl (W := 0) rfl (cs' := 0) (ss' := 0) (by decide) (Kex fun r => Kv1 fun T1 B3 => ?_)
  replace B3 := Rn.and B3
  obtain ⟨hr, B3⟩ := B3
  refine p_iloadN B3 d38_6 rfl rfl ?_
  rcases hr with ⟨hr, hq⟩ | hr
  · refine b_icT B3 d38_7 (pc' := 14) hr (by decide) (by decide) ?_
    refine p_iconst B3 d38_14 rfl (v := (0 : Int32)) (by decide) ?_
    exact r_reti B3 d38_15 rfl (by simp) rfl (by decide) (by decide) (fun vm h P => ⟨_, rfl, Or.inl ⟨rfl, hq⟩, P⟩)
  · refine b_icF B3 d38_7 (pc' := 10) rfl hr ?_
    refine p_iconst B3 d38_10 rfl (v := (1 : Int32)) (by decide) ?_
    refine b_goto B3 d38_11 (pc' := 15) (by decide) (by decide) ?_
    exact r_reti B3 d38_15 rfl (by simp) rfl (by decide) (by decide) (fun vm h P => ⟨_, rfl, Or.inr rfl, P⟩)
abbrev D74_w := E74 0 0 0 0
theorem k_nl {g : GG} (W : GW g) {cs : List Int32} {H : List Ent} {Lt : List SE} (hl : cs.length ≤ 15) : Ct g D74_w #[(.int (Int32.ofNat cs.length))] H Lt (fun v vm h => v = some (.int (Int32.ofNat (2 * cs.length))) ∧ Hp g vm h H Lt) := by
  refine CtW.body (Ls := #[.val (.int (Int32.ofNat cs.length))]) W (by decide +kernel) (efr rfl) ?_
  intro M T B
  refine p_iloadN B d74_0 rfl rfl ?_
  refine b_ifT B d74_1 (pc' := 12) (n31 (by omega)) (by decide) (by decide) ?_
  refine p_iloadN B d74_12 rfl rfl ?_
  refine r_ldcI B d74_13 rfl (W443 B.gw) ?_
  refine b_icT B d74_15 (pc' := 55) (ltBig hl) (by decide) (by decide) ?_
  refine p_iloadN B d74_55 rfl rfl ?_
  refine p_iconst B d74_56 rfl (v := (1 : Int32)) (by decide) ?_
  refine p_ishl B d74_57 rfl rfl ?_
  rw [shl1' hl]
  exact r_reti B d74_58 rfl (by simp) rfl (by decide) (by decide) (fun vm h P => ⟨rfl, P⟩)
abbrev D73_w := E73 1 1 30 12
theorem k_nb {g : GG} (W : GW g) {cs : List Int32} {H : List Ent} {Lt : List SE} (hl : cs.length ≤ 15) : Ct g D73_w #[(.int (Int32.ofNat cs.length))] H Lt (fun v vm h => ∃ d, v = some (.ref d) ∧ Hp g vm h ((d, .inr (.byte, "[B", dv cs 0)) :: H) Lt) := by
  refine CtW.body (Ls := #[.val (.int (Int32.ofNat cs.length))]) W (by decide +kernel) (efr rfl) ?_
  intro M T B
  refine p_iloadN B d73_0 rfl rfl ?_
  refine r_static (D' := D74_w) B d73_1 rfl (W440 B.gw) (W441 B.gw) (W423 B.gw) (W442 B.gw) (by decide) (k_nl W hl) (argsL := [(.int (Int32.ofNat cs.length))]) (rest := []) rfl pd35 rfl rfl rfl (W := 0) rfl (cs' := 0) (ss' := 0) (by decide) (Kv1 fun T1 B3 => ?_)
  refine r_newp B3 d73_4 rfl (ty := .byte) (W7 B3.gw) rfl (n31 (by omega)) (nn := 2 * cs.length) (n31c (by omega)) (cap := 30) (by omega) (by decide) (cs' := 1) rfl (ss' := 30) rfl (by decide) (by decide) (ad := "[B") (by decide) (by decide) nofun (vs := dv cs 0) (dv0 cs).symm fun T4 a5 B6 => ?_
  exact r_reta B6 d73_6 rfl rfl rfl (by decide) (by decide) (fun vm h P => ⟨a5, rfl, P⟩)
abbrev D33_q66 := E33 0 0 0 0
theorem k_q66 {g : GG} (W : GW g) (z0 : Int32) (z1 : Int32) (H : List Ent) (Lt : List SE) (hf0 : ¬ (z1 = z0)) (hf1 : z1 < z0) : Ct g D33_q66 #[(.int z0), (.int z1)] (H) Lt (fun v vm h => v = some (.int z1) ∧ Hp g vm h (H) (Lt)) := by
  refine CtW.body (Ls := #[.val (.int z0), .val (.int z1)]) W (Jvm.Free.JP.mathPlain rfl (by decide +kernel)) (efr rfl) ?_
  intro M T B
  refine p_iloadN B d33_0 rfl rfl ?_
  refine p_iloadN B d33_1 rfl rfl ?_
  refine b_icT B d33_2 (pc' := 9) hf1 (by decide) (by decide) ?_
  refine p_iloadN B d33_9 rfl rfl ?_
  exact r_reti B d33_10 rfl (by simp) rfl (by decide) (by decide) (fun vm h P => ⟨rfl, P⟩)
abbrev D75_w := E75 1 1 30 18
theorem k_cy {g : GG} (W : GW g) {d : Addr} {vs : List Value} {k : Nat} {H : List Ent} {Lt : List SE} (hk : k < vs.length) (hv : vs.length ≤ 30) : Ct g D75_w #[(.ref d), (.int (Int32.ofNat k))] ((d, .inr (.byte, "[B", vs)) :: H) Lt (fun v vm h => ∃ r, v = some (.ref r) ∧ Hp g vm h ((r, .inr (.byte, "[B", vs.take k)) :: ((d, .inr (.byte, "[B", vs)) :: H)) Lt) := by
  refine CtW.body (Ls := #[.val (.ref d), .val (.int (Int32.ofNat k)), .unset]) W (by decide +kernel) (efr rfl) ?_
  intro M T B
  refine p_iloadN B d75_0 rfl rfl ?_
  refine p_aloadN B d75_1 rfl rfl rfl ?_
  refine r_alen B d75_2 rfl (aH (i := 0) rfl) (z := (Int32.ofNat vs.length)) rfl ?_
  refine b_icT B d75_3 (pc' := 14) (fun q => by have q' := injN (by omega) (by omega) q; omega) (by decide) (by decide) ?_
  refine p_iloadN B d75_14 rfl rfl ?_
  refine r_newp B d75_15 rfl (ty := .byte) (W7 B.gw) rfl (n31 (by omega)) (nn := k) (n31c (by omega)) (cap := 30) (by omega) (by decide) (cs' := 1) rfl (ss' := 30) rfl (by decide) (by decide) (ad := "[B") (by decide) (by decide) nofun (vs := List.replicate k (Value.int 0)) rfl fun T1 a2 B3 => ?_
  refine p_astoreN B3 d75_17 rfl rfl (Ls' := #[.val (.ref d), .val (.int (Int32.ofNat k)), .val (.ref a2)]) rfl ?_
  refine p_aloadN B3 d75_18 rfl rfl rfl ?_
  refine p_iconst B3 d75_19 rfl (v := (0 : Int32)) (by decide) ?_
  refine p_aloadN B3 d75_20 rfl rfl rfl ?_
  refine p_iconst B3 d75_21 rfl (v := (0 : Int32)) (by decide) ?_
  refine p_aloadN B3 d75_22 rfl rfl rfl ?_
  refine r_alen B3 d75_23 rfl (aH (i := 1) rfl) (z := (Int32.ofNat vs.length)) rfl ?_
  refine p_iloadN B3 d75_24 rfl rfl ?_
  refine r_static (D' := D33_q66) B3 d75_25 rfl (W213 B3.gw) (W214 B3.gw) (W215 B3.gw) (W216 B3.gw) (by decide) (k_q66 W (Int32.ofNat vs.length) (Int32.ofNat k) _ _ (fun q => by have q' := injN (by omega) (by omega) q; omega) (ltN hk (by omega))) (argsL := [(.int (Int32.ofNat vs.length)), (.int (Int32.ofNat k))]) (rest := [(.int 0), (.ref a2), (.int 0), (.ref d)]) rfl pd9 rfl rfl rfl (W := 4) rfl (cs' := 1) (ss' := 30) (by decide) (Kv1 fun T4 B6 => ?_)
  refine r_acopy B6 d75_28 (pc' := 31) (s0 := 0) (d0 := 0) (n0 := k) (us := vs.take k) (vd' := vs.take k) rfl (W217 B6.gw) (W220 B6.gw) (W218 B6.gw) (W219 B6.gw) (aH (i := 1) rfl) (i := 0) rfl (Or.inl ⟨rfl, rfl⟩) (by decide) (by decide) (by decide) (by decide) (n31 (by omega)) (n31c (by omega)) (by omega) (by rw [List.length_replicate]; omega) (cpt (by omega)) (cpu (by rw [List.length_take]; omega)) (H' := ((a2, .inr (.byte, "[B", (vs.take k))) :: (d, .inr (.byte, "[B", vs)) :: H)) rfl rfl (W := 0) rfl (by decide) (by decide) fun T7 B8 => ?_
  refine p_aloadN B8 d75_31 rfl rfl rfl ?_
  exact r_reta B8 d75_32 rfl rfl rfl (by decide) (by decide) (fun vm h P => ⟨a2, rfl, P⟩)
abbrev D37_w := E37 2 2 60 32
theorem lp_e8 {g : GG} (W : GW g) {b : Addr} {cs : List Int32} {H : List Ent} {Lt : List SE} (hl : cs.length ≤ 15) (hb : ∀ x ∈ cs, x.toInt8.toInt32 = x) (hp : ∃ x ∈ cs, ¬ x < 0) {d : Addr} {M : MM} : ∀ (k i : Nat), i + k = cs.length → ∀ (o8 : Slot), (o8 = .unset ∨ ∃ w, o8 = .val w ∧ w.category = 1) → ∀ {T : State}, RH g D37_w M T ((d, .inr (.byte, "[B", dv cs i)) :: (b, .inr (.byte, "[B", cs.map Value.int)) :: H) Lt 1 30 →
    Fn g D37_w M (fun v vm h => ∃ r, v = some (.ref r) ∧ Hp g vm h ((r, .inr (.byte, "[B", (u8L cs).map Value.int)) :: H) Lt) (T.setTop (mkF M.m 49 #[.val (.int (0 : Int32)), .val (.ref b), .val (.int (1 : Int32)), .val (.int (Int32.ofNat (dl cs i))), .val (.ref d), .val (.ref b), .val (.int (Int32.ofNat cs.length)), .val (.int (Int32.ofNat i)), o8] [])) := by
  intro k
  induction k with
  | zero =>
    intro i hi o8 ho T B
    have hi' : i = cs.length := by omega
    have hd : dl cs i = (u8L cs).length := by subst hi'; show (u8L (cs.take cs.length)).length = _; rw [List.take_length]
    have hlt := u8L_lt hp
    have hvl := dv_len cs i (by omega)
    refine p_iload B d37_49 rfl rfl ?_
    refine p_iload B d37_51 rfl rfl ?_
    refine b_icT B d37_53 (pc' := 124) (by subst hi'; exact Int32.lt_irrefl) (by decide) (by decide) ?_
    refine p_iloadN B d37_124 rfl rfl ?_
    refine p_aload B d37_125 rfl rfl rfl ?_
    refine r_alen B d37_127 rfl (aH (i := 0) rfl) (z := Int32.ofNat (2 * cs.length)) (by rw [hvl]) ?_
    refine b_icT B d37_128 (pc' := 134) (fun q => by have q' := injN (by omega) (by omega) q; omega) (by decide) (by decide) ?_
    refine p_aload B d37_134 rfl rfl rfl ?_
    refine p_iloadN B d37_136 rfl rfl ?_
    refine r_static (D' := D75_w) B d37_137 rfl (W444 B.gw) (W445 B.gw) (W205 B.gw) (W446 B.gw) (by decide) (k_cy W (k := dl cs i) (by omega) (by omega)) (argsL := [(.ref d), (.int (Int32.ofNat (dl cs i)))]) (rest := []) rfl pd38 rfl rfl rfl (W := 0) rfl (cs' := 2) (ss' := 60) (by decide) (Kex fun r => Kv1 fun T1 B3 => ?_)
    have B4 := ((B3.dl 1).dl 1)
    have hr : (dv cs i).take (dl cs i) = (u8L cs).map Value.int := by
      subst hi'
      unfold dv
      rw [List.take_left' (List.length_map ..), List.take_length]
    exact r_reta B4 d37_140 rfl rfl rfl (by decide) (by decide) (fun vm h P => ⟨r, rfl, by rw [← hr]; exact P⟩)
  | succ k ih =>
    intro i hi o8 ho T B
    have hlt : i < cs.length := by omega
    obtain ⟨y, ey⟩ : ∃ y, cs[i]? = some y := ⟨_, List.getElem?_eq_getElem hlt⟩
    have hdl : dl cs i ≤ 2 * i := dl_le cs i (by omega)
    have hvl := dv_len cs i (by omega)
    refine p_iload B d37_49 rfl rfl ?_
    refine p_iload B d37_51 rfl rfl ?_
    refine b_icF B d37_53 (pc' := 56) rfl (ltN hlt (by omega)) ?_
    refine p_aload B d37_56 rfl rfl rfl ?_
    refine p_iload B d37_58 rfl rfl ?_
    refine r_aget B d37_60 rfl rfl (aH (i := 1) rfl) (k := i) rfl (v := .int y) (by rw [List.getElem?_map, ey]; rfl) ?_
    refine p_istore B d37_61 rfl (Ls' := #[.val (.int 0), .val (.ref b), .val (.int 1), .val (.int (Int32.ofNat (dl cs i))), .val (.ref d), .val (.ref b), .val (.int (Int32.ofNat cs.length)), .val (.int (Int32.ofNat i)), .val (.int y)]) (XS.store1 (o := o8) rfl ho rfl) ?_
    refine p_iload B d37_63 rfl rfl ?_
    by_cases hy : y < (0 : Int32)
    · refine b_ifF B d37_65 (pc' := 68) rfl hy ?_
      refine p_aload B d37_68 rfl rfl rfl ?_
      refine p_iloadN B d37_70 rfl rfl ?_
      refine p_iinc B d37_71 rfl (v := (1 : Int32)) (by decide) rfl (z := ((Int32.ofNat (dl cs i)) + (1 : Int32))) rfl (Ls' := #[.val (.int 0), .val (.ref b), .val (.int 1), .val (.int ((Int32.ofNat (dl cs i)) + (1 : Int32))), .val (.ref d), .val (.ref b), .val (.int (Int32.ofNat cs.length)), .val (.int (Int32.ofNat i)), .val (.int y)]) rfl ?_
      rw [sucN (dl cs i)]
      refine p_sipush B d37_74 rfl (v := (192 : Int32)) (by decide) ?_
      refine p_iload B d37_77 rfl rfl ?_
      refine p_sipush B d37_79 rfl (v := (255 : Int32)) (by decide) ?_
      refine p_iand B d37_82 rfl rfl ?_
      refine p_bipush B d37_83 rfl (v := (6 : Int32)) (by decide) ?_
      refine p_ishr B d37_85 rfl rfl ?_
      refine p_ior B d37_86 rfl rfl ?_
      refine p_i2b B d37_87 rfl ?_
      refine r_bastore B d37_88 rfl (i := 0) rfl (n31 (by omega)) (k := dl cs i) (n31c (by omega)) (by first | omega | (simp only [List.length_set]; omega)) (x' := (b1 y)) (by_by _) (H' := ((d, .inr (.byte, "[B", ((dv cs i).set (dl cs i) (.int (b1 y))))) :: (b, .inr (.byte, "[B", (cs.map Value.int))) :: H)) rfl fun T5 B6 => ?_
      refine p_aload B6 d37_89 rfl rfl rfl ?_
      refine p_iloadN B6 d37_91 rfl rfl ?_
      refine p_iinc B6 d37_92 rfl (v := (1 : Int32)) (by decide) rfl (z := ((Int32.ofNat (dl cs i + 1)) + (1 : Int32))) rfl (Ls' := #[.val (.int 0), .val (.ref b), .val (.int 1), .val (.int ((Int32.ofNat (dl cs i + 1)) + (1 : Int32))), .val (.ref d), .val (.ref b), .val (.int (Int32.ofNat cs.length)), .val (.int (Int32.ofNat i)), .val (.int y)]) rfl ?_
      rw [sucN (dl cs i + 1)]
      refine p_sipush B6 d37_95 rfl (v := (128 : Int32)) (by decide) ?_
      refine p_iload B6 d37_98 rfl rfl ?_
      refine p_bipush B6 d37_100 rfl (v := (63 : Int32)) (by decide) ?_
      refine p_iand B6 d37_102 rfl rfl ?_
      refine p_ior B6 d37_103 rfl rfl ?_
      refine p_i2b B6 d37_104 rfl ?_
      refine r_bastore B6 d37_105 rfl (i := 0) rfl (n31 (by omega)) (k := dl cs i + 1) (n31c (by omega)) (by first | omega | (simp only [List.length_set]; omega)) (x' := (b2 y)) (by_by _) (H' := ((d, .inr (.byte, "[B", (dv cs (i + 1)))) :: (b, .inr (.byte, "[B", (cs.map Value.int))) :: H)) (by rw [← dv2 ey hy]; rfl) fun T7 B8 => ?_
      refine b_goto B8 d37_106 (pc' := 118) (by decide) (by decide) ?_
      refine p_iinc B8 d37_118 rfl (v := (1 : Int32)) (by decide) rfl (z := ((Int32.ofNat i) + (1 : Int32))) rfl (Ls' := #[.val (.int 0), .val (.ref b), .val (.int 1), .val (.int (Int32.ofNat (dl cs i + 1 + 1))), .val (.ref d), .val (.ref b), .val (.int (Int32.ofNat cs.length)), .val (.int ((Int32.ofNat i) + (1 : Int32))), .val (.int y)]) rfl ?_
      refine b_goto B8 d37_121 (pc' := 49) (by decide) (by decide) ?_
      rw [sucN i, show dl cs i + 1 + 1 = dl cs (i + 1) from by show _ = (u8L (cs.take (i + 1))).length; rw [tk1 ey, u8n hy, List.length_append]; rfl]
      exact ih (i + 1) (by omega) _ (Or.inr ⟨_, rfl, rfl⟩) B8
    · refine b_ifT B d37_65 (pc' := 109) hy (by decide) (by decide) ?_
      refine p_aload B d37_109 rfl rfl rfl ?_
      refine p_iloadN B d37_111 rfl rfl ?_
      refine p_iinc B d37_112 rfl (v := (1 : Int32)) (by decide) rfl (z := ((Int32.ofNat (dl cs i)) + (1 : Int32))) rfl (Ls' := #[.val (.int 0), .val (.ref b), .val (.int 1), .val (.int ((Int32.ofNat (dl cs i)) + (1 : Int32))), .val (.ref d), .val (.ref b), .val (.int (Int32.ofNat cs.length)), .val (.int (Int32.ofNat i)), .val (.int y)]) rfl ?_
      rw [sucN (dl cs i)]
      refine p_iload B d37_115 rfl rfl ?_
      refine r_bastore B d37_117 rfl (i := 0) rfl (n31 (by omega)) (k := dl cs i) (n31c (by omega)) (by first | omega | (simp only [List.length_set]; omega)) (x' := y) (hb y (List.mem_of_getElem? ey)) (H' := ((d, .inr (.byte, "[B", (dv cs (i + 1)))) :: (b, .inr (.byte, "[B", (cs.map Value.int))) :: H)) (by rw [← dv1 ey hy]; rfl) fun T9 B10 => ?_
      refine p_iinc B10 d37_118 rfl (v := (1 : Int32)) (by decide) rfl (z := ((Int32.ofNat i) + (1 : Int32))) rfl (Ls' := #[.val (.int 0), .val (.ref b), .val (.int 1), .val (.int (Int32.ofNat (dl cs i + 1))), .val (.ref d), .val (.ref b), .val (.int (Int32.ofNat cs.length)), .val (.int ((Int32.ofNat i) + (1 : Int32))), .val (.int y)]) rfl ?_
      refine b_goto B10 d37_121 (pc' := 49) (by decide) (by decide) ?_
      rw [sucN i, show dl cs i + 1 = dl cs (i + 1) from by show _ = (u8L (cs.take (i + 1))).length; rw [tk1 ey, u8p hy, List.length_append]; rfl]
      exact ih (i + 1) (by omega) _ (Or.inr ⟨_, rfl, rfl⟩) B10
theorem k_e8 {g : GG} (W : GW g) {b : Addr} {cs : List Int32} {H : List Ent} {Lt : List SE} (hl : cs.length ≤ 15) (hb : ∀ x ∈ cs, x.toInt8.toInt32 = x) (hp : ∃ x ∈ cs, ¬ x < 0) : Ct g D37_w #[(.int 0), (.ref b), (.int 1)] ((b, .inr (.byte, "[B", cs.map Value.int)) :: H) Lt (fun v vm h => ∃ r, v = some (.ref r) ∧ Hp g vm h ((r, .inr (.byte, "[B", (u8L cs).map Value.int)) :: H) Lt) := by
  refine CtW.body (Ls := #[.val (.int 0), .val (.ref b), .val (.int 1), .unset, .unset, .unset, .unset, .unset, .unset]) W (by decide +kernel) (efr rfl) ?_
  intro M T B
  refine p_iloadN B d37_0 rfl rfl ?_
  refine p_iconst B d37_1 rfl (v := (1 : Int32)) (by decide) ?_
  refine b_icT B d37_2 (pc' := 11) (show ¬ (0 : Int32) = (1 : Int32) from by decide) (by decide) (by decide) ?_
  refine p_aloadN B d37_11 rfl rfl rfl ?_
  refine p_iconst B d37_12 rfl (v := (0 : Int32)) (by decide) ?_
  refine p_aloadN B d37_13 rfl rfl rfl ?_
  refine r_alen B d37_14 rfl (aH (i := 0) rfl) (z := (Int32.ofNat cs.length)) (by rw [List.length_map]) ?_
  refine r_static (D' := D38_w) B d37_15 rfl (W243 B.gw) (W244 B.gw) (W245 B.gw) (W246 B.gw) (by decide) (k_hn W hl) (argsL := [(.ref b), (.int 0), (.int (Int32.ofNat cs.length))]) (rest := []) rfl pd36 rfl rfl rfl (W := 0) rfl (cs' := 0) (ss' := 0) (by decide) (Kex fun z => Kv1 fun T1 B3 => ?_)
  replace B3 := Rn.and B3
  obtain ⟨hz, B3⟩ := B3
  rcases hz with ⟨rfl, hz⟩ | rfl
  · refine b_ifF B3 d37_18 (pc' := 21) rfl (show (0 : Int32) = (0 : Int32) from by decide) ?_
    refine p_aloadN B3 d37_21 rfl rfl rfl ?_
    refine r_clone B3 d37_22 rfl (W250 B3.gw) (W251 B3.gw) (W255 B3.gw) (W253 B3.gw) (W254 B3.gw) (W256 B3.gw) (aH (i := 0) rfl) (by decide) nofun (cap := 15) (by rw [List.length_map]; exact hl) (cs' := 1) rfl (ss' := 15) rfl (by decide) (by decide) rfl (W := 0) rfl (by decide) (by decide) fun T4 a5 B6 => ?_
    refine r_cast B6 d37_25 rfl (W257 B6.gw) (fun vm h E P => Ins.self ((aE (i := 0) rfl (by decide)) vm h E P)) fun T7 B8 => ?_
    have B9 := (B8.dl 1)
    exact r_reta B9 d37_28 rfl rfl rfl (by decide) (by decide) (fun vm h P => ⟨a5, rfl, by rw [u8L_id hz]; exact P⟩)
  · refine b_ifT B3 d37_18 (pc' := 29) (show ¬ (1 : Int32) = (0 : Int32) from by decide) (by decide) (by decide) ?_
    refine p_iconst B3 d37_29 rfl (v := (0 : Int32)) (by decide) ?_
    refine p_istoreN B3 d37_30 rfl (Ls' := #[.val (.int 0), .val (.ref b), .val (.int 1), .val (.int 0), .unset, .unset, .unset, .unset, .unset]) rfl ?_
    refine p_aloadN B3 d37_31 rfl rfl rfl ?_
    refine r_alen B3 d37_32 rfl (aH (i := 0) rfl) (z := (Int32.ofNat cs.length)) (by rw [List.length_map]) ?_
    refine r_static (D' := D73_w) B3 d37_33 rfl (W437 B3.gw) (W438 B3.gw) (W423 B3.gw) (W439 B3.gw) (by decide) (k_nb W hl) (argsL := [(.int (Int32.ofNat cs.length))]) (rest := []) rfl pd37 rfl rfl rfl (W := 0) rfl (cs' := 1) (ss' := 30) (by decide) (Kex fun d => Kv1 fun T10 B12 => ?_)
    refine p_astore B12 d37_36 rfl rfl (Ls' := #[.val (.int 0), .val (.ref b), .val (.int 1), .val (.int 0), .val (.ref d), .unset, .unset, .unset, .unset]) rfl ?_
    refine p_aloadN B12 d37_38 rfl rfl rfl ?_
    refine p_astore B12 d37_39 rfl rfl (Ls' := #[.val (.int 0), .val (.ref b), .val (.int 1), .val (.int 0), .val (.ref d), .val (.ref b), .unset, .unset, .unset]) rfl ?_
    refine p_aload B12 d37_41 rfl rfl rfl ?_
    refine r_alen B12 d37_43 rfl (aH (i := 1) rfl) (z := (Int32.ofNat cs.length)) (by rw [List.length_map]) ?_
    refine p_istore B12 d37_44 rfl (Ls' := #[.val (.int 0), .val (.ref b), .val (.int 1), .val (.int 0), .val (.ref d), .val (.ref b), .val (.int (Int32.ofNat cs.length)), .unset, .unset]) rfl ?_
    refine p_iconst B12 d37_46 rfl (v := (0 : Int32)) (by decide) ?_
    refine p_istore B12 d37_47 rfl (Ls' := #[.val (.int 0), .val (.ref b), .val (.int 1), .val (.int 0), .val (.ref d), .val (.ref b), .val (.int (Int32.ofNat cs.length)), .val (.int 0), .unset]) rfl ?_
    exact lp_e8 W hl hb hp cs.length 0 (by omega) _ (Or.inl rfl) B12
abbrev D35_q68 := E35 0 0 0 0
theorem k_q68 {g : GG} (W : GW g) (x0 x1 : Addr) (H : List Ent) (Lt : List SE) : Ct g D35_q68 #[(.ref x0)] (oS x0 (.ref x1) (.int 0) :: H) Lt (fun v vm h => v = some (.int 0) ∧ Hp g vm h (oS x0 (.ref x1) (.int 0) :: H) (Lt)) := by
  refine CtW.body (Ls := #[.val (.ref x0)]) W (by decide +kernel) (efr rfl) ?_
  intro M T B
  obtain ⟨cz1, hcz1, gcz1⟩ := compact W
  refine r_gets B d35_0 rfl (host := "") (Or.inl (W234 B.gw)) Via.refl (v := (.int cz1)) hcz1 fun T2 B3 => ?_
  refine b_ifF B3 d35_3 (pc' := 6) rfl gcz1 ?_
  refine p_aloadN B3 d35_6 rfl rfl rfl ?_
  refine r_get B3 d35_7 rfl (host := "") (Or.inl (W202 B3.gw)) Via.refl (v := (.int 0)) (fO (i := 0) (j := 1) rfl rfl) fun T4 B5 => ?_
  refine b_goto B5 d35_10 (pc' := 14) (by decide) (by decide) ?_
  exact r_reti B5 d35_14 rfl (by simp) rfl (by decide) (by decide) (fun vm h P => ⟨rfl, P⟩)
abbrev D36_q69 := E36 3 2 60 52
theorem k_q69 {g : GG} (W : GW g) (x0 : Addr) (cs : List Int32) (H : List Ent) (Lt : List SE) (hl : cs.length ≤ 15) (hb : ∀ x ∈ cs, x.toInt8.toInt32 = x) (hp : ∃ x ∈ cs, ¬ x < 0) : Ct g D36_q69 #[(.ref (utOf g)), (.int 0), (.ref x0)] ((x0, .inr (.byte, "[B", (cs.map Value.int))) :: H) Lt (fun v vm h => ∃ r6, v = some (.ref r6) ∧ Hp g vm h ((r6, .inr (.byte, "[B", ((u8L cs).map Value.int))) :: H) (Lt)) := by
  refine CtW.body (Ls := #[.val (.ref (utOf g)), .val (.int 0), .val (.ref x0)]) W (by decide +kernel) (efr rfl) ?_
  intro M T B
  refine p_aloadN B d36_0 rfl rfl rfl ?_
  refine r_gets B d36_1 rfl (host := "") (Or.inl (W238 B.gw)) Via.refl (v := (.ref (utOf g))) (ui_sta W) fun T1 B2 => ?_
  refine b_anF B2 d36_4 (pc' := 7) rfl rfl rfl rfl ?_
  refine p_iloadN B2 d36_7 rfl rfl ?_
  refine p_aloadN B2 d36_8 rfl rfl rfl ?_
  refine p_iconst B2 d36_9 rfl (v := (1 : Int32)) (by decide) ?_
  refine r_static (D' := D37_w) B2 d36_10 rfl (W240 B2.gw) (W241 B2.gw) (W5 B2.gw) (W242 B2.gw) (by decide) (k_e8 W hl hb hp) (argsL := [(.int 0), (.ref x0), (.int 1)]) (rest := []) rfl pd39 rfl rfl rfl (W := 0) rfl (cs' := 2) (ss' := 60) (by decide) (Kex fun r6 => Kv1 fun T3 B5 => ?_)
  exact r_reta B5 d36_13 rfl rfl rfl (by decide) (by decide) (fun vm h P => ⟨r6, rfl, P⟩)
abbrev D34_w := E34 4 2 60 66
theorem W_gb {g : GG} (W : GW g) (s b : Addr) (cs : List Int32) (H : List Ent) (Lt : List SE) (hl : cs.length ≤ 15) (hb : ∀ x ∈ cs, x.toInt8.toInt32 = x) (hp : ∃ x ∈ cs, ¬ x < 0) : Ct g D34_w #[(.ref s), (.ref (utOf g))] (oS s (.ref b) (.int 0) :: (b, .inr (.byte, "[B", cs.map Value.int)) :: H) Lt (fun v vm h => ∃ r, v = some (.ref r) ∧ Hp g vm h ((r, .inr (.byte, "[B", (u8L cs).map Value.int)) :: H) Lt) := by
  refine CtW.body (Ls := #[.val (.ref s), .val (.ref (utOf g))]) W (by decide +kernel) (efr rfl) ?_
  intro M T B
  replace B : RH g D34_w M T (oS s (.ref b) (.int 0) :: (b, .inr (.byte, "[B", (cs.map Value.int))) :: H) Lt 0 0 := B
  refine p_aloadN B d34_0 rfl rfl rfl ?_
  refine b_nnT B d34_1 (pc' := 12) (by decide) (by decide) ?_
  refine p_aloadN B d34_12 rfl rfl rfl ?_
  refine p_aloadN B d34_13 rfl rfl rfl ?_
  refine r_virtual (D' := D35_q68) B d34_14 rfl (W229 B.gw) (W230 B.gw) (W232 B.gw) (fun vm0 hZ => notFace_of_selects (args := #[]) (mvT hZ (W232 B.gw))) (W231 B.gw) (W5 B.gw) (W233 B.gw) (by decide) (fE (i := 0) rfl) (k_q68 W s b _ _) (argsL := []) (rest := [(.ref (utOf g))]) rfl pd7 rfl rfl rfl (W := 1) rfl (cs' := 0) (ss' := 0) (by decide) (Kv1 fun T1 B3 => ?_)
  refine p_aloadN B3 d34_17 rfl rfl rfl ?_
  refine r_get B3 d34_18 rfl (host := "") (Or.inl (W221 B3.gw)) Via.refl (v := (.ref b)) (fO (i := 0) (j := 0) rfl rfl) fun T4 B5 => ?_
  have B6 := (B5.fr 1 rfl)
  refine r_static (D' := D36_q69) B6 d34_21 rfl (W235 B6.gw) (W236 B6.gw) (W5 B6.gw) (W237 B6.gw) (by decide) (k_q69 W b cs _ _ hl hb hp) (argsL := [(.ref (utOf g)), (.int 0), (.ref b)]) (rest := []) rfl pd40 rfl rfl rfl (W := 0) rfl (cs' := 2) (ss' := 60) (by decide) (Kex fun a10 => Kv1 fun T7 B9 => ?_)
  have B11 := (B9.dl 1)
  exact r_reta B11 d34_24 rfl rfl rfl (by decide) (by decide) (fun vm h P => ⟨a10, rfl, P⟩)
abbrev D1_w := E1 4 3 14 66
theorem k_st {g : GG} (W : GW g) (l c0 c1 : Int32) (hc0 : ¬ (255 : Int32) < c0) (hc1 : ¬ (255 : Int32) < c1) (hn0 : nar .char c0 = c0) (hn1 : nar .char c1 = c1) (H : List Ent) (Lt : List SE) : Ct g D1_w #[(.int l), (.int c0), (.int c1)] H Lt (fun v vm h => ∃ a b, v = some (.ref a) ∧ Hp g vm h H ((a, b, 0, (stB l c0 c1).map Value.int) :: Lt)) := by
  refine CtW.body (Ls := #[.val (.int l), .val (.int c0), .val (.int c1)]) W (by decide +kernel) (efr rfl) ?_
  intro M T B
  refine p_iloadN B d1_0 rfl rfl ?_
  by_cases h0 : l = (0 : Int32)
  · refine b_ifF B d1_1 (pc' := 4) rfl h0 ?_
    refine r_ldc B d1_4 rfl (W4 B.gw) (strW B.gw) (inEL B.gw (by decide)) (bs := []) ⟨by decide, by decide⟩ (z := (0 : Int32)) (by decide) (by decide) (n := 0) (by decide) (by decide) (cs' := 2) rfl (ss' := 4) rfl (by decide) (by decide) fun T1 a3 b4 B2 => ?_
    exact r_reta B2 d1_6 rfl rfl rfl (by decide) (by decide) (fun vm h P => ⟨_, _, rfl, by rw [show stB l c0 c1 = [] from if_pos h0]; exact P⟩)
  · refine b_ifT B d1_1 (pc' := 7) h0 (by decide) (by decide) ?_
    refine p_iloadN B d1_7 rfl rfl ?_
    refine p_iconst B d1_8 rfl (v := (1 : Int32)) (by decide) ?_
    by_cases h1 : l = (1 : Int32)
    · refine b_icF B d1_9 (pc' := 12) rfl h1 ?_
      refine p_iloadN B d1_12 rfl rfl ?_
      refine r_static (D' := D63) B d1_13 rfl (W402 B.gw) (W403 B.gw) (W5 B.gw) (W404 B.gw) (by decide) (k_vo W c0 hc0 _ _) (argsL := [(.int c0)]) (rest := []) rfl pd41 rfl rfl rfl (W := 0) rfl (cs' := 2) (ss' := 5) (by decide) (Kex fun q => Kex fun q' => Kv1 fun T5 B7 => ?_)
      exact r_reta B7 d1_16 rfl rfl rfl (by decide) (by decide) (fun vm h P => ⟨_, _, rfl, by rw [show stB l c0 c1 = [by_ c0] from (if_neg h0).trans (if_pos h1)]; exact P⟩)
    · refine b_icT B d1_9 (pc' := 17) h1 (by decide) (by decide) ?_
      refine r_new B d1_17 rfl (W413 B.gw) (W6 B.gw) (W5 B.gw) (Ly_oS B.gw) (by decide) (cs' := 1) rfl (ss' := 4) rfl (by decide) (by decide) fun T8 a10 B9 => ?_
      refine p_dup B9 d1_20 rfl rfl ?_
      refine p_iconst B9 d1_21 rfl (v := (2 : Int32)) (by decide) ?_
      refine r_newp B9 d1_22 rfl (ty := .char) (W414 B9.gw) rfl (by decide) (nn := 2) (by decide) (cap := 2) (by decide) (by decide) (cs' := 2) rfl (ss' := 6) rfl (by decide) (by decide) (ad := "[C") (by decide) (by decide) nofun (vs := [(.int 0), (.int 0)]) rfl fun T11 a13 B12 => ?_
      refine p_dup B12 d1_24 rfl rfl ?_
      refine p_iconst B12 d1_25 rfl (v := (0 : Int32)) (by decide) ?_
      refine p_iloadN B12 d1_26 rfl rfl ?_
      refine r_castore B12 d1_27 rfl (i := 0) rfl (by decide) (k := 0) (by decide) (by simp) (x' := c0) hn0 (H' := ((a13, .inr (.char, "[C", [(.int c0), (.int 0)])) :: oS a10 .null (.int 0) :: H)) rfl fun T14 B15 => ?_
      refine p_dup B15 d1_28 rfl rfl ?_
      refine p_iconst B15 d1_29 rfl (v := (1 : Int32)) (by decide) ?_
      refine p_iloadN B15 d1_30 rfl rfl ?_
      refine r_castore B15 d1_31 rfl (i := 0) rfl (by decide) (k := 1) (by decide) (by simp) (x' := c1) hn1 (H' := ((a13, .inr (.char, "[C", [(.int c0), (.int c1)])) :: oS a10 .null (.int 0) :: H)) rfl fun T16 B17 => ?_
      have B18 : RH g D1_w M T16 (oS a10 .null (.int 0) :: (a13, .inr (.char, "[C", [(.int c0), (.int c1)])) :: H) (Lt) 2 6 := B17.front (i := 1) rfl rfl
      refine r_special (D' := D66) B18 d1_32 rfl rfl rfl (W415 B18.gw) (W416 B18.gw) (W5 B18.gw) (W417 B18.gw) (by decide) (k_i1 W a10 a13 "[C" ([c0, c1] : List Int32) (by simp only [List.mem_cons, List.not_mem_nil, or_false, forall_eq_or_imp, forall_eq]; exact ⟨hc0, hc1⟩) (by simp) (by simp) (H) (Lt)) (a := a10) (argsL := [(.ref a13)]) (rest := [(.ref a10)]) rfl pd42 rfl rfl rfl (W := 1) rfl (cs' := 3) (ss' := 14) (by decide) fun T19 v20 B21 => ?_
      replace B21 := Rn.and B21
      obtain ⟨rfl, B21⟩ := B21
      replace B21 := Rn.ex B21
      obtain ⟨b22, B21⟩ := B21
      have B23 : RH g D1_w M T19 (H) ((a10, b22, 0, [(bV c0), (bV c1)]) :: Lt) 3 14 := B21.del 0 rfl
      show Fn g D1_w M _ (T19.setTop (mkF M.m 35 #[.val (.int l), .val (.int c0), .val (.int c1)] [(.ref a10)]))
      exact r_reta B23 d1_35 rfl rfl rfl (by decide) (by decide) (fun vm h P => ⟨_, _, rfl, by rw [show stB l c0 c1 = [by_ c0, by_ c1] from (if_neg h0).trans (if_neg h1)]; exact P⟩)
abbrev D14_q71 := E14 1 1 16 12
theorem k_q71 {g : GG} (W : GW g) (x0 : Addr) (H : List Ent) (Lt : List SE) : Ct g D14_q71 #[(.ref x0), (.int 16)] (oSB x0 .null (.int 0) (.int 0) :: H) Lt (fun v vm h => ∃ a8, v = none ∧ Hp g vm h ((a8, .inr (.byte, "[B", [(.int 0), (.int 0), (.int 0), (.int 0), (.int 0), (.int 0), (.int 0), (.int 0), (.int 0), (.int 0), (.int 0), (.int 0), (.int 0), (.int 0), (.int 0), (.int 0)])) :: oSB x0 (.ref a8) (.int 0) (.int 0) :: H) (Lt)) := by
  refine CtW.body (Ls := #[.val (.ref x0), .val (.int 16)]) W (by decide +kernel) (efr rfl) ?_
  intro M T B
  refine p_aloadN B d14_0 rfl rfl rfl ?_
  refine r_initO B d14_1 rfl (W98 B.gw) (W31 B.gw) (W32 B.gw) rfl (by decide) (W := 0) rfl (by decide) fun T1 B2 => ?_
  obtain ⟨cz3, hcz3, gcz3⟩ := compact W
  refine r_gets B2 d14_4 rfl (host := "") (Or.inl (W99 B2.gw)) Via.refl (v := (.int cz3)) hcz3 fun T4 B5 => ?_
  refine b_ifF B5 d14_7 (pc' := 10) rfl gcz3 ?_
  refine p_aloadN B5 d14_10 rfl rfl rfl ?_
  refine p_iloadN B5 d14_11 rfl rfl ?_
  refine r_newp B5 d14_12 rfl (ty := .byte) (W7 B5.gw) rfl (by decide) (nn := 16) (by decide) (cap := 16) (by decide) (by decide) (cs' := 1) rfl (ss' := 16) rfl (by decide) (by decide) (ad := "[B") (by decide) (by decide) nofun (vs := [(.int 0), (.int 0), (.int 0), (.int 0), (.int 0), (.int 0), (.int 0), (.int 0), (.int 0), (.int 0), (.int 0), (.int 0), (.int 0), (.int 0), (.int 0), (.int 0)]) rfl fun T6 a8 B7 => ?_
  refine r_put B7 d14_14 rfl (host := "") (Or.inl (W100 B7.gw)) Via.refl (i := 1) (j := 0) rfl rfl (Or.inl (W101 B7.gw)) (W87 B7.gw) (ty := (.array .byte)) (by decide) rfl rfl (H' := ((a8, .inr (.byte, "[B", [(.int 0), (.int 0), (.int 0), (.int 0), (.int 0), (.int 0), (.int 0), (.int 0), (.int 0), (.int 0), (.int 0), (.int 0), (.int 0), (.int 0), (.int 0), (.int 0)])) :: oSB x0 (.ref a8) (.int 0) (.int 0) :: H)) rfl fun T9 B10 => ?_
  refine p_aloadN B10 d14_17 rfl rfl rfl ?_
  refine p_iconst B10 d14_18 rfl (v := (0 : Int32)) (by decide) ?_
  refine r_put B10 d14_19 rfl (host := "") (Or.inl (W102 B10.gw)) Via.refl (i := 1) (j := 1) rfl rfl (Or.inl (W103 B10.gw)) (W87 B10.gw) (ty := .byte) (by decide) (by decide) (by decide) (H' := ((a8, .inr (.byte, "[B", [(.int 0), (.int 0), (.int 0), (.int 0), (.int 0), (.int 0), (.int 0), (.int 0), (.int 0), (.int 0), (.int 0), (.int 0), (.int 0), (.int 0), (.int 0), (.int 0)])) :: oSB x0 (.ref a8) (.int 0) (.int 0) :: H)) rfl fun T11 B12 => ?_
  refine b_goto B12 d14_22 (pc' := 38) (by decide) (by decide) ?_
  exact r_ret B12 d14_38 rfl (by decide) (by decide) (fun vm h P => ⟨a8, rfl, P⟩)
abbrev D13_q70 := E13 2 1 16 25
theorem k_q70 {g : GG} (W : GW g) (x0 : Addr) (H : List Ent) (Lt : List SE) : Ct g D13_q70 #[(.ref x0)] (oSB x0 .null (.int 0) (.int 0) :: H) Lt (fun v vm h => ∃ a4, v = none ∧ Hp g vm h ((a4, .inr (.byte, "[B", [(.int 0), (.int 0), (.int 0), (.int 0), (.int 0), (.int 0), (.int 0), (.int 0), (.int 0), (.int 0), (.int 0), (.int 0), (.int 0), (.int 0), (.int 0), (.int 0)])) :: oSB x0 (.ref a4) (.int 0) (.int 0) :: H) (Lt)) := by
  refine CtW.body (Ls := #[.val (.ref x0)]) W (by decide +kernel) (efr rfl) ?_
  intro M T B
  refine p_aloadN B d13_0 rfl rfl rfl ?_
  refine p_bipush B d13_1 rfl (v := (16 : Int32)) (by decide) ?_
  refine r_special (D' := D14_q71) B d13_3 rfl rfl rfl (W92 B.gw) (W93 B.gw) (W96 B.gw) (W97 B.gw) (by decide) (k_q71 W x0 _ _) (a := x0) (argsL := [(.int 16)]) (rest := []) rfl pd23 rfl rfl rfl (W := 0) rfl (cs' := 1) (ss' := 16) (by decide) (Kex fun a4 => Kv0 fun T1 B3 => ?_)
  exact r_ret B3 d13_6 rfl (by decide) (by decide) (fun vm h P => ⟨a4, rfl, P⟩)
abbrev D16_q73 := E16 0 0 0 0
theorem k_q73 {g : GG} (W : GW g) (H : List Ent) (Lt : List SE) : Ct g D16_q73 #[(.ref (elOf g))] (H) Lt (fun v vm h => v = some (.int 0) ∧ Hp g vm h (H) (Lt)) := by
  refine CtW.body (Ls := #[.val (.ref (elOf g))]) W (by decide +kernel) (efr rfl) ?_
  intro M T B
  refine p_aloadN B d16_0 rfl rfl rfl ?_
  refine r_get B d16_1 rfl (host := "") (Or.inl (W124 B.gw)) Via.refl (v := (.ref (eaOf g))) (el_fld W) fun T1 B2 => ?_
  obtain ⟨oc3, oA4, oz5⟩ := ea_arr W
  refine r_alenO B2 d16_4 rfl oA4 oz5 ?_
  exact r_reti B2 d16_5 rfl (by simp) rfl (by decide) (by decide) (fun vm h P => ⟨rfl, P⟩)
abbrev D17_q74 := E17 1 0 0 12
theorem k_q74 {g : GG} (W : GW g) (x0 : Addr) (H : List Ent) (Lt : List SE) : Ct g D17_q74 #[(.ref x0), (.ref (elOf g)), (.int 0)] (oLI x0 .null (.int 0) (.int 0) (.int 0) :: H) Lt (fun v vm h => v = none ∧ Hp g vm h (oLI x0 (.ref (elOf g)) (.int 0) (.int 0) (.int 0) :: H) (Lt)) := by
  refine CtW.body (Ls := #[.val (.ref x0), .val (.ref (elOf g)), .val (.int 0)]) W (by decide +kernel) (efr rfl) ?_
  intro M T B
  refine p_aloadN B d17_0 rfl rfl rfl ?_
  refine r_initO B d17_1 rfl (W130 B.gw) (W31 B.gw) (W32 B.gw) rfl (by decide) (W := 0) rfl (by decide) fun T1 B2 => ?_
  refine p_aloadN B2 d17_4 rfl rfl rfl ?_
  refine p_aloadN B2 d17_5 rfl rfl rfl ?_
  refine r_put B2 d17_6 rfl (host := "") (Or.inl (W131 B2.gw)) Via.refl (i := 0) (j := 0) rfl rfl (Or.inr ⟨(W132 B2.gw), rfl, rfl⟩) (W115 B2.gw) (ty := (.object "java/util/List")) (by decide) rfl rfl (H' := (oLI x0 (.ref (elOf g)) (.int 0) (.int 0) (.int 0) :: H)) rfl fun T3 B4 => ?_
  refine p_aloadN B4 d17_9 rfl rfl rfl ?_
  refine p_iloadN B4 d17_10 rfl rfl ?_
  refine r_put B4 d17_11 rfl (host := "") (Or.inl (W133 B4.gw)) Via.refl (i := 0) (j := 1) rfl rfl (Or.inr ⟨(W134 B4.gw), rfl, rfl⟩) (W115 B4.gw) (ty := .int) (by decide) rfl rfl (H' := (oLI x0 (.ref (elOf g)) (.int 0) (.int 0) (.int 0) :: H)) rfl fun T5 B6 => ?_
  refine p_aloadN B6 d17_14 rfl rfl rfl ?_
  refine p_iconst B6 d17_15 rfl (v := (0 : Int32)) (by decide) ?_
  refine r_put B6 d17_16 rfl (host := "") (Or.inl (W135 B6.gw)) Via.refl (i := 0) (j := 2) rfl rfl (Or.inl (W136 B6.gw)) (W115 B6.gw) (ty := .int) (by decide) rfl rfl (H' := (oLI x0 (.ref (elOf g)) (.int 0) (.int 0) (.int 0) :: H)) rfl fun T7 B8 => ?_
  refine p_aloadN B8 d17_19 rfl rfl rfl ?_
  refine p_iconst B8 d17_20 rfl (v := (0 : Int32)) (by decide) ?_
  refine r_put B8 d17_21 rfl (host := "") (Or.inl (W137 B8.gw)) Via.refl (i := 0) (j := 3) rfl rfl (Or.inr ⟨(W138 B8.gw), rfl, rfl⟩) (W115 B8.gw) (ty := .boolean) (by decide) (by decide) (by decide) (H' := (oLI x0 (.ref (elOf g)) (.int 0) (.int 0) (.int 0) :: H)) rfl fun T9 B10 => ?_
  exact r_ret B10 d17_24 rfl (by decide) (by decide) (fun vm h P => ⟨rfl, P⟩)
abbrev D15_q72 := E15 2 1 4 27
theorem k_q72 {g : GG} (W : GW g) (H : List Ent) (Lt : List SE) : Ct g D15_q72 #[(.ref (elOf g))] (H) Lt (fun v vm h => ∃ a3, v = some (.ref a3) ∧ Hp g vm h (oLI a3 (.ref (elOf g)) (.int 0) (.int 0) (.int 0) :: H) (Lt)) := by
  refine CtW.body (Ls := #[.val (.ref (elOf g))]) W (by decide +kernel) (efr rfl) ?_
  intro M T B
  refine r_new B d15_0 rfl (W114 B.gw) (W115 B.gw) (W116 B.gw) (Ly_oLI B.gw) (by decide) (cs' := 1) rfl (ss' := 4) rfl (by decide) (by decide) fun T1 a3 B2 => ?_
  refine p_dup B2 d15_3 rfl rfl ?_
  refine p_aloadN B2 d15_4 rfl rfl rfl ?_
  refine p_aloadN B2 d15_5 rfl rfl rfl ?_
  refine r_virtualUp (D' := D16_q73) B2 d15_6 rfl (W117 B2.gw) (W118 B2.gw) (W119 B2.gw) (by decide) (W120 B2.gw) (W121 B2.gw) (W122 B2.gw) (W123 B2.gw) (el_exa W) (k_q73 W _ _) (argsL := []) (rest := [(.ref (elOf g)), (.ref a3), (.ref a3)]) rfl pd22 rfl rfl rfl (W := 3) rfl (cs' := 1) (ss' := 4) (by decide) (Kv1 fun T4 B6 => ?_)
  refine r_special (D' := D17_q74) B6 d15_9 rfl rfl rfl (W126 B6.gw) (W127 B6.gw) (W116 B6.gw) (W129 B6.gw) (by decide) (k_q74 W a3 _ _) (a := a3) (argsL := [(.ref (elOf g)), (.int 0)]) (rest := [(.ref a3)]) rfl pd43 rfl rfl rfl (W := 1) rfl (cs' := 1) (ss' := 4) (by decide) (Kv0 fun T7 B9 => ?_)
  exact r_reta B9 d15_12 rfl rfl rfl (by decide) (by decide) (fun vm h P => ⟨a3, rfl, P⟩)
abbrev D18_q75 := E18 0 0 0 0
theorem k_q75 {g : GG} (W : GW g) (x0 : Addr) (H : List Ent) (Lt : List SE) : Ct g D18_q75 #[(.ref x0)] (oLI x0 (.ref (elOf g)) (.int 0) (.int 0) (.int 0) :: H) Lt (fun v vm h => v = some (.int 0) ∧ Hp g vm h (oLI x0 (.ref (elOf g)) (.int 0) (.int 0) (.int 0) :: H) (Lt)) := by
  refine CtW.body (Ls := #[.val (.ref x0)]) W (by decide +kernel) (efr rfl) ?_
  intro M T B
  refine p_aloadN B d18_0 rfl rfl rfl ?_
  refine r_get B d18_1 rfl (host := "") (Or.inl (W135 B.gw)) Via.refl (v := (.int 0)) (fO (i := 0) (j := 2) rfl rfl) fun T1 B2 => ?_
  refine p_aloadN B2 d18_4 rfl rfl rfl ?_
  refine r_get B2 d18_5 rfl (host := "") (Or.inl (W133 B2.gw)) Via.refl (v := (.int 0)) (fO (i := 0) (j := 1) rfl rfl) fun T3 B4 => ?_
  refine b_icT B4 d18_8 (pc' := 15) (show (0 : Int32) = (0 : Int32) from by decide) (by decide) (by decide) ?_
  refine p_iconst B4 d18_15 rfl (v := (0 : Int32)) (by decide) ?_
  exact r_reti B4 d18_16 rfl (by simp) rfl (by decide) (by decide) (fun vm h P => ⟨rfl, P⟩)
abbrev D12_w := E12 6 7 104 91
theorem c_by0 {g : GG} (W : GW g) (ev c d : Addr) (H : List Ent) (Lt : List SE) : Ct g D12_w #[(.ref ev)] (oEV ev (.ref (ilA g c [])) :: (IL g c d [] ++ H)) Lt (fun v vm h => ∃ r, v = some (.ref r) ∧ Hp g vm h ((r, .inr (.byte, "[B", (u8L ([] ++ [(10 : Int32)])).map Value.int)) :: H) Lt) := by
  refine CtW.body (Ls := #[.val (.ref ev), .unset, .unset, .unset]) W (by decide +kernel) (efr rfl) ?_
  intro M T B
  replace B : RH g D12_w M T (oEV ev (.ref (elOf g)) :: H) Lt 0 0 := B
  refine r_new B d12_0 rfl (W86 B.gw) (W87 B.gw) (W88 B.gw) (Ly_oSB B.gw) (by decide) (cs' := 1) rfl (ss' := 4) rfl (by decide) (by decide) fun T1 a3 B2 => ?_
  refine p_dup B2 d12_3 rfl rfl ?_
  refine r_special (D' := D13_q70) B2 d12_4 rfl rfl rfl (W89 B2.gw) (W90 B2.gw) (W88 B2.gw) (W91 B2.gw) (by decide) (k_q70 W a3 _ _) (a := a3) (argsL := []) (rest := [(.ref a3)]) rfl pd8 rfl rfl rfl (W := 1) rfl (cs' := 2) (ss' := 20) (by decide) (Kex fun a7 => Kv0 fun T4 B6 => ?_)
  refine p_astoreN B6 d12_7 rfl rfl (Ls' := #[.val (.ref ev), .val (.ref a3), .unset, .unset]) rfl ?_
  refine p_aloadN B6 d12_8 rfl rfl rfl ?_
  refine r_get B6 d12_9 rfl (host := "") (Or.inl (W79 B6.gw)) Via.refl (v := (.ref (elOf g))) (fO (i := 2) (j := 0) rfl rfl) fun T8 B9 => ?_
  refine r_iface (D' := D15_q72) B9 d12_12 rfl (W104 B9.gw) (W105 B9.gw) (W106 B9.gw) (by first | rfl | decide) (W107 B9.gw) (W108 B9.gw) (W109 B9.gw) (W110 B9.gw) (W111 B9.gw) (W112 B9.gw) (W113 B9.gw) (by decide) (el_exa W) (k_q72 W _ _) (argsL := []) (rest := []) rfl pd44 rfl rfl rfl (W := 0) rfl (cs' := 3) (ss' := 24) (by decide) (Kex fun a13 => Kv1 fun T10 B12 => ?_)
  refine p_astoreN B12 d12_17 rfl rfl (Ls' := #[.val (.ref ev), .val (.ref a3), .val (.ref a13), .unset]) rfl ?_
  refine p_aloadN B12 d12_18 rfl rfl rfl ?_
  refine r_iface (D' := D18_q75) B12 d12_19 rfl (W139 B12.gw) (W140 B12.gw) (W141 B12.gw) (by first | rfl | decide) (W142 B12.gw) (W143 B12.gw) (W144 B12.gw) (W145 B12.gw) (W146 B12.gw) (W116 B12.gw) (W147 B12.gw) (by decide) (fE (i := 0) rfl) (k_q75 W a13 _ _) (argsL := []) (rest := []) rfl pd13 rfl rfl rfl (W := 0) rfl (cs' := 3) (ss' := 24) (by decide) (Kv1 fun T14 B16 => ?_)
  refine b_ifT B16 d12_24 (pc' := 51) (show (0 : Int32) = (0 : Int32) from by decide) (by decide) (by decide) ?_
  refine p_aloadN B16 d12_51 rfl rfl rfl ?_
  refine p_bipush B16 d12_52 rfl (v := (10 : Int32)) (by decide) ?_
  have B17 := ((B16.fr 1 rfl).fr 2 rfl)
  refine r_virtual (D' := D19_w) B17 d12_54 rfl (W148 B17.gw) (W149 B17.gw) (W151 B17.gw) (fun vm0 hZ => notFace_of_selects (args := #[]) (mvT hZ (W151 B17.gw))) (W150 B17.gw) (W88 B17.gw) (W152 B17.gw) (by decide) (fE (i := 0) rfl) (W_ac W a3 a7 [] _ _ (by simp only [List.length_append, List.length_cons, List.length_nil]; omega)) (argsL := [(.int 10)]) (rest := []) rfl pd45 rfl rfl rfl (W := 0) rfl (cs' := 3) (ss' := 24) (by decide) (Kv1 fun T18 B20 => ?_)
  refine r_virtual (D' := D24_w) B20 d12_57 rfl (W174 B20.gw) (W175 B20.gw) (W177 B20.gw) (fun vm0 hZ => notFace_of_selects (args := #[]) (mvT hZ (W177 B20.gw))) (W176 B20.gw) (W88 B20.gw) (W178 B20.gw) (by decide) (fE (i := 0) rfl) (W_ts W a3 a7 ([] ++ [(10 : Int32)]) _ _ (by simp only [List.length_append, List.length_cons, List.length_nil]; omega)) (argsL := []) (rest := []) rfl pd46 rfl rfl rfl (W := 0) rfl (cs' := 5) (ss' := 44) (by decide) (Kex fun a24 => Kex fun b25 => Kv1 fun T21 B23 => ?_)
  refine r_gets B23 d12_60 rfl (host := "") (Or.inl (W222 B23.gw)) Via.refl (v := (.ref (utOf g))) (ut_sta W) fun T26 B27 => ?_
  refine r_virtual (D' := D34_w) B27 d12_63 rfl (W224 B27.gw) (W225 B27.gw) (W227 B27.gw) (fun vm0 hZ => notFace_of_selects (args := #[]) (mvT hZ (W227 B27.gw))) (W226 B27.gw) (W5 B27.gw) (W228 B27.gw) (by decide) (fE (i := 0) rfl) (W_gb W a24 b25 ([] ++ [(10 : Int32)]) _ _ (by simp only [List.length_append, List.length_cons, List.length_nil]; omega) (List.forall_mem_append.2 ⟨nofun, by decide⟩) ⟨10, by simp, by decide⟩) (argsL := [(.ref (utOf g))]) (rest := []) rfl pd47 rfl rfl rfl (W := 0) rfl (cs' := 7) (ss' := 104) (by decide) (Kex fun r31 => Kv1 fun T28 B30 => ?_)
  have B32 := ((B30.dl 1).dl 1)
  exact r_reta B32 d12_66 rfl rfl rfl (by decide) (by decide) (fun vm h P => ⟨r31, rfl, P⟩)
abbrev D54_q77 := E54 0 0 0 0
theorem k_q77 {g : GG} (W : GW g) (x0 x1 : Addr) (H : List Ent) (Lt : List SE) (ms0 : StrIn Lt x1) : Ct g D54_q77 #[(.ref x0)] (o12 x0 (.ref x1) (.ref (emOf g)) :: H) Lt (fun v vm h => v = some (.int 1) ∧ Hp g vm h (o12 x0 (.ref x1) (.ref (emOf g)) :: H) (Lt)) := by
  refine CtW.body (Ls := #[.val (.ref x0)]) W (by decide +kernel) (efr rfl) ?_
  intro M T B
  refine p_aloadN B d54_0 rfl rfl rfl ?_
  refine r_get B d54_1 rfl (host := "") (Or.inl (W343 B.gw)) Via.refl (v := (.ref (emOf g))) (fO (i := 0) (j := 1) rfl rfl) fun T1 B2 => ?_
  refine r_gets B2 d54_4 rfl (Or.inr (W342 B2.gw)) Via.refl (v := (.ref (emOf g))) (em_sta W) fun T3 B4 => ?_
  refine b_aeT B4 d54_7 (pc' := 14) rfl rfl rfl (by decide) (by decide) ?_
  refine p_iconst B4 d54_14 rfl (v := (1 : Int32)) (by decide) ?_
  exact r_reti B4 d54_15 rfl (by simp) rfl (by decide) (by decide) (fun vm h P => ⟨rfl, P⟩)
abbrev D17_q79 := E17 1 0 0 12
theorem k_q79 {g : GG} (W : GW g) (x0 x1 : Addr) (z0 : Int32) (H : List Ent) (Lt : List SE) : Ct g D17_q79 #[(.ref x0), (.ref x1), (.int z0)] (oLI x0 .null (.int 0) (.int 0) (.int 0) :: H) Lt (fun v vm h => v = none ∧ Hp g vm h (oLI x0 (.ref x1) (.int z0) (.int 0) (.int 0) :: H) (Lt)) := by
  refine CtW.body (Ls := #[.val (.ref x0), .val (.ref x1), .val (.int z0)]) W (by decide +kernel) (efr rfl) ?_
  intro M T B
  refine p_aloadN B d17_0 rfl rfl rfl ?_
  refine r_initO B d17_1 rfl (W130 B.gw) (W31 B.gw) (W32 B.gw) rfl (by decide) (W := 0) rfl (by decide) fun T1 B2 => ?_
  refine p_aloadN B2 d17_4 rfl rfl rfl ?_
  refine p_aloadN B2 d17_5 rfl rfl rfl ?_
  refine r_put B2 d17_6 rfl (host := "") (Or.inl (W131 B2.gw)) Via.refl (i := 0) (j := 0) rfl rfl (Or.inr ⟨(W132 B2.gw), rfl, rfl⟩) (W115 B2.gw) (ty := (.object "java/util/List")) (by decide) rfl rfl (H' := (oLI x0 (.ref x1) (.int 0) (.int 0) (.int 0) :: H)) rfl fun T3 B4 => ?_
  refine p_aloadN B4 d17_9 rfl rfl rfl ?_
  refine p_iloadN B4 d17_10 rfl rfl ?_
  refine r_put B4 d17_11 rfl (host := "") (Or.inl (W133 B4.gw)) Via.refl (i := 0) (j := 1) rfl rfl (Or.inr ⟨(W134 B4.gw), rfl, rfl⟩) (W115 B4.gw) (ty := .int) (by decide) rfl rfl (H' := (oLI x0 (.ref x1) (.int z0) (.int 0) (.int 0) :: H)) rfl fun T5 B6 => ?_
  refine p_aloadN B6 d17_14 rfl rfl rfl ?_
  refine p_iconst B6 d17_15 rfl (v := (0 : Int32)) (by decide) ?_
  refine r_put B6 d17_16 rfl (host := "") (Or.inl (W135 B6.gw)) Via.refl (i := 0) (j := 2) rfl rfl (Or.inl (W136 B6.gw)) (W115 B6.gw) (ty := .int) (by decide) rfl rfl (H' := (oLI x0 (.ref x1) (.int z0) (.int 0) (.int 0) :: H)) rfl fun T7 B8 => ?_
  refine p_aloadN B8 d17_19 rfl rfl rfl ?_
  refine p_iconst B8 d17_20 rfl (v := (0 : Int32)) (by decide) ?_
  refine r_put B8 d17_21 rfl (host := "") (Or.inl (W137 B8.gw)) Via.refl (i := 0) (j := 3) rfl rfl (Or.inr ⟨(W138 B8.gw), rfl, rfl⟩) (W115 B8.gw) (ty := .boolean) (by decide) (by decide) (by decide) (H' := (oLI x0 (.ref x1) (.int z0) (.int 0) (.int 0) :: H)) rfl fun T9 B10 => ?_
  exact r_ret B10 d17_24 rfl (by decide) (by decide) (fun vm h P => ⟨rfl, P⟩)
abbrev D15_q76 := E15 2 1 4 27
theorem k_q76 {g : GG} (W : GW g) (x0 x1 : Addr) (H : List Ent) (Lt : List SE) (ms0 : StrIn Lt x1) : Ct g D15_q76 #[(.ref x0)] (o12 x0 (.ref x1) (.ref (emOf g)) :: H) Lt (fun v vm h => ∃ a3, v = some (.ref a3) ∧ Hp g vm h (oLI a3 (.ref x0) (.int 1) (.int 0) (.int 0) :: o12 x0 (.ref x1) (.ref (emOf g)) :: H) (Lt)) := by
  refine CtW.body (Ls := #[.val (.ref x0)]) W (by decide +kernel) (efr rfl) ?_
  intro M T B
  refine r_new B d15_0 rfl (W114 B.gw) (W115 B.gw) (W116 B.gw) (Ly_oLI B.gw) (by decide) (cs' := 1) rfl (ss' := 4) rfl (by decide) (by decide) fun T1 a3 B2 => ?_
  refine p_dup B2 d15_3 rfl rfl ?_
  refine p_aloadN B2 d15_4 rfl rfl rfl ?_
  refine p_aloadN B2 d15_5 rfl rfl rfl ?_
  have B4 := (B2.fr 1 rfl)
  refine r_virtualUp (D' := D54_q77) B4 d15_6 rfl (W117 B4.gw) (W118 B4.gw) (W119 B4.gw) (by decide) (W348 B4.gw) (W349 B4.gw) (W318 B4.gw) (W350 B4.gw) (fE (i := 0) rfl) (k_q77 W x0 x1 _ _ ms0) (argsL := []) (rest := [(.ref x0), (.ref a3), (.ref a3)]) rfl pd22 rfl rfl rfl (W := 3) rfl (cs' := 1) (ss' := 4) (by decide) (Kv1 fun T5 B7 => ?_)
  have B8 := (B7.fr 1 rfl)
  refine r_special (D' := D17_q79) B8 d15_9 rfl rfl rfl (W126 B8.gw) (W127 B8.gw) (W116 B8.gw) (W129 B8.gw) (by decide) (k_q79 W a3 x0 (1 : Int32) _ _) (a := a3) (argsL := [(.ref x0), (.int 1)]) (rest := [(.ref a3)]) rfl pd43 rfl rfl rfl (W := 1) rfl (cs' := 1) (ss' := 4) (by decide) (Kv0 fun T9 B11 => ?_)
  exact r_reta B11 d15_12 rfl rfl rfl (by decide) (by decide) (fun vm h P => ⟨a3, rfl, P⟩)
abbrev D18_q81 := E18 0 0 0 0
theorem k_q81 {g : GG} (W : GW g) (x0 x1 : Addr) (H : List Ent) (Lt : List SE) : Ct g D18_q81 #[(.ref x0)] (oLI x0 (.ref x1) (.int 1) (.int 0) (.int 0) :: H) Lt (fun v vm h => v = some (.int 1) ∧ Hp g vm h (oLI x0 (.ref x1) (.int 1) (.int 0) (.int 0) :: H) (Lt)) := by
  refine CtW.body (Ls := #[.val (.ref x0)]) W (by decide +kernel) (efr rfl) ?_
  intro M T B
  refine p_aloadN B d18_0 rfl rfl rfl ?_
  refine r_get B d18_1 rfl (host := "") (Or.inl (W135 B.gw)) Via.refl (v := (.int 0)) (fO (i := 0) (j := 2) rfl rfl) fun T1 B2 => ?_
  refine p_aloadN B2 d18_4 rfl rfl rfl ?_
  refine r_get B2 d18_5 rfl (host := "") (Or.inl (W133 B2.gw)) Via.refl (v := (.int 1)) (fO (i := 0) (j := 1) rfl rfl) fun T3 B4 => ?_
  refine b_icF B4 d18_8 (pc' := 11) rfl (show ¬ (0 : Int32) = (1 : Int32) from by decide) ?_
  refine p_iconst B4 d18_11 rfl (v := (1 : Int32)) (by decide) ?_
  refine b_goto B4 d18_12 (pc' := 16) (by decide) (by decide) ?_
  exact r_reti B4 d18_16 rfl (by simp) rfl (by decide) (by decide) (fun vm h P => ⟨rfl, P⟩)
abbrev D55_q83 := E55 0 0 0 0
theorem k_q83 {g : GG} (W : GW g) (x0 x1 : Addr) (H : List Ent) (Lt : List SE) (ms0 : StrIn Lt x1) : Ct g D55_q83 #[(.ref x0), (.int 0)] (o12 x0 (.ref x1) (.ref (emOf g)) :: H) Lt (fun v vm h => v = some (.ref x1) ∧ Hp g vm h (o12 x0 (.ref x1) (.ref (emOf g)) :: H) (Lt)) := by
  refine CtW.body (Ls := #[.val (.ref x0), .val (.int 0)]) W (by decide +kernel) (efr rfl) ?_
  intro M T B
  refine p_iloadN B d55_0 rfl rfl ?_
  refine b_ifF B d55_1 (pc' := 4) rfl (show (0 : Int32) = (0 : Int32) from by decide) ?_
  refine p_aloadN B d55_4 rfl rfl rfl ?_
  refine r_get B d55_5 rfl (host := "") (Or.inl (W340 B.gw)) Via.refl (v := (.ref x1)) (fO (i := 0) (j := 0) rfl rfl) fun T1 B2 => ?_
  exact r_reta B2 d55_8 rfl rfl rfl (by decide) (by decide) (fun vm h P => ⟨rfl, P⟩)
abbrev D76_q82 := E76 1 0 0 13
theorem k_q82 {g : GG} (W : GW g) (x0 x1 x2 : Addr) (H : List Ent) (Lt : List SE) (ms0 : StrIn Lt x2) : CtH g D76_q82 [(0, 24, 25, 30)] #[(.ref x0)] (oLI x0 (.ref x1) (.int 1) (.int 0) (.int 0) :: o12 x1 (.ref x2) (.ref (emOf g)) :: H) Lt (fun v vm h => v = some (.ref x2) ∧ Hp g vm h (o12 x1 (.ref x2) (.ref (emOf g)) :: oLI x0 (.ref x1) (.int 1) (.int 1) (.int 0) :: H) (Lt)) := by
  refine CtH.body (Ls := #[.val (.ref x0), .unset, .unset]) W (by decide +kernel) (efr rfl) ?_
  intro M T B
  refine p_aloadN B d76_0 rfl rfl rfl ?_
  refine r_get B d76_1 rfl (host := "") (Or.inl (W135 B.gw)) Via.refl (v := (.int 0)) (fO (i := 0) (j := 2) rfl rfl) fun T1 B2 => ?_
  refine p_istoreN B2 d76_4 rfl (Ls' := #[.val (.ref x0), .val (.int 0), .unset]) rfl ?_
  refine p_aloadN B2 d76_5 rfl rfl rfl ?_
  refine r_get B2 d76_6 rfl (host := "") (Or.inl (W131 B2.gw)) Via.refl (v := (.ref x1)) (fO (i := 0) (j := 0) rfl rfl) fun T3 B4 => ?_
  refine p_iloadN B4 d76_9 rfl rfl ?_
  have B5 := (B4.fr 1 rfl)
  refine r_iface (D' := D55_q83) B5 d76_10 rfl (W359 B5.gw) (W360 B5.gw) (W361 B5.gw) (by first | rfl | decide) (W362 B5.gw) (W363 B5.gw) (W364 B5.gw) (W365 B5.gw) (W347 B5.gw) (W318 B5.gw) (W366 B5.gw) (by decide) (fE (i := 0) rfl) (k_q83 W x1 x2 _ _ ms0) (argsL := [(.int 0)]) (rest := []) rfl pd48 rfl rfl rfl (W := 0) rfl (cs' := 0) (ss' := 0) (by decide) (Kv1 fun T6 B8 => ?_)
  refine p_astoreN B8 d76_15 rfl rfl (Ls' := #[.val (.ref x0), .val (.int 0), .val (.ref x2)]) rfl ?_
  refine p_aloadN B8 d76_16 rfl rfl rfl ?_
  refine p_iloadN B8 d76_17 rfl rfl ?_
  refine p_iconst B8 d76_18 rfl (v := (1 : Int32)) (by decide) ?_
  refine p_iadd B8 d76_19 rfl (z := (1 : Int32)) (by decide) ?_
  refine r_put B8 d76_20 rfl (host := "") (Or.inl (W135 B8.gw)) Via.refl (i := 1) (j := 2) rfl rfl (Or.inl (W136 B8.gw)) (W115 B8.gw) (ty := .int) (by decide) rfl rfl (H' := (o12 x1 (.ref x2) (.ref (emOf g)) :: oLI x0 (.ref x1) (.int 1) (.int 1) (.int 0) :: H)) rfl fun T9 B10 => ?_
  refine p_aloadN B10 d76_23 rfl rfl rfl ?_
  exact r_reta B10 d76_24 rfl rfl rfl (by decide) (by decide) (fun vm h P => ⟨rfl, P⟩)
abbrev D18_q85 := E18 0 0 0 0
theorem k_q85 {g : GG} (W : GW g) (x0 x1 : Addr) (H : List Ent) (Lt : List SE) : Ct g D18_q85 #[(.ref x0)] (oLI x0 (.ref x1) (.int 1) (.int 1) (.int 0) :: H) Lt (fun v vm h => v = some (.int 0) ∧ Hp g vm h (oLI x0 (.ref x1) (.int 1) (.int 1) (.int 0) :: H) (Lt)) := by
  refine CtW.body (Ls := #[.val (.ref x0)]) W (by decide +kernel) (efr rfl) ?_
  intro M T B
  refine p_aloadN B d18_0 rfl rfl rfl ?_
  refine r_get B d18_1 rfl (host := "") (Or.inl (W135 B.gw)) Via.refl (v := (.int 1)) (fO (i := 0) (j := 2) rfl rfl) fun T1 B2 => ?_
  refine p_aloadN B2 d18_4 rfl rfl rfl ?_
  refine r_get B2 d18_5 rfl (host := "") (Or.inl (W133 B2.gw)) Via.refl (v := (.int 1)) (fO (i := 0) (j := 1) rfl rfl) fun T3 B4 => ?_
  refine b_icT B4 d18_8 (pc' := 15) (show (1 : Int32) = (1 : Int32) from by decide) (by decide) (by decide) ?_
  refine p_iconst B4 d18_15 rfl (v := (0 : Int32)) (by decide) ?_
  exact r_reti B4 d18_16 rfl (by simp) rfl (by decide) (by decide) (fun vm h P => ⟨rfl, P⟩)
theorem c_by1 {g : GG} (W : GW g) (ev c d x0 : Addr) (H : List Ent) (Lt : List SE) {xb0 : Addr} {us0 : List Int32} (mx0 : (x0, xb0, 0, us0.map Value.int) ∈ Lt) (hu0 : us0.length ≤ 2) (hb0 : ∀ x ∈ us0, x.toInt8.toInt32 = x) : Ct g D12_w #[(.ref ev)] (oEV ev (.ref (ilA g c [x0])) :: (IL g c d [x0] ++ H)) Lt (fun v vm h => ∃ r, v = some (.ref r) ∧ Hp g vm h ((r, .inr (.byte, "[B", (u8L ((([] ++ us0) ++ [(10 : Int32)]) ++ [(10 : Int32)])).map Value.int)) :: H) Lt) := by
  refine CtW.body (Ls := #[.val (.ref ev), .unset, .unset, .unset]) W (by decide +kernel) (efr rfl) ?_
  intro M T B
  replace B : RH g D12_w M T (oEV ev (.ref c) :: o12 c (.ref x0) (.ref (emOf g)) :: H) Lt 0 0 := B
  refine r_new B d12_0 rfl (W86 B.gw) (W87 B.gw) (W88 B.gw) (Ly_oSB B.gw) (by decide) (cs' := 1) rfl (ss' := 4) rfl (by decide) (by decide) fun T1 a3 B2 => ?_
  refine p_dup B2 d12_3 rfl rfl ?_
  refine r_special (D' := D13_q70) B2 d12_4 rfl rfl rfl (W89 B2.gw) (W90 B2.gw) (W88 B2.gw) (W91 B2.gw) (by decide) (k_q70 W a3 _ _) (a := a3) (argsL := []) (rest := [(.ref a3)]) rfl pd8 rfl rfl rfl (W := 1) rfl (cs' := 2) (ss' := 20) (by decide) (Kex fun a7 => Kv0 fun T4 B6 => ?_)
  refine p_astoreN B6 d12_7 rfl rfl (Ls' := #[.val (.ref ev), .val (.ref a3), .unset, .unset]) rfl ?_
  refine p_aloadN B6 d12_8 rfl rfl rfl ?_
  refine r_get B6 d12_9 rfl (host := "") (Or.inl (W79 B6.gw)) Via.refl (v := (.ref c)) (fO (i := 2) (j := 0) rfl rfl) fun T8 B9 => ?_
  have B10 := (B9.fr 3 rfl)
  refine r_iface (D' := D15_q76) B10 d12_12 rfl (W104 B10.gw) (W105 B10.gw) (W106 B10.gw) (by first | rfl | decide) (W345 B10.gw) (W108 B10.gw) (W109 B10.gw) (W346 B10.gw) (W347 B10.gw) (W112 B10.gw) (W113 B10.gw) (by decide) (fE (i := 0) rfl) (k_q76 W c x0 _ _ ⟨_, _, _, mx0⟩) (argsL := []) (rest := []) rfl pd44 rfl rfl rfl (W := 0) rfl (cs' := 3) (ss' := 24) (by decide) (Kex fun a14 => Kv1 fun T11 B13 => ?_)
  refine p_astoreN B13 d12_17 rfl rfl (Ls' := #[.val (.ref ev), .val (.ref a3), .val (.ref a14), .unset]) rfl ?_
  refine p_aloadN B13 d12_18 rfl rfl rfl ?_
  refine r_iface (D' := D18_q81) B13 d12_19 rfl (W139 B13.gw) (W140 B13.gw) (W141 B13.gw) (by first | rfl | decide) (W142 B13.gw) (W143 B13.gw) (W144 B13.gw) (W145 B13.gw) (W146 B13.gw) (W116 B13.gw) (W147 B13.gw) (by decide) (fE (i := 0) rfl) (k_q81 W a14 c _ _) (argsL := []) (rest := []) rfl pd13 rfl rfl rfl (W := 0) rfl (cs' := 3) (ss' := 24) (by decide) (Kv1 fun T15 B17 => ?_)
  refine b_ifF B17 d12_24 (pc' := 27) rfl (show ¬ (1 : Int32) = (0 : Int32) from by decide) ?_
  refine p_aloadN B17 d12_27 rfl rfl rfl ?_
  refine r_ifaceH (D' := D76_q82) B17 d12_28 rfl (W351 B17.gw) (W352 B17.gw) (W353 B17.gw) (by first | rfl | decide) (W354 B17.gw) (W355 B17.gw) (W356 B17.gw) (W357 B17.gw) (W146 B17.gw) (W116 B17.gw) (W358 B17.gw) (by decide) (fE (i := 0) rfl) (k_q82 W a14 c x0 _ _ ⟨_, _, _, mx0⟩) (argsL := []) (rest := []) rfl pd49 rfl rfl rfl (W := 0) rfl (cs' := 3) (ss' := 24) (by decide) (Kv1 fun T18 B20 => ?_)
  refine r_cast B20 d12_33 rfl (W367 B20.gw) (fun vm h E P => Ins.self ((sE mx0) vm h E P)) fun T21 B22 => ?_
  refine p_astoreN B22 d12_36 rfl rfl (Ls' := #[.val (.ref ev), .val (.ref a3), .val (.ref a14), .val (.ref x0)]) rfl ?_
  refine p_aloadN B22 d12_37 rfl rfl rfl ?_
  refine p_aloadN B22 d12_38 rfl rfl rfl ?_
  have B23 := ((B22.fr 2 rfl).fr 3 rfl)
  refine r_virtual (D' := D56_w) B23 d12_39 rfl (W368 B23.gw) (W369 B23.gw) (W371 B23.gw) (fun vm0 hZ => notFace_of_selects (args := #[]) (mvT hZ (W371 B23.gw))) (W370 B23.gw) (W88 B23.gw) (W372 B23.gw) (by decide) (fE (i := 0) rfl) (W_ap W a3 a7 x0 [] us0 _ _ mx0 (by simp only [List.length_append, List.length_cons, List.length_nil]; omega)) (argsL := [(.ref x0)]) (rest := []) rfl pd50 rfl rfl rfl (W := 0) rfl (cs' := 3) (ss' := 24) (by decide) (Kv1 fun T24 B26 => ?_)
  refine p_bipush B26 d12_42 rfl (v := (10 : Int32)) (by decide) ?_
  refine r_virtual (D' := D19_w) B26 d12_44 rfl (W148 B26.gw) (W149 B26.gw) (W151 B26.gw) (fun vm0 hZ => notFace_of_selects (args := #[]) (mvT hZ (W151 B26.gw))) (W150 B26.gw) (W88 B26.gw) (W152 B26.gw) (by decide) (fE (i := 0) rfl) (W_ac W a3 a7 ([] ++ us0) _ _ (by simp only [List.length_append, List.length_cons, List.length_nil]; omega)) (argsL := [(.int 10)]) (rest := []) rfl pd45 rfl rfl rfl (W := 0) rfl (cs' := 3) (ss' := 24) (by decide) (Kv1 fun T27 B29 => ?_)
  refine p_pop B29 d12_47 rfl rfl ?_
  refine b_goto B29 d12_48 (pc' := 18) (by decide) (by decide) ?_
  refine p_aloadN B29 d12_18 rfl rfl rfl ?_
  have B30 := (B29.fr 3 rfl)
  refine r_iface (D' := D18_q85) B30 d12_19 rfl (W139 B30.gw) (W140 B30.gw) (W141 B30.gw) (by first | rfl | decide) (W142 B30.gw) (W143 B30.gw) (W144 B30.gw) (W145 B30.gw) (W146 B30.gw) (W116 B30.gw) (W147 B30.gw) (by decide) (fE (i := 0) rfl) (k_q85 W a14 c _ _) (argsL := []) (rest := []) rfl pd13 rfl rfl rfl (W := 0) rfl (cs' := 3) (ss' := 24) (by decide) (Kv1 fun T31 B33 => ?_)
  refine b_ifT B33 d12_24 (pc' := 51) (show (0 : Int32) = (0 : Int32) from by decide) (by decide) (by decide) ?_
  refine p_aloadN B33 d12_51 rfl rfl rfl ?_
  refine p_bipush B33 d12_52 rfl (v := (10 : Int32)) (by decide) ?_
  have B34 := ((B33.fr 2 rfl).fr 2 rfl)
  refine r_virtual (D' := D19_w) B34 d12_54 rfl (W148 B34.gw) (W149 B34.gw) (W151 B34.gw) (fun vm0 hZ => notFace_of_selects (args := #[]) (mvT hZ (W151 B34.gw))) (W150 B34.gw) (W88 B34.gw) (W152 B34.gw) (by decide) (fE (i := 0) rfl) (W_ac W a3 a7 (([] ++ us0) ++ [(10 : Int32)]) _ _ (by simp only [List.length_append, List.length_cons, List.length_nil]; omega)) (argsL := [(.int 10)]) (rest := []) rfl pd45 rfl rfl rfl (W := 0) rfl (cs' := 3) (ss' := 24) (by decide) (Kv1 fun T35 B37 => ?_)
  refine r_virtual (D' := D24_w) B37 d12_57 rfl (W174 B37.gw) (W175 B37.gw) (W177 B37.gw) (fun vm0 hZ => notFace_of_selects (args := #[]) (mvT hZ (W177 B37.gw))) (W176 B37.gw) (W88 B37.gw) (W178 B37.gw) (by decide) (fE (i := 0) rfl) (W_ts W a3 a7 ((([] ++ us0) ++ [(10 : Int32)]) ++ [(10 : Int32)]) _ _ (by simp only [List.length_append, List.length_cons, List.length_nil]; omega)) (argsL := []) (rest := []) rfl pd46 rfl rfl rfl (W := 0) rfl (cs' := 5) (ss' := 44) (by decide) (Kex fun a41 => Kex fun b42 => Kv1 fun T38 B40 => ?_)
  refine r_gets B40 d12_60 rfl (host := "") (Or.inl (W222 B40.gw)) Via.refl (v := (.ref (utOf g))) (ut_sta W) fun T43 B44 => ?_
  refine r_virtual (D' := D34_w) B44 d12_63 rfl (W224 B44.gw) (W225 B44.gw) (W227 B44.gw) (fun vm0 hZ => notFace_of_selects (args := #[]) (mvT hZ (W227 B44.gw))) (W226 B44.gw) (W5 B44.gw) (W228 B44.gw) (by decide) (fE (i := 0) rfl) (W_gb W a41 b42 ((([] ++ us0) ++ [(10 : Int32)]) ++ [(10 : Int32)]) _ _ (by simp only [List.length_append, List.length_cons, List.length_nil]; omega) (List.forall_mem_append.2 ⟨List.forall_mem_append.2 ⟨List.forall_mem_append.2 ⟨nofun, hb0⟩, by decide⟩, by decide⟩) ⟨10, by simp, by decide⟩) (argsL := [(.ref (utOf g))]) (rest := []) rfl pd47 rfl rfl rfl (W := 0) rfl (cs' := 7) (ss' := 104) (by decide) (Kex fun r48 => Kv1 fun T45 B47 => ?_)
  have B49 := (((B47.dl 1).dl 1).dl 1)
  exact r_reta B49 d12_66 rfl rfl rfl (by decide) (by decide) (fun vm h P => ⟨r48, rfl, P⟩)
abbrev D54_q87 := E54 0 0 0 0
theorem k_q87 {g : GG} (W : GW g) (x0 x1 x2 : Addr) (H : List Ent) (Lt : List SE) (ms0 : StrIn Lt x1) (ms1 : StrIn Lt x2) : Ct g D54_q87 #[(.ref x0)] (o12 x0 (.ref x1) (.ref x2) :: H) Lt (fun v vm h => v = some (.int 2) ∧ Hp g vm h (o12 x0 (.ref x1) (.ref x2) :: H) (Lt)) := by
  refine CtW.body (Ls := #[.val (.ref x0)]) W (by decide +kernel) (efr rfl) ?_
  intro M T B
  refine p_aloadN B d54_0 rfl rfl rfl ?_
  refine r_get B d54_1 rfl (host := "") (Or.inl (W343 B.gw)) Via.refl (v := (.ref x2)) (fO (i := 0) (j := 1) rfl rfl) fun T1 B2 => ?_
  refine r_gets B2 d54_4 rfl (Or.inr (W342 B2.gw)) Via.refl (v := (.ref (emOf g))) (em_sta W) fun T3 B4 => ?_
  refine b_aeF B4 d54_7 (pc' := 10) rfl rfl rfl (fun e => Rn.fact B4 (fun vm h E P => Exa.ne ((sI ms1) vm h E P) ((em_exa W) vm h E P) (by decide)) (Value.ref.inj e)) ?_
  refine p_iconst B4 d54_10 rfl (v := (2 : Int32)) (by decide) ?_
  refine b_goto B4 d54_11 (pc' := 15) (by decide) (by decide) ?_
  exact r_reti B4 d54_15 rfl (by simp) rfl (by decide) (by decide) (fun vm h P => ⟨rfl, P⟩)
abbrev D15_q86 := E15 2 1 4 27
theorem k_q86 {g : GG} (W : GW g) (x0 x1 x2 : Addr) (H : List Ent) (Lt : List SE) (ms0 : StrIn Lt x1) (ms1 : StrIn Lt x2) : Ct g D15_q86 #[(.ref x0)] (o12 x0 (.ref x1) (.ref x2) :: H) Lt (fun v vm h => ∃ a3, v = some (.ref a3) ∧ Hp g vm h (oLI a3 (.ref x0) (.int 2) (.int 0) (.int 0) :: o12 x0 (.ref x1) (.ref x2) :: H) (Lt)) := by
  refine CtW.body (Ls := #[.val (.ref x0)]) W (by decide +kernel) (efr rfl) ?_
  intro M T B
  refine r_new B d15_0 rfl (W114 B.gw) (W115 B.gw) (W116 B.gw) (Ly_oLI B.gw) (by decide) (cs' := 1) rfl (ss' := 4) rfl (by decide) (by decide) fun T1 a3 B2 => ?_
  refine p_dup B2 d15_3 rfl rfl ?_
  refine p_aloadN B2 d15_4 rfl rfl rfl ?_
  refine p_aloadN B2 d15_5 rfl rfl rfl ?_
  have B4 := (B2.fr 1 rfl)
  refine r_virtualUp (D' := D54_q87) B4 d15_6 rfl (W117 B4.gw) (W118 B4.gw) (W119 B4.gw) (by decide) (W348 B4.gw) (W349 B4.gw) (W318 B4.gw) (W350 B4.gw) (fE (i := 0) rfl) (k_q87 W x0 x1 x2 _ _ ms0 ms1) (argsL := []) (rest := [(.ref x0), (.ref a3), (.ref a3)]) rfl pd22 rfl rfl rfl (W := 3) rfl (cs' := 1) (ss' := 4) (by decide) (Kv1 fun T5 B7 => ?_)
  have B8 := (B7.fr 1 rfl)
  refine r_special (D' := D17_q79) B8 d15_9 rfl rfl rfl (W126 B8.gw) (W127 B8.gw) (W116 B8.gw) (W129 B8.gw) (by decide) (k_q79 W a3 x0 (2 : Int32) _ _) (a := a3) (argsL := [(.ref x0), (.int 2)]) (rest := [(.ref a3)]) rfl pd43 rfl rfl rfl (W := 1) rfl (cs' := 1) (ss' := 4) (by decide) (Kv0 fun T9 B11 => ?_)
  exact r_reta B11 d15_12 rfl rfl rfl (by decide) (by decide) (fun vm h P => ⟨a3, rfl, P⟩)
abbrev D18_q90 := E18 0 0 0 0
theorem k_q90 {g : GG} (W : GW g) (x0 x1 : Addr) (H : List Ent) (Lt : List SE) : Ct g D18_q90 #[(.ref x0)] (oLI x0 (.ref x1) (.int 2) (.int 0) (.int 0) :: H) Lt (fun v vm h => v = some (.int 1) ∧ Hp g vm h (oLI x0 (.ref x1) (.int 2) (.int 0) (.int 0) :: H) (Lt)) := by
  refine CtW.body (Ls := #[.val (.ref x0)]) W (by decide +kernel) (efr rfl) ?_
  intro M T B
  refine p_aloadN B d18_0 rfl rfl rfl ?_
  refine r_get B d18_1 rfl (host := "") (Or.inl (W135 B.gw)) Via.refl (v := (.int 0)) (fO (i := 0) (j := 2) rfl rfl) fun T1 B2 => ?_
  refine p_aloadN B2 d18_4 rfl rfl rfl ?_
  refine r_get B2 d18_5 rfl (host := "") (Or.inl (W133 B2.gw)) Via.refl (v := (.int 2)) (fO (i := 0) (j := 1) rfl rfl) fun T3 B4 => ?_
  refine b_icF B4 d18_8 (pc' := 11) rfl (show ¬ (0 : Int32) = (2 : Int32) from by decide) ?_
  refine p_iconst B4 d18_11 rfl (v := (1 : Int32)) (by decide) ?_
  refine b_goto B4 d18_12 (pc' := 16) (by decide) (by decide) ?_
  exact r_reti B4 d18_16 rfl (by simp) rfl (by decide) (by decide) (fun vm h P => ⟨rfl, P⟩)
abbrev D55_q92 := E55 0 0 0 0
theorem k_q92 {g : GG} (W : GW g) (x0 x1 x2 : Addr) (H : List Ent) (Lt : List SE) (ms0 : StrIn Lt x1) (ms1 : StrIn Lt x2) : Ct g D55_q92 #[(.ref x0), (.int 0)] (o12 x0 (.ref x1) (.ref x2) :: H) Lt (fun v vm h => v = some (.ref x1) ∧ Hp g vm h (o12 x0 (.ref x1) (.ref x2) :: H) (Lt)) := by
  refine CtW.body (Ls := #[.val (.ref x0), .val (.int 0)]) W (by decide +kernel) (efr rfl) ?_
  intro M T B
  refine p_iloadN B d55_0 rfl rfl ?_
  refine b_ifF B d55_1 (pc' := 4) rfl (show (0 : Int32) = (0 : Int32) from by decide) ?_
  refine p_aloadN B d55_4 rfl rfl rfl ?_
  refine r_get B d55_5 rfl (host := "") (Or.inl (W340 B.gw)) Via.refl (v := (.ref x1)) (fO (i := 0) (j := 0) rfl rfl) fun T1 B2 => ?_
  exact r_reta B2 d55_8 rfl rfl rfl (by decide) (by decide) (fun vm h P => ⟨rfl, P⟩)
abbrev D76_q91 := E76 1 0 0 13
theorem k_q91 {g : GG} (W : GW g) (x0 x1 x2 x3 : Addr) (H : List Ent) (Lt : List SE) (ms0 : StrIn Lt x2) (ms1 : StrIn Lt x3) : CtH g D76_q91 [(0, 24, 25, 30)] #[(.ref x0)] (oLI x0 (.ref x1) (.int 2) (.int 0) (.int 0) :: o12 x1 (.ref x2) (.ref x3) :: H) Lt (fun v vm h => v = some (.ref x2) ∧ Hp g vm h (o12 x1 (.ref x2) (.ref x3) :: oLI x0 (.ref x1) (.int 2) (.int 1) (.int 0) :: H) (Lt)) := by
  refine CtH.body (Ls := #[.val (.ref x0), .unset, .unset]) W (by decide +kernel) (efr rfl) ?_
  intro M T B
  refine p_aloadN B d76_0 rfl rfl rfl ?_
  refine r_get B d76_1 rfl (host := "") (Or.inl (W135 B.gw)) Via.refl (v := (.int 0)) (fO (i := 0) (j := 2) rfl rfl) fun T1 B2 => ?_
  refine p_istoreN B2 d76_4 rfl (Ls' := #[.val (.ref x0), .val (.int 0), .unset]) rfl ?_
  refine p_aloadN B2 d76_5 rfl rfl rfl ?_
  refine r_get B2 d76_6 rfl (host := "") (Or.inl (W131 B2.gw)) Via.refl (v := (.ref x1)) (fO (i := 0) (j := 0) rfl rfl) fun T3 B4 => ?_
  refine p_iloadN B4 d76_9 rfl rfl ?_
  have B5 := (B4.fr 1 rfl)
  refine r_iface (D' := D55_q92) B5 d76_10 rfl (W359 B5.gw) (W360 B5.gw) (W361 B5.gw) (by first | rfl | decide) (W362 B5.gw) (W363 B5.gw) (W364 B5.gw) (W365 B5.gw) (W347 B5.gw) (W318 B5.gw) (W366 B5.gw) (by decide) (fE (i := 0) rfl) (k_q92 W x1 x2 x3 _ _ ms0 ms1) (argsL := [(.int 0)]) (rest := []) rfl pd48 rfl rfl rfl (W := 0) rfl (cs' := 0) (ss' := 0) (by decide) (Kv1 fun T6 B8 => ?_)
  refine p_astoreN B8 d76_15 rfl rfl (Ls' := #[.val (.ref x0), .val (.int 0), .val (.ref x2)]) rfl ?_
  refine p_aloadN B8 d76_16 rfl rfl rfl ?_
  refine p_iloadN B8 d76_17 rfl rfl ?_
  refine p_iconst B8 d76_18 rfl (v := (1 : Int32)) (by decide) ?_
  refine p_iadd B8 d76_19 rfl (z := (1 : Int32)) (by decide) ?_
  refine r_put B8 d76_20 rfl (host := "") (Or.inl (W135 B8.gw)) Via.refl (i := 1) (j := 2) rfl rfl (Or.inl (W136 B8.gw)) (W115 B8.gw) (ty := .int) (by decide) rfl rfl (H' := (o12 x1 (.ref x2) (.ref x3) :: oLI x0 (.ref x1) (.int 2) (.int 1) (.int 0) :: H)) rfl fun T9 B10 => ?_
  refine p_aloadN B10 d76_23 rfl rfl rfl ?_
  exact r_reta B10 d76_24 rfl rfl rfl (by decide) (by decide) (fun vm h P => ⟨rfl, P⟩)
abbrev D18_q94 := E18 0 0 0 0
theorem k_q94 {g : GG} (W : GW g) (x0 x1 : Addr) (H : List Ent) (Lt : List SE) : Ct g D18_q94 #[(.ref x0)] (oLI x0 (.ref x1) (.int 2) (.int 1) (.int 0) :: H) Lt (fun v vm h => v = some (.int 1) ∧ Hp g vm h (oLI x0 (.ref x1) (.int 2) (.int 1) (.int 0) :: H) (Lt)) := by
  refine CtW.body (Ls := #[.val (.ref x0)]) W (by decide +kernel) (efr rfl) ?_
  intro M T B
  refine p_aloadN B d18_0 rfl rfl rfl ?_
  refine r_get B d18_1 rfl (host := "") (Or.inl (W135 B.gw)) Via.refl (v := (.int 1)) (fO (i := 0) (j := 2) rfl rfl) fun T1 B2 => ?_
  refine p_aloadN B2 d18_4 rfl rfl rfl ?_
  refine r_get B2 d18_5 rfl (host := "") (Or.inl (W133 B2.gw)) Via.refl (v := (.int 2)) (fO (i := 0) (j := 1) rfl rfl) fun T3 B4 => ?_
  refine b_icF B4 d18_8 (pc' := 11) rfl (show ¬ (1 : Int32) = (2 : Int32) from by decide) ?_
  refine p_iconst B4 d18_11 rfl (v := (1 : Int32)) (by decide) ?_
  refine b_goto B4 d18_12 (pc' := 16) (by decide) (by decide) ?_
  exact r_reti B4 d18_16 rfl (by simp) rfl (by decide) (by decide) (fun vm h P => ⟨rfl, P⟩)
abbrev D55_q96 := E55 0 0 0 0
theorem k_q96 {g : GG} (W : GW g) (x0 x1 x2 : Addr) (H : List Ent) (Lt : List SE) (ms0 : StrIn Lt x1) (ms1 : StrIn Lt x2) : Ct g D55_q96 #[(.ref x0), (.int 1)] (o12 x0 (.ref x1) (.ref x2) :: H) Lt (fun v vm h => v = some (.ref x2) ∧ Hp g vm h (o12 x0 (.ref x1) (.ref x2) :: H) (Lt)) := by
  refine CtW.body (Ls := #[.val (.ref x0), .val (.int 1)]) W (by decide +kernel) (efr rfl) ?_
  intro M T B
  refine p_iloadN B d55_0 rfl rfl ?_
  refine b_ifT B d55_1 (pc' := 9) (show ¬ (1 : Int32) = (0 : Int32) from by decide) (by decide) (by decide) ?_
  refine p_iloadN B d55_9 rfl rfl ?_
  refine p_iconst B d55_10 rfl (v := (1 : Int32)) (by decide) ?_
  refine b_icF B d55_11 (pc' := 14) rfl (show (1 : Int32) = (1 : Int32) from by decide) ?_
  refine p_aloadN B d55_14 rfl rfl rfl ?_
  refine r_get B d55_15 rfl (host := "") (Or.inl (W343 B.gw)) Via.refl (v := (.ref x2)) (fO (i := 0) (j := 1) rfl rfl) fun T1 B2 => ?_
  refine r_gets B2 d55_18 rfl (Or.inr (W342 B2.gw)) Via.refl (v := (.ref (emOf g))) (em_sta W) fun T3 B4 => ?_
  refine b_aeF B4 d55_21 (pc' := 24) rfl rfl rfl (fun e => Rn.fact B4 (fun vm h E P => Exa.ne ((sI ms1) vm h E P) ((em_exa W) vm h E P) (by decide)) (Value.ref.inj e)) ?_
  refine p_aloadN B4 d55_24 rfl rfl rfl ?_
  refine r_get B4 d55_25 rfl (host := "") (Or.inl (W343 B4.gw)) Via.refl (v := (.ref x2)) (fO (i := 0) (j := 1) rfl rfl) fun T5 B6 => ?_
  exact r_reta B6 d55_28 rfl rfl rfl (by decide) (by decide) (fun vm h P => ⟨rfl, P⟩)
abbrev D76_q95 := E76 1 0 0 13
theorem k_q95 {g : GG} (W : GW g) (x0 x1 x2 x3 : Addr) (H : List Ent) (Lt : List SE) (ms0 : StrIn Lt x2) (ms1 : StrIn Lt x3) : CtH g D76_q95 [(0, 24, 25, 30)] #[(.ref x0)] (oLI x0 (.ref x1) (.int 2) (.int 1) (.int 0) :: o12 x1 (.ref x2) (.ref x3) :: H) Lt (fun v vm h => v = some (.ref x3) ∧ Hp g vm h (o12 x1 (.ref x2) (.ref x3) :: oLI x0 (.ref x1) (.int 2) (.int 2) (.int 0) :: H) (Lt)) := by
  refine CtH.body (Ls := #[.val (.ref x0), .unset, .unset]) W (by decide +kernel) (efr rfl) ?_
  intro M T B
  refine p_aloadN B d76_0 rfl rfl rfl ?_
  refine r_get B d76_1 rfl (host := "") (Or.inl (W135 B.gw)) Via.refl (v := (.int 1)) (fO (i := 0) (j := 2) rfl rfl) fun T1 B2 => ?_
  refine p_istoreN B2 d76_4 rfl (Ls' := #[.val (.ref x0), .val (.int 1), .unset]) rfl ?_
  refine p_aloadN B2 d76_5 rfl rfl rfl ?_
  refine r_get B2 d76_6 rfl (host := "") (Or.inl (W131 B2.gw)) Via.refl (v := (.ref x1)) (fO (i := 0) (j := 0) rfl rfl) fun T3 B4 => ?_
  refine p_iloadN B4 d76_9 rfl rfl ?_
  have B5 := (B4.fr 1 rfl)
  refine r_iface (D' := D55_q96) B5 d76_10 rfl (W359 B5.gw) (W360 B5.gw) (W361 B5.gw) (by first | rfl | decide) (W362 B5.gw) (W363 B5.gw) (W364 B5.gw) (W365 B5.gw) (W347 B5.gw) (W318 B5.gw) (W366 B5.gw) (by decide) (fE (i := 0) rfl) (k_q96 W x1 x2 x3 _ _ ms0 ms1) (argsL := [(.int 1)]) (rest := []) rfl pd48 rfl rfl rfl (W := 0) rfl (cs' := 0) (ss' := 0) (by decide) (Kv1 fun T6 B8 => ?_)
  refine p_astoreN B8 d76_15 rfl rfl (Ls' := #[.val (.ref x0), .val (.int 1), .val (.ref x3)]) rfl ?_
  refine p_aloadN B8 d76_16 rfl rfl rfl ?_
  refine p_iloadN B8 d76_17 rfl rfl ?_
  refine p_iconst B8 d76_18 rfl (v := (1 : Int32)) (by decide) ?_
  refine p_iadd B8 d76_19 rfl (z := (2 : Int32)) (by decide) ?_
  refine r_put B8 d76_20 rfl (host := "") (Or.inl (W135 B8.gw)) Via.refl (i := 1) (j := 2) rfl rfl (Or.inl (W136 B8.gw)) (W115 B8.gw) (ty := .int) (by decide) rfl rfl (H' := (o12 x1 (.ref x2) (.ref x3) :: oLI x0 (.ref x1) (.int 2) (.int 2) (.int 0) :: H)) rfl fun T9 B10 => ?_
  refine p_aloadN B10 d76_23 rfl rfl rfl ?_
  exact r_reta B10 d76_24 rfl rfl rfl (by decide) (by decide) (fun vm h P => ⟨rfl, P⟩)
abbrev D18_q98 := E18 0 0 0 0
theorem k_q98 {g : GG} (W : GW g) (x0 x1 : Addr) (H : List Ent) (Lt : List SE) : Ct g D18_q98 #[(.ref x0)] (oLI x0 (.ref x1) (.int 2) (.int 2) (.int 0) :: H) Lt (fun v vm h => v = some (.int 0) ∧ Hp g vm h (oLI x0 (.ref x1) (.int 2) (.int 2) (.int 0) :: H) (Lt)) := by
  refine CtW.body (Ls := #[.val (.ref x0)]) W (by decide +kernel) (efr rfl) ?_
  intro M T B
  refine p_aloadN B d18_0 rfl rfl rfl ?_
  refine r_get B d18_1 rfl (host := "") (Or.inl (W135 B.gw)) Via.refl (v := (.int 2)) (fO (i := 0) (j := 2) rfl rfl) fun T1 B2 => ?_
  refine p_aloadN B2 d18_4 rfl rfl rfl ?_
  refine r_get B2 d18_5 rfl (host := "") (Or.inl (W133 B2.gw)) Via.refl (v := (.int 2)) (fO (i := 0) (j := 1) rfl rfl) fun T3 B4 => ?_
  refine b_icT B4 d18_8 (pc' := 15) (show (2 : Int32) = (2 : Int32) from by decide) (by decide) (by decide) ?_
  refine p_iconst B4 d18_15 rfl (v := (0 : Int32)) (by decide) ?_
  exact r_reti B4 d18_16 rfl (by simp) rfl (by decide) (by decide) (fun vm h P => ⟨rfl, P⟩)
theorem c_by2 {g : GG} (W : GW g) (ev c d x0 x1 : Addr) (H : List Ent) (Lt : List SE) {xb0 : Addr} {us0 : List Int32} (mx0 : (x0, xb0, 0, us0.map Value.int) ∈ Lt) (hu0 : us0.length ≤ 2) (hb0 : ∀ x ∈ us0, x.toInt8.toInt32 = x) {xb1 : Addr} {us1 : List Int32} (mx1 : (x1, xb1, 0, us1.map Value.int) ∈ Lt) (hu1 : us1.length ≤ 2) (hb1 : ∀ x ∈ us1, x.toInt8.toInt32 = x) : Ct g D12_w #[(.ref ev)] (oEV ev (.ref (ilA g c [x0, x1])) :: (IL g c d [x0, x1] ++ H)) Lt (fun v vm h => ∃ r, v = some (.ref r) ∧ Hp g vm h ((r, .inr (.byte, "[B", (u8L ((((([] ++ us0) ++ [(10 : Int32)]) ++ us1) ++ [(10 : Int32)]) ++ [(10 : Int32)])).map Value.int)) :: H) Lt) := by
  refine CtW.body (Ls := #[.val (.ref ev), .unset, .unset, .unset]) W (by decide +kernel) (efr rfl) ?_
  intro M T B
  replace B : RH g D12_w M T (oEV ev (.ref c) :: o12 c (.ref x0) (.ref x1) :: H) Lt 0 0 := B
  refine r_new B d12_0 rfl (W86 B.gw) (W87 B.gw) (W88 B.gw) (Ly_oSB B.gw) (by decide) (cs' := 1) rfl (ss' := 4) rfl (by decide) (by decide) fun T1 a3 B2 => ?_
  refine p_dup B2 d12_3 rfl rfl ?_
  refine r_special (D' := D13_q70) B2 d12_4 rfl rfl rfl (W89 B2.gw) (W90 B2.gw) (W88 B2.gw) (W91 B2.gw) (by decide) (k_q70 W a3 _ _) (a := a3) (argsL := []) (rest := [(.ref a3)]) rfl pd8 rfl rfl rfl (W := 1) rfl (cs' := 2) (ss' := 20) (by decide) (Kex fun a7 => Kv0 fun T4 B6 => ?_)
  refine p_astoreN B6 d12_7 rfl rfl (Ls' := #[.val (.ref ev), .val (.ref a3), .unset, .unset]) rfl ?_
  refine p_aloadN B6 d12_8 rfl rfl rfl ?_
  refine r_get B6 d12_9 rfl (host := "") (Or.inl (W79 B6.gw)) Via.refl (v := (.ref c)) (fO (i := 2) (j := 0) rfl rfl) fun T8 B9 => ?_
  have B10 := (B9.fr 3 rfl)
  refine r_iface (D' := D15_q86) B10 d12_12 rfl (W104 B10.gw) (W105 B10.gw) (W106 B10.gw) (by first | rfl | decide) (W345 B10.gw) (W108 B10.gw) (W109 B10.gw) (W346 B10.gw) (W347 B10.gw) (W112 B10.gw) (W113 B10.gw) (by decide) (fE (i := 0) rfl) (k_q86 W c x0 x1 _ _ ⟨_, _, _, mx0⟩ ⟨_, _, _, mx1⟩) (argsL := []) (rest := []) rfl pd44 rfl rfl rfl (W := 0) rfl (cs' := 3) (ss' := 24) (by decide) (Kex fun a14 => Kv1 fun T11 B13 => ?_)
  refine p_astoreN B13 d12_17 rfl rfl (Ls' := #[.val (.ref ev), .val (.ref a3), .val (.ref a14), .unset]) rfl ?_
  refine p_aloadN B13 d12_18 rfl rfl rfl ?_
  refine r_iface (D' := D18_q90) B13 d12_19 rfl (W139 B13.gw) (W140 B13.gw) (W141 B13.gw) (by first | rfl | decide) (W142 B13.gw) (W143 B13.gw) (W144 B13.gw) (W145 B13.gw) (W146 B13.gw) (W116 B13.gw) (W147 B13.gw) (by decide) (fE (i := 0) rfl) (k_q90 W a14 c _ _) (argsL := []) (rest := []) rfl pd13 rfl rfl rfl (W := 0) rfl (cs' := 3) (ss' := 24) (by decide) (Kv1 fun T15 B17 => ?_)
  refine b_ifF B17 d12_24 (pc' := 27) rfl (show ¬ (1 : Int32) = (0 : Int32) from by decide) ?_
  refine p_aloadN B17 d12_27 rfl rfl rfl ?_
  refine r_ifaceH (D' := D76_q91) B17 d12_28 rfl (W351 B17.gw) (W352 B17.gw) (W353 B17.gw) (by first | rfl | decide) (W354 B17.gw) (W355 B17.gw) (W356 B17.gw) (W357 B17.gw) (W146 B17.gw) (W116 B17.gw) (W358 B17.gw) (by decide) (fE (i := 0) rfl) (k_q91 W a14 c x0 x1 _ _ ⟨_, _, _, mx0⟩ ⟨_, _, _, mx1⟩) (argsL := []) (rest := []) rfl pd49 rfl rfl rfl (W := 0) rfl (cs' := 3) (ss' := 24) (by decide) (Kv1 fun T18 B20 => ?_)
  refine r_cast B20 d12_33 rfl (W367 B20.gw) (fun vm h E P => Ins.self ((sE mx0) vm h E P)) fun T21 B22 => ?_
  refine p_astoreN B22 d12_36 rfl rfl (Ls' := #[.val (.ref ev), .val (.ref a3), .val (.ref a14), .val (.ref x0)]) rfl ?_
  refine p_aloadN B22 d12_37 rfl rfl rfl ?_
  refine p_aloadN B22 d12_38 rfl rfl rfl ?_
  have B23 := ((B22.fr 2 rfl).fr 3 rfl)
  refine r_virtual (D' := D56_w) B23 d12_39 rfl (W368 B23.gw) (W369 B23.gw) (W371 B23.gw) (fun vm0 hZ => notFace_of_selects (args := #[]) (mvT hZ (W371 B23.gw))) (W370 B23.gw) (W88 B23.gw) (W372 B23.gw) (by decide) (fE (i := 0) rfl) (W_ap W a3 a7 x0 [] us0 _ _ mx0 (by simp only [List.length_append, List.length_cons, List.length_nil]; omega)) (argsL := [(.ref x0)]) (rest := []) rfl pd50 rfl rfl rfl (W := 0) rfl (cs' := 3) (ss' := 24) (by decide) (Kv1 fun T24 B26 => ?_)
  refine p_bipush B26 d12_42 rfl (v := (10 : Int32)) (by decide) ?_
  refine r_virtual (D' := D19_w) B26 d12_44 rfl (W148 B26.gw) (W149 B26.gw) (W151 B26.gw) (fun vm0 hZ => notFace_of_selects (args := #[]) (mvT hZ (W151 B26.gw))) (W150 B26.gw) (W88 B26.gw) (W152 B26.gw) (by decide) (fE (i := 0) rfl) (W_ac W a3 a7 ([] ++ us0) _ _ (by simp only [List.length_append, List.length_cons, List.length_nil]; omega)) (argsL := [(.int 10)]) (rest := []) rfl pd45 rfl rfl rfl (W := 0) rfl (cs' := 3) (ss' := 24) (by decide) (Kv1 fun T27 B29 => ?_)
  refine p_pop B29 d12_47 rfl rfl ?_
  refine b_goto B29 d12_48 (pc' := 18) (by decide) (by decide) ?_
  refine p_aloadN B29 d12_18 rfl rfl rfl ?_
  have B30 := (B29.fr 3 rfl)
  refine r_iface (D' := D18_q94) B30 d12_19 rfl (W139 B30.gw) (W140 B30.gw) (W141 B30.gw) (by first | rfl | decide) (W142 B30.gw) (W143 B30.gw) (W144 B30.gw) (W145 B30.gw) (W146 B30.gw) (W116 B30.gw) (W147 B30.gw) (by decide) (fE (i := 0) rfl) (k_q94 W a14 c _ _) (argsL := []) (rest := []) rfl pd13 rfl rfl rfl (W := 0) rfl (cs' := 3) (ss' := 24) (by decide) (Kv1 fun T31 B33 => ?_)
  refine b_ifF B33 d12_24 (pc' := 27) rfl (show ¬ (1 : Int32) = (0 : Int32) from by decide) ?_
  refine p_aloadN B33 d12_27 rfl rfl rfl ?_
  have B34 := ((B33.fr 3 rfl).fr 1 rfl)
  refine r_ifaceH (D' := D76_q95) B34 d12_28 rfl (W351 B34.gw) (W352 B34.gw) (W353 B34.gw) (by first | rfl | decide) (W354 B34.gw) (W355 B34.gw) (W356 B34.gw) (W357 B34.gw) (W146 B34.gw) (W116 B34.gw) (W358 B34.gw) (by decide) (fE (i := 0) rfl) (k_q95 W a14 c x0 x1 _ _ ⟨_, _, _, mx0⟩ ⟨_, _, _, mx1⟩) (argsL := []) (rest := []) rfl pd49 rfl rfl rfl (W := 0) rfl (cs' := 3) (ss' := 24) (by decide) (Kv1 fun T35 B37 => ?_)
  refine r_cast B37 d12_33 rfl (W367 B37.gw) (fun vm h E P => Ins.self ((sE mx1) vm h E P)) fun T38 B39 => ?_
  refine p_astoreN B39 d12_36 rfl rfl (Ls' := #[.val (.ref ev), .val (.ref a3), .val (.ref a14), .val (.ref x1)]) rfl ?_
  refine p_aloadN B39 d12_37 rfl rfl rfl ?_
  refine p_aloadN B39 d12_38 rfl rfl rfl ?_
  have B40 := ((B39.fr 3 rfl).fr 3 rfl)
  refine r_virtual (D' := D56_w) B40 d12_39 rfl (W368 B40.gw) (W369 B40.gw) (W371 B40.gw) (fun vm0 hZ => notFace_of_selects (args := #[]) (mvT hZ (W371 B40.gw))) (W370 B40.gw) (W88 B40.gw) (W372 B40.gw) (by decide) (fE (i := 0) rfl) (W_ap W a3 a7 x1 (([] ++ us0) ++ [(10 : Int32)]) us1 _ _ mx1 (by simp only [List.length_append, List.length_cons, List.length_nil]; omega)) (argsL := [(.ref x1)]) (rest := []) rfl pd50 rfl rfl rfl (W := 0) rfl (cs' := 3) (ss' := 24) (by decide) (Kv1 fun T41 B43 => ?_)
  refine p_bipush B43 d12_42 rfl (v := (10 : Int32)) (by decide) ?_
  refine r_virtual (D' := D19_w) B43 d12_44 rfl (W148 B43.gw) (W149 B43.gw) (W151 B43.gw) (fun vm0 hZ => notFace_of_selects (args := #[]) (mvT hZ (W151 B43.gw))) (W150 B43.gw) (W88 B43.gw) (W152 B43.gw) (by decide) (fE (i := 0) rfl) (W_ac W a3 a7 ((([] ++ us0) ++ [(10 : Int32)]) ++ us1) _ _ (by simp only [List.length_append, List.length_cons, List.length_nil]; omega)) (argsL := [(.int 10)]) (rest := []) rfl pd45 rfl rfl rfl (W := 0) rfl (cs' := 3) (ss' := 24) (by decide) (Kv1 fun T44 B46 => ?_)
  refine p_pop B46 d12_47 rfl rfl ?_
  refine b_goto B46 d12_48 (pc' := 18) (by decide) (by decide) ?_
  refine p_aloadN B46 d12_18 rfl rfl rfl ?_
  have B47 := (B46.fr 3 rfl)
  refine r_iface (D' := D18_q98) B47 d12_19 rfl (W139 B47.gw) (W140 B47.gw) (W141 B47.gw) (by first | rfl | decide) (W142 B47.gw) (W143 B47.gw) (W144 B47.gw) (W145 B47.gw) (W146 B47.gw) (W116 B47.gw) (W147 B47.gw) (by decide) (fE (i := 0) rfl) (k_q98 W a14 c _ _) (argsL := []) (rest := []) rfl pd13 rfl rfl rfl (W := 0) rfl (cs' := 3) (ss' := 24) (by decide) (Kv1 fun T48 B50 => ?_)
  refine b_ifT B50 d12_24 (pc' := 51) (show (0 : Int32) = (0 : Int32) from by decide) (by decide) (by decide) ?_
  refine p_aloadN B50 d12_51 rfl rfl rfl ?_
  refine p_bipush B50 d12_52 rfl (v := (10 : Int32)) (by decide) ?_
  have B51 := ((B50.fr 2 rfl).fr 2 rfl)
  refine r_virtual (D' := D19_w) B51 d12_54 rfl (W148 B51.gw) (W149 B51.gw) (W151 B51.gw) (fun vm0 hZ => notFace_of_selects (args := #[]) (mvT hZ (W151 B51.gw))) (W150 B51.gw) (W88 B51.gw) (W152 B51.gw) (by decide) (fE (i := 0) rfl) (W_ac W a3 a7 (((([] ++ us0) ++ [(10 : Int32)]) ++ us1) ++ [(10 : Int32)]) _ _ (by simp only [List.length_append, List.length_cons, List.length_nil]; omega)) (argsL := [(.int 10)]) (rest := []) rfl pd45 rfl rfl rfl (W := 0) rfl (cs' := 3) (ss' := 24) (by decide) (Kv1 fun T52 B54 => ?_)
  refine r_virtual (D' := D24_w) B54 d12_57 rfl (W174 B54.gw) (W175 B54.gw) (W177 B54.gw) (fun vm0 hZ => notFace_of_selects (args := #[]) (mvT hZ (W177 B54.gw))) (W176 B54.gw) (W88 B54.gw) (W178 B54.gw) (by decide) (fE (i := 0) rfl) (W_ts W a3 a7 ((((([] ++ us0) ++ [(10 : Int32)]) ++ us1) ++ [(10 : Int32)]) ++ [(10 : Int32)]) _ _ (by simp only [List.length_append, List.length_cons, List.length_nil]; omega)) (argsL := []) (rest := []) rfl pd46 rfl rfl rfl (W := 0) rfl (cs' := 5) (ss' := 44) (by decide) (Kex fun a58 => Kex fun b59 => Kv1 fun T55 B57 => ?_)
  refine r_gets B57 d12_60 rfl (host := "") (Or.inl (W222 B57.gw)) Via.refl (v := (.ref (utOf g))) (ut_sta W) fun T60 B61 => ?_
  refine r_virtual (D' := D34_w) B61 d12_63 rfl (W224 B61.gw) (W225 B61.gw) (W227 B61.gw) (fun vm0 hZ => notFace_of_selects (args := #[]) (mvT hZ (W227 B61.gw))) (W226 B61.gw) (W5 B61.gw) (W228 B61.gw) (by decide) (fE (i := 0) rfl) (W_gb W a58 b59 ((((([] ++ us0) ++ [(10 : Int32)]) ++ us1) ++ [(10 : Int32)]) ++ [(10 : Int32)]) _ _ (by simp only [List.length_append, List.length_cons, List.length_nil]; omega) (List.forall_mem_append.2 ⟨List.forall_mem_append.2 ⟨List.forall_mem_append.2 ⟨List.forall_mem_append.2 ⟨List.forall_mem_append.2 ⟨nofun, hb0⟩, by decide⟩, hb1⟩, by decide⟩, by decide⟩) ⟨10, by simp, by decide⟩) (argsL := [(.ref (utOf g))]) (rest := []) rfl pd47 rfl rfl rfl (W := 0) rfl (cs' := 7) (ss' := 104) (by decide) (Kex fun r65 => Kv1 fun T62 B64 => ?_)
  have B66 := (((B64.dl 1).dl 1).dl 1)
  exact r_reta B66 d12_66 rfl rfl rfl (by decide) (by decide) (fun vm h P => ⟨r65, rfl, P⟩)
abbrev D72_w := E72 0 0 0 0
theorem k_pc {g : GG} (W : GW g) {e : Addr} {enc : List Int32} {c : Int32} {H : List Ent} {Lt : List SE} (hl : enc.length ≤ 9) : Ct g D72_w #[(.ref e), (.int (Int32.ofNat enc.length)), (.int c)] ((e, .inr (.int, "[I", exv enc)) :: H) Lt (fun v vm h => v = some (.int (Int32.ofNat (enc ++ e8 c).length)) ∧ Hp g vm h ((e, .inr (.int, "[I", exv (enc ++ e8 c))) :: H) Lt) := by
  refine CtW.body (Ls := #[.val (.ref e), .val (.int (Int32.ofNat enc.length)), .val (.int c)]) W (by decide +kernel) (efr rfl) ?_
  intro M T B
  refine p_iloadN B d72_0 rfl rfl ?_
  refine p_sipush B d72_1 rfl (v := (128 : Int32)) (by decide) ?_
  by_cases hc : c < (128 : Int32)
  · refine b_icF B d72_4 (pc' := 7) rfl hc ?_
    refine p_aloadN B d72_7 rfl rfl rfl ?_
    refine p_iloadN B d72_8 rfl rfl ?_
    refine p_iloadN B d72_9 rfl rfl ?_
    refine r_iastore B d72_10 rfl (i := 0) rfl (n31 (by first | omega | (simp only [List.length_append, List.length_cons, List.length_nil]; omega))) (k := enc.length) (n31c (by first | omega | (simp only [List.length_append, List.length_cons, List.length_nil]; omega))) (by rw [exl (by first | omega | (simp only [List.length_append, List.length_cons, List.length_nil]; omega))]; first | omega | (simp only [List.length_append, List.length_cons, List.length_nil]; omega)) (H' := ((e, .inr (.int, "[I", (exv (enc ++ [c])))) :: H)) (by rw [exs (by first | omega | (simp only [List.length_append, List.length_cons, List.length_nil]; omega))]; rfl) fun T1 B2 => ?_
    refine p_iloadN B2 d72_11 rfl rfl ?_
    refine p_iconst B2 d72_12 rfl (v := (1 : Int32)) (by decide) ?_
    refine p_iadd B2 d72_13 rfl rfl ?_
    have h8 : e8 c = [c] := if_pos hc
    exact r_reti B2 d72_14 rfl (by simp) rfl (by decide) (by decide) (fun vm h P => ⟨by rw [h8, sucN, List.length_append]; rfl, by rw [h8]; exact P⟩)
  · refine b_icT B d72_4 (pc' := 15) hc (by decide) (by decide) ?_
    refine p_aloadN B d72_15 rfl rfl rfl ?_
    refine p_iloadN B d72_16 rfl rfl ?_
    refine p_sipush B d72_17 rfl (v := (192 : Int32)) (by decide) ?_
    refine p_iloadN B d72_20 rfl rfl ?_
    refine p_bipush B d72_21 rfl (v := (6 : Int32)) (by decide) ?_
    refine p_ishr B d72_23 rfl rfl ?_
    refine p_ior B d72_24 rfl rfl ?_
    refine r_iastore B d72_25 rfl (i := 0) rfl (n31 (by first | omega | (simp only [List.length_append, List.length_cons, List.length_nil]; omega))) (k := enc.length) (n31c (by first | omega | (simp only [List.length_append, List.length_cons, List.length_nil]; omega))) (by rw [exl (by first | omega | (simp only [List.length_append, List.length_cons, List.length_nil]; omega))]; first | omega | (simp only [List.length_append, List.length_cons, List.length_nil]; omega)) (H' := ((e, .inr (.int, "[I", (exv (enc ++ [(ex1 c)])))) :: H)) (by rw [exs (by first | omega | (simp only [List.length_append, List.length_cons, List.length_nil]; omega))]; rfl) fun T3 B4 => ?_
    refine p_aloadN B4 d72_26 rfl rfl rfl ?_
    refine p_iloadN B4 d72_27 rfl rfl ?_
    refine p_iconst B4 d72_28 rfl (v := (1 : Int32)) (by decide) ?_
    refine p_iadd B4 d72_29 rfl (z := (Int32.ofNat (enc ++ [ex1 c]).length)) (by rw [sucN, List.length_append]; rfl) ?_
    refine p_sipush B4 d72_30 rfl (v := (128 : Int32)) (by decide) ?_
    refine p_iloadN B4 d72_33 rfl rfl ?_
    refine p_bipush B4 d72_34 rfl (v := (63 : Int32)) (by decide) ?_
    refine p_iand B4 d72_36 rfl rfl ?_
    refine p_ior B4 d72_37 rfl rfl ?_
    refine r_iastore B4 d72_38 rfl (i := 0) rfl (n31 (by first | omega | (simp only [List.length_append, List.length_cons, List.length_nil]; omega))) (k := (enc ++ [ex1 c]).length) (n31c (by first | omega | (simp only [List.length_append, List.length_cons, List.length_nil]; omega))) (by rw [exl (by first | omega | (simp only [List.length_append, List.length_cons, List.length_nil]; omega))]; first | omega | (simp only [List.length_append, List.length_cons, List.length_nil]; omega)) (H' := ((e, .inr (.int, "[I", (exv ((enc ++ [ex1 c]) ++ [(ex2 c)])))) :: H)) (by rw [exs (by first | omega | (simp only [List.length_append, List.length_cons, List.length_nil]; omega))]; rfl) fun T5 B6 => ?_
    refine p_iloadN B6 d72_39 rfl rfl ?_
    refine p_iconst B6 d72_40 rfl (v := (2 : Int32)) (by decide) ?_
    refine p_iadd B6 d72_41 rfl rfl ?_
    have h8 : e8 c = [ex1 c, ex2 c] := if_neg hc
    exact r_reti B6 d72_42 rfl (by simp) rfl (by decide) (by decide) (fun vm h P => ⟨by rw [h8, addN1, List.length_append]; rfl, by rw [h8, show enc ++ [ex1 c, ex2 c] = (enc ++ [ex1 c]) ++ [ex2 c] from by simp]; exact P⟩)
abbrev D62_w := E62 1 0 0 14
theorem k_pl {g : GG} (W : GW g) {e : Addr} {enc : List Int32} {l c0 c1 : Int32} {H : List Ent} {Lt : List SE} (hl : enc.length ≤ 6) : Ct g D62_w #[(.ref e), (.int (Int32.ofNat enc.length)), (.int l), (.int c0), (.int c1)] ((e, .inr (.int, "[I", exv enc)) :: H) Lt (fun v vm h => v = some (.int (Int32.ofNat (enc ++ (pl l c0 c1 ++ [(10 : Int32)])).length)) ∧ Hp g vm h ((e, .inr (.int, "[I", exv (enc ++ (pl l c0 c1 ++ [(10 : Int32)])))) :: H) Lt) := by
  refine CtW.body (Ls := #[.val (.ref e), .val (.int (Int32.ofNat enc.length)), .val (.int l), .val (.int c0), .val (.int c1), .unset]) W (by decide +kernel) (efr rfl) ?_
  intro M T B
  have g0 := e8len c0
  have g1 := e8len c1
  refine p_iloadN B d62_0 rfl rfl ?_
  refine p_istore B d62_1 rfl (Ls' := #[.val (.ref e), .val (.int (Int32.ofNat enc.length)), .val (.int l), .val (.int c0), .val (.int c1), .val (.int (Int32.ofNat enc.length))]) rfl ?_
  refine p_iloadN B d62_3 rfl rfl ?_
  refine p_iconst B d62_4 rfl (v := (1 : Int32)) (by decide) ?_
  by_cases h1 : l < (1 : Int32)
  · refine b_icT B d62_5 (pc' := 17) h1 (by decide) (by decide) ?_
    refine p_iloadN B d62_17 rfl rfl ?_
    refine p_iconst B d62_18 rfl (v := (2 : Int32)) (by decide) ?_
    by_cases h2 : l < (2 : Int32)
    · refine b_icT B d62_19 (pc' := 32) h2 (by decide) (by decide) ?_
      refine p_aloadN B d62_32 rfl rfl rfl ?_
      refine p_iload B d62_33 rfl rfl ?_
      refine p_bipush B d62_35 rfl (v := (10 : Int32)) (by decide) ?_
      refine r_iastore B d62_37 rfl (i := 0) rfl (n31 (by first | omega | (simp only [List.length_append, List.length_cons, List.length_nil]; omega))) (k := enc.length) (n31c (by first | omega | (simp only [List.length_append, List.length_cons, List.length_nil]; omega))) (by rw [exl (by first | omega | (simp only [List.length_append, List.length_cons, List.length_nil]; omega))]; first | omega | (simp only [List.length_append, List.length_cons, List.length_nil]; omega)) (H' := ((e, .inr (.int, "[I", (exv (enc ++ [(10 : Int32)])))) :: H)) (by rw [exs (by first | omega | (simp only [List.length_append, List.length_cons, List.length_nil]; omega))]; rfl) fun T1 B2 => ?_
      refine p_iload B2 d62_38 rfl rfl ?_
      refine p_iconst B2 d62_40 rfl (v := (1 : Int32)) (by decide) ?_
      refine p_iadd B2 d62_41 rfl rfl ?_
      have hp : enc ++ (pl l c0 c1 ++ [(10 : Int32)]) = enc ++ [(10 : Int32)] := by unfold pl; rw [if_pos h1, if_pos h2]; simp
      exact r_reti B2 d62_42 rfl (by simp) rfl (by decide) (by decide) (fun vm h P => ⟨by rw [hp, lenS (c := (10 : Int32))], by rw [hp]; exact P⟩)
    · refine b_icF B d62_19 (pc' := 22) rfl h2 ?_
      refine p_aloadN B d62_22 rfl rfl rfl ?_
      refine p_iload B d62_23 rfl rfl ?_
      refine p_iload B d62_25 rfl rfl ?_
      refine r_static (D' := D72_w) B d62_27 rfl (W434 B.gw) (W435 B.gw) (W2 B.gw) (W436 B.gw) (by decide) (k_pc W (by first | omega | (simp only [List.length_append, List.length_cons, List.length_nil]; omega))) (argsL := [(.ref e), (.int (Int32.ofNat enc.length)), (.int c1)]) (rest := []) rfl pd51 rfl rfl rfl (W := 0) rfl (cs' := 0) (ss' := 0) (by decide) (Kv1 fun T3 B5 => ?_)
      refine p_istore B5 d62_30 rfl (Ls' := #[.val (.ref e), .val (.int (Int32.ofNat enc.length)), .val (.int l), .val (.int c0), .val (.int c1), .val (.int (Int32.ofNat (enc ++ e8 c1).length))]) rfl ?_
      refine p_aloadN B5 d62_32 rfl rfl rfl ?_
      refine p_iload B5 d62_33 rfl rfl ?_
      refine p_bipush B5 d62_35 rfl (v := (10 : Int32)) (by decide) ?_
      refine r_iastore B5 d62_37 rfl (i := 0) rfl (n31 (by first | omega | (simp only [List.length_append, List.length_cons, List.length_nil]; omega))) (k := (enc ++ e8 c1).length) (n31c (by first | omega | (simp only [List.length_append, List.length_cons, List.length_nil]; omega))) (by rw [exl (by first | omega | (simp only [List.length_append, List.length_cons, List.length_nil]; omega))]; first | omega | (simp only [List.length_append, List.length_cons, List.length_nil]; omega)) (H' := ((e, .inr (.int, "[I", (exv ((enc ++ e8 c1) ++ [(10 : Int32)])))) :: H)) (by rw [exs (by first | omega | (simp only [List.length_append, List.length_cons, List.length_nil]; omega))]; rfl) fun T6 B7 => ?_
      refine p_iload B7 d62_38 rfl rfl ?_
      refine p_iconst B7 d62_40 rfl (v := (1 : Int32)) (by decide) ?_
      refine p_iadd B7 d62_41 rfl rfl ?_
      have hp : enc ++ (pl l c0 c1 ++ [(10 : Int32)]) = (enc ++ e8 c1) ++ [(10 : Int32)] := by unfold pl; rw [if_pos h1, if_neg h2]; simp
      exact r_reti B7 d62_42 rfl (by simp) rfl (by decide) (by decide) (fun vm h P => ⟨by rw [hp, lenS (c := (10 : Int32))], by rw [hp]; exact P⟩)
  · refine b_icF B d62_5 (pc' := 8) rfl h1 ?_
    refine p_aloadN B d62_8 rfl rfl rfl ?_
    refine p_iload B d62_9 rfl rfl ?_
    refine p_iloadN B d62_11 rfl rfl ?_
    refine r_static (D' := D72_w) B d62_12 rfl (W434 B.gw) (W435 B.gw) (W2 B.gw) (W436 B.gw) (by decide) (k_pc W (by first | omega | (simp only [List.length_append, List.length_cons, List.length_nil]; omega))) (argsL := [(.ref e), (.int (Int32.ofNat enc.length)), (.int c0)]) (rest := []) rfl pd51 rfl rfl rfl (W := 0) rfl (cs' := 0) (ss' := 0) (by decide) (Kv1 fun T8 B10 => ?_)
    refine p_istore B10 d62_15 rfl (Ls' := #[.val (.ref e), .val (.int (Int32.ofNat enc.length)), .val (.int l), .val (.int c0), .val (.int c1), .val (.int (Int32.ofNat (enc ++ e8 c0).length))]) rfl ?_
    refine p_iloadN B10 d62_17 rfl rfl ?_
    refine p_iconst B10 d62_18 rfl (v := (2 : Int32)) (by decide) ?_
    by_cases h2 : l < (2 : Int32)
    · refine b_icT B10 d62_19 (pc' := 32) h2 (by decide) (by decide) ?_
      refine p_aloadN B10 d62_32 rfl rfl rfl ?_
      refine p_iload B10 d62_33 rfl rfl ?_
      refine p_bipush B10 d62_35 rfl (v := (10 : Int32)) (by decide) ?_
      refine r_iastore B10 d62_37 rfl (i := 0) rfl (n31 (by first | omega | (simp only [List.length_append, List.length_cons, List.length_nil]; omega))) (k := (enc ++ e8 c0).length) (n31c (by first | omega | (simp only [List.length_append, List.length_cons, List.length_nil]; omega))) (by rw [exl (by first | omega | (simp only [List.length_append, List.length_cons, List.length_nil]; omega))]; first | omega | (simp only [List.length_append, List.length_cons, List.length_nil]; omega)) (H' := ((e, .inr (.int, "[I", (exv ((enc ++ e8 c0) ++ [(10 : Int32)])))) :: H)) (by rw [exs (by first | omega | (simp only [List.length_append, List.length_cons, List.length_nil]; omega))]; rfl) fun T11 B12 => ?_
      refine p_iload B12 d62_38 rfl rfl ?_
      refine p_iconst B12 d62_40 rfl (v := (1 : Int32)) (by decide) ?_
      refine p_iadd B12 d62_41 rfl rfl ?_
      have hp : enc ++ (pl l c0 c1 ++ [(10 : Int32)]) = (enc ++ e8 c0) ++ [(10 : Int32)] := by unfold pl; rw [if_neg h1, if_pos h2]; simp
      exact r_reti B12 d62_42 rfl (by simp) rfl (by decide) (by decide) (fun vm h P => ⟨by rw [hp, lenS (c := (10 : Int32))], by rw [hp]; exact P⟩)
    · refine b_icF B10 d62_19 (pc' := 22) rfl h2 ?_
      refine p_aloadN B10 d62_22 rfl rfl rfl ?_
      refine p_iload B10 d62_23 rfl rfl ?_
      refine p_iload B10 d62_25 rfl rfl ?_
      refine r_static (D' := D72_w) B10 d62_27 rfl (W434 B10.gw) (W435 B10.gw) (W2 B10.gw) (W436 B10.gw) (by decide) (k_pc W (by first | omega | (simp only [List.length_append, List.length_cons, List.length_nil]; omega))) (argsL := [(.ref e), (.int (Int32.ofNat (enc ++ e8 c0).length)), (.int c1)]) (rest := []) rfl pd51 rfl rfl rfl (W := 0) rfl (cs' := 0) (ss' := 0) (by decide) (Kv1 fun T13 B15 => ?_)
      refine p_istore B15 d62_30 rfl (Ls' := #[.val (.ref e), .val (.int (Int32.ofNat enc.length)), .val (.int l), .val (.int c0), .val (.int c1), .val (.int (Int32.ofNat ((enc ++ e8 c0) ++ e8 c1).length))]) rfl ?_
      refine p_aloadN B15 d62_32 rfl rfl rfl ?_
      refine p_iload B15 d62_33 rfl rfl ?_
      refine p_bipush B15 d62_35 rfl (v := (10 : Int32)) (by decide) ?_
      refine r_iastore B15 d62_37 rfl (i := 0) rfl (n31 (by first | omega | (simp only [List.length_append, List.length_cons, List.length_nil]; omega))) (k := ((enc ++ e8 c0) ++ e8 c1).length) (n31c (by first | omega | (simp only [List.length_append, List.length_cons, List.length_nil]; omega))) (by rw [exl (by first | omega | (simp only [List.length_append, List.length_cons, List.length_nil]; omega))]; first | omega | (simp only [List.length_append, List.length_cons, List.length_nil]; omega)) (H' := ((e, .inr (.int, "[I", (exv (((enc ++ e8 c0) ++ e8 c1) ++ [(10 : Int32)])))) :: H)) (by rw [exs (by first | omega | (simp only [List.length_append, List.length_cons, List.length_nil]; omega))]; rfl) fun T16 B17 => ?_
      refine p_iload B17 d62_38 rfl rfl ?_
      refine p_iconst B17 d62_40 rfl (v := (1 : Int32)) (by decide) ?_
      refine p_iadd B17 d62_41 rfl rfl ?_
      have hp : enc ++ (pl l c0 c1 ++ [(10 : Int32)]) = ((enc ++ e8 c0) ++ e8 c1) ++ [(10 : Int32)] := by unfold pl; rw [if_neg h1, if_neg h2]; simp
      exact r_reti B17 d62_42 rfl (by simp) rfl (by decide) (by decide) (fun vm h P => ⟨by rw [hp, lenS (c := (10 : Int32))], by rw [hp]; exact P⟩)
abbrev D40_w := E40 0 0 0 0
theorem k_sm {g : GG} (W : GW g) {r e : Addr} {rs enc : List Int32} (i : Nat) {H : List Ent} {Lt : List SE} (hm : rs.map lo = enc) (he : enc.length ≤ 11) (h11 : i < 11) : Ct g D40_w #[(.ref r), (.ref e), (.int (Int32.ofNat i))] ((r, .inr (.byte, "[B", rs.map Value.int)) :: (e, .inr (.int, "[I", exv enc)) :: H) Lt (fun v vm h => v = some (.int (1 : Int32)) ∧ Hp g vm h ((r, .inr (.byte, "[B", rs.map Value.int)) :: (e, .inr (.int, "[I", exv enc)) :: H) Lt) := by
  refine CtW.body (Ls := #[.val (.ref r), .val (.ref e), .val (.int (Int32.ofNat i)), .unset]) W (by decide +kernel) (efr rfl) ?_
  intro M T B
  refine p_iloadN B d40_0 rfl rfl ?_
  refine p_aloadN B d40_1 rfl rfl rfl ?_
  refine r_alen B d40_2 rfl (aH (i := 0) rfl) (z := (Int32.ofNat rs.length)) (by rw [List.length_map]) ?_
  have hle : rs.length = enc.length := by rw [← hm, List.length_map]
  by_cases hi : i < rs.length
  · obtain ⟨y, ey⟩ : ∃ y, rs[i]? = some y := ⟨_, List.getElem?_eq_getElem hi⟩
    have ee : enc[i]? = some (lo y) := by rw [← hm, List.getElem?_map, ey]; rfl
    refine b_icF B d40_3 (pc' := 6) rfl (ltN hi (by omega)) ?_
    refine p_aloadN B d40_6 rfl rfl rfl ?_
    refine p_iloadN B d40_7 rfl rfl ?_
    refine r_aget B d40_8 rfl rfl (aH (i := 0) rfl) (k := i) rfl (v := .int y) (by rw [List.getElem?_map, ey]; rfl) ?_
    refine p_sipush B d40_9 rfl (v := (255 : Int32)) (by decide) ?_
    refine p_iand B d40_12 rfl rfl ?_
    refine b_goto B d40_13 (pc' := 17) (by decide) (by decide) ?_
    refine p_istoreN B d40_17 rfl (Ls' := #[.val (.ref r), .val (.ref e), .val (.int (Int32.ofNat i)), .val (.int (y &&& (255 : Int32)))]) rfl ?_
    refine p_iloadN B d40_18 rfl rfl ?_
    refine p_aloadN B d40_19 rfl rfl rfl ?_
    refine p_iloadN B d40_20 rfl rfl ?_
    refine r_aget B d40_21 rfl rfl (aH (i := 1) rfl) (k := i) rfl (v := .int (lo y)) (exg ee) ?_
    refine b_icF B d40_22 (pc' := 25) rfl rfl ?_
    refine p_iconst B d40_25 rfl (v := (1 : Int32)) (by decide) ?_
    refine b_goto B d40_26 (pc' := 30) (by decide) (by decide) ?_
    exact r_reti B d40_30 rfl (by simp) rfl (by decide) (by decide) (fun vm h P => ⟨rfl, P⟩)
  · refine b_icT B d40_3 (pc' := 16) (fun q => hi (by rw [Int32.lt_iff_toInt_lt, Int32.toInt_ofNat_small (by omega), Int32.toInt_ofNat_small (by omega)] at q; omega)) (by decide) (by decide) ?_
    refine p_iconst B d40_16 rfl (v := (-1 : Int32)) (by decide) ?_
    refine p_istoreN B d40_17 rfl (Ls' := #[.val (.ref r), .val (.ref e), .val (.int (Int32.ofNat i)), .val (.int (-1 : Int32))]) rfl ?_
    refine p_iloadN B d40_18 rfl rfl ?_
    refine p_aloadN B d40_19 rfl rfl rfl ?_
    refine p_iloadN B d40_20 rfl rfl ?_
    refine r_aget B d40_21 rfl rfl (aH (i := 1) rfl) (k := i) rfl (v := .int (-1 : Int32)) (exn (by omega) h11) ?_
    refine b_icF B d40_22 (pc' := 25) rfl (show (-1 : Int32) = (-1 : Int32) from by decide) ?_
    refine p_iconst B d40_25 rfl (v := (1 : Int32)) (by decide) ?_
    refine b_goto B d40_26 (pc' := 30) (by decide) (by decide) ?_
    exact r_reti B d40_30 rfl (by simp) rfl (by decide) (by decide) (fun vm h P => ⟨rfl, P⟩)
abbrev rx (p : Int32) : Int32 := (p &&& (3 : Int32)) % (3 : Int32)
abbrev ry (p s : Int32) : Int32 := ((((p).toUInt32 >>> (s &&& 31).toUInt32).toInt32) &&& (3 : Int32)) % (3 : Int32)
abbrev cx (p : Int32) : Int32 := (p &&& (255 : Int32)).toUInt32.toUInt16.toUInt32.toInt32
abbrev cy (p s : Int32) : Int32 := (((p).toUInt32 >>> (s &&& 31).toUInt32).toInt32 &&& (255 : Int32)).toUInt32.toUInt16.toUInt32.toInt32

abbrev D0 : DD := (x, code, maxLocals, ret, room_1)
theorem ef_law (p0 p1 p2 : Int32) (m : MethodId) : entryFrame m #[(.int p0), (.int p1), (.int p2)] maxLocals = mkF m 0 #[.val (.int p0), .val (.int p1), .val (.int p2), .unset, .unset, .unset, .unset, .unset, .unset, .unset, .unset, .unset, .unset, .unset, .unset, .unset, .unset] [] := by first | (simp [entryFrame, mkF, argsToLocals, Value.category, maxLocals]; done) | rfl
theorem k_law {g : GG} (W : GW g) (p0 p1 p2 : Int32) : CtW g D0 tables_1 #[.int p0, .int p1, .int p2] [] [] (fun v _ _ => v = some (.int 1)) := by
  refine CtW.body W (by decide +kernel) (ef_law p0 p1 p2) ?_
  intro M T B
  refine p_iloadN B at_0 rfl rfl ?_
  refine p_iconst B at_1 rfl (v := (3 : Int32)) (by decide) ?_
  refine p_iand B at_2 rfl rfl ?_
  refine p_iconst B at_3 rfl (v := (3 : Int32)) (by decide) ?_
  refine p_irem B at_4 rfl (by decide) rfl ?_
  refine p_istoreN B at_5 rfl (Ls' := #[.val (.int p0), .val (.int p1), .val (.int p2), .val (.int (rx p0)), .unset, .unset, .unset, .unset, .unset, .unset, .unset, .unset, .unset, .unset, .unset, .unset, .unset]) rfl ?_
  refine p_iloadN B at_6 rfl rfl ?_
  refine p_iconst B at_7 rfl (v := (2 : Int32)) (by decide) ?_
  refine p_iushr B at_8 rfl rfl ?_
  refine p_iconst B at_9 rfl (v := (3 : Int32)) (by decide) ?_
  refine p_iand B at_10 rfl rfl ?_
  refine p_iconst B at_11 rfl (v := (3 : Int32)) (by decide) ?_
  refine p_irem B at_12 rfl (by decide) rfl ?_
  refine p_istore B at_13 rfl (Ls' := #[.val (.int p0), .val (.int p1), .val (.int p2), .val (.int (rx p0)), .val (.int (ry p0 2)), .unset, .unset, .unset, .unset, .unset, .unset, .unset, .unset, .unset, .unset, .unset, .unset]) rfl ?_
  refine p_iloadN B at_15 rfl rfl ?_
  refine p_iconst B at_16 rfl (v := (4 : Int32)) (by decide) ?_
  refine p_iushr B at_17 rfl rfl ?_
  refine p_iconst B at_18 rfl (v := (3 : Int32)) (by decide) ?_
  refine p_iand B at_19 rfl rfl ?_
  refine p_iconst B at_20 rfl (v := (3 : Int32)) (by decide) ?_
  refine p_irem B at_21 rfl (by decide) rfl ?_
  refine p_istore B at_22 rfl (Ls' := #[.val (.int p0), .val (.int p1), .val (.int p2), .val (.int (rx p0)), .val (.int (ry p0 2)), .val (.int (ry p0 4)), .unset, .unset, .unset, .unset, .unset, .unset, .unset, .unset, .unset, .unset, .unset]) rfl ?_
  refine p_iloadN B at_24 rfl rfl ?_
  refine p_sipush B at_25 rfl (v := (255 : Int32)) (by decide) ?_
  refine p_iand B at_28 rfl rfl ?_
  refine p_i2c B at_29 rfl ?_
  refine p_istore B at_30 rfl (Ls' := #[.val (.int p0), .val (.int p1), .val (.int p2), .val (.int (rx p0)), .val (.int (ry p0 2)), .val (.int (ry p0 4)), .val (.int (cx p1)), .unset, .unset, .unset, .unset, .unset, .unset, .unset, .unset, .unset, .unset]) rfl ?_
  refine p_iloadN B at_32 rfl rfl ?_
  refine p_bipush B at_33 rfl (v := (8 : Int32)) (by decide) ?_
  refine p_iushr B at_35 rfl rfl ?_
  refine p_sipush B at_36 rfl (v := (255 : Int32)) (by decide) ?_
  refine p_iand B at_39 rfl rfl ?_
  refine p_i2c B at_40 rfl ?_
  refine p_istore B at_41 rfl (Ls' := #[.val (.int p0), .val (.int p1), .val (.int p2), .val (.int (rx p0)), .val (.int (ry p0 2)), .val (.int (ry p0 4)), .val (.int (cx p1)), .val (.int (cy p1 8)), .unset, .unset, .unset, .unset, .unset, .unset, .unset, .unset, .unset]) rfl ?_
  refine p_iloadN B at_43 rfl rfl ?_
  refine p_sipush B at_44 rfl (v := (255 : Int32)) (by decide) ?_
  refine p_iand B at_47 rfl rfl ?_
  refine p_i2c B at_48 rfl ?_
  refine p_istore B at_49 rfl (Ls' := #[.val (.int p0), .val (.int p1), .val (.int p2), .val (.int (rx p0)), .val (.int (ry p0 2)), .val (.int (ry p0 4)), .val (.int (cx p1)), .val (.int (cy p1 8)), .val (.int (cx p2)), .unset, .unset, .unset, .unset, .unset, .unset, .unset, .unset]) rfl ?_
  refine p_iloadN B at_51 rfl rfl ?_
  refine p_bipush B at_52 rfl (v := (8 : Int32)) (by decide) ?_
  refine p_iushr B at_54 rfl rfl ?_
  refine p_sipush B at_55 rfl (v := (255 : Int32)) (by decide) ?_
  refine p_iand B at_58 rfl rfl ?_
  refine p_i2c B at_59 rfl ?_
  refine p_istore B at_60 rfl (Ls' := #[.val (.int p0), .val (.int p1), .val (.int p2), .val (.int (rx p0)), .val (.int (ry p0 2)), .val (.int (ry p0 4)), .val (.int (cx p1)), .val (.int (cy p1 8)), .val (.int (cx p2)), .val (.int (cy p2 8)), .unset, .unset, .unset, .unset, .unset, .unset, .unset]) rfl ?_
  refine p_iload B at_62 rfl rfl ?_
  refine p_iload B at_64 rfl rfl ?_
  refine p_iload B at_66 rfl rfl ?_
  refine r_static (D' := D1_w) B at_68 rfl (W0 B.gw) (W1 B.gw) (W2 B.gw) (W3 B.gw) (by decide) (k_st W (ry p0 2) (cx p1) (cy p1 8) (le255 _) (le255 _) (ch_ch _) (ch_ch _) _ _) (argsL := [(.int (ry p0 2)), (.int (cx p1)), (.int (cy p1 8))]) (rest := []) rfl pd52 rfl rfl rfl (W := 0) rfl (cs' := 3) (ss' := 14) (by decide) (Kex fun s0 => Kex fun sb0 => Kv1 fun T1 B3 => ?_)
  refine p_astore B3 at_71 rfl rfl (Ls' := #[.val (.int p0), .val (.int p1), .val (.int p2), .val (.int (rx p0)), .val (.int (ry p0 2)), .val (.int (ry p0 4)), .val (.int (cx p1)), .val (.int (cy p1 8)), .val (.int (cx p2)), .val (.int (cy p2 8)), .val (.ref s0), .unset, .unset, .unset, .unset, .unset, .unset]) rfl ?_
  refine p_iload B3 at_73 rfl rfl ?_
  refine p_iload B3 at_75 rfl rfl ?_
  refine p_iload B3 at_77 rfl rfl ?_
  refine r_static (D' := D1_w) B3 at_79 rfl (W0 B3.gw) (W1 B3.gw) (W2 B3.gw) (W3 B3.gw) (by decide) (k_st W (ry p0 4) (cx p2) (cy p2 8) (le255 _) (le255 _) (ch_ch _) (ch_ch _) _ _) (argsL := [(.int (ry p0 4)), (.int (cx p2)), (.int (cy p2 8))]) (rest := []) rfl pd52 rfl rfl rfl (W := 0) rfl (cs' := 6) (ss' := 28) (by decide) (Kex fun s1 => Kex fun sb1 => Kv1 fun T4 B6 => ?_)
  refine p_astore B6 at_82 rfl rfl (Ls' := #[.val (.int p0), .val (.int p1), .val (.int p2), .val (.int (rx p0)), .val (.int (ry p0 2)), .val (.int (ry p0 4)), .val (.int (cx p1)), .val (.int (cy p1 8)), .val (.int (cx p2)), .val (.int (cy p2 8)), .val (.ref s0), .val (.ref s1), .unset, .unset, .unset, .unset, .unset]) rfl ?_
  refine r_new B6 at_84 rfl (W12 B6.gw) (W13 B6.gw) (W14 B6.gw) (Ly_oAL B6.gw) (by decide) (cs' := 7) rfl (ss' := 31) rfl (by decide) (by decide) fun T7 a9 B8 => ?_
  refine p_dup B8 at_87 rfl rfl ?_
  refine r_special (D' := D2_w) B8 at_88 rfl rfl rfl (W15 B8.gw) (W16 B8.gw) (W14 B8.gw) (W17 B8.gw) (by decide) (c_ai W a9 _ _) (a := a9) (argsL := []) (rest := [(.ref a9)]) rfl pd8 rfl rfl rfl (W := 1) rfl (cs' := 7) (ss' := 31) (by decide) (Kv0 fun T10 B12 => ?_)
  refine p_astore B12 at_91 rfl rfl (Ls' := #[.val (.int p0), .val (.int p1), .val (.int p2), .val (.int (rx p0)), .val (.int (ry p0 2)), .val (.int (ry p0 4)), .val (.int (cx p1)), .val (.int (cy p1 8)), .val (.int (cx p2)), .val (.int (cy p2 8)), .val (.ref s0), .val (.ref s1), .val (.ref a9), .unset, .unset, .unset, .unset]) rfl ?_
  refine p_iloadN B12 at_93 rfl rfl ?_
  refine p_iconst B12 at_94 rfl (v := (1 : Int32)) (by decide) ?_
  by_cases hk0 : (rx p0) < (1 : Int32)
  · refine b_icT B12 at_95 (pc' := 106) hk0 (by decide) (by decide) ?_
    refine p_iloadN B12 at_106 rfl rfl ?_
    refine p_iconst B12 at_107 rfl (v := (2 : Int32)) (by decide) ?_
    refine b_icT B12 at_108 (pc' := 119) (lt12 hk0) (by decide) (by decide) ?_
    refine r_new B12 at_119 rfl (W38 B12.gw) (W39 B12.gw) (W40 B12.gw) (Ly_oEV B12.gw) (by decide) (cs' := 8) rfl (ss' := 32) rfl (by decide) (by decide) fun T13 a15 B14 => ?_
    refine p_dup B14 at_122 rfl rfl ?_
    refine p_aload B14 at_123 rfl rfl rfl ?_
    refine r_special (D' := D6_w) B14 at_125 rfl rfl rfl (W41 B14.gw) (W42 B14.gw) (W40 B14.gw) (W43 B14.gw) (by decide) (W_ei W a15 a9 a9 [] (by simp) _ _ (nofun)) (a := a15) (argsL := [(.ref a9)]) (rest := [(.ref a15)]) rfl pd53 rfl rfl rfl (W := 1) rfl (cs' := 10) (ss' := 36) (by decide) (Kex fun c19 => Kex fun d20 => Kv0 fun T16 B18 => ?_)
    refine p_astore B18 at_128 rfl rfl (Ls' := #[.val (.int p0), .val (.int p1), .val (.int p2), .val (.int (rx p0)), .val (.int (ry p0 2)), .val (.int (ry p0 4)), .val (.int (cx p1)), .val (.int (cy p1 8)), .val (.int (cx p2)), .val (.int (cy p2 8)), .val (.ref s0), .val (.ref s1), .val (.ref a9), .val (.ref a15), .unset, .unset, .unset]) rfl ?_
    refine p_aload B18 at_130 rfl rfl rfl ?_
    have B21 : RH g D0 M T16 (IL g c19 d20 [] ++ (oEV a15 (.ref (ilA g c19 [])) :: (AL g a9 a9 [] ++ []))) [(s1, sb1, 0, (stB (ry p0 4) (cx p2) (cy p2 8)).map Value.int), (s0, sb0, 0, (stB (ry p0 2) (cx p1) (cy p1 8)).map Value.int)] 10 36 := B18.perm (pm2 [oEV a15 (.ref (ilA g c19 []))] (AL g a9 a9 []) (IL g c19 d20 []))
    have B22 : RH g D0 M T16 (oEV a15 (.ref (ilA g c19 [])) :: (IL g c19 d20 [] ++ (AL g a9 a9 [] ++ []))) [(s1, sb1, 0, (stB (ry p0 4) (cx p2) (cy p2 8)).map Value.int), (s0, sb0, 0, (stB (ry p0 2) (cx p1) (cy p1 8)).map Value.int)] 10 36 := B21.perm (pm1 (IL g c19 d20 []) [oEV a15 (.ref (ilA g c19 []))])
    refine r_virtual (D' := D12_w) B22 at_132 rfl (W81 B22.gw) (W82 B22.gw) (W84 B22.gw) (fun vm0 hZ => notFace_of_selects (args := #[]) (mvT hZ (W84 B22.gw))) (W83 B22.gw) (W40 B22.gw) (W85 B22.gw) (by decide) (fE (i := 0) rfl) (c_by0 W a15 c19 d20  _ _ ) (argsL := []) (rest := []) rfl pd29 rfl rfl rfl (W := 0) rfl (cs' := 17) (ss' := 140) (by decide) (Kex fun r => Kv1 fun T23 B25 => ?_)
    refine p_astore B25 at_135 rfl rfl (Ls' := #[.val (.int p0), .val (.int p1), .val (.int p2), .val (.int (rx p0)), .val (.int (ry p0 2)), .val (.int (ry p0 4)), .val (.int (cx p1)), .val (.int (cy p1 8)), .val (.int (cx p2)), .val (.int (cy p2 8)), .val (.ref s0), .val (.ref s1), .val (.ref a9), .val (.ref a15), .val (.ref r), .unset, .unset]) rfl ?_
    refine p_bipush B25 at_137 rfl (v := (11 : Int32)) (by decide) ?_
    refine r_newp B25 at_139 rfl (ty := .int) (W259 B25.gw) rfl (by decide) (nn := 11) (by decide) (cap := 11) (by decide) (by decide) (cs' := 18) rfl (ss' := 151) rfl (by decide) (by decide) (ad := "[I") (by decide) (by decide) nofun (vs := [(.int 0), (.int 0), (.int 0), (.int 0), (.int 0), (.int 0), (.int 0), (.int 0), (.int 0), (.int 0), (.int 0)]) rfl fun T26 a28 B27 => ?_
    refine p_dup B27 at_141 rfl rfl ?_
    refine p_iconst B27 at_142 rfl (v := (0 : Int32)) (by decide) ?_
    refine p_iconst B27 at_143 rfl (v := (-1 : Int32)) (by decide) ?_
    refine r_iastore B27 at_144 rfl (i := 0) rfl (by decide) (k := 0) (by decide) (by simp) (H' := ((a28, .inr (.int, "[I", [(.int (-1 : Int32)), (.int 0), (.int 0), (.int 0), (.int 0), (.int 0), (.int 0), (.int 0), (.int 0), (.int 0), (.int 0)])) :: ((r, .inr (.byte, "[B", ((u8L (([] : List Int32) ++ [(10 : Int32)])).map Value.int))) :: (AL g a9 a9 [] ++ [])))) rfl fun T29 B30 => ?_
    refine p_dup B30 at_145 rfl rfl ?_
    refine p_iconst B30 at_146 rfl (v := (1 : Int32)) (by decide) ?_
    refine p_iconst B30 at_147 rfl (v := (-1 : Int32)) (by decide) ?_
    refine r_iastore B30 at_148 rfl (i := 0) rfl (by decide) (k := 1) (by decide) (by simp) (H' := ((a28, .inr (.int, "[I", [(.int (-1 : Int32)), (.int (-1 : Int32)), (.int 0), (.int 0), (.int 0), (.int 0), (.int 0), (.int 0), (.int 0), (.int 0), (.int 0)])) :: ((r, .inr (.byte, "[B", ((u8L (([] : List Int32) ++ [(10 : Int32)])).map Value.int))) :: (AL g a9 a9 [] ++ [])))) rfl fun T31 B32 => ?_
    refine p_dup B32 at_149 rfl rfl ?_
    refine p_iconst B32 at_150 rfl (v := (2 : Int32)) (by decide) ?_
    refine p_iconst B32 at_151 rfl (v := (-1 : Int32)) (by decide) ?_
    refine r_iastore B32 at_152 rfl (i := 0) rfl (by decide) (k := 2) (by decide) (by simp) (H' := ((a28, .inr (.int, "[I", [(.int (-1 : Int32)), (.int (-1 : Int32)), (.int (-1 : Int32)), (.int 0), (.int 0), (.int 0), (.int 0), (.int 0), (.int 0), (.int 0), (.int 0)])) :: ((r, .inr (.byte, "[B", ((u8L (([] : List Int32) ++ [(10 : Int32)])).map Value.int))) :: (AL g a9 a9 [] ++ [])))) rfl fun T33 B34 => ?_
    refine p_dup B34 at_153 rfl rfl ?_
    refine p_iconst B34 at_154 rfl (v := (3 : Int32)) (by decide) ?_
    refine p_iconst B34 at_155 rfl (v := (-1 : Int32)) (by decide) ?_
    refine r_iastore B34 at_156 rfl (i := 0) rfl (by decide) (k := 3) (by decide) (by simp) (H' := ((a28, .inr (.int, "[I", [(.int (-1 : Int32)), (.int (-1 : Int32)), (.int (-1 : Int32)), (.int (-1 : Int32)), (.int 0), (.int 0), (.int 0), (.int 0), (.int 0), (.int 0), (.int 0)])) :: ((r, .inr (.byte, "[B", ((u8L (([] : List Int32) ++ [(10 : Int32)])).map Value.int))) :: (AL g a9 a9 [] ++ [])))) rfl fun T35 B36 => ?_
    refine p_dup B36 at_157 rfl rfl ?_
    refine p_iconst B36 at_158 rfl (v := (4 : Int32)) (by decide) ?_
    refine p_iconst B36 at_159 rfl (v := (-1 : Int32)) (by decide) ?_
    refine r_iastore B36 at_160 rfl (i := 0) rfl (by decide) (k := 4) (by decide) (by simp) (H' := ((a28, .inr (.int, "[I", [(.int (-1 : Int32)), (.int (-1 : Int32)), (.int (-1 : Int32)), (.int (-1 : Int32)), (.int (-1 : Int32)), (.int 0), (.int 0), (.int 0), (.int 0), (.int 0), (.int 0)])) :: ((r, .inr (.byte, "[B", ((u8L (([] : List Int32) ++ [(10 : Int32)])).map Value.int))) :: (AL g a9 a9 [] ++ [])))) rfl fun T37 B38 => ?_
    refine p_dup B38 at_161 rfl rfl ?_
    refine p_iconst B38 at_162 rfl (v := (5 : Int32)) (by decide) ?_
    refine p_iconst B38 at_163 rfl (v := (-1 : Int32)) (by decide) ?_
    refine r_iastore B38 at_164 rfl (i := 0) rfl (by decide) (k := 5) (by decide) (by simp) (H' := ((a28, .inr (.int, "[I", [(.int (-1 : Int32)), (.int (-1 : Int32)), (.int (-1 : Int32)), (.int (-1 : Int32)), (.int (-1 : Int32)), (.int (-1 : Int32)), (.int 0), (.int 0), (.int 0), (.int 0), (.int 0)])) :: ((r, .inr (.byte, "[B", ((u8L (([] : List Int32) ++ [(10 : Int32)])).map Value.int))) :: (AL g a9 a9 [] ++ [])))) rfl fun T39 B40 => ?_
    refine p_dup B40 at_165 rfl rfl ?_
    refine p_bipush B40 at_166 rfl (v := (6 : Int32)) (by decide) ?_
    refine p_iconst B40 at_168 rfl (v := (-1 : Int32)) (by decide) ?_
    refine r_iastore B40 at_169 rfl (i := 0) rfl (by decide) (k := 6) (by decide) (by simp) (H' := ((a28, .inr (.int, "[I", [(.int (-1 : Int32)), (.int (-1 : Int32)), (.int (-1 : Int32)), (.int (-1 : Int32)), (.int (-1 : Int32)), (.int (-1 : Int32)), (.int (-1 : Int32)), (.int 0), (.int 0), (.int 0), (.int 0)])) :: ((r, .inr (.byte, "[B", ((u8L (([] : List Int32) ++ [(10 : Int32)])).map Value.int))) :: (AL g a9 a9 [] ++ [])))) rfl fun T41 B42 => ?_
    refine p_dup B42 at_170 rfl rfl ?_
    refine p_bipush B42 at_171 rfl (v := (7 : Int32)) (by decide) ?_
    refine p_iconst B42 at_173 rfl (v := (-1 : Int32)) (by decide) ?_
    refine r_iastore B42 at_174 rfl (i := 0) rfl (by decide) (k := 7) (by decide) (by simp) (H' := ((a28, .inr (.int, "[I", [(.int (-1 : Int32)), (.int (-1 : Int32)), (.int (-1 : Int32)), (.int (-1 : Int32)), (.int (-1 : Int32)), (.int (-1 : Int32)), (.int (-1 : Int32)), (.int (-1 : Int32)), (.int 0), (.int 0), (.int 0)])) :: ((r, .inr (.byte, "[B", ((u8L (([] : List Int32) ++ [(10 : Int32)])).map Value.int))) :: (AL g a9 a9 [] ++ [])))) rfl fun T43 B44 => ?_
    refine p_dup B44 at_175 rfl rfl ?_
    refine p_bipush B44 at_176 rfl (v := (8 : Int32)) (by decide) ?_
    refine p_iconst B44 at_178 rfl (v := (-1 : Int32)) (by decide) ?_
    refine r_iastore B44 at_179 rfl (i := 0) rfl (by decide) (k := 8) (by decide) (by simp) (H' := ((a28, .inr (.int, "[I", [(.int (-1 : Int32)), (.int (-1 : Int32)), (.int (-1 : Int32)), (.int (-1 : Int32)), (.int (-1 : Int32)), (.int (-1 : Int32)), (.int (-1 : Int32)), (.int (-1 : Int32)), (.int (-1 : Int32)), (.int 0), (.int 0)])) :: ((r, .inr (.byte, "[B", ((u8L (([] : List Int32) ++ [(10 : Int32)])).map Value.int))) :: (AL g a9 a9 [] ++ [])))) rfl fun T45 B46 => ?_
    refine p_dup B46 at_180 rfl rfl ?_
    refine p_bipush B46 at_181 rfl (v := (9 : Int32)) (by decide) ?_
    refine p_iconst B46 at_183 rfl (v := (-1 : Int32)) (by decide) ?_
    refine r_iastore B46 at_184 rfl (i := 0) rfl (by decide) (k := 9) (by decide) (by simp) (H' := ((a28, .inr (.int, "[I", [(.int (-1 : Int32)), (.int (-1 : Int32)), (.int (-1 : Int32)), (.int (-1 : Int32)), (.int (-1 : Int32)), (.int (-1 : Int32)), (.int (-1 : Int32)), (.int (-1 : Int32)), (.int (-1 : Int32)), (.int (-1 : Int32)), (.int 0)])) :: ((r, .inr (.byte, "[B", ((u8L (([] : List Int32) ++ [(10 : Int32)])).map Value.int))) :: (AL g a9 a9 [] ++ [])))) rfl fun T47 B48 => ?_
    refine p_dup B48 at_185 rfl rfl ?_
    refine p_bipush B48 at_186 rfl (v := (10 : Int32)) (by decide) ?_
    refine p_iconst B48 at_188 rfl (v := (-1 : Int32)) (by decide) ?_
    refine r_iastore B48 at_189 rfl (i := 0) rfl (by decide) (k := 10) (by decide) (by simp) (H' := ((a28, .inr (.int, "[I", [(.int (-1 : Int32)), (.int (-1 : Int32)), (.int (-1 : Int32)), (.int (-1 : Int32)), (.int (-1 : Int32)), (.int (-1 : Int32)), (.int (-1 : Int32)), (.int (-1 : Int32)), (.int (-1 : Int32)), (.int (-1 : Int32)), (.int (-1 : Int32))])) :: ((r, .inr (.byte, "[B", ((u8L (([] : List Int32) ++ [(10 : Int32)])).map Value.int))) :: (AL g a9 a9 [] ++ [])))) rfl fun T49 B50 => ?_
    refine p_astore B50 at_190 rfl rfl (Ls' := #[.val (.int p0), .val (.int p1), .val (.int p2), .val (.int (rx p0)), .val (.int (ry p0 2)), .val (.int (ry p0 4)), .val (.int (cx p1)), .val (.int (cy p1 8)), .val (.int (cx p2)), .val (.int (cy p2 8)), .val (.ref s0), .val (.ref s1), .val (.ref a9), .val (.ref a15), .val (.ref r), .val (.ref a28), .unset]) rfl ?_
    have hg0 := pllen (ry p0 2) (cx p1) (cy p1 8)
    have hg1 := pllen (ry p0 4) (cx p2) (cy p2 8)
    have B51 : RH g D0 M T49 ((a28, .inr (.int, "[I", (exv []))) :: ((r, .inr (.byte, "[B", ((u8L (([] : List Int32) ++ [(10 : Int32)])).map Value.int))) :: (AL g a9 a9 [] ++ []))) [(s1, sb1, 0, (stB (ry p0 4) (cx p2) (cy p2 8)).map Value.int), (s0, sb0, 0, (stB (ry p0 2) (cx p1) (cy p1 8)).map Value.int)] 18 151 := B50
    refine p_iconst B51 at_192 rfl (v := (0 : Int32)) (by decide) ?_
    refine p_istore B51 at_193 rfl (Ls' := #[.val (.int p0), .val (.int p1), .val (.int p2), .val (.int (rx p0)), .val (.int (ry p0 2)), .val (.int (ry p0 4)), .val (.int (cx p1)), .val (.int (cy p1 8)), .val (.int (cx p2)), .val (.int (cy p2 8)), .val (.ref s0), .val (.ref s1), .val (.ref a9), .val (.ref a15), .val (.ref r), .val (.ref a28), .val (.int 0)]) rfl ?_
    refine p_iloadN B51 at_195 rfl rfl ?_
    refine p_iconst B51 at_196 rfl (v := (1 : Int32)) (by decide) ?_
    refine b_icT B51 at_197 (pc' := 215) hk0 (by decide) (by decide) ?_
    refine p_iloadN B51 at_215 rfl rfl ?_
    refine p_iconst B51 at_216 rfl (v := (2 : Int32)) (by decide) ?_
    refine b_icT B51 at_217 (pc' := 235) (lt12 hk0) (by decide) (by decide) ?_
    refine p_aload B51 at_235 rfl rfl rfl ?_
    refine p_iload B51 at_237 rfl rfl ?_
    refine p_bipush B51 at_239 rfl (v := (10 : Int32)) (by decide) ?_
    refine r_iastore B51 at_241 rfl (i := 0) rfl (by decide) (k := ([] : List Int32).length) (by decide) (by rw [exl (by first | omega | (simp only [List.length_append, List.length_cons, List.length_nil]; omega))]; first | omega | (simp only [List.length_append, List.length_cons, List.length_nil]; omega)) (H' := ((a28, .inr (.int, "[I", (exv ([] ++ [(10 : Int32)])))) :: ((r, .inr (.byte, "[B", ((u8L (([] : List Int32) ++ [(10 : Int32)])).map Value.int))) :: (AL g a9 a9 [] ++ [])))) (by rw [exs (by first | omega | (simp only [List.length_append, List.length_cons, List.length_nil]; omega))]; rfl) fun T52 B53 => ?_
    refine p_iload B53 at_242 rfl rfl ?_
    refine p_iconst B53 at_244 rfl (v := (1 : Int32)) (by decide) ?_
    refine p_iadd B53 at_245 rfl (z := (Int32.ofNat (([] ++ [(10 : Int32)]) : List Int32).length)) (by decide) ?_
    have hm : (u8L (([] : List Int32) ++ [(10 : Int32)])).map lo = ([] ++ [(10 : Int32)]) := by
      simp only [u8L_app, List.map_append, ten, List.nil_append, List.append_assoc]
      try rfl
    have hlen : (u8L (([] : List Int32) ++ [(10 : Int32)])).length = (([] ++ [(10 : Int32)]) : List Int32).length := by
      have q := congrArg List.length hm
      rw [List.length_map] at q
      exact q
    refine p_istore B53 at_246 rfl (Ls' := #[.val (.int p0), .val (.int p1), .val (.int p2), .val (.int (rx p0)), .val (.int (ry p0 2)), .val (.int (ry p0 4)), .val (.int (cx p1)), .val (.int (cy p1 8)), .val (.int (cx p2)), .val (.int (cy p2 8)), .val (.ref s0), .val (.ref s1), .val (.ref a9), .val (.ref a15), .val (.ref r), .val (.ref a28), .val (.int (Int32.ofNat (([] ++ [(10 : Int32)]) : List Int32).length))]) rfl ?_
    refine p_aload B53 at_248 rfl rfl rfl ?_
    refine r_alen B53 at_250 rfl (aH (i := 1) rfl) (z := (Int32.ofNat (u8L (([] : List Int32) ++ [(10 : Int32)])).length)) (by rw [List.length_map]) ?_
    refine p_iload B53 at_251 rfl rfl ?_
    refine b_icT B53 at_253 (pc' := 258) (congrArg Int32.ofNat hlen) (by decide) (by decide) ?_
    have B54 : RH g D0 M T52 ((r, .inr (.byte, "[B", ((u8L (([] : List Int32) ++ [(10 : Int32)])).map Value.int))) :: ((a28, .inr (.int, "[I", (exv ([] ++ [(10 : Int32)])))) :: (AL g a9 a9 [] ++ []))) [(s1, sb1, 0, (stB (ry p0 4) (cx p2) (cy p2 8)).map Value.int), (s0, sb0, 0, (stB (ry p0 2) (cx p1) (cy p1 8)).map Value.int)] 18 151 := B53.front (i := 1) rfl rfl
    refine p_aload B54 at_258 rfl rfl rfl ?_
    refine p_aload B54 at_260 rfl rfl rfl ?_
    refine p_iconst B54 at_262 rfl (v := (0 : Int32)) (by decide) ?_
    refine r_static (D' := D40_w) B54 at_263 rfl (W260 B54.gw) (W261 B54.gw) (W2 B54.gw) (W262 B54.gw) (by decide) (k_sm W 0 hm (by simp only [List.length_append, List.length_cons, List.length_nil]; omega) (by decide)) (argsL := [(.ref r), (.ref a28), (.int 0)]) (rest := []) rfl pd54 rfl rfl rfl (W := 0) rfl (cs' := 18) (ss' := 151) (by decide) (Kv1 fun T55 B57 => ?_)
    refine b_ifF B57 at_266 (pc' := 269) rfl (show ¬ (1 : Int32) = (0 : Int32) from by decide) ?_
    refine p_aload B57 at_269 rfl rfl rfl ?_
    refine p_aload B57 at_271 rfl rfl rfl ?_
    refine p_iconst B57 at_273 rfl (v := (1 : Int32)) (by decide) ?_
    refine r_static (D' := D40_w) B57 at_274 rfl (W260 B57.gw) (W261 B57.gw) (W2 B57.gw) (W262 B57.gw) (by decide) (k_sm W 1 hm (by simp only [List.length_append, List.length_cons, List.length_nil]; omega) (by decide)) (argsL := [(.ref r), (.ref a28), (.int 1)]) (rest := []) rfl pd54 rfl rfl rfl (W := 0) rfl (cs' := 18) (ss' := 151) (by decide) (Kv1 fun T58 B60 => ?_)
    refine b_ifF B60 at_277 (pc' := 280) rfl (show ¬ (1 : Int32) = (0 : Int32) from by decide) ?_
    refine p_aload B60 at_280 rfl rfl rfl ?_
    refine p_aload B60 at_282 rfl rfl rfl ?_
    refine p_iconst B60 at_284 rfl (v := (2 : Int32)) (by decide) ?_
    refine r_static (D' := D40_w) B60 at_285 rfl (W260 B60.gw) (W261 B60.gw) (W2 B60.gw) (W262 B60.gw) (by decide) (k_sm W 2 hm (by simp only [List.length_append, List.length_cons, List.length_nil]; omega) (by decide)) (argsL := [(.ref r), (.ref a28), (.int 2)]) (rest := []) rfl pd54 rfl rfl rfl (W := 0) rfl (cs' := 18) (ss' := 151) (by decide) (Kv1 fun T61 B63 => ?_)
    refine b_ifF B63 at_288 (pc' := 291) rfl (show ¬ (1 : Int32) = (0 : Int32) from by decide) ?_
    refine p_aload B63 at_291 rfl rfl rfl ?_
    refine p_aload B63 at_293 rfl rfl rfl ?_
    refine p_iconst B63 at_295 rfl (v := (3 : Int32)) (by decide) ?_
    refine r_static (D' := D40_w) B63 at_296 rfl (W260 B63.gw) (W261 B63.gw) (W2 B63.gw) (W262 B63.gw) (by decide) (k_sm W 3 hm (by simp only [List.length_append, List.length_cons, List.length_nil]; omega) (by decide)) (argsL := [(.ref r), (.ref a28), (.int 3)]) (rest := []) rfl pd54 rfl rfl rfl (W := 0) rfl (cs' := 18) (ss' := 151) (by decide) (Kv1 fun T64 B66 => ?_)
    refine b_ifF B66 at_299 (pc' := 302) rfl (show ¬ (1 : Int32) = (0 : Int32) from by decide) ?_
    refine p_aload B66 at_302 rfl rfl rfl ?_
    refine p_aload B66 at_304 rfl rfl rfl ?_
    refine p_iconst B66 at_306 rfl (v := (4 : Int32)) (by decide) ?_
    refine r_static (D' := D40_w) B66 at_307 rfl (W260 B66.gw) (W261 B66.gw) (W2 B66.gw) (W262 B66.gw) (by decide) (k_sm W 4 hm (by simp only [List.length_append, List.length_cons, List.length_nil]; omega) (by decide)) (argsL := [(.ref r), (.ref a28), (.int 4)]) (rest := []) rfl pd54 rfl rfl rfl (W := 0) rfl (cs' := 18) (ss' := 151) (by decide) (Kv1 fun T67 B69 => ?_)
    refine b_ifF B69 at_310 (pc' := 313) rfl (show ¬ (1 : Int32) = (0 : Int32) from by decide) ?_
    refine p_aload B69 at_313 rfl rfl rfl ?_
    refine p_aload B69 at_315 rfl rfl rfl ?_
    refine p_iconst B69 at_317 rfl (v := (5 : Int32)) (by decide) ?_
    refine r_static (D' := D40_w) B69 at_318 rfl (W260 B69.gw) (W261 B69.gw) (W2 B69.gw) (W262 B69.gw) (by decide) (k_sm W 5 hm (by simp only [List.length_append, List.length_cons, List.length_nil]; omega) (by decide)) (argsL := [(.ref r), (.ref a28), (.int 5)]) (rest := []) rfl pd54 rfl rfl rfl (W := 0) rfl (cs' := 18) (ss' := 151) (by decide) (Kv1 fun T70 B72 => ?_)
    refine b_ifF B72 at_321 (pc' := 324) rfl (show ¬ (1 : Int32) = (0 : Int32) from by decide) ?_
    refine p_aload B72 at_324 rfl rfl rfl ?_
    refine p_aload B72 at_326 rfl rfl rfl ?_
    refine p_bipush B72 at_328 rfl (v := (6 : Int32)) (by decide) ?_
    refine r_static (D' := D40_w) B72 at_330 rfl (W260 B72.gw) (W261 B72.gw) (W2 B72.gw) (W262 B72.gw) (by decide) (k_sm W 6 hm (by simp only [List.length_append, List.length_cons, List.length_nil]; omega) (by decide)) (argsL := [(.ref r), (.ref a28), (.int 6)]) (rest := []) rfl pd54 rfl rfl rfl (W := 0) rfl (cs' := 18) (ss' := 151) (by decide) (Kv1 fun T73 B75 => ?_)
    refine b_ifF B75 at_333 (pc' := 336) rfl (show ¬ (1 : Int32) = (0 : Int32) from by decide) ?_
    refine p_aload B75 at_336 rfl rfl rfl ?_
    refine p_aload B75 at_338 rfl rfl rfl ?_
    refine p_bipush B75 at_340 rfl (v := (7 : Int32)) (by decide) ?_
    refine r_static (D' := D40_w) B75 at_342 rfl (W260 B75.gw) (W261 B75.gw) (W2 B75.gw) (W262 B75.gw) (by decide) (k_sm W 7 hm (by simp only [List.length_append, List.length_cons, List.length_nil]; omega) (by decide)) (argsL := [(.ref r), (.ref a28), (.int 7)]) (rest := []) rfl pd54 rfl rfl rfl (W := 0) rfl (cs' := 18) (ss' := 151) (by decide) (Kv1 fun T76 B78 => ?_)
    refine b_ifF B78 at_345 (pc' := 348) rfl (show ¬ (1 : Int32) = (0 : Int32) from by decide) ?_
    refine p_aload B78 at_348 rfl rfl rfl ?_
    refine p_aload B78 at_350 rfl rfl rfl ?_
    refine p_bipush B78 at_352 rfl (v := (8 : Int32)) (by decide) ?_
    refine r_static (D' := D40_w) B78 at_354 rfl (W260 B78.gw) (W261 B78.gw) (W2 B78.gw) (W262 B78.gw) (by decide) (k_sm W 8 hm (by simp only [List.length_append, List.length_cons, List.length_nil]; omega) (by decide)) (argsL := [(.ref r), (.ref a28), (.int 8)]) (rest := []) rfl pd54 rfl rfl rfl (W := 0) rfl (cs' := 18) (ss' := 151) (by decide) (Kv1 fun T79 B81 => ?_)
    refine b_ifF B81 at_357 (pc' := 360) rfl (show ¬ (1 : Int32) = (0 : Int32) from by decide) ?_
    refine p_aload B81 at_360 rfl rfl rfl ?_
    refine p_aload B81 at_362 rfl rfl rfl ?_
    refine p_bipush B81 at_364 rfl (v := (9 : Int32)) (by decide) ?_
    refine r_static (D' := D40_w) B81 at_366 rfl (W260 B81.gw) (W261 B81.gw) (W2 B81.gw) (W262 B81.gw) (by decide) (k_sm W 9 hm (by simp only [List.length_append, List.length_cons, List.length_nil]; omega) (by decide)) (argsL := [(.ref r), (.ref a28), (.int 9)]) (rest := []) rfl pd54 rfl rfl rfl (W := 0) rfl (cs' := 18) (ss' := 151) (by decide) (Kv1 fun T82 B84 => ?_)
    refine b_ifF B84 at_369 (pc' := 372) rfl (show ¬ (1 : Int32) = (0 : Int32) from by decide) ?_
    refine p_aload B84 at_372 rfl rfl rfl ?_
    refine p_aload B84 at_374 rfl rfl rfl ?_
    refine p_bipush B84 at_376 rfl (v := (10 : Int32)) (by decide) ?_
    refine r_static (D' := D40_w) B84 at_378 rfl (W260 B84.gw) (W261 B84.gw) (W2 B84.gw) (W262 B84.gw) (by decide) (k_sm W 10 hm (by simp only [List.length_append, List.length_cons, List.length_nil]; omega) (by decide)) (argsL := [(.ref r), (.ref a28), (.int 10)]) (rest := []) rfl pd54 rfl rfl rfl (W := 0) rfl (cs' := 18) (ss' := 151) (by decide) (Kv1 fun T85 B87 => ?_)
    refine b_ifF B87 at_381 (pc' := 384) rfl (show ¬ (1 : Int32) = (0 : Int32) from by decide) ?_
    refine p_iconst B87 at_384 rfl (v := (1 : Int32)) (by decide) ?_
    refine b_goto B87 at_385 (pc' := 389) (by decide) (by decide) ?_
    exact r_reti B87 at_389 rfl (by simp) rfl (by decide) (by decide) (fun vm h P => rfl)
  · refine b_icF B12 at_95 (pc' := 98) rfl hk0 ?_
    refine p_aload B12 at_98 rfl rfl rfl ?_
    refine p_aload B12 at_100 rfl rfl rfl ?_
    refine r_virtual (D' := D41_w) B12 at_102 rfl (W263 B12.gw) (W264 B12.gw) (W266 B12.gw) (fun vm0 hZ => notFace_of_selects (args := #[]) (mvT hZ (W266 B12.gw))) (W265 B12.gw) (W14 B12.gw) (W267 B12.gw) (by decide) (al_exa []) (W_add W a9 a9 s0 [] (by simp) _ _ ⟨_, _, _, (List.mem_of_getElem? (i := 1) rfl)⟩) (argsL := [(.ref s0)]) (rest := []) rfl pd55 rfl rfl rfl (W := 0) rfl (cs' := 8) (ss' := 41) (by decide) (Kex fun b91 => Kv1 fun T88 B90 => ?_)
    have B92 : RH g D0 M T88 (AL g a9 b91 [s0] ++ []) [(s1, sb1, 0, (stB (ry p0 4) (cx p2) (cy p2 8)).map Value.int), (s0, sb0, 0, (stB (ry p0 2) (cx p1) (cy p1 8)).map Value.int)] 8 41 := B90
    refine p_pop B92 at_105 rfl rfl ?_
    refine p_iloadN B92 at_106 rfl rfl ?_
    refine p_iconst B92 at_107 rfl (v := (2 : Int32)) (by decide) ?_
    by_cases hk1 : (rx p0) < (2 : Int32)
    · refine b_icT B92 at_108 (pc' := 119) hk1 (by decide) (by decide) ?_
      refine r_new B92 at_119 rfl (W38 B92.gw) (W39 B92.gw) (W40 B92.gw) (Ly_oEV B92.gw) (by decide) (cs' := 9) rfl (ss' := 42) rfl (by decide) (by decide) fun T93 a95 B94 => ?_
      refine p_dup B94 at_122 rfl rfl ?_
      refine p_aload B94 at_123 rfl rfl rfl ?_
      refine r_special (D' := D6_w) B94 at_125 rfl rfl rfl (W41 B94.gw) (W42 B94.gw) (W40 B94.gw) (W43 B94.gw) (by decide) (W_ei W a95 a9 b91 [s0] (by simp) _ _ (List.forall_mem_cons.2 ⟨⟨_, _, _, (List.mem_of_getElem? (i := 1) rfl)⟩, nofun⟩)) (a := a95) (argsL := [(.ref a9)]) (rest := [(.ref a95)]) rfl pd53 rfl rfl rfl (W := 1) rfl (cs' := 11) (ss' := 46) (by decide) (Kex fun c99 => Kex fun d100 => Kv0 fun T96 B98 => ?_)
      refine p_astore B98 at_128 rfl rfl (Ls' := #[.val (.int p0), .val (.int p1), .val (.int p2), .val (.int (rx p0)), .val (.int (ry p0 2)), .val (.int (ry p0 4)), .val (.int (cx p1)), .val (.int (cy p1 8)), .val (.int (cx p2)), .val (.int (cy p2 8)), .val (.ref s0), .val (.ref s1), .val (.ref a9), .val (.ref a95), .unset, .unset, .unset]) rfl ?_
      refine p_aload B98 at_130 rfl rfl rfl ?_
      have B101 : RH g D0 M T96 (IL g c99 d100 [s0] ++ (oEV a95 (.ref (ilA g c99 [s0])) :: (AL g a9 b91 [s0] ++ []))) [(s1, sb1, 0, (stB (ry p0 4) (cx p2) (cy p2 8)).map Value.int), (s0, sb0, 0, (stB (ry p0 2) (cx p1) (cy p1 8)).map Value.int)] 11 46 := B98.perm (pm2 [oEV a95 (.ref (ilA g c99 [s0]))] (AL g a9 b91 [s0]) (IL g c99 d100 [s0]))
      have B102 : RH g D0 M T96 (oEV a95 (.ref (ilA g c99 [s0])) :: (IL g c99 d100 [s0] ++ (AL g a9 b91 [s0] ++ []))) [(s1, sb1, 0, (stB (ry p0 4) (cx p2) (cy p2 8)).map Value.int), (s0, sb0, 0, (stB (ry p0 2) (cx p1) (cy p1 8)).map Value.int)] 11 46 := B101.perm (pm1 (IL g c99 d100 [s0]) [oEV a95 (.ref (ilA g c99 [s0]))])
      refine r_virtual (D' := D12_w) B102 at_132 rfl (W81 B102.gw) (W82 B102.gw) (W84 B102.gw) (fun vm0 hZ => notFace_of_selects (args := #[]) (mvT hZ (W84 B102.gw))) (W83 B102.gw) (W40 B102.gw) (W85 B102.gw) (by decide) (fE (i := 0) rfl) (c_by1 W a95 c99 d100 s0 _ _ (List.mem_of_getElem? (i := 1) rfl) (stlen _ _ _) (stby _ _ _)) (argsL := []) (rest := []) rfl pd29 rfl rfl rfl (W := 0) rfl (cs' := 18) (ss' := 150) (by decide) (Kex fun r => Kv1 fun T103 B105 => ?_)
      refine p_astore B105 at_135 rfl rfl (Ls' := #[.val (.int p0), .val (.int p1), .val (.int p2), .val (.int (rx p0)), .val (.int (ry p0 2)), .val (.int (ry p0 4)), .val (.int (cx p1)), .val (.int (cy p1 8)), .val (.int (cx p2)), .val (.int (cy p2 8)), .val (.ref s0), .val (.ref s1), .val (.ref a9), .val (.ref a95), .val (.ref r), .unset, .unset]) rfl ?_
      refine p_bipush B105 at_137 rfl (v := (11 : Int32)) (by decide) ?_
      refine r_newp B105 at_139 rfl (ty := .int) (W259 B105.gw) rfl (by decide) (nn := 11) (by decide) (cap := 11) (by decide) (by decide) (cs' := 19) rfl (ss' := 161) rfl (by decide) (by decide) (ad := "[I") (by decide) (by decide) nofun (vs := [(.int 0), (.int 0), (.int 0), (.int 0), (.int 0), (.int 0), (.int 0), (.int 0), (.int 0), (.int 0), (.int 0)]) rfl fun T106 a108 B107 => ?_
      refine p_dup B107 at_141 rfl rfl ?_
      refine p_iconst B107 at_142 rfl (v := (0 : Int32)) (by decide) ?_
      refine p_iconst B107 at_143 rfl (v := (-1 : Int32)) (by decide) ?_
      refine r_iastore B107 at_144 rfl (i := 0) rfl (by decide) (k := 0) (by decide) (by simp) (H' := ((a108, .inr (.int, "[I", [(.int (-1 : Int32)), (.int 0), (.int 0), (.int 0), (.int 0), (.int 0), (.int 0), (.int 0), (.int 0), (.int 0), (.int 0)])) :: ((r, .inr (.byte, "[B", ((u8L (((([] : List Int32) ++ (stB (ry p0 2) (cx p1) (cy p1 8))) ++ [(10 : Int32)]) ++ [(10 : Int32)])).map Value.int))) :: (AL g a9 b91 [s0] ++ [])))) rfl fun T109 B110 => ?_
      refine p_dup B110 at_145 rfl rfl ?_
      refine p_iconst B110 at_146 rfl (v := (1 : Int32)) (by decide) ?_
      refine p_iconst B110 at_147 rfl (v := (-1 : Int32)) (by decide) ?_
      refine r_iastore B110 at_148 rfl (i := 0) rfl (by decide) (k := 1) (by decide) (by simp) (H' := ((a108, .inr (.int, "[I", [(.int (-1 : Int32)), (.int (-1 : Int32)), (.int 0), (.int 0), (.int 0), (.int 0), (.int 0), (.int 0), (.int 0), (.int 0), (.int 0)])) :: ((r, .inr (.byte, "[B", ((u8L (((([] : List Int32) ++ (stB (ry p0 2) (cx p1) (cy p1 8))) ++ [(10 : Int32)]) ++ [(10 : Int32)])).map Value.int))) :: (AL g a9 b91 [s0] ++ [])))) rfl fun T111 B112 => ?_
      refine p_dup B112 at_149 rfl rfl ?_
      refine p_iconst B112 at_150 rfl (v := (2 : Int32)) (by decide) ?_
      refine p_iconst B112 at_151 rfl (v := (-1 : Int32)) (by decide) ?_
      refine r_iastore B112 at_152 rfl (i := 0) rfl (by decide) (k := 2) (by decide) (by simp) (H' := ((a108, .inr (.int, "[I", [(.int (-1 : Int32)), (.int (-1 : Int32)), (.int (-1 : Int32)), (.int 0), (.int 0), (.int 0), (.int 0), (.int 0), (.int 0), (.int 0), (.int 0)])) :: ((r, .inr (.byte, "[B", ((u8L (((([] : List Int32) ++ (stB (ry p0 2) (cx p1) (cy p1 8))) ++ [(10 : Int32)]) ++ [(10 : Int32)])).map Value.int))) :: (AL g a9 b91 [s0] ++ [])))) rfl fun T113 B114 => ?_
      refine p_dup B114 at_153 rfl rfl ?_
      refine p_iconst B114 at_154 rfl (v := (3 : Int32)) (by decide) ?_
      refine p_iconst B114 at_155 rfl (v := (-1 : Int32)) (by decide) ?_
      refine r_iastore B114 at_156 rfl (i := 0) rfl (by decide) (k := 3) (by decide) (by simp) (H' := ((a108, .inr (.int, "[I", [(.int (-1 : Int32)), (.int (-1 : Int32)), (.int (-1 : Int32)), (.int (-1 : Int32)), (.int 0), (.int 0), (.int 0), (.int 0), (.int 0), (.int 0), (.int 0)])) :: ((r, .inr (.byte, "[B", ((u8L (((([] : List Int32) ++ (stB (ry p0 2) (cx p1) (cy p1 8))) ++ [(10 : Int32)]) ++ [(10 : Int32)])).map Value.int))) :: (AL g a9 b91 [s0] ++ [])))) rfl fun T115 B116 => ?_
      refine p_dup B116 at_157 rfl rfl ?_
      refine p_iconst B116 at_158 rfl (v := (4 : Int32)) (by decide) ?_
      refine p_iconst B116 at_159 rfl (v := (-1 : Int32)) (by decide) ?_
      refine r_iastore B116 at_160 rfl (i := 0) rfl (by decide) (k := 4) (by decide) (by simp) (H' := ((a108, .inr (.int, "[I", [(.int (-1 : Int32)), (.int (-1 : Int32)), (.int (-1 : Int32)), (.int (-1 : Int32)), (.int (-1 : Int32)), (.int 0), (.int 0), (.int 0), (.int 0), (.int 0), (.int 0)])) :: ((r, .inr (.byte, "[B", ((u8L (((([] : List Int32) ++ (stB (ry p0 2) (cx p1) (cy p1 8))) ++ [(10 : Int32)]) ++ [(10 : Int32)])).map Value.int))) :: (AL g a9 b91 [s0] ++ [])))) rfl fun T117 B118 => ?_
      refine p_dup B118 at_161 rfl rfl ?_
      refine p_iconst B118 at_162 rfl (v := (5 : Int32)) (by decide) ?_
      refine p_iconst B118 at_163 rfl (v := (-1 : Int32)) (by decide) ?_
      refine r_iastore B118 at_164 rfl (i := 0) rfl (by decide) (k := 5) (by decide) (by simp) (H' := ((a108, .inr (.int, "[I", [(.int (-1 : Int32)), (.int (-1 : Int32)), (.int (-1 : Int32)), (.int (-1 : Int32)), (.int (-1 : Int32)), (.int (-1 : Int32)), (.int 0), (.int 0), (.int 0), (.int 0), (.int 0)])) :: ((r, .inr (.byte, "[B", ((u8L (((([] : List Int32) ++ (stB (ry p0 2) (cx p1) (cy p1 8))) ++ [(10 : Int32)]) ++ [(10 : Int32)])).map Value.int))) :: (AL g a9 b91 [s0] ++ [])))) rfl fun T119 B120 => ?_
      refine p_dup B120 at_165 rfl rfl ?_
      refine p_bipush B120 at_166 rfl (v := (6 : Int32)) (by decide) ?_
      refine p_iconst B120 at_168 rfl (v := (-1 : Int32)) (by decide) ?_
      refine r_iastore B120 at_169 rfl (i := 0) rfl (by decide) (k := 6) (by decide) (by simp) (H' := ((a108, .inr (.int, "[I", [(.int (-1 : Int32)), (.int (-1 : Int32)), (.int (-1 : Int32)), (.int (-1 : Int32)), (.int (-1 : Int32)), (.int (-1 : Int32)), (.int (-1 : Int32)), (.int 0), (.int 0), (.int 0), (.int 0)])) :: ((r, .inr (.byte, "[B", ((u8L (((([] : List Int32) ++ (stB (ry p0 2) (cx p1) (cy p1 8))) ++ [(10 : Int32)]) ++ [(10 : Int32)])).map Value.int))) :: (AL g a9 b91 [s0] ++ [])))) rfl fun T121 B122 => ?_
      refine p_dup B122 at_170 rfl rfl ?_
      refine p_bipush B122 at_171 rfl (v := (7 : Int32)) (by decide) ?_
      refine p_iconst B122 at_173 rfl (v := (-1 : Int32)) (by decide) ?_
      refine r_iastore B122 at_174 rfl (i := 0) rfl (by decide) (k := 7) (by decide) (by simp) (H' := ((a108, .inr (.int, "[I", [(.int (-1 : Int32)), (.int (-1 : Int32)), (.int (-1 : Int32)), (.int (-1 : Int32)), (.int (-1 : Int32)), (.int (-1 : Int32)), (.int (-1 : Int32)), (.int (-1 : Int32)), (.int 0), (.int 0), (.int 0)])) :: ((r, .inr (.byte, "[B", ((u8L (((([] : List Int32) ++ (stB (ry p0 2) (cx p1) (cy p1 8))) ++ [(10 : Int32)]) ++ [(10 : Int32)])).map Value.int))) :: (AL g a9 b91 [s0] ++ [])))) rfl fun T123 B124 => ?_
      refine p_dup B124 at_175 rfl rfl ?_
      refine p_bipush B124 at_176 rfl (v := (8 : Int32)) (by decide) ?_
      refine p_iconst B124 at_178 rfl (v := (-1 : Int32)) (by decide) ?_
      refine r_iastore B124 at_179 rfl (i := 0) rfl (by decide) (k := 8) (by decide) (by simp) (H' := ((a108, .inr (.int, "[I", [(.int (-1 : Int32)), (.int (-1 : Int32)), (.int (-1 : Int32)), (.int (-1 : Int32)), (.int (-1 : Int32)), (.int (-1 : Int32)), (.int (-1 : Int32)), (.int (-1 : Int32)), (.int (-1 : Int32)), (.int 0), (.int 0)])) :: ((r, .inr (.byte, "[B", ((u8L (((([] : List Int32) ++ (stB (ry p0 2) (cx p1) (cy p1 8))) ++ [(10 : Int32)]) ++ [(10 : Int32)])).map Value.int))) :: (AL g a9 b91 [s0] ++ [])))) rfl fun T125 B126 => ?_
      refine p_dup B126 at_180 rfl rfl ?_
      refine p_bipush B126 at_181 rfl (v := (9 : Int32)) (by decide) ?_
      refine p_iconst B126 at_183 rfl (v := (-1 : Int32)) (by decide) ?_
      refine r_iastore B126 at_184 rfl (i := 0) rfl (by decide) (k := 9) (by decide) (by simp) (H' := ((a108, .inr (.int, "[I", [(.int (-1 : Int32)), (.int (-1 : Int32)), (.int (-1 : Int32)), (.int (-1 : Int32)), (.int (-1 : Int32)), (.int (-1 : Int32)), (.int (-1 : Int32)), (.int (-1 : Int32)), (.int (-1 : Int32)), (.int (-1 : Int32)), (.int 0)])) :: ((r, .inr (.byte, "[B", ((u8L (((([] : List Int32) ++ (stB (ry p0 2) (cx p1) (cy p1 8))) ++ [(10 : Int32)]) ++ [(10 : Int32)])).map Value.int))) :: (AL g a9 b91 [s0] ++ [])))) rfl fun T127 B128 => ?_
      refine p_dup B128 at_185 rfl rfl ?_
      refine p_bipush B128 at_186 rfl (v := (10 : Int32)) (by decide) ?_
      refine p_iconst B128 at_188 rfl (v := (-1 : Int32)) (by decide) ?_
      refine r_iastore B128 at_189 rfl (i := 0) rfl (by decide) (k := 10) (by decide) (by simp) (H' := ((a108, .inr (.int, "[I", [(.int (-1 : Int32)), (.int (-1 : Int32)), (.int (-1 : Int32)), (.int (-1 : Int32)), (.int (-1 : Int32)), (.int (-1 : Int32)), (.int (-1 : Int32)), (.int (-1 : Int32)), (.int (-1 : Int32)), (.int (-1 : Int32)), (.int (-1 : Int32))])) :: ((r, .inr (.byte, "[B", ((u8L (((([] : List Int32) ++ (stB (ry p0 2) (cx p1) (cy p1 8))) ++ [(10 : Int32)]) ++ [(10 : Int32)])).map Value.int))) :: (AL g a9 b91 [s0] ++ [])))) rfl fun T129 B130 => ?_
      refine p_astore B130 at_190 rfl rfl (Ls' := #[.val (.int p0), .val (.int p1), .val (.int p2), .val (.int (rx p0)), .val (.int (ry p0 2)), .val (.int (ry p0 4)), .val (.int (cx p1)), .val (.int (cy p1 8)), .val (.int (cx p2)), .val (.int (cy p2 8)), .val (.ref s0), .val (.ref s1), .val (.ref a9), .val (.ref a95), .val (.ref r), .val (.ref a108), .unset]) rfl ?_
      have hg0 := pllen (ry p0 2) (cx p1) (cy p1 8)
      have hg1 := pllen (ry p0 4) (cx p2) (cy p2 8)
      have B131 : RH g D0 M T129 ((a108, .inr (.int, "[I", (exv []))) :: ((r, .inr (.byte, "[B", ((u8L (((([] : List Int32) ++ (stB (ry p0 2) (cx p1) (cy p1 8))) ++ [(10 : Int32)]) ++ [(10 : Int32)])).map Value.int))) :: (AL g a9 b91 [s0] ++ []))) [(s1, sb1, 0, (stB (ry p0 4) (cx p2) (cy p2 8)).map Value.int), (s0, sb0, 0, (stB (ry p0 2) (cx p1) (cy p1 8)).map Value.int)] 19 161 := B130
      refine p_iconst B131 at_192 rfl (v := (0 : Int32)) (by decide) ?_
      refine p_istore B131 at_193 rfl (Ls' := #[.val (.int p0), .val (.int p1), .val (.int p2), .val (.int (rx p0)), .val (.int (ry p0 2)), .val (.int (ry p0 4)), .val (.int (cx p1)), .val (.int (cy p1 8)), .val (.int (cx p2)), .val (.int (cy p2 8)), .val (.ref s0), .val (.ref s1), .val (.ref a9), .val (.ref a95), .val (.ref r), .val (.ref a108), .val (.int 0)]) rfl ?_
      refine p_iloadN B131 at_195 rfl rfl ?_
      refine p_iconst B131 at_196 rfl (v := (1 : Int32)) (by decide) ?_
      refine b_icF B131 at_197 (pc' := 200) rfl hk0 ?_
      refine p_aload B131 at_200 rfl rfl rfl ?_
      refine p_iload B131 at_202 rfl rfl ?_
      refine p_iload B131 at_204 rfl rfl ?_
      refine p_iload B131 at_206 rfl rfl ?_
      refine p_iload B131 at_208 rfl rfl ?_
      refine r_static (D' := D62_w) B131 at_210 rfl (W399 B131.gw) (W400 B131.gw) (W2 B131.gw) (W401 B131.gw) (by decide) (k_pl W (enc := []) (by simp only [List.length_append, List.length_cons, List.length_nil]; omega)) (argsL := [(.ref a108), (.int 0), (.int (ry p0 2)), (.int (cx p1)), (.int (cy p1 8))]) (rest := []) rfl pd56 rfl rfl rfl (W := 0) rfl (cs' := 19) (ss' := 161) (by decide) (Kv1 fun T132 B134 => ?_)
      refine p_istore B134 at_213 rfl (Ls' := #[.val (.int p0), .val (.int p1), .val (.int p2), .val (.int (rx p0)), .val (.int (ry p0 2)), .val (.int (ry p0 4)), .val (.int (cx p1)), .val (.int (cy p1 8)), .val (.int (cx p2)), .val (.int (cy p2 8)), .val (.ref s0), .val (.ref s1), .val (.ref a9), .val (.ref a95), .val (.ref r), .val (.ref a108), .val (.int (Int32.ofNat ([] ++ ((pl (ry p0 2) (cx p1) (cy p1 8)) ++ [(10 : Int32)])).length))]) rfl ?_
      refine p_iloadN B134 at_215 rfl rfl ?_
      refine p_iconst B134 at_216 rfl (v := (2 : Int32)) (by decide) ?_
      refine b_icT B134 at_217 (pc' := 235) hk1 (by decide) (by decide) ?_
      refine p_aload B134 at_235 rfl rfl rfl ?_
      refine p_iload B134 at_237 rfl rfl ?_
      refine p_bipush B134 at_239 rfl (v := (10 : Int32)) (by decide) ?_
      refine r_iastore B134 at_241 rfl (i := 0) rfl (n31 (by simp only [List.length_append, List.length_cons, List.length_nil]; omega)) (k := (([] ++ ((pl (ry p0 2) (cx p1) (cy p1 8)) ++ [(10 : Int32)])) : List Int32).length) (n31c (by simp only [List.length_append, List.length_cons, List.length_nil]; omega)) (by rw [exl (by first | omega | (simp only [List.length_append, List.length_cons, List.length_nil]; omega))]; first | omega | (simp only [List.length_append, List.length_cons, List.length_nil]; omega)) (H' := ((a108, .inr (.int, "[I", (exv (([] ++ ((pl (ry p0 2) (cx p1) (cy p1 8)) ++ [(10 : Int32)])) ++ [(10 : Int32)])))) :: ((r, .inr (.byte, "[B", ((u8L (((([] : List Int32) ++ (stB (ry p0 2) (cx p1) (cy p1 8))) ++ [(10 : Int32)]) ++ [(10 : Int32)])).map Value.int))) :: (AL g a9 b91 [s0] ++ [])))) (by rw [exs (by first | omega | (simp only [List.length_append, List.length_cons, List.length_nil]; omega))]; rfl) fun T135 B136 => ?_
      refine p_iload B136 at_242 rfl rfl ?_
      refine p_iconst B136 at_244 rfl (v := (1 : Int32)) (by decide) ?_
      refine p_iadd B136 at_245 rfl (z := (Int32.ofNat ((([] ++ ((pl (ry p0 2) (cx p1) (cy p1 8)) ++ [(10 : Int32)])) ++ [(10 : Int32)]) : List Int32).length)) (by exact lenS) ?_
      have hm : (u8L (((([] : List Int32) ++ (stB (ry p0 2) (cx p1) (cy p1 8))) ++ [(10 : Int32)]) ++ [(10 : Int32)])).map lo = (([] ++ ((pl (ry p0 2) (cx p1) (cy p1 8)) ++ [(10 : Int32)])) ++ [(10 : Int32)]) := by
        simp only [u8L_app, List.map_append, ten, stpl (rem3 _) (le255 _) (ge0 _) (le255 _) (ge0 _), List.nil_append, List.append_assoc]
        try rfl
      have hlen : (u8L (((([] : List Int32) ++ (stB (ry p0 2) (cx p1) (cy p1 8))) ++ [(10 : Int32)]) ++ [(10 : Int32)])).length = ((([] ++ ((pl (ry p0 2) (cx p1) (cy p1 8)) ++ [(10 : Int32)])) ++ [(10 : Int32)]) : List Int32).length := by
        have q := congrArg List.length hm
        rw [List.length_map] at q
        exact q
      refine p_istore B136 at_246 rfl (Ls' := #[.val (.int p0), .val (.int p1), .val (.int p2), .val (.int (rx p0)), .val (.int (ry p0 2)), .val (.int (ry p0 4)), .val (.int (cx p1)), .val (.int (cy p1 8)), .val (.int (cx p2)), .val (.int (cy p2 8)), .val (.ref s0), .val (.ref s1), .val (.ref a9), .val (.ref a95), .val (.ref r), .val (.ref a108), .val (.int (Int32.ofNat ((([] ++ ((pl (ry p0 2) (cx p1) (cy p1 8)) ++ [(10 : Int32)])) ++ [(10 : Int32)]) : List Int32).length))]) rfl ?_
      refine p_aload B136 at_248 rfl rfl rfl ?_
      refine r_alen B136 at_250 rfl (aH (i := 1) rfl) (z := (Int32.ofNat (u8L (((([] : List Int32) ++ (stB (ry p0 2) (cx p1) (cy p1 8))) ++ [(10 : Int32)]) ++ [(10 : Int32)])).length)) (by rw [List.length_map]) ?_
      refine p_iload B136 at_251 rfl rfl ?_
      refine b_icT B136 at_253 (pc' := 258) (congrArg Int32.ofNat hlen) (by decide) (by decide) ?_
      have B137 : RH g D0 M T135 ((r, .inr (.byte, "[B", ((u8L (((([] : List Int32) ++ (stB (ry p0 2) (cx p1) (cy p1 8))) ++ [(10 : Int32)]) ++ [(10 : Int32)])).map Value.int))) :: ((a108, .inr (.int, "[I", (exv (([] ++ ((pl (ry p0 2) (cx p1) (cy p1 8)) ++ [(10 : Int32)])) ++ [(10 : Int32)])))) :: (AL g a9 b91 [s0] ++ []))) [(s1, sb1, 0, (stB (ry p0 4) (cx p2) (cy p2 8)).map Value.int), (s0, sb0, 0, (stB (ry p0 2) (cx p1) (cy p1 8)).map Value.int)] 19 161 := B136.front (i := 1) rfl rfl
      refine p_aload B137 at_258 rfl rfl rfl ?_
      refine p_aload B137 at_260 rfl rfl rfl ?_
      refine p_iconst B137 at_262 rfl (v := (0 : Int32)) (by decide) ?_
      refine r_static (D' := D40_w) B137 at_263 rfl (W260 B137.gw) (W261 B137.gw) (W2 B137.gw) (W262 B137.gw) (by decide) (k_sm W 0 hm (by simp only [List.length_append, List.length_cons, List.length_nil]; omega) (by decide)) (argsL := [(.ref r), (.ref a108), (.int 0)]) (rest := []) rfl pd54 rfl rfl rfl (W := 0) rfl (cs' := 19) (ss' := 161) (by decide) (Kv1 fun T138 B140 => ?_)
      refine b_ifF B140 at_266 (pc' := 269) rfl (show ¬ (1 : Int32) = (0 : Int32) from by decide) ?_
      refine p_aload B140 at_269 rfl rfl rfl ?_
      refine p_aload B140 at_271 rfl rfl rfl ?_
      refine p_iconst B140 at_273 rfl (v := (1 : Int32)) (by decide) ?_
      refine r_static (D' := D40_w) B140 at_274 rfl (W260 B140.gw) (W261 B140.gw) (W2 B140.gw) (W262 B140.gw) (by decide) (k_sm W 1 hm (by simp only [List.length_append, List.length_cons, List.length_nil]; omega) (by decide)) (argsL := [(.ref r), (.ref a108), (.int 1)]) (rest := []) rfl pd54 rfl rfl rfl (W := 0) rfl (cs' := 19) (ss' := 161) (by decide) (Kv1 fun T141 B143 => ?_)
      refine b_ifF B143 at_277 (pc' := 280) rfl (show ¬ (1 : Int32) = (0 : Int32) from by decide) ?_
      refine p_aload B143 at_280 rfl rfl rfl ?_
      refine p_aload B143 at_282 rfl rfl rfl ?_
      refine p_iconst B143 at_284 rfl (v := (2 : Int32)) (by decide) ?_
      refine r_static (D' := D40_w) B143 at_285 rfl (W260 B143.gw) (W261 B143.gw) (W2 B143.gw) (W262 B143.gw) (by decide) (k_sm W 2 hm (by simp only [List.length_append, List.length_cons, List.length_nil]; omega) (by decide)) (argsL := [(.ref r), (.ref a108), (.int 2)]) (rest := []) rfl pd54 rfl rfl rfl (W := 0) rfl (cs' := 19) (ss' := 161) (by decide) (Kv1 fun T144 B146 => ?_)
      refine b_ifF B146 at_288 (pc' := 291) rfl (show ¬ (1 : Int32) = (0 : Int32) from by decide) ?_
      refine p_aload B146 at_291 rfl rfl rfl ?_
      refine p_aload B146 at_293 rfl rfl rfl ?_
      refine p_iconst B146 at_295 rfl (v := (3 : Int32)) (by decide) ?_
      refine r_static (D' := D40_w) B146 at_296 rfl (W260 B146.gw) (W261 B146.gw) (W2 B146.gw) (W262 B146.gw) (by decide) (k_sm W 3 hm (by simp only [List.length_append, List.length_cons, List.length_nil]; omega) (by decide)) (argsL := [(.ref r), (.ref a108), (.int 3)]) (rest := []) rfl pd54 rfl rfl rfl (W := 0) rfl (cs' := 19) (ss' := 161) (by decide) (Kv1 fun T147 B149 => ?_)
      refine b_ifF B149 at_299 (pc' := 302) rfl (show ¬ (1 : Int32) = (0 : Int32) from by decide) ?_
      refine p_aload B149 at_302 rfl rfl rfl ?_
      refine p_aload B149 at_304 rfl rfl rfl ?_
      refine p_iconst B149 at_306 rfl (v := (4 : Int32)) (by decide) ?_
      refine r_static (D' := D40_w) B149 at_307 rfl (W260 B149.gw) (W261 B149.gw) (W2 B149.gw) (W262 B149.gw) (by decide) (k_sm W 4 hm (by simp only [List.length_append, List.length_cons, List.length_nil]; omega) (by decide)) (argsL := [(.ref r), (.ref a108), (.int 4)]) (rest := []) rfl pd54 rfl rfl rfl (W := 0) rfl (cs' := 19) (ss' := 161) (by decide) (Kv1 fun T150 B152 => ?_)
      refine b_ifF B152 at_310 (pc' := 313) rfl (show ¬ (1 : Int32) = (0 : Int32) from by decide) ?_
      refine p_aload B152 at_313 rfl rfl rfl ?_
      refine p_aload B152 at_315 rfl rfl rfl ?_
      refine p_iconst B152 at_317 rfl (v := (5 : Int32)) (by decide) ?_
      refine r_static (D' := D40_w) B152 at_318 rfl (W260 B152.gw) (W261 B152.gw) (W2 B152.gw) (W262 B152.gw) (by decide) (k_sm W 5 hm (by simp only [List.length_append, List.length_cons, List.length_nil]; omega) (by decide)) (argsL := [(.ref r), (.ref a108), (.int 5)]) (rest := []) rfl pd54 rfl rfl rfl (W := 0) rfl (cs' := 19) (ss' := 161) (by decide) (Kv1 fun T153 B155 => ?_)
      refine b_ifF B155 at_321 (pc' := 324) rfl (show ¬ (1 : Int32) = (0 : Int32) from by decide) ?_
      refine p_aload B155 at_324 rfl rfl rfl ?_
      refine p_aload B155 at_326 rfl rfl rfl ?_
      refine p_bipush B155 at_328 rfl (v := (6 : Int32)) (by decide) ?_
      refine r_static (D' := D40_w) B155 at_330 rfl (W260 B155.gw) (W261 B155.gw) (W2 B155.gw) (W262 B155.gw) (by decide) (k_sm W 6 hm (by simp only [List.length_append, List.length_cons, List.length_nil]; omega) (by decide)) (argsL := [(.ref r), (.ref a108), (.int 6)]) (rest := []) rfl pd54 rfl rfl rfl (W := 0) rfl (cs' := 19) (ss' := 161) (by decide) (Kv1 fun T156 B158 => ?_)
      refine b_ifF B158 at_333 (pc' := 336) rfl (show ¬ (1 : Int32) = (0 : Int32) from by decide) ?_
      refine p_aload B158 at_336 rfl rfl rfl ?_
      refine p_aload B158 at_338 rfl rfl rfl ?_
      refine p_bipush B158 at_340 rfl (v := (7 : Int32)) (by decide) ?_
      refine r_static (D' := D40_w) B158 at_342 rfl (W260 B158.gw) (W261 B158.gw) (W2 B158.gw) (W262 B158.gw) (by decide) (k_sm W 7 hm (by simp only [List.length_append, List.length_cons, List.length_nil]; omega) (by decide)) (argsL := [(.ref r), (.ref a108), (.int 7)]) (rest := []) rfl pd54 rfl rfl rfl (W := 0) rfl (cs' := 19) (ss' := 161) (by decide) (Kv1 fun T159 B161 => ?_)
      refine b_ifF B161 at_345 (pc' := 348) rfl (show ¬ (1 : Int32) = (0 : Int32) from by decide) ?_
      refine p_aload B161 at_348 rfl rfl rfl ?_
      refine p_aload B161 at_350 rfl rfl rfl ?_
      refine p_bipush B161 at_352 rfl (v := (8 : Int32)) (by decide) ?_
      refine r_static (D' := D40_w) B161 at_354 rfl (W260 B161.gw) (W261 B161.gw) (W2 B161.gw) (W262 B161.gw) (by decide) (k_sm W 8 hm (by simp only [List.length_append, List.length_cons, List.length_nil]; omega) (by decide)) (argsL := [(.ref r), (.ref a108), (.int 8)]) (rest := []) rfl pd54 rfl rfl rfl (W := 0) rfl (cs' := 19) (ss' := 161) (by decide) (Kv1 fun T162 B164 => ?_)
      refine b_ifF B164 at_357 (pc' := 360) rfl (show ¬ (1 : Int32) = (0 : Int32) from by decide) ?_
      refine p_aload B164 at_360 rfl rfl rfl ?_
      refine p_aload B164 at_362 rfl rfl rfl ?_
      refine p_bipush B164 at_364 rfl (v := (9 : Int32)) (by decide) ?_
      refine r_static (D' := D40_w) B164 at_366 rfl (W260 B164.gw) (W261 B164.gw) (W2 B164.gw) (W262 B164.gw) (by decide) (k_sm W 9 hm (by simp only [List.length_append, List.length_cons, List.length_nil]; omega) (by decide)) (argsL := [(.ref r), (.ref a108), (.int 9)]) (rest := []) rfl pd54 rfl rfl rfl (W := 0) rfl (cs' := 19) (ss' := 161) (by decide) (Kv1 fun T165 B167 => ?_)
      refine b_ifF B167 at_369 (pc' := 372) rfl (show ¬ (1 : Int32) = (0 : Int32) from by decide) ?_
      refine p_aload B167 at_372 rfl rfl rfl ?_
      refine p_aload B167 at_374 rfl rfl rfl ?_
      refine p_bipush B167 at_376 rfl (v := (10 : Int32)) (by decide) ?_
      refine r_static (D' := D40_w) B167 at_378 rfl (W260 B167.gw) (W261 B167.gw) (W2 B167.gw) (W262 B167.gw) (by decide) (k_sm W 10 hm (by simp only [List.length_append, List.length_cons, List.length_nil]; omega) (by decide)) (argsL := [(.ref r), (.ref a108), (.int 10)]) (rest := []) rfl pd54 rfl rfl rfl (W := 0) rfl (cs' := 19) (ss' := 161) (by decide) (Kv1 fun T168 B170 => ?_)
      refine b_ifF B170 at_381 (pc' := 384) rfl (show ¬ (1 : Int32) = (0 : Int32) from by decide) ?_
      refine p_iconst B170 at_384 rfl (v := (1 : Int32)) (by decide) ?_
      refine b_goto B170 at_385 (pc' := 389) (by decide) (by decide) ?_
      exact r_reti B170 at_389 rfl (by simp) rfl (by decide) (by decide) (fun vm h P => rfl)
    · refine b_icF B92 at_108 (pc' := 111) rfl hk1 ?_
      refine p_aload B92 at_111 rfl rfl rfl ?_
      refine p_aload B92 at_113 rfl rfl rfl ?_
      refine r_virtual (D' := D41_w) B92 at_115 rfl (W263 B92.gw) (W264 B92.gw) (W266 B92.gw) (fun vm0 hZ => notFace_of_selects (args := #[]) (mvT hZ (W266 B92.gw))) (W265 B92.gw) (W14 B92.gw) (W267 B92.gw) (by decide) (al_exa [s0]) (W_add W a9 b91 s1 [s0] (by simp) _ _ ⟨_, _, _, (List.mem_of_getElem? (i := 0) rfl)⟩) (argsL := [(.ref s1)]) (rest := []) rfl pd55 rfl rfl rfl (W := 0) rfl (cs' := 9) (ss' := 51) (by decide) (Kex fun b174 => Kv1 fun T171 B173 => ?_)
      have B175 : RH g D0 M T171 (AL g a9 b174 [s0, s1] ++ []) [(s1, sb1, 0, (stB (ry p0 4) (cx p2) (cy p2 8)).map Value.int), (s0, sb0, 0, (stB (ry p0 2) (cx p1) (cy p1 8)).map Value.int)] 9 51 := B173
      refine p_pop B175 at_118 rfl rfl ?_
      refine r_new B175 at_119 rfl (W38 B175.gw) (W39 B175.gw) (W40 B175.gw) (Ly_oEV B175.gw) (by decide) (cs' := 10) rfl (ss' := 52) rfl (by decide) (by decide) fun T176 a178 B177 => ?_
      refine p_dup B177 at_122 rfl rfl ?_
      refine p_aload B177 at_123 rfl rfl rfl ?_
      refine r_special (D' := D6_w) B177 at_125 rfl rfl rfl (W41 B177.gw) (W42 B177.gw) (W40 B177.gw) (W43 B177.gw) (by decide) (W_ei W a178 a9 b174 [s0, s1] (by simp) _ _ (List.forall_mem_cons.2 ⟨⟨_, _, _, (List.mem_of_getElem? (i := 1) rfl)⟩, List.forall_mem_cons.2 ⟨⟨_, _, _, (List.mem_of_getElem? (i := 0) rfl)⟩, nofun⟩⟩)) (a := a178) (argsL := [(.ref a9)]) (rest := [(.ref a178)]) rfl pd53 rfl rfl rfl (W := 1) rfl (cs' := 12) (ss' := 56) (by decide) (Kex fun c182 => Kex fun d183 => Kv0 fun T179 B181 => ?_)
      refine p_astore B181 at_128 rfl rfl (Ls' := #[.val (.int p0), .val (.int p1), .val (.int p2), .val (.int (rx p0)), .val (.int (ry p0 2)), .val (.int (ry p0 4)), .val (.int (cx p1)), .val (.int (cy p1 8)), .val (.int (cx p2)), .val (.int (cy p2 8)), .val (.ref s0), .val (.ref s1), .val (.ref a9), .val (.ref a178), .unset, .unset, .unset]) rfl ?_
      refine p_aload B181 at_130 rfl rfl rfl ?_
      have B184 : RH g D0 M T179 (IL g c182 d183 [s0, s1] ++ (oEV a178 (.ref (ilA g c182 [s0, s1])) :: (AL g a9 b174 [s0, s1] ++ []))) [(s1, sb1, 0, (stB (ry p0 4) (cx p2) (cy p2 8)).map Value.int), (s0, sb0, 0, (stB (ry p0 2) (cx p1) (cy p1 8)).map Value.int)] 12 56 := B181.perm (pm2 [oEV a178 (.ref (ilA g c182 [s0, s1]))] (AL g a9 b174 [s0, s1]) (IL g c182 d183 [s0, s1]))
      have B185 : RH g D0 M T179 (oEV a178 (.ref (ilA g c182 [s0, s1])) :: (IL g c182 d183 [s0, s1] ++ (AL g a9 b174 [s0, s1] ++ []))) [(s1, sb1, 0, (stB (ry p0 4) (cx p2) (cy p2 8)).map Value.int), (s0, sb0, 0, (stB (ry p0 2) (cx p1) (cy p1 8)).map Value.int)] 12 56 := B184.perm (pm1 (IL g c182 d183 [s0, s1]) [oEV a178 (.ref (ilA g c182 [s0, s1]))])
      refine r_virtual (D' := D12_w) B185 at_132 rfl (W81 B185.gw) (W82 B185.gw) (W84 B185.gw) (fun vm0 hZ => notFace_of_selects (args := #[]) (mvT hZ (W84 B185.gw))) (W83 B185.gw) (W40 B185.gw) (W85 B185.gw) (by decide) (fE (i := 0) rfl) (c_by2 W a178 c182 d183 s0 s1 _ _ (List.mem_of_getElem? (i := 1) rfl) (stlen _ _ _) (stby _ _ _) (List.mem_of_getElem? (i := 0) rfl) (stlen _ _ _) (stby _ _ _)) (argsL := []) (rest := []) rfl pd29 rfl rfl rfl (W := 0) rfl (cs' := 19) (ss' := 160) (by decide) (Kex fun r => Kv1 fun T186 B188 => ?_)
      refine p_astore B188 at_135 rfl rfl (Ls' := #[.val (.int p0), .val (.int p1), .val (.int p2), .val (.int (rx p0)), .val (.int (ry p0 2)), .val (.int (ry p0 4)), .val (.int (cx p1)), .val (.int (cy p1 8)), .val (.int (cx p2)), .val (.int (cy p2 8)), .val (.ref s0), .val (.ref s1), .val (.ref a9), .val (.ref a178), .val (.ref r), .unset, .unset]) rfl ?_
      refine p_bipush B188 at_137 rfl (v := (11 : Int32)) (by decide) ?_
      refine r_newp B188 at_139 rfl (ty := .int) (W259 B188.gw) rfl (by decide) (nn := 11) (by decide) (cap := 11) (by decide) (by decide) (cs' := 20) rfl (ss' := 171) rfl (by decide) (by decide) (ad := "[I") (by decide) (by decide) nofun (vs := [(.int 0), (.int 0), (.int 0), (.int 0), (.int 0), (.int 0), (.int 0), (.int 0), (.int 0), (.int 0), (.int 0)]) rfl fun T189 a191 B190 => ?_
      refine p_dup B190 at_141 rfl rfl ?_
      refine p_iconst B190 at_142 rfl (v := (0 : Int32)) (by decide) ?_
      refine p_iconst B190 at_143 rfl (v := (-1 : Int32)) (by decide) ?_
      refine r_iastore B190 at_144 rfl (i := 0) rfl (by decide) (k := 0) (by decide) (by simp) (H' := ((a191, .inr (.int, "[I", [(.int (-1 : Int32)), (.int 0), (.int 0), (.int 0), (.int 0), (.int 0), (.int 0), (.int 0), (.int 0), (.int 0), (.int 0)])) :: ((r, .inr (.byte, "[B", ((u8L (((((([] : List Int32) ++ (stB (ry p0 2) (cx p1) (cy p1 8))) ++ [(10 : Int32)]) ++ (stB (ry p0 4) (cx p2) (cy p2 8))) ++ [(10 : Int32)]) ++ [(10 : Int32)])).map Value.int))) :: (AL g a9 b174 [s0, s1] ++ [])))) rfl fun T192 B193 => ?_
      refine p_dup B193 at_145 rfl rfl ?_
      refine p_iconst B193 at_146 rfl (v := (1 : Int32)) (by decide) ?_
      refine p_iconst B193 at_147 rfl (v := (-1 : Int32)) (by decide) ?_
      refine r_iastore B193 at_148 rfl (i := 0) rfl (by decide) (k := 1) (by decide) (by simp) (H' := ((a191, .inr (.int, "[I", [(.int (-1 : Int32)), (.int (-1 : Int32)), (.int 0), (.int 0), (.int 0), (.int 0), (.int 0), (.int 0), (.int 0), (.int 0), (.int 0)])) :: ((r, .inr (.byte, "[B", ((u8L (((((([] : List Int32) ++ (stB (ry p0 2) (cx p1) (cy p1 8))) ++ [(10 : Int32)]) ++ (stB (ry p0 4) (cx p2) (cy p2 8))) ++ [(10 : Int32)]) ++ [(10 : Int32)])).map Value.int))) :: (AL g a9 b174 [s0, s1] ++ [])))) rfl fun T194 B195 => ?_
      refine p_dup B195 at_149 rfl rfl ?_
      refine p_iconst B195 at_150 rfl (v := (2 : Int32)) (by decide) ?_
      refine p_iconst B195 at_151 rfl (v := (-1 : Int32)) (by decide) ?_
      refine r_iastore B195 at_152 rfl (i := 0) rfl (by decide) (k := 2) (by decide) (by simp) (H' := ((a191, .inr (.int, "[I", [(.int (-1 : Int32)), (.int (-1 : Int32)), (.int (-1 : Int32)), (.int 0), (.int 0), (.int 0), (.int 0), (.int 0), (.int 0), (.int 0), (.int 0)])) :: ((r, .inr (.byte, "[B", ((u8L (((((([] : List Int32) ++ (stB (ry p0 2) (cx p1) (cy p1 8))) ++ [(10 : Int32)]) ++ (stB (ry p0 4) (cx p2) (cy p2 8))) ++ [(10 : Int32)]) ++ [(10 : Int32)])).map Value.int))) :: (AL g a9 b174 [s0, s1] ++ [])))) rfl fun T196 B197 => ?_
      refine p_dup B197 at_153 rfl rfl ?_
      refine p_iconst B197 at_154 rfl (v := (3 : Int32)) (by decide) ?_
      refine p_iconst B197 at_155 rfl (v := (-1 : Int32)) (by decide) ?_
      refine r_iastore B197 at_156 rfl (i := 0) rfl (by decide) (k := 3) (by decide) (by simp) (H' := ((a191, .inr (.int, "[I", [(.int (-1 : Int32)), (.int (-1 : Int32)), (.int (-1 : Int32)), (.int (-1 : Int32)), (.int 0), (.int 0), (.int 0), (.int 0), (.int 0), (.int 0), (.int 0)])) :: ((r, .inr (.byte, "[B", ((u8L (((((([] : List Int32) ++ (stB (ry p0 2) (cx p1) (cy p1 8))) ++ [(10 : Int32)]) ++ (stB (ry p0 4) (cx p2) (cy p2 8))) ++ [(10 : Int32)]) ++ [(10 : Int32)])).map Value.int))) :: (AL g a9 b174 [s0, s1] ++ [])))) rfl fun T198 B199 => ?_
      refine p_dup B199 at_157 rfl rfl ?_
      refine p_iconst B199 at_158 rfl (v := (4 : Int32)) (by decide) ?_
      refine p_iconst B199 at_159 rfl (v := (-1 : Int32)) (by decide) ?_
      refine r_iastore B199 at_160 rfl (i := 0) rfl (by decide) (k := 4) (by decide) (by simp) (H' := ((a191, .inr (.int, "[I", [(.int (-1 : Int32)), (.int (-1 : Int32)), (.int (-1 : Int32)), (.int (-1 : Int32)), (.int (-1 : Int32)), (.int 0), (.int 0), (.int 0), (.int 0), (.int 0), (.int 0)])) :: ((r, .inr (.byte, "[B", ((u8L (((((([] : List Int32) ++ (stB (ry p0 2) (cx p1) (cy p1 8))) ++ [(10 : Int32)]) ++ (stB (ry p0 4) (cx p2) (cy p2 8))) ++ [(10 : Int32)]) ++ [(10 : Int32)])).map Value.int))) :: (AL g a9 b174 [s0, s1] ++ [])))) rfl fun T200 B201 => ?_
      refine p_dup B201 at_161 rfl rfl ?_
      refine p_iconst B201 at_162 rfl (v := (5 : Int32)) (by decide) ?_
      refine p_iconst B201 at_163 rfl (v := (-1 : Int32)) (by decide) ?_
      refine r_iastore B201 at_164 rfl (i := 0) rfl (by decide) (k := 5) (by decide) (by simp) (H' := ((a191, .inr (.int, "[I", [(.int (-1 : Int32)), (.int (-1 : Int32)), (.int (-1 : Int32)), (.int (-1 : Int32)), (.int (-1 : Int32)), (.int (-1 : Int32)), (.int 0), (.int 0), (.int 0), (.int 0), (.int 0)])) :: ((r, .inr (.byte, "[B", ((u8L (((((([] : List Int32) ++ (stB (ry p0 2) (cx p1) (cy p1 8))) ++ [(10 : Int32)]) ++ (stB (ry p0 4) (cx p2) (cy p2 8))) ++ [(10 : Int32)]) ++ [(10 : Int32)])).map Value.int))) :: (AL g a9 b174 [s0, s1] ++ [])))) rfl fun T202 B203 => ?_
      refine p_dup B203 at_165 rfl rfl ?_
      refine p_bipush B203 at_166 rfl (v := (6 : Int32)) (by decide) ?_
      refine p_iconst B203 at_168 rfl (v := (-1 : Int32)) (by decide) ?_
      refine r_iastore B203 at_169 rfl (i := 0) rfl (by decide) (k := 6) (by decide) (by simp) (H' := ((a191, .inr (.int, "[I", [(.int (-1 : Int32)), (.int (-1 : Int32)), (.int (-1 : Int32)), (.int (-1 : Int32)), (.int (-1 : Int32)), (.int (-1 : Int32)), (.int (-1 : Int32)), (.int 0), (.int 0), (.int 0), (.int 0)])) :: ((r, .inr (.byte, "[B", ((u8L (((((([] : List Int32) ++ (stB (ry p0 2) (cx p1) (cy p1 8))) ++ [(10 : Int32)]) ++ (stB (ry p0 4) (cx p2) (cy p2 8))) ++ [(10 : Int32)]) ++ [(10 : Int32)])).map Value.int))) :: (AL g a9 b174 [s0, s1] ++ [])))) rfl fun T204 B205 => ?_
      refine p_dup B205 at_170 rfl rfl ?_
      refine p_bipush B205 at_171 rfl (v := (7 : Int32)) (by decide) ?_
      refine p_iconst B205 at_173 rfl (v := (-1 : Int32)) (by decide) ?_
      refine r_iastore B205 at_174 rfl (i := 0) rfl (by decide) (k := 7) (by decide) (by simp) (H' := ((a191, .inr (.int, "[I", [(.int (-1 : Int32)), (.int (-1 : Int32)), (.int (-1 : Int32)), (.int (-1 : Int32)), (.int (-1 : Int32)), (.int (-1 : Int32)), (.int (-1 : Int32)), (.int (-1 : Int32)), (.int 0), (.int 0), (.int 0)])) :: ((r, .inr (.byte, "[B", ((u8L (((((([] : List Int32) ++ (stB (ry p0 2) (cx p1) (cy p1 8))) ++ [(10 : Int32)]) ++ (stB (ry p0 4) (cx p2) (cy p2 8))) ++ [(10 : Int32)]) ++ [(10 : Int32)])).map Value.int))) :: (AL g a9 b174 [s0, s1] ++ [])))) rfl fun T206 B207 => ?_
      refine p_dup B207 at_175 rfl rfl ?_
      refine p_bipush B207 at_176 rfl (v := (8 : Int32)) (by decide) ?_
      refine p_iconst B207 at_178 rfl (v := (-1 : Int32)) (by decide) ?_
      refine r_iastore B207 at_179 rfl (i := 0) rfl (by decide) (k := 8) (by decide) (by simp) (H' := ((a191, .inr (.int, "[I", [(.int (-1 : Int32)), (.int (-1 : Int32)), (.int (-1 : Int32)), (.int (-1 : Int32)), (.int (-1 : Int32)), (.int (-1 : Int32)), (.int (-1 : Int32)), (.int (-1 : Int32)), (.int (-1 : Int32)), (.int 0), (.int 0)])) :: ((r, .inr (.byte, "[B", ((u8L (((((([] : List Int32) ++ (stB (ry p0 2) (cx p1) (cy p1 8))) ++ [(10 : Int32)]) ++ (stB (ry p0 4) (cx p2) (cy p2 8))) ++ [(10 : Int32)]) ++ [(10 : Int32)])).map Value.int))) :: (AL g a9 b174 [s0, s1] ++ [])))) rfl fun T208 B209 => ?_
      refine p_dup B209 at_180 rfl rfl ?_
      refine p_bipush B209 at_181 rfl (v := (9 : Int32)) (by decide) ?_
      refine p_iconst B209 at_183 rfl (v := (-1 : Int32)) (by decide) ?_
      refine r_iastore B209 at_184 rfl (i := 0) rfl (by decide) (k := 9) (by decide) (by simp) (H' := ((a191, .inr (.int, "[I", [(.int (-1 : Int32)), (.int (-1 : Int32)), (.int (-1 : Int32)), (.int (-1 : Int32)), (.int (-1 : Int32)), (.int (-1 : Int32)), (.int (-1 : Int32)), (.int (-1 : Int32)), (.int (-1 : Int32)), (.int (-1 : Int32)), (.int 0)])) :: ((r, .inr (.byte, "[B", ((u8L (((((([] : List Int32) ++ (stB (ry p0 2) (cx p1) (cy p1 8))) ++ [(10 : Int32)]) ++ (stB (ry p0 4) (cx p2) (cy p2 8))) ++ [(10 : Int32)]) ++ [(10 : Int32)])).map Value.int))) :: (AL g a9 b174 [s0, s1] ++ [])))) rfl fun T210 B211 => ?_
      refine p_dup B211 at_185 rfl rfl ?_
      refine p_bipush B211 at_186 rfl (v := (10 : Int32)) (by decide) ?_
      refine p_iconst B211 at_188 rfl (v := (-1 : Int32)) (by decide) ?_
      refine r_iastore B211 at_189 rfl (i := 0) rfl (by decide) (k := 10) (by decide) (by simp) (H' := ((a191, .inr (.int, "[I", [(.int (-1 : Int32)), (.int (-1 : Int32)), (.int (-1 : Int32)), (.int (-1 : Int32)), (.int (-1 : Int32)), (.int (-1 : Int32)), (.int (-1 : Int32)), (.int (-1 : Int32)), (.int (-1 : Int32)), (.int (-1 : Int32)), (.int (-1 : Int32))])) :: ((r, .inr (.byte, "[B", ((u8L (((((([] : List Int32) ++ (stB (ry p0 2) (cx p1) (cy p1 8))) ++ [(10 : Int32)]) ++ (stB (ry p0 4) (cx p2) (cy p2 8))) ++ [(10 : Int32)]) ++ [(10 : Int32)])).map Value.int))) :: (AL g a9 b174 [s0, s1] ++ [])))) rfl fun T212 B213 => ?_
      refine p_astore B213 at_190 rfl rfl (Ls' := #[.val (.int p0), .val (.int p1), .val (.int p2), .val (.int (rx p0)), .val (.int (ry p0 2)), .val (.int (ry p0 4)), .val (.int (cx p1)), .val (.int (cy p1 8)), .val (.int (cx p2)), .val (.int (cy p2 8)), .val (.ref s0), .val (.ref s1), .val (.ref a9), .val (.ref a178), .val (.ref r), .val (.ref a191), .unset]) rfl ?_
      have hg0 := pllen (ry p0 2) (cx p1) (cy p1 8)
      have hg1 := pllen (ry p0 4) (cx p2) (cy p2 8)
      have B214 : RH g D0 M T212 ((a191, .inr (.int, "[I", (exv []))) :: ((r, .inr (.byte, "[B", ((u8L (((((([] : List Int32) ++ (stB (ry p0 2) (cx p1) (cy p1 8))) ++ [(10 : Int32)]) ++ (stB (ry p0 4) (cx p2) (cy p2 8))) ++ [(10 : Int32)]) ++ [(10 : Int32)])).map Value.int))) :: (AL g a9 b174 [s0, s1] ++ []))) [(s1, sb1, 0, (stB (ry p0 4) (cx p2) (cy p2 8)).map Value.int), (s0, sb0, 0, (stB (ry p0 2) (cx p1) (cy p1 8)).map Value.int)] 20 171 := B213
      refine p_iconst B214 at_192 rfl (v := (0 : Int32)) (by decide) ?_
      refine p_istore B214 at_193 rfl (Ls' := #[.val (.int p0), .val (.int p1), .val (.int p2), .val (.int (rx p0)), .val (.int (ry p0 2)), .val (.int (ry p0 4)), .val (.int (cx p1)), .val (.int (cy p1 8)), .val (.int (cx p2)), .val (.int (cy p2 8)), .val (.ref s0), .val (.ref s1), .val (.ref a9), .val (.ref a178), .val (.ref r), .val (.ref a191), .val (.int 0)]) rfl ?_
      refine p_iloadN B214 at_195 rfl rfl ?_
      refine p_iconst B214 at_196 rfl (v := (1 : Int32)) (by decide) ?_
      refine b_icF B214 at_197 (pc' := 200) rfl hk0 ?_
      refine p_aload B214 at_200 rfl rfl rfl ?_
      refine p_iload B214 at_202 rfl rfl ?_
      refine p_iload B214 at_204 rfl rfl ?_
      refine p_iload B214 at_206 rfl rfl ?_
      refine p_iload B214 at_208 rfl rfl ?_
      refine r_static (D' := D62_w) B214 at_210 rfl (W399 B214.gw) (W400 B214.gw) (W2 B214.gw) (W401 B214.gw) (by decide) (k_pl W (enc := []) (by simp only [List.length_append, List.length_cons, List.length_nil]; omega)) (argsL := [(.ref a191), (.int 0), (.int (ry p0 2)), (.int (cx p1)), (.int (cy p1 8))]) (rest := []) rfl pd56 rfl rfl rfl (W := 0) rfl (cs' := 20) (ss' := 171) (by decide) (Kv1 fun T215 B217 => ?_)
      refine p_istore B217 at_213 rfl (Ls' := #[.val (.int p0), .val (.int p1), .val (.int p2), .val (.int (rx p0)), .val (.int (ry p0 2)), .val (.int (ry p0 4)), .val (.int (cx p1)), .val (.int (cy p1 8)), .val (.int (cx p2)), .val (.int (cy p2 8)), .val (.ref s0), .val (.ref s1), .val (.ref a9), .val (.ref a178), .val (.ref r), .val (.ref a191), .val (.int (Int32.ofNat ([] ++ ((pl (ry p0 2) (cx p1) (cy p1 8)) ++ [(10 : Int32)])).length))]) rfl ?_
      refine p_iloadN B217 at_215 rfl rfl ?_
      refine p_iconst B217 at_216 rfl (v := (2 : Int32)) (by decide) ?_
      refine b_icF B217 at_217 (pc' := 220) rfl hk1 ?_
      refine p_aload B217 at_220 rfl rfl rfl ?_
      refine p_iload B217 at_222 rfl rfl ?_
      refine p_iload B217 at_224 rfl rfl ?_
      refine p_iload B217 at_226 rfl rfl ?_
      refine p_iload B217 at_228 rfl rfl ?_
      refine r_static (D' := D62_w) B217 at_230 rfl (W399 B217.gw) (W400 B217.gw) (W2 B217.gw) (W401 B217.gw) (by decide) (k_pl W (enc := ([] ++ ((pl (ry p0 2) (cx p1) (cy p1 8)) ++ [(10 : Int32)]))) (by simp only [List.length_append, List.length_cons, List.length_nil]; omega)) (argsL := [(.ref a191), (.int (Int32.ofNat ([] ++ ((pl (ry p0 2) (cx p1) (cy p1 8)) ++ [(10 : Int32)])).length)), (.int (ry p0 4)), (.int (cx p2)), (.int (cy p2 8))]) (rest := []) rfl pd56 rfl rfl rfl (W := 0) rfl (cs' := 20) (ss' := 171) (by decide) (Kv1 fun T218 B220 => ?_)
      refine p_istore B220 at_233 rfl (Ls' := #[.val (.int p0), .val (.int p1), .val (.int p2), .val (.int (rx p0)), .val (.int (ry p0 2)), .val (.int (ry p0 4)), .val (.int (cx p1)), .val (.int (cy p1 8)), .val (.int (cx p2)), .val (.int (cy p2 8)), .val (.ref s0), .val (.ref s1), .val (.ref a9), .val (.ref a178), .val (.ref r), .val (.ref a191), .val (.int (Int32.ofNat (([] ++ ((pl (ry p0 2) (cx p1) (cy p1 8)) ++ [(10 : Int32)])) ++ ((pl (ry p0 4) (cx p2) (cy p2 8)) ++ [(10 : Int32)])).length))]) rfl ?_
      refine p_aload B220 at_235 rfl rfl rfl ?_
      refine p_iload B220 at_237 rfl rfl ?_
      refine p_bipush B220 at_239 rfl (v := (10 : Int32)) (by decide) ?_
      refine r_iastore B220 at_241 rfl (i := 0) rfl (n31 (by simp only [List.length_append, List.length_cons, List.length_nil]; omega)) (k := ((([] ++ ((pl (ry p0 2) (cx p1) (cy p1 8)) ++ [(10 : Int32)])) ++ ((pl (ry p0 4) (cx p2) (cy p2 8)) ++ [(10 : Int32)])) : List Int32).length) (n31c (by simp only [List.length_append, List.length_cons, List.length_nil]; omega)) (by rw [exl (by first | omega | (simp only [List.length_append, List.length_cons, List.length_nil]; omega))]; first | omega | (simp only [List.length_append, List.length_cons, List.length_nil]; omega)) (H' := ((a191, .inr (.int, "[I", (exv ((([] ++ ((pl (ry p0 2) (cx p1) (cy p1 8)) ++ [(10 : Int32)])) ++ ((pl (ry p0 4) (cx p2) (cy p2 8)) ++ [(10 : Int32)])) ++ [(10 : Int32)])))) :: ((r, .inr (.byte, "[B", ((u8L (((((([] : List Int32) ++ (stB (ry p0 2) (cx p1) (cy p1 8))) ++ [(10 : Int32)]) ++ (stB (ry p0 4) (cx p2) (cy p2 8))) ++ [(10 : Int32)]) ++ [(10 : Int32)])).map Value.int))) :: (AL g a9 b174 [s0, s1] ++ [])))) (by rw [exs (by first | omega | (simp only [List.length_append, List.length_cons, List.length_nil]; omega))]; rfl) fun T221 B222 => ?_
      refine p_iload B222 at_242 rfl rfl ?_
      refine p_iconst B222 at_244 rfl (v := (1 : Int32)) (by decide) ?_
      refine p_iadd B222 at_245 rfl (z := (Int32.ofNat (((([] ++ ((pl (ry p0 2) (cx p1) (cy p1 8)) ++ [(10 : Int32)])) ++ ((pl (ry p0 4) (cx p2) (cy p2 8)) ++ [(10 : Int32)])) ++ [(10 : Int32)]) : List Int32).length)) (by exact lenS) ?_
      have hm : (u8L (((((([] : List Int32) ++ (stB (ry p0 2) (cx p1) (cy p1 8))) ++ [(10 : Int32)]) ++ (stB (ry p0 4) (cx p2) (cy p2 8))) ++ [(10 : Int32)]) ++ [(10 : Int32)])).map lo = ((([] ++ ((pl (ry p0 2) (cx p1) (cy p1 8)) ++ [(10 : Int32)])) ++ ((pl (ry p0 4) (cx p2) (cy p2 8)) ++ [(10 : Int32)])) ++ [(10 : Int32)]) := by
        simp only [u8L_app, List.map_append, ten, stpl (rem3 _) (le255 _) (ge0 _) (le255 _) (ge0 _), List.nil_append, List.append_assoc]
        try rfl
      have hlen : (u8L (((((([] : List Int32) ++ (stB (ry p0 2) (cx p1) (cy p1 8))) ++ [(10 : Int32)]) ++ (stB (ry p0 4) (cx p2) (cy p2 8))) ++ [(10 : Int32)]) ++ [(10 : Int32)])).length = (((([] ++ ((pl (ry p0 2) (cx p1) (cy p1 8)) ++ [(10 : Int32)])) ++ ((pl (ry p0 4) (cx p2) (cy p2 8)) ++ [(10 : Int32)])) ++ [(10 : Int32)]) : List Int32).length := by
        have q := congrArg List.length hm
        rw [List.length_map] at q
        exact q
      refine p_istore B222 at_246 rfl (Ls' := #[.val (.int p0), .val (.int p1), .val (.int p2), .val (.int (rx p0)), .val (.int (ry p0 2)), .val (.int (ry p0 4)), .val (.int (cx p1)), .val (.int (cy p1 8)), .val (.int (cx p2)), .val (.int (cy p2 8)), .val (.ref s0), .val (.ref s1), .val (.ref a9), .val (.ref a178), .val (.ref r), .val (.ref a191), .val (.int (Int32.ofNat (((([] ++ ((pl (ry p0 2) (cx p1) (cy p1 8)) ++ [(10 : Int32)])) ++ ((pl (ry p0 4) (cx p2) (cy p2 8)) ++ [(10 : Int32)])) ++ [(10 : Int32)]) : List Int32).length))]) rfl ?_
      refine p_aload B222 at_248 rfl rfl rfl ?_
      refine r_alen B222 at_250 rfl (aH (i := 1) rfl) (z := (Int32.ofNat (u8L (((((([] : List Int32) ++ (stB (ry p0 2) (cx p1) (cy p1 8))) ++ [(10 : Int32)]) ++ (stB (ry p0 4) (cx p2) (cy p2 8))) ++ [(10 : Int32)]) ++ [(10 : Int32)])).length)) (by rw [List.length_map]) ?_
      refine p_iload B222 at_251 rfl rfl ?_
      refine b_icT B222 at_253 (pc' := 258) (congrArg Int32.ofNat hlen) (by decide) (by decide) ?_
      have B223 : RH g D0 M T221 ((r, .inr (.byte, "[B", ((u8L (((((([] : List Int32) ++ (stB (ry p0 2) (cx p1) (cy p1 8))) ++ [(10 : Int32)]) ++ (stB (ry p0 4) (cx p2) (cy p2 8))) ++ [(10 : Int32)]) ++ [(10 : Int32)])).map Value.int))) :: ((a191, .inr (.int, "[I", (exv ((([] ++ ((pl (ry p0 2) (cx p1) (cy p1 8)) ++ [(10 : Int32)])) ++ ((pl (ry p0 4) (cx p2) (cy p2 8)) ++ [(10 : Int32)])) ++ [(10 : Int32)])))) :: (AL g a9 b174 [s0, s1] ++ []))) [(s1, sb1, 0, (stB (ry p0 4) (cx p2) (cy p2 8)).map Value.int), (s0, sb0, 0, (stB (ry p0 2) (cx p1) (cy p1 8)).map Value.int)] 20 171 := B222.front (i := 1) rfl rfl
      refine p_aload B223 at_258 rfl rfl rfl ?_
      refine p_aload B223 at_260 rfl rfl rfl ?_
      refine p_iconst B223 at_262 rfl (v := (0 : Int32)) (by decide) ?_
      refine r_static (D' := D40_w) B223 at_263 rfl (W260 B223.gw) (W261 B223.gw) (W2 B223.gw) (W262 B223.gw) (by decide) (k_sm W 0 hm (by simp only [List.length_append, List.length_cons, List.length_nil]; omega) (by decide)) (argsL := [(.ref r), (.ref a191), (.int 0)]) (rest := []) rfl pd54 rfl rfl rfl (W := 0) rfl (cs' := 20) (ss' := 171) (by decide) (Kv1 fun T224 B226 => ?_)
      refine b_ifF B226 at_266 (pc' := 269) rfl (show ¬ (1 : Int32) = (0 : Int32) from by decide) ?_
      refine p_aload B226 at_269 rfl rfl rfl ?_
      refine p_aload B226 at_271 rfl rfl rfl ?_
      refine p_iconst B226 at_273 rfl (v := (1 : Int32)) (by decide) ?_
      refine r_static (D' := D40_w) B226 at_274 rfl (W260 B226.gw) (W261 B226.gw) (W2 B226.gw) (W262 B226.gw) (by decide) (k_sm W 1 hm (by simp only [List.length_append, List.length_cons, List.length_nil]; omega) (by decide)) (argsL := [(.ref r), (.ref a191), (.int 1)]) (rest := []) rfl pd54 rfl rfl rfl (W := 0) rfl (cs' := 20) (ss' := 171) (by decide) (Kv1 fun T227 B229 => ?_)
      refine b_ifF B229 at_277 (pc' := 280) rfl (show ¬ (1 : Int32) = (0 : Int32) from by decide) ?_
      refine p_aload B229 at_280 rfl rfl rfl ?_
      refine p_aload B229 at_282 rfl rfl rfl ?_
      refine p_iconst B229 at_284 rfl (v := (2 : Int32)) (by decide) ?_
      refine r_static (D' := D40_w) B229 at_285 rfl (W260 B229.gw) (W261 B229.gw) (W2 B229.gw) (W262 B229.gw) (by decide) (k_sm W 2 hm (by simp only [List.length_append, List.length_cons, List.length_nil]; omega) (by decide)) (argsL := [(.ref r), (.ref a191), (.int 2)]) (rest := []) rfl pd54 rfl rfl rfl (W := 0) rfl (cs' := 20) (ss' := 171) (by decide) (Kv1 fun T230 B232 => ?_)
      refine b_ifF B232 at_288 (pc' := 291) rfl (show ¬ (1 : Int32) = (0 : Int32) from by decide) ?_
      refine p_aload B232 at_291 rfl rfl rfl ?_
      refine p_aload B232 at_293 rfl rfl rfl ?_
      refine p_iconst B232 at_295 rfl (v := (3 : Int32)) (by decide) ?_
      refine r_static (D' := D40_w) B232 at_296 rfl (W260 B232.gw) (W261 B232.gw) (W2 B232.gw) (W262 B232.gw) (by decide) (k_sm W 3 hm (by simp only [List.length_append, List.length_cons, List.length_nil]; omega) (by decide)) (argsL := [(.ref r), (.ref a191), (.int 3)]) (rest := []) rfl pd54 rfl rfl rfl (W := 0) rfl (cs' := 20) (ss' := 171) (by decide) (Kv1 fun T233 B235 => ?_)
      refine b_ifF B235 at_299 (pc' := 302) rfl (show ¬ (1 : Int32) = (0 : Int32) from by decide) ?_
      refine p_aload B235 at_302 rfl rfl rfl ?_
      refine p_aload B235 at_304 rfl rfl rfl ?_
      refine p_iconst B235 at_306 rfl (v := (4 : Int32)) (by decide) ?_
      refine r_static (D' := D40_w) B235 at_307 rfl (W260 B235.gw) (W261 B235.gw) (W2 B235.gw) (W262 B235.gw) (by decide) (k_sm W 4 hm (by simp only [List.length_append, List.length_cons, List.length_nil]; omega) (by decide)) (argsL := [(.ref r), (.ref a191), (.int 4)]) (rest := []) rfl pd54 rfl rfl rfl (W := 0) rfl (cs' := 20) (ss' := 171) (by decide) (Kv1 fun T236 B238 => ?_)
      refine b_ifF B238 at_310 (pc' := 313) rfl (show ¬ (1 : Int32) = (0 : Int32) from by decide) ?_
      refine p_aload B238 at_313 rfl rfl rfl ?_
      refine p_aload B238 at_315 rfl rfl rfl ?_
      refine p_iconst B238 at_317 rfl (v := (5 : Int32)) (by decide) ?_
      refine r_static (D' := D40_w) B238 at_318 rfl (W260 B238.gw) (W261 B238.gw) (W2 B238.gw) (W262 B238.gw) (by decide) (k_sm W 5 hm (by simp only [List.length_append, List.length_cons, List.length_nil]; omega) (by decide)) (argsL := [(.ref r), (.ref a191), (.int 5)]) (rest := []) rfl pd54 rfl rfl rfl (W := 0) rfl (cs' := 20) (ss' := 171) (by decide) (Kv1 fun T239 B241 => ?_)
      refine b_ifF B241 at_321 (pc' := 324) rfl (show ¬ (1 : Int32) = (0 : Int32) from by decide) ?_
      refine p_aload B241 at_324 rfl rfl rfl ?_
      refine p_aload B241 at_326 rfl rfl rfl ?_
      refine p_bipush B241 at_328 rfl (v := (6 : Int32)) (by decide) ?_
      refine r_static (D' := D40_w) B241 at_330 rfl (W260 B241.gw) (W261 B241.gw) (W2 B241.gw) (W262 B241.gw) (by decide) (k_sm W 6 hm (by simp only [List.length_append, List.length_cons, List.length_nil]; omega) (by decide)) (argsL := [(.ref r), (.ref a191), (.int 6)]) (rest := []) rfl pd54 rfl rfl rfl (W := 0) rfl (cs' := 20) (ss' := 171) (by decide) (Kv1 fun T242 B244 => ?_)
      refine b_ifF B244 at_333 (pc' := 336) rfl (show ¬ (1 : Int32) = (0 : Int32) from by decide) ?_
      refine p_aload B244 at_336 rfl rfl rfl ?_
      refine p_aload B244 at_338 rfl rfl rfl ?_
      refine p_bipush B244 at_340 rfl (v := (7 : Int32)) (by decide) ?_
      refine r_static (D' := D40_w) B244 at_342 rfl (W260 B244.gw) (W261 B244.gw) (W2 B244.gw) (W262 B244.gw) (by decide) (k_sm W 7 hm (by simp only [List.length_append, List.length_cons, List.length_nil]; omega) (by decide)) (argsL := [(.ref r), (.ref a191), (.int 7)]) (rest := []) rfl pd54 rfl rfl rfl (W := 0) rfl (cs' := 20) (ss' := 171) (by decide) (Kv1 fun T245 B247 => ?_)
      refine b_ifF B247 at_345 (pc' := 348) rfl (show ¬ (1 : Int32) = (0 : Int32) from by decide) ?_
      refine p_aload B247 at_348 rfl rfl rfl ?_
      refine p_aload B247 at_350 rfl rfl rfl ?_
      refine p_bipush B247 at_352 rfl (v := (8 : Int32)) (by decide) ?_
      refine r_static (D' := D40_w) B247 at_354 rfl (W260 B247.gw) (W261 B247.gw) (W2 B247.gw) (W262 B247.gw) (by decide) (k_sm W 8 hm (by simp only [List.length_append, List.length_cons, List.length_nil]; omega) (by decide)) (argsL := [(.ref r), (.ref a191), (.int 8)]) (rest := []) rfl pd54 rfl rfl rfl (W := 0) rfl (cs' := 20) (ss' := 171) (by decide) (Kv1 fun T248 B250 => ?_)
      refine b_ifF B250 at_357 (pc' := 360) rfl (show ¬ (1 : Int32) = (0 : Int32) from by decide) ?_
      refine p_aload B250 at_360 rfl rfl rfl ?_
      refine p_aload B250 at_362 rfl rfl rfl ?_
      refine p_bipush B250 at_364 rfl (v := (9 : Int32)) (by decide) ?_
      refine r_static (D' := D40_w) B250 at_366 rfl (W260 B250.gw) (W261 B250.gw) (W2 B250.gw) (W262 B250.gw) (by decide) (k_sm W 9 hm (by simp only [List.length_append, List.length_cons, List.length_nil]; omega) (by decide)) (argsL := [(.ref r), (.ref a191), (.int 9)]) (rest := []) rfl pd54 rfl rfl rfl (W := 0) rfl (cs' := 20) (ss' := 171) (by decide) (Kv1 fun T251 B253 => ?_)
      refine b_ifF B253 at_369 (pc' := 372) rfl (show ¬ (1 : Int32) = (0 : Int32) from by decide) ?_
      refine p_aload B253 at_372 rfl rfl rfl ?_
      refine p_aload B253 at_374 rfl rfl rfl ?_
      refine p_bipush B253 at_376 rfl (v := (10 : Int32)) (by decide) ?_
      refine r_static (D' := D40_w) B253 at_378 rfl (W260 B253.gw) (W261 B253.gw) (W2 B253.gw) (W262 B253.gw) (by decide) (k_sm W 10 hm (by simp only [List.length_append, List.length_cons, List.length_nil]; omega) (by decide)) (argsL := [(.ref r), (.ref a191), (.int 10)]) (rest := []) rfl pd54 rfl rfl rfl (W := 0) rfl (cs' := 20) (ss' := 171) (by decide) (Kv1 fun T254 B256 => ?_)
      refine b_ifF B256 at_381 (pc' := 384) rfl (show ¬ (1 : Int32) = (0 : Int32) from by decide) ?_
      refine p_iconst B256 at_384 rfl (v := (1 : Int32)) (by decide) ?_
      refine b_goto B256 at_385 (pc' := 389) (by decide) (by decide) ?_
      exact r_reti B256 at_389 rfl (by simp) rfl (by decide) (by decide) (fun vm h P => rfl)
theorem comes_1 {Post : Tables → Env → Array Value → State → Outcome → State → Prop} (hpost : ∀ tb e args s v u, (limb_1_1.after args s (.returned v) u = true ∧ limb_1_2.after args s (.returned v) u = true ∧ True) → FramedW s (.returned v) u (Jvm.fieldLocs frame_1_writes args s ++ Jvm.arrayLocs frame_1_arrays args s ++ Jvm.staticLocs frame_1_statics s) 48 1344 → Post tb e args s (.returned v) u) :
    ArmFor flags0 classFile x code maxLocals ret World_1 tables_1 room_1 Calls_1 rest_1 Pre_1 Post := by
  intro l hfl _ _ p e ha hc hk s m args below hf hA hF happ hP
  obtain ⟨hcalls, hrest, hpre⟩ := hP
  obtain ⟨-, -, -, hnamed, -, -, -, hat⟩ := (Spec.applies_iff hf).mp happ
  obtain ⟨hg, hn⟩ := and_e (Cond.before_iff.mp (show (Jvm.Cond.and given_1 narrow_1).before args s = true from hpre))
  obtain ⟨q0, r0⟩ := and_e hg
  obtain ⟨q1, r1⟩ := and_e r0
  obtain ⟨q2, r2⟩ := and_e r1
  obtain ⟨w0, w1, w2, rfl⟩ : ∃ w0 w1 w2 : Value, args = #[w0, w1, w2] := by
    have hs : args.size = 3 := by simpa [Cond.value, given_1] using q0
    obtain ⟨L⟩ := args
    match L, hs with
    | [w0, w1, w2], _ => exact ⟨w0, w1, w2, rfl⟩
  have hw := fun d (hd : d ∈ tables_1) => atoms_spec (ws := Jvm.Cond.code x code maxLocals ret :: tables_1) hat d (List.mem_cons_of_mem _ hd)
  have hfit : Fit s := fun {y c} hc i hi => by
    obtain ⟨ha, rfl⟩ := Array.getElem?_eq_some_iff.mp hc
    have q := List.all_eq_true.mp ((Array.all_eq_true_iff_forall_mem.mp hF) _ (Array.getElem_mem ha)) i (List.mem_range.mpr hi)
    simpa [Array.getElem?_eq_getElem hi] using q
  obtain ⟨hsets, -⟩ := atoms_of _ (rest_1_c_eq ▸ (show rest_1_c.before _ s = true from hrest))
  obtain ⟨i0, ei0⟩ := is_v q1
  obtain rfl : w0 = (.int i0) := Option.some.inj ei0
  obtain ⟨i1, ei1⟩ := is_v q2
  obtain rfl : w1 = (.int i1) := Option.some.inj ei1
  obtain ⟨i2, ei2⟩ := is_v r2
  obtain rfl : w2 = (.int i2) := Option.some.inj ei2
  have hEW : EW s #[(.int i0), (.int i1), (.int i2)] consts_1 := EW.cons (hw _ (List.mem_of_getElem? (i := 4) rfl)) (by decide) (EW.nil)
  have hcw : Jvm.Lit.compactW.before #[(.int i0), (.int i1), (.int i2)] s = true := hsets _ (List.mem_of_getElem? (i := 18) rfl)
  have hCH : CHv s consts_1 s.vm s.heap := CHv.start hEW (fun p hp => hcalls.2.1 p hp) hcw (hw _ (List.mem_of_getElem? (i := 7) rfl)) (hw _ (List.mem_of_getElem? (i := 6) rfl))
  have W : GW (l, s, #[(.int i0), (.int i1), (.int i2)], consts_1) := ⟨hw, hEW, hsets, hfit, rfl, (let ⟨c, k, m, a1, a2, a3, _⟩ := hcalls.1; ⟨c, k, m, a1, a2, a3⟩)⟩
  obtain ⟨n, o, h1, h2, h3, _, L, rfl, rfl, N, hr⟩ := k_law W i0 i1 i2 p e ha hc hk s m _ below hf ((Spec.applies_iff_loose hf).mp happ).1 ⟨rfl, State.Warmed39.refl s, hCH, ext_rfl _, Hp.nil⟩ trivial
  exact ⟨n, _, h1, h2, h3, hpost _ _ _ _ _ _ ⟨Cond.after_iff.mpr rfl, Cond.after_iff.mpr (eq_i res_at (Term.int_eval (1)) rfl), trivial⟩ ⟨hr.2.2.1, hr.2.2.2.1, hr.2.2.2.2.1, (hr.2.2.2.2.2.sift fun y hy => Or.inr (N y hy)).mono (by decide) (by decide)⟩⟩
theorem main_1_1 : Claimed_1_1 := comes_1 fun _ _ _ _ _ _ h hF => ⟨h.1, hF⟩
theorem main_1_2 : Claimed_1_2 := comes_1 fun _ _ _ _ _ _ h hF => ⟨h.2.1, hF⟩
end Jvm.Pilot.@@N@@
namespace Jvm.Pilot.@@N@@
open Jvm Jvm.ClassFile Sem Op Lib Jvm.Free Jvm.Stand Jvm.Pilot.@@N@@.Jvm.D
/-! MADE BY PROGRAM (witnessworld.py) out of the Statement's table words and the real class files: 52 classes; the members and pool entries that the words name. The judged class is class 1, her method 1. -/
namespace start1
open Jvm.ClassFile
def u (s : String) : CpInfo := .utf8 (stringToUtf16 s)
/-- a pool by its gaps: so many unusable entries, then the entry; so many at the end -/
def gap : Nat → List CpInfo → List CpInfo
  | 0, r => r
  | n + 1, r => .unusable :: gap n r
def poolList (es : List (Nat × CpInfo)) (last : Nat) : List CpInfo := es.foldr (fun e r => gap e.1 (e.2 :: r)) (gap last [])
def pool (es : List (Nat × CpInfo)) (last : Nat) : Array CpInfo := ⟨poolList es last⟩
def fileOf (pool : Array CpInfo) (this : Nat) (attrs : Array Attribute := #[]) (ms : Array MethodInfo := #[]) (fl : Nat := 33) (sup : Nat := 0) (ifs : Array Nat := #[]) (fds : Array FieldInfo := #[]) : ClassFile where
  minorVersion := 0
  majorVersion := 65
  constantPool := pool
  accessFlags := fl
  thisClass := this
  superClass := sup
  interfaces := ifs
  fields := fds
  methods := ms
  attributes := attrs
def plain (name : String) (sup : Option ClassId) : Class where
  name := name
  kind := .ordinary
  loader := none
  accessFlags := 33
  super := sup
  interfaces := #[]
  cf := none
  fields := #[]
  methods := #[]
  instanceTypes := #[]
  staticTypes := #[]
  resolved := #[]
  callSites := []
  init := .initialized
  statics := none
  mirror := none

def pool0 : Array CpInfo := pool [(5, u "<init>"), (0, u "()V"), (1, .class_ 10), (1, u "java/lang/Object"), (0, u "getClass"), (0, u "()Ljava/lang/Class;"), (83, u "clone"), (0, u sn17)] 26

def k0c0 : Code := { maxStack := 0, maxLocals := 1, code := object_method_1_code, exceptionTable := #[], attributes := #[] }
def k0m0 : Method := { name := "<init>", desc := "()V", sig := { parameters := [], returnType := none }, accessFlags := 1, code := some k0c0 }
def k0m1 : Method := { name := "getClass", desc := "()Ljava/lang/Class;", sig := { parameters := [], returnType := some (.object "java/lang/Class") }, accessFlags := 273, code := none }
def k0m2 : Method := { name := "clone", desc := sn17, sig := { parameters := [], returnType := some (.object "java/lang/Object") }, accessFlags := 260, code := none }
/-- java/lang/Object -/
def k0 : Class := { plain "java/lang/Object" none with
  accessFlags := 33
  interfaces := #[]
  cf := some (fileOf pool0 8 #[] #[{ accessFlags := 1, nameIndex := 5, descriptorIndex := 6, attributes := #[] }, { accessFlags := 273, nameIndex := 11, descriptorIndex := 12, attributes := #[] }, { accessFlags := 260, nameIndex := 96, descriptorIndex := 97, attributes := #[] }] 33 0 #[] #[])
  fields := #[]
  methods := #[k0m0, k0m1, k0m2]
  instanceTypes := #[]
  staticTypes := #[]
  resolved := Array.replicate 124 none
  statics := none }

def pool1 : Array CpInfo := pool [(2, .class_ 4), (0, .nameAndType 5 6), (0, u "java/lang/Object"), (0, u "<init>"), (0, u "()V"), (0, .methodref 8 9), (0, .class_ 10), (0, .nameAndType 11 12), (0, u sn2), (0, u "str"), (0, u sn47), (0, .class_ 14), (0, u "java/util/ArrayList"), (0, .methodref 13 3), (0, .methodref 13 17), (0, .nameAndType 18 19), (0, u "add"), (0, u sn38), (0, .class_ 21), (0, u sn1), (0, .methodref 20 23), (0, .nameAndType 5 24), (0, u "(Ljava/util/List;)V"), (0, .methodref 20 26), (0, .nameAndType 27 28), (0, u "bytes"), (0, u "()[B"), (0, .methodref 8 30), (0, .nameAndType 31 32), (0, u "putLine"), (0, u "([IIICC)I"), (0, .methodref 8 34), (0, .nameAndType 35 36), (0, u "same"), (0, u "([B[II)Z"), (0, .string 38), (0, u ""), (0, .methodref 40 41), (0, .class_ 42), (0, .nameAndType 43 44), (0, u "java/lang/String"), (0, u "valueOf"), (0, u sn46), (0, .methodref 40 46), (0, .nameAndType 5 47), (0, u "([C)V"), (0, .methodref 8 49), (0, .nameAndType 50 51), (0, u "putChar"), (0, u "([IIC)I"), (2, u "law"), (0, u "(III)Z")] 11

def k1m0 : Method := { name := "<init>", desc := "()V", sig := { parameters := [], returnType := none }, accessFlags := 1, code := none }
def k1c1 : Code := { maxStack := 5, maxLocals := 17, code := code, exceptionTable := #[], attributes := #[] }
def k1m1 : Method := { name := "law", desc := "(III)Z", sig := { parameters := [.int, .int, .int], returnType := some .boolean }, accessFlags := 9, code := some k1c1 }
def k1c2 : Code := { maxStack := 6, maxLocals := 3, code := method_3_code, exceptionTable := #[], attributes := #[] }
def k1m2 : Method := { name := "str", desc := sn47, sig := { parameters := [.int, .char, .char], returnType := some (.object "java/lang/String") }, accessFlags := 10, code := some k1c2 }
def k1c3 : Code := { maxStack := 3, maxLocals := 6, code := method_4_code, exceptionTable := #[], attributes := #[] }
def k1m3 : Method := { name := "putLine", desc := "([IIICC)I", sig := { parameters := [(.array .int), .int, .int, .char, .char], returnType := some .int }, accessFlags := 10, code := some k1c3 }
def k1c4 : Code := { maxStack := 5, maxLocals := 3, code := method_5_code, exceptionTable := #[], attributes := #[] }
def k1m4 : Method := { name := "putChar", desc := "([IIC)I", sig := { parameters := [(.array .int), .int, .char], returnType := some .int }, accessFlags := 10, code := some k1c4 }
def k1c5 : Code := { maxStack := 3, maxLocals := 4, code := method_6_code, exceptionTable := #[], attributes := #[] }
def k1m5 : Method := { name := "same", desc := "([B[II)Z", sig := { parameters := [(.array .byte), (.array .int), .int], returnType := some .boolean }, accessFlags := 10, code := some k1c5 }
/-- com/example/credence/credence/gateway/EventBytesPinLaw -/
def k1 : Class := { plain sn2 (some 0) with
  accessFlags := 49
  interfaces := #[]
  cf := some (fileOf pool1 8 #[] #[{ accessFlags := 1, nameIndex := 5, descriptorIndex := 6, attributes := #[] }, { accessFlags := 9, nameIndex := 54, descriptorIndex := 55, attributes := #[] }, { accessFlags := 10, nameIndex := 11, descriptorIndex := 12, attributes := #[] }, { accessFlags := 10, nameIndex := 31, descriptorIndex := 32, attributes := #[] }, { accessFlags := 10, nameIndex := 50, descriptorIndex := 51, attributes := #[] }, { accessFlags := 10, nameIndex := 35, descriptorIndex := 36, attributes := #[] }] 49 2 #[] #[])
  fields := #[]
  methods := #[k1m0, k1m1, k1m2, k1m3, k1m4, k1m5]
  instanceTypes := #[]
  staticTypes := #[]
  resolved := Array.replicate 67 none
  statics := none }

def pool2 : Array CpInfo := pool [(1, .class_ 2), (0, u sn53), (0, .class_ 4), (0, u "java/lang/Object")] 2

/-- java/io/Serializable -/
def k2 : Class := { plain sn53 (some 0) with
  accessFlags := 1537
  interfaces := #[]
  cf := some (fileOf pool2 1 #[] #[] 1537 3 #[] #[])
  fields := #[]
  methods := #[]
  instanceTypes := #[]
  staticTypes := #[]
  resolved := Array.replicate 7 none
  statics := none }

def pool3 : Array CpInfo := pool [(1, .class_ 2), (0, u sn56), (0, .class_ 4), (0, u "java/lang/Object")] 7

/-- java/lang/Comparable -/
def k3 : Class := { plain sn56 (some 0) with
  accessFlags := 1537
  interfaces := #[]
  cf := some (fileOf pool3 1 #[] #[] 1537 3 #[] #[])
  fields := #[]
  methods := #[]
  instanceTypes := #[]
  staticTypes := #[]
  resolved := Array.replicate 12 none
  statics := none }

def pool4 : Array CpInfo := pool [(2, .class_ 4), (1, u sn55), (42, .class_ 48), (0, u "java/lang/CharSequence$1CodePointIterator"), (10, .class_ 60), (0, u "java/lang/CharSequence$1CharIterator"), (5, .class_ 67), (0, u "java/lang/Object")] 63

/-- java/lang/CharSequence -/
def k4 : Class := { plain sn55 (some 0) with
  accessFlags := 1537
  interfaces := #[]
  cf := some (fileOf pool4 2 #[.nestMembers #[47, 59]] #[] 1537 66 #[] #[])
  fields := #[]
  methods := #[]
  instanceTypes := #[]
  staticTypes := #[]
  resolved := Array.replicate 131 none
  statics := none }

def pool5 : Array CpInfo := pool [(1, .class_ 2), (0, u "java/lang/constant/Constable"), (0, .class_ 4), (0, u "java/lang/Object")] 6

/-- java/lang/constant/Constable -/
def k5 : Class := { plain "java/lang/constant/Constable" (some 0) with
  accessFlags := 1537
  interfaces := #[]
  cf := some (fileOf pool5 1 #[] #[] 1537 3 #[] #[])
  fields := #[]
  methods := #[]
  instanceTypes := #[]
  staticTypes := #[]
  resolved := Array.replicate 11 none
  statics := none }

def pool6 : Array CpInfo := pool [(1, .class_ 2), (0, u "java/lang/constant/ConstantDesc"), (0, .class_ 4), (0, u "java/lang/Object")] 32

/-- java/lang/constant/ConstantDesc -/
def k6 : Class := { plain "java/lang/constant/ConstantDesc" (some 0) with
  accessFlags := 1537
  interfaces := #[]
  cf := some (fileOf pool6 1 #[] #[] 1537 3 #[] #[])
  fields := #[]
  methods := #[]
  instanceTypes := #[]
  staticTypes := #[]
  resolved := Array.replicate 37 none
  statics := none }

def pool7 : Array CpInfo := pool [(1, .methodref 2 3), (0, .class_ 4), (0, .nameAndType 5 6), (0, u "java/lang/Object"), (0, u "<init>"), (0, u "()V"), (2, .fieldref 10 11), (0, .class_ 12), (0, .nameAndType 13 14), (0, u "java/lang/String"), (0, u "value"), (0, u "[B"), (0, .fieldref 10 16), (0, .nameAndType 17 18), (0, u "coder"), (0, u "B"), (2, u "hash"), (0, u "I"), (2, u "hashIsZero"), (0, u "Z"), (0, .methodref 10 28), (0, .nameAndType 5 29), (0, u sn48), (8, .fieldref 10 39), (0, .nameAndType 40 26), (0, u "COMPACT_STRINGS"), (1, .class_ 44), (1, u sn9), (0, u "compress"), (1, .methodref 42 48), (0, .nameAndType 49 50), (0, u "coderFromArrayLen"), (0, u "([BI)B"), (2, u "toBytes"), (0, .methodref 55 56), (0, .class_ 57), (0, .nameAndType 58 59), (0, u "java/util/Arrays"), (0, u "copyOfRange"), (0, u "([BII)[B"), (0, .methodref 42 61), (0, .nameAndType 62 63), (0, u "newBytesFor"), (0, u "(I)[B"), (22, .fieldref 87 88), (0, .class_ 89), (0, .nameAndType 90 91), (0, u "sun/nio/cs/UTF_8"), (0, u "INSTANCE"), (0, u "Lsun/nio/cs/UTF_8;"), (1, .class_ 95), (1, u sn30), (6, .methodref 55 103), (0, .nameAndType 104 105), (0, u "copyOf"), (0, u "([BI)[B"), (1, .class_ 109), (1, u sn24), (18, .methodref 93 129), (0, .nameAndType 130 131), (0, u "hasNegatives"), (0, u "([BII)Z"), (10, u "()Z"), (34, .methodref 42 178), (0, .nameAndType 45 179), (0, u "([CII)[B"), (13, .class_ 195), (1, u "java/lang/System"), (13, .methodref 10 210), (0, .nameAndType 5 211), (0, u "([BB)V"), (0, .methodref 193 213), (0, .nameAndType 214 215), (0, u "arraycopy"), (0, u sn34), (36, .methodref 10 253), (0, .nameAndType 254 255), (0, u "encodeUTF8"), (0, u "(B[BZ)[B"), (23, .methodref 280 281), (0, .class_ 14), (0, .nameAndType 282 283), (0, u "clone"), (0, u sn17), (33, u "encode"), (16, u "()I"), (0, .methodref 10 336), (0, .nameAndType 17 337), (0, u "()B"), (2, u "()[B"), (28, u "(C)Z"), (119, .methodref 10 490), (0, .nameAndType 5 491), (0, u sn19), (1, .nameAndType 494 142), (0, u "isLatin1"), (11, .nameAndType 507 334), (0, u "length"), (24, u "getBytes"), (2, .methodref 10 536), (0, .nameAndType 317 537), (0, u sn36), (11, .methodref 550 506), (0, .class_ 551), (0, u sn0), (0, .methodref 550 553), (0, .nameAndType 554 340), (0, u "getValue"), (20, .class_ 576), (0, u sn55), (22, u "CASE_INSENSITIVE_ORDER"), (0, u "Ljava/util/Comparator;"), (181, u "valueOf"), (0, u sn46), (37, u "([BIB)V"), (188, u "([C)V"), (4, .methodref 107 1016), (0, .nameAndType 1017 369), (0, u "canEncode"), (0, .methodref 107 1019), (0, .nameAndType 53 1020), (0, u "(C)[B"), (26, .methodref 550 493), (53, u "serialPersistentFields"), (0, u "[Ljava/io/ObjectStreamField;"), (0, .class_ 1104), (0, u "java/lang/String$CaseInsensitiveComparator"), (1, .class_ 1107), (0, u sn53), (0, .class_ 1109), (0, u sn56), (0, .class_ 1111), (0, u "java/lang/constant/Constable"), (0, .class_ 1113), (0, u "java/lang/constant/ConstantDesc"), (2, u "serialVersionUID"), (0, u "J"), (3, u "REPL"), (0, u "C"), (2, u "LATIN1"), (1, u "UTF16"), (105, u sn37), (11, u sn25)] 205

def k7m0 : Method := { name := "<init>", desc := "()V", sig := { parameters := [], returnType := none }, accessFlags := 1, code := none }
def k7c1 : Code := { maxStack := 5, maxLocals := 2, code := jdk_42_method_3_code, exceptionTable := #[], attributes := #[] }
def k7m1 : Method := { name := "<init>", desc := "([C)V", sig := { parameters := [(.array .char)], returnType := none }, accessFlags := 1, code := some k7c1 }
def k7c2 : Code := { maxStack := 4, maxLocals := 3, code := jdk_42_method_18_code, exceptionTable := #[], attributes := #[] }
def k7m2 : Method := { name := "encode", desc := sn36, sig := { parameters := [(.object sn16), .byte, (.array .byte)], returnType := some (.array .byte) }, accessFlags := 10, code := some k7c2 }
def k7c3 : Code := { maxStack := 5, maxLocals := 9, code := jdk_42_method_46_code, exceptionTable := #[], attributes := #[] }
def k7m3 : Method := { name := "encodeUTF8", desc := "(B[BZ)[B", sig := { parameters := [.byte, (.array .byte), .boolean], returnType := some (.array .byte) }, accessFlags := 10, code := some k7c3 }
def k7c4 : Code := { maxStack := 3, maxLocals := 2, code := jdk_42_method_53_code, exceptionTable := #[], attributes := #[] }
def k7m4 : Method := { name := "<init>", desc := sn37, sig := { parameters := [(.object sn5)], returnType := none }, accessFlags := 1, code := some k7c4 }
def k7c5 : Code := { maxStack := 2, maxLocals := 1, code := jdk_42_method_54_code, exceptionTable := #[], attributes := #[] }
def k7m5 : Method := { name := "length", desc := "()I", sig := { parameters := [], returnType := some .int }, accessFlags := 1, code := some k7c5 }
def k7c6 : Code := { maxStack := 3, maxLocals := 2, code := jdk_42_method_64_code, exceptionTable := #[], attributes := #[] }
def k7m6 : Method := { name := "getBytes", desc := sn25, sig := { parameters := [(.object sn16)], returnType := some (.array .byte) }, accessFlags := 1, code := some k7c6 }
def k7c7 : Code := { maxStack := 4, maxLocals := 1, code := jdk_42_method_139_code, exceptionTable := #[], attributes := #[] }
def k7m7 : Method := { name := "valueOf", desc := sn46, sig := { parameters := [.char], returnType := some (.object "java/lang/String") }, accessFlags := 9, code := some k7c7 }
def k7c8 : Code := { maxStack := 5, maxLocals := 4, code := jdk_42_method_147_code, exceptionTable := #[], attributes := #[] }
def k7m8 : Method := { name := "getBytes", desc := "([BIB)V", sig := { parameters := [(.array .byte), .int, .byte], returnType := none }, accessFlags := 0, code := some k7c8 }
def k7c9 : Code := { maxStack := 4, maxLocals := 6, code := jdk_42_method_149_code, exceptionTable := #[], attributes := #[] }
def k7m9 : Method := { name := "<init>", desc := sn48, sig := { parameters := [(.array .char), .int, .int, (.object "java/lang/Void")], returnType := none }, accessFlags := 2, code := some k7c9 }
def k7c10 : Code := { maxStack := 5, maxLocals := 5, code := jdk_42_method_150_code, exceptionTable := #[], attributes := #[] }
def k7m10 : Method := { name := "<init>", desc := sn19, sig := { parameters := [(.object sn0), (.object "java/lang/Void")], returnType := none }, accessFlags := 0, code := some k7c10 }
def k7c11 : Code := { maxStack := 2, maxLocals := 3, code := jdk_42_method_151_code, exceptionTable := #[], attributes := #[] }
def k7m11 : Method := { name := "<init>", desc := "([BB)V", sig := { parameters := [(.array .byte), .byte], returnType := none }, accessFlags := 0, code := some k7c11 }
def k7c12 : Code := { maxStack := 1, maxLocals := 1, code := jdk_42_method_152_code, exceptionTable := #[], attributes := #[] }
def k7m12 : Method := { name := "coder", desc := "()B", sig := { parameters := [], returnType := some .byte }, accessFlags := 0, code := some k7c12 }
/-- java/lang/String -/
def k7 : Class := { plain "java/lang/String" (some 0) with
  accessFlags := 49
  interfaces := #[2, 3, 4, 5, 6]
  cf := some (fileOf pool7 10 #[.nestMembers #[1103]] #[{ accessFlags := 1, nameIndex := 5, descriptorIndex := 6, attributes := #[] }, { accessFlags := 1, nameIndex := 5, descriptorIndex := 1010, attributes := #[] }, { accessFlags := 10, nameIndex := 317, descriptorIndex := 537, attributes := #[] }, { accessFlags := 10, nameIndex := 254, descriptorIndex := 255, attributes := #[] }, { accessFlags := 1, nameIndex := 5, descriptorIndex := 1233, attributes := #[] }, { accessFlags := 1, nameIndex := 507, descriptorIndex := 334, attributes := #[] }, { accessFlags := 1, nameIndex := 532, descriptorIndex := 1245, attributes := #[] }, { accessFlags := 9, nameIndex := 782, descriptorIndex := 783, attributes := #[] }, { accessFlags := 0, nameIndex := 532, descriptorIndex := 821, attributes := #[] }, { accessFlags := 2, nameIndex := 5, descriptorIndex := 29, attributes := #[] }, { accessFlags := 0, nameIndex := 5, descriptorIndex := 491, attributes := #[] }, { accessFlags := 0, nameIndex := 5, descriptorIndex := 211, attributes := #[] }, { accessFlags := 0, nameIndex := 17, descriptorIndex := 337, attributes := #[] }] 49 2 #[1106, 1108, 575, 1110, 1112] #[{ accessFlags := 18, nameIndex := 13, descriptorIndex := 14, attributes := #[] }, { accessFlags := 18, nameIndex := 17, descriptorIndex := 18, attributes := #[] }, { accessFlags := 2, nameIndex := 21, descriptorIndex := 22, attributes := #[] }, { accessFlags := 2, nameIndex := 25, descriptorIndex := 26, attributes := #[] }, { accessFlags := 26, nameIndex := 1116, descriptorIndex := 1117, attributes := #[] }, { accessFlags := 24, nameIndex := 40, descriptorIndex := 26, attributes := #[] }, { accessFlags := 26, nameIndex := 1101, descriptorIndex := 1102, attributes := #[] }, { accessFlags := 26, nameIndex := 1121, descriptorIndex := 1122, attributes := #[] }, { accessFlags := 25, nameIndex := 599, descriptorIndex := 600, attributes := #[] }, { accessFlags := 24, nameIndex := 1125, descriptorIndex := 18, attributes := #[] }, { accessFlags := 24, nameIndex := 1127, descriptorIndex := 18, attributes := #[] }])
  fields := #[{ name := "value", type := (.array .byte), accessFlags := 18, slot := 0, constantValue := 0 }, { name := "coder", type := .byte, accessFlags := 18, slot := 1, constantValue := 0 }, { name := "hash", type := .int, accessFlags := 2, slot := 2, constantValue := 0 }, { name := "hashIsZero", type := .boolean, accessFlags := 2, slot := 3, constantValue := 0 }, { name := "serialVersionUID", type := .long, accessFlags := 26, slot := 0, constantValue := 0 }, { name := "COMPACT_STRINGS", type := .boolean, accessFlags := 24, slot := 1, constantValue := 0 }, { name := "serialPersistentFields", type := (.array (.object "java/io/ObjectStreamField")), accessFlags := 26, slot := 2, constantValue := 0 }, { name := "REPL", type := .char, accessFlags := 26, slot := 3, constantValue := 0 }, { name := "CASE_INSENSITIVE_ORDER", type := (.object "java/util/Comparator"), accessFlags := 25, slot := 4, constantValue := 0 }, { name := "LATIN1", type := .byte, accessFlags := 24, slot := 5, constantValue := 0 }, { name := "UTF16", type := .byte, accessFlags := 24, slot := 6, constantValue := 0 }]
  methods := #[k7m0, k7m1, k7m2, k7m3, k7m4, k7m5, k7m6, k7m7, k7m8, k7m9, k7m10, k7m11, k7m12]
  instanceTypes := #[(.array .byte), .byte, .int, .boolean]
  staticTypes := #[.long, .boolean, (.array (.object "java/io/ObjectStreamField")), .char, (.object "java/util/Comparator"), .byte, .byte]
  resolved := Array.replicate 1451 none
  statics := some 0 }

def pool8 : Array CpInfo := pool [(8, .class_ 10), (1, u "java/lang/Iterable"), (24, .class_ 36), (0, u "java/lang/Object")] 25

/-- java/lang/Iterable -/
def k8 : Class := { plain "java/lang/Iterable" (some 0) with
  accessFlags := 1537
  interfaces := #[]
  cf := some (fileOf pool8 8 #[] #[] 1537 35 #[] #[])
  fields := #[]
  methods := #[]
  instanceTypes := #[]
  staticTypes := #[]
  resolved := Array.replicate 62 none
  statics := none }

def pool9 : Array CpInfo := pool [(10, .class_ 12), (1, u sn27), (0, u "toArray"), (16, u "()Z"), (29, .class_ 61), (0, u "java/lang/Object"), (0, .class_ 63), (0, u "java/lang/Iterable"), (2, u "isEmpty"), (3, u sn13)] 44

def k9m0 : Method := { name := "isEmpty", desc := "()Z", sig := { parameters := [], returnType := some .boolean }, accessFlags := 1025, code := none }
def k9m1 : Method := { name := "toArray", desc := sn13, sig := { parameters := [], returnType := some (.array (.object "java/lang/Object")) }, accessFlags := 1025, code := none }
/-- java/util/Collection -/
def k9 : Class := { plain sn27 (some 0) with
  accessFlags := 1537
  interfaces := #[8]
  cf := some (fileOf pool9 10 #[] #[{ accessFlags := 1025, nameIndex := 66, descriptorIndex := 30, attributes := #[] }, { accessFlags := 1025, nameIndex := 13, descriptorIndex := 70, attributes := #[] }] 1537 60 #[62] #[])
  fields := #[]
  methods := #[k9m0, k9m1]
  instanceTypes := #[]
  staticTypes := #[]
  resolved := Array.replicate 115 none
  statics := none }

def pool10 : Array CpInfo := pool [(1, .methodref 2 3), (0, .class_ 4), (0, .nameAndType 5 6), (0, u "java/lang/Object"), (0, u "<init>"), (0, u "()V"), (1, .class_ 10), (1, u sn18), (0, u "size"), (0, u "()I"), (64, .class_ 78), (0, u sn27)] 81

def k10c0 : Code := { maxStack := 1, maxLocals := 1, code := jdk_22_method_1_code, exceptionTable := #[], attributes := #[] }
def k10m0 : Method := { name := "<init>", desc := "()V", sig := { parameters := [], returnType := none }, accessFlags := 4, code := some k10c0 }
def k10m1 : Method := { name := "size", desc := "()I", sig := { parameters := [], returnType := some .int }, accessFlags := 1025, code := none }
/-- java/util/AbstractCollection -/
def k10 : Class := { plain sn18 (some 0) with
  accessFlags := 1057
  interfaces := #[9]
  cf := some (fileOf pool10 8 #[] #[{ accessFlags := 4, nameIndex := 5, descriptorIndex := 6, attributes := #[] }, { accessFlags := 1025, nameIndex := 11, descriptorIndex := 12, attributes := #[] }] 1057 2 #[77] #[])
  fields := #[]
  methods := #[k10m0, k10m1]
  instanceTypes := #[]
  staticTypes := #[]
  resolved := Array.replicate 160 none
  statics := none }

def pool11 : Array CpInfo := pool [(8, .class_ 10), (1, u "java/util/SequencedCollection"), (15, .class_ 27), (0, u "java/lang/Object"), (0, .class_ 29), (0, u sn27)] 27

/-- java/util/SequencedCollection -/
def k11 : Class := { plain "java/util/SequencedCollection" (some 0) with
  accessFlags := 1537
  interfaces := #[9]
  cf := some (fileOf pool11 8 #[] #[] 1537 26 #[28] #[])
  fields := #[]
  methods := #[]
  instanceTypes := #[]
  staticTypes := #[]
  resolved := Array.replicate 57 none
  statics := none }

def pool12 : Array CpInfo := pool [(8, .class_ 10), (1, u "java/util/List"), (20, u sn45), (16, u "<init>"), (26, u "get"), (0, u sn29), (11, u "of"), (1, .fieldref 91 92), (0, .class_ 93), (0, .nameAndType 94 95), (0, u sn7), (0, u "EMPTY_LIST"), (0, u sn35), (0, .class_ 97), (0, u sn4), (0, .methodref 96 99), (0, .nameAndType 48 31), (0, .methodref 96 101), (0, .nameAndType 48 102), (0, u sn26), (0, .class_ 104), (0, u "java/lang/Object"), (3, u sn31), (3, .methodref 91 113), (0, .nameAndType 114 115), (0, u "listCopy"), (0, u sn10), (3, u "()Ljava/util/List;"), (0, .class_ 121), (0, u "java/util/SequencedCollection"), (1, u "iterator"), (0, u sn20), (109, u "copyOf")] 16

def k12m0 : Method := { name := "iterator", desc := sn20, sig := { parameters := [], returnType := some (.object "java/util/Iterator") }, accessFlags := 1025, code := none }
def k12m1 : Method := { name := "get", desc := sn29, sig := { parameters := [.int], returnType := some (.object "java/lang/Object") }, accessFlags := 1025, code := none }
def k12c2 : Code := { maxStack := 1, maxLocals := 0, code := jdk_40_method_36_code, exceptionTable := #[], attributes := #[] }
def k12m2 : Method := { name := "of", desc := "()Ljava/util/List;", sig := { parameters := [], returnType := some (.object "java/util/List") }, accessFlags := 9, code := some k12c2 }
def k12c3 : Code := { maxStack := 5, maxLocals := 2, code := jdk_40_method_47_code, exceptionTable := #[], attributes := #[] }
def k12m3 : Method := { name := "of", desc := sn31, sig := { parameters := [(.array (.object "java/lang/Object"))], returnType := some (.object "java/util/List") }, accessFlags := 137, code := some k12c3 }
def k12c4 : Code := { maxStack := 1, maxLocals := 1, code := jdk_40_method_48_code, exceptionTable := #[], attributes := #[] }
def k12m4 : Method := { name := "copyOf", desc := sn10, sig := { parameters := [(.object sn27)], returnType := some (.object "java/util/List") }, accessFlags := 9, code := some k12c4 }
/-- java/util/List -/
def k12 : Class := { plain "java/util/List" (some 0) with
  accessFlags := 1537
  interfaces := #[11]
  cf := some (fileOf pool12 8 #[] #[{ accessFlags := 1025, nameIndex := 123, descriptorIndex := 124, attributes := #[] }, { accessFlags := 1025, nameIndex := 75, descriptorIndex := 76, attributes := #[] }, { accessFlags := 9, nameIndex := 88, descriptorIndex := 119, attributes := #[] }, { accessFlags := 137, nameIndex := 88, descriptorIndex := 108, attributes := #[] }, { accessFlags := 9, nameIndex := 234, descriptorIndex := 115, attributes := #[] }] 1537 103 #[120] #[])
  fields := #[]
  methods := #[k12m0, k12m1, k12m2, k12m3, k12m4]
  instanceTypes := #[]
  staticTypes := #[]
  resolved := Array.replicate 251 none
  statics := none }

def pool13 : Array CpInfo := pool [(1, .methodref 2 3), (0, .class_ 4), (0, .nameAndType 5 6), (0, u sn18), (0, u "<init>"), (0, u "()V"), (0, .fieldref 8 9), (0, .class_ 10), (0, .nameAndType 11 12), (0, u sn21), (0, u "modCount"), (0, u "I"), (64, .class_ 78), (0, u "java/util/AbstractList$Itr"), (3, .class_ 83), (0, u "java/util/AbstractList$ListItr"), (9, .class_ 94), (0, u "java/util/AbstractList$RandomAccessSubList"), (3, .class_ 99), (0, u "java/util/AbstractList$SubList"), (33, .class_ 134), (0, u "java/util/List"), (73, .class_ 209), (0, u "java/util/AbstractList$SubList$1"), (0, .class_ 211), (0, u "java/util/AbstractList$RandomAccessSpliterator")] 6

def k13c0 : Code := { maxStack := 2, maxLocals := 1, code := jdk_39_method_1_code, exceptionTable := #[], attributes := #[] }
def k13m0 : Method := { name := "<init>", desc := "()V", sig := { parameters := [], returnType := none }, accessFlags := 4, code := some k13c0 }
/-- java/util/AbstractList -/
def k13 : Class := { plain sn21 (some 10) with
  accessFlags := 1057
  interfaces := #[12]
  cf := some (fileOf pool13 8 #[.nestMembers #[93, 98, 208, 210, 82, 77]] #[{ accessFlags := 4, nameIndex := 5, descriptorIndex := 6, attributes := #[] }] 1057 2 #[133] #[{ accessFlags := 132, nameIndex := 11, descriptorIndex := 12, attributes := #[] }])
  fields := #[{ name := "modCount", type := .int, accessFlags := 132, slot := 0, constantValue := 0 }]
  methods := #[k13m0]
  instanceTypes := #[.int]
  staticTypes := #[]
  resolved := Array.replicate 218 none
  statics := none }

def pool14 : Array CpInfo := pool [(1, .class_ 2), (0, u sn57), (0, .class_ 4), (0, u "java/lang/Object")] 2

/-- java/util/RandomAccess -/
def k14 : Class := { plain sn57 (some 0) with
  accessFlags := 1537
  interfaces := #[]
  cf := some (fileOf pool14 1 #[] #[] 1537 3 #[] #[])
  fields := #[]
  methods := #[]
  instanceTypes := #[]
  staticTypes := #[]
  resolved := Array.replicate 7 none
  statics := none }

def pool15 : Array CpInfo := pool [(1, .class_ 2), (0, u "java/lang/Cloneable"), (0, .class_ 4), (0, u "java/lang/Object")] 2

/-- java/lang/Cloneable -/
def k15 : Class := { plain "java/lang/Cloneable" (some 0) with
  accessFlags := 1537
  interfaces := #[]
  cf := some (fileOf pool15 1 #[] #[] 1537 3 #[] #[])
  fields := #[]
  methods := #[]
  instanceTypes := #[]
  staticTypes := #[]
  resolved := Array.replicate 7 none
  statics := none }

def pool16 : Array CpInfo := pool [(1, .methodref 2 3), (0, .class_ 4), (0, .nameAndType 5 6), (0, u sn21), (0, u "<init>"), (0, u "()V"), (0, .class_ 8), (0, u "java/lang/Object"), (0, .fieldref 10 11), (0, .class_ 12), (0, .nameAndType 13 14), (0, u "java/util/ArrayList"), (0, u "elementData"), (0, u "[Ljava/lang/Object;"), (2, u "EMPTY_ELEMENTDATA"), (21, .fieldref 10 40), (0, .nameAndType 41 14), (0, u sn50), (4, u "toArray"), (0, u sn13), (0, .fieldref 10 49), (0, .nameAndType 50 51), (0, u "size"), (0, u "I"), (6, .class_ 60), (1, u "java/util/Arrays"), (0, u "copyOf"), (1, .fieldref 10 64), (0, .nameAndType 65 51), (0, u "modCount"), (0, .methodref 58 67), (0, .nameAndType 61 68), (0, u sn23), (0, .methodref 10 70), (0, .nameAndType 71 72), (0, u "grow"), (0, u sn44), (6, .methodref 80 81), (0, .class_ 82), (0, .nameAndType 83 84), (0, u "java/lang/Math"), (0, u "max"), (0, u "(II)I"), (11, u sn38), (32, .methodref 10 130), (0, .nameAndType 71 47), (0, .methodref 10 132), (0, .nameAndType 133 134), (0, u "add"), (0, u sn22), (13, .class_ 149), (0, u "java/util/List"), (23, u "()Z"), (88, .class_ 263), (0, u "java/util/ArrayList$ListItr"), (3, .class_ 268), (0, u "java/util/ArrayList$Itr"), (7, .class_ 277), (0, u "java/util/ArrayList$SubList"), (12, .class_ 291), (0, u "java/util/ArrayList$ArrayListSpliterator"), (37, .class_ 330), (0, u sn57), (0, .class_ 332), (0, u "java/lang/Cloneable"), (0, .class_ 334), (0, u sn53), (0, u "serialVersionUID"), (0, u "J"), (3, u "DEFAULT_CAPACITY"), (22, u "isEmpty"), (136, .class_ 501), (0, u "java/util/ArrayList$SubList$2"), (0, .class_ 503), (0, u "java/util/ArrayList$SubList$1")] 5

def k16c0 : Code := { maxStack := 2, maxLocals := 1, code := jdk_38_method_2_code, exceptionTable := #[], attributes := #[] }
def k16m0 : Method := { name := "<init>", desc := "()V", sig := { parameters := [], returnType := none }, accessFlags := 1, code := some k16c0 }
def k16c1 : Code := { maxStack := 4, maxLocals := 4, code := jdk_38_method_6_code, exceptionTable := #[], attributes := #[] }
def k16m1 : Method := { name := "grow", desc := sn44, sig := { parameters := [.int], returnType := some (.array (.object "java/lang/Object")) }, accessFlags := 2, code := some k16c1 }
def k16c2 : Code := { maxStack := 3, maxLocals := 1, code := jdk_38_method_7_code, exceptionTable := #[], attributes := #[] }
def k16m2 : Method := { name := "grow", desc := sn13, sig := { parameters := [], returnType := some (.array (.object "java/lang/Object")) }, accessFlags := 2, code := some k16c2 }
def k16c3 : Code := { maxStack := 1, maxLocals := 1, code := jdk_38_method_9_code, exceptionTable := #[], attributes := #[] }
def k16m3 : Method := { name := "isEmpty", desc := "()Z", sig := { parameters := [], returnType := some .boolean }, accessFlags := 1, code := some k16c3 }
def k16c4 : Code := { maxStack := 2, maxLocals := 1, code := jdk_38_method_16_code, exceptionTable := #[], attributes := #[] }
def k16m4 : Method := { name := "toArray", desc := sn13, sig := { parameters := [], returnType := some (.array (.object "java/lang/Object")) }, accessFlags := 1, code := some k16c4 }
def k16c5 : Code := { maxStack := 3, maxLocals := 4, code := jdk_38_method_24_code, exceptionTable := #[], attributes := #[] }
def k16m5 : Method := { name := "add", desc := sn22, sig := { parameters := [(.object "java/lang/Object"), (.array (.object "java/lang/Object")), .int], returnType := none }, accessFlags := 2, code := some k16c5 }
def k16c6 : Code := { maxStack := 4, maxLocals := 2, code := jdk_38_method_25_code, exceptionTable := #[], attributes := #[] }
def k16m6 : Method := { name := "add", desc := sn38, sig := { parameters := [(.object "java/lang/Object")], returnType := some .boolean }, accessFlags := 1, code := some k16c6 }
/-- java/util/ArrayList -/
def k16 : Class := { plain "java/util/ArrayList" (some 13) with
  accessFlags := 33
  interfaces := #[12, 14, 15, 2]
  cf := some (fileOf pool16 10 #[.nestMembers #[290, 276, 500, 502, 262, 267]] #[{ accessFlags := 1, nameIndex := 5, descriptorIndex := 6, attributes := #[] }, { accessFlags := 2, nameIndex := 71, descriptorIndex := 72, attributes := #[] }, { accessFlags := 2, nameIndex := 71, descriptorIndex := 47, attributes := #[] }, { accessFlags := 1, nameIndex := 363, descriptorIndex := 173, attributes := #[] }, { accessFlags := 1, nameIndex := 46, descriptorIndex := 47, attributes := #[] }, { accessFlags := 2, nameIndex := 133, descriptorIndex := 134, attributes := #[] }, { accessFlags := 1, nameIndex := 133, descriptorIndex := 96, attributes := #[] }] 33 2 #[148, 329, 331, 333] #[{ accessFlags := 26, nameIndex := 335, descriptorIndex := 336, attributes := #[] }, { accessFlags := 26, nameIndex := 340, descriptorIndex := 51, attributes := #[] }, { accessFlags := 26, nameIndex := 17, descriptorIndex := 14, attributes := #[] }, { accessFlags := 26, nameIndex := 41, descriptorIndex := 14, attributes := #[] }, { accessFlags := 128, nameIndex := 13, descriptorIndex := 14, attributes := #[] }, { accessFlags := 2, nameIndex := 50, descriptorIndex := 51, attributes := #[] }])
  fields := #[{ name := "serialVersionUID", type := .long, accessFlags := 26, slot := 0, constantValue := 0 }, { name := "DEFAULT_CAPACITY", type := .int, accessFlags := 26, slot := 1, constantValue := 0 }, { name := "EMPTY_ELEMENTDATA", type := (.array (.object "java/lang/Object")), accessFlags := 26, slot := 2, constantValue := 0 }, { name := sn50, type := (.array (.object "java/lang/Object")), accessFlags := 26, slot := 3, constantValue := 0 }, { name := "elementData", type := (.array (.object "java/lang/Object")), accessFlags := 128, slot := 1, constantValue := 0 }, { name := "size", type := .int, accessFlags := 2, slot := 2, constantValue := 0 }]
  methods := #[k16m0, k16m1, k16m2, k16m3, k16m4, k16m5, k16m6]
  instanceTypes := #[.int, (.array (.object "java/lang/Object")), .int]
  staticTypes := #[.long, .int, (.array (.object "java/lang/Object")), (.array (.object "java/lang/Object"))]
  resolved := Array.replicate 509 none
  statics := some 1 }

def pool17 : Array CpInfo := pool [(1, .methodref 2 3), (0, .class_ 4), (0, .nameAndType 5 6), (0, u "java/lang/Object"), (0, u "<init>"), (0, u "()V"), (0, .class_ 8), (0, u "java/lang/Record")] 13

def k17c0 : Code := { maxStack := 1, maxLocals := 1, code := jdk_30_method_1_code, exceptionTable := #[], attributes := #[] }
def k17m0 : Method := { name := "<init>", desc := "()V", sig := { parameters := [], returnType := none }, accessFlags := 4, code := some k17c0 }
/-- java/lang/Record -/
def k17 : Class := { plain "java/lang/Record" (some 0) with
  accessFlags := 1057
  interfaces := #[]
  cf := some (fileOf pool17 7 #[] #[{ accessFlags := 4, nameIndex := 5, descriptorIndex := 6, attributes := #[] }] 1057 2 #[] #[])
  fields := #[]
  methods := #[k17m0]
  instanceTypes := #[]
  staticTypes := #[]
  resolved := Array.replicate 22 none
  statics := none }

def pool18 : Array CpInfo := pool [(1, .class_ 2), (0, u "com/example/credence/credence/gateway/EventStream"), (0, .methodref 4 5), (0, .class_ 6), (0, .nameAndType 7 8), (0, u "java/lang/Record"), (0, u "<init>"), (0, u "()V"), (0, .interfaceMethodref 10 11), (0, .class_ 12), (0, .nameAndType 13 14), (0, u "java/util/List"), (0, u "copyOf"), (0, u sn10), (0, .fieldref 16 17), (0, .class_ 18), (0, .nameAndType 19 20), (0, u sn1), (0, u "lines"), (0, u "Ljava/util/List;"), (3, .interfaceMethodref 10 25), (0, .nameAndType 26 27), (0, u "iterator"), (0, u sn20), (0, .interfaceMethodref 29 30), (0, .class_ 31), (0, .nameAndType 32 33), (0, u "java/util/Iterator"), (0, u "hasNext"), (0, u "()Z"), (0, .interfaceMethodref 29 35), (0, .nameAndType 36 37), (0, u "next"), (0, u sn17), (0, .class_ 39), (0, u "java/lang/String"), (44, u "(Ljava/util/List;)V"), (0, .class_ 86), (0, u sn5), (0, .methodref 85 5), (0, .methodref 85 89), (0, .nameAndType 90 91), (0, u "append"), (0, u sn12), (0, .methodref 85 93), (0, .nameAndType 90 94), (0, u sn32), (0, .methodref 85 96), (0, .nameAndType 97 98), (0, u "toString"), (0, u sn40), (0, .fieldref 100 101), (0, .class_ 102), (0, .nameAndType 103 104), (0, u sn43), (0, u "UTF_8"), (0, u sn51), (0, .methodref 38 106), (0, .nameAndType 107 108), (0, u "getBytes"), (0, u sn25), (24, u "bytes"), (0, u "()[B")] 31

def k18c0 : Code := { maxStack := 2, maxLocals := 2, code := prog_7_method_1_code, exceptionTable := #[], attributes := #[] }
def k18m0 : Method := { name := "<init>", desc := "(Ljava/util/List;)V", sig := { parameters := [(.object "java/util/List")], returnType := none }, accessFlags := 0, code := some k18c0 }
def k18c1 : Code := { maxStack := 2, maxLocals := 4, code := prog_7_method_4_code, exceptionTable := #[], attributes := #[] }
def k18m1 : Method := { name := "bytes", desc := "()[B", sig := { parameters := [], returnType := some (.array .byte) }, accessFlags := 0, code := some k18c1 }
/-- com/example/credence/credence/gateway/EventStream$Event -/
def k18 : Class := { plain sn1 (some 17) with
  accessFlags := 48
  interfaces := #[]
  cf := some (fileOf pool18 16 #[.nestHost 1] #[{ accessFlags := 0, nameIndex := 7, descriptorIndex := 84, attributes := #[] }, { accessFlags := 0, nameIndex := 133, descriptorIndex := 134, attributes := #[] }] 48 4 #[] #[{ accessFlags := 18, nameIndex := 19, descriptorIndex := 20, attributes := #[] }])
  fields := #[{ name := "lines", type := (.object "java/util/List"), accessFlags := 18, slot := 0, constantValue := 0 }]
  methods := #[k18m0, k18m1]
  instanceTypes := #[(.object "java/util/List")]
  staticTypes := #[]
  resolved := Array.replicate 166 none
  statics := none }

def pool19 : Array CpInfo := pool [(2, .class_ 4), (1, u "java/lang/Object"), (0, u "<init>"), (0, u "()V"), (3, .class_ 11), (0, u sn4), (0, .class_ 13), (0, u sn8), (3, u "Z"), (0, .class_ 19), (0, u "java/util/List"), (0, .interfaceMethodref 21 22), (0, .class_ 23), (0, .nameAndType 24 25), (0, u sn27), (0, u "isEmpty"), (0, u "()Z"), (0, .interfaceMethodref 18 27), (0, .nameAndType 28 29), (0, u "of"), (0, u "()Ljava/util/List;"), (0, .interfaceMethodref 21 31), (0, .nameAndType 32 33), (0, u "toArray"), (0, u sn13), (0, .interfaceMethodref 18 35), (0, .nameAndType 28 36), (0, u sn31), (10, .class_ 49), (1, u sn7), (0, u "$assertionsDisabled"), (5, u "[Ljava/lang/Object;"), (5, u "EMPTY_LIST"), (0, u sn35), (8, u "EMPTY_LIST_NULLS"), (22, u "SALT32L"), (0, u "J"), (2, u "REVERSE"), (6, u "archivedObjects"), (2, u "EMPTY"), (0, u "Ljava/lang/Object;"), (0, .class_ 112), (0, u "java/util/ImmutableCollections$SetN"), (5, u "EMPTY_SET"), (0, u "Ljava/util/ImmutableCollections$SetN;"), (0, .class_ 121), (0, u "java/util/ImmutableCollections$MapN"), (3, u "EMPTY_MAP"), (0, u "Ljava/util/ImmutableCollections$MapN;"), (4, u "EXPAND_FACTOR"), (0, u "I"), (9, u "listCopy"), (0, u sn10), (25, .class_ 170), (0, u "java/util/ImmutableCollections$MapN$MapNIterator"), (0, .class_ 172), (0, u "java/util/ImmutableCollections$MapN$1"), (0, .class_ 174), (0, u "java/util/ImmutableCollections$Map1"), (0, .class_ 176), (0, u "java/util/ImmutableCollections$AbstractImmutableMap"), (0, .class_ 178), (0, u "java/util/ImmutableCollections$SetN$SetNIterator"), (0, .class_ 180), (0, u "java/util/ImmutableCollections$Set12"), (0, .class_ 182), (0, u "java/util/ImmutableCollections$Set12$1"), (0, .class_ 184), (0, u "java/util/ImmutableCollections$AbstractImmutableSet"), (0, .class_ 186), (0, u "java/util/ImmutableCollections$SubList"), (0, .class_ 188), (0, u sn3), (0, .class_ 190), (0, u sn6), (0, .class_ 192), (0, u sn11), (0, .class_ 194), (0, u "java/util/ImmutableCollections$Access"), (0, .class_ 196), (0, u "java/util/ImmutableCollections$Access$1")] 16

def k19m0 : Method := { name := "<init>", desc := "()V", sig := { parameters := [], returnType := none }, accessFlags := 2, code := none }
def k19c1 : Code := { maxStack := 1, maxLocals := 2, code := jdk_56_method_3_code, exceptionTable := #[], attributes := #[] }
def k19m1 : Method := { name := "listCopy", desc := sn10, sig := { parameters := [(.object sn27)], returnType := some (.object "java/util/List") }, accessFlags := 8, code := some k19c1 }
/-- java/util/ImmutableCollections -/
def k19 : Class := { plain sn7 (some 0) with
  accessFlags := 32
  interfaces := #[]
  cf := some (fileOf pool19 47 #[.nestMembers #[120, 169, 171, 173, 175, 111, 177, 179, 181, 183, 12, 10, 185, 187, 189, 191, 193, 195]] #[{ accessFlags := 2, nameIndex := 5, descriptorIndex := 6, attributes := #[] }, { accessFlags := 8, nameIndex := 142, descriptorIndex := 143, attributes := #[] }] 32 2 #[] #[{ accessFlags := 26, nameIndex := 95, descriptorIndex := 96, attributes := #[] }, { accessFlags := 26, nameIndex := 99, descriptorIndex := 17, attributes := #[] }, { accessFlags := 10, nameIndex := 106, descriptorIndex := 56, attributes := #[] }, { accessFlags := 26, nameIndex := 109, descriptorIndex := 110, attributes := #[] }, { accessFlags := 24, nameIndex := 62, descriptorIndex := 63, attributes := #[] }, { accessFlags := 24, nameIndex := 72, descriptorIndex := 63, attributes := #[] }, { accessFlags := 24, nameIndex := 118, descriptorIndex := 119, attributes := #[] }, { accessFlags := 24, nameIndex := 125, descriptorIndex := 126, attributes := #[] }, { accessFlags := 24, nameIndex := 131, descriptorIndex := 132, attributes := #[] }, { accessFlags := 4120, nameIndex := 50, descriptorIndex := 17, attributes := #[] }])
  fields := #[{ name := "SALT32L", type := .long, accessFlags := 26, slot := 0, constantValue := 0 }, { name := "REVERSE", type := .boolean, accessFlags := 26, slot := 1, constantValue := 0 }, { name := "archivedObjects", type := (.array (.object "java/lang/Object")), accessFlags := 10, slot := 2, constantValue := 0 }, { name := "EMPTY", type := (.object "java/lang/Object"), accessFlags := 26, slot := 3, constantValue := 0 }, { name := "EMPTY_LIST", type := (.object sn8), accessFlags := 24, slot := 4, constantValue := 0 }, { name := "EMPTY_LIST_NULLS", type := (.object sn8), accessFlags := 24, slot := 5, constantValue := 0 }, { name := "EMPTY_SET", type := (.object "java/util/ImmutableCollections$SetN"), accessFlags := 24, slot := 6, constantValue := 0 }, { name := "EMPTY_MAP", type := (.object "java/util/ImmutableCollections$MapN"), accessFlags := 24, slot := 7, constantValue := 0 }, { name := "EXPAND_FACTOR", type := .int, accessFlags := 24, slot := 8, constantValue := 0 }, { name := "$assertionsDisabled", type := .boolean, accessFlags := 4120, slot := 9, constantValue := 0 }]
  methods := #[k19m0, k19m1]
  instanceTypes := #[]
  staticTypes := #[.long, .boolean, (.array (.object "java/lang/Object")), (.object "java/lang/Object"), (.object sn8), (.object sn8), (.object "java/util/ImmutableCollections$SetN"), (.object "java/util/ImmutableCollections$MapN"), .int, .boolean]
  resolved := Array.replicate 213 none
  statics := some 2 }

def pool20 : Array CpInfo := pool [(1, .methodref 2 3), (0, .class_ 4), (0, .nameAndType 5 6), (0, u sn18), (0, u "<init>"), (0, u "()V"), (1, .class_ 10), (1, u sn7), (2, .class_ 14), (0, u sn11)] 41

def k20c0 : Code := { maxStack := 1, maxLocals := 1, code := jdk_47_method_1_code, exceptionTable := #[], attributes := #[] }
def k20m0 : Method := { name := "<init>", desc := "()V", sig := { parameters := [], returnType := none }, accessFlags := 0, code := some k20c0 }
/-- java/util/ImmutableCollections$AbstractImmutableCollection -/
def k20 : Class := { plain sn11 (some 10) with
  accessFlags := 1056
  interfaces := #[]
  cf := some (fileOf pool20 13 #[.nestHost 8] #[{ accessFlags := 0, nameIndex := 5, descriptorIndex := 6, attributes := #[] }] 1056 2 #[] #[])
  fields := #[]
  methods := #[k20m0]
  instanceTypes := #[]
  staticTypes := #[]
  resolved := Array.replicate 56 none
  statics := none }

def pool21 : Array CpInfo := pool [(1, .methodref 2 3), (0, .class_ 4), (0, .nameAndType 5 6), (0, u sn11), (0, u "<init>"), (0, u "()V"), (1, .class_ 10), (1, u sn7), (2, .methodref 14 15), (0, .class_ 16), (0, .nameAndType 17 18), (0, u sn6), (0, u "size"), (0, u "()I"), (42, .class_ 62), (0, u sn3), (0, .methodref 61 64), (0, .nameAndType 5 65), (0, u sn49), (11, .class_ 78), (0, u "java/util/List"), (2, u "iterator"), (0, u sn20), (41, .class_ 125), (0, u sn57)] 70

def k21c0 : Code := { maxStack := 1, maxLocals := 1, code := jdk_46_method_1_code, exceptionTable := #[], attributes := #[] }
def k21m0 : Method := { name := "<init>", desc := "()V", sig := { parameters := [], returnType := none }, accessFlags := 0, code := some k21c0 }
def k21c1 : Code := { maxStack := 4, maxLocals := 1, code := jdk_46_method_10_code, exceptionTable := #[], attributes := #[] }
def k21m1 : Method := { name := "iterator", desc := sn20, sig := { parameters := [], returnType := some (.object "java/util/Iterator") }, accessFlags := 1, code := some k21c1 }
/-- java/util/ImmutableCollections$AbstractImmutableList -/
def k21 : Class := { plain sn6 (some 20) with
  accessFlags := 1056
  interfaces := #[12, 14]
  cf := some (fileOf pool21 14 #[.nestHost 8] #[{ accessFlags := 0, nameIndex := 5, descriptorIndex := 6, attributes := #[] }, { accessFlags := 1, nameIndex := 81, descriptorIndex := 82, attributes := #[] }] 1056 2 #[77, 124] #[])
  fields := #[]
  methods := #[k21m0, k21m1]
  instanceTypes := #[]
  staticTypes := #[]
  resolved := Array.replicate 196 none
  statics := none }

def pool22 : Array CpInfo := pool [(1, .methodref 2 3), (0, .class_ 4), (0, .nameAndType 5 6), (0, u sn6), (0, u "<init>"), (0, u "()V"), (0, .methodref 8 9), (0, .class_ 10), (0, .nameAndType 11 12), (0, u "java/util/Objects"), (0, u "requireNonNull"), (0, u sn28), (0, .fieldref 14 15), (0, .class_ 16), (0, .nameAndType 17 18), (0, u sn4), (0, u "e0"), (0, u "Ljava/lang/Object;"), (0, .fieldref 20 21), (0, .class_ 22), (0, .nameAndType 23 18), (0, u sn7), (0, u "EMPTY"), (0, .fieldref 14 25), (0, .nameAndType 26 18), (0, u "e1"), (24, u "size"), (0, u "()I"), (17, .class_ 71), (0, u sn53), (4, u sn45), (8, u sn26), (4, u "get"), (0, u sn29)] 33

def k22c0 : Code := { maxStack := 2, maxLocals := 2, code := jdk_44_method_1_code, exceptionTable := #[], attributes := #[] }
def k22m0 : Method := { name := "<init>", desc := sn45, sig := { parameters := [(.object "java/lang/Object")], returnType := none }, accessFlags := 0, code := some k22c0 }
def k22c1 : Code := { maxStack := 2, maxLocals := 3, code := jdk_44_method_2_code, exceptionTable := #[], attributes := #[] }
def k22m1 : Method := { name := "<init>", desc := sn26, sig := { parameters := [(.object "java/lang/Object"), (.object "java/lang/Object")], returnType := none }, accessFlags := 0, code := some k22c1 }
def k22c2 : Code := { maxStack := 2, maxLocals := 1, code := jdk_44_method_3_code, exceptionTable := #[], attributes := #[] }
def k22m2 : Method := { name := "size", desc := "()I", sig := { parameters := [], returnType := some .int }, accessFlags := 1, code := some k22c2 }
def k22c3 : Code := { maxStack := 2, maxLocals := 2, code := jdk_44_method_5_code, exceptionTable := #[], attributes := #[] }
def k22m3 : Method := { name := "get", desc := sn29, sig := { parameters := [.int], returnType := some (.object "java/lang/Object") }, accessFlags := 1, code := some k22c3 }
/-- java/util/ImmutableCollections$List12 -/
def k22 : Class := { plain sn4 (some 21) with
  accessFlags := 48
  interfaces := #[2]
  cf := some (fileOf pool22 14 #[.nestHost 20] #[{ accessFlags := 0, nameIndex := 5, descriptorIndex := 76, attributes := #[] }, { accessFlags := 0, nameIndex := 5, descriptorIndex := 85, attributes := #[] }, { accessFlags := 1, nameIndex := 51, descriptorIndex := 52, attributes := #[] }, { accessFlags := 1, nameIndex := 90, descriptorIndex := 91, attributes := #[] }] 48 2 #[70] #[{ accessFlags := 18, nameIndex := 17, descriptorIndex := 18, attributes := #[] }, { accessFlags := 18, nameIndex := 26, descriptorIndex := 18, attributes := #[] }])
  fields := #[{ name := "e0", type := (.object "java/lang/Object"), accessFlags := 18, slot := 0, constantValue := 0 }, { name := "e1", type := (.object "java/lang/Object"), accessFlags := 18, slot := 1, constantValue := 0 }]
  methods := #[k22m0, k22m1, k22m2, k22m3]
  instanceTypes := #[(.object "java/lang/Object"), (.object "java/lang/Object")]
  staticTypes := #[]
  resolved := Array.replicate 125 none
  statics := none }

def pool23 : Array CpInfo := pool [(2, .class_ 4), (1, u sn6), (2, .fieldref 8 9), (0, .class_ 10), (0, .nameAndType 11 12), (0, u sn8), (0, u "elements"), (0, u "[Ljava/lang/Object;"), (2, u "allowNulls"), (0, u "Z"), (42, .class_ 60), (0, u sn53), (16, u "size"), (0, u "()I"), (35, .class_ 115), (0, u sn7)] 3

def k23c0 : Code := { maxStack := 1, maxLocals := 1, code := jdk_45_method_3_code, exceptionTable := #[], attributes := #[] }
def k23m0 : Method := { name := "size", desc := "()I", sig := { parameters := [], returnType := some .int }, accessFlags := 1, code := some k23c0 }
/-- java/util/ImmutableCollections$ListN -/
def k23 : Class := { plain sn8 (some 21) with
  accessFlags := 48
  interfaces := #[2]
  cf := some (fileOf pool23 8 #[.nestHost 114] #[{ accessFlags := 1, nameIndex := 77, descriptorIndex := 78, attributes := #[] }] 48 2 #[59] #[{ accessFlags := 18, nameIndex := 11, descriptorIndex := 12, attributes := #[] }, { accessFlags := 18, nameIndex := 15, descriptorIndex := 16, attributes := #[] }])
  fields := #[{ name := "elements", type := (.array (.object "java/lang/Object")), accessFlags := 18, slot := 0, constantValue := 0 }, { name := "allowNulls", type := .boolean, accessFlags := 18, slot := 1, constantValue := 0 }]
  methods := #[k23m0]
  instanceTypes := #[(.array (.object "java/lang/Object")), .boolean]
  staticTypes := #[]
  resolved := Array.replicate 119 none
  statics := none }

def pool24 : Array CpInfo := pool [(1, .class_ 2), (0, u sn58), (0, .class_ 4), (0, u "java/lang/Object")] 9

/-- java/lang/Appendable -/
def k24 : Class := { plain sn58 (some 0) with
  accessFlags := 1537
  interfaces := #[]
  cf := some (fileOf pool24 1 #[] #[] 1537 3 #[] #[])
  fields := #[]
  methods := #[]
  instanceTypes := #[]
  staticTypes := #[]
  resolved := Array.replicate 14 none
  statics := none }

def pool25 : Array CpInfo := pool [(1, .class_ 2), (0, u "java/lang/String"), (0, .methodref 4 5), (0, .class_ 6), (0, .nameAndType 7 8), (0, u "java/lang/Object"), (0, u "<init>"), (0, u "()V"), (1, .class_ 12), (1, u sn0), (0, u "EMPTYVALUE"), (0, u "[B"), (0, .fieldref 10 16), (0, .nameAndType 17 14), (0, u "value"), (0, .fieldref 1 19), (0, .nameAndType 20 21), (0, u "COMPACT_STRINGS"), (0, u "Z"), (0, .fieldref 10 23), (0, .nameAndType 24 25), (0, u "coder"), (0, u "B"), (6, .methodref 1 33), (0, .nameAndType 34 35), (0, u "length"), (0, u "()I"), (4, .methodref 1 41), (0, .nameAndType 24 42), (0, u "()B"), (2, u "append"), (0, u sn14), (1, .class_ 49), (0, u sn55), (19, u sn41), (5, u "maybeLatin1"), (3, .fieldref 10 80), (0, .nameAndType 81 82), (0, u "count"), (0, u "I"), (0, .methodref 10 84), (0, .nameAndType 85 86), (0, u "isLatin1"), (0, u "()Z"), (1, .class_ 90), (1, u sn24), (9, .methodref 10 101), (0, .nameAndType 102 103), (0, u sn42), (0, u "(I)V"), (87, .methodref 88 192), (0, .nameAndType 193 194), (0, u "canEncode"), (0, u "(C)Z"), (13, .methodref 10 209), (0, .nameAndType 210 211), (0, u "putStringAt"), (0, u sn39), (5, u "inflateIfNeededFor"), (2, .nameAndType 221 222), (0, u "getBytes"), (0, u "([BIB)V"), (69, u sn33), (104, .methodref 10 398), (0, .nameAndType 217 69), (0, .methodref 1 220), (3, u "()[B"), (40, .class_ 445), (0, u sn58), (106, u "getValue")] 56

def k25m0 : Method := { name := "<init>", desc := "()V", sig := { parameters := [], returnType := none }, accessFlags := 0, code := none }
def k25c1 : Code := { maxStack := 2, maxLocals := 2, code := jdk_68_method_2_code, exceptionTable := #[], attributes := #[] }
def k25m1 : Method := { name := "<init>", desc := "(I)V", sig := { parameters := [.int], returnType := none }, accessFlags := 0, code := some k25c1 }
def k25c2 : Code := { maxStack := 1, maxLocals := 1, code := jdk_68_method_6_code, exceptionTable := #[], attributes := #[] }
def k25m2 : Method := { name := "length", desc := "()I", sig := { parameters := [], returnType := some .int }, accessFlags := 1, code := some k25c2 }
def k25c3 : Code := { maxStack := 4, maxLocals := 3, code := jdk_68_method_9_code, exceptionTable := #[], attributes := #[] }
def k25m3 : Method := { name := sn42, desc := "(I)V", sig := { parameters := [.int], returnType := none }, accessFlags := 2, code := some k25c3 }
def k25c4 : Code := { maxStack := 3, maxLocals := 3, code := jdk_68_method_22_code, exceptionTable := #[], attributes := #[] }
def k25m4 : Method := { name := "append", desc := sn14, sig := { parameters := [(.object "java/lang/String")], returnType := some (.object sn0) }, accessFlags := 1, code := some k25c4 }
def k25c5 : Code := { maxStack := 5, maxLocals := 2, code := jdk_68_method_31_code, exceptionTable := #[], attributes := #[] }
def k25m5 : Method := { name := "append", desc := sn33, sig := { parameters := [.char], returnType := some (.object sn0) }, accessFlags := 1, code := some k25c5 }
def k25c6 : Code := { maxStack := 1, maxLocals := 1, code := jdk_68_method_64_code, exceptionTable := #[], attributes := #[] }
def k25m6 : Method := { name := "getValue", desc := "()[B", sig := { parameters := [], returnType := some (.array .byte) }, accessFlags := 16, code := some k25c6 }
def k25c7 : Code := { maxStack := 1, maxLocals := 1, code := jdk_68_method_68_code, exceptionTable := #[], attributes := #[] }
def k25m7 : Method := { name := "isLatin1", desc := "()Z", sig := { parameters := [], returnType := some .boolean }, accessFlags := 16, code := some k25c7 }
def k25c8 : Code := { maxStack := 2, maxLocals := 2, code := jdk_68_method_71_code, exceptionTable := #[], attributes := #[] }
def k25m8 : Method := { name := "inflateIfNeededFor", desc := sn41, sig := { parameters := [(.object "java/lang/String")], returnType := none }, accessFlags := 2, code := some k25c8 }
def k25c9 : Code := { maxStack := 4, maxLocals := 3, code := jdk_68_method_73_code, exceptionTable := #[], attributes := #[] }
def k25m9 : Method := { name := "putStringAt", desc := sn39, sig := { parameters := [.int, (.object "java/lang/String")], returnType := none }, accessFlags := 2, code := some k25c9 }
/-- java/lang/AbstractStringBuilder -/
def k25 : Class := { plain sn0 (some 0) with
  accessFlags := 1056
  interfaces := #[24, 4]
  cf := some (fileOf pool25 10 #[] #[{ accessFlags := 0, nameIndex := 7, descriptorIndex := 8, attributes := #[] }, { accessFlags := 0, nameIndex := 7, descriptorIndex := 103, attributes := #[] }, { accessFlags := 1, nameIndex := 34, descriptorIndex := 35, attributes := #[] }, { accessFlags := 2, nameIndex := 102, descriptorIndex := 103, attributes := #[] }, { accessFlags := 1, nameIndex := 45, descriptorIndex := 46, attributes := #[] }, { accessFlags := 1, nameIndex := 45, descriptorIndex := 292, attributes := #[] }, { accessFlags := 16, nameIndex := 552, descriptorIndex := 403, attributes := #[] }, { accessFlags := 16, nameIndex := 85, descriptorIndex := 86, attributes := #[] }, { accessFlags := 2, nameIndex := 217, descriptorIndex := 69, attributes := #[] }, { accessFlags := 2, nameIndex := 210, descriptorIndex := 211, attributes := #[] }] 1056 4 #[444, 48] #[{ accessFlags := 0, nameIndex := 17, descriptorIndex := 14, attributes := #[] }, { accessFlags := 0, nameIndex := 24, descriptorIndex := 25, attributes := #[] }, { accessFlags := 0, nameIndex := 75, descriptorIndex := 21, attributes := #[] }, { accessFlags := 0, nameIndex := 81, descriptorIndex := 82, attributes := #[] }, { accessFlags := 26, nameIndex := 13, descriptorIndex := 14, attributes := #[] }])
  fields := #[{ name := "value", type := (.array .byte), accessFlags := 0, slot := 0, constantValue := 0 }, { name := "coder", type := .byte, accessFlags := 0, slot := 1, constantValue := 0 }, { name := "maybeLatin1", type := .boolean, accessFlags := 0, slot := 2, constantValue := 0 }, { name := "count", type := .int, accessFlags := 0, slot := 3, constantValue := 0 }, { name := "EMPTYVALUE", type := (.array .byte), accessFlags := 26, slot := 0, constantValue := 0 }]
  methods := #[k25m0, k25m1, k25m2, k25m3, k25m4, k25m5, k25m6, k25m7, k25m8, k25m9]
  instanceTypes := #[(.array .byte), .byte, .boolean, .int]
  staticTypes := #[(.array .byte)]
  resolved := Array.replicate 609 none
  statics := none }

def pool26 : Array CpInfo := pool [(1, .methodref 2 3), (0, .class_ 4), (0, .nameAndType 5 6), (0, u sn0), (0, u "<init>"), (0, u "(I)V"), (11, .class_ 20), (1, u "java/lang/String"), (3, .class_ 26), (1, u sn5), (0, u "append"), (0, u sn12), (0, .methodref 2 30), (0, .nameAndType 27 31), (0, u sn14), (18, .methodref 2 51), (0, .nameAndType 27 52), (0, u sn33), (84, .methodref 18 138), (0, .nameAndType 5 139), (0, u sn37), (5, u "()V"), (10, u "()I"), (129, u sn32), (56, .methodref 2 344), (0, .nameAndType 345 156), (0, u "length"), (3, .class_ 350), (0, u sn58), (0, .class_ 352), (0, u sn53), (0, .class_ 354), (0, u sn56), (0, .class_ 356), (0, u sn55), (0, u "serialVersionUID"), (0, u "J"), (40, u "toString"), (0, u sn40)] 21

def k26c0 : Code := { maxStack := 2, maxLocals := 1, code := jdk_67_method_1_code, exceptionTable := #[], attributes := #[] }
def k26m0 : Method := { name := "<init>", desc := "()V", sig := { parameters := [], returnType := none }, accessFlags := 1, code := some k26c0 }
def k26c1 : Code := { maxStack := 2, maxLocals := 2, code := jdk_67_method_7_code, exceptionTable := #[], attributes := #[] }
def k26m1 : Method := { name := "append", desc := sn12, sig := { parameters := [(.object "java/lang/String")], returnType := some (.object sn5) }, accessFlags := 1, code := some k26c1 }
def k26c2 : Code := { maxStack := 2, maxLocals := 2, code := jdk_67_method_14_code, exceptionTable := #[], attributes := #[] }
def k26m2 : Method := { name := "append", desc := sn32, sig := { parameters := [.char], returnType := some (.object sn5) }, accessFlags := 1, code := some k26c2 }
def k26c3 : Code := { maxStack := 3, maxLocals := 1, code := jdk_67_method_42_code, exceptionTable := #[], attributes := #[] }
def k26m3 : Method := { name := "toString", desc := sn40, sig := { parameters := [], returnType := some (.object "java/lang/String") }, accessFlags := 1, code := some k26c3 }
def k26c4 : Code := { maxStack := 1, maxLocals := 1, code := jdk_67_method_93_code, exceptionTable := #[], attributes := #[] }
def k26m4 : Method := { name := "length", desc := "()I", sig := { parameters := [], returnType := some .int }, accessFlags := 4161, code := some k26c4 }
/-- java/lang/StringBuilder -/
def k26 : Class := { plain sn5 (some 25) with
  accessFlags := 49
  interfaces := #[24, 2, 3, 4]
  cf := some (fileOf pool26 24 #[] #[{ accessFlags := 1, nameIndex := 5, descriptorIndex := 145, attributes := #[] }, { accessFlags := 1, nameIndex := 27, descriptorIndex := 28, attributes := #[] }, { accessFlags := 1, nameIndex := 27, descriptorIndex := 286, attributes := #[] }, { accessFlags := 1, nameIndex := 399, descriptorIndex := 400, attributes := #[] }, { accessFlags := 4161, nameIndex := 345, descriptorIndex := 156, attributes := #[] }] 49 2 #[349, 351, 353, 355] #[{ accessFlags := 24, nameIndex := 357, descriptorIndex := 358, attributes := #[] }])
  fields := #[{ name := "serialVersionUID", type := .long, accessFlags := 24, slot := 0, constantValue := 0 }]
  methods := #[k26m0, k26m1, k26m2, k26m3, k26m4]
  instanceTypes := #[(.array .byte), .byte, .boolean, .int]
  staticTypes := #[.long]
  resolved := Array.replicate 422 none
  statics := none }

def pool27 : Array CpInfo := pool [(16, .class_ 18), (1, u "java/util/Iterator"), (0, u "hasNext"), (0, u "()Z"), (2, u "next"), (0, u sn17), (6, .class_ 32), (0, u "java/lang/Object")] 20

def k27m0 : Method := { name := "hasNext", desc := "()Z", sig := { parameters := [], returnType := some .boolean }, accessFlags := 1025, code := none }
def k27m1 : Method := { name := "next", desc := sn17, sig := { parameters := [], returnType := some (.object "java/lang/Object") }, accessFlags := 1025, code := none }
/-- java/util/Iterator -/
def k27 : Class := { plain "java/util/Iterator" (some 0) with
  accessFlags := 1537
  interfaces := #[]
  cf := some (fileOf pool27 16 #[] #[{ accessFlags := 1025, nameIndex := 19, descriptorIndex := 20, attributes := #[] }, { accessFlags := 1025, nameIndex := 23, descriptorIndex := 24, attributes := #[] }] 1537 31 #[] #[])
  fields := #[]
  methods := #[k27m0, k27m1]
  instanceTypes := #[]
  staticTypes := #[]
  resolved := Array.replicate 53 none
  statics := none }

def pool28 : Array CpInfo := pool [(1, .class_ 2), (0, u "java/util/ListIterator"), (0, .class_ 4), (0, u "java/lang/Object"), (0, .class_ 6), (0, u "java/util/Iterator")] 20

/-- java/util/ListIterator -/
def k28 : Class := { plain "java/util/ListIterator" (some 0) with
  accessFlags := 1537
  interfaces := #[27]
  cf := some (fileOf pool28 1 #[] #[] 1537 3 #[5] #[])
  fields := #[]
  methods := #[]
  instanceTypes := #[]
  staticTypes := #[]
  resolved := Array.replicate 27 none
  statics := none }

def pool29 : Array CpInfo := pool [(1, .methodref 2 3), (0, .class_ 4), (0, .nameAndType 5 6), (0, u "java/lang/Object"), (0, u "<init>"), (0, u "()V"), (0, .fieldref 8 9), (0, .class_ 10), (0, .nameAndType 11 12), (0, u sn3), (0, u "list"), (0, u "Ljava/util/List;"), (0, .fieldref 8 14), (0, .nameAndType 15 16), (0, u "size"), (0, u "I"), (0, .fieldref 8 18), (0, .nameAndType 19 16), (0, u "cursor"), (0, .fieldref 8 21), (0, .nameAndType 22 23), (0, u "isListIterator"), (0, u "Z"), (0, .interfaceMethodref 25 26), (0, .class_ 27), (0, .nameAndType 28 29), (0, u "java/util/List"), (0, u "get"), (0, u sn29), (6, .class_ 38), (1, u sn7), (2, .class_ 42), (0, u "java/util/ListIterator"), (4, u sn49), (11, u "hasNext"), (0, u "()Z"), (1, u "next"), (0, u sn17)] 22

def k29c0 : Code := { maxStack := 2, maxLocals := 3, code := jdk_53_method_1_code, exceptionTable := #[], attributes := #[] }
def k29m0 : Method := { name := "<init>", desc := sn49, sig := { parameters := [(.object "java/util/List"), .int], returnType := none }, accessFlags := 0, code := some k29c0 }
def k29c1 : Code := { maxStack := 2, maxLocals := 1, code := jdk_53_method_3_code, exceptionTable := #[], attributes := #[] }
def k29m1 : Method := { name := "hasNext", desc := "()Z", sig := { parameters := [], returnType := some .boolean }, accessFlags := 1, code := some k29c1 }
def k29c2 : Code := { maxStack := 3, maxLocals := 3, code := jdk_53_method_4_code, exceptionTable := #[{ startPc := 0, endPc := 24, handlerPc := 25, catchType := 30 }], attributes := #[] }
def k29m2 : Method := { name := "next", desc := sn17, sig := { parameters := [], returnType := some (.object "java/lang/Object") }, accessFlags := 1, code := some k29c2 }
/-- java/util/ImmutableCollections$ListItr -/
def k29 : Class := { plain sn3 (some 0) with
  accessFlags := 48
  interfaces := #[28]
  cf := some (fileOf pool29 8 #[.nestHost 36] #[{ accessFlags := 0, nameIndex := 5, descriptorIndex := 47, attributes := #[] }, { accessFlags := 1, nameIndex := 59, descriptorIndex := 60, attributes := #[] }, { accessFlags := 1, nameIndex := 62, descriptorIndex := 63, attributes := #[] }] 48 2 #[41] #[{ accessFlags := 18, nameIndex := 11, descriptorIndex := 12, attributes := #[] }, { accessFlags := 18, nameIndex := 15, descriptorIndex := 16, attributes := #[] }, { accessFlags := 18, nameIndex := 22, descriptorIndex := 23, attributes := #[] }, { accessFlags := 2, nameIndex := 19, descriptorIndex := 16, attributes := #[] }])
  fields := #[{ name := "list", type := (.object "java/util/List"), accessFlags := 18, slot := 0, constantValue := 0 }, { name := "size", type := .int, accessFlags := 18, slot := 1, constantValue := 0 }, { name := "isListIterator", type := .boolean, accessFlags := 18, slot := 2, constantValue := 0 }, { name := "cursor", type := .int, accessFlags := 2, slot := 3, constantValue := 0 }]
  methods := #[k29m0, k29m1, k29m2]
  instanceTypes := #[(.object "java/util/List"), .int, .boolean, .int]
  staticTypes := #[]
  resolved := Array.replicate 86 none
  statics := none }

def pool30 : Array CpInfo := pool [(4, .class_ 6), (1, u "java/lang/Object"), (0, u "<init>"), (0, u "()V"), (5, .class_ 16), (1, u sn24), (73, u "canEncode"), (14, u "(C)Z"), (15, u "$assertionsDisabled"), (0, u "Z"), (98, .class_ 223), (1, u "java/lang/StringLatin1$LinesSpliterator"), (156, u "toBytes"), (1, u "(C)[B"), (7, .class_ 391), (0, u "java/lang/StringLatin1$CharsSpliterator")] 3

def k30m0 : Method := { name := "<init>", desc := "()V", sig := { parameters := [], returnType := none }, accessFlags := 0, code := none }
def k30c1 : Code := { maxStack := 2, maxLocals := 1, code := jdk_43_method_3_code, exceptionTable := #[], attributes := #[] }
def k30m1 : Method := { name := "canEncode", desc := "(C)Z", sig := { parameters := [.char], returnType := some .boolean }, accessFlags := 9, code := some k30c1 }
def k30c2 : Code := { maxStack := 4, maxLocals := 1, code := jdk_43_method_46_code, exceptionTable := #[], attributes := #[] }
def k30m2 : Method := { name := "toBytes", desc := "(C)[B", sig := { parameters := [.char], returnType := some (.array .byte) }, accessFlags := 9, code := some k30c2 }
/-- java/lang/StringLatin1 -/
def k30 : Class := { plain sn24 (some 0) with
  accessFlags := 48
  interfaces := #[]
  cf := some (fileOf pool30 14 #[.nestMembers #[390, 221]] #[{ accessFlags := 0, nameIndex := 7, descriptorIndex := 8, attributes := #[] }, { accessFlags := 9, nameIndex := 90, descriptorIndex := 105, attributes := #[] }, { accessFlags := 9, nameIndex := 380, descriptorIndex := 382, attributes := #[] }] 48 4 #[] #[{ accessFlags := 4120, nameIndex := 121, descriptorIndex := 122, attributes := #[] }])
  fields := #[{ name := "$assertionsDisabled", type := .boolean, accessFlags := 4120, slot := 0, constantValue := 0 }]
  methods := #[k30m0, k30m1, k30m2]
  instanceTypes := #[]
  staticTypes := #[.boolean]
  resolved := Array.replicate 395 none
  statics := none }

def pool31 : Array CpInfo := pool [(2, .class_ 4), (1, u "java/lang/Object"), (0, u "<init>"), (0, u "()V"), (7, .class_ 16), (1, u "java/util/Arrays"), (57, .class_ 76), (1, u "java/util/Arrays$NaturalOrder"), (9, .methodref 2 87), (0, .nameAndType 88 89), (0, u "getClass"), (0, u "()Ljava/lang/Class;"), (20, .class_ 111), (0, u "[Ljava/lang/Object;"), (1, .class_ 115), (1, u "java/util/Arrays$LegacyMergeSort"), (1, u "Z"), (21, u "copyOfRange"), (10, .methodref 151 152), (0, .class_ 153), (0, .nameAndType 154 155), (0, u "java/lang/System"), (0, u "arraycopy"), (0, u sn34), (144, .methodref 14 301), (0, .nameAndType 302 303), (0, u "copyOf"), (0, u sn15), (0, .methodref 305 306), (0, .class_ 307), (0, .nameAndType 308 309), (0, u "java/lang/Math"), (0, u "min"), (0, u "(II)I"), (29, .methodref 14 340), (0, .nameAndType 341 342), (0, u "copyOfRangeByte"), (0, u "([BII)[B"), (0, .methodref 14 344), (0, .nameAndType 345 346), (0, u "checkLength"), (0, u "(II)V"), (28, .class_ 376), (0, u "java/util/Arrays$ArrayList"), (68, u "$assertionsDisabled"), (269, u "MIN_ARRAY_SORT_GRAN"), (0, u "I"), (2, u "INSERTIONSORT_THRESHOLD"), (140, u sn23), (8, u "([BI)[B"), (105, .class_ 976), (0, u "java/util/Arrays$ArrayItr")] 52

def k31m0 : Method := { name := "<init>", desc := "()V", sig := { parameters := [], returnType := none }, accessFlags := 2, code := none }
def k31c1 : Code := { maxStack := 3, maxLocals := 2, code := jdk_65_method_119_code, exceptionTable := #[], attributes := #[] }
def k31m1 : Method := { name := "copyOf", desc := sn23, sig := { parameters := [(.array (.object "java/lang/Object")), .int], returnType := some (.array (.object "java/lang/Object")) }, accessFlags := 9, code := some k31c1 }
def k31c2 : Code := { maxStack := 6, maxLocals := 4, code := jdk_65_method_120_code, exceptionTable := #[], attributes := #[] }
def k31m2 : Method := { name := "copyOf", desc := sn15, sig := { parameters := [(.array (.object "java/lang/Object")), .int, (.object "java/lang/Class")], returnType := some (.array (.object "java/lang/Object")) }, accessFlags := 9, code := some k31c2 }
def k31c3 : Code := { maxStack := 6, maxLocals := 3, code := jdk_65_method_121_code, exceptionTable := #[], attributes := #[] }
def k31m3 : Method := { name := "copyOf", desc := "([BI)[B", sig := { parameters := [(.array .byte), .int], returnType := some (.array .byte) }, accessFlags := 9, code := some k31c3 }
def k31c4 : Code := { maxStack := 4, maxLocals := 2, code := jdk_65_method_131_code, exceptionTable := #[], attributes := #[] }
def k31m4 : Method := { name := "checkLength", desc := "(II)V", sig := { parameters := [.int, .int], returnType := none }, accessFlags := 10, code := some k31c4 }
def k31c5 : Code := { maxStack := 3, maxLocals := 3, code := jdk_65_method_132_code, exceptionTable := #[], attributes := #[] }
def k31m5 : Method := { name := "copyOfRange", desc := "([BII)[B", sig := { parameters := [(.array .byte), .int, .int], returnType := some (.array .byte) }, accessFlags := 9, code := some k31c5 }
def k31c6 : Code := { maxStack := 6, maxLocals := 5, code := jdk_65_method_133_code, exceptionTable := #[], attributes := #[] }
def k31m6 : Method := { name := "copyOfRangeByte", desc := "([BII)[B", sig := { parameters := [(.array .byte), .int, .int], returnType := some (.array .byte) }, accessFlags := 10, code := some k31c6 }
/-- java/util/Arrays -/
def k31 : Class := { plain "java/util/Arrays" (some 0) with
  accessFlags := 49
  interfaces := #[]
  cf := some (fileOf pool31 14 #[.nestMembers #[975, 375, 113, 74]] #[{ accessFlags := 2, nameIndex := 5, descriptorIndex := 6, attributes := #[] }, { accessFlags := 9, nameIndex := 302, descriptorIndex := 860, attributes := #[] }, { accessFlags := 9, nameIndex := 302, descriptorIndex := 303, attributes := #[] }, { accessFlags := 9, nameIndex := 302, descriptorIndex := 869, attributes := #[] }, { accessFlags := 10, nameIndex := 345, descriptorIndex := 346, attributes := #[] }, { accessFlags := 9, nameIndex := 139, descriptorIndex := 342, attributes := #[] }, { accessFlags := 10, nameIndex := 341, descriptorIndex := 342, attributes := #[] }] 49 2 #[] #[{ accessFlags := 26, nameIndex := 715, descriptorIndex := 716, attributes := #[] }, { accessFlags := 26, nameIndex := 719, descriptorIndex := 716, attributes := #[] }, { accessFlags := 4120, nameIndex := 445, descriptorIndex := 117, attributes := #[] }])
  fields := #[{ name := "MIN_ARRAY_SORT_GRAN", type := .int, accessFlags := 26, slot := 0, constantValue := 0 }, { name := "INSERTIONSORT_THRESHOLD", type := .int, accessFlags := 26, slot := 1, constantValue := 0 }, { name := "$assertionsDisabled", type := .boolean, accessFlags := 4120, slot := 2, constantValue := 0 }]
  methods := #[k31m0, k31m1, k31m2, k31m3, k31m4, k31m5, k31m6]
  instanceTypes := #[]
  staticTypes := #[.int, .int, .boolean]
  resolved := Array.replicate 1029 none
  statics := none }

def pool32 : Array CpInfo := pool [(1, .class_ 2), (0, u "java/lang/Math"), (1, .class_ 6), (1, u "java/lang/Object"), (0, u "<init>"), (0, u "()V"), (89, .class_ 100), (1, u "java/lang/Math$RandomNumberGeneratorHolder"), (71, u "negativeZeroFloatBits"), (0, u "J"), (2, u "negativeZeroDoubleBits"), (21, u "max"), (2, u "min"), (43, u "$assertionsDisabled"), (0, u "Z"), (88, u "(II)I"), (2, u "twoToTheDoubleScaleDown"), (0, u "D"), (4, u "twoToTheDoubleScaleUp"), (9, u "E"), (3, u "PI"), (2, u "TAU"), (2, u "DEGREES_TO_RADIANS"), (0, u "RADIANS_TO_DEGREES")] 94

def k32m0 : Method := { name := "<init>", desc := "()V", sig := { parameters := [], returnType := none }, accessFlags := 2, code := none }
def k32c1 : Code := { maxStack := 2, maxLocals := 2, code := jdk_29_method_65_code, exceptionTable := #[], attributes := #[] }
def k32m1 : Method := { name := "max", desc := "(II)I", sig := { parameters := [.int, .int], returnType := some .int }, accessFlags := 9, code := some k32c1 }
def k32c2 : Code := { maxStack := 2, maxLocals := 2, code := jdk_29_method_69_code, exceptionTable := #[], attributes := #[] }
def k32m2 : Method := { name := "min", desc := "(II)I", sig := { parameters := [.int, .int], returnType := some .int }, accessFlags := 9, code := some k32c2 }
/-- java/lang/Math -/
def k32 : Class := { plain "java/lang/Math" (some 0) with
  accessFlags := 49
  interfaces := #[]
  cf := some (fileOf pool32 1 #[.nestMembers #[98]] #[{ accessFlags := 2, nameIndex := 7, descriptorIndex := 8, attributes := #[] }, { accessFlags := 9, nameIndex := 198, descriptorIndex := 335, attributes := #[] }, { accessFlags := 9, nameIndex := 201, descriptorIndex := 335, attributes := #[] }] 49 4 #[] #[{ accessFlags := 25, nameIndex := 354, descriptorIndex := 339, attributes := #[] }, { accessFlags := 25, nameIndex := 358, descriptorIndex := 339, attributes := #[] }, { accessFlags := 25, nameIndex := 361, descriptorIndex := 339, attributes := #[] }, { accessFlags := 26, nameIndex := 364, descriptorIndex := 339, attributes := #[] }, { accessFlags := 26, nameIndex := 365, descriptorIndex := 339, attributes := #[] }, { accessFlags := 26, nameIndex := 172, descriptorIndex := 173, attributes := #[] }, { accessFlags := 26, nameIndex := 176, descriptorIndex := 173, attributes := #[] }, { accessFlags := 8, nameIndex := 344, descriptorIndex := 339, attributes := #[] }, { accessFlags := 8, nameIndex := 338, descriptorIndex := 339, attributes := #[] }, { accessFlags := 4120, nameIndex := 245, descriptorIndex := 246, attributes := #[] }])
  fields := #[{ name := "E", type := .double, accessFlags := 25, slot := 0, constantValue := 0 }, { name := "PI", type := .double, accessFlags := 25, slot := 1, constantValue := 0 }, { name := "TAU", type := .double, accessFlags := 25, slot := 2, constantValue := 0 }, { name := "DEGREES_TO_RADIANS", type := .double, accessFlags := 26, slot := 3, constantValue := 0 }, { name := "RADIANS_TO_DEGREES", type := .double, accessFlags := 26, slot := 4, constantValue := 0 }, { name := "negativeZeroFloatBits", type := .long, accessFlags := 26, slot := 5, constantValue := 0 }, { name := "negativeZeroDoubleBits", type := .long, accessFlags := 26, slot := 6, constantValue := 0 }, { name := "twoToTheDoubleScaleUp", type := .double, accessFlags := 8, slot := 7, constantValue := 0 }, { name := "twoToTheDoubleScaleDown", type := .double, accessFlags := 8, slot := 8, constantValue := 0 }, { name := "$assertionsDisabled", type := .boolean, accessFlags := 4120, slot := 9, constantValue := 0 }]
  methods := #[k32m0, k32m1, k32m2]
  instanceTypes := #[]
  staticTypes := #[.double, .double, .double, .double, .double, .long, .long, .double, .double, .boolean]
  resolved := Array.replicate 460 none
  statics := none }

def pool33 : Array CpInfo := pool [(2, .class_ 4), (1, u "java/lang/Object"), (0, u "<init>"), (0, u "()V"), (1, .class_ 10), (1, u "java/lang/System"), (0, u "allowSecurityManager"), (0, u "I"), (16, u "cons"), (0, u "Ljava/io/Console;"), (77, .class_ 110), (1, u "java/lang/System$CallersHolder"), (43, u "initialErrStream"), (0, u "Ljava/io/PrintStream;"), (19, u "security"), (0, u "Ljava/lang/SecurityManager;"), (31, .class_ 209), (0, u "java/lang/System$1"), (7, u "props"), (0, u "Ljava/util/Properties;"), (2, u "lineSeparator"), (0, u "Ljava/lang/String;"), (96, .class_ 321), (1, u "java/lang/System$LoggerFinder"), (5, .class_ 328), (0, u "java/lang/System$Logger"), (67, u "err"), (2, u "out"), (91, u "notSupportedJnuEncoding"), (15, u "in"), (17, u "initialIn"), (0, u "Ljava/io/InputStream;"), (35, u "bootLayer"), (0, u "Ljava/lang/ModuleLayer;"), (99, .class_ 664), (0, u "java/lang/System$2"), (9, u "NEVER"), (2, u "MAYBE"), (49, u "arraycopy"), (0, u sn34), (72, .class_ 802), (0, u "java/lang/System$Logger$Level")] 31

def k33m0 : Method := { name := "<init>", desc := "()V", sig := { parameters := [], returnType := none }, accessFlags := 2, code := none }
def k33m1 : Method := { name := "arraycopy", desc := sn34, sig := { parameters := [(.object "java/lang/Object"), .int, (.object "java/lang/Object"), .int, .int], returnType := none }, accessFlags := 265, code := none }
/-- java/lang/System -/
def k33 : Class := { plain "java/lang/System" (some 0) with
  accessFlags := 49
  interfaces := #[]
  cf := some (fileOf pool33 8 #[.nestMembers #[319, 327, 801, 108, 663, 208]] #[{ accessFlags := 2, nameIndex := 5, descriptorIndex := 6, attributes := #[] }, { accessFlags := 265, nameIndex := 727, descriptorIndex := 728, attributes := #[] }] 49 2 #[] #[{ accessFlags := 25, nameIndex := 507, descriptorIndex := 526, attributes := #[] }, { accessFlags := 25, nameIndex := 399, descriptorIndex := 155, attributes := #[] }, { accessFlags := 25, nameIndex := 396, descriptorIndex := 155, attributes := #[] }, { accessFlags := 10, nameIndex := 525, descriptorIndex := 526, attributes := #[] }, { accessFlags := 26, nameIndex := 674, descriptorIndex := 12, attributes := #[] }, { accessFlags := 26, nameIndex := 677, descriptorIndex := 12, attributes := #[] }, { accessFlags := 10, nameIndex := 11, descriptorIndex := 12, attributes := #[] }, { accessFlags := 74, nameIndex := 175, descriptorIndex := 176, attributes := #[] }, { accessFlags := 10, nameIndex := 491, descriptorIndex := 222, attributes := #[] }, { accessFlags := 74, nameIndex := 29, descriptorIndex := 30, attributes := #[] }, { accessFlags := 74, nameIndex := 154, descriptorIndex := 155, attributes := #[] }, { accessFlags := 10, nameIndex := 217, descriptorIndex := 218, attributes := #[] }, { accessFlags := 10, nameIndex := 221, descriptorIndex := 222, attributes := #[] }, { accessFlags := 8, nameIndex := 562, descriptorIndex := 563, attributes := #[] }])
  fields := #[{ name := "in", type := (.object "java/io/InputStream"), accessFlags := 25, slot := 0, constantValue := 0 }, { name := "out", type := (.object "java/io/PrintStream"), accessFlags := 25, slot := 1, constantValue := 0 }, { name := "err", type := (.object "java/io/PrintStream"), accessFlags := 25, slot := 2, constantValue := 0 }, { name := "initialIn", type := (.object "java/io/InputStream"), accessFlags := 10, slot := 3, constantValue := 0 }, { name := "NEVER", type := .int, accessFlags := 26, slot := 4, constantValue := 0 }, { name := "MAYBE", type := .int, accessFlags := 26, slot := 5, constantValue := 0 }, { name := "allowSecurityManager", type := .int, accessFlags := 10, slot := 6, constantValue := 0 }, { name := "security", type := (.object "java/lang/SecurityManager"), accessFlags := 74, slot := 7, constantValue := 0 }, { name := "notSupportedJnuEncoding", type := (.object "java/lang/String"), accessFlags := 10, slot := 8, constantValue := 0 }, { name := "cons", type := (.object "java/io/Console"), accessFlags := 74, slot := 9, constantValue := 0 }, { name := "initialErrStream", type := (.object "java/io/PrintStream"), accessFlags := 74, slot := 10, constantValue := 0 }, { name := "props", type := (.object "java/util/Properties"), accessFlags := 10, slot := 11, constantValue := 0 }, { name := "lineSeparator", type := (.object "java/lang/String"), accessFlags := 10, slot := 12, constantValue := 0 }, { name := "bootLayer", type := (.object "java/lang/ModuleLayer"), accessFlags := 8, slot := 13, constantValue := 0 }]
  methods := #[k33m0, k33m1]
  instanceTypes := #[]
  staticTypes := #[(.object "java/io/InputStream"), (.object "java/io/PrintStream"), (.object "java/io/PrintStream"), (.object "java/io/InputStream"), .int, .int, .int, (.object "java/lang/SecurityManager"), (.object "java/lang/String"), (.object "java/io/Console"), (.object "java/io/PrintStream"), (.object "java/util/Properties"), (.object "java/lang/String"), (.object "java/lang/ModuleLayer")]
  resolved := Array.replicate 834 none
  statics := none }

def pool34 : Array CpInfo := pool [(2, .class_ 4), (1, u "java/lang/Object"), (0, u "<init>"), (0, u "()V"), (14, .class_ 23), (1, u sn43), (0, u "US_ASCII"), (0, u sn51), (7, u "ISO_8859_1"), (7, u "UTF_8"), (5, u "UTF_16BE"), (5, u "UTF_16LE"), (5, u "UTF_16")] 8

def k34m0 : Method := { name := "<init>", desc := "()V", sig := { parameters := [], returnType := none }, accessFlags := 2, code := none }
/-- java/nio/charset/StandardCharsets -/
def k34 : Class := { plain sn43 (some 0) with
  accessFlags := 49
  interfaces := #[]
  cf := some (fileOf pool34 21 #[] #[{ accessFlags := 2, nameIndex := 5, descriptorIndex := 6, attributes := #[] }] 49 2 #[] #[{ accessFlags := 25, nameIndex := 24, descriptorIndex := 25, attributes := #[] }, { accessFlags := 25, nameIndex := 33, descriptorIndex := 25, attributes := #[] }, { accessFlags := 25, nameIndex := 41, descriptorIndex := 25, attributes := #[] }, { accessFlags := 25, nameIndex := 47, descriptorIndex := 25, attributes := #[] }, { accessFlags := 25, nameIndex := 53, descriptorIndex := 25, attributes := #[] }, { accessFlags := 25, nameIndex := 59, descriptorIndex := 25, attributes := #[] }])
  fields := #[{ name := "US_ASCII", type := (.object sn16), accessFlags := 25, slot := 0, constantValue := 0 }, { name := "ISO_8859_1", type := (.object sn16), accessFlags := 25, slot := 1, constantValue := 0 }, { name := "UTF_8", type := (.object sn16), accessFlags := 25, slot := 2, constantValue := 0 }, { name := "UTF_16BE", type := (.object sn16), accessFlags := 25, slot := 3, constantValue := 0 }, { name := "UTF_16LE", type := (.object sn16), accessFlags := 25, slot := 4, constantValue := 0 }, { name := "UTF_16", type := (.object sn16), accessFlags := 25, slot := 5, constantValue := 0 }]
  methods := #[k34m0]
  instanceTypes := #[]
  staticTypes := #[(.object sn16), (.object sn16), (.object sn16), (.object sn16), (.object sn16), (.object sn16)]
  resolved := Array.replicate 68 none
  statics := some 3 }

def pool35 : Array CpInfo := pool [(18, .class_ 20), (1, u sn16), (0, u "cache1"), (0, u "[Ljava/lang/Object;"), (2, u "cache2"), (0, .class_ 27), (0, u "java/lang/Object"), (0, .class_ 29), (0, u "java/nio/charset/Charset$1"), (4, .class_ 36), (1, u "java/nio/charset/Charset$ThreadTrackHolder"), (21, .class_ 59), (0, u "java/nio/charset/Charset$2"), (11, .class_ 73), (1, u "java/nio/charset/Charset$ExtendedProviderHolder"), (22, u "standardProvider"), (0, u "Ljava/nio/charset/spi/CharsetProvider;"), (29, u "name"), (7, .class_ 136), (0, u "java/nio/charset/Charset$3"), (5, u "defaultCharset"), (0, u sn51), (14, u "zeroAliases"), (0, u "[Ljava/lang/String;"), (29, u "Ljava/lang/String;"), (2, u "aliases"), (2, u "aliasSet"), (0, u "Ljava/util/Set;"), (82, .class_ 280), (0, u sn56), (84, .class_ 366), (0, u "java/nio/charset/Charset$ExtendedProviderHolder$1")] 3

/-- java/nio/charset/Charset -/
def k35 : Class := { plain sn16 (some 0) with
  accessFlags := 1057
  interfaces := #[3]
  cf := some (fileOf pool35 18 #[.nestMembers #[71, 365, 34, 135, 58, 28]] #[] 1057 26 #[279] #[{ accessFlags := 26, nameIndex := 96, descriptorIndex := 97, attributes := #[] }, { accessFlags := 26, nameIndex := 158, descriptorIndex := 159, attributes := #[] }, { accessFlags := 74, nameIndex := 21, descriptorIndex := 22, attributes := #[] }, { accessFlags := 74, nameIndex := 25, descriptorIndex := 22, attributes := #[] }, { accessFlags := 10, nameIndex := 142, descriptorIndex := 143, attributes := #[] }, { accessFlags := 18, nameIndex := 127, descriptorIndex := 189, attributes := #[] }, { accessFlags := 18, nameIndex := 192, descriptorIndex := 159, attributes := #[] }, { accessFlags := 2, nameIndex := 195, descriptorIndex := 196, attributes := #[] }])
  fields := #[{ name := "standardProvider", type := (.object "java/nio/charset/spi/CharsetProvider"), accessFlags := 26, slot := 0, constantValue := 0 }, { name := "zeroAliases", type := (.array (.object "java/lang/String")), accessFlags := 26, slot := 1, constantValue := 0 }, { name := "cache1", type := (.array (.object "java/lang/Object")), accessFlags := 74, slot := 2, constantValue := 0 }, { name := "cache2", type := (.array (.object "java/lang/Object")), accessFlags := 74, slot := 3, constantValue := 0 }, { name := "defaultCharset", type := (.object sn16), accessFlags := 10, slot := 4, constantValue := 0 }, { name := "name", type := (.object "java/lang/String"), accessFlags := 18, slot := 0, constantValue := 0 }, { name := "aliases", type := (.array (.object "java/lang/String")), accessFlags := 18, slot := 1, constantValue := 0 }, { name := "aliasSet", type := (.object "java/util/Set"), accessFlags := 2, slot := 2, constantValue := 0 }]
  methods := #[]
  instanceTypes := #[(.object "java/lang/String"), (.array (.object "java/lang/String")), (.object "java/util/Set")]
  staticTypes := #[(.object "java/nio/charset/spi/CharsetProvider"), (.array (.object "java/lang/String")), (.array (.object "java/lang/Object")), (.array (.object "java/lang/Object")), (.object sn16)]
  resolved := Array.replicate 370 none
  statics := none }

def pool36 : Array CpInfo := pool [(1, .class_ 2), (0, u "sun/nio/cs/HistoricallyNamedCharset"), (0, .class_ 4), (0, u "java/lang/Object")] 4

/-- sun/nio/cs/HistoricallyNamedCharset -/
def k36 : Class := { plain "sun/nio/cs/HistoricallyNamedCharset" (some 0) with
  accessFlags := 1537
  interfaces := #[]
  cf := some (fileOf pool36 1 #[] #[] 1537 3 #[] #[])
  fields := #[]
  methods := #[]
  instanceTypes := #[]
  staticTypes := #[]
  resolved := Array.replicate 9 none
  statics := none }

def pool37 : Array CpInfo := pool [(2, .class_ 4), (1, u sn16), (130, .class_ 136), (0, u "sun/nio/cs/Unicode"), (0, .class_ 138), (0, u "sun/nio/cs/HistoricallyNamedCharset")] 15

/-- sun/nio/cs/Unicode -/
def k37 : Class := { plain "sun/nio/cs/Unicode" (some 35) with
  accessFlags := 1056
  interfaces := #[36]
  cf := some (fileOf pool37 135 #[] #[] 1056 2 #[137] #[])
  fields := #[]
  methods := #[]
  instanceTypes := #[(.object "java/lang/String"), (.array (.object "java/lang/String")), (.object "java/util/Set")]
  staticTypes := #[]
  resolved := Array.replicate 154 none
  statics := none }

def pool38 : Array CpInfo := pool [(10, .class_ 12), (1, u "sun/nio/cs/Unicode"), (0, u "<init>"), (3, .class_ 18), (0, u "sun/nio/cs/UTF_8$Decoder"), (3, .class_ 23), (0, u "sun/nio/cs/UTF_8$Encoder"), (15, .class_ 40), (0, u "sun/nio/cs/UTF_8"), (2, u "()V"), (2, u "INSTANCE"), (0, u "Lsun/nio/cs/UTF_8;"), (8, u "JLA"), (0, u "Ljdk/internal/access/JavaLangAccess;")] 26

def k38m0 : Method := { name := "<init>", desc := "()V", sig := { parameters := [], returnType := none }, accessFlags := 1, code := none }
/-- sun/nio/cs/UTF_8 -/
def k38 : Class := { plain "sun/nio/cs/UTF_8" (some 37) with
  accessFlags := 49
  interfaces := #[]
  cf := some (fileOf pool38 39 #[.nestMembers #[22, 17]] #[{ accessFlags := 1, nameIndex := 13, descriptorIndex := 43, attributes := #[] }] 49 10 #[] #[{ accessFlags := 25, nameIndex := 46, descriptorIndex := 47, attributes := #[] }, { accessFlags := 26, nameIndex := 56, descriptorIndex := 57, attributes := #[] }])
  fields := #[{ name := "INSTANCE", type := (.object "sun/nio/cs/UTF_8"), accessFlags := 25, slot := 0, constantValue := 0 }, { name := "JLA", type := (.object sn54), accessFlags := 26, slot := 1, constantValue := 0 }]
  methods := #[k38m0]
  instanceTypes := #[(.object "java/lang/String"), (.array (.object "java/lang/String")), (.object "java/util/Set")]
  staticTypes := #[(.object "sun/nio/cs/UTF_8"), (.object sn54)]
  resolved := Array.replicate 84 none
  statics := some 4 }

def pool39 : Array CpInfo := pool [(2, .class_ 4), (1, u "java/lang/Object"), (0, u "<init>"), (0, u "()V"), (0, .methodref 8 9), (0, .class_ 10), (0, .nameAndType 11 12), (0, u sn30), (0, u "countPositives"), (0, u "([BII)I"), (11, u "hasNegatives"), (0, u "([BII)Z")] 23

def k39m0 : Method := { name := "<init>", desc := "()V", sig := { parameters := [], returnType := none }, accessFlags := 2, code := none }
def k39c1 : Code := { maxStack := 3, maxLocals := 3, code := jdk_123_method_2_code, exceptionTable := #[], attributes := #[] }
def k39m1 : Method := { name := "hasNegatives", desc := "([BII)Z", sig := { parameters := [(.array .byte), .int, .int], returnType := some .boolean }, accessFlags := 9, code := some k39c1 }
def k39c2 : Code := { maxStack := 2, maxLocals := 5, code := jdk_123_method_3_code, exceptionTable := #[], attributes := #[] }
def k39m2 : Method := { name := "countPositives", desc := "([BII)I", sig := { parameters := [(.array .byte), .int, .int], returnType := some .int }, accessFlags := 9, code := some k39c2 }
/-- java/lang/StringCoding -/
def k39 : Class := { plain sn30 (some 0) with
  accessFlags := 32
  interfaces := #[]
  cf := some (fileOf pool39 8 #[] #[{ accessFlags := 2, nameIndex := 5, descriptorIndex := 6, attributes := #[] }, { accessFlags := 9, nameIndex := 24, descriptorIndex := 25, attributes := #[] }, { accessFlags := 9, nameIndex := 11, descriptorIndex := 12, attributes := #[] }] 32 2 #[] #[])
  fields := #[]
  methods := #[k39m0, k39m1, k39m2]
  instanceTypes := #[]
  staticTypes := #[]
  resolved := Array.replicate 49 none
  statics := none }

def pool40 : Array CpInfo := pool [(2, .class_ 4), (1, u "java/lang/Object"), (0, u "<init>"), (0, u "()V"), (35, .class_ 44), (1, u "java/util/Objects"), (0, u "requireNonNull"), (0, u sn28)] 137

def k40m0 : Method := { name := "<init>", desc := "()V", sig := { parameters := [], returnType := none }, accessFlags := 2, code := none }
def k40c1 : Code := { maxStack := 2, maxLocals := 1, code := jdk_31_method_10_code, exceptionTable := #[], attributes := #[] }
def k40m1 : Method := { name := "requireNonNull", desc := sn28, sig := { parameters := [(.object "java/lang/Object")], returnType := some (.object "java/lang/Object") }, accessFlags := 9, code := some k40c1 }
/-- java/util/Objects -/
def k40 : Class := { plain "java/util/Objects" (some 0) with
  accessFlags := 49
  interfaces := #[]
  cf := some (fileOf pool40 42 #[] #[{ accessFlags := 2, nameIndex := 5, descriptorIndex := 6, attributes := #[] }, { accessFlags := 9, nameIndex := 45, descriptorIndex := 46, attributes := #[] }] 49 2 #[] #[])
  fields := #[]
  methods := #[k40m0, k40m1]
  instanceTypes := #[]
  staticTypes := #[]
  resolved := Array.replicate 184 none
  statics := none }

def pool41 : Array CpInfo := pool [(6, .class_ 8), (1, u "java/lang/Object"), (0, u "<init>"), (0, u "()V"), (0, .methodref 12 13), (0, .class_ 14), (0, .nameAndType 15 16), (0, u sn9), (0, u "newBytesLength"), (0, u "(I)I"), (3, .integer 1073741823), (25, u "$assertionsDisabled"), (0, u "Z"), (13, u "HI_BYTE_SHIFT"), (0, u "I"), (2, u "LO_BYTE_SHIFT"), (43, u "newBytesFor"), (0, u "(I)[B"), (4, .methodref 12 116), (0, .nameAndType 117 118), (0, u "compress"), (0, u "([CI[BII)I"), (3, u "([CII)[B"), (138, u "coderFromArrayLen"), (0, u "([BI)B"), (106, .class_ 371), (1, u "java/lang/StringUTF16$LinesSpliterator"), (58, u "MAX_LENGTH"), (196, .class_ 628), (0, u "java/lang/StringUTF16$CodePointsSpliterator"), (0, .class_ 630), (0, u "java/lang/StringUTF16$CharsSpliterator")] 4

def k41m0 : Method := { name := "<init>", desc := "()V", sig := { parameters := [], returnType := none }, accessFlags := 0, code := none }
def k41c1 : Code := { maxStack := 1, maxLocals := 1, code := jdk_52_method_2_code, exceptionTable := #[], attributes := #[] }
def k41m1 : Method := { name := "newBytesFor", desc := "(I)[B", sig := { parameters := [.int], returnType := some (.array .byte) }, accessFlags := 9, code := some k41c1 }
def k41c2 : Code := { maxStack := 4, maxLocals := 1, code := jdk_52_method_3_code, exceptionTable := #[], attributes := #[] }
def k41m2 : Method := { name := "newBytesLength", desc := "(I)I", sig := { parameters := [.int], returnType := some .int }, accessFlags := 9, code := some k41c2 }
def k41c3 : Code := { maxStack := 2, maxLocals := 2, code := jdk_52_method_15_code, exceptionTable := #[], attributes := #[] }
def k41m3 : Method := { name := "coderFromArrayLen", desc := "([BI)B", sig := { parameters := [(.array .byte), .int], returnType := some .byte }, accessFlags := 8, code := some k41c3 }
def k41c4 : Code := { maxStack := 5, maxLocals := 6, code := jdk_52_method_16_code, exceptionTable := #[], attributes := #[] }
def k41m4 : Method := { name := "compress", desc := "([CII)[B", sig := { parameters := [(.array .char), .int, .int], returnType := some (.array .byte) }, accessFlags := 9, code := some k41c4 }
def k41c5 : Code := { maxStack := 3, maxLocals := 7, code := jdk_52_method_21_code, exceptionTable := #[], attributes := #[] }
def k41m5 : Method := { name := "compress", desc := "([CI[BII)I", sig := { parameters := [(.array .char), .int, (.array .byte), .int, .int], returnType := some .int }, accessFlags := 9, code := some k41c5 }
/-- java/lang/StringUTF16 -/
def k41 : Class := { plain sn9 (some 0) with
  accessFlags := 48
  interfaces := #[]
  cf := some (fileOf pool41 12 #[.nestMembers #[627, 629, 369]] #[{ accessFlags := 0, nameIndex := 9, descriptorIndex := 10, attributes := #[] }, { accessFlags := 9, nameIndex := 109, descriptorIndex := 110, attributes := #[] }, { accessFlags := 9, nameIndex := 15, descriptorIndex := 16, attributes := #[] }, { accessFlags := 8, nameIndex := 261, descriptorIndex := 262, attributes := #[] }, { accessFlags := 9, nameIndex := 117, descriptorIndex := 122, attributes := #[] }, { accessFlags := 9, nameIndex := 117, descriptorIndex := 118, attributes := #[] }] 48 6 #[] #[{ accessFlags := 26, nameIndex := 61, descriptorIndex := 62, attributes := #[] }, { accessFlags := 26, nameIndex := 65, descriptorIndex := 62, attributes := #[] }, { accessFlags := 24, nameIndex := 430, descriptorIndex := 62, attributes := #[] }, { accessFlags := 4120, nameIndex := 46, descriptorIndex := 47, attributes := #[] }])
  fields := #[{ name := "HI_BYTE_SHIFT", type := .int, accessFlags := 26, slot := 0, constantValue := 0 }, { name := "LO_BYTE_SHIFT", type := .int, accessFlags := 26, slot := 1, constantValue := 0 }, { name := "MAX_LENGTH", type := .int, accessFlags := 24, slot := 2, constantValue := 0 }, { name := "$assertionsDisabled", type := .boolean, accessFlags := 4120, slot := 3, constantValue := 0 }]
  methods := #[k41m0, k41m1, k41m2, k41m3, k41m4, k41m5]
  instanceTypes := #[]
  staticTypes := #[.int, .int, .int, .boolean]
  resolved := Array.replicate 635 none
  statics := none }

def pool42 : Array CpInfo := pool [(2, .class_ 4), (1, u "java/lang/Object"), (0, u "<init>"), (0, u "()V"), (17, .class_ 26), (1, u "jdk/internal/util/Preconditions"), (28, .class_ 56), (0, u "jdk/internal/util/Preconditions$4"), (57, .class_ 115), (0, u "jdk/internal/util/Preconditions$1"), (7, u "SIOOBE_FORMATTER"), (0, u "Ljava/util/function/BiFunction;"), (0, .class_ 126), (0, u "jdk/internal/util/Preconditions$2"), (3, u "AIOOBE_FORMATTER"), (0, .class_ 132), (0, u "jdk/internal/util/Preconditions$3"), (3, u "IOOBE_FORMATTER")] 57

def k42m0 : Method := { name := "<init>", desc := "()V", sig := { parameters := [], returnType := none }, accessFlags := 1, code := none }
/-- jdk/internal/util/Preconditions -/
def k42 : Class := { plain "jdk/internal/util/Preconditions" (some 0) with
  accessFlags := 33
  interfaces := #[]
  cf := some (fileOf pool42 24 #[.nestMembers #[55, 131, 125, 114]] #[{ accessFlags := 1, nameIndex := 5, descriptorIndex := 6, attributes := #[] }] 33 2 #[] #[{ accessFlags := 25, nameIndex := 123, descriptorIndex := 124, attributes := #[] }, { accessFlags := 25, nameIndex := 130, descriptorIndex := 124, attributes := #[] }, { accessFlags := 25, nameIndex := 136, descriptorIndex := 124, attributes := #[] }])
  fields := #[{ name := "SIOOBE_FORMATTER", type := (.object sn52), accessFlags := 25, slot := 0, constantValue := 0 }, { name := "AIOOBE_FORMATTER", type := (.object sn52), accessFlags := 25, slot := 1, constantValue := 0 }, { name := "IOOBE_FORMATTER", type := (.object sn52), accessFlags := 25, slot := 2, constantValue := 0 }]
  methods := #[k42m0]
  instanceTypes := #[]
  staticTypes := #[(.object sn52), (.object sn52), (.object sn52)]
  resolved := Array.replicate 194 none
  statics := some 5 }

def pool43 : Array CpInfo := pool [(9, u "<init>"), (6, .class_ 18), (1, u "java/lang/Object"), (0, u "()V"), (1, .class_ 23), (1, u "jdk/internal/util/ArraysSupport"), (0, u "LOG2_ARRAY_LONG_INDEX_SCALE"), (0, u "I"), (2, u "U"), (0, u "Ljdk/internal/misc/Unsafe;"), (8, u "BIG_ENDIAN"), (0, u "Z"), (8, u "LOG2_BYTE_BIT_SIZE"), (4, u "LOG2_ARRAY_INT_INDEX_SCALE"), (54, u "JLA"), (0, u "Ljdk/internal/access/JavaLangAccess;"), (11, u "LOG2_ARRAY_BOOLEAN_INDEX_SCALE"), (9, u "LOG2_ARRAY_BYTE_INDEX_SCALE"), (5, u "LOG2_ARRAY_CHAR_INDEX_SCALE"), (5, u "LOG2_ARRAY_SHORT_INDEX_SCALE"), (18, u "LOG2_ARRAY_FLOAT_INDEX_SCALE"), (24, u "LOG2_ARRAY_DOUBLE_INDEX_SCALE"), (89, u "T_BOOLEAN"), (2, u "T_CHAR"), (1, u "T_FLOAT"), (1, u "T_DOUBLE"), (1, u "T_BYTE"), (1, u "T_SHORT"), (1, u "T_INT"), (1, u "T_LONG"), (1, u "SOFT_MAX_ARRAY_LENGTH")] 83

def k43m0 : Method := { name := "<init>", desc := "()V", sig := { parameters := [], returnType := none }, accessFlags := 2, code := none }
/-- jdk/internal/util/ArraysSupport -/
def k43 : Class := { plain "jdk/internal/util/ArraysSupport" (some 0) with
  accessFlags := 33
  interfaces := #[]
  cf := some (fileOf pool43 21 #[] #[{ accessFlags := 2, nameIndex := 9, descriptorIndex := 19, attributes := #[] }] 33 16 #[] #[{ accessFlags := 24, nameIndex := 28, descriptorIndex := 29, attributes := #[] }, { accessFlags := 26, nameIndex := 38, descriptorIndex := 39, attributes := #[] }, { accessFlags := 25, nameIndex := 121, descriptorIndex := 25, attributes := #[] }, { accessFlags := 25, nameIndex := 131, descriptorIndex := 25, attributes := #[] }, { accessFlags := 25, nameIndex := 137, descriptorIndex := 25, attributes := #[] }, { accessFlags := 25, nameIndex := 143, descriptorIndex := 25, attributes := #[] }, { accessFlags := 25, nameIndex := 53, descriptorIndex := 25, attributes := #[] }, { accessFlags := 25, nameIndex := 24, descriptorIndex := 25, attributes := #[] }, { accessFlags := 25, nameIndex := 162, descriptorIndex := 25, attributes := #[] }, { accessFlags := 25, nameIndex := 187, descriptorIndex := 25, attributes := #[] }, { accessFlags := 26, nameIndex := 48, descriptorIndex := 25, attributes := #[] }, { accessFlags := 25, nameIndex := 277, descriptorIndex := 25, attributes := #[] }, { accessFlags := 25, nameIndex := 280, descriptorIndex := 25, attributes := #[] }, { accessFlags := 25, nameIndex := 282, descriptorIndex := 25, attributes := #[] }, { accessFlags := 25, nameIndex := 284, descriptorIndex := 25, attributes := #[] }, { accessFlags := 25, nameIndex := 286, descriptorIndex := 25, attributes := #[] }, { accessFlags := 25, nameIndex := 288, descriptorIndex := 25, attributes := #[] }, { accessFlags := 25, nameIndex := 290, descriptorIndex := 25, attributes := #[] }, { accessFlags := 25, nameIndex := 292, descriptorIndex := 25, attributes := #[] }, { accessFlags := 26, nameIndex := 108, descriptorIndex := 109, attributes := #[] }, { accessFlags := 25, nameIndex := 294, descriptorIndex := 25, attributes := #[] }])
  fields := #[{ name := "U", type := (.object "jdk/internal/misc/Unsafe"), accessFlags := 24, slot := 0, constantValue := 0 }, { name := "BIG_ENDIAN", type := .boolean, accessFlags := 26, slot := 1, constantValue := 0 }, { name := "LOG2_ARRAY_BOOLEAN_INDEX_SCALE", type := .int, accessFlags := 25, slot := 2, constantValue := 0 }, { name := "LOG2_ARRAY_BYTE_INDEX_SCALE", type := .int, accessFlags := 25, slot := 3, constantValue := 0 }, { name := "LOG2_ARRAY_CHAR_INDEX_SCALE", type := .int, accessFlags := 25, slot := 4, constantValue := 0 }, { name := "LOG2_ARRAY_SHORT_INDEX_SCALE", type := .int, accessFlags := 25, slot := 5, constantValue := 0 }, { name := "LOG2_ARRAY_INT_INDEX_SCALE", type := .int, accessFlags := 25, slot := 6, constantValue := 0 }, { name := "LOG2_ARRAY_LONG_INDEX_SCALE", type := .int, accessFlags := 25, slot := 7, constantValue := 0 }, { name := "LOG2_ARRAY_FLOAT_INDEX_SCALE", type := .int, accessFlags := 25, slot := 8, constantValue := 0 }, { name := "LOG2_ARRAY_DOUBLE_INDEX_SCALE", type := .int, accessFlags := 25, slot := 9, constantValue := 0 }, { name := "LOG2_BYTE_BIT_SIZE", type := .int, accessFlags := 26, slot := 10, constantValue := 0 }, { name := "T_BOOLEAN", type := .int, accessFlags := 25, slot := 11, constantValue := 0 }, { name := "T_CHAR", type := .int, accessFlags := 25, slot := 12, constantValue := 0 }, { name := "T_FLOAT", type := .int, accessFlags := 25, slot := 13, constantValue := 0 }, { name := "T_DOUBLE", type := .int, accessFlags := 25, slot := 14, constantValue := 0 }, { name := "T_BYTE", type := .int, accessFlags := 25, slot := 15, constantValue := 0 }, { name := "T_SHORT", type := .int, accessFlags := 25, slot := 16, constantValue := 0 }, { name := "T_INT", type := .int, accessFlags := 25, slot := 17, constantValue := 0 }, { name := "T_LONG", type := .int, accessFlags := 25, slot := 18, constantValue := 0 }, { name := "JLA", type := (.object sn54), accessFlags := 26, slot := 19, constantValue := 0 }, { name := "SOFT_MAX_ARRAY_LENGTH", type := .int, accessFlags := 25, slot := 20, constantValue := 0 }]
  methods := #[k43m0]
  instanceTypes := #[]
  staticTypes := #[(.object "jdk/internal/misc/Unsafe"), .boolean, .int, .int, .int, .int, .int, .int, .int, .int, .int, .int, .int, .int, .int, .int, .int, .int, .int, (.object sn54), .int]
  resolved := Array.replicate 378 none
  statics := none }

def pool44 : Array CpInfo := pool [(1, u "java/lang/Class"), (0, .class_ 1), (0, u "java/lang/Object"), (0, .class_ 3)] 0

/-- java/lang/Class -/
def k44 : Class := { plain "java/lang/Class" (some 0) with
  accessFlags := 49
  interfaces := #[]
  cf := some (fileOf pool44 2 #[] #[] 49 4 #[] #[])
  fields := #[]
  methods := #[]
  instanceTypes := #[]
  staticTypes := #[]
  resolved := Array.replicate 5 none
  statics := none }

/-- the primitive byte -/
def k45 : Class := { plain "byte" none with kind := .primitive 'B', accessFlags := 0x411 }
/-- [B -/
def k46 : Class := { plain "[B" (some 0) with kind := .array 45 .byte, interfaces := #[15, 2], accessFlags := 1041 }

/-- the primitive char -/
def k47 : Class := { plain "char" none with kind := .primitive 'C', accessFlags := 0x411 }
/-- [C -/
def k48 : Class := { plain "[C" (some 0) with kind := .array 47 .char, interfaces := #[15, 2], accessFlags := 1041 }

/-- the primitive int -/
def k49 : Class := { plain "int" none with kind := .primitive 'I', accessFlags := 0x411 }
/-- [I -/
def k50 : Class := { plain "[I" (some 0) with kind := .array 49 .int, interfaces := #[15, 2], accessFlags := 1041 }

/-- [Ljava/lang/Object; -/
def k51 : Class := { plain "[Ljava/lang/Object;" (some 0) with kind := .array 0 (.object "java/lang/Object"), interfaces := #[15, 2], accessFlags := 1041, mirror := some 6 }

def heap : Heap := #[{ cls := 7, slots := #[.long 0, .int 1, .null, .int 0, .null, .int 0, .int 0], vm := .statics 7 },
  { cls := 16, slots := #[.long 0, .int 0, .ref 9, .ref 10], vm := .statics 16 },
  { cls := 19, slots := #[.long 0, .int 0, .null, .ref 12, .ref 8, .null, .null, .null, .int 0, .int 1], vm := .statics 19 },
  { cls := 34, slots := #[.null, .null, .ref 11, .null, .null, .null], vm := .statics 34 },
  { cls := 38, slots := #[.ref 11, .null], vm := .statics 38 },
  { cls := 42, slots := #[.null, .null, .null], vm := .statics 42 },
  { cls := 44, slots := #[], vm := .mirror 51 },
  { cls := 51, slots := #[], vm := .none },
  { cls := 23, slots := #[.ref 7, .int 0], vm := .none },
  { cls := 51, slots := #[], vm := .none },
  { cls := 51, slots := #[], vm := .none },
  { cls := 38, slots := #[.null, .null, .null], vm := .none },
  { cls := 0, slots := #[], vm := .none }]
def classes : Array Class := #[k0, k1, k2, k3, k4, k5, k6, k7, k8, k9, k10, k11, k12, k13, k14, k15, k16, k17, k18, k19, k20, k21, k22, k23, k24, k25, k26, k27, k28, k29, k30, k31, k32, k33, k34, k35, k36, k37, k38, k39, k40, k41, k42, k43, k44, k45, k46, k47, k48, k49, k50, k51]
def interned : List (Array UInt16 × Addr) := []
def slotsUsed : Nat := 37
def theMethod : MethodId := ⟨1, 1⟩
def args0 : Array Value := #[.int 5, .int 5, .int 5]
def aboutOver (below : List Frame) : State where
  vm := { classes := classes, interned := interned.toArray }
  heap := heap
  slotsUsed := slotsUsed
  threads := #[{ frames := .invoking theMethod args0 :: below }]
def below0 : List Frame := [.native { method := ⟨0, 0⟩, args := #[] }]
def about1 : State := aboutOver below0
def p0 : Program := .bare "" "" ""
def e0 : Env := launch0.env 0 0 0
theorem w_frames : about1.frames = Frame.invoking theMethod args0 :: below0 := rfl
set_option maxRecDepth 65536 in
theorem w_args : argsFit about1.vm theMethod args0 = true := by decide +kernel
set_option maxRecDepth 65536 in
theorem w_heap : heapFits about1 = true := by decide +kernel
set_option maxRecDepth 65536 in
theorem w_runnable : about1.curStatus? = some .runnable := by decide +kernel
set_option maxRecDepth 65536 in
theorem w_alone : about1.alone = true := by decide +kernel
set_option maxRecDepth 65536 in
theorem w_named : about1.methodNamed? x = some theMethod := by decide +kernel
set_option maxRecDepth 65536 in
theorem w_hears : about1.hears theMethod below0 = true := by decide +kernel
set_option maxRecDepth 65536 in
theorem w_ripe : about1.ripe theMethod args0 below0 = true := by decide +kernel
theorem w_running : about1.status = .running := rfl
set_option maxRecDepth 65536 in
theorem w_room : about1.hasRoom e0.platform room_1 = true :=
  launch0.hasRoom_least _ room_1 (by decide +kernel) (by decide +kernel) (by decide +kernel) (by decide +kernel) (by decide +kernel) (by decide +kernel)
theorem allAtoms_all (ts : List Jvm.Cond) (a : Array Jvm.Value) (st : Jvm.State) : (allAtoms ts).before a st = ts.all (fun c => c.before a st) := by
  induction ts with
  | nil => rfl
  | cons c t ih =>
    show (Jvm.Cond.and c (allAtoms t)).before a st = _
    rw [Jvm.Cond.before_and, ih, List.all_cons]
def words1 : List Jvm.Cond := Jvm.Cond.code x code maxLocals ret :: tables_1
/-- a 'code' word, met by the world's own term for the bytes: nothing is compared byte by byte -/
theorem code_word {y : MethodName} {bytes : ByteArray} {mx : Nat} {rt : Option FieldType} {a : Array Value} {s : State} {m : MethodId} {meth : Method} {c : Code} (h1 : s.methodNamed? y = some m) (h2 : s.vm.method? m = some meth) (h3 : meth.code = some c) (h4 : c.code = bytes)
    (h5 : (c.maxLocals == mx && c.exceptionTable.isEmpty && decide (c.maxStack ≤ mostOperands) && decide (meth.sig.returnType = rt) && !meth.locks && decide (parseMethodDescriptor y.desc = some meth.sig)) = true) : (Jvm.Cond.code y bytes mx rt).before a s = true := by
  simp only [Bool.and_eq_true, beq_iff_eq, Bool.not_eq_true', decide_eq_true_eq] at h5
  obtain ⟨⟨⟨⟨⟨g1, g2⟩, g3⟩, g4⟩, g5⟩, g6⟩ := h5
  simp [Cond.before, Cond.holds, Cond.value, h1, h2, h3, h4, g1, g2, g3, g4, g5, g6]
def isCode : Jvm.Cond → Bool
  | .code _ _ _ _ => true
  | _ => false
theorem all_split {L : List Jvm.Cond} {P : Jvm.Cond → Bool} (h1 : L.all (fun c => isCode c || P c) = true) (h2 : ∀ c ∈ L.filter isCode, P c = true) : L.all P = true := by
  refine List.all_eq_true.mpr fun c hc => ?_
  have h := List.all_eq_true.mp h1 c hc
  rcases Bool.eq_false_or_eq_true (isCode c) with hi | hi
  · exact h2 c (List.mem_filter.mpr ⟨hc, hi⟩)
  · simpa [hi] using h
set_option maxRecDepth 65536 in
theorem w_c0 : (Jvm.Cond.code x code maxLocals ret).before args0 about1 = true := code_word (m := ⟨1, 1⟩) (meth := k1m1) (c := k1c1) (by decide +kernel) rfl rfl rfl (by decide +kernel)
set_option maxRecDepth 65536 in
theorem w_c1 : (Jvm.Cond.code ({ cls := sn2, name := "str", desc := sn47 } : Jvm.MethodName) method_3_code (3 : Nat) (Option.some (Jvm.ClassFile.FieldType.object "java/lang/String"))).before args0 about1 = true := code_word (m := ⟨1, 2⟩) (meth := k1m2) (c := k1c2) (by decide +kernel) rfl rfl rfl (by decide +kernel)
set_option maxRecDepth 65536 in
theorem w_c2 : (Jvm.Cond.code ({ cls := "java/util/ArrayList", name := "<init>", desc := "()V" } : Jvm.MethodName) jdk_38_method_2_code (1 : Nat) (Option.none : Option Jvm.ClassFile.FieldType)).before args0 about1 = true := code_word (m := ⟨16, 0⟩) (meth := k16m0) (c := k16c0) (by decide +kernel) rfl rfl rfl (by decide +kernel)
set_option maxRecDepth 65536 in
theorem w_c3 : (Jvm.Cond.code ({ cls := sn21, name := "<init>", desc := "()V" } : Jvm.MethodName) jdk_39_method_1_code (1 : Nat) (Option.none : Option Jvm.ClassFile.FieldType)).before args0 about1 = true := code_word (m := ⟨13, 0⟩) (meth := k13m0) (c := k13c0) (by decide +kernel) rfl rfl rfl (by decide +kernel)
set_option maxRecDepth 65536 in
theorem w_c4 : (Jvm.Cond.code ({ cls := sn18, name := "<init>", desc := "()V" } : Jvm.MethodName) jdk_22_method_1_code (1 : Nat) (Option.none : Option Jvm.ClassFile.FieldType)).before args0 about1 = true := code_word (m := ⟨10, 0⟩) (meth := k10m0) (c := k10c0) (by decide +kernel) rfl rfl rfl (by decide +kernel)
set_option maxRecDepth 65536 in
theorem w_c5 : (Jvm.Cond.code ({ cls := "java/lang/Object", name := "<init>", desc := "()V" } : Jvm.MethodName) object_method_1_code (1 : Nat) (Option.none : Option Jvm.ClassFile.FieldType)).before args0 about1 = true := code_word (m := ⟨0, 0⟩) (meth := k0m0) (c := k0c0) (by decide +kernel) rfl rfl rfl (by decide +kernel)
set_option maxRecDepth 65536 in
theorem w_c6 : (Jvm.Cond.code ({ cls := sn1, name := "<init>", desc := "(Ljava/util/List;)V" } : Jvm.MethodName) prog_7_method_1_code (2 : Nat) (Option.none : Option Jvm.ClassFile.FieldType)).before args0 about1 = true := code_word (m := ⟨18, 0⟩) (meth := k18m0) (c := k18c0) (by decide +kernel) rfl rfl rfl (by decide +kernel)
set_option maxRecDepth 65536 in
theorem w_c7 : (Jvm.Cond.code ({ cls := "java/lang/Record", name := "<init>", desc := "()V" } : Jvm.MethodName) jdk_30_method_1_code (1 : Nat) (Option.none : Option Jvm.ClassFile.FieldType)).before args0 about1 = true := code_word (m := ⟨17, 0⟩) (meth := k17m0) (c := k17c0) (by decide +kernel) rfl rfl rfl (by decide +kernel)
set_option maxRecDepth 65536 in
theorem w_c8 : (Jvm.Cond.code ({ cls := "java/util/List", name := "copyOf", desc := sn10 } : Jvm.MethodName) jdk_40_method_48_code (1 : Nat) (Option.some (Jvm.ClassFile.FieldType.object "java/util/List"))).before args0 about1 = true := code_word (m := ⟨12, 4⟩) (meth := k12m4) (c := k12c4) (by decide +kernel) rfl rfl rfl (by decide +kernel)
set_option maxRecDepth 65536 in
theorem w_c9 : (Jvm.Cond.code ({ cls := sn7, name := "listCopy", desc := sn10 } : Jvm.MethodName) jdk_56_method_3_code (2 : Nat) (Option.some (Jvm.ClassFile.FieldType.object "java/util/List"))).before args0 about1 = true := code_word (m := ⟨19, 1⟩) (meth := k19m1) (c := k19c1) (by decide +kernel) rfl rfl rfl (by decide +kernel)
set_option maxRecDepth 65536 in
theorem w_c10 : (Jvm.Cond.code ({ cls := "java/util/ArrayList", name := "isEmpty", desc := "()Z" } : Jvm.MethodName) jdk_38_method_9_code (1 : Nat) (Option.some Jvm.ClassFile.FieldType.boolean)).before args0 about1 = true := code_word (m := ⟨16, 3⟩) (meth := k16m3) (c := k16c3) (by decide +kernel) rfl rfl rfl (by decide +kernel)
set_option maxRecDepth 65536 in
theorem w_c11 : (Jvm.Cond.code ({ cls := "java/util/List", name := "of", desc := "()Ljava/util/List;" } : Jvm.MethodName) jdk_40_method_36_code (0 : Nat) (Option.some (Jvm.ClassFile.FieldType.object "java/util/List"))).before args0 about1 = true := code_word (m := ⟨12, 2⟩) (meth := k12m2) (c := k12c2) (by decide +kernel) rfl rfl rfl (by decide +kernel)
set_option maxRecDepth 65536 in
theorem w_c12 : (Jvm.Cond.code ({ cls := sn1, name := "bytes", desc := "()[B" } : Jvm.MethodName) prog_7_method_4_code (4 : Nat) (Option.some (Jvm.ClassFile.FieldType.array Jvm.ClassFile.FieldType.byte))).before args0 about1 = true := code_word (m := ⟨18, 1⟩) (meth := k18m1) (c := k18c1) (by decide +kernel) rfl rfl rfl (by decide +kernel)
set_option maxRecDepth 65536 in
theorem w_c13 : (Jvm.Cond.code ({ cls := sn5, name := "<init>", desc := "()V" } : Jvm.MethodName) jdk_67_method_1_code (1 : Nat) (Option.none : Option Jvm.ClassFile.FieldType)).before args0 about1 = true := code_word (m := ⟨26, 0⟩) (meth := k26m0) (c := k26c0) (by decide +kernel) rfl rfl rfl (by decide +kernel)
set_option maxRecDepth 65536 in
theorem w_c14 : (Jvm.Cond.code ({ cls := sn0, name := "<init>", desc := "(I)V" } : Jvm.MethodName) jdk_68_method_2_code (2 : Nat) (Option.none : Option Jvm.ClassFile.FieldType)).before args0 about1 = true := code_word (m := ⟨25, 1⟩) (meth := k25m1) (c := k25c1) (by decide +kernel) rfl rfl rfl (by decide +kernel)
set_option maxRecDepth 65536 in
theorem w_c15 : (Jvm.Cond.code ({ cls := sn6, name := "iterator", desc := sn20 } : Jvm.MethodName) jdk_46_method_10_code (1 : Nat) (Option.some (Jvm.ClassFile.FieldType.object "java/util/Iterator"))).before args0 about1 = true := code_word (m := ⟨21, 1⟩) (meth := k21m1) (c := k21c1) (by decide +kernel) rfl rfl rfl (by decide +kernel)
set_option maxRecDepth 65536 in
theorem w_c16 : (Jvm.Cond.code ({ cls := sn8, name := "size", desc := "()I" } : Jvm.MethodName) jdk_45_method_3_code (1 : Nat) (Option.some Jvm.ClassFile.FieldType.int)).before args0 about1 = true := code_word (m := ⟨23, 0⟩) (meth := k23m0) (c := k23c0) (by decide +kernel) rfl rfl rfl (by decide +kernel)
set_option maxRecDepth 65536 in
theorem w_c17 : (Jvm.Cond.code ({ cls := sn3, name := "<init>", desc := sn49 } : Jvm.MethodName) jdk_53_method_1_code (3 : Nat) (Option.none : Option Jvm.ClassFile.FieldType)).before args0 about1 = true := code_word (m := ⟨29, 0⟩) (meth := k29m0) (c := k29c0) (by decide +kernel) rfl rfl rfl (by decide +kernel)
set_option maxRecDepth 65536 in
theorem w_c18 : (Jvm.Cond.code ({ cls := sn3, name := "hasNext", desc := "()Z" } : Jvm.MethodName) jdk_53_method_3_code (1 : Nat) (Option.some Jvm.ClassFile.FieldType.boolean)).before args0 about1 = true := code_word (m := ⟨29, 1⟩) (meth := k29m1) (c := k29c1) (by decide +kernel) rfl rfl rfl (by decide +kernel)
set_option maxRecDepth 65536 in
theorem w_c19 : (Jvm.Cond.code ({ cls := sn5, name := "append", desc := sn32 } : Jvm.MethodName) jdk_67_method_14_code (2 : Nat) (Option.some (Jvm.ClassFile.FieldType.object sn5))).before args0 about1 = true := code_word (m := ⟨26, 2⟩) (meth := k26m2) (c := k26c2) (by decide +kernel) rfl rfl rfl (by decide +kernel)
set_option maxRecDepth 65536 in
theorem w_c20 : (Jvm.Cond.code ({ cls := sn0, name := "append", desc := sn33 } : Jvm.MethodName) jdk_68_method_31_code (2 : Nat) (Option.some (Jvm.ClassFile.FieldType.object sn0))).before args0 about1 = true := code_word (m := ⟨25, 5⟩) (meth := k25m5) (c := k25c5) (by decide +kernel) rfl rfl rfl (by decide +kernel)
set_option maxRecDepth 65536 in
theorem w_c21 : (Jvm.Cond.code ({ cls := sn0, name := sn42, desc := "(I)V" } : Jvm.MethodName) jdk_68_method_9_code (3 : Nat) (Option.none : Option Jvm.ClassFile.FieldType)).before args0 about1 = true := code_word (m := ⟨25, 3⟩) (meth := k25m3) (c := k25c3) (by decide +kernel) rfl rfl rfl (by decide +kernel)
set_option maxRecDepth 65536 in
theorem w_c22 : (Jvm.Cond.code ({ cls := sn0, name := "isLatin1", desc := "()Z" } : Jvm.MethodName) jdk_68_method_68_code (1 : Nat) (Option.some Jvm.ClassFile.FieldType.boolean)).before args0 about1 = true := code_word (m := ⟨25, 7⟩) (meth := k25m7) (c := k25c7) (by decide +kernel) rfl rfl rfl (by decide +kernel)
set_option maxRecDepth 65536 in
theorem w_c23 : (Jvm.Cond.code ({ cls := sn24, name := "canEncode", desc := "(C)Z" } : Jvm.MethodName) jdk_43_method_3_code (1 : Nat) (Option.some Jvm.ClassFile.FieldType.boolean)).before args0 about1 = true := code_word (m := ⟨30, 1⟩) (meth := k30m1) (c := k30c1) (by decide +kernel) rfl rfl rfl (by decide +kernel)
set_option maxRecDepth 65536 in
theorem w_c24 : (Jvm.Cond.code ({ cls := sn5, name := "toString", desc := sn40 } : Jvm.MethodName) jdk_67_method_42_code (1 : Nat) (Option.some (Jvm.ClassFile.FieldType.object "java/lang/String"))).before args0 about1 = true := code_word (m := ⟨26, 3⟩) (meth := k26m3) (c := k26c3) (by decide +kernel) rfl rfl rfl (by decide +kernel)
set_option maxRecDepth 65536 in
theorem w_c25 : (Jvm.Cond.code ({ cls := "java/lang/String", name := "<init>", desc := sn37 } : Jvm.MethodName) jdk_42_method_53_code (2 : Nat) (Option.none : Option Jvm.ClassFile.FieldType)).before args0 about1 = true := code_word (m := ⟨7, 4⟩) (meth := k7m4) (c := k7c4) (by decide +kernel) rfl rfl rfl (by decide +kernel)
set_option maxRecDepth 65536 in
theorem w_c26 : (Jvm.Cond.code ({ cls := "java/lang/String", name := "<init>", desc := sn19 } : Jvm.MethodName) jdk_42_method_150_code (5 : Nat) (Option.none : Option Jvm.ClassFile.FieldType)).before args0 about1 = true := code_word (m := ⟨7, 10⟩) (meth := k7m10) (c := k7c10) (by decide +kernel) rfl rfl rfl (by decide +kernel)
set_option maxRecDepth 65536 in
theorem w_c27 : (Jvm.Cond.code ({ cls := sn0, name := "getValue", desc := "()[B" } : Jvm.MethodName) jdk_68_method_64_code (1 : Nat) (Option.some (Jvm.ClassFile.FieldType.array Jvm.ClassFile.FieldType.byte))).before args0 about1 = true := code_word (m := ⟨25, 6⟩) (meth := k25m6) (c := k25c6) (by decide +kernel) rfl rfl rfl (by decide +kernel)
set_option maxRecDepth 65536 in
theorem w_c28 : (Jvm.Cond.code ({ cls := sn5, name := "length", desc := "()I" } : Jvm.MethodName) jdk_67_method_93_code (1 : Nat) (Option.some Jvm.ClassFile.FieldType.int)).before args0 about1 = true := code_word (m := ⟨26, 4⟩) (meth := k26m4) (c := k26c4) (by decide +kernel) rfl rfl rfl (by decide +kernel)
set_option maxRecDepth 65536 in
theorem w_c29 : (Jvm.Cond.code ({ cls := sn0, name := "length", desc := "()I" } : Jvm.MethodName) jdk_68_method_6_code (1 : Nat) (Option.some Jvm.ClassFile.FieldType.int)).before args0 about1 = true := code_word (m := ⟨25, 2⟩) (meth := k25m2) (c := k25c2) (by decide +kernel) rfl rfl rfl (by decide +kernel)
set_option maxRecDepth 65536 in
theorem w_c30 : (Jvm.Cond.code ({ cls := "java/util/Arrays", name := "copyOfRange", desc := "([BII)[B" } : Jvm.MethodName) jdk_65_method_132_code (3 : Nat) (Option.some (Jvm.ClassFile.FieldType.array Jvm.ClassFile.FieldType.byte))).before args0 about1 = true := code_word (m := ⟨31, 5⟩) (meth := k31m5) (c := k31c5) (by decide +kernel) rfl rfl rfl (by decide +kernel)
set_option maxRecDepth 65536 in
theorem w_c31 : (Jvm.Cond.code ({ cls := "java/util/Arrays", name := "copyOfRangeByte", desc := "([BII)[B" } : Jvm.MethodName) jdk_65_method_133_code (5 : Nat) (Option.some (Jvm.ClassFile.FieldType.array Jvm.ClassFile.FieldType.byte))).before args0 about1 = true := code_word (m := ⟨31, 6⟩) (meth := k31m6) (c := k31c6) (by decide +kernel) rfl rfl rfl (by decide +kernel)
set_option maxRecDepth 65536 in
theorem w_c32 : (Jvm.Cond.code ({ cls := "java/util/Arrays", name := "checkLength", desc := "(II)V" } : Jvm.MethodName) jdk_65_method_131_code (2 : Nat) (Option.none : Option Jvm.ClassFile.FieldType)).before args0 about1 = true := code_word (m := ⟨31, 4⟩) (meth := k31m4) (c := k31c4) (by decide +kernel) rfl rfl rfl (by decide +kernel)
set_option maxRecDepth 65536 in
theorem w_c33 : (Jvm.Cond.code ({ cls := "java/lang/Math", name := "min", desc := "(II)I" } : Jvm.MethodName) jdk_29_method_69_code (2 : Nat) (Option.some Jvm.ClassFile.FieldType.int)).before args0 about1 = true := code_word (m := ⟨32, 2⟩) (meth := k32m2) (c := k32c2) (by decide +kernel) rfl rfl rfl (by decide +kernel)
set_option maxRecDepth 65536 in
theorem w_c34 : (Jvm.Cond.code ({ cls := "java/lang/String", name := "getBytes", desc := sn25 } : Jvm.MethodName) jdk_42_method_64_code (2 : Nat) (Option.some (Jvm.ClassFile.FieldType.array Jvm.ClassFile.FieldType.byte))).before args0 about1 = true := code_word (m := ⟨7, 6⟩) (meth := k7m6) (c := k7c6) (by decide +kernel) rfl rfl rfl (by decide +kernel)
set_option maxRecDepth 65536 in
theorem w_c35 : (Jvm.Cond.code ({ cls := "java/lang/String", name := "coder", desc := "()B" } : Jvm.MethodName) jdk_42_method_152_code (1 : Nat) (Option.some Jvm.ClassFile.FieldType.byte)).before args0 about1 = true := code_word (m := ⟨7, 12⟩) (meth := k7m12) (c := k7c12) (by decide +kernel) rfl rfl rfl (by decide +kernel)
set_option maxRecDepth 65536 in
theorem w_c36 : (Jvm.Cond.code ({ cls := "java/lang/String", name := "encode", desc := sn36 } : Jvm.MethodName) jdk_42_method_18_code (3 : Nat) (Option.some (Jvm.ClassFile.FieldType.array Jvm.ClassFile.FieldType.byte))).before args0 about1 = true := code_word (m := ⟨7, 2⟩) (meth := k7m2) (c := k7c2) (by decide +kernel) rfl rfl rfl (by decide +kernel)
set_option maxRecDepth 65536 in
theorem w_c37 : (Jvm.Cond.code ({ cls := "java/lang/String", name := "encodeUTF8", desc := "(B[BZ)[B" } : Jvm.MethodName) jdk_42_method_46_code (9 : Nat) (Option.some (Jvm.ClassFile.FieldType.array Jvm.ClassFile.FieldType.byte))).before args0 about1 = true := code_word (m := ⟨7, 3⟩) (meth := k7m3) (c := k7c3) (by decide +kernel) rfl rfl rfl (by decide +kernel)
set_option maxRecDepth 65536 in
theorem w_c38 : (Jvm.Cond.code ({ cls := sn30, name := "hasNegatives", desc := "([BII)Z" } : Jvm.MethodName) jdk_123_method_2_code (3 : Nat) (Option.some Jvm.ClassFile.FieldType.boolean)).before args0 about1 = true := code_word (m := ⟨39, 1⟩) (meth := k39m1) (c := k39c1) (by decide +kernel) rfl rfl rfl (by decide +kernel)
set_option maxRecDepth 65536 in
theorem w_c39 : (Jvm.Cond.code ({ cls := sn30, name := "countPositives", desc := "([BII)I" } : Jvm.MethodName) jdk_123_method_3_code (5 : Nat) (Option.some Jvm.ClassFile.FieldType.int)).before args0 about1 = true := code_word (m := ⟨39, 2⟩) (meth := k39m2) (c := k39c2) (by decide +kernel) rfl rfl rfl (by decide +kernel)
set_option maxRecDepth 65536 in
theorem w_c40 : (Jvm.Cond.code ({ cls := sn2, name := "same", desc := "([B[II)Z" } : Jvm.MethodName) method_6_code (4 : Nat) (Option.some Jvm.ClassFile.FieldType.boolean)).before args0 about1 = true := code_word (m := ⟨1, 5⟩) (meth := k1m5) (c := k1c5) (by decide +kernel) rfl rfl rfl (by decide +kernel)
set_option maxRecDepth 65536 in
theorem w_c41 : (Jvm.Cond.code ({ cls := "java/util/ArrayList", name := "add", desc := sn38 } : Jvm.MethodName) jdk_38_method_25_code (2 : Nat) (Option.some Jvm.ClassFile.FieldType.boolean)).before args0 about1 = true := code_word (m := ⟨16, 6⟩) (meth := k16m6) (c := k16c6) (by decide +kernel) rfl rfl rfl (by decide +kernel)
set_option maxRecDepth 65536 in
theorem w_c42 : (Jvm.Cond.code ({ cls := "java/util/ArrayList", name := "add", desc := sn22 } : Jvm.MethodName) jdk_38_method_24_code (4 : Nat) (Option.none : Option Jvm.ClassFile.FieldType)).before args0 about1 = true := code_word (m := ⟨16, 5⟩) (meth := k16m5) (c := k16c5) (by decide +kernel) rfl rfl rfl (by decide +kernel)
set_option maxRecDepth 65536 in
theorem w_c43 : (Jvm.Cond.code ({ cls := "java/util/ArrayList", name := "grow", desc := sn13 } : Jvm.MethodName) jdk_38_method_7_code (1 : Nat) (Option.some (Jvm.ClassFile.FieldType.array (Jvm.ClassFile.FieldType.object "java/lang/Object")))).before args0 about1 = true := code_word (m := ⟨16, 2⟩) (meth := k16m2) (c := k16c2) (by decide +kernel) rfl rfl rfl (by decide +kernel)
set_option maxRecDepth 65536 in
theorem w_c44 : (Jvm.Cond.code ({ cls := "java/util/ArrayList", name := "grow", desc := sn44 } : Jvm.MethodName) jdk_38_method_6_code (4 : Nat) (Option.some (Jvm.ClassFile.FieldType.array (Jvm.ClassFile.FieldType.object "java/lang/Object")))).before args0 about1 = true := code_word (m := ⟨16, 1⟩) (meth := k16m1) (c := k16c1) (by decide +kernel) rfl rfl rfl (by decide +kernel)
set_option maxRecDepth 65536 in
theorem w_c45 : (Jvm.Cond.code ({ cls := "java/lang/Math", name := "max", desc := "(II)I" } : Jvm.MethodName) jdk_29_method_65_code (2 : Nat) (Option.some Jvm.ClassFile.FieldType.int)).before args0 about1 = true := code_word (m := ⟨32, 1⟩) (meth := k32m1) (c := k32c1) (by decide +kernel) rfl rfl rfl (by decide +kernel)
set_option maxRecDepth 65536 in
theorem w_c46 : (Jvm.Cond.code ({ cls := "java/util/ArrayList", name := "toArray", desc := sn13 } : Jvm.MethodName) jdk_38_method_16_code (1 : Nat) (Option.some (Jvm.ClassFile.FieldType.array (Jvm.ClassFile.FieldType.object "java/lang/Object")))).before args0 about1 = true := code_word (m := ⟨16, 4⟩) (meth := k16m4) (c := k16c4) (by decide +kernel) rfl rfl rfl (by decide +kernel)
set_option maxRecDepth 65536 in
theorem w_c47 : (Jvm.Cond.code ({ cls := "java/util/Arrays", name := "copyOf", desc := sn23 } : Jvm.MethodName) jdk_65_method_119_code (2 : Nat) (Option.some (Jvm.ClassFile.FieldType.array (Jvm.ClassFile.FieldType.object "java/lang/Object")))).before args0 about1 = true := code_word (m := ⟨31, 1⟩) (meth := k31m1) (c := k31c1) (by decide +kernel) rfl rfl rfl (by decide +kernel)
set_option maxRecDepth 65536 in
theorem w_c48 : (Jvm.Cond.code ({ cls := "java/util/Arrays", name := "copyOf", desc := sn15 } : Jvm.MethodName) jdk_65_method_120_code (4 : Nat) (Option.some (Jvm.ClassFile.FieldType.array (Jvm.ClassFile.FieldType.object "java/lang/Object")))).before args0 about1 = true := code_word (m := ⟨31, 2⟩) (meth := k31m2) (c := k31c2) (by decide +kernel) rfl rfl rfl (by decide +kernel)
set_option maxRecDepth 65536 in
theorem w_c49 : (Jvm.Cond.code ({ cls := "java/util/List", name := "of", desc := sn31 } : Jvm.MethodName) jdk_40_method_47_code (2 : Nat) (Option.some (Jvm.ClassFile.FieldType.object "java/util/List"))).before args0 about1 = true := code_word (m := ⟨12, 3⟩) (meth := k12m3) (c := k12c3) (by decide +kernel) rfl rfl rfl (by decide +kernel)
set_option maxRecDepth 65536 in
theorem w_c50 : (Jvm.Cond.code ({ cls := sn4, name := "<init>", desc := sn45 } : Jvm.MethodName) jdk_44_method_1_code (2 : Nat) (Option.none : Option Jvm.ClassFile.FieldType)).before args0 about1 = true := code_word (m := ⟨22, 0⟩) (meth := k22m0) (c := k22c0) (by decide +kernel) rfl rfl rfl (by decide +kernel)
set_option maxRecDepth 65536 in
theorem w_c51 : (Jvm.Cond.code ({ cls := sn6, name := "<init>", desc := "()V" } : Jvm.MethodName) jdk_46_method_1_code (1 : Nat) (Option.none : Option Jvm.ClassFile.FieldType)).before args0 about1 = true := code_word (m := ⟨21, 0⟩) (meth := k21m0) (c := k21c0) (by decide +kernel) rfl rfl rfl (by decide +kernel)
set_option maxRecDepth 65536 in
theorem w_c52 : (Jvm.Cond.code ({ cls := sn11, name := "<init>", desc := "()V" } : Jvm.MethodName) jdk_47_method_1_code (1 : Nat) (Option.none : Option Jvm.ClassFile.FieldType)).before args0 about1 = true := code_word (m := ⟨20, 0⟩) (meth := k20m0) (c := k20c0) (by decide +kernel) rfl rfl rfl (by decide +kernel)
set_option maxRecDepth 65536 in
theorem w_c53 : (Jvm.Cond.code ({ cls := "java/util/Objects", name := "requireNonNull", desc := sn28 } : Jvm.MethodName) jdk_31_method_10_code (1 : Nat) (Option.some (Jvm.ClassFile.FieldType.object "java/lang/Object"))).before args0 about1 = true := code_word (m := ⟨40, 1⟩) (meth := k40m1) (c := k40c1) (by decide +kernel) rfl rfl rfl (by decide +kernel)
set_option maxRecDepth 65536 in
theorem w_c54 : (Jvm.Cond.code ({ cls := sn4, name := "size", desc := "()I" } : Jvm.MethodName) jdk_44_method_3_code (1 : Nat) (Option.some Jvm.ClassFile.FieldType.int)).before args0 about1 = true := code_word (m := ⟨22, 2⟩) (meth := k22m2) (c := k22c2) (by decide +kernel) rfl rfl rfl (by decide +kernel)
set_option maxRecDepth 65536 in
theorem w_c55 : (Jvm.Cond.code ({ cls := sn4, name := "get", desc := sn29 } : Jvm.MethodName) jdk_44_method_5_code (2 : Nat) (Option.some (Jvm.ClassFile.FieldType.object "java/lang/Object"))).before args0 about1 = true := code_word (m := ⟨22, 3⟩) (meth := k22m3) (c := k22c3) (by decide +kernel) rfl rfl rfl (by decide +kernel)
set_option maxRecDepth 65536 in
theorem w_c56 : (Jvm.Cond.code ({ cls := sn5, name := "append", desc := sn12 } : Jvm.MethodName) jdk_67_method_7_code (2 : Nat) (Option.some (Jvm.ClassFile.FieldType.object sn5))).before args0 about1 = true := code_word (m := ⟨26, 1⟩) (meth := k26m1) (c := k26c1) (by decide +kernel) rfl rfl rfl (by decide +kernel)
set_option maxRecDepth 65536 in
theorem w_c57 : (Jvm.Cond.code ({ cls := sn0, name := "append", desc := sn14 } : Jvm.MethodName) jdk_68_method_22_code (3 : Nat) (Option.some (Jvm.ClassFile.FieldType.object sn0))).before args0 about1 = true := code_word (m := ⟨25, 4⟩) (meth := k25m4) (c := k25c4) (by decide +kernel) rfl rfl rfl (by decide +kernel)
set_option maxRecDepth 65536 in
theorem w_c58 : (Jvm.Cond.code ({ cls := "java/lang/String", name := "length", desc := "()I" } : Jvm.MethodName) jdk_42_method_54_code (1 : Nat) (Option.some Jvm.ClassFile.FieldType.int)).before args0 about1 = true := code_word (m := ⟨7, 5⟩) (meth := k7m5) (c := k7c5) (by decide +kernel) rfl rfl rfl (by decide +kernel)
set_option maxRecDepth 65536 in
theorem w_c59 : (Jvm.Cond.code ({ cls := sn0, name := "putStringAt", desc := sn39 } : Jvm.MethodName) jdk_68_method_73_code (3 : Nat) (Option.none : Option Jvm.ClassFile.FieldType)).before args0 about1 = true := code_word (m := ⟨25, 9⟩) (meth := k25m9) (c := k25c9) (by decide +kernel) rfl rfl rfl (by decide +kernel)
set_option maxRecDepth 65536 in
theorem w_c60 : (Jvm.Cond.code ({ cls := sn0, name := "inflateIfNeededFor", desc := sn41 } : Jvm.MethodName) jdk_68_method_71_code (2 : Nat) (Option.none : Option Jvm.ClassFile.FieldType)).before args0 about1 = true := code_word (m := ⟨25, 8⟩) (meth := k25m8) (c := k25c8) (by decide +kernel) rfl rfl rfl (by decide +kernel)
set_option maxRecDepth 65536 in
theorem w_c61 : (Jvm.Cond.code ({ cls := "java/lang/String", name := "getBytes", desc := "([BIB)V" } : Jvm.MethodName) jdk_42_method_147_code (4 : Nat) (Option.none : Option Jvm.ClassFile.FieldType)).before args0 about1 = true := code_word (m := ⟨7, 8⟩) (meth := k7m8) (c := k7c8) (by decide +kernel) rfl rfl rfl (by decide +kernel)
set_option maxRecDepth 65536 in
theorem w_c62 : (Jvm.Cond.code ({ cls := sn2, name := "putLine", desc := "([IIICC)I" } : Jvm.MethodName) method_4_code (6 : Nat) (Option.some Jvm.ClassFile.FieldType.int)).before args0 about1 = true := code_word (m := ⟨1, 3⟩) (meth := k1m3) (c := k1c3) (by decide +kernel) rfl rfl rfl (by decide +kernel)
set_option maxRecDepth 65536 in
theorem w_c63 : (Jvm.Cond.code ({ cls := "java/lang/String", name := "valueOf", desc := sn46 } : Jvm.MethodName) jdk_42_method_139_code (1 : Nat) (Option.some (Jvm.ClassFile.FieldType.object "java/lang/String"))).before args0 about1 = true := code_word (m := ⟨7, 7⟩) (meth := k7m7) (c := k7c7) (by decide +kernel) rfl rfl rfl (by decide +kernel)
set_option maxRecDepth 65536 in
theorem w_c64 : (Jvm.Cond.code ({ cls := sn24, name := "toBytes", desc := "(C)[B" } : Jvm.MethodName) jdk_43_method_46_code (1 : Nat) (Option.some (Jvm.ClassFile.FieldType.array Jvm.ClassFile.FieldType.byte))).before args0 about1 = true := code_word (m := ⟨30, 2⟩) (meth := k30m2) (c := k30c2) (by decide +kernel) rfl rfl rfl (by decide +kernel)
set_option maxRecDepth 65536 in
theorem w_c65 : (Jvm.Cond.code ({ cls := "java/lang/String", name := "<init>", desc := "([BB)V" } : Jvm.MethodName) jdk_42_method_151_code (3 : Nat) (Option.none : Option Jvm.ClassFile.FieldType)).before args0 about1 = true := code_word (m := ⟨7, 11⟩) (meth := k7m11) (c := k7c11) (by decide +kernel) rfl rfl rfl (by decide +kernel)
set_option maxRecDepth 65536 in
theorem w_c66 : (Jvm.Cond.code ({ cls := "java/lang/String", name := "<init>", desc := "([C)V" } : Jvm.MethodName) jdk_42_method_3_code (2 : Nat) (Option.none : Option Jvm.ClassFile.FieldType)).before args0 about1 = true := code_word (m := ⟨7, 1⟩) (meth := k7m1) (c := k7c1) (by decide +kernel) rfl rfl rfl (by decide +kernel)
set_option maxRecDepth 65536 in
theorem w_c67 : (Jvm.Cond.code ({ cls := "java/lang/String", name := "<init>", desc := sn48 } : Jvm.MethodName) jdk_42_method_149_code (6 : Nat) (Option.none : Option Jvm.ClassFile.FieldType)).before args0 about1 = true := code_word (m := ⟨7, 9⟩) (meth := k7m9) (c := k7c9) (by decide +kernel) rfl rfl rfl (by decide +kernel)
set_option maxRecDepth 65536 in
theorem w_c68 : (Jvm.Cond.code ({ cls := sn9, name := "compress", desc := "([CII)[B" } : Jvm.MethodName) jdk_52_method_16_code (6 : Nat) (Option.some (Jvm.ClassFile.FieldType.array Jvm.ClassFile.FieldType.byte))).before args0 about1 = true := code_word (m := ⟨41, 4⟩) (meth := k41m4) (c := k41c4) (by decide +kernel) rfl rfl rfl (by decide +kernel)
set_option maxRecDepth 65536 in
theorem w_c69 : (Jvm.Cond.code ({ cls := sn9, name := "compress", desc := "([CI[BII)I" } : Jvm.MethodName) jdk_52_method_21_code (7 : Nat) (Option.some Jvm.ClassFile.FieldType.int)).before args0 about1 = true := code_word (m := ⟨41, 5⟩) (meth := k41m5) (c := k41c5) (by decide +kernel) rfl rfl rfl (by decide +kernel)
set_option maxRecDepth 65536 in
theorem w_c70 : (Jvm.Cond.code ({ cls := sn9, name := "coderFromArrayLen", desc := "([BI)B" } : Jvm.MethodName) jdk_52_method_15_code (2 : Nat) (Option.some Jvm.ClassFile.FieldType.byte)).before args0 about1 = true := code_word (m := ⟨41, 3⟩) (meth := k41m3) (c := k41c3) (by decide +kernel) rfl rfl rfl (by decide +kernel)
set_option maxRecDepth 65536 in
theorem w_c71 : (Jvm.Cond.code ({ cls := sn4, name := "<init>", desc := sn26 } : Jvm.MethodName) jdk_44_method_2_code (3 : Nat) (Option.none : Option Jvm.ClassFile.FieldType)).before args0 about1 = true := code_word (m := ⟨22, 1⟩) (meth := k22m1) (c := k22c1) (by decide +kernel) rfl rfl rfl (by decide +kernel)
set_option maxRecDepth 65536 in
theorem w_c72 : (Jvm.Cond.code ({ cls := sn2, name := "putChar", desc := "([IIC)I" } : Jvm.MethodName) method_5_code (3 : Nat) (Option.some Jvm.ClassFile.FieldType.int)).before args0 about1 = true := code_word (m := ⟨1, 4⟩) (meth := k1m4) (c := k1c4) (by decide +kernel) rfl rfl rfl (by decide +kernel)
set_option maxRecDepth 65536 in
theorem w_c73 : (Jvm.Cond.code ({ cls := sn9, name := "newBytesFor", desc := "(I)[B" } : Jvm.MethodName) jdk_52_method_2_code (1 : Nat) (Option.some (Jvm.ClassFile.FieldType.array Jvm.ClassFile.FieldType.byte))).before args0 about1 = true := code_word (m := ⟨41, 1⟩) (meth := k41m1) (c := k41c1) (by decide +kernel) rfl rfl rfl (by decide +kernel)
set_option maxRecDepth 65536 in
theorem w_c74 : (Jvm.Cond.code ({ cls := sn9, name := "newBytesLength", desc := "(I)I" } : Jvm.MethodName) jdk_52_method_3_code (1 : Nat) (Option.some Jvm.ClassFile.FieldType.int)).before args0 about1 = true := code_word (m := ⟨41, 2⟩) (meth := k41m2) (c := k41c2) (by decide +kernel) rfl rfl rfl (by decide +kernel)
set_option maxRecDepth 65536 in
theorem w_c75 : (Jvm.Cond.code ({ cls := "java/util/Arrays", name := "copyOf", desc := "([BI)[B" } : Jvm.MethodName) jdk_65_method_121_code (3 : Nat) (Option.some (Jvm.ClassFile.FieldType.array Jvm.ClassFile.FieldType.byte))).before args0 about1 = true := code_word (m := ⟨31, 3⟩) (meth := k31m3) (c := k31c3) (by decide +kernel) rfl rfl rfl (by decide +kernel)
def codes1 : List Jvm.Cond := [Jvm.Cond.code x code maxLocals ret, Jvm.Cond.code ({ cls := sn2, name := "str", desc := sn47 } : Jvm.MethodName) method_3_code (3 : Nat) (Option.some (Jvm.ClassFile.FieldType.object "java/lang/String")), Jvm.Cond.code ({ cls := "java/util/ArrayList", name := "<init>", desc := "()V" } : Jvm.MethodName) jdk_38_method_2_code (1 : Nat) (Option.none : Option Jvm.ClassFile.FieldType), Jvm.Cond.code ({ cls := sn21, name := "<init>", desc := "()V" } : Jvm.MethodName) jdk_39_method_1_code (1 : Nat) (Option.none : Option Jvm.ClassFile.FieldType), Jvm.Cond.code ({ cls := sn18, name := "<init>", desc := "()V" } : Jvm.MethodName) jdk_22_method_1_code (1 : Nat) (Option.none : Option Jvm.ClassFile.FieldType), Jvm.Cond.code ({ cls := "java/lang/Object", name := "<init>", desc := "()V" } : Jvm.MethodName) object_method_1_code (1 : Nat) (Option.none : Option Jvm.ClassFile.FieldType), Jvm.Cond.code ({ cls := sn1, name := "<init>", desc := "(Ljava/util/List;)V" } : Jvm.MethodName) prog_7_method_1_code (2 : Nat) (Option.none : Option Jvm.ClassFile.FieldType), Jvm.Cond.code ({ cls := "java/lang/Record", name := "<init>", desc := "()V" } : Jvm.MethodName) jdk_30_method_1_code (1 : Nat) (Option.none : Option Jvm.ClassFile.FieldType), Jvm.Cond.code ({ cls := "java/util/List", name := "copyOf", desc := sn10 } : Jvm.MethodName) jdk_40_method_48_code (1 : Nat) (Option.some (Jvm.ClassFile.FieldType.object "java/util/List")), Jvm.Cond.code ({ cls := sn7, name := "listCopy", desc := sn10 } : Jvm.MethodName) jdk_56_method_3_code (2 : Nat) (Option.some (Jvm.ClassFile.FieldType.object "java/util/List")), Jvm.Cond.code ({ cls := "java/util/ArrayList", name := "isEmpty", desc := "()Z" } : Jvm.MethodName) jdk_38_method_9_code (1 : Nat) (Option.some Jvm.ClassFile.FieldType.boolean), Jvm.Cond.code ({ cls := "java/util/List", name := "of", desc := "()Ljava/util/List;" } : Jvm.MethodName) jdk_40_method_36_code (0 : Nat) (Option.some (Jvm.ClassFile.FieldType.object "java/util/List")), Jvm.Cond.code ({ cls := sn1, name := "bytes", desc := "()[B" } : Jvm.MethodName) prog_7_method_4_code (4 : Nat) (Option.some (Jvm.ClassFile.FieldType.array Jvm.ClassFile.FieldType.byte)), Jvm.Cond.code ({ cls := sn5, name := "<init>", desc := "()V" } : Jvm.MethodName) jdk_67_method_1_code (1 : Nat) (Option.none : Option Jvm.ClassFile.FieldType), Jvm.Cond.code ({ cls := sn0, name := "<init>", desc := "(I)V" } : Jvm.MethodName) jdk_68_method_2_code (2 : Nat) (Option.none : Option Jvm.ClassFile.FieldType), Jvm.Cond.code ({ cls := sn6, name := "iterator", desc := sn20 } : Jvm.MethodName) jdk_46_method_10_code (1 : Nat) (Option.some (Jvm.ClassFile.FieldType.object "java/util/Iterator")), Jvm.Cond.code ({ cls := sn8, name := "size", desc := "()I" } : Jvm.MethodName) jdk_45_method_3_code (1 : Nat) (Option.some Jvm.ClassFile.FieldType.int), Jvm.Cond.code ({ cls := sn3, name := "<init>", desc := sn49 } : Jvm.MethodName) jdk_53_method_1_code (3 : Nat) (Option.none : Option Jvm.ClassFile.FieldType), Jvm.Cond.code ({ cls := sn3, name := "hasNext", desc := "()Z" } : Jvm.MethodName) jdk_53_method_3_code (1 : Nat) (Option.some Jvm.ClassFile.FieldType.boolean), Jvm.Cond.code ({ cls := sn5, name := "append", desc := sn32 } : Jvm.MethodName) jdk_67_method_14_code (2 : Nat) (Option.some (Jvm.ClassFile.FieldType.object sn5)), Jvm.Cond.code ({ cls := sn0, name := "append", desc := sn33 } : Jvm.MethodName) jdk_68_method_31_code (2 : Nat) (Option.some (Jvm.ClassFile.FieldType.object sn0)), Jvm.Cond.code ({ cls := sn0, name := sn42, desc := "(I)V" } : Jvm.MethodName) jdk_68_method_9_code (3 : Nat) (Option.none : Option Jvm.ClassFile.FieldType), Jvm.Cond.code ({ cls := sn0, name := "isLatin1", desc := "()Z" } : Jvm.MethodName) jdk_68_method_68_code (1 : Nat) (Option.some Jvm.ClassFile.FieldType.boolean), Jvm.Cond.code ({ cls := sn24, name := "canEncode", desc := "(C)Z" } : Jvm.MethodName) jdk_43_method_3_code (1 : Nat) (Option.some Jvm.ClassFile.FieldType.boolean), Jvm.Cond.code ({ cls := sn5, name := "toString", desc := sn40 } : Jvm.MethodName) jdk_67_method_42_code (1 : Nat) (Option.some (Jvm.ClassFile.FieldType.object "java/lang/String")), Jvm.Cond.code ({ cls := "java/lang/String", name := "<init>", desc := sn37 } : Jvm.MethodName) jdk_42_method_53_code (2 : Nat) (Option.none : Option Jvm.ClassFile.FieldType), Jvm.Cond.code ({ cls := "java/lang/String", name := "<init>", desc := sn19 } : Jvm.MethodName) jdk_42_method_150_code (5 : Nat) (Option.none : Option Jvm.ClassFile.FieldType), Jvm.Cond.code ({ cls := sn0, name := "getValue", desc := "()[B" } : Jvm.MethodName) jdk_68_method_64_code (1 : Nat) (Option.some (Jvm.ClassFile.FieldType.array Jvm.ClassFile.FieldType.byte)), Jvm.Cond.code ({ cls := sn5, name := "length", desc := "()I" } : Jvm.MethodName) jdk_67_method_93_code (1 : Nat) (Option.some Jvm.ClassFile.FieldType.int), Jvm.Cond.code ({ cls := sn0, name := "length", desc := "()I" } : Jvm.MethodName) jdk_68_method_6_code (1 : Nat) (Option.some Jvm.ClassFile.FieldType.int), Jvm.Cond.code ({ cls := "java/util/Arrays", name := "copyOfRange", desc := "([BII)[B" } : Jvm.MethodName) jdk_65_method_132_code (3 : Nat) (Option.some (Jvm.ClassFile.FieldType.array Jvm.ClassFile.FieldType.byte)), Jvm.Cond.code ({ cls := "java/util/Arrays", name := "copyOfRangeByte", desc := "([BII)[B" } : Jvm.MethodName) jdk_65_method_133_code (5 : Nat) (Option.some (Jvm.ClassFile.FieldType.array Jvm.ClassFile.FieldType.byte)), Jvm.Cond.code ({ cls := "java/util/Arrays", name := "checkLength", desc := "(II)V" } : Jvm.MethodName) jdk_65_method_131_code (2 : Nat) (Option.none : Option Jvm.ClassFile.FieldType), Jvm.Cond.code ({ cls := "java/lang/Math", name := "min", desc := "(II)I" } : Jvm.MethodName) jdk_29_method_69_code (2 : Nat) (Option.some Jvm.ClassFile.FieldType.int), Jvm.Cond.code ({ cls := "java/lang/String", name := "getBytes", desc := sn25 } : Jvm.MethodName) jdk_42_method_64_code (2 : Nat) (Option.some (Jvm.ClassFile.FieldType.array Jvm.ClassFile.FieldType.byte)), Jvm.Cond.code ({ cls := "java/lang/String", name := "coder", desc := "()B" } : Jvm.MethodName) jdk_42_method_152_code (1 : Nat) (Option.some Jvm.ClassFile.FieldType.byte), Jvm.Cond.code ({ cls := "java/lang/String", name := "encode", desc := sn36 } : Jvm.MethodName) jdk_42_method_18_code (3 : Nat) (Option.some (Jvm.ClassFile.FieldType.array Jvm.ClassFile.FieldType.byte)), Jvm.Cond.code ({ cls := "java/lang/String", name := "encodeUTF8", desc := "(B[BZ)[B" } : Jvm.MethodName) jdk_42_method_46_code (9 : Nat) (Option.some (Jvm.ClassFile.FieldType.array Jvm.ClassFile.FieldType.byte)), Jvm.Cond.code ({ cls := sn30, name := "hasNegatives", desc := "([BII)Z" } : Jvm.MethodName) jdk_123_method_2_code (3 : Nat) (Option.some Jvm.ClassFile.FieldType.boolean), Jvm.Cond.code ({ cls := sn30, name := "countPositives", desc := "([BII)I" } : Jvm.MethodName) jdk_123_method_3_code (5 : Nat) (Option.some Jvm.ClassFile.FieldType.int), Jvm.Cond.code ({ cls := sn2, name := "same", desc := "([B[II)Z" } : Jvm.MethodName) method_6_code (4 : Nat) (Option.some Jvm.ClassFile.FieldType.boolean), Jvm.Cond.code ({ cls := "java/util/ArrayList", name := "add", desc := sn38 } : Jvm.MethodName) jdk_38_method_25_code (2 : Nat) (Option.some Jvm.ClassFile.FieldType.boolean), Jvm.Cond.code ({ cls := "java/util/ArrayList", name := "add", desc := sn22 } : Jvm.MethodName) jdk_38_method_24_code (4 : Nat) (Option.none : Option Jvm.ClassFile.FieldType), Jvm.Cond.code ({ cls := "java/util/ArrayList", name := "grow", desc := sn13 } : Jvm.MethodName) jdk_38_method_7_code (1 : Nat) (Option.some (Jvm.ClassFile.FieldType.array (Jvm.ClassFile.FieldType.object "java/lang/Object"))), Jvm.Cond.code ({ cls := "java/util/ArrayList", name := "grow", desc := sn44 } : Jvm.MethodName) jdk_38_method_6_code (4 : Nat) (Option.some (Jvm.ClassFile.FieldType.array (Jvm.ClassFile.FieldType.object "java/lang/Object"))), Jvm.Cond.code ({ cls := "java/lang/Math", name := "max", desc := "(II)I" } : Jvm.MethodName) jdk_29_method_65_code (2 : Nat) (Option.some Jvm.ClassFile.FieldType.int), Jvm.Cond.code ({ cls := "java/util/ArrayList", name := "toArray", desc := sn13 } : Jvm.MethodName) jdk_38_method_16_code (1 : Nat) (Option.some (Jvm.ClassFile.FieldType.array (Jvm.ClassFile.FieldType.object "java/lang/Object"))), Jvm.Cond.code ({ cls := "java/util/Arrays", name := "copyOf", desc := sn23 } : Jvm.MethodName) jdk_65_method_119_code (2 : Nat) (Option.some (Jvm.ClassFile.FieldType.array (Jvm.ClassFile.FieldType.object "java/lang/Object"))), Jvm.Cond.code ({ cls := "java/util/Arrays", name := "copyOf", desc := sn15 } : Jvm.MethodName) jdk_65_method_120_code (4 : Nat) (Option.some (Jvm.ClassFile.FieldType.array (Jvm.ClassFile.FieldType.object "java/lang/Object"))), Jvm.Cond.code ({ cls := "java/util/List", name := "of", desc := sn31 } : Jvm.MethodName) jdk_40_method_47_code (2 : Nat) (Option.some (Jvm.ClassFile.FieldType.object "java/util/List")), Jvm.Cond.code ({ cls := sn4, name := "<init>", desc := sn45 } : Jvm.MethodName) jdk_44_method_1_code (2 : Nat) (Option.none : Option Jvm.ClassFile.FieldType), Jvm.Cond.code ({ cls := sn6, name := "<init>", desc := "()V" } : Jvm.MethodName) jdk_46_method_1_code (1 : Nat) (Option.none : Option Jvm.ClassFile.FieldType), Jvm.Cond.code ({ cls := sn11, name := "<init>", desc := "()V" } : Jvm.MethodName) jdk_47_method_1_code (1 : Nat) (Option.none : Option Jvm.ClassFile.FieldType), Jvm.Cond.code ({ cls := "java/util/Objects", name := "requireNonNull", desc := sn28 } : Jvm.MethodName) jdk_31_method_10_code (1 : Nat) (Option.some (Jvm.ClassFile.FieldType.object "java/lang/Object")), Jvm.Cond.code ({ cls := sn4, name := "size", desc := "()I" } : Jvm.MethodName) jdk_44_method_3_code (1 : Nat) (Option.some Jvm.ClassFile.FieldType.int), Jvm.Cond.code ({ cls := sn4, name := "get", desc := sn29 } : Jvm.MethodName) jdk_44_method_5_code (2 : Nat) (Option.some (Jvm.ClassFile.FieldType.object "java/lang/Object")), Jvm.Cond.code ({ cls := sn5, name := "append", desc := sn12 } : Jvm.MethodName) jdk_67_method_7_code (2 : Nat) (Option.some (Jvm.ClassFile.FieldType.object sn5)), Jvm.Cond.code ({ cls := sn0, name := "append", desc := sn14 } : Jvm.MethodName) jdk_68_method_22_code (3 : Nat) (Option.some (Jvm.ClassFile.FieldType.object sn0)), Jvm.Cond.code ({ cls := "java/lang/String", name := "length", desc := "()I" } : Jvm.MethodName) jdk_42_method_54_code (1 : Nat) (Option.some Jvm.ClassFile.FieldType.int), Jvm.Cond.code ({ cls := sn0, name := "putStringAt", desc := sn39 } : Jvm.MethodName) jdk_68_method_73_code (3 : Nat) (Option.none : Option Jvm.ClassFile.FieldType), Jvm.Cond.code ({ cls := sn0, name := "inflateIfNeededFor", desc := sn41 } : Jvm.MethodName) jdk_68_method_71_code (2 : Nat) (Option.none : Option Jvm.ClassFile.FieldType), Jvm.Cond.code ({ cls := "java/lang/String", name := "getBytes", desc := "([BIB)V" } : Jvm.MethodName) jdk_42_method_147_code (4 : Nat) (Option.none : Option Jvm.ClassFile.FieldType), Jvm.Cond.code ({ cls := sn2, name := "putLine", desc := "([IIICC)I" } : Jvm.MethodName) method_4_code (6 : Nat) (Option.some Jvm.ClassFile.FieldType.int), Jvm.Cond.code ({ cls := "java/lang/String", name := "valueOf", desc := sn46 } : Jvm.MethodName) jdk_42_method_139_code (1 : Nat) (Option.some (Jvm.ClassFile.FieldType.object "java/lang/String")), Jvm.Cond.code ({ cls := sn24, name := "toBytes", desc := "(C)[B" } : Jvm.MethodName) jdk_43_method_46_code (1 : Nat) (Option.some (Jvm.ClassFile.FieldType.array Jvm.ClassFile.FieldType.byte)), Jvm.Cond.code ({ cls := "java/lang/String", name := "<init>", desc := "([BB)V" } : Jvm.MethodName) jdk_42_method_151_code (3 : Nat) (Option.none : Option Jvm.ClassFile.FieldType), Jvm.Cond.code ({ cls := "java/lang/String", name := "<init>", desc := "([C)V" } : Jvm.MethodName) jdk_42_method_3_code (2 : Nat) (Option.none : Option Jvm.ClassFile.FieldType), Jvm.Cond.code ({ cls := "java/lang/String", name := "<init>", desc := sn48 } : Jvm.MethodName) jdk_42_method_149_code (6 : Nat) (Option.none : Option Jvm.ClassFile.FieldType), Jvm.Cond.code ({ cls := sn9, name := "compress", desc := "([CII)[B" } : Jvm.MethodName) jdk_52_method_16_code (6 : Nat) (Option.some (Jvm.ClassFile.FieldType.array Jvm.ClassFile.FieldType.byte)), Jvm.Cond.code ({ cls := sn9, name := "compress", desc := "([CI[BII)I" } : Jvm.MethodName) jdk_52_method_21_code (7 : Nat) (Option.some Jvm.ClassFile.FieldType.int), Jvm.Cond.code ({ cls := sn9, name := "coderFromArrayLen", desc := "([BI)B" } : Jvm.MethodName) jdk_52_method_15_code (2 : Nat) (Option.some Jvm.ClassFile.FieldType.byte), Jvm.Cond.code ({ cls := sn4, name := "<init>", desc := sn26 } : Jvm.MethodName) jdk_44_method_2_code (3 : Nat) (Option.none : Option Jvm.ClassFile.FieldType), Jvm.Cond.code ({ cls := sn2, name := "putChar", desc := "([IIC)I" } : Jvm.MethodName) method_5_code (3 : Nat) (Option.some Jvm.ClassFile.FieldType.int), Jvm.Cond.code ({ cls := sn9, name := "newBytesFor", desc := "(I)[B" } : Jvm.MethodName) jdk_52_method_2_code (1 : Nat) (Option.some (Jvm.ClassFile.FieldType.array Jvm.ClassFile.FieldType.byte)), Jvm.Cond.code ({ cls := sn9, name := "newBytesLength", desc := "(I)I" } : Jvm.MethodName) jdk_52_method_3_code (1 : Nat) (Option.some Jvm.ClassFile.FieldType.int), Jvm.Cond.code ({ cls := "java/util/Arrays", name := "copyOf", desc := "([BI)[B" } : Jvm.MethodName) jdk_65_method_121_code (3 : Nat) (Option.some (Jvm.ClassFile.FieldType.array Jvm.ClassFile.FieldType.byte))]
set_option maxRecDepth 65536 in
theorem codes_eq : words1.filter isCode = codes1 := rfl
theorem w_codes : ∀ c ∈ words1.filter isCode, c.before args0 about1 = true := by
  rw [codes_eq]
  intro c hc
  simp only [codes1, List.mem_cons, List.not_mem_nil, or_false] at hc
  rcases hc with rfl | rfl | rfl | rfl | rfl | rfl | rfl | rfl | rfl | rfl | rfl | rfl | rfl | rfl | rfl | rfl | rfl | rfl | rfl | rfl | rfl | rfl | rfl | rfl | rfl | rfl | rfl | rfl | rfl | rfl | rfl | rfl | rfl | rfl | rfl | rfl | rfl | rfl | rfl | rfl | rfl | rfl | rfl | rfl | rfl | rfl | rfl | rfl | rfl | rfl | rfl | rfl | rfl | rfl | rfl | rfl | rfl | rfl | rfl | rfl | rfl | rfl | rfl | rfl | rfl | rfl | rfl | rfl | rfl | rfl | rfl | rfl | rfl | rfl | rfl | rfl
  · exact w_c0
  · exact w_c1
  · exact w_c2
  · exact w_c3
  · exact w_c4
  · exact w_c5
  · exact w_c6
  · exact w_c7
  · exact w_c8
  · exact w_c9
  · exact w_c10
  · exact w_c11
  · exact w_c12
  · exact w_c13
  · exact w_c14
  · exact w_c15
  · exact w_c16
  · exact w_c17
  · exact w_c18
  · exact w_c19
  · exact w_c20
  · exact w_c21
  · exact w_c22
  · exact w_c23
  · exact w_c24
  · exact w_c25
  · exact w_c26
  · exact w_c27
  · exact w_c28
  · exact w_c29
  · exact w_c30
  · exact w_c31
  · exact w_c32
  · exact w_c33
  · exact w_c34
  · exact w_c35
  · exact w_c36
  · exact w_c37
  · exact w_c38
  · exact w_c39
  · exact w_c40
  · exact w_c41
  · exact w_c42
  · exact w_c43
  · exact w_c44
  · exact w_c45
  · exact w_c46
  · exact w_c47
  · exact w_c48
  · exact w_c49
  · exact w_c50
  · exact w_c51
  · exact w_c52
  · exact w_c53
  · exact w_c54
  · exact w_c55
  · exact w_c56
  · exact w_c57
  · exact w_c58
  · exact w_c59
  · exact w_c60
  · exact w_c61
  · exact w_c62
  · exact w_c63
  · exact w_c64
  · exact w_c65
  · exact w_c66
  · exact w_c67
  · exact w_c68
  · exact w_c69
  · exact w_c70
  · exact w_c71
  · exact w_c72
  · exact w_c73
  · exact w_c74
  · exact w_c75
set_option maxRecDepth 65536 in
theorem w_t1 : (words1.take 24).all (fun c => isCode c || c.before args0 about1) = true := by decide +kernel
set_option maxRecDepth 65536 in
theorem w_t2 : ((words1.drop 24).take 24).all (fun c => isCode c || c.before args0 about1) = true := by decide +kernel
set_option maxRecDepth 65536 in
theorem w_t3 : (((words1.drop 24).drop 24).take 24).all (fun c => isCode c || c.before args0 about1) = true := by decide +kernel
set_option maxRecDepth 65536 in
theorem w_t4 : ((((words1.drop 24).drop 24).drop 24).take 24).all (fun c => isCode c || c.before args0 about1) = true := by decide +kernel
set_option maxRecDepth 65536 in
theorem w_t5 : (((((words1.drop 24).drop 24).drop 24).drop 24).take 24).all (fun c => isCode c || c.before args0 about1) = true := by decide +kernel
set_option maxRecDepth 65536 in
theorem w_t6 : ((((((words1.drop 24).drop 24).drop 24).drop 24).drop 24).take 24).all (fun c => isCode c || c.before args0 about1) = true := by decide +kernel
set_option maxRecDepth 65536 in
theorem w_t7 : (((((((words1.drop 24).drop 24).drop 24).drop 24).drop 24).drop 24).take 24).all (fun c => isCode c || c.before args0 about1) = true := by decide +kernel
set_option maxRecDepth 65536 in
theorem w_t8 : ((((((((words1.drop 24).drop 24).drop 24).drop 24).drop 24).drop 24).drop 24).take 24).all (fun c => isCode c || c.before args0 about1) = true := by decide +kernel
set_option maxRecDepth 65536 in
theorem w_t9 : (((((((((words1.drop 24).drop 24).drop 24).drop 24).drop 24).drop 24).drop 24).drop 24).take 24).all (fun c => isCode c || c.before args0 about1) = true := by decide +kernel
set_option maxRecDepth 65536 in
theorem w_t10 : ((((((((((words1.drop 24).drop 24).drop 24).drop 24).drop 24).drop 24).drop 24).drop 24).drop 24).take 24).all (fun c => isCode c || c.before args0 about1) = true := by decide +kernel
set_option maxRecDepth 65536 in
theorem w_t11 : (((((((((((words1.drop 24).drop 24).drop 24).drop 24).drop 24).drop 24).drop 24).drop 24).drop 24).drop 24).take 24).all (fun c => isCode c || c.before args0 about1) = true := by decide +kernel
set_option maxRecDepth 65536 in
theorem w_t12 : ((((((((((((words1.drop 24).drop 24).drop 24).drop 24).drop 24).drop 24).drop 24).drop 24).drop 24).drop 24).drop 24).take 24).all (fun c => isCode c || c.before args0 about1) = true := by decide +kernel
set_option maxRecDepth 65536 in
theorem w_t13 : (((((((((((((words1.drop 24).drop 24).drop 24).drop 24).drop 24).drop 24).drop 24).drop 24).drop 24).drop 24).drop 24).drop 24).take 24).all (fun c => isCode c || c.before args0 about1) = true := by decide +kernel
set_option maxRecDepth 65536 in
theorem w_t14 : ((((((((((((((words1.drop 24).drop 24).drop 24).drop 24).drop 24).drop 24).drop 24).drop 24).drop 24).drop 24).drop 24).drop 24).drop 24).take 24).all (fun c => isCode c || c.before args0 about1) = true := by decide +kernel
set_option maxRecDepth 65536 in
theorem w_t15 : (((((((((((((((words1.drop 24).drop 24).drop 24).drop 24).drop 24).drop 24).drop 24).drop 24).drop 24).drop 24).drop 24).drop 24).drop 24).drop 24).take 24).all (fun c => isCode c || c.before args0 about1) = true := by decide +kernel
set_option maxRecDepth 65536 in
theorem w_t16 : ((((((((((((((((words1.drop 24).drop 24).drop 24).drop 24).drop 24).drop 24).drop 24).drop 24).drop 24).drop 24).drop 24).drop 24).drop 24).drop 24).drop 24).take 24).all (fun c => isCode c || c.before args0 about1) = true := by decide +kernel
set_option maxRecDepth 65536 in
theorem w_t17 : (((((((((((((((((words1.drop 24).drop 24).drop 24).drop 24).drop 24).drop 24).drop 24).drop 24).drop 24).drop 24).drop 24).drop 24).drop 24).drop 24).drop 24).drop 24).take 24).all (fun c => isCode c || c.before args0 about1) = true := by decide +kernel
set_option maxRecDepth 65536 in
theorem w_t18 : ((((((((((((((((((words1.drop 24).drop 24).drop 24).drop 24).drop 24).drop 24).drop 24).drop 24).drop 24).drop 24).drop 24).drop 24).drop 24).drop 24).drop 24).drop 24).drop 24).take 24).all (fun c => isCode c || c.before args0 about1) = true := by decide +kernel
set_option maxRecDepth 65536 in
theorem w_t19 : ((((((((((((((((((words1.drop 24).drop 24).drop 24).drop 24).drop 24).drop 24).drop 24).drop 24).drop 24).drop 24).drop 24).drop 24).drop 24).drop 24).drop 24).drop 24).drop 24).drop 24).all (fun c => isCode c || c.before args0 about1) = true := by decide +kernel
theorem w_tables : (allAtoms (Jvm.Cond.code x code maxLocals ret :: tables_1)).before args0 about1 = true := by
  rw [allAtoms_all]
  show words1.all (fun c => c.before args0 about1) = true
  refine all_split ?_ w_codes
  rw [← List.take_append_drop 24 words1, List.all_append, w_t1, ← List.take_append_drop 24 (words1.drop 24), List.all_append, w_t2, ← List.take_append_drop 24 ((words1.drop 24).drop 24), List.all_append, w_t3, ← List.take_append_drop 24 (((words1.drop 24).drop 24).drop 24), List.all_append, w_t4, ← List.take_append_drop 24 ((((words1.drop 24).drop 24).drop 24).drop 24), List.all_append, w_t5, ← List.take_append_drop 24 (((((words1.drop 24).drop 24).drop 24).drop 24).drop 24), List.all_append, w_t6, ← List.take_append_drop 24 ((((((words1.drop 24).drop 24).drop 24).drop 24).drop 24).drop 24), List.all_append, w_t7, ← List.take_append_drop 24 (((((((words1.drop 24).drop 24).drop 24).drop 24).drop 24).drop 24).drop 24), List.all_append, w_t8, ← List.take_append_drop 24 ((((((((words1.drop 24).drop 24).drop 24).drop 24).drop 24).drop 24).drop 24).drop 24), List.all_append, w_t9, ← List.take_append_drop 24 (((((((((words1.drop 24).drop 24).drop 24).drop 24).drop 24).drop 24).drop 24).drop 24).drop 24), List.all_append, w_t10, ← List.take_append_drop 24 ((((((((((words1.drop 24).drop 24).drop 24).drop 24).drop 24).drop 24).drop 24).drop 24).drop 24).drop 24), List.all_append, w_t11, ← List.take_append_drop 24 (((((((((((words1.drop 24).drop 24).drop 24).drop 24).drop 24).drop 24).drop 24).drop 24).drop 24).drop 24).drop 24), List.all_append, w_t12, ← List.take_append_drop 24 ((((((((((((words1.drop 24).drop 24).drop 24).drop 24).drop 24).drop 24).drop 24).drop 24).drop 24).drop 24).drop 24).drop 24), List.all_append, w_t13, ← List.take_append_drop 24 (((((((((((((words1.drop 24).drop 24).drop 24).drop 24).drop 24).drop 24).drop 24).drop 24).drop 24).drop 24).drop 24).drop 24).drop 24), List.all_append, w_t14, ← List.take_append_drop 24 ((((((((((((((words1.drop 24).drop 24).drop 24).drop 24).drop 24).drop 24).drop 24).drop 24).drop 24).drop 24).drop 24).drop 24).drop 24).drop 24), List.all_append, w_t15, ← List.take_append_drop 24 (((((((((((((((words1.drop 24).drop 24).drop 24).drop 24).drop 24).drop 24).drop 24).drop 24).drop 24).drop 24).drop 24).drop 24).drop 24).drop 24).drop 24), List.all_append, w_t16, ← List.take_append_drop 24 ((((((((((((((((words1.drop 24).drop 24).drop 24).drop 24).drop 24).drop 24).drop 24).drop 24).drop 24).drop 24).drop 24).drop 24).drop 24).drop 24).drop 24).drop 24), List.all_append, w_t17, ← List.take_append_drop 24 (((((((((((((((((words1.drop 24).drop 24).drop 24).drop 24).drop 24).drop 24).drop 24).drop 24).drop 24).drop 24).drop 24).drop 24).drop 24).drop 24).drop 24).drop 24).drop 24), List.all_append, w_t18, w_t19]
  rfl
set_option maxRecDepth 65536 in
theorem w_rest : rest_1_c.before args0 about1 = true := by decide +kernel
set_option maxRecDepth 65536 in
theorem w_case : (Jvm.Cond.and given_1 narrow_1).before args0 about1 = true := by decide +kernel
set_option maxRecDepth 65536 in
theorem w_consts : constsHeld consts_1 about1 := Jvm.Lit.constsHeldB_iff.mp (by decide +kernel)
theorem w_applies : (headSpec (Jvm.Cond.code x code maxLocals ret :: tables_1) room_1).applies x e0.platform about1 = true :=
  (Spec.applies_iff w_frames).mpr ⟨w_running, w_runnable, w_alone, w_named, w_hears, w_ripe, w_room, w_tables⟩
theorem atStart : AtStart classFile x code maxLocals ret World_1 tables_1 room_1 Calls_1 rest_1 Pre_1 launch0 p0 e0 about1 theMethod args0 below0 :=
  ⟨lists_1, trivial, launch0.admits_env _ _ _, launch0.least_env, fairChoices_fair.cas, fairChoices_fair.clock, w_frames, w_args, w_heap, w_applies, ⟨⟨51, k51, 6, by decide +kernel, rfl, rfl, _, rfl, rfl⟩, ⟨w_consts, trivial⟩⟩, w_rest, w_case⟩
end start1
theorem witness_1 : WitnessClaimed_1 := ⟨start1.p0, start1.e0, start1.about1, start1.theMethod, start1.args0, start1.below0, start1.atStart⟩
end Jvm.Pilot.@@N@@
