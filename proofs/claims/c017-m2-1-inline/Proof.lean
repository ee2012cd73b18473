import JvmDerived
import JvmDerived.Pilot.@@N@@Statement
import JvmDerived.Pilot.@@N@@Code
set_option linter.unusedVariables false
set_option linter.unusedSimpArgs false
set_option maxRecDepth 65536
set_option maxHeartbeats 4000000
namespace Jvm.Pilot.@@N@@
open Jvm Jvm.ClassFile Sem Op Lib Jvm.Free Jvm.Stand Jvm.LawKit Jvm.RoadKit Bundle Jvm.Pilot.@@N@@.Jvm.D

def OwnSets (g : Launch × State × Array Value × List (String × Nat)) : Prop := (∀ d ∈ jdkStatics_1, d.before g.2.2.1 g.2.1 = true) ∧ Fit g.2.1 ∧ g.2.2.2 = consts_1 ∧ ∃ (c : ClassId) (k : Class) (m : Addr), g.2.1.vm.findClass "[Ljava/lang/Object;" = some c ∧ g.2.1.vm.classes[c]? = some k ∧ k.mirror = some m
/-! OWN WALKING KIT, part 1: the heap as an explicit list, the running state, the goal, contracts. -/
abbrev GG := Launch × State × Array Value × List (String × Nat)
abbrev GG.l (g : GG) : Launch := g.1
abbrev GG.Z (g : GG) : State := g.2.1
abbrev GG.a0 (g : GG) : Array Value := g.2.2.1
abbrev GG.EL (g : GG) : List (String × Nat) := g.2.2.2
abbrev MM := Program × Env × State × MethodId × Array Value × List Frame × Method × Code
abbrev MM.p (M : MM) : Program := M.1
abbrev MM.e (M : MM) : Env := M.2.1
abbrev MM.s (M : MM) : State := M.2.2.1
abbrev MM.m (M : MM) : MethodId := M.2.2.2.1
abbrev MM.args (M : MM) : Array Value := M.2.2.2.2.1
abbrev MM.below (M : MM) : List Frame := M.2.2.2.2.2.1
abbrev MM.meth (M : MM) : Method := M.2.2.2.2.2.2.1
abbrev MM.c (M : MM) : Code := M.2.2.2.2.2.2.2
abbrev DD := MethodName × ByteArray × Nat × Option FieldType × Room
abbrev DD.y (D : DD) : MethodName := D.1
abbrev DD.cd (D : DD) : ByteArray := D.2.1
abbrev DD.mx (D : DD) : Nat := D.2.2.1
abbrev DD.rt (D : DD) : Option FieldType := D.2.2.2.1
abbrev DD.rm (D : DD) : Room := D.2.2.2.2
/-- the case's words, at its start -/
def GW (g : GG) : Prop := (∀ d ∈ tables_1, d.before g.a0 g.Z = true) ∧ EW g.Z g.a0 g.EL ∧ OwnSets g
theorem GW.w {g : GG} (W : GW g) : ∀ d ∈ tables_1, d.before g.a0 g.Z = true := W.1
abbrev FD := String × String × String × Value
abbrev Ent := Addr × ((String × List FD) ⊕ (FieldType × String × List Value))
abbrev SE := Addr × Addr × Int32 × List Value
def Ary (Z : State) (h : Heap) (a : Addr) (ty : FieldType) (nm : String) (vs : List Value) : Prop :=
  ∃ c : Cell, Jvm.RoadKit.Arr Z h a c ty ∧ c.slots = vs.toArray ∧ vs.length < 2 ^ 31 ∧ (∀ v ∈ vs, fits ty v = true) ∧ (∀ C, ty = .object C → Ovr Z c.cls C) ∧ (nm ≠ "" → Exa Z h a nm)
def Is (Z : State) (h : Heap) : Ent → Prop
  | (a, .inl (C, fs)) => Exa Z h a C ∧ ∀ f ∈ fs, Fld Z h a f.1 f.2.1 f.2.2.1 f.2.2.2
  | (a, .inr (ty, nm, vs)) => Ary Z h a ty nm vs
def Lays (Z : State) (a0 : Array Value) (C : String) (fs : List FD) : Prop :=
  (fs.map fun f => f.2.1).Nodup ∧ ∀ f ∈ fs, Laid Z a0 C f.1 f.2.1 f.2.2.1 ∧ ∃ ty, parseFieldDescriptor f.2.2.1 = some ty
def Ld (Z : State) (a0 : Array Value) : Ent → Prop
  | (_, .inl (C, fs)) => Lays Z a0 C fs
  | (_, .inr _) => True
def IsS (Z : State) (h : Heap) (y : SE) : Prop :=
  Exa Z h y.1 "java/lang/String" ∧ Fld Z h y.1 "java/lang/String" "value" "[B" (.ref y.2.1) ∧ Fld Z h y.1 "java/lang/String" "coder" "B" (.int y.2.2.1) ∧ Ary Z h y.2.1 .byte "" y.2.2.2
def Hp (g : GG) (vm : Vm) (h : Heap) (H : List Ent) (Lt : List SE) : Prop :=
  (∀ x ∈ H, Is g.Z h x ∧ Ld g.Z g.a0 x ∧ g.Z.heap.size ≤ x.1 ∧ Safe g.Z g.EL vm h x.1) ∧ (H.map Prod.fst).Nodup ∧ (∀ y ∈ Lt, IsS g.Z h y) ∧ ∀ x ∈ H, ∀ y ∈ Lt, x.1 ≠ y.1 ∧ x.1 ≠ y.2.1
section Heap
variable {g : GG} {Z : State} {h h' : Heap} {vm vm1 : Vm} {a b : Addr} {ty : FieldType} {nm : String} {vs : List Value} {H H' : List Ent} {Lt Lt' : List SE} {ws : List Addr} {a0 : Array Value}
theorem Ary.ext (A : Ary Z h a ty nm vs) (E : Ext h h') : Ary Z h' a ty nm vs := by
  obtain ⟨c, r1, r2, r3, r4, r5, r6⟩ := A
  exact ⟨c, r1.ext E, r2, r3, r4, r5, fun q => (r6 q).ext E⟩
theorem Ary.keep (A : Ary Z h a ty nm vs) (K : Keep h h' ws) (q : a ∉ ws) : Ary Z h' a ty nm vs := by
  obtain ⟨c, r1, r2, r3, r4, r5, r6⟩ := A
  exact ⟨c, ⟨K.2.1 a c r1.1 q, r1.2⟩, r2, r3, r4, r5, fun q => (r6 q).keep K⟩
theorem Ary.lt (A : Ary Z h a ty nm vs) : a < h.size := by obtain ⟨c, r1, -⟩ := A; exact r1.lt
theorem Is.lt {x : Ent} (I : Is Z h x) : x.1 < h.size := by
  obtain ⟨a, ⟨C, fs⟩ | ⟨ty, nm, vs⟩⟩ := x
  · exact I.1.lt
  · exact Ary.lt I
theorem Is.ext {x : Ent} (I : Is Z h x) (E : Ext h h') : Is Z h' x := by
  obtain ⟨a, ⟨C, fs⟩ | ⟨ty, nm, vs⟩⟩ := x
  · exact ⟨I.1.ext E, fun f hf => (I.2 f hf).ext E⟩
  · exact Ary.ext I E
theorem Is.keep {x : Ent} (I : Is Z h x) (K : Keep h h' ws) (q : x.1 ∉ ws) : Is Z h' x := by
  obtain ⟨a, ⟨C, fs⟩ | ⟨ty, nm, vs⟩⟩ := x
  · exact ⟨I.1.keep K, fun f hf => (I.2 f hf).keep K q⟩
  · exact Ary.keep I K q
theorem IsS.ext {y : SE} (I : IsS Z h y) (E : Ext h h') : IsS Z h' y := ⟨I.1.ext E, I.2.1.ext E, I.2.2.1.ext E, I.2.2.2.ext E⟩
theorem IsS.keep {y : SE} (I : IsS Z h y) (K : Keep h h' ws) (q : y.1 ∉ ws) (r : y.2.1 ∉ ws) : IsS Z h' y := ⟨I.1.keep K, I.2.1.keep K q, I.2.2.1.keep K q, I.2.2.2.keep K r⟩
/-- the tables and the heap go on, the heap at its end -/
theorem Hp.move (P : Hp g vm h H Lt) (C : CHr g.Z g.EL vm h vm1 h') (E : Ext h h') : Hp g vm1 h' H Lt :=
  ⟨fun x hx => ⟨(P.1 x hx).1.ext E, (P.1 x hx).2.1, (P.1 x hx).2.2.1, C.safe (P.1 x hx).1.lt (P.1 x hx).2.2.2⟩, P.2.1, fun y hy => (P.2.2.1 y hy).ext E, P.2.2.2⟩
theorem Hp.perm (P : Hp g vm h H Lt) (q : H.Perm H') : Hp g vm h H' Lt :=
  ⟨fun x hx => P.1 x (q.mem_iff.mpr hx), (q.map Prod.fst).nodup_iff.mp P.2.1, P.2.2.1, fun x hx => P.2.2.2 x (q.mem_iff.mpr hx)⟩
theorem perm_front {α : Type} {x : α} : ∀ {l : List α} {i : Nat}, l[i]? = some x → (x :: l.eraseIdx i).Perm l
  | [], _, h => by simp at h
  | a :: l, 0, h => by
    rw [List.getElem?_cons_zero] at h
    cases h
    exact List.Perm.refl _
  | a :: l, i + 1, h => by
    rw [List.getElem?_cons_succ] at h
    exact (List.Perm.swap a x _).trans ((perm_front h).cons a)
theorem Hp.front (P : Hp g vm h H Lt) {i : Nat} {x : Ent} (hi : H[i]? = some x) : Hp g vm h (x :: H.eraseIdx i) Lt := by
  exact P.perm (perm_front hi).symm
theorem Hp.sub (P : Hp g vm h H Lt) (q : H'.Sublist H) : Hp g vm h H' Lt :=
  ⟨fun x hx => P.1 x (q.subset hx), (q.map Prod.fst).nodup P.2.1, P.2.2.1, fun x hx => P.2.2.2 x (q.subset hx)⟩
theorem Hp.del (P : Hp g vm h H Lt) (i : Nat) : Hp g vm h (H.eraseIdx i) Lt := P.sub (List.eraseIdx_sublist H i)
theorem Hp.lsub (P : Hp g vm h H Lt) (q : ∀ y ∈ Lt', y ∈ Lt) : Hp g vm h H Lt' := ⟨P.1, P.2.1, fun y hy => P.2.2.1 y (q y hy), fun x hx y hy => P.2.2.2 x hx y (q y hy)⟩
theorem Hp.add (P : Hp g vm h H Lt) {x : Ent} (hI : Is g.Z h x) (hL : Ld g.Z g.a0 x) (h0 : g.Z.heap.size ≤ x.1) (hs : Safe g.Z g.EL vm h x.1) (hn : ∀ y ∈ H, y.1 ≠ x.1) (hl : ∀ y ∈ Lt, x.1 ≠ y.1 ∧ x.1 ≠ y.2.1) : Hp g vm h (x :: H) Lt := by
  refine ⟨fun y hy => ?_, ?_, P.2.2.1, fun y hy => ?_⟩
  · rcases List.mem_cons.mp hy with rfl | hy
    · exact ⟨hI, hL, h0, hs⟩
    · exact P.1 y hy
  · rw [List.map_cons, List.nodup_cons]
    refine ⟨fun q => ?_, P.2.1⟩
    obtain ⟨y, hy, e⟩ := List.mem_map.mp q
    exact hn y hy e
  · rcases List.mem_cons.mp hy with rfl | hy
    · exact hl
    · exact P.2.2.2 y hy
/-- a new cell at the heap's end -/
theorem Hp.born (P : Hp g vm h H Lt) (HC : CHv g.Z g.EL vm h) (E0 : Ext g.Z.heap h) (E : Ext h h') {x : Ent} (ha : x.1 = h.size) (hI : Is g.Z h' x) (hL : Ld g.Z g.a0 x) : Hp g vm h' (x :: H) Lt := by
  have C := CHr.ext E HC
  refine (P.move C E).add hI hL (by rw [ha]; exact E0.1) ?_ (fun y hy => ?_) (fun y hy => ?_)
  · intro B
    have B' := (HC.step fun _ _ _ q => E.2 _ _ q).2 _ B
    obtain ⟨cell, q⟩ := B'.there
    have := (Array.getElem?_eq_some_iff.mp q).1
    rw [ha] at this; omega
  · exact fun e => Nat.lt_irrefl _ (Nat.lt_of_lt_of_eq (P.1 y hy).1.lt (e.trans ha).symm)
  · have q1 := (P.2.2.1 y hy).1.lt
    have q2 := (P.2.2.1 y hy).2.2.2.lt
    exact ⟨fun e => Nat.lt_irrefl _ (Nat.lt_of_lt_of_eq q1 (e.symm.trans ha).symm), fun e => Nat.lt_irrefl _ (Nat.lt_of_lt_of_eq q2 (e.symm.trans ha).symm)⟩
theorem Hp.upd (P : Hp g vm h H Lt) (C : CHr g.Z g.EL vm h vm1 h') (K : Keep h h' [a]) {i : Nat} {x x' : Ent} (hi : H[i]? = some x) (ha : x.1 = a) (ha' : x'.1 = a) (hI : Is g.Z h' x') (hL : Ld g.Z g.a0 x') : Hp g vm1 h' (H.set i x') Lt := by
  obtain ⟨hl, hg⟩ := List.getElem?_eq_some_iff.mp hi
  have hmap : (H.set i x').map Prod.fst = H.map Prod.fst := by
    rw [List.map_set, ha']
    apply List.ext_getElem?
    intro j
    rw [List.getElem?_set]
    split
    · rename_i e; subst e
      rw [if_pos (by simpa using hl), List.getElem?_map, hi, ← ha]; rfl
    · rfl
  have hx : x ∈ H := hg ▸ List.getElem_mem hl
  have hmem : ∀ z ∈ H.set i x', z = x' ∨ (z ∈ H ∧ z.1 ≠ a) := fun z hz => by
    obtain ⟨j, hj⟩ := List.mem_iff_getElem?.mp hz
    rw [List.getElem?_set] at hj
    split at hj
    · exact Or.inl (Option.some.inj hj).symm
    · rename_i hne
      refine Or.inr ⟨List.mem_iff_getElem?.mpr ⟨j, hj⟩, fun e => hne ?_⟩
      obtain ⟨hjl, hjg⟩ := List.getElem?_eq_some_iff.mp hj
      have e1 : (H.map Prod.fst)[i]'(by simpa using hl) = (H.map Prod.fst)[j]'(by simpa using hjl) := by
        rw [List.getElem_map, List.getElem_map, hg, hjg, ha, e]
      exact (List.getElem_inj P.2.1).mp e1
  refine ⟨fun z hz => ?_, by rw [hmap]; exact P.2.1, fun y hy => ?_, fun z hz y hy => ?_⟩
  · rcases hmem z hz with rfl | ⟨hz, hne⟩
    · refine ⟨hI, hL, by rw [ha', ← ha]; exact (P.1 x hx).2.2.1, ?_⟩
      have := C.safe (P.1 x hx).1.lt (P.1 x hx).2.2.2
      rw [ha', ← ha]; exact this
    · exact ⟨(P.1 z hz).1.keep K (fun q => hne (List.mem_singleton.mp q)), (P.1 z hz).2.1, (P.1 z hz).2.2.1, C.safe (P.1 z hz).1.lt (P.1 z hz).2.2.2⟩
  · have q := P.2.2.2 x hx y hy
    rw [ha] at q
    exact (P.2.2.1 y hy).keep K (fun r => q.1 (List.mem_singleton.mp r).symm) (fun r => q.2 (List.mem_singleton.mp r).symm)
  · rcases hmem z hz with rfl | ⟨hz, -⟩
    · have q := P.2.2.2 x hx y hy
      rw [ha'] ; rw [ha] at q; exact q
    · exact P.2.2.2 z hz y hy
theorem Hp.lit (P : Hp g vm h H Lt) {y : SE} (I : IsS g.Z h y) (q : ∀ x ∈ H, x.1 ≠ y.1 ∧ x.1 ≠ y.2.1) : Hp g vm h H (y :: Lt) := by
  refine ⟨P.1, P.2.1, fun z hz => ?_, fun x hx z hz => ?_⟩
  · rcases List.mem_cons.mp hz with rfl | hz
    · exact I
    · exact P.2.2.1 z hz
  · rcases List.mem_cons.mp hz with rfl | hz
    · exact q x hx
    · exact P.2.2.2 x hx z hz
/-- a String that is made: it and its bytes are never written again -/
theorem Hp.freeze {cd : Int32} {n : String} {fs : List FD} (P : Hp g vm h ((a, .inl ("java/lang/String", fs)) :: (b, .inr (.byte, n, vs)) :: H) Lt)
    (f1 : ("java/lang/String", "value", "[B", Value.ref b) ∈ fs) (f2 : ("java/lang/String", "coder", "B", Value.int cd) ∈ fs) : Hp g vm h H ((a, b, cd, vs) :: Lt) := by
  have q := P.2.1
  simp only [List.map_cons, List.nodup_cons, List.mem_cons, not_or] at q
  have I1 := (P.1 _ (List.mem_cons_self ..)).1
  have I2 := (P.1 _ (List.mem_cons_of_mem _ (List.mem_cons_self ..))).1
  have I2' : Ary g.Z h b .byte "" vs := by
    obtain ⟨c, r1, r2, r3, r4, r5, r6⟩ := I2
    exact ⟨c, r1, r2, r3, r4, r5, fun q => absurd rfl q⟩
  have P' : Hp g vm h H Lt := P.sub ((List.sublist_cons_self _ _).trans (List.sublist_cons_self _ _))
  refine P'.lit ⟨I1.1, I1.2 _ f1, I1.2 _ f2, I2'⟩ fun x hx => ⟨fun e => ?_, fun e => ?_⟩
  · exact q.1.2 (List.mem_map.mpr ⟨x, hx, e⟩)
  · exact q.2.1 (List.mem_map.mpr ⟨x, hx, e⟩)
/-- .. whose bytes are another String's -/
theorem Hp.freezeL {cd cd' : Int32} {a' : Addr} {fs : List FD} (P : Hp g vm h ((a, .inl ("java/lang/String", fs)) :: H) Lt)
    (f1 : ("java/lang/String", "value", "[B", Value.ref b) ∈ fs) (f2 : ("java/lang/String", "coder", "B", Value.int cd) ∈ fs) (hm : (a', b, cd', vs) ∈ Lt) : Hp g vm h H ((a, b, cd, vs) :: Lt) := by
  have q := P.2.1
  simp only [List.map_cons, List.nodup_cons] at q
  have I1 := (P.1 _ (List.mem_cons_self ..)).1
  refine (P.del 0).lit ⟨I1.1, I1.2 _ f1, I1.2 _ f2, (P.2.2.1 _ hm).2.2.2⟩ fun x hx => ⟨fun e => q.1 (List.mem_map.mpr ⟨x, hx, e⟩), ?_⟩
  exact (P.2.2.2 x (List.mem_cons_of_mem _ hx) _ hm).2
/-- what holds wherever the list holds -/
abbrev Al (g : GG) (H : List Ent) (Lt : List SE) (P : Heap → Prop) : Prop := ∀ vm h, Ext g.Z.heap h → Hp g vm h H Lt → P h
theorem fO {i j : Nat} {C O n d : String} {fs : List FD} {v : Value} (hi : H[i]? = some (a, .inl (C, fs))) (hf : fs[j]? = some (O, n, d, v)) : Al g H Lt fun h => Fld g.Z h a O n d v := fun vm h _ P =>
  (P.1 _ (List.mem_of_getElem? hi)).1.2 _ (List.mem_of_getElem? hf)
theorem fE {i : Nat} {C : String} {fs : List FD} (hi : H[i]? = some (a, .inl (C, fs))) : Al g H Lt fun h => Exa g.Z h a C := fun vm h _ P => (P.1 _ (List.mem_of_getElem? hi)).1.1
theorem aH {i : Nat} (hi : H[i]? = some (a, .inr (ty, nm, vs))) : Al g H Lt fun h => Ary g.Z h a ty nm vs := fun vm h _ P => (P.1 _ (List.mem_of_getElem? hi)).1
theorem sE {cd : Int32} (hm : (a, b, cd, vs) ∈ Lt) : Al g H Lt fun h => Exa g.Z h a "java/lang/String" := fun vm h _ P => (P.2.2.1 _ hm).1
theorem sV {cd : Int32} (hm : (a, b, cd, vs) ∈ Lt) : Al g H Lt fun h => Fld g.Z h a "java/lang/String" "value" "[B" (.ref b) := fun vm h _ P => (P.2.2.1 _ hm).2.1
theorem sC {cd : Int32} (hm : (a, b, cd, vs) ∈ Lt) : Al g H Lt fun h => Fld g.Z h a "java/lang/String" "coder" "B" (.int cd) := fun vm h _ P => (P.2.2.1 _ hm).2.2.1
theorem sA {cd : Int32} (hm : (a, b, cd, vs) ∈ Lt) : Al g H Lt fun h => Ary g.Z h b .byte "" vs := fun vm h _ P => (P.2.2.1 _ hm).2.2.2
theorem Al.old {P : Heap → Prop} (hP : ∀ h, Ext g.Z.heap h → P h) : Al g H Lt P := fun _ h E _ => hP h E
theorem Ary.cell (A : Ary Z h a ty nm vs) : ∃ c : Cell, Jvm.RoadKit.Arr Z h a c ty ∧ c.slots.size = vs.length ∧ ∀ i : Nat, c.slots[i]? = vs[i]? := by
  obtain ⟨c, r1, r2, -⟩ := A
  exact ⟨c, r1, by rw [r2]; simp, fun i => by rw [r2]; simp⟩
end Heap
/-! OWN WALKING KIT, part 2: running, goal, contract, and one rule an instruction. -/
def Rn (g : GG) (D : DD) (M : MM) (T : State) (A : Vm → Heap → Prop) (cs ss : Nat) : Prop :=
  (GW g ∧ M.p.tables.exec = Jvm.exec ∧ M.c.code = D.cd ∧ M.c.maxLocals = D.mx ∧ M.meth.sig.returnType = D.rt ∧ M.meth.locks = false ∧ M.meth.name = D.y.name) ∧
  ∃ (vm0 : Vm) (k0 : Nat) (locs : List Loc), Stand M.p g.l M.e D.rm (M.s.setVm vm0) M.m M.args M.below M.meth M.c T locs cs ss ∧ M.s.Since vm0 k0 ∧ k0 ≤ T.heap.size ∧ g.Z.Warmed39 vm0 ∧ vm0.findClass D.y.cls = some M.m.cls ∧
    CHr g.Z g.EL M.s.vm M.s.heap vm0 T.heap ∧ Fr g.Z.heap.size locs ∧ Ext g.Z.heap T.heap ∧ A vm0 T.heap
abbrev RH (g : GG) (D : DD) (M : MM) (T : State) (H : List Ent) (Lt : List SE) (cs ss : Nat) : Prop := Rn g D M T (fun vm h => Hp g vm h H Lt) cs ss
def Fn (g : GG) (D : DD) (M : MM) (Q : Option Value → Vm → Heap → Prop) (U : State) : Prop :=
  ∃ (t : State) (v : Option Value) (L : List Loc), Steps M.p.tables M.e M.below U t ∧ t.status = .running ∧ Ended t M.below (.returned v) ∧ Q v t.vm t.heap ∧ Fr g.Z.heap.size L ∧ CHr g.Z g.EL M.s.vm M.s.heap t.vm t.heap ∧ Ext g.Z.heap t.heap ∧
    ReturnedEndW M.s (.returned v) t L D.rm.cells D.rm.slots
def CtW (g : GG) (D : DD) (ws : List Jvm.Cond) (as : Array Value) (H : List Ent) (Lt : List SE) (Q : Option Value → Vm → Heap → Prop) : Prop :=
  MetFree g.l D.y (head1 (Jvm.Cond.code D.y D.cd D.mx D.rt :: ws) D.rm) (fun a U => a = as ∧ g.Z.Warmed39 U.vm ∧ CHv g.Z g.EL U.vm U.heap ∧ Ext g.Z.heap U.heap ∧ Hp g U.vm U.heap H Lt) (fun _ _ _ _ _ => True)
    (fun _ U o U' => ∃ v L, o = .returned v ∧ Q v U'.vm U'.heap ∧ Fr g.Z.heap.size L ∧ CHr g.Z g.EL U.vm U.heap U'.vm U'.heap ∧ Ext g.Z.heap U'.heap ∧ ReturnedEndW U o U' L D.rm.cells D.rm.slots)
abbrev Ct (g : GG) (D : DD) (as : Array Value) (H : List Ent) (Lt : List SE) (Q : Option Value → Vm → Heap → Prop) : Prop := CtW g D [] as H Lt Q
abbrev CallOK (D D' : DD) (W cs ss cs' ss' : Nat) : Prop := D'.rm.frames + 1 ≤ D.rm.frames ∧ W + (D'.mx + 11) + D'.rm.locals ≤ D.rm.locals ∧ cs + D'.rm.cells = cs' ∧ ss + D'.rm.slots = ss' ∧ cs' ≤ D.rm.cells ∧ ss' ≤ D.rm.slots
section Rules
variable {g : GG} {D D' : DD} {M : MM} {T : State} {A A' : Vm → Heap → Prop} {cs ss : Nat} {Q Q' : Option Value → Vm → Heap → Prop} {pc pc' : Nat} {Ls Ls' : Array Slot} {S : List Value} {H H' : List Ent} {Lt Lt' : List SE} {as : Array Value} {ws : List Jvm.Cond}
theorem ext_rfl (h : Heap) : Ext h h := ⟨Nat.le_refl _, fun _ _ q => q⟩
theorem ext_trans {h h1 h2 : Heap} (E : Ext h h1) (E' : Ext h1 h2) : Ext h h2 := ⟨Nat.le_trans E.1 E'.1, fun a c q => E'.2 a c (E.2 a c q)⟩
theorem Rn.gw (B : Rn g D M T A cs ss) : GW g := B.1.1
theorem Rn.hw (B : Rn g D M T A cs ss) : ∀ d ∈ tables_1, d.before g.a0 g.Z = true := B.1.1.1
theorem Rn.hx (B : Rn g D M T A cs ss) : M.p.tables.exec = Jvm.exec := B.1.2.1
theorem Rn.cd (B : Rn g D M T A cs ss) : M.c.code = D.cd := B.1.2.2.1
theorem Rn.here (B : Rn g D M T A cs ss) : At T M.m M.c M.below := by obtain ⟨-, vm0, k0, locs, X, -⟩ := B; exact X.here
theorem Rn.map (B : Rn g D M T A cs ss) (q : ∀ vm h, Ext g.Z.heap h → A vm h → A' vm h) : Rn g D M T A' cs ss := by
  obtain ⟨st, vm0, k0, locs, X, hS, hk, hZ, hown, hC, N, E0, hH⟩ := B
  exact ⟨st, vm0, k0, locs, X, hS, hk, hZ, hown, hC, N, E0, q _ _ E0 hH⟩
theorem Rn.ex {α : Type} {P : α → Vm → Heap → Prop} (B : Rn g D M T (fun vm h => ∃ x, P x vm h) cs ss) : ∃ x, Rn g D M T (P x) cs ss := by
  obtain ⟨st, vm0, k0, locs, X, hS, hk, hZ, hown, hC, N, E0, x, hH⟩ := B
  exact ⟨x, st, vm0, k0, locs, X, hS, hk, hZ, hown, hC, N, E0, hH⟩
theorem Rn.and {P : Prop} (B : Rn g D M T (fun vm h => P ∧ A vm h) cs ss) : P ∧ Rn g D M T A cs ss := by
  obtain ⟨st, vm0, k0, locs, X, hS, hk, hZ, hown, hC, N, E0, x, hH⟩ := B
  exact ⟨x, st, vm0, k0, locs, X, hS, hk, hZ, hown, hC, N, E0, hH⟩
theorem Rn.or (B : Rn g D M T (fun vm h => A vm h ∨ A' vm h) cs ss) : Rn g D M T A cs ss ∨ Rn g D M T A' cs ss := by
  obtain ⟨st, vm0, k0, locs, X, hS, hk, hZ, hown, hC, N, E0, hH | hH⟩ := B
  · exact Or.inl ⟨st, vm0, k0, locs, X, hS, hk, hZ, hown, hC, N, E0, hH⟩
  · exact Or.inr ⟨st, vm0, k0, locs, X, hS, hk, hZ, hown, hC, N, E0, hH⟩
theorem Rn.front (B : RH g D M T H Lt cs ss) {i : Nat} {x : Ent} (hi : H[i]? = some x) (e : x :: H.eraseIdx i = H') : RH g D M T H' Lt cs ss := B.map fun _ _ _ P => e ▸ P.front hi
theorem Rn.del (B : RH g D M T H Lt cs ss) (i : Nat) (e : H.eraseIdx i = H') : RH g D M T H' Lt cs ss := B.map fun _ _ _ P => e ▸ P.del i
theorem Rn.lsub (B : RH g D M T H Lt cs ss) (q : ∀ y ∈ Lt', y ∈ Lt) : RH g D M T H Lt' cs ss := B.map fun _ _ _ P => P.lsub q
theorem Rn.mono (B : Rn g D M T A cs ss) {cs' ss' : Nat} (h1 : cs ≤ cs') (h2 : ss ≤ ss') : Rn g D M T A cs' ss' := by
  obtain ⟨st, vm0, k0, locs, X, r⟩ := B
  exact ⟨st, vm0, k0, locs, X.mono h1 h2, r⟩
theorem Fn.go {U U' : State} (F : Fn g D M Q U') (st : ∀ t, Steps M.p.tables M.e M.below U' t → Steps M.p.tables M.e M.below U t) : Fn g D M Q U := by
  obtain ⟨t, v, L, h1, r⟩ := F
  exact ⟨t, v, L, st _ h1, r⟩
theorem CtW.body (W : GW g) (hpl : plainFor D.y = true) (ef : ∀ m, entryFrame m as D.mx = mkF m 0 Ls []) (K : ∀ M T, RH g D M T H Lt 0 0 → Fn g D M Q (T.setTop (mkF M.m 0 Ls []))) : CtW g D ws as H Lt Q := by
  refine MetFree.of_bodySF hpl hisR ?_
  intro p e s m args below meth c s₁ Bd hml0 hP hK
  obtain ⟨rfl, hZ, hC, hE, hH⟩ := hP
  have hown : s.vm.findClass D.y.cls = some m.cls := findClass_of_methodNamed Bd.named
  have hnm := (name_of_methodNamed Bd.named Bd.method).1
  have X0 := Stand.of_body Bd
  have e0 : s₁.heap = s.heap := by rw [Bd.state]; rfl
  obtain ⟨t, v, L, h1, h2, h3, h4, h5, h6, h7, h8⟩ := K (p, e, s, m, args, below, meth, c) s₁ ⟨⟨W, Bd.exec, Bd.bytes, hml0, Bd.returns, Bd.notSynchronized, hnm⟩, s.vm, 0, [], X0, (State.WarmedH.refl s).since 0, Nat.zero_le _, hZ, hown, by rw [e0]; exact CHr.refl hC, Fr.nil _, by rw [e0]; exact hE, by rw [e0]; exact hH⟩
  exact ⟨t, _, castTop (ef m) h1, h2, h3, v, L, rfl, h4, h5, h6, h7, h8⟩
/-! returns -/
theorem endW {s t : State} {o : Outcome} {L : List Loc} {k n k' n' : Nat} (h : ReturnedEndW s o t L k n) (h1 : k ≤ k') (h2 : n ≤ n') : ReturnedEndW s o t L k' n' := ⟨h.1, h.2.1, h.2.2.1, h.2.2.2.mono h1 h2⟩
theorem r_ret (B : RH g D M T H Lt cs ss) (hd : decode D.cd pc = .ok (.return_, 1)) (hr : D.rt = none) (hc : cs ≤ D.rm.cells) (hs : ss ≤ D.rm.slots) (hQ : ∀ vm h, Hp g vm h H Lt → Q none vm h) : Fn g D M Q (T.setTop (mkF M.m pc Ls [])) := by
  obtain ⟨⟨W, hx, hcd, hml, hrt, hlk, hnm⟩, vm0, k0, locs, X, hS, hk, hZ, hown, hC, N, E0, hH⟩ := B
  obtain ⟨fs, hl, h1, h2, h3⟩ := X.leaveW hS hk (v := none) (fun _ => rfl) hlk
  have hat := CHv.at X hZ W.2.1 hC.1
  exact ⟨T.setFrames fs, none, locs, X.returnOut hx (hrt.trans hr) (hb hcd hd) hl, h1, h2, hQ _ _ (hH.move hat (ext_rfl _)), N, hC.trans hat, E0, endW h3 hc hs⟩
theorem r_retv (B : RH g D M T H Lt cs ss) {i : Instr} {w : Value} {t : FieldType} {rest : List Value} (hd : decode D.cd pc = .ok (i, 1)) (hr : D.rt = some t) (hn : narrow t w = w)
    (hi : (i = .ireturn ∧ (t = .int ∨ t = .boolean ∨ t = .byte ∨ t = .char ∨ t = .short) ∧ ∃ z, w = .int z) ∨ (i = .lreturn ∧ t = .long ∧ ∃ z, w = .long z) ∨ (i = .dreturn ∧ t = .double ∧ ∃ z, w = .double z) ∨ (i = .freturn ∧ t = .float ∧ ∃ z, w = .float z) ∨ (i = .areturn ∧ t.isReference = true ∧ w.isRef = true))
    (hc : cs ≤ D.rm.cells) (hs : ss ≤ D.rm.slots) (hQ : ∀ vm h, Hp g vm h H Lt → Q (some w) vm h) : Fn g D M Q (T.setTop (mkF M.m pc Ls (w :: rest))) := by
  obtain ⟨⟨W, hx, hcd, hml, hrt, hlk, hnm⟩, vm0, k0, locs, X, hS, hk, hZ, hown, hC, N, E0, hH⟩ := B
  obtain ⟨fs, hl, h1, h2, h3⟩ := X.leaveW hS hk (v := some w) (fun q => by rw [hrt, hr] at q; cases q) hlk
  have hat := CHv.at X hZ W.2.1 hC.1
  exact ⟨T.setFrames fs, some w, locs, retOut X hx (hrt.trans hr) hn hi (hb hcd hd) hl, h1, h2, hQ _ _ (hH.move hat (ext_rfl _)), N, hC.trans hat, E0, endW h3 hc hs⟩
theorem r_reti (B : RH g D M T H Lt cs ss) {z : Int32} {t : FieldType} {rest : List Value} (hd : decode D.cd pc = .ok (.ireturn, 1)) (hr : D.rt = some t) (ht : t = .int ∨ t = .boolean ∨ t = .byte ∨ t = .char ∨ t = .short) (hn : narrow t (.int z) = .int z)
    (hc : cs ≤ D.rm.cells) (hs : ss ≤ D.rm.slots) (hQ : ∀ vm h, Hp g vm h H Lt → Q (some (.int z)) vm h) : Fn g D M Q (T.setTop (mkF M.m pc Ls (.int z :: rest))) :=
  r_retv B hd hr hn (Or.inl ⟨rfl, ht, z, rfl⟩) hc hs hQ
theorem r_reta (B : RH g D M T H Lt cs ss) {w : Value} {t : FieldType} {rest : List Value} (hd : decode D.cd pc = .ok (.areturn, 1)) (hr : D.rt = some t) (ht : t.isReference = true) (hw : w.isRef = true)
    (hc : cs ≤ D.rm.cells) (hs : ss ≤ D.rm.slots) (hQ : ∀ vm h, Hp g vm h H Lt → Q (some w) vm h) : Fn g D M Q (T.setTop (mkF M.m pc Ls (w :: rest))) :=
  r_retv B hd hr (by cases t <;> first | (cases w <;> first | rfl | cases hw) | cases ht) (Or.inr (Or.inr (Or.inr (Or.inr ⟨rfl, ht, hw⟩)))) hc hs hQ
/-! fields -/
theorem r_get (B : RH g D M T H Lt cs ss) {ix : Nat} {R0 O n d host : String} {a : Addr} {v : Value} (hd : decode D.cd pc = .ok (.getfield ix, 3)) (hp : pc + 3 = pc')
    (w : (Jvm.Cond.fieldLink D.y.cls ix R0 n d).before g.a0 g.Z = true ∨ (Jvm.Cond.fieldLinkNest D.y.cls ix R0 n d host).before g.a0 g.Z = true) (via : Via g.Z R0 O n d) (F : Al g H Lt fun h => Fld g.Z h a O n d v)
    (K : ∀ T', RH g D M T' H Lt cs ss → Fn g D M Q (T'.setTop (mkF M.m pc' Ls (v :: S)))) : Fn g D M Q (T.setTop (mkF M.m pc Ls (.ref a :: S))) := by
  subst hp
  obtain ⟨st, vm0, k0, locs, X, hS, hk, hZ, hown, hC, N, E0, hH⟩ := B
  obtain ⟨T', X', e', stp⟩ := getF (Z := g.Z) (a0 := g.a0) X st.2.1 hZ hown w via rfl (F _ _ E0 hH) (g := mkF M.m pc Ls (.ref a :: S)) rfl rfl (hb st.2.2.1 hd)
  exact (K T' ⟨st, vm0, k0, locs, X', hS, by rw [e']; exact hk, hZ, hown, by rw [e']; exact hC, N, by rw [e']; exact E0, by rw [e']; exact hH⟩).go stp
theorem r_gets (B : RH g D M T H Lt cs ss) {ix : Nat} {R0 O n d host : String} {v : Value} (hd : decode D.cd pc = .ok (.getstatic ix, 3)) (hp : pc + 3 = pc')
    (w : (Jvm.Cond.fieldLink D.y.cls ix R0 n d).before g.a0 g.Z = true ∨ (Jvm.Cond.fieldLinkNest D.y.cls ix R0 n d host).before g.a0 g.Z = true) (via : Via g.Z R0 O n d) (F : Sta g.Z g.Z.heap O n d v)
    (K : ∀ T', RH g D M T' H Lt cs ss → Fn g D M Q (T'.setTop (mkF M.m pc' Ls (v :: S)))) : Fn g D M Q (T.setTop (mkF M.m pc Ls S)) := by
  subst hp
  obtain ⟨st, vm0, k0, locs, X, hS, hk, hZ, hown, hC, N, E0, hH⟩ := B
  obtain ⟨T', X', e', stp⟩ := getS2 (Z := g.Z) (a0 := g.a0) X st.2.1 hZ hown w via rfl (F.ext E0) (g := mkF M.m pc Ls S) rfl (hb st.2.2.1 hd)
  exact (K T' ⟨st, vm0, k0, locs, X', hS, by rw [e']; exact hk, hZ, hown, by rw [e']; exact hC, N, by rw [e']; exact E0, by rw [e']; exact hH⟩).go stp
theorem is_put {Z : State} {h h' : Heap} {a0 : Array Value} {a : Addr} {C O n d : String} {fs : List FD} {j : Nat} {old v : Value} (I : Is Z h (a, .inl (C, fs))) (L : Lays Z a0 C fs) (hf : fs[j]? = some (O, n, d, old)) (W : Wr h h' a (Jvm.RoadKit.slotOf Z O n d) v) : Is Z h' (a, .inl (C, fs.set j (O, n, d, v))) ∧ Lays Z a0 C (fs.set j (O, n, d, v)) := by
  obtain ⟨hj, hg⟩ := List.getElem?_eq_some_iff.mp hf
  have hmap : (fs.set j (O, n, d, v)).map (fun f => f.2.1) = fs.map fun f => f.2.1 := by
    rw [List.map_set]
    apply List.ext_getElem?
    intro i
    rw [List.getElem?_set]
    split
    · rename_i e; subst e
      rw [if_pos (by simpa using hj), List.getElem?_map, hf]; rfl
    · rfl
  have hmem : ∀ z ∈ fs.set j (O, n, d, v), z = (O, n, d, v) ∨ (z ∈ fs ∧ z.2.1 ≠ n) := fun z hz => by
    obtain ⟨i, hi⟩ := List.mem_iff_getElem?.mp hz
    rw [List.getElem?_set] at hi
    split at hi
    · exact Or.inl (Option.some.inj hi).symm
    · rename_i hne
      refine Or.inr ⟨List.mem_iff_getElem?.mpr ⟨i, hi⟩, fun e => hne ?_⟩
      obtain ⟨hil, hig⟩ := List.getElem?_eq_some_iff.mp hi
      have e1 : (fs.map fun f => f.2.1)[j]'(by simpa using hj) = (fs.map fun f => f.2.1)[i]'(by simpa using hil) := by
        rw [List.getElem_map, List.getElem_map, hg, hig, e]
      exact (List.getElem_inj L.1).mp e1
  have hx : (O, n, d, old) ∈ fs := List.mem_of_getElem? hf
  refine ⟨⟨I.1.wr W, fun z hz => ?_⟩, by rw [hmap]; exact L.1, fun z hz => ?_⟩
  · rcases hmem z hz with rfl | ⟨hz, hne⟩
    · exact (I.2 _ hx).same W
    · obtain ⟨t1, ht1⟩ := (L.2 _ hx).2
      obtain ⟨t2, ht2⟩ := (L.2 _ hz).2
      exact (I.2 _ hz).other W (Or.inr (slot_ne (L.2 _ hz).1 (L.2 _ hx).1 hne ht2 ht1))
  · rcases hmem z hz with rfl | ⟨hz, -⟩
    · exact (show _ from L.2 (O, n, d, old) hx)
    · exact L.2 _ hz
theorem r_put (B : RH g D M T H Lt cs ss) {ix kk i j : Nat} {R0 O n d host C : String} {a : Addr} {v old : Value} {fs : List FD} {ty : FieldType} (hd : decode D.cd pc = .ok (.putfield ix, 3)) (hp : pc + 3 = pc')
    (w : (Jvm.Cond.fieldLink D.y.cls ix R0 n d).before g.a0 g.Z = true ∨ (Jvm.Cond.fieldLinkNest D.y.cls ix R0 n d host).before g.a0 g.Z = true) (via : Via g.Z R0 O n d)
    (hi : H[i]? = some (a, .inl (C, fs))) (hf : fs[j]? = some (O, n, d, old)) (L : (Jvm.Cond.lays C O n d).before g.a0 g.Z = true ∨ ((Jvm.Cond.laysFinal C O n d).before g.a0 g.Z = true ∧ D.y.cls = O ∧ D.y.name = "<init>")) (wi : (Jvm.Cond.instantiable C kk).before g.a0 g.Z = true)
    (hty : parseFieldDescriptor d = some ty) (hn : narrow ty v = v) (hft : fits ty v = true) (e : H.set i (a, .inl (C, fs.set j (O, n, d, v))) = H')
    (K : ∀ T', RH g D M T' H' Lt cs ss → Fn g D M Q (T'.setTop (mkF M.m pc' Ls S))) : Fn g D M Q (T.setTop (mkF M.m pc Ls (v :: .ref a :: S))) := by
  subst hp
  obtain ⟨st, vm0, k0, locs, X, hS, hk, hZ, hown, hC, N, E0, hH⟩ := B
  have I := hH.1 _ (List.mem_of_getElem? hi)
  obtain ⟨T', h', X', e', W, stp⟩ := putF (Z := g.Z) (a0 := g.a0) X st.2.1 hZ hown w via rfl (I.1.2 _ (List.mem_of_getElem? hf)) I.1.1 (L.imp id fun q => ⟨q.1, q.2.1, st.2.2.2.2.2.2.trans q.2.2⟩) wi hty hn hft (g := mkF M.m pc Ls (v :: .ref a :: S)) rfl rfl (hb st.2.2.1 hd)
  have C1 := CHr.wr W I.2.2.2 hC.1
  have hsz := W.size
  obtain ⟨q1, q2⟩ := is_put I.1 I.2.1 hf W
  have P' := hH.upd C1 (Keep.of_wr W) hi rfl rfl q1 q2
  rw [e] at P'
  refine (K T' ⟨st, vm0, k0, _, X', hS, by rw [e', hsz]; exact hk, hZ, hown, by rw [e']; exact hC.trans C1, Fr.snoc X' N I.2.2.1, ?_, by rw [e']; exact P'⟩).go stp
  rw [e']; exact (Old.wr ⟨rfl, E0⟩ W I.2.2.1).2
/-! new objects and arrays -/
theorem r_new (B : RH g D M T H Lt cs ss) {ix n cs' ss' : Nat} {C : String} {fs : List FD} (hd : decode D.cd pc = .ok (.new ix, 3)) (hp : pc + 3 = pc')
    (w : (Jvm.Cond.classLink D.y.cls ix C).before g.a0 g.Z = true) (wi : (Jvm.Cond.instantiable C n).before g.a0 g.Z = true) (wz : (Jvm.Cond.initialized C).before g.a0 g.Z = true) (hl : Lays g.Z g.a0 C fs)
    (hv : ∀ f ∈ fs, (parseFieldDescriptor f.2.2.1).map defaultValue = some f.2.2.2) (hc : cs + 1 = cs') (hs : ss + n = ss') (hc' : cs' ≤ D.rm.cells) (hs' : ss' ≤ D.rm.slots)
    (K : ∀ T' a, RH g D M T' ((a, .inl (C, fs)) :: H) Lt cs' ss' → Fn g D M Q (T'.setTop (mkF M.m pc' Ls (.ref a :: S)))) : Fn g D M Q (T.setTop (mkF M.m pc Ls S)) := by
  subst hp hc hs
  obtain ⟨st, vm0, k0, locs, X, hS, hk, hZ, hown, hC, N, E0, hH⟩ := B
  obtain ⟨T', h', X', e', E, A1, D1, -, stp⟩ := newO (Z := g.Z) (a0 := g.a0) X st.2.1 hZ hown w wi wz rfl (g := mkF M.m pc Ls S) rfl (hb st.2.2.1 hd) hc' hs'
  have P' := hH.born (x := (T.heap.size, .inl (C, fs))) hC.1 E0 E rfl ⟨A1, fun f hf => by
    obtain ⟨ty, ht⟩ := (hl.2 f hf).2
    have q := hv f hf
    rw [ht] at q
    rw [← Option.some.inj q]
    exact D1 (hl.2 f hf).1 ht⟩ hl
  exact (K T' _ ⟨st, vm0, k0, locs, X', hS, by rw [e']; exact Nat.le_trans hk E.1, hZ, hown, by rw [e']; exact hC.trans (CHr.ext E hC.1), N, by rw [e']; exact ext_trans E0 E, by rw [e']; exact P'⟩).go stp
theorem ary_new {Z : State} {h : Heap} {a : Addr} {k : ClassId} {ty : FieldType} {n : Int32} {nm : String} {nn : Nat} (A : Jvm.RoadKit.Arr Z h a (newA k ty n) ty) (hn : ¬ n < 0) (hnn : n.toNatClampNeg = nn) (hf : fits ty (defaultValue ty) = true) (hO : ∀ C, ty = .object C → Ovr Z k C) (hE : nm ≠ "" → Exa Z h a nm) : Ary Z h a ty nm (List.replicate nn (defaultValue ty)) := by
  refine ⟨_, A, ?_, ?_, ?_, hO, hE⟩
  · subst hnn; simp [newA]
  · have := (back32 hn).2
    rw [List.length_replicate, ← hnn]; exact this
  · intro v hv
    rw [(List.mem_replicate.mp hv).2]; exact hf
theorem r_newp (B : RH g D M T H Lt cs ss) {aty : ArrayType} {n : Int32} {nn cap cs' ss' : Nat} {ty : FieldType} {vs : List Value} {ad : String} (hd : decode D.cd pc = .ok (.newarray aty, 2)) (hp : pc + 2 = pc')
    (w : (Jvm.Cond.arrayClass ty).before g.a0 g.Z = true) (hty : newarray.typeOf aty = ty) (hn : ¬ n < 0) (hnn : n.toNatClampNeg = nn) (hcap : nn ≤ cap) (hb8 : cap * 8 ≤ 536870912) (hc : cs + 1 = cs') (hs : ss + cap = ss') (hc' : cs' ≤ D.rm.cells) (hs' : ss' ≤ D.rm.slots)
    (had : "[" ++ ty.toString = ad) (hfd : fits ty (defaultValue ty) = true) (hob : ∀ C, ty ≠ .object C) (hvs : List.replicate nn (defaultValue ty) = vs)
    (K : ∀ T' a, RH g D M T' ((a, .inr (ty, ad, vs)) :: H) Lt cs' ss' → Fn g D M Q (T'.setTop (mkF M.m pc' Ls (.ref a :: S)))) : Fn g D M Q (T.setTop (mkF M.m pc Ls (.int n :: S))) := by
  subst hp hty hc hs
  obtain ⟨st, vm0, k0, locs, X, hS, hk, hZ, hown, hC, N, E0, hH⟩ := B
  obtain ⟨T', h', cA, X', e', E, A1, A2, stp⟩ := newPE (Z := g.Z) (a0 := g.a0) X st.2.1 hZ w rfl (g := mkF M.m pc Ls (.int n :: S)) rfl (hb st.2.2.1 hd) rfl hn (cap := cap) (by rw [hnn]; exact hcap) hb8 hc' hs' had
  have P' := hH.born (x := (T.heap.size, .inr (newarray.typeOf aty, ad, vs))) hC.1 E0 E rfl (hvs ▸ ary_new A1 hn hnn hfd (fun C q => absurd q (hob C)) (fun _ => A2)) trivial
  exact (K T' _ ⟨st, vm0, k0, locs, X', hS, by rw [e']; exact Nat.le_trans hk E.1, hZ, hown, by rw [e']; exact hC.trans (CHr.ext E hC.1), N, by rw [e']; exact ext_trans E0 E, by rw [e']; exact P'⟩).go stp
theorem r_newr (B : RH g D M T H Lt cs ss) {ix : Nat} {C : String} {n : Int32} {nn cap cs' ss' : Nat} {vs : List Value} {ad : String} (hd : decode D.cd pc = .ok (.anewarray ix, 3)) (hp : pc + 3 = pc')
    (w1 : (Jvm.Cond.classLink D.y.cls ix C).before g.a0 g.Z = true) (w2 : (Jvm.Cond.arrayOver (.object C)).before g.a0 g.Z = true) (hn : ¬ n < 0) (hnn : n.toNatClampNeg = nn) (hcap : nn ≤ cap) (hb8 : cap * 8 ≤ 536870912) (hc : cs + 1 = cs') (hs : ss + cap = ss') (hc' : cs' ≤ D.rm.cells) (hs' : ss' ≤ D.rm.slots)
    (had : "[" ++ (FieldType.object C).toString = ad) (hvs : List.replicate nn Value.null = vs)
    (K : ∀ T' a, RH g D M T' ((a, .inr (.object C, ad, vs)) :: H) Lt cs' ss' → Fn g D M Q (T'.setTop (mkF M.m pc' Ls (.ref a :: S)))) : Fn g D M Q (T.setTop (mkF M.m pc Ls (.int n :: S))) := by
  subst hp hc hs
  obtain ⟨st, vm0, k0, locs, X, hS, hk, hZ, hown, hC, N, E0, hH⟩ := B
  obtain ⟨T', h', cA, X', e', E, A1, A2, A3, stp⟩ := newRE (Z := g.Z) (a0 := g.a0) X st.2.1 hZ hown w1 w2 rfl (g := mkF M.m pc Ls (.int n :: S)) rfl (hb st.2.2.1 hd) rfl hn (cap := cap) (by rw [hnn]; exact hcap) hb8 hc' hs' had
  have P' := hH.born (x := (T.heap.size, .inr (.object C, ad, vs))) hC.1 E0 E rfl (hvs ▸ ary_new A1 hn hnn rfl (fun C' q => by cases q; exact A3) (fun _ => A2)) trivial
  exact (K T' _ ⟨st, vm0, k0, locs, X', hS, by rw [e']; exact Nat.le_trans hk E.1, hZ, hown, by rw [e']; exact hC.trans (CHr.ext E hC.1), N, by rw [e']; exact ext_trans E0 E, by rw [e']; exact P'⟩).go stp
/-! arrays read and written -/
theorem xarr {Z : State} {h : Heap} {U : State} {a : Addr} {ty : FieldType} {nm : String} {vs : List Value} (hZ : Z.vm.Alike U.vm) (eU : U.heap = h) (A : Ary Z h a ty nm vs) : ∃ c : Cell, Jvm.Free.XT.Arr ty a c U ∧ c.slots.size = vs.length ∧ ∀ i : Nat, c.slots[i]? = vs[i]? := by
  obtain ⟨c, r1, r2, r3, -⟩ := A
  refine ⟨c, ⟨by rw [eU]; exact r1.1, State.isArrayOf_alike hZ r1.2.1, r1.2.2, by rw [r2]; simpa using r3⟩, by rw [r2]; simp, fun i => by rw [r2]; simp⟩
theorem r_alen (B : RH g D M T H Lt cs ss) {a : Addr} {ty : FieldType} {nm : String} {vs : List Value} {z : Int32} (hd : decode D.cd pc = .ok (.arraylength, 1)) (hp : pc + 1 = pc') (F : Al g H Lt fun h => Ary g.Z h a ty nm vs) (hz : Int32.ofNat vs.length = z)
    (K : Fn g D M Q (T.setTop (mkF M.m pc' Ls (.int z :: S)))) : Fn g D M Q (T.setTop (mkF M.m pc Ls (.ref a :: S))) := by
  subst hp; subst hz
  obtain ⟨st, vm0, k0, locs, X, hS, hk, hZ, hown, hC, N, E0, hH⟩ := B
  obtain ⟨c, r1, r2, r3⟩ := xarr (U := T) (hZ.alike.trans X.warmed.alike) rfl (F _ _ E0 hH)
  rw [← r2] at K
  exact K.go fun t => X.alen (g := mkF M.m pc Ls (.ref a :: S)) st.2.1 r1 rfl rfl (hb st.2.2.1 hd)
theorem r_aget (B : RH g D M T H Lt cs ss) {a : Addr} {ty : FieldType} {nm : String} {vs : List Value} {j : Int32} {k : Nat} {v : Value} {i : Instr} (hd : decode D.cd pc = .ok (i, 1)) (hi : i = Jvm.Free.XT.loadOf ty) (hp : pc + 1 = pc') (F : Al g H Lt fun h => Ary g.Z h a ty nm vs) (hj : j = Int32.ofNat k) (hv : vs[k]? = some v)
    (K : Fn g D M Q (T.setTop (mkF M.m pc' Ls (v :: S)))) : Fn g D M Q (T.setTop (mkF M.m pc Ls (.int j :: .ref a :: S))) := by
  subst hp; subst hi
  obtain ⟨st, vm0, k0, locs, X, hS, hk, hZ, hown, hC, N, E0, hH⟩ := B
  obtain ⟨c, r1, r2, r3⟩ := xarr (U := T) (hZ.alike.trans X.warmed.alike) rfl (F _ _ E0 hH)
  exact K.go fun t => X.aget (g := mkF M.m pc Ls (.int j :: .ref a :: S)) st.2.1 r1 hj ((r3 k).trans hv) rfl rfl (hb st.2.2.1 hd)
theorem ary_set {Z : State} {h h' : Heap} {a : Addr} {ty : FieldType} {nm : String} {vs : List Value} {k : Nat} {v : Value} (A : Ary Z h a ty nm vs) (W : Wr h h' a k v) (hf : fits ty v = true) : Ary Z h' a ty nm (vs.set k v) := by
  obtain ⟨c, r1, r2, r3, r4, r5, r6⟩ := A
  refine ⟨_, r1.same W, ?_, by rw [List.length_set]; exact r3, fun w hw => ?_, r5, fun q => (r6 q).wr W⟩
  · simp [Cell.setSlot, r2]
  · rcases List.mem_or_eq_of_mem_set hw with q | rfl
    · exact r4 w q
    · exact hf
theorem r_aputW (B : RH g D M T H Lt cs ss) {i : Nat} {a : Addr} {ty : FieldType} {nm : String} {vs : List Value} {k : Nat} {v : Value} (hi : H[i]? = some (a, .inr (ty, nm, vs))) (hf : fits ty v = true) (e : H.set i (a, .inr (ty, nm, vs.set k v)) = H')
    {U : State} {f : JFrame} (P : ∀ (vm0 : Vm) (locs : List Loc), Stand M.p g.l M.e D.rm (M.s.setVm vm0) M.m M.args M.below M.meth M.c T locs cs ss → g.Z.Warmed39 vm0 → ∀ c, Jvm.RoadKit.Arr g.Z T.heap a c ty → c.slots.size = vs.length → ∃ T' h', Stand M.p g.l M.e D.rm (M.s.setVm vm0) M.m M.args M.below M.meth M.c T' (locs ++ [⟨a, k⟩]) cs ss ∧ T'.heap = h' ∧ Wr T.heap h' a k v ∧ ∀ t, Steps M.p.tables M.e M.below (T'.setTop f) t → Steps M.p.tables M.e M.below U t)
    (K : ∀ T', RH g D M T' H' Lt cs ss → Fn g D M Q (T'.setTop f)) : Fn g D M Q U := by
  obtain ⟨st, vm0, k0, locs, X, hS, hk, hZ, hown, hC, N, E0, hH⟩ := B
  have I := hH.1 _ (List.mem_of_getElem? hi)
  have I1 : Ary g.Z T.heap a ty nm vs := I.1
  have I2 := I1
  obtain ⟨c, r1, r2', -⟩ := I2
  have r2 : c.slots.size = vs.length := by rw [r2']; simp
  obtain ⟨T', h', X', e', W, stp⟩ := P vm0 locs X hZ c r1 r2
  have C1 := CHr.wr W I.2.2.2 hC.1
  have hsz := W.size
  have P' := hH.upd C1 (Keep.of_wr W) hi rfl rfl (show Is g.Z h' (a, .inr (ty, nm, vs.set k v)) from ary_set I1 W hf) trivial
  rw [e] at P'
  refine (K T' ⟨st, vm0, k0, _, X', hS, by rw [e', hsz]; exact hk, hZ, hown, by rw [e']; exact hC.trans C1, Fr.snoc X' N I.2.2.1, ?_, by rw [e']; exact P'⟩).go stp
  rw [e']; exact (Old.wr ⟨rfl, E0⟩ W I.2.2.1).2
theorem inb {j : Int32} {k n : Nat} (hj : ¬ j < 0) (hk : j.toNatClampNeg = k) (hl : k < n) : ¬ (j < 0 ∨ n ≤ j.toNatClampNeg) := fun q => q.elim hj fun r => by rw [hk] at r; omega
theorem r_castore (B : RH g D M T H Lt cs ss) {i : Nat} {a : Addr} {nm : String} {vs : List Value} {j x x' : Int32} {k : Nat} (hd : decode D.cd pc = .ok (.castore, 1)) (hp : pc + 1 = pc') (hi : H[i]? = some (a, .inr (.char, nm, vs))) (hj : ¬ j < 0) (hk : j.toNatClampNeg = k) (hl : k < vs.length) (hx : nar .char x = x')
    (e : H.set i (a, .inr (.char, nm, vs.set k (.int x'))) = H') (K : ∀ T', RH g D M T' H' Lt cs ss → Fn g D M Q (T'.setTop (mkF M.m pc' Ls S))) : Fn g D M Q (T.setTop (mkF M.m pc Ls (.int x :: .int j :: .ref a :: S))) := by
  subst hp; subst hx; subst hk
  exact r_aputW B hi (fits_nar_char x) e (fun vm0 locs X hZ c r1 r2 => stC X B.hx hZ rfl r1 (by rw [r2]; exact inb hj rfl hl) (g := mkF M.m pc Ls (.int x :: .int j :: .ref a :: S)) rfl rfl (hb B.cd hd)) K
theorem r_bastore (B : RH g D M T H Lt cs ss) {i : Nat} {a : Addr} {nm : String} {vs : List Value} {j x x' : Int32} {k : Nat} (hd : decode D.cd pc = .ok (.bastore, 1)) (hp : pc + 1 = pc') (hi : H[i]? = some (a, .inr (.byte, nm, vs))) (hj : ¬ j < 0) (hk : j.toNatClampNeg = k) (hl : k < vs.length) (hx : nar .byte x = x')
    (e : H.set i (a, .inr (.byte, nm, vs.set k (.int x'))) = H') (K : ∀ T', RH g D M T' H' Lt cs ss → Fn g D M Q (T'.setTop (mkF M.m pc' Ls S))) : Fn g D M Q (T.setTop (mkF M.m pc Ls (.int x :: .int j :: .ref a :: S))) := by
  subst hp; subst hx; subst hk
  exact r_aputW B hi (fits_nar_byte x) e (fun vm0 locs X hZ c r1 r2 => stB X B.hx hZ rfl r1 (by rw [r2]; exact inb hj rfl hl) (g := mkF M.m pc Ls (.int x :: .int j :: .ref a :: S)) rfl rfl (hb B.cd hd)) K
/-- aastore: null, or an object that is one of the array's kind -/
theorem r_aastore (B : RH g D M T H Lt cs ss) {i : Nat} {a : Addr} {nm C : String} {vs : List Value} {j : Int32} {v : Value} {k : Nat} (hd : decode D.cd pc = .ok (.aastore, 1)) (hp : pc + 1 = pc') (hi : H[i]? = some (a, .inr (.object C, nm, vs))) (hj : ¬ j < 0) (hk : j.toNatClampNeg = k) (hl : k < vs.length)
    (hv : v = .null ∨ ∃ y, v = .ref y ∧ Al g H Lt fun h => Ins g.Z h y C true)
    (e : H.set i (a, .inr (.object C, nm, vs.set k v)) = H') (K : ∀ T', RH g D M T' H' Lt cs ss → Fn g D M Q (T'.setTop (mkF M.m pc' Ls S))) : Fn g D M Q (T.setTop (mkF M.m pc Ls (v :: .int j :: .ref a :: S))) := by
  subst hp; subst hk
  have hf : fits (.object C) v = true := by rcases hv with rfl | ⟨y, rfl, -⟩ <;> rfl
  refine r_aputW B hi hf e (fun vm0 locs X hZ c r1 r2 => ?_) K
  obtain ⟨st, vm1, k0, locs1, X1, hS, hk, hZ1, hown, hC, N, E0, hH⟩ := B
  have I1 : Ary g.Z T.heap a (.object C) nm vs := (hH.1 _ (List.mem_of_getElem? hi)).1
  obtain ⟨c2, q1, -, -, -, q5, -⟩ := I1
  have hcc : c2 = c := Option.some.inj (q1.1.symm.trans r1.1)
  subst hcc
  have hsto : Sto g.Z T.heap a v := by
    rcases hv with rfl | ⟨y, rfl, I⟩
    · exact Or.inl rfl
    · exact Sto.of r1 (q5 C rfl) (I _ _ E0 hH)
  exact stR X st.2.1 hZ rfl r1 (by rw [r2]; exact inb hj rfl hl) rfl hsto (g := mkF M.m pc Ls (v :: .int j :: .ref a :: S)) rfl rfl (hb st.2.2.1 hd)
/-! OWN WALKING KIT, part 3: plain steps (printed by mkpure.py). -/
theorem p_iload (B : Rn g D M T A cs ss) {k : Nat} {v : Int32} (hd : decode D.cd pc = .ok (.iload k, 2)) (hp : pc + 2 = pc') (hl : Ls[k]? = some (.val (.int v))) (K : Fn g D M Q (T.setTop (mkF M.m pc' Ls (.int v :: S)))) : Fn g D M Q (T.setTop (mkF M.m pc Ls (S))) := by
  subst hp
  exact K.go fun t => XS.iload (g := mkF M.m pc Ls (S)) B.here B.hx rfl (hb B.cd hd) hl
theorem p_iloadN (B : Rn g D M T A cs ss) {k : Fin 4} {v : Int32} (hd : decode D.cd pc = .ok (.iload_n k, 1)) (hp : pc + 1 = pc') (hl : Ls[k.val]? = some (.val (.int v))) (K : Fn g D M Q (T.setTop (mkF M.m pc' Ls (.int v :: S)))) : Fn g D M Q (T.setTop (mkF M.m pc Ls (S))) := by
  subst hp
  exact K.go fun t => XS.iloadN (g := mkF M.m pc Ls (S)) B.here B.hx rfl (hb B.cd hd) hl
theorem p_aload (B : Rn g D M T A cs ss) {k : Nat} {v : Value} (hd : decode D.cd pc = .ok (.aload k, 2)) (hp : pc + 2 = pc') (hl : Ls[k]? = some (.val v)) (hv : v.isRef = true) (K : Fn g D M Q (T.setTop (mkF M.m pc' Ls (v :: S)))) : Fn g D M Q (T.setTop (mkF M.m pc Ls (S))) := by
  subst hp
  exact K.go fun t => XS.aload (g := mkF M.m pc Ls (S)) B.here B.hx rfl (hb B.cd hd) hl hv
theorem p_aloadN (B : Rn g D M T A cs ss) {k : Fin 4} {v : Value} (hd : decode D.cd pc = .ok (.aload_n k, 1)) (hp : pc + 1 = pc') (hl : Ls[k.val]? = some (.val v)) (hv : v.isRef = true) (K : Fn g D M Q (T.setTop (mkF M.m pc' Ls (v :: S)))) : Fn g D M Q (T.setTop (mkF M.m pc Ls (S))) := by
  subst hp
  exact K.go fun t => XS.aloadN (g := mkF M.m pc Ls (S)) B.here B.hx rfl (hb B.cd hd) hl hv
theorem p_istore (B : Rn g D M T A cs ss) {k : Nat} {v : Int32} (hd : decode D.cd pc = .ok (.istore k, 2)) (hp : pc + 2 = pc') (hl : storeLocals Ls k (.int v) = some Ls') (K : Fn g D M Q (T.setTop (mkF M.m pc' Ls' (S)))) : Fn g D M Q (T.setTop (mkF M.m pc Ls (.int v :: S))) := by
  subst hp
  exact K.go fun t => XS.istore (g := mkF M.m pc Ls (.int v :: S)) B.here B.hx rfl (hb B.cd hd) rfl hl
theorem p_istoreN (B : Rn g D M T A cs ss) {k : Fin 4} {v : Int32} (hd : decode D.cd pc = .ok (.istore_n k, 1)) (hp : pc + 1 = pc') (hl : storeLocals Ls k.val (.int v) = some Ls') (K : Fn g D M Q (T.setTop (mkF M.m pc' Ls' (S)))) : Fn g D M Q (T.setTop (mkF M.m pc Ls (.int v :: S))) := by
  subst hp
  exact K.go fun t => XS.istoreN (g := mkF M.m pc Ls (.int v :: S)) B.here B.hx rfl (hb B.cd hd) rfl hl
theorem p_astore (B : Rn g D M T A cs ss) {k : Nat} {v : Value} (hd : decode D.cd pc = .ok (.astore k, 2)) (hp : pc + 2 = pc') (hv : v.isRef = true) (hl : storeLocals Ls k v = some Ls') (K : Fn g D M Q (T.setTop (mkF M.m pc' Ls' (S)))) : Fn g D M Q (T.setTop (mkF M.m pc Ls (v :: S))) := by
  subst hp
  exact K.go fun t => XS.astore (g := mkF M.m pc Ls (v :: S)) B.here B.hx rfl (hb B.cd hd) rfl hv hl
theorem p_astoreN (B : Rn g D M T A cs ss) {k : Fin 4} {v : Value} (hd : decode D.cd pc = .ok (.astore_n k, 1)) (hp : pc + 1 = pc') (hv : v.isRef = true) (hl : storeLocals Ls k.val v = some Ls') (K : Fn g D M Q (T.setTop (mkF M.m pc' Ls' (S)))) : Fn g D M Q (T.setTop (mkF M.m pc Ls (v :: S))) := by
  subst hp
  exact K.go fun t => XS.astoreN (g := mkF M.m pc Ls (v :: S)) B.here B.hx rfl (hb B.cd hd) rfl hv hl
theorem p_iconst (B : Rn g D M T A cs ss) {i : Int} {v : Int32} (hd : decode D.cd pc = .ok (.iconst i, 1)) (hp : pc + 1 = pc') (hv : Int32.ofInt i = v) (K : Fn g D M Q (T.setTop (mkF M.m pc' Ls (.int v :: S)))) : Fn g D M Q (T.setTop (mkF M.m pc Ls (S))) := by
  subst hp
  exact K.go fun t => Jvm.Free.XT.iconstV (g := mkF M.m pc Ls (S)) B.here B.hx rfl v (hb B.cd hd) hv
theorem p_bipush (B : Rn g D M T A cs ss) {i : Int} {v : Int32} (hd : decode D.cd pc = .ok (.bipush i, 2)) (hp : pc + 2 = pc') (hv : (Int8.ofInt i).toInt32 = v) (K : Fn g D M Q (T.setTop (mkF M.m pc' Ls (.int v :: S)))) : Fn g D M Q (T.setTop (mkF M.m pc Ls (S))) := by
  subst hp
  exact K.go fun t => Jvm.Free.XT.bipushV (g := mkF M.m pc Ls (S)) B.here B.hx rfl v (hb B.cd hd) hv
theorem p_sipush (B : Rn g D M T A cs ss) {i : Int} {v : Int32} (hd : decode D.cd pc = .ok (.sipush i, 3)) (hp : pc + 3 = pc') (hv : (Int16.ofInt i).toInt32 = v) (K : Fn g D M Q (T.setTop (mkF M.m pc' Ls (.int v :: S)))) : Fn g D M Q (T.setTop (mkF M.m pc Ls (S))) := by
  subst hp
  exact K.go fun t => Jvm.Free.XT.sipushV (g := mkF M.m pc Ls (S)) B.here B.hx rfl v (hb B.cd hd) hv
theorem p_null (B : Rn g D M T A cs ss) (hd : decode D.cd pc = .ok (.aconst_null, 1)) (hp : pc + 1 = pc') (K : Fn g D M Q (T.setTop (mkF M.m pc' Ls (.null :: S)))) : Fn g D M Q (T.setTop (mkF M.m pc Ls (S))) := by
  subst hp
  exact K.go fun t => XS.aconstNull (g := mkF M.m pc Ls (S)) B.here B.hx rfl (hb B.cd hd)
theorem p_iadd (B : Rn g D M T A cs ss) {x y z : Int32} (hd : decode D.cd pc = .ok (.iadd, 1)) (hp : pc + 1 = pc') (hz : x + y = z) (K : Fn g D M Q (T.setTop (mkF M.m pc' Ls (.int z :: S)))) : Fn g D M Q (T.setTop (mkF M.m pc Ls (.int y :: .int x :: S))) := by
  subst hp; subst hz
  exact K.go fun t => XS.iadd (g := mkF M.m pc Ls (.int y :: .int x :: S)) B.here B.hx rfl (hb B.cd hd) rfl
theorem p_isub (B : Rn g D M T A cs ss) {x y z : Int32} (hd : decode D.cd pc = .ok (.isub, 1)) (hp : pc + 1 = pc') (hz : x - y = z) (K : Fn g D M Q (T.setTop (mkF M.m pc' Ls (.int z :: S)))) : Fn g D M Q (T.setTop (mkF M.m pc Ls (.int y :: .int x :: S))) := by
  subst hp; subst hz
  exact K.go fun t => XS.isub (g := mkF M.m pc Ls (.int y :: .int x :: S)) B.here B.hx rfl (hb B.cd hd) rfl
theorem p_iand (B : Rn g D M T A cs ss) {x y z : Int32} (hd : decode D.cd pc = .ok (.iand, 1)) (hp : pc + 1 = pc') (hz : x &&& y = z) (K : Fn g D M Q (T.setTop (mkF M.m pc' Ls (.int z :: S)))) : Fn g D M Q (T.setTop (mkF M.m pc Ls (.int y :: .int x :: S))) := by
  subst hp; subst hz
  exact K.go fun t => XS.iand (g := mkF M.m pc Ls (.int y :: .int x :: S)) B.here B.hx rfl (hb B.cd hd) rfl
theorem p_ishl (B : Rn g D M T A cs ss) {x y z : Int32} (hd : decode D.cd pc = .ok (.ishl, 1)) (hp : pc + 1 = pc') (hz : x <<< (y &&& 31) = z) (K : Fn g D M Q (T.setTop (mkF M.m pc' Ls (.int z :: S)))) : Fn g D M Q (T.setTop (mkF M.m pc Ls (.int y :: .int x :: S))) := by
  subst hp; subst hz
  exact K.go fun t => XS.ishl (g := mkF M.m pc Ls (.int y :: .int x :: S)) B.here B.hx rfl (hb B.cd hd) rfl
theorem p_ishr (B : Rn g D M T A cs ss) {x y z : Int32} (hd : decode D.cd pc = .ok (.ishr, 1)) (hp : pc + 1 = pc') (hz : x >>> (y &&& 31) = z) (K : Fn g D M Q (T.setTop (mkF M.m pc' Ls (.int z :: S)))) : Fn g D M Q (T.setTop (mkF M.m pc Ls (.int y :: .int x :: S))) := by
  subst hp; subst hz
  exact K.go fun t => XS.ishr (g := mkF M.m pc Ls (.int y :: .int x :: S)) B.here B.hx rfl (hb B.cd hd) rfl
theorem p_iushr (B : Rn g D M T A cs ss) {x y z : Int32} (hd : decode D.cd pc = .ok (.iushr, 1)) (hp : pc + 1 = pc') (hz : (x.toUInt32 >>> (y &&& 31).toUInt32).toInt32 = z) (K : Fn g D M Q (T.setTop (mkF M.m pc' Ls (.int z :: S)))) : Fn g D M Q (T.setTop (mkF M.m pc Ls (.int y :: .int x :: S))) := by
  subst hp; subst hz
  exact K.go fun t => XS.iushr (g := mkF M.m pc Ls (.int y :: .int x :: S)) B.here B.hx rfl (hb B.cd hd) rfl
theorem p_irem (B : Rn g D M T A cs ss) {x y z : Int32} (hd : decode D.cd pc = .ok (.irem, 1)) (hp : pc + 1 = pc') (hy : y ≠ 0) (hz : x % y = z) (K : Fn g D M Q (T.setTop (mkF M.m pc' Ls (.int z :: S)))) : Fn g D M Q (T.setTop (mkF M.m pc Ls (.int y :: .int x :: S))) := by
  subst hp; subst hz; rw [← Jvm.irem_eq_mod] at K
  exact K.go fun t => XS.irem (g := mkF M.m pc Ls (.int y :: .int x :: S)) B.here B.hx rfl (hb B.cd hd) rfl hy
theorem p_i2b (B : Rn g D M T A cs ss) {x : Int32} (hd : decode D.cd pc = .ok (.i2b, 1)) (hp : pc + 1 = pc') (K : Fn g D M Q (T.setTop (mkF M.m pc' Ls (.int x.toInt8.toInt32 :: S)))) : Fn g D M Q (T.setTop (mkF M.m pc Ls (.int x :: S))) := by
  subst hp
  exact K.go fun t => XS.i2b (g := mkF M.m pc Ls (.int x :: S)) B.here B.hx rfl (hb B.cd hd) rfl
theorem p_i2c (B : Rn g D M T A cs ss) {x : Int32} (hd : decode D.cd pc = .ok (.i2c, 1)) (hp : pc + 1 = pc') (K : Fn g D M Q (T.setTop (mkF M.m pc' Ls (.int x.toUInt32.toUInt16.toUInt32.toInt32 :: S)))) : Fn g D M Q (T.setTop (mkF M.m pc Ls (.int x :: S))) := by
  subst hp
  exact K.go fun t => XS.i2c (g := mkF M.m pc Ls (.int x :: S)) B.here B.hx rfl (hb B.cd hd) rfl
theorem p_dup (B : Rn g D M T A cs ss) {x : Value} (hd : decode D.cd pc = .ok (.dup, 1)) (hp : pc + 1 = pc') (hc : x.category = 1) (K : Fn g D M Q (T.setTop (mkF M.m pc' Ls (x :: x :: S)))) : Fn g D M Q (T.setTop (mkF M.m pc Ls (x :: S))) := by
  subst hp
  exact K.go fun t => XS.dup (g := mkF M.m pc Ls (x :: S)) B.here B.hx rfl (hb B.cd hd) rfl hc
theorem p_pop (B : Rn g D M T A cs ss) {x : Value} (hd : decode D.cd pc = .ok (.pop, 1)) (hp : pc + 1 = pc') (hc : x.category = 1) (K : Fn g D M Q (T.setTop (mkF M.m pc' Ls (S)))) : Fn g D M Q (T.setTop (mkF M.m pc Ls (x :: S))) := by
  subst hp
  exact K.go fun t => XS.pop (g := mkF M.m pc Ls (x :: S)) B.here B.hx rfl (hb B.cd hd) rfl hc
theorem p_dupx1 (B : Rn g D M T A cs ss) {x y : Value} (hd : decode D.cd pc = .ok (.dup_x1, 1)) (hp : pc + 1 = pc') (hc : x.category = 1) (hc' : y.category = 1) (K : Fn g D M Q (T.setTop (mkF M.m pc' Ls (x :: y :: x :: S)))) : Fn g D M Q (T.setTop (mkF M.m pc Ls (x :: y :: S))) := by
  subst hp
  exact K.go fun t => XS.dupX1 (g := mkF M.m pc Ls (x :: y :: S)) B.here B.hx rfl (hb B.cd hd) rfl hc hc'
theorem p_iinc (B : Rn g D M T A cs ss) {k : Nat} {cst : Int} {x v z : Int32} (hd : decode D.cd pc = .ok (.iinc k cst, 3)) (hp : pc + 3 = pc') (hv : Int32.ofInt cst = v) (hl : Ls[k]? = some (.val (.int x))) (hz : x + v = z) (hl' : storeLocals Ls k (.int z) = some Ls') (K : Fn g D M Q (T.setTop (mkF M.m pc' Ls' (S)))) : Fn g D M Q (T.setTop (mkF M.m pc Ls (S))) := by
  subst hp; subst hz
  exact K.go fun t => Jvm.Free.XT.iincV (g := mkF M.m pc Ls (S)) B.here B.hx rfl v (hb B.cd hd) hv hl hl'
def hldT : ClassFile.Cond → Int32 → Int32 → Prop
  | .eq, x, y => x = y
  | .ne, x, y => ¬ x = y
  | .lt, x, y => x < y
  | .ge, x, y => ¬ x < y
  | .gt, x, y => y < x
  | .le, x, y => ¬ y < x
def hldF : ClassFile.Cond → Int32 → Int32 → Prop
  | .eq, x, y => ¬ x = y
  | .ne, x, y => x = y
  | .lt, x, y => ¬ x < y
  | .ge, x, y => x < y
  | .gt, x, y => ¬ y < x
  | .le, x, y => y < x
theorem hldT_ii {cd : ClassFile.Cond} {x y : Int32} (h : hldT cd x y) : if_icmp.holds cd x y = true := by
  cases cd
  · exact Jvm.Free.XT.ii_eq_t h
  · exact Jvm.Free.XT.ii_ne_t h
  · exact Jvm.Free.XT.ii_lt_t h
  · exact Jvm.Free.XT.ii_ge_t h
  · exact Jvm.Free.XT.ii_gt_t h
  · exact Jvm.Free.XT.ii_le_t h
theorem hldF_ii {cd : ClassFile.Cond} {x y : Int32} (h : hldF cd x y) : if_icmp.holds cd x y = false := by
  cases cd
  · exact Jvm.Free.XT.ii_eq_f h
  · exact Jvm.Free.XT.ii_ne_f h
  · exact Jvm.Free.XT.ii_lt_f h
  · exact Jvm.Free.XT.ii_ge_f h
  · exact Jvm.Free.XT.ii_gt_f h
  · exact Jvm.Free.XT.ii_le_f h
theorem b_ifT (B : Rn g D M T A cs ss) {cd : ClassFile.Cond} {x : Int32} {o : Int} (hd : decode D.cd pc = .ok (.ifCond cd o, 3)) (h : hldT cd x 0) (ho : 0 ≤ (pc : Int) + o) (hp : ((pc : Int) + o).toNat = pc') (K : Fn g D M Q (T.setTop (mkF M.m pc' Ls S))) : Fn g D M Q (T.setTop (mkF M.m pc Ls (.int x :: S))) :=
  K.go fun t => XS.ifYes (g := mkF M.m pc Ls (.int x :: S)) B.here B.hx rfl (pc0 := pc) (pc' := pc') rfl (hb B.cd hd) rfl ((if0 cd x).trans (hldT_ii h)) ho hp
theorem b_ifF (B : Rn g D M T A cs ss) {cd : ClassFile.Cond} {x : Int32} {o : Int} (hd : decode D.cd pc = .ok (.ifCond cd o, 3)) (hp : pc + 3 = pc') (h : hldF cd x 0) (K : Fn g D M Q (T.setTop (mkF M.m pc' Ls S))) : Fn g D M Q (T.setTop (mkF M.m pc Ls (.int x :: S))) := by
  subst hp
  exact K.go fun t => XS.ifNo (g := mkF M.m pc Ls (.int x :: S)) B.here B.hx rfl (hb B.cd hd) rfl ((if0 cd x).trans (hldF_ii h))
theorem b_icT (B : Rn g D M T A cs ss) {cd : ClassFile.Cond} {x y : Int32} {o : Int} (hd : decode D.cd pc = .ok (.if_icmp cd o, 3)) (h : hldT cd x y) (ho : 0 ≤ (pc : Int) + o) (hp : ((pc : Int) + o).toNat = pc') (K : Fn g D M Q (T.setTop (mkF M.m pc' Ls S))) : Fn g D M Q (T.setTop (mkF M.m pc Ls (.int y :: .int x :: S))) :=
  K.go fun t => XS.icmpYes (g := mkF M.m pc Ls (.int y :: .int x :: S)) B.here B.hx rfl (pc0 := pc) (pc' := pc') rfl (hb B.cd hd) rfl (hldT_ii h) ho hp
theorem b_icF (B : Rn g D M T A cs ss) {cd : ClassFile.Cond} {x y : Int32} {o : Int} (hd : decode D.cd pc = .ok (.if_icmp cd o, 3)) (hp : pc + 3 = pc') (h : hldF cd x y) (K : Fn g D M Q (T.setTop (mkF M.m pc' Ls S))) : Fn g D M Q (T.setTop (mkF M.m pc Ls (.int y :: .int x :: S))) := by
  subst hp
  exact K.go fun t => XS.icmpNo (g := mkF M.m pc Ls (.int y :: .int x :: S)) B.here B.hx rfl (hb B.cd hd) rfl (hldF_ii h)
theorem b_nnT (B : Rn g D M T A cs ss) {b : Addr} {o : Int} (hd : decode D.cd pc = .ok (.ifnonnull o, 3)) (ho : 0 ≤ (pc : Int) + o) (hp : ((pc : Int) + o).toNat = pc') (K : Fn g D M Q (T.setTop (mkF M.m pc' Ls S))) : Fn g D M Q (T.setTop (mkF M.m pc Ls (.ref b :: S))) :=
  K.go fun t => XS.ifnonnullYes (g := mkF M.m pc Ls (.ref b :: S)) B.here B.hx rfl (pc0 := pc) (pc' := pc') rfl (hb B.cd hd) rfl ho hp
theorem b_aeT (B : Rn g D M T A cs ss) {x y : Value} {o : Int} (hd : decode D.cd pc = .ok (.if_acmp .eq o, 3)) (hx : x.isRef = true) (hy : y.isRef = true) (h : x = y) (ho : 0 ≤ (pc : Int) + o) (hp : ((pc : Int) + o).toNat = pc') (K : Fn g D M Q (T.setTop (mkF M.m pc' Ls S))) : Fn g D M Q (T.setTop (mkF M.m pc Ls (y :: x :: S))) :=
  K.go fun t => Jvm.Free.XT.acmpYes (g := mkF M.m pc Ls (y :: x :: S)) B.here B.hx rfl (pc0 := pc) (pc' := pc') rfl (hb B.cd hd) rfl hx hy (Jvm.Free.XT.aa_eq_t h) ho hp
theorem b_aeF (B : Rn g D M T A cs ss) {x y : Value} {o : Int} (hd : decode D.cd pc = .ok (.if_acmp .eq o, 3)) (hp : pc + 3 = pc') (hx : x.isRef = true) (hy : y.isRef = true) (h : ¬ x = y) (K : Fn g D M Q (T.setTop (mkF M.m pc' Ls S))) : Fn g D M Q (T.setTop (mkF M.m pc Ls (y :: x :: S))) := by
  subst hp
  exact K.go fun t => Jvm.Free.XT.acmpNo (g := mkF M.m pc Ls (y :: x :: S)) B.here B.hx rfl (hb B.cd hd) rfl hx hy (Jvm.Free.XT.aa_eq_f h)
theorem b_anT (B : Rn g D M T A cs ss) {x y : Value} {o : Int} (hd : decode D.cd pc = .ok (.if_acmp .ne o, 3)) (hx : x.isRef = true) (hy : y.isRef = true) (h : ¬ x = y) (ho : 0 ≤ (pc : Int) + o) (hp : ((pc : Int) + o).toNat = pc') (K : Fn g D M Q (T.setTop (mkF M.m pc' Ls S))) : Fn g D M Q (T.setTop (mkF M.m pc Ls (y :: x :: S))) :=
  K.go fun t => Jvm.Free.XT.acmpYes (g := mkF M.m pc Ls (y :: x :: S)) B.here B.hx rfl (pc0 := pc) (pc' := pc') rfl (hb B.cd hd) rfl hx hy (Jvm.Free.XT.aa_ne_t h) ho hp
theorem b_anF (B : Rn g D M T A cs ss) {x y : Value} {o : Int} (hd : decode D.cd pc = .ok (.if_acmp .ne o, 3)) (hp : pc + 3 = pc') (hx : x.isRef = true) (hy : y.isRef = true) (h : x = y) (K : Fn g D M Q (T.setTop (mkF M.m pc' Ls S))) : Fn g D M Q (T.setTop (mkF M.m pc Ls (y :: x :: S))) := by
  subst hp
  exact K.go fun t => Jvm.Free.XT.acmpNo (g := mkF M.m pc Ls (y :: x :: S)) B.here B.hx rfl (hb B.cd hd) rfl hx hy (Jvm.Free.XT.aa_ne_f h)
theorem b_goto (B : Rn g D M T A cs ss) {o : Int} (hd : decode D.cd pc = .ok (.goto o, 3)) (ho : 0 ≤ (pc : Int) + o) (hp : ((pc : Int) + o).toNat = pc') (K : Fn g D M Q (T.setTop (mkF M.m pc' Ls S))) : Fn g D M Q (T.setTop (mkF M.m pc Ls S)) :=
  K.go fun t => XS.goto (g := mkF M.m pc Ls S) B.here B.hx rfl (pc0 := pc) (pc' := pc') rfl (hb B.cd hd) ho hp
/-! OWN WALKING KIT, part 4: calls, constants, casts. -/
theorem r_initO (B : RH g D M T H Lt cs ss) {ix W : Nat} {a : Addr} (hd : decode D.cd pc = .ok (.invokespecial ix, 3)) (hp : pc + 3 = pc') (w1 : (Jvm.Cond.methodLink D.y.cls ix Lib.objectInit).before g.a0 g.Z = true) (w2 : (Jvm.Cond.instanceMethod Lib.objectInit).before g.a0 g.Z = true)
    (w3 : (Jvm.Cond.code Lib.objectInit ⟨#[0xb1]⟩ 1 none).before g.a0 g.Z = true) (hsz : Ls.size = D.mx) (hf : 1 ≤ D.rm.frames) (hW : (S.map fun v => v.category).sum = W) (hl : W + 12 ≤ D.rm.locals)
    (K : ∀ T', RH g D M T' H Lt cs ss → Fn g D M Q (T'.setTop (mkF M.m pc' Ls S))) : Fn g D M Q (T.setTop (mkF M.m pc Ls (.ref a :: S))) := by
  subst hp
  obtain ⟨st, vm0, k0, locs, X, hS, hk, hZ, hown, hC, N, E0, hH⟩ := B
  obtain ⟨T', X', e', stp⟩ := initO (Z := g.Z) (a0 := g.a0) X st.2.1 hZ hown w1 w2 w3 rfl (g := mkF M.m pc Ls (.ref a :: S)) rfl (hsz.trans st.2.2.2.1.symm) rfl (hb st.2.2.1 hd) hf (W := W) (by show 2 * 0 + _ ≤ _; rw [hW]; omega) hl
  exact (K T' ⟨st, vm0, k0, locs, X', hS, by rw [e']; exact hk, hZ, hown, by rw [e']; exact hC, N, by rw [e']; exact E0, by rw [e']; exact hH⟩).go stp
theorem Ct.back {R : Room} {p : Program} {e : Env} {below : List Frame} {s : State} {args : Array Value} {vm0 : Vm} {h : Heap} {len Wt : Nat} (K : Ct g D' as H Lt Q') (W : GW g) (hZ : g.Z.Warmed39 vm0) (wc : (Jvm.Cond.code D'.y D'.cd D'.mx D'.rt).before g.a0 g.Z = true) (wz : (Jvm.Cond.initialized D'.y.cls).before g.a0 g.Z = true)
    (hf : D'.rm.frames + 1 ≤ R.frames) (hl : Wt + (D'.mx + 11) + D'.rm.locals ≤ R.locals) (HC : CHv g.Z g.EL vm0 h) (E0 : Ext g.Z.heap h) (P : Hp g vm0 h H Lt) :
    BackS g.l R p e below (s.setVm vm0) args D'.y len Wt (fun A a => a = as ∧ A.U.heap = h ∧ A.cells + D'.rm.cells ≤ R.cells ∧ A.slots + D'.rm.slots ≤ R.slots)
      (fun A _ v B => ∃ L, Q' v B.U.vm B.U.heap ∧ Fr g.Z.heap.size L ∧ Ext g.Z.heap B.U.heap ∧ B.locs = A.locs ++ L ∧ B.cells = A.cells + D'.rm.cells ∧ B.slots = A.slots + D'.rm.slots ∧ CHr g.Z g.EL vm0 h B.U.vm B.U.heap) :=
  BackS.of_freeW (bytes := D'.cd) (maxL := D'.mx) (ret := D'.rt) (E := fun _ first o t L k n => k = D'.rm.cells ∧ n = D'.rm.slots ∧ (∃ v, o = .returned v ∧ Q' v t.vm t.heap) ∧ Fr g.Z.heap.size L ∧ Ext g.Z.heap t.heap ∧ CHr g.Z g.EL first.vm first.heap t.vm t.heap) K hf hl
    (fun m meth c A a Y hp => have hU : g.Z.Warmed39 A.U.vm := wtrans (s := s.setVm vm0) hZ Y.warmed
      ⟨by show (Jvm.Cond.and _ .tt).before a A.U = true; rw [Cond.before_and, mv hU wc]; rfl, mv hU wc, mv hU wz, hp.2.2.1, hp.2.2.2⟩)
    (fun m meth c A a g' mk Y hp => by
      have hat := CHv.at Y hZ W.2.1 HC
      have e1 : (A.U.calling g' mk a).heap = h := hp.2.1
      have e2 : (A.U.calling g' mk a).vm = A.U.vm := rfl
      refine ⟨hp.1, wtrans (s := s.setVm vm0) hZ Y.warmed, ?_, ?_, ?_⟩
      · rw [e1, e2]; exact hat.1
      · rw [e1]; exact E0
      · rw [e1, e2]; exact P.move hat (ext_rfl _))
    (fun _ _ _ _ _ _ _ _ _ => trivial)
    (fun _ _ _ _ ⟨v, L, h1, h2, h3, h4, h5, h6⟩ => ⟨L, _, _, h6, rfl, rfl, ⟨v, h1, h2⟩, h3, h5, h4⟩)
    (fun m meth c A a g' mk v t L k n Y hp _ _ ⟨e1, e2, ⟨v', e3, e4⟩, e5, e6, e7⟩ => by
      cases e3; subst e1 e2
      refine ⟨L, e4, e5, e6, rfl, rfl, rfl, (CHv.at Y hZ W.2.1 HC).trans ?_⟩
      rw [← hp.2.1]; exact e7)
theorem Rn.after {vm0 : Vm} {k0 : Nat} {locs : List Loc} {B : Pt} {L : List Loc} {v : Option Value} {rc rs : Nat} (st : GW g ∧ M.p.tables.exec = Jvm.exec ∧ M.c.code = D.cd ∧ M.c.maxLocals = D.mx ∧ M.meth.sig.returnType = D.rt ∧ M.meth.locks = false ∧ M.meth.name = D.y.name)
    (hS : M.s.Since vm0 k0) (hk : k0 ≤ T.heap.size) (hZ : g.Z.Warmed39 vm0) (hown : vm0.findClass D.y.cls = some M.m.cls) (hC : CHr g.Z g.EL M.s.vm M.s.heap vm0 T.heap) (N : Fr g.Z.heap.size locs)
    (X' : Stand M.p g.l M.e D.rm ((M.s.setVm vm0).setVm B.U.vm) M.m M.args M.below M.meth M.c B.U B.locs B.cells B.slots) (hS' : (M.s.setVm vm0).Since B.U.vm B.U.heap.size) (hg' : T.heap.size ≤ B.U.heap.size)
    (hQ : Q' v B.U.vm B.U.heap) (hL : Fr g.Z.heap.size L) (hE : Ext g.Z.heap B.U.heap) (e1 : B.locs = locs ++ L) (e2 : B.cells = cs + rc) (e3 : B.slots = ss + rs) (hC' : CHr g.Z g.EL vm0 T.heap B.U.vm B.U.heap) : Rn g D M B.U (Q' v) (cs + rc) (ss + rs) := by
  obtain ⟨r1, r2, r3, r4⟩ := rebS (Z := g.Z) hS hk X' hS' hg' hZ hown
  rw [e1, e2, e3] at r1
  exact ⟨st, B.U.vm, B.U.heap.size, _, r1, r2, Nat.le_refl _, r3, r4, hC.trans hC', N.app hL, hE, hQ⟩
theorem r_static (B : RH g D M T H Lt cs ss) {ix W cs' ss' : Nat} {argsL rest : List Value} {ps : List FieldType} {r : Option FieldType} (hd : decode D.cd pc = .ok (.invokestatic ix, 3)) (hp : pc + 3 = pc')
    (w1 : (Jvm.Cond.methodLink D.y.cls ix D'.y).before g.a0 g.Z = true) (w2 : (Jvm.Cond.static D'.y).before g.a0 g.Z = true) (w3 : (Jvm.Cond.initialized D'.y.cls).before g.a0 g.Z = true) (w4 : (Jvm.Cond.code D'.y D'.cd D'.mx D'.rt).before g.a0 g.Z = true)
    (hy : D'.y.cls ≠ "java/lang/invoke/MethodHandle" ∧ D'.y.cls ≠ "java/lang/invoke/VarHandle") (C : Ct g D' as H Lt Q') (has : argsL.toArray = as) (pd : parseMethodDescriptor D'.y.desc = some ⟨ps, r⟩) (hlen : argsL.length = ps.length) (hst : S = argsL.reverse ++ rest)
    (hsz : Ls.size = D.mx) (hW : (rest.map fun v => v.category).sum = W) (ok : CallOK D D' W cs ss cs' ss')
    (K : ∀ T' v, Rn g D M T' (Q' v) cs' ss' → Fn g D M Q (T'.setTop (mkF M.m pc' Ls (v.toList ++ rest)))) : Fn g D M Q (T.setTop (mkF M.m pc Ls S)) := by
  obtain ⟨hf, hl, hc, hs, hc', hs'⟩ := ok
  subst hp hc hs
  obtain ⟨st, vm0, k0, locs, X, hS, hk, hZ, hown, hC, N, E0, hH⟩ := B
  obtain ⟨v, vm1, Bp, -, X', hS', hg', ⟨L, hQ, hL, hE, e1, e2, e3, hC'⟩, stp⟩ := callSS X st.2.1 hown (mvT hZ w1) (mvT hZ w2) (mvT hZ w3) (mvT hZ w4) hy (Ct.back (p := M.p) (e := M.e) (below := M.below) (s := M.s) (args := M.args) (len := 3) (Wt := W) C st.1 hZ w4 w3 hf hl hC.1 E0 hH) (g := mkF M.m pc Ls S) rfl (hsz.trans st.2.2.2.1.symm) (argsL := argsL) (rest := rest) (lenOf pd hlen) hst (by show 2 * 0 + _ ≤ _; rw [hW]; omega) (hb st.2.2.1 hd) (fun _ _ => ⟨has, rfl, hc', hs'⟩)
  exact (K Bp.U v (Rn.after st hS hk hZ hown hC N X' hS' hg' hQ hL hE e1 e2 e3 hC')).go fun t => stp.trans
theorem r_special (B : RH g D M T H Lt cs ss) {ix W cs' ss' : Nat} {a : Addr} {argsL rest : List Value} {ps : List FieldType} {r : Option FieldType} (hd : decode D.cd pc = .ok (.invokespecial ix, 3)) (hp : pc + 3 = pc') (hy1 : D'.y.name = "<init>") (hrt : D'.rt = none)
    (w1 : (Jvm.Cond.methodLink D.y.cls ix D'.y).before g.a0 g.Z = true) (w2 : (Jvm.Cond.instanceMethod D'.y).before g.a0 g.Z = true) (w3 : (Jvm.Cond.initialized D'.y.cls).before g.a0 g.Z = true) (w4 : (Jvm.Cond.code D'.y D'.cd D'.mx D'.rt).before g.a0 g.Z = true)
    (hy : D'.y.cls ≠ "java/lang/invoke/MethodHandle" ∧ D'.y.cls ≠ "java/lang/invoke/VarHandle") (C : Ct g D' as H Lt Q') (has : (.ref a :: argsL).toArray = as) (pd : parseMethodDescriptor D'.y.desc = some ⟨ps, r⟩) (hlen : argsL.length = ps.length) (hst : S = argsL.reverse ++ .ref a :: rest)
    (hsz : Ls.size = D.mx) (hW : (rest.map fun v => v.category).sum = W) (ok : CallOK D D' W cs ss cs' ss')
    (K : ∀ T' v, Rn g D M T' (Q' v) cs' ss' → Fn g D M Q (T'.setTop (mkF M.m pc' Ls (v.toList ++ rest)))) : Fn g D M Q (T.setTop (mkF M.m pc Ls S)) := by
  obtain ⟨hf, hl, hc, hs, hc', hs'⟩ := ok
  subst hp hc hs
  obtain ⟨st, vm0, k0, locs, X, hS, hk, hZ, hown, hC, N, E0, hH⟩ := B
  obtain ⟨v, vm1, Bp, -, X', hS', hg', ⟨L, hQ, hL, hE, e1, e2, e3, hC'⟩, stp⟩ := X.specialBackS st.2.1 hy1 hown (mvT hZ w1) (mvT hZ w2) (bytes := D'.cd) (maxL := D'.mx) (by rw [hrt] at w4; exact mvT hZ w4) hy (Ct.back (p := M.p) (e := M.e) (below := M.below) (s := M.s) (args := M.args) (len := 3) (Wt := W) C st.1 hZ w4 w3 hf hl hC.1 E0 hH) (g := mkF M.m pc Ls S) rfl (hsz.trans st.2.2.2.1.symm) (Steps.refl _) (a := a) (argsL := argsL) (rest := rest) (lenOf pd hlen) hst (by show 2 * 0 + _ ≤ _; rw [hW]; omega) (hb st.2.2.1 hd) (fun _ _ => ⟨has, rfl, hc', hs'⟩)
  exact (K Bp.U v (Rn.after st hS hk hZ hown hC N X' hS' hg' hQ hL hE e1 e2 e3 hC')).go fun t => stp.trans
theorem r_virtual (B : RH g D M T H Lt cs ss) {ix W cs' ss' : Nat} {y : MethodName} {C0 : String} {b : Addr} {argsL rest : List Value} {ps : List FieldType} {r : Option FieldType} (hd : decode D.cd pc = .ok (.invokevirtual ix, 3)) (hp : pc + 3 = pc')
    (w1 : (Jvm.Cond.methodLink D.y.cls ix y).before g.a0 g.Z = true) (wd : (Jvm.Cond.declares y).before g.a0 g.Z = true) (ws : (Jvm.Cond.selects C0 y D'.y).before g.a0 g.Z = true) (nf : ∀ vm0, g.Z.Warmed39 vm0 → NotFace (M.s.setVm vm0) y) (w2 : (Jvm.Cond.instanceMethod D'.y).before g.a0 g.Z = true) (w3 : (Jvm.Cond.initialized D'.y.cls).before g.a0 g.Z = true) (w4 : (Jvm.Cond.code D'.y D'.cd D'.mx D'.rt).before g.a0 g.Z = true)
    (hy : y.cls ≠ "java/lang/invoke/MethodHandle" ∧ y.cls ≠ "java/lang/invoke/VarHandle") (F : Al g H Lt fun h => Exa g.Z h b C0) (C : Ct g D' as H Lt Q') (has : (.ref b :: argsL).toArray = as) (pd : parseMethodDescriptor y.desc = some ⟨ps, r⟩) (hlen : argsL.length = ps.length) (hst : S = argsL.reverse ++ .ref b :: rest)
    (hsz : Ls.size = D.mx) (hW : (rest.map fun v => v.category).sum = W) (ok : CallOK D D' W cs ss cs' ss')
    (K : ∀ T' v, Rn g D M T' (Q' v) cs' ss' → Fn g D M Q (T'.setTop (mkF M.m pc' Ls (v.toList ++ rest)))) : Fn g D M Q (T.setTop (mkF M.m pc Ls S)) := by
  obtain ⟨hf, hl, hc, hs, hc', hs'⟩ := ok
  subst hp hc hs
  obtain ⟨st, vm0, k0, locs, X, hS, hk, hZ, hown, hC, N, E0, hH⟩ := B
  obtain ⟨cB, kB, q1, q2, q3⟩ := isOf (s := M.s.setVm vm0) (T := T) hZ rfl (F _ _ E0 hH)
  obtain ⟨v, vm1, Bp, -, X', hS', hg', ⟨L, hQ, hL, hE, e1, e2, e3, hC'⟩, stp⟩ := X.virtualBackS st.2.1 hown (mvT hZ w1) (mvT hZ wd) (nf vm0 hZ) (mvT hZ ws) (mvT hZ w2) hy (Ct.back (p := M.p) (e := M.e) (below := M.below) (s := M.s) (args := M.args) (len := 3) (Wt := W) C st.1 hZ w4 w3 hf hl hC.1 E0 hH) q1 q3 (g := mkF M.m pc Ls S) rfl (hsz.trans st.2.2.2.1.symm) (Steps.refl _) (argsL := argsL) (rest := rest) (lenOf pd hlen) hst (by show 2 * 0 + _ ≤ _; rw [hW]; omega) (hb st.2.2.1 hd) (fun _ _ => ⟨has, rfl, hc', hs'⟩)
  exact (K Bp.U v (Rn.after st hS hk hZ hown hC N X' hS' hg' hQ hL hE e1 e2 e3 hC')).go fun t => stp.trans
theorem r_iface (B : RH g D M T H Lt cs ss) {ix cnt W cs' ss' : Nat} {y : MethodName} {C0 : String} {b : Addr} {argsL rest : List Value} {ps : List FieldType} {r : Option FieldType} (hd : decode D.cd pc = .ok (.invokeinterface ix cnt, 5)) (hp : pc + 5 = pc')
    (w1 : (Jvm.Cond.methodLink D.y.cls ix y).before g.a0 g.Z = true) (wd : (Jvm.Cond.declares y).before g.a0 g.Z = true) (wf : (Jvm.Cond.interfaceMethod y.cls y.cls y.name y.desc).before g.a0 g.Z = true) (hfa : ((Jvm.Cond.interfaceMethod y.cls y.cls y.name y.desc).onTables && (Jvm.Cond.interfaceMethod y.cls y.cls y.name y.desc).keepsFace) = true) (ws : (Jvm.Cond.selects C0 y D'.y).before g.a0 g.Z = true) (w2 : (Jvm.Cond.instanceMethod D'.y).before g.a0 g.Z = true)
    (wp : (Jvm.Cond.publicMethod D'.y).before g.a0 g.Z = true) (wu : (Jvm.Cond.unhidden C0 y.name y.desc).before g.a0 g.Z = true) (wk : (Jvm.Cond.castable C0 y.cls).before g.a0 g.Z = true)
    (w3 : (Jvm.Cond.initialized D'.y.cls).before g.a0 g.Z = true) (w4 : (Jvm.Cond.code D'.y D'.cd D'.mx D'.rt).before g.a0 g.Z = true)
    (hy : y.cls ≠ "java/lang/invoke/MethodHandle" ∧ y.cls ≠ "java/lang/invoke/VarHandle") (F : Al g H Lt fun h => Exa g.Z h b C0) (C : Ct g D' as H Lt Q') (has : (.ref b :: argsL).toArray = as) (pd : parseMethodDescriptor y.desc = some ⟨ps, r⟩) (hlen : argsL.length = ps.length) (hst : S = argsL.reverse ++ .ref b :: rest)
    (hsz : Ls.size = D.mx) (hW : (rest.map fun v => v.category).sum = W) (ok : CallOK D D' W cs ss cs' ss')
    (K : ∀ T' v, Rn g D M T' (Q' v) cs' ss' → Fn g D M Q (T'.setTop (mkF M.m pc' Ls (v.toList ++ rest)))) : Fn g D M Q (T.setTop (mkF M.m pc Ls S)) := by
  obtain ⟨hf, hl, hc, hs, hc', hs'⟩ := ok
  subst hp hc hs
  obtain ⟨st, vm0, k0, locs, X, hS, hk, hZ, hown, hC, N, E0, hH⟩ := B
  obtain ⟨cB, kB, q1, q2, q3⟩ := isOf (s := M.s.setVm vm0) (T := T) hZ rfl (F _ _ E0 hH)
  obtain ⟨v, vm1, Bp, -, X', hS', hg', ⟨L, hQ, hL, hE, e1, e2, e3, hC'⟩, stp⟩ := X.interfaceBackS st.2.1 hown (mvT hZ w1) (mvT hZ wd) (mvT hZ wf hfa) (mvT hZ ws) (mvT hZ w2) (mvT hZ wp) (mvT hZ wu) (mvT hZ wk) hy (Ct.back (p := M.p) (e := M.e) (below := M.below) (s := M.s) (args := M.args) (len := 5) (Wt := W) C st.1 hZ w4 w3 hf hl hC.1 E0 hH) q1 q2 q3 (g := mkF M.m pc Ls S) rfl (hsz.trans st.2.2.2.1.symm) (Steps.refl _) (argsL := argsL) (rest := rest) (lenOf pd hlen) hst (by show 2 * 0 + _ ≤ _; rw [hW]; omega) (hb st.2.2.1 hd) (fun _ _ => ⟨has, rfl, hc', hs'⟩)
  exact (K Bp.U v (Rn.after st hS hk hZ hown hC N X' hS' hg' hQ hL hE e1 e2 e3 hC')).go fun t => stp.trans
/-! constants -/
theorem ary_of {Z : State} {h : Heap} {b : Addr} {k : ClassId} {z : Int32} {vs : List Value} {dv : Value} (A : Arv Z h b k .byte z vs dv) (hl : z.toNatClampNeg = vs.length) : Ary Z h b .byte "" vs := by
  obtain ⟨c, r1, r2, r3, r4, r5, r6⟩ := A
  have hs : c.slots.size = vs.length := r3.trans hl
  refine ⟨c, r1, ?_, ?_, fun v hv => ?_, nofun, fun q => absurd rfl q⟩
  · apply Array.ext_getElem?
    intro i
    by_cases hi : i < c.slots.size
    · rw [r5 i hi]
      have : i < vs.length := hs ▸ hi
      simp [this]
    · rw [Array.getElem?_eq_none (by omega), List.getElem?_toArray, List.getElem?_eq_none (by omega)]
  · have := (back32 r4).2
    omega
  · obtain ⟨i, hi, rfl⟩ := List.getElem_of_mem hv
    have := r6 i (by omega)
    simpa [hi] using this
theorem r_ldc (B : RH g D M T H Lt cs ss) {ix n cs' ss' : Nat} {text : String} {bs : List Value} {z : Int32} (hd : decode D.cd pc = .ok (.ldc ix, 2)) (hp : pc + 2 = pc') (w : (Jvm.Cond.stringLink D.y.cls ix text).before g.a0 g.Z = true) (wS : ∀ a ∈ Bundle.stringAtoms, a.before g.a0 g.Z = true) (hm : (D.y.cls, ix) ∈ g.EL)
    (ht : (∀ c ∈ text.toList, c.toNat < 256) ∧ text.toList.map (fun c => Value.int (Jvm.Lit.byteI c.toNat.toUInt16)) = bs) (hz : ¬ z < 0) (hzl : z.toNatClampNeg = bs.length) (hn : 4 * text.toList.length ≤ n) (hbig : n ≤ 536870912) (hc : cs + 2 = cs') (hs : ss + (n + 4) = ss') (hc' : cs' ≤ D.rm.cells) (hs' : ss' ≤ D.rm.slots)
    (K : ∀ T' a b, RH g D M T' H ((a, b, 0, bs) :: Lt) cs' ss' → Fn g D M Q (T'.setTop (mkF M.m pc' Ls (.ref a :: S)))) : Fn g D M Q (T.setTop (mkF M.m pc Ls S)) := by
  subst hp hc hs
  obtain ⟨st, vm0, k0, locs, X, hS, hk, hZ, hown, hC, N, E0, hH⟩ := B
  obtain ⟨a, T', h', k1, b, kk, X', e', E, hS', hk', hZ', hown', F1, F2, F3, F4, -, -, hC', -, hsafe, stp⟩ := ldcCH (Z := g.Z) (a0 := g.a0) (EL := g.EL) X st.2.1 hZ hown w wS rfl hS hk st.1.2.1 hm hC.1 ht hz hzl (g := mkF M.m pc Ls S) rfl (hb st.2.2.1 hd) hn hbig hc' hs'
  have P1 := hH.move hC' E
  have P' := P1.lit (y := (a, b, 0, bs)) ⟨F1, F3, F2, ary_of F4 hzl⟩ (fun x hx => hsafe x.1 (P1.1 x hx).2.2.2)
  subst e'
  exact (K T' a b ⟨st, T'.vm, k1, locs, X', hS', hk', hZ', hown', hC.trans hC', N, ext_trans E0 E, P'⟩).go stp
theorem r_ldcI (B : RH g D M T H Lt cs ss) {ix : Nat} {v : Int32} (hd : decode D.cd pc = .ok (.ldc ix, 2)) (hp : pc + 2 = pc') (w : (Jvm.Cond.constant D.y.cls ix v).before g.a0 g.Z = true) (K : Fn g D M Q (T.setTop (mkF M.m pc' Ls (.int v :: S)))) : Fn g D M Q (T.setTop (mkF M.m pc Ls S)) := by
  subst hp
  obtain ⟨st, vm0, k0, locs, X, hS, hk, hZ, hown, hC, N, E0, hH⟩ := B
  exact K.go fun t => X.ldcI (g := mkF M.m pc Ls S) st.2.1 hown (mvT hZ w) rfl (hb st.2.2.1 hd)
/-! casts -/
theorem r_cast (B : RH g D M T H Lt cs ss) {ix : Nat} {C : String} {a : Addr} (hd : decode D.cd pc = .ok (.checkcast ix, 3)) (hp : pc + 3 = pc') (w : (Jvm.Cond.classLink D.y.cls ix C).before g.a0 g.Z = true) (F : Al g H Lt fun h => Ins g.Z h a C true)
    (K : ∀ T', RH g D M T' H Lt cs ss → Fn g D M Q (T'.setTop (mkF M.m pc' Ls (.ref a :: S)))) : Fn g D M Q (T.setTop (mkF M.m pc Ls (.ref a :: S))) := by
  subst hp
  obtain ⟨st, vm0, k0, locs, X, hS, hk, hZ, hown, hC, N, E0, hH⟩ := B
  obtain ⟨T', X', e', stp⟩ := castY (Z := g.Z) (a0 := g.a0) X st.2.1 hZ hown w rfl (F _ _ E0 hH) (g := mkF M.m pc Ls (.ref a :: S)) rfl rfl (hb st.2.2.1 hd)
  exact (K T' ⟨st, vm0, k0, locs, X', hS, by rw [e']; exact hk, hZ, hown, by rw [e']; exact hC, N, by rw [e']; exact E0, by rw [e']; exact hH⟩).go stp
theorem r_inst1 (B : RH g D M T H Lt cs ss) {ix : Nat} {C : String} {a : Addr} (hd : decode D.cd pc = .ok (.instanceof ix, 3)) (hp : pc + 3 = pc') (w : (Jvm.Cond.classLink D.y.cls ix C).before g.a0 g.Z = true) (F : Al g H Lt fun h => Ins g.Z h a C true)
    (K : ∀ T', RH g D M T' H Lt cs ss → Fn g D M Q (T'.setTop (mkF M.m pc' Ls (.int 1 :: S)))) : Fn g D M Q (T.setTop (mkF M.m pc Ls (.ref a :: S))) := by
  subst hp
  obtain ⟨st, vm0, k0, locs, X, hS, hk, hZ, hown, hC, N, E0, hH⟩ := B
  obtain ⟨T', X', e', stp⟩ := instY (Z := g.Z) (a0 := g.a0) X st.2.1 hZ hown w rfl (F _ _ E0 hH) (g := mkF M.m pc Ls (.ref a :: S)) rfl rfl (hb st.2.2.1 hd)
  exact (K T' ⟨st, vm0, k0, locs, X', hS, by rw [e']; exact hk, hZ, hown, by rw [e']; exact hC, N, by rw [e']; exact E0, by rw [e']; exact hH⟩).go stp
theorem r_inst0 (B : RH g D M T H Lt cs ss) {ix : Nat} {C C1 : String} {a : Addr} (hd : decode D.cd pc = .ok (.instanceof ix, 3)) (hp : pc + 3 = pc') (w : (Jvm.Cond.classLink D.y.cls ix C).before g.a0 g.Z = true) (F : Al g H Lt fun h => Ins g.Z h a C false) (F1 : Al g H Lt fun h => Exa g.Z h a C1)
    (K : ∀ T', RH g D M T' H Lt cs ss → Fn g D M Q (T'.setTop (mkF M.m pc' Ls (.int 0 :: S)))) : Fn g D M Q (T.setTop (mkF M.m pc Ls (.ref a :: S))) := by
  subst hp
  obtain ⟨st, vm0, k0, locs, X, hS, hk, hZ, hown, hC, N, E0, hH⟩ := B
  obtain ⟨cell, cT, h1, h2, h3⟩ := F _ _ E0 hH
  obtain ⟨cell', k, e1, -, e3, e4, -⟩ := F1 _ _ E0 hH
  cases h1.symm.trans e1
  obtain ⟨k', q, -⟩ := hZ.alike.2.2 _ _ e3
  obtain ⟨vm', X', stp⟩ := Jvm.Sym.instanceofNoAt X st.2.1 hown (mvT hZ w) h1 e4 q (by show vm0.findClass C = some cT; rw [hZ.alike.findClass]; exact h2) (by show vm0.assignable cell.cls cT = false; rw [hZ.alike.assignable]; simpa [e4] using h3) (g := mkF M.m pc Ls (.ref a :: S)) rfl rfl (hb st.2.2.1 hd)
  exact (K _ ⟨st, vm0, k0, locs, X', hS, hk, hZ, hown, hC, N, E0, hH⟩).go stp
/-! OWN WALKING KIT, part 6: a private method. -/
theorem r_private (B : RH g D M T H Lt cs ss) {ix W cs' ss' kk : Nat} {C0 : String} {b : Addr} {argsL rest : List Value} {ps : List FieldType} {r : Option FieldType} (hd : decode D.cd pc = .ok (.invokevirtual ix, 3)) (hp : pc + 3 = pc')
    (w1 : (Jvm.Cond.methodLink D.y.cls ix D'.y).before g.a0 g.Z = true) (wp : (Jvm.Cond.privateMethod D'.y).before g.a0 g.Z = true) (wi : (Jvm.Cond.instantiable D'.y.cls kk).before g.a0 g.Z = true) (w2 : (Jvm.Cond.instanceMethod D'.y).before g.a0 g.Z = true) (w3 : (Jvm.Cond.initialized D'.y.cls).before g.a0 g.Z = true) (w4 : (Jvm.Cond.code D'.y D'.cd D'.mx D'.rt).before g.a0 g.Z = true)
    (hy : D'.y.cls ≠ "java/lang/invoke/MethodHandle" ∧ D'.y.cls ≠ "java/lang/invoke/VarHandle") (F : Al g H Lt fun h => Exa g.Z h b C0) (C : Ct g D' as H Lt Q') (has : (.ref b :: argsL).toArray = as) (pd : parseMethodDescriptor D'.y.desc = some ⟨ps, r⟩) (hlen : argsL.length = ps.length) (hst : S = argsL.reverse ++ .ref b :: rest)
    (hsz : Ls.size = D.mx) (hW : (rest.map fun v => v.category).sum = W) (ok : CallOK D D' W cs ss cs' ss')
    (K : ∀ T' v, Rn g D M T' (Q' v) cs' ss' → Fn g D M Q (T'.setTop (mkF M.m pc' Ls (v.toList ++ rest)))) : Fn g D M Q (T.setTop (mkF M.m pc Ls S)) := by
  obtain ⟨hf, hl, hc, hs, hc', hs'⟩ := ok
  subst hp hc hs
  obtain ⟨st, vm0, k0, locs, X, hS, hk, hZ, hown, hC, N, E0, hH⟩ := B
  obtain ⟨cB, kB, q1, q2, cell, c1, c2, c3⟩ := isOf (s := M.s.setVm vm0) (T := T) hZ rfl (F _ _ E0 hH)
  obtain ⟨tt, kt, t1, t2, t3, t4, -⟩ := Cond.instantiable_spec (args := M.args) (s := M.s.setVm vm0) (mvT hZ wi)
  have hpv := Cond.privateMethod_at (args := M.args) (s := M.s.setVm vm0) (mvT hZ wp)
  have hse := selects_self_of_private (s := M.s.setVm vm0) (args := M.args) t1 t2 (Bool.or_eq_false_iff.mp t4).1 hpv (mvT hZ w2) hy
  obtain ⟨v, vm1, Bp, -, X', hS', hg', ⟨L, hQ, hL, hE, e1, e2, e3, hC'⟩, stp⟩ := X.privateBackS st.2.1 hown (mvT hZ w1) (mvT hZ w2) hse hpv (mvT hZ w4) hy (Ct.back (p := M.p) (e := M.e) (below := M.below) (s := M.s) (args := M.args) (len := 3) (Wt := W) C st.1 hZ w4 w3 hf hl hC.1 E0 hH) (g := mkF M.m pc Ls S) rfl (hsz.trans st.2.2.2.1.symm) (Steps.refl _) c1 (fun q e => by rw [e] at c3; cases c3) (argsL := argsL) (rest := rest) (lenOf pd hlen) hst (by show 2 * 0 + _ ≤ _; rw [hW]; omega) (hb st.2.2.1 hd) (fun _ _ => ⟨has, rfl, hc', hs'⟩)
  exact (K Bp.U v (Rn.after st hS hk hZ hown hC N X' hS' hg' hQ hL hE e1 e2 e3 hC')).go fun t => stp.trans
/-! OWN WALKING KIT, part 7: System.arraycopy, getClass and a class constant, dup2_x1, a float constant. -/
theorem Ary.arv {Z : State} {h : Heap} {a : Addr} {ty : FieldType} {nm : String} {vs : List Value} (A : Ary Z h a ty nm vs) : ∃ k, Arv Z h a k ty (Int32.ofNat vs.length) vs .null ∧ (∀ C, ty = .object C → Ovr Z k C) ∧ (nm ≠ "" → Exa Z h a nm) ∧ (Int32.ofNat vs.length).toNatClampNeg = vs.length := by
  obtain ⟨c, r1, r2, r3, r4, r5, r6⟩ := A
  have hz : (Int32.ofNat vs.length).toNatClampNeg = vs.length := Jvm.Free.XT.n32 (by omega)
  have hs : c.slots.size = vs.length := by rw [r2]; simp
  refine ⟨c.cls, ⟨c, r1, rfl, by rw [hz, hs], Int32.ofNat_not_neg (by omega), fun k hk => ?_, fun i hi => ?_⟩, r5, r6, hz⟩
  · rw [hs] at hk
    rw [r2]
    simp [hk]
  · rw [hs] at hi
    have : vs.getD i .null = vs[i] := by simp [hi]
    rw [this]; exact r4 _ (List.getElem_mem hi)
theorem Ary.of_arv {Z : State} {h : Heap} {a : Addr} {k : ClassId} {ty : FieldType} {z : Int32} {nm : String} {vs : List Value} {dv : Value} (A : Arv Z h a k ty z vs dv) (hl : z.toNatClampNeg = vs.length) (hO : ∀ C, ty = .object C → Ovr Z k C) (hE : nm ≠ "" → Exa Z h a nm) : Ary Z h a ty nm vs := by
  obtain ⟨c, r1, r2, r3, r4, r5, r6⟩ := A
  have hs : c.slots.size = vs.length := r3.trans hl
  refine ⟨c, r1, ?_, ?_, fun v hv => ?_, fun C q => by rw [r2]; exact hO C q, hE⟩
  · apply Array.ext_getElem?
    intro i
    by_cases hi : i < c.slots.size
    · rw [r5 i hi]
      have : i < vs.length := hs ▸ hi
      simp [this]
    · rw [Array.getElem?_eq_none (by omega), List.getElem?_toArray, List.getElem?_eq_none (by omega)]
  · have := (back32 r4).2
    omega
  · obtain ⟨i, hi, rfl⟩ := List.getElem_of_mem hv
    have := r6 i (by omega)
    simpa [hi] using this
theorem rangeL {vs : List Value} {s0 n0 : Nat} (h : s0 + n0 ≤ vs.length) : (vs.drop s0).take n0 = (List.range n0).map fun i => vs.getD (s0 + i) .null := by
  apply List.ext_getElem?
  intro i
  by_cases hi : i < n0
  · rw [List.getElem?_take, if_pos hi, List.getElem?_drop, List.getElem?_map, List.getElem?_range hi, List.getElem?_eq_getElem (by omega)]
    simp [show s0 + i < vs.length by omega]
  · rw [List.getElem?_take, if_neg hi, List.getElem?_map, List.getElem?_eq_none (by simpa using hi)]
    rfl
theorem stoL {Z : State} {h : Heap} {a : Addr} : ∀ {us : List Value}, (∀ v ∈ us, Sto Z h a v) → StoL Z h a us
  | [], _ => trivial
  | _ :: _, H => ⟨H _ (List.mem_cons_self ..), stoL fun v hv => H v (List.mem_cons_of_mem _ hv)⟩
theorem r_acopy (B : RH g D M T H Lt cs ss) {ix i W s0 d0 n0 : Nat} {a b : Addr} {ty ty' : FieldType} {nm nm' : String} {vs vd us vd' rest : List Value} {sp dp nn : Int32} (hd : decode D.cd pc = .ok (.invokestatic ix, 3)) (hp : pc + 3 = pc')
    (w1 : (Jvm.Cond.methodLink D.y.cls ix Jvm.Stand.acN).before g.a0 g.Z = true) (w2 : (Jvm.Cond.native Jvm.Stand.acN).before g.a0 g.Z = true) (w3 : (Jvm.Cond.static Jvm.Stand.acN).before g.a0 g.Z = true) (w4 : (Jvm.Cond.initialized "java/lang/System").before g.a0 g.Z = true)
    (FA : Al g H Lt fun h => Ary g.Z h a ty nm vs) (hi : H[i]? = some (b, .inr (ty', nm', vd)))
    (hty : (ty = ty' ∧ refKind ty = false) ∨ (refKind ty = true ∧ ∃ C, ty' = .object C ∧ ∀ v ∈ us, v = .null ∨ ∃ y, v = .ref y ∧ Al g H Lt fun h => Ins g.Z h y C true))
    (h1 : ¬ sp < 0) (e1 : sp.toNatClampNeg = s0) (h2 : ¬ dp < 0) (e2 : dp.toNatClampNeg = d0) (h3 : ¬ nn < 0) (e3 : nn.toNatClampNeg = n0) (h4 : s0 + n0 ≤ vs.length) (h5 : d0 + n0 ≤ vd.length) (hus : (vs.drop s0).take n0 = us) (ev : vd.take d0 ++ us ++ vd.drop (d0 + n0) = vd')
    (e : H.set i (b, .inr (ty', nm', vd')) = H') (hsz : Ls.size = D.mx) (hW : (rest.map fun v => v.category).sum = W) (hf : 1 ≤ D.rm.frames) (hl : W + 18 ≤ D.rm.locals)
    (K : ∀ T', RH g D M T' H' Lt cs ss → Fn g D M Q (T'.setTop (mkF M.m pc' Ls rest))) : Fn g D M Q (T.setTop (mkF M.m pc Ls (.int nn :: .int dp :: .ref b :: .int sp :: .ref a :: rest))) := by
  subst hp
  obtain ⟨st, vm0, k0, locs, X, hS, hk, hZ, hown, hC, N, E0, hH⟩ := B
  have I := hH.1 _ (List.mem_of_getElem? hi)
  have I1 : Ary g.Z T.heap b ty' nm' vd := I.1
  obtain ⟨ka, A1, -, -, za⟩ := (FA _ _ E0 hH).arv
  obtain ⟨kb, B1, O1, X1, zb⟩ := I1.arv
  have hul : us.length = n0 := by rw [← hus, List.length_take, List.length_drop]; omega
  have hst : (ty = ty' ∧ refKind ty = false) ∨ (refKind ty = true ∧ refKind ty' = true ∧ StoL g.Z T.heap b us) := by
    rcases hty with q | ⟨q, C, rfl, r⟩
    · exact Or.inl q
    · refine Or.inr ⟨q, rfl, stoL fun v hv => ?_⟩
      rcases r v hv with rfl | ⟨y, rfl, I⟩
      · exact Or.inl rfl
      · obtain ⟨c, r1, -, -, -, r5, -⟩ := I1
        exact Sto.of r1 (r5 C rfl) (I _ _ E0 hH)
  obtain ⟨T', h', L, X', e', N', K1, B2, stp⟩ := cpA (Z := g.Z) (a0 := g.a0) X st.2.1 hZ hown w1 w2 w3 w4 rfl A1 B1 hst h1 h2 h3 (by rw [e1, e3, za]; exact h4) (by rw [e2, e3, zb]; exact h5) (by rw [e1, e3, ← hus]; exact rangeL h4) (by rw [e2, e3]; exact h5) N I.2.2.1 (g := mkF M.m pc Ls (.int nn :: .int dp :: .ref b :: .int sp :: .ref a :: rest)) rfl (hsz.trans st.2.2.2.1.symm) rfl (hb st.2.2.1 hd) hf (W := W) (by show 2 * 0 + _ ≤ _; rw [hW]; omega) (by show W + (nativeFrameWords "java/lang/System" "arraycopy" 5 + 11) ≤ _; exact hl)
  rw [e2, e3, ev] at B2
  have hlen : vd'.length = vd.length := by rw [← ev]; simp only [List.length_append, List.length_take, List.length_drop, hul]; omega
  have A2 : Ary g.Z h' b ty' nm' vd' := Ary.of_arv B2 (by rw [zb, hlen]) O1 (fun q => (X1 q).keep K1)
  have C1 := CHr.keep K1 (fun x hx => by rw [List.mem_singleton.mp hx]; exact I.2.2.2) hC.1
  have P' := hH.upd C1 K1 hi rfl rfl (show Is g.Z h' (b, .inr (ty', nm', vd')) from A2) trivial
  rw [e] at P'
  refine (K T' ⟨st, vm0, k0, _, X', hS, by rw [e']; exact Nat.le_trans hk K1.1, hZ, hown, by rw [e']; exact hC.trans C1, N', ?_, by rw [e']; exact P'⟩).go stp
  rw [e']; exact (Old.keep ⟨rfl, E0⟩ K1 (fun x hx => by rw [List.mem_singleton.mp hx]; exact I.2.2.1)).2
theorem r_getClass (B : RH g D M T H Lt cs ss) {ix W : Nat} {b mir : Addr} {C0 : String} {rest : List Value} (hd : decode D.cd pc = .ok (.invokevirtual ix, 3)) (hp : pc + 3 = pc')
    (w1 : (Jvm.Cond.methodLink D.y.cls ix Jvm.Stand.gcN).before g.a0 g.Z = true) (wd : (Jvm.Cond.declares Jvm.Stand.gcN).before g.a0 g.Z = true) (ws : (Jvm.Cond.selects C0 Jvm.Stand.gcN Jvm.Stand.gcN).before g.a0 g.Z = true) (w2 : (Jvm.Cond.instanceMethod Jvm.Stand.gcN).before g.a0 g.Z = true) (w3 : (Jvm.Cond.native Jvm.Stand.gcN).before g.a0 g.Z = true)
    (F : Al g H Lt fun h => Exa g.Z h b C0) (hm : ∃ (c : ClassId) (k : Class), g.Z.vm.findClass C0 = some c ∧ g.Z.vm.classes[c]? = some k ∧ k.mirror = some mir) (hsz : Ls.size = D.mx) (hW : (rest.map fun v => v.category).sum = W) (hf : 1 ≤ D.rm.frames) (hl : W + 14 ≤ D.rm.locals)
    (K : ∀ T', RH g D M T' H Lt cs ss → Fn g D M Q (T'.setTop (mkF M.m pc' Ls (.ref mir :: rest)))) : Fn g D M Q (T.setTop (mkF M.m pc Ls (.ref b :: rest))) := by
  subst hp
  obtain ⟨st, vm0, k0, locs, X, hS, hk, hZ, hown, hC, N, E0, hH⟩ := B
  obtain ⟨cB, kB, q1, q2, q3⟩ := isOf (s := M.s.setVm vm0) (T := T) hZ rfl (F _ _ E0 hH)
  obtain ⟨c, k, m1, m2, m3⟩ := hm
  obtain ⟨k', n1, n2⟩ := hZ.alike.2.2 _ _ m2
  have f1 : (M.s.setVm vm0).vm.findClass C0 = some c := by show vm0.findClass C0 = some c; rw [hZ.alike.findClass]; exact m1
  obtain ⟨vm1, X', stp⟩ := X.getClassOf st.2.1 hown (mvT hZ w1) (mvT hZ wd) (notFace_of_selects (args := #[]) (mvT hZ ws)) (mvT hZ ws) (mvT hZ w2) (mvT hZ w3) f1 (by rw [← Option.some.inj (q1.symm.trans f1)]; exact q3) n1 (mir := mir) (by rw [n2]; exact m3) (g := mkF M.m pc Ls (.ref b :: rest)) rfl (hsz.trans st.2.2.2.1.symm) rfl (hb st.2.2.1 hd) hf (by show 2 * 0 + _ + (nativeFrameWords "java/lang/Object" "getClass" 1 + 11) ≤ _; rw [hW]; show 2 * 0 + W + 14 ≤ _; omega)
  exact (K _ ⟨st, vm0, k0, locs, X', hS, hk, hZ, hown, hC, N, E0, hH⟩).go stp
theorem r_ldcM (B : RH g D M T H Lt cs ss) {ix : Nat} {C0 : String} {mir : Addr} (hd : decode D.cd pc = .ok (.ldc ix, 2)) (hp : pc + 2 = pc') (w : (Jvm.Cond.classLink D.y.cls ix C0).before g.a0 g.Z = true) (hm : ∃ (c : ClassId) (k : Class), g.Z.vm.findClass C0 = some c ∧ g.Z.vm.classes[c]? = some k ∧ k.mirror = some mir)
    (K : ∀ T', RH g D M T' H Lt cs ss → Fn g D M Q (T'.setTop (mkF M.m pc' Ls (.ref mir :: S)))) : Fn g D M Q (T.setTop (mkF M.m pc Ls S)) := by
  subst hp
  obtain ⟨st, vm0, k0, locs, X, hS, hk, hZ, hown, hC, N, E0, hH⟩ := B
  obtain ⟨c, k, m1, m2, m3⟩ := hm
  obtain ⟨k', n1, n2⟩ := hZ.alike.2.2 _ _ m2
  have f1 : (M.s.setVm vm0).vm.findClass C0 = some c := by show vm0.findClass C0 = some c; rw [hZ.alike.findClass]; exact m1
  have hm' : k'.mirror = some mir := by rw [n2]; exact m3
  obtain ⟨vm1, X', stp⟩ := X.ldcMirror st.2.1 hown (mvT hZ w) (a := mir) (by have f1' : vm0.findClass C0 = some c := f1; simp [Term.eval, f1', n1, hm']) (g := mkF M.m pc Ls S) rfl (hb st.2.2.1 hd)
  exact (K _ ⟨st, vm0, k0, locs, X', hS, hk, hZ, hown, hC, N, E0, hH⟩).go stp
/-! OWN WALKING KIT, part 8: inherited methods, nest mates (printed from kit4's rules). -/
theorem r_virtualUp (B : RH g D M T H Lt cs ss) {ix W cs' ss' : Nat} {y : MethodName} {C0 owner : String} {b : Addr} {argsL rest : List Value} {ps : List FieldType} {r : Option FieldType} (hd : decode D.cd pc = .ok (.invokevirtual ix, 3)) (hp : pc + 3 = pc')
    (w1 : (Jvm.Cond.methodLink D.y.cls ix y).before g.a0 g.Z = true) (wsm : (Jvm.Cond.sameMethod y.cls owner y.name y.desc).before g.a0 g.Z = true) (wd : (Jvm.Cond.declares ⟨owner, y.name, y.desc⟩).before g.a0 g.Z = true) (how : owner ≠ "java/lang/invoke/MethodHandle" ∧ owner ≠ "java/lang/invoke/VarHandle") (ws : (Jvm.Cond.selects C0 y D'.y).before g.a0 g.Z = true) (w2 : (Jvm.Cond.instanceMethod D'.y).before g.a0 g.Z = true) (w3 : (Jvm.Cond.initialized D'.y.cls).before g.a0 g.Z = true) (w4 : (Jvm.Cond.code D'.y D'.cd D'.mx D'.rt).before g.a0 g.Z = true)
    (F : Al g H Lt fun h => Exa g.Z h b C0) (C : Ct g D' as H Lt Q') (has : (.ref b :: argsL).toArray = as) (pd : parseMethodDescriptor y.desc = some ⟨ps, r⟩) (hlen : argsL.length = ps.length) (hst : S = argsL.reverse ++ .ref b :: rest)
    (hsz : Ls.size = D.mx) (hW : (rest.map fun v => v.category).sum = W) (ok : CallOK D D' W cs ss cs' ss')
    (K : ∀ T' v, Rn g D M T' (Q' v) cs' ss' → Fn g D M Q (T'.setTop (mkF M.m pc' Ls (v.toList ++ rest)))) : Fn g D M Q (T.setTop (mkF M.m pc Ls S)) := by
  obtain ⟨hf, hl, hc, hs, hc', hs'⟩ := ok
  subst hp hc hs
  obtain ⟨st, vm0, k0, locs, X, hS, hk, hZ, hown, hC, N, E0, hH⟩ := B
  obtain ⟨cB, kB, q1, q2, q3⟩ := isOf (s := M.s.setVm vm0) (T := T) hZ rfl (F _ _ E0 hH)
  obtain ⟨v, vm1, Bp, -, X', hS', hg', ⟨L, hQ, hL, hE, e1, e2, e3, hC'⟩, stp⟩ := X.virtualBackUpS st.2.1 hown (mvT hZ w1) (mvT hZ wsm) (mvT hZ wd) how (mvT hZ ws) (mvT hZ w2) (Ct.back (p := M.p) (e := M.e) (below := M.below) (s := M.s) (args := M.args) (len := 3) (Wt := W) C st.1 hZ w4 w3 hf hl hC.1 E0 hH) q1 q3 (g := mkF M.m pc Ls S) rfl (hsz.trans st.2.2.2.1.symm) (Steps.refl _) (argsL := argsL) (rest := rest) (lenOf pd hlen) hst (by show 2 * 0 + _ ≤ _; rw [hW]; omega) (hb st.2.2.1 hd) (fun _ _ => ⟨has, rfl, hc', hs'⟩)
  exact (K Bp.U v (Rn.after st hS hk hZ hown hC N X' hS' hg' hQ hL hE e1 e2 e3 hC')).go fun t => stp.trans
theorem r_specialN (B : RH g D M T H Lt cs ss) {ix W cs' ss' : Nat} {host : String} {a : Addr} {argsL rest : List Value} {ps : List FieldType} {r : Option FieldType} (hd : decode D.cd pc = .ok (.invokespecial ix, 3)) (hp : pc + 3 = pc') (hy1 : D'.y.name = "<init>") (hrt : D'.rt = none)
    (w1 : (Jvm.Cond.methodLinkNest D.y.cls ix D'.y host).before g.a0 g.Z = true) (w2 : (Jvm.Cond.instanceMethod D'.y).before g.a0 g.Z = true) (w3 : (Jvm.Cond.initialized D'.y.cls).before g.a0 g.Z = true) (w4 : (Jvm.Cond.code D'.y D'.cd D'.mx D'.rt).before g.a0 g.Z = true)
    (hy : D'.y.cls ≠ "java/lang/invoke/MethodHandle" ∧ D'.y.cls ≠ "java/lang/invoke/VarHandle") (C : Ct g D' as H Lt Q') (has : (.ref a :: argsL).toArray = as) (pd : parseMethodDescriptor D'.y.desc = some ⟨ps, r⟩) (hlen : argsL.length = ps.length) (hst : S = argsL.reverse ++ .ref a :: rest)
    (hsz : Ls.size = D.mx) (hW : (rest.map fun v => v.category).sum = W) (ok : CallOK D D' W cs ss cs' ss')
    (K : ∀ T' v, Rn g D M T' (Q' v) cs' ss' → Fn g D M Q (T'.setTop (mkF M.m pc' Ls (v.toList ++ rest)))) : Fn g D M Q (T.setTop (mkF M.m pc Ls S)) := by
  obtain ⟨hf, hl, hc, hs, hc', hs'⟩ := ok
  subst hp hc hs
  obtain ⟨st, vm0, k0, locs, X, hS, hk, hZ, hown, hC, N, E0, hH⟩ := B
  obtain ⟨v, vm1, Bp, -, X', hS', hg', ⟨L, hQ, hL, hE, e1, e2, e3, hC'⟩, stp⟩ := X.specialBackNestS st.2.1 hy1 hown (show (Jvm.Cond.methodLinkNest D.y.cls ix D'.y host).before M.args (M.s.setVm vm0) = true from (Cond.methodLinkNest_wide hZ w1 :)) (mvT hZ w2) (bytes := D'.cd) (maxL := D'.mx) (by rw [hrt] at w4; exact mvT hZ w4) hy (Ct.back (p := M.p) (e := M.e) (below := M.below) (s := M.s) (args := M.args) (len := 3) (Wt := W) C st.1 hZ w4 w3 hf hl hC.1 E0 hH) (g := mkF M.m pc Ls S) rfl (hsz.trans st.2.2.2.1.symm) (Steps.refl _) (a := a) (argsL := argsL) (rest := rest) (lenOf pd hlen) hst (by show 2 * 0 + _ ≤ _; rw [hW]; omega) (hb st.2.2.1 hd) (fun _ _ => ⟨has, rfl, hc', hs'⟩)
  exact (K Bp.U v (Rn.after st hS hk hZ hown hC N X' hS' hg' hQ hL hE e1 e2 e3 hC')).go fun t => stp.trans
/-! OWN WALKING KIT, part 9: old arrays (a static's): their length as the sheet's words say it. -/
theorem old_len {g : GG} {t : Term} {a : Addr} {ty : FieldType} {z : Int32} (e : t.eval g.a0 g.Z none [] g.Z = some (.ref a)) (h1 : (Jvm.Cond.arrayOf t ty).value g.a0 g.Z none g.Z [] = some true)
    (h3 : (Jvm.Cond.eq (.length t) (.int z)).value g.a0 g.Z none g.Z [] = some true) : ∃ c : Cell, Jvm.RoadKit.Arr g.Z g.Z.heap a c ty ∧ c.slots.size.toInt32 = z := by
  obtain ⟨c, A⟩ := Jvm.RoadKit.Arr.start e h1
  have hl := eqv_i (Term.int_eval z) h3
  obtain ⟨y, c2, q1, q2, q3⟩ := Term.length_spec hl
  cases e.symm.trans q1
  have hc : c2 = c := by
    have hA := A.1
    simp only [State.arrayAt?, hA, Option.bind_eq_bind, Option.bind_some] at q2
    cases hk : g.Z.vm.classes[c.cls]? with
    | none => simp [hk] at q2
    | some k =>
      simp only [hk, Option.bind_some] at q2
      split at q2
      · cases q2
      · split at q2
        · exact (Option.some.inj q2).symm
        · cases q2
  subst hc
  cases q3
  exact ⟨c2, A, rfl⟩
theorem r_alenO (B : RH g D M T H Lt cs ss) {a : Addr} {c : Cell} {ty : FieldType} {z : Int32} (hd : decode D.cd pc = .ok (.arraylength, 1)) (hp : pc + 1 = pc') (A : Jvm.RoadKit.Arr g.Z g.Z.heap a c ty) (hz : c.slots.size.toInt32 = z)
    (K : Fn g D M Q (T.setTop (mkF M.m pc' Ls (.int z :: S)))) : Fn g D M Q (T.setTop (mkF M.m pc Ls (.ref a :: S))) := by
  subst hp hz
  obtain ⟨st, vm0, k0, locs, X, hS, hk, hZ, hown, hC, N, E0, hH⟩ := B
  exact K.go fun t => X.arraylength st.2.1 (E0.2 _ _ A.1) (State.isArrayOf_alike (hZ.alike :) A.2.1) (g := mkF M.m pc Ls (.ref a :: S)) rfl rfl (hb st.2.2.1 hd) t
/-- instanceof answered no, over a chain of superclasses -/
theorem ns_root {Z : State} {a0 : Array Value} {O K : String} {n : Nat} (w : (Jvm.Cond.noSuperclass O).before a0 Z = true) (wk : (Jvm.Cond.instantiable K n).before a0 Z = true) (hn : O ≠ K) : NS Z O K := by
  obtain ⟨c, k, h1, h2, h3, -, -⟩ := Cond.noSuperclass_spec w
  obtain ⟨t, kt, t1, -⟩ := Cond.instantiable_spec wk
  have ne := ids_ne h1 t1 hn
  refine ⟨c, t, h1, t1, fun fuel => ?_⟩
  cases fuel with
  | zero => rfl
  | succ f => simp [Vm.isSubclassAux, ne, h2, h3]
theorem ins_chain {Z : State} {h : Heap} {a : Addr} {a0 : Array Value} {C S K : String} {n : Nat} (E : Exa Z h a C) (w : (Jvm.Cond.superclass C S).before a0 Z = true) (N : NS Z C K) (wk : (Jvm.Cond.instantiable K n).before a0 Z = true) (hn : C ≠ K) : Ins Z h a K false := by
  obtain ⟨cell, k, e1, e2, e3, e4, -⟩ := E
  obtain ⟨c, t, g1, g2, g3⟩ := N
  obtain ⟨t', kt, t1, t2, t3, t4, -⟩ := Cond.instantiable_spec wk
  obtain ⟨p, kc, kp, q1, q2, q3, q4, q5, q6, q7⟩ := Cond.superclass_spec e2 w
  cases g1.symm.trans e2
  cases g2.symm.trans t1
  have n1 := ids_ne e2 t1 hn
  have hi : kt.isInterface = false := (Bool.or_eq_false_iff.mp t4).1
  have hA : Z.vm.assignable cell.cls t = false := by
    show Z.vm.assignableAux (255 + 1) cell.cls t = false
    simp [Vm.assignableAux, n1, q2, t2, q5, t3, hi, Vm.isSubclass, g3]
  exact ⟨cell, t, e1, t1, by simp [hA]⟩
theorem aE {g : GG} {H : List Ent} {Lt : List SE} {i : Nat} {a : Addr} {ty : FieldType} {nm : String} {vs : List Value} (hi : H[i]? = some (a, .inr (ty, nm, vs))) (hn : nm ≠ "") : Al g H Lt fun h => Exa g.Z h a nm := fun vm h E P => by
  have I : Ary g.Z h a ty nm vs := (P.1 _ (List.mem_of_getElem? hi)).1
  obtain ⟨c, -, -, -, -, -, r6⟩ := I
  exact r6 hn
/-! OWN WALKING KIT, part 10 (printed by mk10.py). -/
theorem p_tswIn (B : RH g D M T H Lt cs ss) {k : Int32} {df lo hi off : Int} {offs : Array Int} {len : Nat} (hd : decode D.cd pc = .ok (.tableswitch df lo hi offs, len)) (hin : ¬ (k.toInt < lo ∨ k.toInt > hi)) (ho : offs[(k.toInt - lo).toNat]? = some off) (h0 : 0 ≤ (pc : Int) + off) (hp : ((pc : Int) + off).toNat = pc')
    (K : Fn g D M Q (T.setTop (mkF M.m pc' Ls S))) : Fn g D M Q (T.setTop (mkF M.m pc Ls (.int k :: S))) := by
  subst hp
  obtain ⟨st, vm0, k0, locs, X, hS, hk, hZ, hown, hC, N, E0, hH⟩ := B
  exact K.go fun t => X.tableswitchIn st.2.1 (g := mkF M.m pc Ls (.int k :: S)) rfl rfl (hb st.2.2.1 hd) hin ho h0 t
theorem p_tswOut (B : RH g D M T H Lt cs ss) {k : Int32} {df lo hi : Int} {offs : Array Int} {len : Nat} (hd : decode D.cd pc = .ok (.tableswitch df lo hi offs, len)) (hout : k.toInt < lo ∨ k.toInt > hi) (h0 : 0 ≤ (pc : Int) + df) (hp : ((pc : Int) + df).toNat = pc')
    (K : Fn g D M Q (T.setTop (mkF M.m pc' Ls S))) : Fn g D M Q (T.setTop (mkF M.m pc Ls (.int k :: S))) := by
  subst hp
  obtain ⟨st, vm0, k0, locs, X, hS, hk, hZ, hown, hC, N, E0, hH⟩ := B
  exact K.go fun t => X.tableswitchOut st.2.1 (g := mkF M.m pc Ls (.int k :: S)) rfl rfl (hb st.2.2.1 hd) hout h0 t
end Rules
def CtH (g : GG) (D : DD) (xt : List (Nat × Nat × Nat × Nat)) (as : Array Value) (H : List Ent) (Lt : List SE) (Q : Option Value → Vm → Heap → Prop) : Prop :=
  MetFree g.l D.y (head1 [Jvm.Cond.codeWith D.y D.cd D.mx D.rt xt] D.rm) (fun a U => a = as ∧ g.Z.Warmed39 U.vm ∧ CHv g.Z g.EL U.vm U.heap ∧ Ext g.Z.heap U.heap ∧ Hp g U.vm U.heap H Lt) (fun _ _ _ _ _ => True)
    (fun _ U o U' => ∃ v L, o = .returned v ∧ Q v U'.vm U'.heap ∧ Fr g.Z.heap.size L ∧ CHr g.Z g.EL U.vm U.heap U'.vm U'.heap ∧ Ext g.Z.heap U'.heap ∧ ReturnedEndW U o U' L D.rm.cells D.rm.slots)
section Rules
variable {g : GG} {D D' : DD} {M : MM} {T : State} {A A' : Vm → Heap → Prop} {cs ss : Nat} {Q Q' : Option Value → Vm → Heap → Prop} {pc pc' : Nat} {Ls Ls' : Array Slot} {S : List Value} {H H' : List Ent} {Lt Lt' : List SE} {as : Array Value} {ws : List Jvm.Cond}
theorem CtH.body {xt : List (Nat × Nat × Nat × Nat)} (W : GW g) (hpl : plainFor D.y = true) (ef : ∀ m, entryFrame m as D.mx = mkF m 0 Ls []) (K : ∀ M T, RH g D M T H Lt 0 0 → Fn g D M Q (T.setTop (mkF M.m 0 Ls []))) : CtH g D xt as H Lt Q := by
  refine MetFree.of_bodySF hpl hisWith ?_
  intro p e s m args below meth c s₁ Bd hml0 hP hK
  obtain ⟨rfl, hZ, hC, hE, hH⟩ := hP
  have hown : s.vm.findClass D.y.cls = some m.cls := findClass_of_methodNamed Bd.named
  have hnm := (name_of_methodNamed Bd.named Bd.method).1
  have X0 := Stand.of_body Bd
  have e0 : s₁.heap = s.heap := by rw [Bd.state]; rfl
  obtain ⟨t, v, L, h1, h2, h3, h4, h5, h6, h7, h8⟩ := K (p, e, s, m, args, below, meth, c) s₁ ⟨⟨W, Bd.exec, Bd.bytes, hml0, Bd.returns, Bd.notSynchronized, hnm⟩, s.vm, 0, [], X0, (State.WarmedH.refl s).since 0, Nat.zero_le _, hZ, hown, by rw [e0]; exact CHr.refl hC, Fr.nil _, by rw [e0]; exact hE, by rw [e0]; exact hH⟩
  exact ⟨t, _, castTop (ef m) h1, h2, h3, v, L, rfl, h4, h5, h6, h7, h8⟩
/-- where a call that has returned stands, read off its end -/
theorem landed {U s₂ : State} {f : JFrame} {mk : MethodId} {a : Array Value} {c : Code} {below : List Frame} {ig : Instr} {len k n : Nat} {v : Option Value} {L : List Loc} (hat : At U f.method c below) (hdc : decode c.code f.pc = .ok (ig, len)) (hr : ReturnedEndW (U.calling f mk a) (.returned v) s₂ L k n) (hend : Ended s₂ (U.setTop f).frames (.returned v)) :
    s₂ = (({ U with heap := s₂.heap, slotsUsed := s₂.slotsUsed } : State).setVm s₂.vm).setTop { f with pc := f.pc + len, stack := v.toList ++ f.stack } ∧ U.Warmed39 s₂.vm ∧ U.sameButNew ({ U with heap := s₂.heap, slotsUsed := s₂.slotsUsed } : State) L k n := by
  obtain ⟨f0, hf0⟩ := Option.isSome_iff_exists.mp hat.top
  obtain ⟨tl, htl⟩ := State.topJava?_eq_some.mp hf0
  have hU : U.calling f mk a = U.setFrames (.invoking mk a :: .java f :: tl) := by rw [State.calling_eq hat.top, htl]; rfl
  have hF : (U.setTop f).frames = .java f :: tl := by rw [State.frames_setTop' f hat.top, htl]; rfl
  rw [hU] at hr
  rw [hF] at hend
  obtain ⟨-, hw, -, hs, hrest⟩ := hr
  obtain ⟨c', i', len', hc', hd', hfr⟩ := hend
  have w : U.Warmed39 s₂.vm := hw
  have hcc : s₂.code? f.method = some c := by rw [State.code?_eq, w.alike.method?, ← State.code?_eq]; exact hat.code
  cases hc'.symm.trans hcc
  cases hdc.symm.trans hd'
  have hs' : ({ s₂ with vm := U.vm } : State) = { (U.setFrames (.invoking mk a :: .java f :: tl)).setFrames s₂.frames with heap := s₂.heap, slotsUsed := s₂.slotsUsed } := hs
  refine ⟨?_, w, ?_, hrest⟩
  · rw [State.setTop_of_frames _ (show (({ U with heap := s₂.heap, slotsUsed := s₂.slotsUsed } : State).setVm s₂.vm).frames = .java f0 :: tl from htl)]
    refine (show s₂ = ({ s₂ with vm := U.vm } : State).setVm s₂.vm from rfl).trans ?_
    rw [hs', hfr, State.setFrames_setFrames]
    rfl
  · obtain ⟨t, ht, -⟩ := State.frames_cons htl
    show ({ U with heap := s₂.heap, slotsUsed := s₂.slotsUsed } : State) = { U.setFrames U.frames with heap := s₂.heap, slotsUsed := s₂.slotsUsed }
    rw [State.setFrames_self ht]
theorem bsWith {l : Launch} {R : Room} {p : Program} {e : Env} {below : List Frame} {s : State} {sargs : Array Value} {y : MethodName} {len W : Nat} {xt : List (Nat × Nat × Nat × Nat)} {Pre : Pt → Array Value → Prop} {Post : Pt → Array Value → Option Value → Pt → Prop} {S : Spec} {P : Array Value → State → Prop} {K : Program → Env → List Frame → State → Array Value → Prop} {Q : Array Value → State → Outcome → State → Prop} {bytes : ByteArray} {maxL : Nat} {ret : Option FieldType} {E : Array Value → State → Outcome → State → List Loc → Nat → Nat → Prop}
    (hM : MetFree l y S P K Q) (hframes : S.room.frames + 1 ≤ R.frames) (hlocals : W + (maxL + 11) + S.room.locals ≤ R.locals)
    (hpre : ∀ m meth c (A : Pt) a, Stand p l e R s m sargs below meth c A.U A.locs A.cells A.slots → Pre A a → S.pre.before a A.U = true ∧ (Jvm.Cond.codeWith y bytes maxL ret xt).before a A.U = true ∧ (Jvm.Cond.initialized y.cls).before a A.U = true ∧ A.cells + S.room.cells ≤ R.cells ∧ A.slots + S.room.slots ≤ R.slots)
    (hP : ∀ m meth c (A : Pt) a (g : JFrame) mk, Stand p l e R s m sargs below meth c A.U A.locs A.cells A.slots → Pre A a → P a (A.U.calling g mk a))
    (hK : ∀ m meth c (A : Pt) a (g : JFrame) mk, Stand p l e R s m sargs below meth c A.U A.locs A.cells A.slots → Pre A a → K p e (A.U.setTop g).frames (A.U.calling g mk a) a)
    (hQ : ∀ a first o t, Q a first o t → ∃ L k n, ReturnedEndW first o t L k n ∧ E a first o t L k n)
    (hpost : ∀ m meth c (A : Pt) a (g : JFrame) mk v t L k n, Stand p l e R s m sargs below meth c A.U A.locs A.cells A.slots → Pre A a → Q a (A.U.calling g mk a) (.returned v) t → ReturnedEndW (A.U.calling g mk a) (.returned v) t L k n → E a (A.U.calling g mk a) (.returned v) t L k n →
      Post A a v ⟨(({ A.U with heap := t.heap, slotsUsed := t.slotsUsed } : State).setVm t.vm), A.locs ++ L, A.cells + k, A.slots + n⟩) : BackS l R p e below s sargs y len W Pre Post := by
  intro m meth c A f ig mk a X hfm hsz hdc hW hnm hpr
  obtain ⟨p1, p2, p3, p4, p5⟩ := hpre m meth c A a X hpr
  obtain ⟨mk', mY, cY, n1, n2, n3, -, n4, -, -, -, -⟩ := Cond.codeWith_spec p2
  cases n1.symm.trans hnm
  obtain ⟨kY, y1, -⟩ := className_of_methodNamed hnm
  subst hfm
  have hap := Spec.appliesLoose_calling (g := f) X.here hdc hnm y1 (Cond.initialized_spec (findClass_of_methodNamed hnm) y1 p3) (X.room_calling (g := f) (R' := S.room) hsz n2 n3 hframes (by rw [n4]; omega) p4 p5) p1
  obtain ⟨mid, hmid⟩ := X.here.above
  obtain ⟨o, s₂, st, -, hend, hq⟩ := Steps.callFree hM p X.admits X.cas X.clock (acts := []) (mid := .java f :: mid) (by rw [State.frames_setTop' f X.here.top, hmid]; rfl) hap (hP _ _ _ _ _ f mk X hpr) (hK _ _ _ _ _ f mk X hpr)
  obtain ⟨L, k, n, hre, hE⟩ := hQ _ _ _ _ hq
  obtain ⟨v, rfl⟩ := hre.1
  obtain ⟨e1, e2, e3⟩ := landed X.here hdc hre hend
  obtain ⟨X', hS⟩ := X.movedW ((X.here.setHeapUsed s₂.heap s₂.slotsUsed).setVm e2.alike) X.tail rfl rfl e2 hre.2.2.1 e3
  refine ⟨v, ⟨_, _, _, _⟩, X', hS, e3.2.1, hpost _ _ _ _ _ f mk v s₂ L k n X hpr hq hre hE, ?_⟩
  have st' : Steps p.tables e below (doInvoke e (A.U.setTop f) [] mk a).1 s₂ := st
  rw [e1] at st'
  exact st'
theorem CtH.back {xt : List (Nat × Nat × Nat × Nat)} {R : Room} {p : Program} {e : Env} {below : List Frame} {s : State} {args : Array Value} {vm0 : Vm} {h : Heap} {len Wt : Nat} (K : CtH g D' xt as H Lt Q') (W : GW g) (hZ : g.Z.Warmed39 vm0) (wc : (Jvm.Cond.codeWith D'.y D'.cd D'.mx D'.rt xt).before g.a0 g.Z = true) (wz : (Jvm.Cond.initialized D'.y.cls).before g.a0 g.Z = true)
    (hf : D'.rm.frames + 1 ≤ R.frames) (hl : Wt + (D'.mx + 11) + D'.rm.locals ≤ R.locals) (HC : CHv g.Z g.EL vm0 h) (E0 : Ext g.Z.heap h) (P : Hp g vm0 h H Lt) :
    BackS g.l R p e below (s.setVm vm0) args D'.y len Wt (fun A a => a = as ∧ A.U.heap = h ∧ A.cells + D'.rm.cells ≤ R.cells ∧ A.slots + D'.rm.slots ≤ R.slots)
      (fun A _ v B => ∃ L, Q' v B.U.vm B.U.heap ∧ Fr g.Z.heap.size L ∧ Ext g.Z.heap B.U.heap ∧ B.locs = A.locs ++ L ∧ B.cells = A.cells + D'.rm.cells ∧ B.slots = A.slots + D'.rm.slots ∧ CHr g.Z g.EL vm0 h B.U.vm B.U.heap) :=
  bsWith (xt := xt) (bytes := D'.cd) (maxL := D'.mx) (ret := D'.rt) (E := fun _ first o t L k n => k = D'.rm.cells ∧ n = D'.rm.slots ∧ (∃ v, o = .returned v ∧ Q' v t.vm t.heap) ∧ Fr g.Z.heap.size L ∧ Ext g.Z.heap t.heap ∧ CHr g.Z g.EL first.vm first.heap t.vm t.heap) K hf hl
    (fun m meth c A a Y hp => have hU : g.Z.Warmed39 A.U.vm := wtrans (s := s.setVm vm0) hZ Y.warmed
      ⟨by show (Jvm.Cond.and _ .tt).before a A.U = true; rw [Cond.before_and, mv hU wc]; rfl, mv hU wc, mv hU wz, hp.2.2.1, hp.2.2.2⟩)
    (fun m meth c A a g' mk Y hp => by
      have hat := CHv.at Y hZ W.2.1 HC
      have e1 : (A.U.calling g' mk a).heap = h := hp.2.1
      have e2 : (A.U.calling g' mk a).vm = A.U.vm := rfl
      refine ⟨hp.1, wtrans (s := s.setVm vm0) hZ Y.warmed, ?_, ?_, ?_⟩
      · rw [e1, e2]; exact hat.1
      · rw [e1]; exact E0
      · rw [e1, e2]; exact P.move hat (ext_rfl _))
    (fun _ _ _ _ _ _ _ _ _ => trivial)
    (fun _ _ _ _ ⟨v, L, h1, h2, h3, h4, h5, h6⟩ => ⟨L, _, _, h6, rfl, rfl, ⟨v, h1, h2⟩, h3, h5, h4⟩)
    (fun m meth c A a g' mk v t L k n Y hp _ _ ⟨e1, e2, ⟨v', e3, e4⟩, e5, e6, e7⟩ => by
      cases e3; subst e1 e2
      refine ⟨L, e4, e5, e6, rfl, rfl, rfl, (CHv.at Y hZ W.2.1 HC).trans ?_⟩
      rw [← hp.2.1]; exact e7)
theorem r_ifaceH {xt : List (Nat × Nat × Nat × Nat)} (B : RH g D M T H Lt cs ss) {ix cnt W cs' ss' : Nat} {y : MethodName} {C0 : String} {b : Addr} {argsL rest : List Value} {ps : List FieldType} {r : Option FieldType} (hd : decode D.cd pc = .ok (.invokeinterface ix cnt, 5)) (hp : pc + 5 = pc')
    (w1 : (Jvm.Cond.methodLink D.y.cls ix y).before g.a0 g.Z = true) (wd : (Jvm.Cond.declares y).before g.a0 g.Z = true) (wf : (Jvm.Cond.interfaceMethod y.cls y.cls y.name y.desc).before g.a0 g.Z = true) (hfa : ((Jvm.Cond.interfaceMethod y.cls y.cls y.name y.desc).onTables && (Jvm.Cond.interfaceMethod y.cls y.cls y.name y.desc).keepsFace) = true) (ws : (Jvm.Cond.selects C0 y D'.y).before g.a0 g.Z = true) (w2 : (Jvm.Cond.instanceMethod D'.y).before g.a0 g.Z = true)
    (wp : (Jvm.Cond.publicMethod D'.y).before g.a0 g.Z = true) (wu : (Jvm.Cond.unhidden C0 y.name y.desc).before g.a0 g.Z = true) (wk : (Jvm.Cond.castable C0 y.cls).before g.a0 g.Z = true)
    (w3 : (Jvm.Cond.initialized D'.y.cls).before g.a0 g.Z = true) (w4 : (Jvm.Cond.codeWith D'.y D'.cd D'.mx D'.rt xt).before g.a0 g.Z = true)
    (hy : y.cls ≠ "java/lang/invoke/MethodHandle" ∧ y.cls ≠ "java/lang/invoke/VarHandle") (F : Al g H Lt fun h => Exa g.Z h b C0) (C : CtH g D' xt as H Lt Q') (has : (.ref b :: argsL).toArray = as) (pd : parseMethodDescriptor y.desc = some ⟨ps, r⟩) (hlen : argsL.length = ps.length) (hst : S = argsL.reverse ++ .ref b :: rest)
    (hsz : Ls.size = D.mx) (hW : (rest.map fun v => v.category).sum = W) (ok : CallOK D D' W cs ss cs' ss')
    (K : ∀ T' v, Rn g D M T' (Q' v) cs' ss' → Fn g D M Q (T'.setTop (mkF M.m pc' Ls (v.toList ++ rest)))) : Fn g D M Q (T.setTop (mkF M.m pc Ls S)) := by
  obtain ⟨hf, hl, hc, hs, hc', hs'⟩ := ok
  subst hp hc hs
  obtain ⟨st, vm0, k0, locs, X, hS, hk, hZ, hown, hC, N, E0, hH⟩ := B
  obtain ⟨cB, kB, q1, q2, q3⟩ := isOf (s := M.s.setVm vm0) (T := T) hZ rfl (F _ _ E0 hH)
  obtain ⟨v, vm1, Bp, -, X', hS', hg', ⟨L, hQ, hL, hE, e1, e2, e3, hC'⟩, stp⟩ := X.interfaceBackS st.2.1 hown (mvT hZ w1) (mvT hZ wd) (mvT hZ wf hfa) (mvT hZ ws) (mvT hZ w2) (mvT hZ wp) (mvT hZ wu) (mvT hZ wk) hy (CtH.back (p := M.p) (e := M.e) (below := M.below) (s := M.s) (args := M.args) (len := 5) (Wt := W) C st.1 hZ w4 w3 hf hl hC.1 E0 hH) q1 q2 q3 (g := mkF M.m pc Ls S) rfl (hsz.trans st.2.2.2.1.symm) (Steps.refl _) (argsL := argsL) (rest := rest) (lenOf pd hlen) hst (by show 2 * 0 + _ ≤ _; rw [hW]; omega) (hb st.2.2.1 hd) (fun _ _ => ⟨has, rfl, hc', hs'⟩)
  exact (K Bp.U v (Rn.after st hS hk hZ hown hC N X' hS' hg' hQ hL hE e1 e2 e3 hC')).go fun t => stp.trans
theorem r_privateS (B : RH g D M T H Lt cs ss) {ix W cs' ss' : Nat} {C0 C1 : String} {b : Addr} {argsL rest : List Value} {ps : List FieldType} {r : Option FieldType} (hd : decode D.cd pc = .ok (.invokevirtual ix, 3)) (hp : pc + 3 = pc')
    (w1 : (Jvm.Cond.methodLink D.y.cls ix D'.y).before g.a0 g.Z = true) (wp : (Jvm.Cond.privateMethod D'.y).before g.a0 g.Z = true) (wi : (Jvm.Cond.selects C1 D'.y D'.y).before g.a0 g.Z = true) (w2 : (Jvm.Cond.instanceMethod D'.y).before g.a0 g.Z = true) (w3 : (Jvm.Cond.initialized D'.y.cls).before g.a0 g.Z = true) (w4 : (Jvm.Cond.code D'.y D'.cd D'.mx D'.rt).before g.a0 g.Z = true)
    (hy : D'.y.cls ≠ "java/lang/invoke/MethodHandle" ∧ D'.y.cls ≠ "java/lang/invoke/VarHandle") (F : Al g H Lt fun h => Exa g.Z h b C0) (C : Ct g D' as H Lt Q') (has : (.ref b :: argsL).toArray = as) (pd : parseMethodDescriptor D'.y.desc = some ⟨ps, r⟩) (hlen : argsL.length = ps.length) (hst : S = argsL.reverse ++ .ref b :: rest)
    (hsz : Ls.size = D.mx) (hW : (rest.map fun v => v.category).sum = W) (ok : CallOK D D' W cs ss cs' ss')
    (K : ∀ T' v, Rn g D M T' (Q' v) cs' ss' → Fn g D M Q (T'.setTop (mkF M.m pc' Ls (v.toList ++ rest)))) : Fn g D M Q (T.setTop (mkF M.m pc Ls S)) := by
  obtain ⟨hf, hl, hc, hs, hc', hs'⟩ := ok
  subst hp hc hs
  obtain ⟨st, vm0, k0, locs, X, hS, hk, hZ, hown, hC, N, E0, hH⟩ := B
  obtain ⟨cB, kB, q1, q2, cell, c1, c2, c3⟩ := isOf (s := M.s.setVm vm0) (T := T) hZ rfl (F _ _ E0 hH)
  obtain ⟨c2, r2, m2, -, -, t3, -, kt, t2, t4⟩ := Cond.selects_spec (args := M.args) (s := M.s.setVm vm0) (mvT hZ wi)
  have t1 := findClass_of_methodNamed t3
  have hpv := Cond.privateMethod_at (args := M.args) (s := M.s.setVm vm0) (mvT hZ wp)
  have hse := selects_self_of_private (s := M.s.setVm vm0) (args := M.args) t1 t2 t4 hpv (mvT hZ w2) hy
  obtain ⟨v, vm1, Bp, -, X', hS', hg', ⟨L, hQ, hL, hE, e1, e2, e3, hC'⟩, stp⟩ := X.privateBackS st.2.1 hown (mvT hZ w1) (mvT hZ w2) hse hpv (mvT hZ w4) hy (Ct.back (p := M.p) (e := M.e) (below := M.below) (s := M.s) (args := M.args) (len := 3) (Wt := W) C st.1 hZ w4 w3 hf hl hC.1 E0 hH) (g := mkF M.m pc Ls S) rfl (hsz.trans st.2.2.2.1.symm) (Steps.refl _) c1 (fun q e => by rw [e] at c3; cases c3) (argsL := argsL) (rest := rest) (lenOf pd hlen) hst (by show 2 * 0 + _ ≤ _; rw [hW]; omega) (hb st.2.2.1 hd) (fun _ _ => ⟨has, rfl, hc', hs'⟩)
  exact (K Bp.U v (Rn.after st hS hk hZ hown hC N X' hS' hg' hQ hL hE e1 e2 e3 hC')).go fun t => stp.trans
theorem same_self {s : State} {args : Array Value} {x y z : MethodName} {C : String} (wi : (Jvm.Cond.instanceMethod y).before args s = true) (ws : (Jvm.Cond.selects C x z).before args s = true) (hz : z.cls = y.cls) (hy : y.cls ≠ "java/lang/invoke/MethodHandle" ∧ y.cls ≠ "java/lang/invoke/VarHandle") : (Jvm.Cond.sameMethod y.cls y.cls y.name y.desc).before args s = true := by
  obtain ⟨mk, methM, hn, -, -, -⟩ := Cond.instanceMethod_spec wi
  have hf := State.methodFound?_of_named hn hy
  obtain ⟨c2, r2, m2, -, -, t3, -, kt, t2, t4⟩ := Cond.selects_spec ws
  have h1 := findClass_of_methodNamed hn
  have h2 := findClass_of_methodNamed t3
  rw [hz] at h2
  have e : m2.cls = mk.cls := Option.some.inj (h2.symm.trans h1)
  rw [e] at t2
  have hn' : s.methodNamed? ⟨y.cls, y.name, y.desc⟩ = some mk := hn
  simp [Cond.before, Cond.holds, Cond.value, h1, hf, hn', t2, t4]
theorem nf_mate {s : State} {args : Array Value} {x y z : MethodName} {C : String} (ws : (Jvm.Cond.selects C x z).before args s = true) (hz : z.cls = y.cls) : NotFace s y := fun r0 h0 => by
  obtain ⟨c2, r2, m2, -, -, t3, -, kt, t2, t4⟩ := Cond.selects_spec ws
  have h1 := findClass_of_methodNamed h0
  have h2 := findClass_of_methodNamed t3
  rw [hz] at h2
  have e : m2.cls = r0.cls := Option.some.inj (h2.symm.trans h1)
  rw [e] at t2
  exact ⟨kt, t2, t4⟩
theorem r_super (B : RH g D M T H Lt cs ss) {ix W cs' ss' : Nat} {a : Addr} {C0 : String} {argsL rest : List Value} {ps : List FieldType} {r : Option FieldType} (hd : decode D.cd pc = .ok (.invokespecial ix, 3)) (hp : pc + 3 = pc') (hy1 : D'.y.name ≠ "<init>") (ws : (Jvm.Cond.sameMethod D'.y.cls D'.y.cls D'.y.name D'.y.desc).before g.a0 g.Z = true) (wu : (Jvm.Cond.superclass D.y.cls D'.y.cls).before g.a0 g.Z = true) (F : Al g H Lt fun h => Exa g.Z h a C0)
    (w1 : (Jvm.Cond.methodLink D.y.cls ix D'.y).before g.a0 g.Z = true) (w2 : (Jvm.Cond.instanceMethod D'.y).before g.a0 g.Z = true) (w3 : (Jvm.Cond.initialized D'.y.cls).before g.a0 g.Z = true) (w4 : (Jvm.Cond.code D'.y D'.cd D'.mx D'.rt).before g.a0 g.Z = true)
    (hy : D'.y.cls ≠ "java/lang/invoke/MethodHandle" ∧ D'.y.cls ≠ "java/lang/invoke/VarHandle") (C : Ct g D' as H Lt Q') (has : (.ref a :: argsL).toArray = as) (pd : parseMethodDescriptor D'.y.desc = some ⟨ps, r⟩) (hlen : argsL.length = ps.length) (hst : S = argsL.reverse ++ .ref a :: rest)
    (hsz : Ls.size = D.mx) (hW : (rest.map fun v => v.category).sum = W) (ok : CallOK D D' W cs ss cs' ss')
    (K : ∀ T' v, Rn g D M T' (Q' v) cs' ss' → Fn g D M Q (T'.setTop (mkF M.m pc' Ls (v.toList ++ rest)))) : Fn g D M Q (T.setTop (mkF M.m pc Ls S)) := by
  obtain ⟨hf, hl, hc, hs, hc', hs'⟩ := ok
  subst hp hc hs
  obtain ⟨st, vm0, k0, locs, X, hS, hk, hZ, hown, hC, N, E0, hH⟩ := B
  obtain ⟨v, vm1, Bp, -, X', hS', hg', ⟨L, hQ, hL, hE, e1, e2, e3, hC'⟩, stp⟩ := superBackS X st.2.1 hZ hown w1 ws w2 wu hy1 (Ct.back (p := M.p) (e := M.e) (below := M.below) (s := M.s) (args := M.args) (len := 3) (Wt := W) C st.1 hZ w4 w3 hf hl hC.1 E0 hH) rfl (Ins.self (F _ _ E0 hH)) (g := mkF M.m pc Ls S) rfl (hsz.trans st.2.2.2.1.symm) w4 (argsL := argsL) (rest := rest) (lenOf pd hlen) hst (by show 2 * 0 + _ ≤ _; rw [hW]; omega) (hb st.2.2.1 hd) (fun _ _ => ⟨has, rfl, hc', hs'⟩)
  exact (K Bp.U v (Rn.after st hS hk hZ hown hC N X' hS' hg' hQ hL hE e1 e2 e3 hC')).go fun t => stp.trans
theorem Rn.perm (B : RH g D M T H Lt cs ss) (q : H.Perm H') : RH g D M T H' Lt cs ss := B.map fun _ _ _ P => P.perm q
theorem Rn.sub (B : RH g D M T H Lt cs ss) (q : H'.Sublist H) : RH g D M T H' Lt cs ss := B.map fun _ _ _ P => P.sub q
theorem Rn.fact {P : Prop} (B : RH g D M T H Lt cs ss) (q : ∀ vm h, Ext g.Z.heap h → Hp g vm h H Lt → P) : P := by
  obtain ⟨st, vm0, k0, locs, X, hS, hk, hZ, hown, hC, N, E0, hH⟩ := B
  exact q _ _ E0 hH
theorem Rn.fr (B : RH g D M T H Lt cs ss) (i : Nat) {x : Ent} (hi : H[i]? = some x) : RH g D M T (x :: H.eraseIdx i) Lt cs ss := B.map fun _ _ _ P => P.front hi
theorem Rn.dl (B : RH g D M T H Lt cs ss) (i : Nat) : RH g D M T (H.eraseIdx i) Lt cs ss := B.map fun _ _ _ P => P.del i
def StrIn (Lt : List SE) (x : Addr) : Prop := ∃ (b : Addr) (cd : Int32) (vs : List Value), (x, b, cd, vs) ∈ Lt
theorem sI {a : Addr} (hm : StrIn Lt a) : Al g H Lt fun h => Exa g.Z h a "java/lang/String" := fun vm h E P => by
  obtain ⟨b, cd, vs, hm⟩ := hm
  exact sE hm vm h E P
theorem ns_root2 {Z : State} {a0 : Array Value} {O K C : String} {y z : MethodName} (w : (Jvm.Cond.noSuperclass O).before a0 Z = true) (ws : (Jvm.Cond.selects C y z).before a0 Z = true) (hz : z.cls = K) (hn : O ≠ K) : NS Z O K := by
  obtain ⟨c, k, h1, h2, h3, -, -⟩ := Cond.noSuperclass_spec w
  obtain ⟨c2, r2, m2, -, -, t3, -, kt, t2, t4⟩ := Cond.selects_spec ws
  have t1 := findClass_of_methodNamed t3
  rw [hz] at t1
  have ne := ids_ne h1 t1 hn
  refine ⟨c, m2.cls, h1, t1, fun fuel => ?_⟩
  cases fuel with
  | zero => rfl
  | succ f => simp [Vm.isSubclassAux, ne, h2, h3]
theorem ins_chain2 {Z : State} {h : Heap} {a : Addr} {a0 : Array Value} {C S K C' : String} {y z : MethodName} (E : Exa Z h a C) (w : (Jvm.Cond.superclass C S).before a0 Z = true) (N : NS Z C K) (ws : (Jvm.Cond.selects C' y z).before a0 Z = true) (hz : z.cls = K) (hn : C ≠ K) : Ins Z h a K false := by
  obtain ⟨cell, k, e1, e2, e3, e4, -⟩ := E
  obtain ⟨c, t, g1, g2, g3⟩ := N
  obtain ⟨c2, r2, m2, -, -, t3, -, kt, t2, t4⟩ := Cond.selects_spec ws
  have t1 := findClass_of_methodNamed t3
  rw [hz] at t1
  obtain ⟨p, kc, kp, q1, q2, q3, q4, q5, q6, q7⟩ := Cond.superclass_spec e2 w
  cases g1.symm.trans e2
  cases g2.symm.trans t1
  have n1 := ids_ne e2 t1 hn
  have hA : Z.vm.assignable cell.cls m2.cls = false := by
    show Z.vm.assignableAux (255 + 1) cell.cls m2.cls = false
    cases hk : kt.kind <;> simp [Vm.assignableAux, n1, q2, t2, q5, hk, t4, Vm.isSubclass, g3]
  exact ⟨cell, _, e1, t1, by simp [hA]⟩
theorem pm1 {α : Type} (A B : List α) {R : List α} : (A ++ (B ++ R)).Perm (B ++ (A ++ R)) := List.perm_append_comm_assoc A B R
theorem pm2 {α : Type} (A B C : List α) {R : List α} : (A ++ (B ++ (C ++ R))).Perm (C ++ (A ++ (B ++ R))) := ((pm1 B C).append_left A).trans (pm1 A C)
theorem pm3 {α : Type} (A B C E : List α) {R : List α} : (A ++ (B ++ (C ++ (E ++ R)))).Perm (E ++ (A ++ (B ++ (C ++ R)))) := ((pm2 B C E).append_left A).trans (pm1 A E)
theorem Kv1 {A' : Vm → Heap → Prop} {rest : List Value} {x : Value} (K : ∀ T', Rn g D M T' A' cs ss → Fn g D M Q (T'.setTop (mkF M.m pc Ls (x :: rest)))) : ∀ T' v, Rn g D M T' (fun vm h => v = some x ∧ A' vm h) cs ss → Fn g D M Q (T'.setTop (mkF M.m pc Ls (v.toList ++ rest))) := by
  intro T' v B
  obtain ⟨rfl, B'⟩ := Rn.and B
  exact K T' B'
theorem Kv0 {A' : Vm → Heap → Prop} {rest : List Value} (K : ∀ T', Rn g D M T' A' cs ss → Fn g D M Q (T'.setTop (mkF M.m pc Ls rest))) : ∀ T' v, Rn g D M T' (fun vm h => v = none ∧ A' vm h) cs ss → Fn g D M Q (T'.setTop (mkF M.m pc Ls (v.toList ++ rest))) := by
  intro T' v B
  obtain ⟨rfl, B'⟩ := Rn.and B
  exact K T' B'
theorem efr {as : Array Value} {mx : Nat} {L : Array Slot} (h : (entryFrame ⟨0, 0⟩ as mx).locals = L) : ∀ m, entryFrame m as mx = mkF m 0 L [] := fun m => by subst h; rfl
theorem Kex {α : Type} {P : α → Option Value → Vm → Heap → Prop} {rest : List Value} (K : ∀ x, ∀ T' v, Rn g D M T' (P x v) cs ss → Fn g D M Q (T'.setTop (mkF M.m pc Ls (v.toList ++ rest)))) : ∀ T' v, Rn g D M T' (fun vm h => ∃ x, P x v vm h) cs ss → Fn g D M Q (T'.setTop (mkF M.m pc Ls (v.toList ++ rest))) := by
  intro T' v B
  obtain ⟨x, B'⟩ := Rn.ex B
  exact K x T' v B'
end Rules
theorem nar_ref {t : FieldType} {v : Value} (h : v.isRef = true) (ht : t.isReference = true) : narrow t v = v := by cases t <;> first | (cases v <;> first | rfl | (cases h; done)) | (cases ht; done)
theorem fit_ref {t : FieldType} {v : Value} (h : v.isRef = true) (ht : t.isReference = true) : fits t v = true := by cases t <;> first | (cases v <;> first | rfl | (cases h; done)) | (cases ht; done)
theorem cat_ref {v : Value} (h : v.isRef = true) : v.category = 1 := Jvm.Free.XT.cat1 h
theorem ins_no {Z : State} {h : Heap} {a : Addr} {a0 : Array Value} {C S K : String} {n : Nat} (E : Exa Z h a C) (w : (Jvm.Cond.superclass C S).before a0 Z = true) (w0 : (Jvm.Cond.noSuperclass S).before a0 Z = true) (wi : (Jvm.Cond.instantiable K n).before a0 Z = true) (h1 : C ≠ K) (h2 : S ≠ K) : Ins Z h a K false := by
  obtain ⟨cell, k, e1, e2, e3, e4, -⟩ := E
  obtain ⟨t, kt, t1, t2, t3, t4, -⟩ := Cond.instantiable_spec wi
  obtain ⟨p, kc, kp, q1, q2, q3, q4, q5, q6, q7⟩ := Cond.superclass_spec e2 w
  obtain ⟨p', kp', r1, r2, r3, r4, r5⟩ := Cond.noSuperclass_spec w0
  cases q1.symm.trans r1
  have n1 := ids_ne e2 t1 h1
  have n2 := ids_ne r1 t1 h2
  have hi : kt.isInterface = false := (Bool.or_eq_false_iff.mp t4).1
  have hs0 : ∀ fuel, Z.vm.isSubclassAux fuel p t = false := fun fuel => by
    cases fuel with
    | zero => rfl
    | succ f => simp [Vm.isSubclassAux, n2, r2, r3]
  have hs : ∀ fuel, Z.vm.isSubclassAux fuel cell.cls t = false := fun fuel => by
    cases fuel with
    | zero => rfl
    | succ f => simp [Vm.isSubclassAux, n1, q2, q4, hs0]
  have hA : Z.vm.assignable cell.cls t = false := by
    show Z.vm.assignableAux (255 + 1) cell.cls t = false
    simp [Vm.assignableAux, n1, q2, t2, q5, t3, hi, Vm.isSubclass, hs]
  exact ⟨cell, t, e1, t1, by simp [hA]⟩
theorem tl1 {α : Type} {a : α} {l : List α} : ∀ y ∈ l, y ∈ a :: l := fun _ h => List.mem_cons_of_mem _ h
theorem tl2 {α : Type} {a b : α} {l : List α} : ∀ y ∈ l, y ∈ a :: b :: l := fun _ h => List.mem_cons_of_mem _ (tl1 _ h)
theorem tlm {α : Type} {a b : α} {l : List α} : ∀ y ∈ a :: l, y ∈ a :: b :: l := fun _ h => (List.mem_cons.mp h).elim (fun e => e ▸ List.mem_cons_self ..) fun h => List.mem_cons_of_mem _ (tl1 _ h)
theorem tlh {α : Type} {a : α} {l : List α} (m : a ∈ l) : ∀ y ∈ a :: l, y ∈ l := fun _ h => (List.mem_cons.mp h).elim (fun e => e ▸ m) id
theorem Hp.nil {g : GG} {vm : Vm} {h : Heap} : Hp g vm h [] [] := ⟨nofun, List.nodup_nil, nofun, nofun⟩

abbrev sn0 := "com/example/credence/credence/gateway/EventStream$Event"
abbrev sn1 := "java/lang/AbstractStringBuilder"
abbrev sn2 := "com/example/credence/credence/gateway/EventWithDataPinLaw"
abbrev sn3 := "java/util/ImmutableCollections$List12"
abbrev sn4 := "java/util/ImmutableCollections$ListItr"
abbrev sn5 := "java/util/ImmutableCollections$ListN"
abbrev sn6 := "java/util/ImmutableCollections$AbstractImmutableList"
abbrev sn7 := "java/lang/StringBuilder"
abbrev sn8 := "java/util/ImmutableCollections"
abbrev sn9 := "(I)Ljava/lang/Object;"
abbrev sn10 := "(Ljava/lang/String;)Lcom/example/credence/credence/gateway/EventStream$Event;"
abbrev sn11 := "(Ljava/lang/Object;)Z"
abbrev sn12 := "(Ljava/util/Collection;)Ljava/util/List;"
abbrev sn13 := "java/util/ImmutableCollections$AbstractImmutableCollection"
abbrev sn14 := "([Ljava/lang/Object;)Ljava/util/List;"
abbrev sn15 := "(Ljava/lang/String;)Ljava/lang/StringBuilder;"
abbrev sn16 := "(Ljava/util/ArrayList;Ljava/lang/String;ZZLjava/lang/String;)Z"
abbrev sn17 := "()[Ljava/lang/Object;"
abbrev sn18 := "(Ljava/lang/String;)Ljava/lang/AbstractStringBuilder;"
abbrev sn19 := "([Ljava/lang/Object;ILjava/lang/Class;)[Ljava/lang/Object;"
abbrev sn20 := "java/lang/StringLatin1"
abbrev sn21 := "java/lang/StringUTF16"
abbrev sn22 := "java/util/AbstractCollection"
abbrev sn23 := "(Ljava/lang/AbstractStringBuilder;Ljava/lang/Void;)V"
abbrev sn24 := "()Ljava/util/Iterator;"
abbrev sn25 := "(Ljava/lang/Object;)Ljava/lang/Object;"
abbrev sn26 := "(Ljava/lang/String;)Z"
abbrev sn27 := "java/util/AbstractList"
abbrev sn28 := "(Ljava/lang/Object;[Ljava/lang/Object;I)V"
abbrev sn29 := "([Ljava/lang/Object;I)[Ljava/lang/Object;"
abbrev sn30 := "(Ljava/lang/Object;Ljava/lang/Object;)V"
abbrev sn31 := "java/util/Collection"
abbrev sn32 := "(Ljava/util/List;Ljava/util/ArrayList;)Z"
abbrev sn33 := "(IILjava/util/function/BiFunction;)I"
abbrev sn34 := "(Ljava/lang/Object;ILjava/lang/Object;II)V"
abbrev sn35 := "()Ljava/lang/Object;"
abbrev sn36 := "jdk/internal/util/Preconditions"
abbrev sn37 := "jdk/internal/util/ArraysSupport"
abbrev sn38 := "Ljava/util/ImmutableCollections$ListN;"
abbrev sn39 := "(Ljava/lang/StringBuilder;)V"
abbrev sn40 := "(ILjava/lang/String;)V"
abbrev sn41 := "(Ljava/lang/String;I)Z"
abbrev sn42 := "()Ljava/lang/String;"
abbrev sn43 := "(Ljava/lang/String;)V"
abbrev sn44 := "ensureCapacityInternal"
abbrev sn45 := "java/util/function/BiFunction"
abbrev sn46 := "([Ljava/lang/Object;Z)V"
abbrev sn47 := "(I)[Ljava/lang/Object;"
abbrev sn48 := "(C)Ljava/lang/String;"
abbrev sn49 := "(Ljava/lang/Object;)V"
abbrev sn50 := "([CIILjava/lang/Void;)V"
abbrev sn51 := "(Ljava/util/List;I)V"
abbrev sn52 := "(IC)Ljava/lang/String;"
abbrev sn53 := "DEFAULTCAPACITY_EMPTY_ELEMENTDATA"
abbrev sn54 := "java/io/Serializable"
abbrev sn55 := "java/lang/CharSequence"
abbrev sn56 := "java/util/RandomAccess"
abbrev sn57 := "java/lang/Comparable"
abbrev sn58 := "java/lang/Appendable"
abbrev HW (g : GG) (c : Jvm.Cond) : Prop := c.before g.a0 g.Z = true
theorem gw {g : GG} (W : GW g) (i : Nat) {c : Jvm.Cond} (h : tables_1[i]? = some c) : HW g c := W.1 _ (List.mem_of_getElem? h)
theorem W0 {g} (W : GW g) : HW g (.constant sn2 7 (2147483647 : Int32)) := gw W 0 rfl
theorem W1 {g} (W : GW g) : HW g (.methodLink sn2 8 ⟨sn2, "line", sn52⟩) := gw W 1 rfl
theorem W2 {g} (W : GW g) : HW g (.static ⟨sn2, "line", sn52⟩) := gw W 2 rfl
theorem W3 {g} (W : GW g) : HW g (.initialized sn2) := gw W 3 rfl
theorem W4 {g} (W : GW g) : HW g (.code ⟨sn2, "line", sn52⟩ method_3_code 2 (Option.some (FieldType.object "java/lang/String"))) := gw W 4 rfl
theorem W5 {g} (W : GW g) : HW g (.classLink sn2 17 "java/lang/String") := gw W 5 rfl
theorem W6 {g} (W : GW g) : HW g (.instantiable "java/lang/String" 4) := gw W 6 rfl
theorem W7 {g} (W : GW g) : HW g (.initialized "java/lang/String") := gw W 7 rfl
theorem W8 {g} (W : GW g) : HW g (.arrayClass FieldType.char) := gw W 8 rfl
theorem W9 {g} (W : GW g) : HW g (.methodLink sn2 22 ⟨"java/lang/String", "<init>", "([C)V"⟩) := gw W 9 rfl
theorem W10 {g} (W : GW g) : HW g (.instanceMethod ⟨"java/lang/String", "<init>", "([C)V"⟩) := gw W 10 rfl
theorem W11 {g} (W : GW g) : HW g (.code ⟨"java/lang/String", "<init>", "([C)V"⟩ jdk_42_method_3_code 2 (Option.none : Option FieldType)) := gw W 11 rfl
theorem W12 {g} (W : GW g) : HW g (.methodLink "java/lang/String" 27 ⟨"java/lang/String", "<init>", sn50⟩) := gw W 12 rfl
theorem W13 {g} (W : GW g) : HW g (.instanceMethod ⟨"java/lang/String", "<init>", sn50⟩) := gw W 13 rfl
theorem W15 {g} (W : GW g) : HW g (.code ⟨"java/lang/String", "<init>", sn50⟩ jdk_42_method_149_code 6 (Option.none : Option FieldType)) := gw W 15 rfl
theorem W16 {g} (W : GW g) : HW g (.methodLink "java/lang/String" 1 ⟨"java/lang/Object", "<init>", "()V"⟩) := gw W 16 rfl
theorem W17 {g} (W : GW g) : HW g (.instanceMethod ⟨"java/lang/Object", "<init>", "()V"⟩) := gw W 17 rfl
theorem W18 {g} (W : GW g) : HW g (.code ⟨"java/lang/Object", "<init>", "()V"⟩ object_method_1_code 1 (Option.none : Option FieldType)) := gw W 18 rfl
theorem W19 {g} (W : GW g) : HW g (.fieldLink "java/lang/String" 38 "java/lang/String" "COMPACT_STRINGS" "Z") := gw W 19 rfl
theorem W20 {g} (W : GW g) : HW g (.methodLink "java/lang/String" 177 ⟨sn21, "compress", "([CII)[B"⟩) := gw W 20 rfl
theorem W21 {g} (W : GW g) : HW g (.static ⟨sn21, "compress", "([CII)[B"⟩) := gw W 21 rfl
theorem W22 {g} (W : GW g) : HW g (.initialized sn21) := gw W 22 rfl
theorem W23 {g} (W : GW g) : HW g (.code ⟨sn21, "compress", "([CII)[B"⟩ jdk_52_method_16_code 6 (Option.some (FieldType.array FieldType.byte))) := gw W 23 rfl
theorem W24 {g} (W : GW g) : HW g (.arrayClass FieldType.byte) := gw W 24 rfl
theorem W25 {g} (W : GW g) : HW g (.methodLink sn21 115 ⟨sn21, "compress", "([CI[BII)I"⟩) := gw W 25 rfl
theorem W26 {g} (W : GW g) : HW g (.static ⟨sn21, "compress", "([CI[BII)I"⟩) := gw W 26 rfl
theorem W27 {g} (W : GW g) : HW g (.code ⟨sn21, "compress", "([CI[BII)I"⟩ jdk_52_method_21_code 7 (Option.some FieldType.int)) := gw W 27 rfl
theorem W28 {g} (W : GW g) : HW g (.methodLink "java/lang/String" 47 ⟨sn21, "coderFromArrayLen", "([BI)B"⟩) := gw W 28 rfl
theorem W29 {g} (W : GW g) : HW g (.static ⟨sn21, "coderFromArrayLen", "([BI)B"⟩) := gw W 29 rfl
theorem W30 {g} (W : GW g) : HW g (.code ⟨sn21, "coderFromArrayLen", "([BI)B"⟩ jdk_52_method_15_code 2 (Option.some FieldType.byte)) := gw W 30 rfl
theorem W31 {g} (W : GW g) : HW g (.fieldLink "java/lang/String" 15 "java/lang/String" "coder" "B") := gw W 31 rfl
theorem W32 {g} (W : GW g) : HW g (.laysFinal "java/lang/String" "java/lang/String" "coder" "B") := gw W 32 rfl
theorem W33 {g} (W : GW g) : HW g (.fieldLink "java/lang/String" 9 "java/lang/String" "value" "[B") := gw W 33 rfl
theorem W34 {g} (W : GW g) : HW g (.laysFinal "java/lang/String" "java/lang/String" "value" "[B") := gw W 34 rfl
theorem W35 {g} (W : GW g) : HW g (.methodLink sn2 16 ⟨"java/lang/String", "valueOf", sn48⟩) := gw W 35 rfl
theorem W36 {g} (W : GW g) : HW g (.static ⟨"java/lang/String", "valueOf", sn48⟩) := gw W 36 rfl
theorem W37 {g} (W : GW g) : HW g (.code ⟨"java/lang/String", "valueOf", sn48⟩ jdk_42_method_139_code 1 (Option.some (FieldType.object "java/lang/String"))) := gw W 37 rfl
theorem W38 {g} (W : GW g) : HW g (.methodLink "java/lang/String" 1015 ⟨sn20, "canEncode", "(C)Z"⟩) := gw W 38 rfl
theorem W39 {g} (W : GW g) : HW g (.static ⟨sn20, "canEncode", "(C)Z"⟩) := gw W 39 rfl
theorem W40 {g} (W : GW g) : HW g (.initialized sn20) := gw W 40 rfl
theorem W41 {g} (W : GW g) : HW g (.code ⟨sn20, "canEncode", "(C)Z"⟩ jdk_43_method_3_code 1 (Option.some FieldType.boolean)) := gw W 41 rfl
theorem W42 {g} (W : GW g) : HW g (.classLink "java/lang/String" 10 "java/lang/String") := gw W 42 rfl
theorem W43 {g} (W : GW g) : HW g (.methodLink "java/lang/String" 1018 ⟨sn20, "toBytes", "(C)[B"⟩) := gw W 43 rfl
theorem W44 {g} (W : GW g) : HW g (.static ⟨sn20, "toBytes", "(C)[B"⟩) := gw W 44 rfl
theorem W45 {g} (W : GW g) : HW g (.code ⟨sn20, "toBytes", "(C)[B"⟩ jdk_43_method_46_code 1 (Option.some (FieldType.array FieldType.byte))) := gw W 45 rfl
theorem W46 {g} (W : GW g) : HW g (.methodLink "java/lang/String" 209 ⟨"java/lang/String", "<init>", "([BB)V"⟩) := gw W 46 rfl
theorem W47 {g} (W : GW g) : HW g (.instanceMethod ⟨"java/lang/String", "<init>", "([BB)V"⟩) := gw W 47 rfl
theorem W48 {g} (W : GW g) : HW g (.code ⟨"java/lang/String", "<init>", "([BB)V"⟩ jdk_42_method_151_code 3 (Option.none : Option FieldType)) := gw W 48 rfl
theorem W49 {g} (W : GW g) : HW g (.classLink sn2 25 "java/util/ArrayList") := gw W 49 rfl
theorem W50 {g} (W : GW g) : HW g (.instantiable "java/util/ArrayList" 3) := gw W 50 rfl
theorem W51 {g} (W : GW g) : HW g (.initialized "java/util/ArrayList") := gw W 51 rfl
theorem W52 {g} (W : GW g) : HW g (.methodLink sn2 27 ⟨"java/util/ArrayList", "<init>", "()V"⟩) := gw W 52 rfl
theorem W53 {g} (W : GW g) : HW g (.instanceMethod ⟨"java/util/ArrayList", "<init>", "()V"⟩) := gw W 53 rfl
theorem W54 {g} (W : GW g) : HW g (.code ⟨"java/util/ArrayList", "<init>", "()V"⟩ jdk_38_method_2_code 1 (Option.none : Option FieldType)) := gw W 54 rfl
theorem W55 {g} (W : GW g) : HW g (.methodLink "java/util/ArrayList" 1 ⟨sn27, "<init>", "()V"⟩) := gw W 55 rfl
theorem W56 {g} (W : GW g) : HW g (.instanceMethod ⟨sn27, "<init>", "()V"⟩) := gw W 56 rfl
theorem W59 {g} (W : GW g) : HW g (.initialized sn27) := gw W 59 rfl
theorem W60 {g} (W : GW g) : HW g (.code ⟨sn27, "<init>", "()V"⟩ jdk_39_method_1_code 1 (Option.none : Option FieldType)) := gw W 60 rfl
theorem W61 {g} (W : GW g) : HW g (.methodLink sn27 1 ⟨sn22, "<init>", "()V"⟩) := gw W 61 rfl
theorem W62 {g} (W : GW g) : HW g (.instanceMethod ⟨sn22, "<init>", "()V"⟩) := gw W 62 rfl
theorem W65 {g} (W : GW g) : HW g (.initialized sn22) := gw W 65 rfl
theorem W66 {g} (W : GW g) : HW g (.code ⟨sn22, "<init>", "()V"⟩ jdk_22_method_1_code 1 (Option.none : Option FieldType)) := gw W 66 rfl
theorem W67 {g} (W : GW g) : HW g (.methodLink sn22 1 ⟨"java/lang/Object", "<init>", "()V"⟩) := gw W 67 rfl
theorem W68 {g} (W : GW g) : HW g (.fieldLink sn27 7 sn27 "modCount" "I") := gw W 68 rfl
theorem W69 {g} (W : GW g) : HW g (.lays "java/util/ArrayList" sn27 "modCount" "I") := gw W 69 rfl
theorem W70 {g} (W : GW g) : HW g (.fieldLink "java/util/ArrayList" 39 "java/util/ArrayList" sn53 "[Ljava/lang/Object;") := gw W 70 rfl
theorem W71 {g} (W : GW g) : HW g (.fieldLink "java/util/ArrayList" 9 "java/util/ArrayList" "elementData" "[Ljava/lang/Object;") := gw W 71 rfl
theorem W72 {g} (W : GW g) : HW g (.lays "java/util/ArrayList" "java/util/ArrayList" "elementData" "[Ljava/lang/Object;") := gw W 72 rfl
theorem W73 {g} (W : GW g) : HW g (.methodLink sn2 28 ⟨"java/util/ArrayList", "add", sn11⟩) := gw W 73 rfl
theorem W74 {g} (W : GW g) : HW g (.declares ⟨"java/util/ArrayList", "add", sn11⟩) := gw W 74 rfl
theorem W75 {g} (W : GW g) : HW g (.instanceMethod ⟨"java/util/ArrayList", "add", sn11⟩) := gw W 75 rfl
theorem W76 {g} (W : GW g) : HW g (.selects "java/util/ArrayList" ⟨"java/util/ArrayList", "add", sn11⟩ ⟨"java/util/ArrayList", "add", sn11⟩) := gw W 76 rfl
theorem W77 {g} (W : GW g) : HW g (.code ⟨"java/util/ArrayList", "add", sn11⟩ jdk_38_method_25_code 2 (Option.some FieldType.boolean)) := gw W 77 rfl
theorem W78 {g} (W : GW g) : HW g (.fieldLink "java/util/ArrayList" 63 "java/util/ArrayList" "modCount" "I") := gw W 78 rfl
theorem W79 {g} (W : GW g) : HW g (.sameField "java/util/ArrayList" sn27 "modCount" "I") := gw W 79 rfl
theorem W80 {g} (W : GW g) : HW g (.fieldLink "java/util/ArrayList" 48 "java/util/ArrayList" "size" "I") := gw W 80 rfl
theorem W81 {g} (W : GW g) : HW g (.lays "java/util/ArrayList" "java/util/ArrayList" "size" "I") := gw W 81 rfl
theorem W82 {g} (W : GW g) : HW g (.methodLink "java/util/ArrayList" 131 ⟨"java/util/ArrayList", "add", sn28⟩) := gw W 82 rfl
theorem W83 {g} (W : GW g) : HW g (.instanceMethod ⟨"java/util/ArrayList", "add", sn28⟩) := gw W 83 rfl
theorem W84 {g} (W : GW g) : HW g (.privateMethod ⟨"java/util/ArrayList", "add", sn28⟩) := gw W 84 rfl
theorem W86 {g} (W : GW g) : HW g (.code ⟨"java/util/ArrayList", "add", sn28⟩ jdk_38_method_24_code 4 (Option.none : Option FieldType)) := gw W 86 rfl
theorem W87 {g} (W : GW g) : HW g (.methodLink "java/util/ArrayList" 129 ⟨"java/util/ArrayList", "grow", sn17⟩) := gw W 87 rfl
theorem W88 {g} (W : GW g) : HW g (.instanceMethod ⟨"java/util/ArrayList", "grow", sn17⟩) := gw W 88 rfl
theorem W89 {g} (W : GW g) : HW g (.privateMethod ⟨"java/util/ArrayList", "grow", sn17⟩) := gw W 89 rfl
theorem W91 {g} (W : GW g) : HW g (.code ⟨"java/util/ArrayList", "grow", sn17⟩ jdk_38_method_7_code 1 (Option.some (FieldType.array (FieldType.object "java/lang/Object")))) := gw W 91 rfl
theorem W92 {g} (W : GW g) : HW g (.methodLink "java/util/ArrayList" 69 ⟨"java/util/ArrayList", "grow", sn47⟩) := gw W 92 rfl
theorem W93 {g} (W : GW g) : HW g (.instanceMethod ⟨"java/util/ArrayList", "grow", sn47⟩) := gw W 93 rfl
theorem W94 {g} (W : GW g) : HW g (.privateMethod ⟨"java/util/ArrayList", "grow", sn47⟩) := gw W 94 rfl
theorem W96 {g} (W : GW g) : HW g (.code ⟨"java/util/ArrayList", "grow", sn47⟩ jdk_38_method_6_code 4 (Option.some (FieldType.array (FieldType.object "java/lang/Object")))) := gw W 96 rfl
theorem W97 {g} (W : GW g) : HW g (.methodLink "java/util/ArrayList" 79 ⟨"java/lang/Math", "max", "(II)I"⟩) := gw W 97 rfl
theorem W98 {g} (W : GW g) : HW g (.static ⟨"java/lang/Math", "max", "(II)I"⟩) := gw W 98 rfl
theorem W99 {g} (W : GW g) : HW g (.initialized "java/lang/Math") := gw W 99 rfl
theorem W100 {g} (W : GW g) : HW g (.code ⟨"java/lang/Math", "max", "(II)I"⟩ jdk_29_method_65_code 2 (Option.some FieldType.int)) := gw W 100 rfl
theorem W101 {g} (W : GW g) : HW g (.classLink "java/util/ArrayList" 7 "java/lang/Object") := gw W 101 rfl
theorem W102 {g} (W : GW g) : HW g (.arrayOver (FieldType.object "java/lang/Object")) := gw W 102 rfl
theorem W103 {g} (W : GW g) : HW g (.castable "java/lang/String" "java/lang/Object") := gw W 103 rfl
theorem W104 {g} (W : GW g) : HW g (.methodLink sn2 32 ⟨sn2, "isDataKind", "(IC)Z"⟩) := gw W 104 rfl
theorem W105 {g} (W : GW g) : HW g (.static ⟨sn2, "isDataKind", "(IC)Z"⟩) := gw W 105 rfl
theorem W106 {g} (W : GW g) : HW g (.code ⟨sn2, "isDataKind", "(IC)Z"⟩ method_4_code 2 (Option.some FieldType.boolean)) := gw W 106 rfl
theorem W107 {g} (W : GW g) : HW g (.methodLink sn2 36 ⟨sn2, "expect", sn16⟩) := gw W 107 rfl
theorem W108 {g} (W : GW g) : HW g (.static ⟨sn2, "expect", sn16⟩) := gw W 108 rfl
theorem W109 {g} (W : GW g) : HW g (.code ⟨sn2, "expect", sn16⟩ method_5_code 5 (Option.some FieldType.boolean)) := gw W 109 rfl
theorem W110 {g} (W : GW g) : HW g (.classLink sn2 40 sn0) := gw W 110 rfl
theorem W111 {g} (W : GW g) : HW g (.instantiable sn0 1) := gw W 111 rfl
theorem W112 {g} (W : GW g) : HW g (.initialized sn0) := gw W 112 rfl
theorem W113 {g} (W : GW g) : HW g (.methodLink sn2 42 ⟨sn0, "<init>", "(Ljava/util/List;)V"⟩) := gw W 113 rfl
theorem W114 {g} (W : GW g) : HW g (.instanceMethod ⟨sn0, "<init>", "(Ljava/util/List;)V"⟩) := gw W 114 rfl
theorem W115 {g} (W : GW g) : HW g (.code ⟨sn0, "<init>", "(Ljava/util/List;)V"⟩ prog_6_method_1_code 2 (Option.none : Option FieldType)) := gw W 115 rfl
theorem W116 {g} (W : GW g) : HW g (.methodLink sn0 3 ⟨"java/lang/Record", "<init>", "()V"⟩) := gw W 116 rfl
theorem W117 {g} (W : GW g) : HW g (.instanceMethod ⟨"java/lang/Record", "<init>", "()V"⟩) := gw W 117 rfl
theorem W119 {g} (W : GW g) : HW g (.initialized "java/lang/Record") := gw W 119 rfl
theorem W120 {g} (W : GW g) : HW g (.code ⟨"java/lang/Record", "<init>", "()V"⟩ jdk_30_method_1_code 1 (Option.none : Option FieldType)) := gw W 120 rfl
theorem W121 {g} (W : GW g) : HW g (.methodLink "java/lang/Record" 1 ⟨"java/lang/Object", "<init>", "()V"⟩) := gw W 121 rfl
theorem W122 {g} (W : GW g) : HW g (.methodLink sn0 9 ⟨"java/util/List", "copyOf", sn12⟩) := gw W 122 rfl
theorem W123 {g} (W : GW g) : HW g (.static ⟨"java/util/List", "copyOf", sn12⟩) := gw W 123 rfl
theorem W124 {g} (W : GW g) : HW g (.initialized "java/util/List") := gw W 124 rfl
theorem W125 {g} (W : GW g) : HW g (.code ⟨"java/util/List", "copyOf", sn12⟩ jdk_40_method_48_code 1 (Option.some (FieldType.object "java/util/List"))) := gw W 125 rfl
theorem W126 {g} (W : GW g) : HW g (.methodLink "java/util/List" 112 ⟨sn8, "listCopy", sn12⟩) := gw W 126 rfl
theorem W127 {g} (W : GW g) : HW g (.static ⟨sn8, "listCopy", sn12⟩) := gw W 127 rfl
theorem W128 {g} (W : GW g) : HW g (.initialized sn8) := gw W 128 rfl
theorem W129 {g} (W : GW g) : HW g (.code ⟨sn8, "listCopy", sn12⟩ jdk_56_method_3_code 2 (Option.some (FieldType.object "java/util/List"))) := gw W 129 rfl
theorem W130 {g} (W : GW g) : HW g (.classLink sn8 10 sn3) := gw W 130 rfl
theorem W131 {g} (W : GW g) : HW g (.superclass "java/util/ArrayList" sn27) := gw W 131 rfl
theorem W132 {g} (W : GW g) : HW g (.superclass sn27 sn22) := gw W 132 rfl
theorem W133 {g} (W : GW g) : HW g (.superclass sn22 "java/lang/Object") := gw W 133 rfl
theorem W134 {g} (W : GW g) : HW g (.noSuperclass "java/lang/Object") := gw W 134 rfl
theorem W135 {g} (W : GW g) : HW g (.classLink sn8 12 sn5) := gw W 135 rfl
theorem W136 {g} (W : GW g) : HW g (.methodLink sn8 20 ⟨sn31, "isEmpty", "()Z"⟩) := gw W 136 rfl
theorem W137 {g} (W : GW g) : HW g (.declares ⟨sn31, "isEmpty", "()Z"⟩) := gw W 137 rfl
theorem W138 {g} (W : GW g) : HW g (.interfaceMethod sn31 sn31 "isEmpty" "()Z") := gw W 138 rfl
theorem W139 {g} (W : GW g) : HW g (.selects "java/util/ArrayList" ⟨sn31, "isEmpty", "()Z"⟩ ⟨"java/util/ArrayList", "isEmpty", "()Z"⟩) := gw W 139 rfl
theorem W140 {g} (W : GW g) : HW g (.instanceMethod ⟨"java/util/ArrayList", "isEmpty", "()Z"⟩) := gw W 140 rfl
theorem W141 {g} (W : GW g) : HW g (.publicMethod ⟨"java/util/ArrayList", "isEmpty", "()Z"⟩) := gw W 141 rfl
theorem W142 {g} (W : GW g) : HW g (.unhidden "java/util/ArrayList" "isEmpty" "()Z") := gw W 142 rfl
theorem W143 {g} (W : GW g) : HW g (.castable "java/util/ArrayList" sn31) := gw W 143 rfl
theorem W144 {g} (W : GW g) : HW g (.code ⟨"java/util/ArrayList", "isEmpty", "()Z"⟩ jdk_38_method_9_code 1 (Option.some FieldType.boolean)) := gw W 144 rfl
theorem W145 {g} (W : GW g) : HW g (.methodLink sn8 30 ⟨sn31, "toArray", sn17⟩) := gw W 145 rfl
theorem W146 {g} (W : GW g) : HW g (.declares ⟨sn31, "toArray", sn17⟩) := gw W 146 rfl
theorem W147 {g} (W : GW g) : HW g (.interfaceMethod sn31 sn31 "toArray" sn17) := gw W 147 rfl
theorem W148 {g} (W : GW g) : HW g (.selects "java/util/ArrayList" ⟨sn31, "toArray", sn17⟩ ⟨"java/util/ArrayList", "toArray", sn17⟩) := gw W 148 rfl
theorem W149 {g} (W : GW g) : HW g (.instanceMethod ⟨"java/util/ArrayList", "toArray", sn17⟩) := gw W 149 rfl
theorem W150 {g} (W : GW g) : HW g (.publicMethod ⟨"java/util/ArrayList", "toArray", sn17⟩) := gw W 150 rfl
theorem W151 {g} (W : GW g) : HW g (.unhidden "java/util/ArrayList" "toArray" sn17) := gw W 151 rfl
theorem W152 {g} (W : GW g) : HW g (.code ⟨"java/util/ArrayList", "toArray", sn17⟩ jdk_38_method_16_code 1 (Option.some (FieldType.array (FieldType.object "java/lang/Object")))) := gw W 152 rfl
theorem W153 {g} (W : GW g) : HW g (.methodLink "java/util/ArrayList" 66 ⟨"java/util/Arrays", "copyOf", sn29⟩) := gw W 153 rfl
theorem W154 {g} (W : GW g) : HW g (.static ⟨"java/util/Arrays", "copyOf", sn29⟩) := gw W 154 rfl
theorem W155 {g} (W : GW g) : HW g (.initialized "java/util/Arrays") := gw W 155 rfl
theorem W156 {g} (W : GW g) : HW g (.code ⟨"java/util/Arrays", "copyOf", sn29⟩ jdk_65_method_119_code 2 (Option.some (FieldType.array (FieldType.object "java/lang/Object")))) := gw W 156 rfl
theorem W157 {g} (W : GW g) : HW g (.methodLink "java/util/Arrays" 86 ⟨"java/lang/Object", "getClass", "()Ljava/lang/Class;"⟩) := gw W 157 rfl
theorem W158 {g} (W : GW g) : HW g (.declares ⟨"java/lang/Object", "getClass", "()Ljava/lang/Class;"⟩) := gw W 158 rfl
theorem W159 {g} (W : GW g) : HW g (.instanceMethod ⟨"java/lang/Object", "getClass", "()Ljava/lang/Class;"⟩) := gw W 159 rfl
theorem W160 {g} (W : GW g) : HW g (.selects "[Ljava/lang/Object;" ⟨"java/lang/Object", "getClass", "()Ljava/lang/Class;"⟩ ⟨"java/lang/Object", "getClass", "()Ljava/lang/Class;"⟩) := gw W 160 rfl
theorem W161 {g} (W : GW g) : HW g (.native ⟨"java/lang/Object", "getClass", "()Ljava/lang/Class;"⟩) := gw W 161 rfl
theorem W163 {g} (W : GW g) : HW g (.methodLink "java/util/Arrays" 300 ⟨"java/util/Arrays", "copyOf", sn19⟩) := gw W 163 rfl
theorem W164 {g} (W : GW g) : HW g (.static ⟨"java/util/Arrays", "copyOf", sn19⟩) := gw W 164 rfl
theorem W165 {g} (W : GW g) : HW g (.code ⟨"java/util/Arrays", "copyOf", sn19⟩ jdk_65_method_120_code 4 (Option.some (FieldType.array (FieldType.object "java/lang/Object")))) := gw W 165 rfl
theorem W166 {g} (W : GW g) : HW g (.classLink "java/util/Arrays" 110 "[Ljava/lang/Object;") := gw W 166 rfl
theorem W167 {g} (W : GW g) : HW g (.classLink "java/util/Arrays" 2 "java/lang/Object") := gw W 167 rfl
theorem W168 {g} (W : GW g) : HW g (.methodLink "java/util/Arrays" 304 ⟨"java/lang/Math", "min", "(II)I"⟩) := gw W 168 rfl
theorem W169 {g} (W : GW g) : HW g (.static ⟨"java/lang/Math", "min", "(II)I"⟩) := gw W 169 rfl
theorem W170 {g} (W : GW g) : HW g (.code ⟨"java/lang/Math", "min", "(II)I"⟩ jdk_29_method_69_code 2 (Option.some FieldType.int)) := gw W 170 rfl
theorem W171 {g} (W : GW g) : HW g (.methodLink "java/util/Arrays" 150 ⟨"java/lang/System", "arraycopy", sn34⟩) := gw W 171 rfl
theorem W172 {g} (W : GW g) : HW g (.static ⟨"java/lang/System", "arraycopy", sn34⟩) := gw W 172 rfl
theorem W173 {g} (W : GW g) : HW g (.initialized "java/lang/System") := gw W 173 rfl
theorem W174 {g} (W : GW g) : HW g (.native ⟨"java/lang/System", "arraycopy", sn34⟩) := gw W 174 rfl
theorem W175 {g} (W : GW g) : HW g (.methodLink sn8 34 ⟨"java/util/List", "of", sn14⟩) := gw W 175 rfl
theorem W176 {g} (W : GW g) : HW g (.static ⟨"java/util/List", "of", sn14⟩) := gw W 176 rfl
theorem W177 {g} (W : GW g) : HW g (.code ⟨"java/util/List", "of", sn14⟩ jdk_40_method_47_code 2 (Option.some (FieldType.object "java/util/List"))) := gw W 177 rfl
theorem W178 {g} (W : GW g) : HW g (.classLink "java/util/List" 96 sn3) := gw W 178 rfl
theorem W179 {g} (W : GW g) : HW g (.instantiable sn3 2) := gw W 179 rfl
theorem W180 {g} (W : GW g) : HW g (.initialized sn3) := gw W 180 rfl
theorem W181 {g} (W : GW g) : HW g (.methodLink "java/util/List" 98 ⟨sn3, "<init>", sn49⟩) := gw W 181 rfl
theorem W182 {g} (W : GW g) : HW g (.instanceMethod ⟨sn3, "<init>", sn49⟩) := gw W 182 rfl
theorem W184 {g} (W : GW g) : HW g (.code ⟨sn3, "<init>", sn49⟩ jdk_44_method_1_code 2 (Option.none : Option FieldType)) := gw W 184 rfl
theorem W185 {g} (W : GW g) : HW g (.methodLink sn3 1 ⟨sn6, "<init>", "()V"⟩) := gw W 185 rfl
theorem W186 {g} (W : GW g) : HW g (.instanceMethod ⟨sn6, "<init>", "()V"⟩) := gw W 186 rfl
theorem W189 {g} (W : GW g) : HW g (.initialized sn6) := gw W 189 rfl
theorem W190 {g} (W : GW g) : HW g (.code ⟨sn6, "<init>", "()V"⟩ jdk_46_method_1_code 1 (Option.none : Option FieldType)) := gw W 190 rfl
theorem W191 {g} (W : GW g) : HW g (.methodLink sn6 1 ⟨sn13, "<init>", "()V"⟩) := gw W 191 rfl
theorem W192 {g} (W : GW g) : HW g (.instanceMethod ⟨sn13, "<init>", "()V"⟩) := gw W 192 rfl
theorem W195 {g} (W : GW g) : HW g (.initialized sn13) := gw W 195 rfl
theorem W196 {g} (W : GW g) : HW g (.code ⟨sn13, "<init>", "()V"⟩ jdk_47_method_1_code 1 (Option.none : Option FieldType)) := gw W 196 rfl
theorem W197 {g} (W : GW g) : HW g (.methodLink sn13 1 ⟨sn22, "<init>", "()V"⟩) := gw W 197 rfl
theorem W199 {g} (W : GW g) : HW g (.methodLink sn3 7 ⟨"java/util/Objects", "requireNonNull", sn25⟩) := gw W 199 rfl
theorem W200 {g} (W : GW g) : HW g (.static ⟨"java/util/Objects", "requireNonNull", sn25⟩) := gw W 200 rfl
theorem W201 {g} (W : GW g) : HW g (.initialized "java/util/Objects") := gw W 201 rfl
theorem W202 {g} (W : GW g) : HW g (.code ⟨"java/util/Objects", "requireNonNull", sn25⟩ jdk_31_method_10_code 1 (Option.some (FieldType.object "java/lang/Object"))) := gw W 202 rfl
theorem W203 {g} (W : GW g) : HW g (.fieldLink sn3 13 sn3 "e0" "Ljava/lang/Object;") := gw W 203 rfl
theorem W204 {g} (W : GW g) : HW g (.laysFinal sn3 sn3 "e0" "Ljava/lang/Object;") := gw W 204 rfl
theorem W205 {g} (W : GW g) : HW g (.fieldLinkNest sn3 19 sn8 "EMPTY" "Ljava/lang/Object;" sn8) := gw W 205 rfl
theorem W206 {g} (W : GW g) : HW g (.fieldLink sn3 24 sn3 "e1" "Ljava/lang/Object;") := gw W 206 rfl
theorem W207 {g} (W : GW g) : HW g (.laysFinal sn3 sn3 "e1" "Ljava/lang/Object;") := gw W 207 rfl
theorem W208 {g} (W : GW g) : HW g (.fieldLink sn0 15 sn0 "lines" "Ljava/util/List;") := gw W 208 rfl
theorem W209 {g} (W : GW g) : HW g (.laysFinal sn0 sn0 "lines" "Ljava/util/List;") := gw W 209 rfl
theorem W210 {g} (W : GW g) : HW g (.methodLink sn2 45 ⟨sn0, "withData", sn10⟩) := gw W 210 rfl
theorem W211 {g} (W : GW g) : HW g (.declares ⟨sn0, "withData", sn10⟩) := gw W 211 rfl
theorem W212 {g} (W : GW g) : HW g (.instanceMethod ⟨sn0, "withData", sn10⟩) := gw W 212 rfl
theorem W213 {g} (W : GW g) : HW g (.selects sn0 ⟨sn0, "withData", sn10⟩ ⟨sn0, "withData", sn10⟩) := gw W 213 rfl
theorem W214 {g} (W : GW g) : HW g (.code ⟨sn0, "withData", sn10⟩ prog_6_method_3_code 6 (Option.some (FieldType.object sn0))) := gw W 214 rfl
theorem W215 {g} (W : GW g) : HW g (.classLink sn0 21 "java/util/ArrayList") := gw W 215 rfl
theorem W216 {g} (W : GW g) : HW g (.methodLink sn0 23 ⟨"java/util/ArrayList", "<init>", "()V"⟩) := gw W 216 rfl
theorem W217 {g} (W : GW g) : HW g (.methodLink sn0 24 ⟨"java/util/List", "iterator", sn24⟩) := gw W 217 rfl
theorem W218 {g} (W : GW g) : HW g (.declares ⟨"java/util/List", "iterator", sn24⟩) := gw W 218 rfl
theorem W219 {g} (W : GW g) : HW g (.interfaceMethod "java/util/List" "java/util/List" "iterator" sn24) := gw W 219 rfl
theorem W220 {g} (W : GW g) : HW g (.selects sn3 ⟨"java/util/List", "iterator", sn24⟩ ⟨sn6, "iterator", sn24⟩) := gw W 220 rfl
theorem W221 {g} (W : GW g) : HW g (.instanceMethod ⟨sn6, "iterator", sn24⟩) := gw W 221 rfl
theorem W222 {g} (W : GW g) : HW g (.publicMethod ⟨sn6, "iterator", sn24⟩) := gw W 222 rfl
theorem W223 {g} (W : GW g) : HW g (.unhidden sn3 "iterator" sn24) := gw W 223 rfl
theorem W224 {g} (W : GW g) : HW g (.castable sn3 "java/util/List") := gw W 224 rfl
theorem W225 {g} (W : GW g) : HW g (.code ⟨sn6, "iterator", sn24⟩ jdk_46_method_10_code 1 (Option.some (FieldType.object "java/util/Iterator"))) := gw W 225 rfl
theorem W226 {g} (W : GW g) : HW g (.classLink sn6 61 sn4) := gw W 226 rfl
theorem W227 {g} (W : GW g) : HW g (.instantiable sn4 4) := gw W 227 rfl
theorem W228 {g} (W : GW g) : HW g (.initialized sn4) := gw W 228 rfl
theorem W229 {g} (W : GW g) : HW g (.methodLink sn6 13 ⟨sn6, "size", "()I"⟩) := gw W 229 rfl
theorem W230 {g} (W : GW g) : HW g (.sameMethod sn6 sn22 "size" "()I") := gw W 230 rfl
theorem W231 {g} (W : GW g) : HW g (.declares ⟨sn22, "size", "()I"⟩) := gw W 231 rfl
theorem W232 {g} (W : GW g) : HW g (.selects sn3 ⟨sn6, "size", "()I"⟩ ⟨sn3, "size", "()I"⟩) := gw W 232 rfl
theorem W233 {g} (W : GW g) : HW g (.instanceMethod ⟨sn3, "size", "()I"⟩) := gw W 233 rfl
theorem W234 {g} (W : GW g) : HW g (.code ⟨sn3, "size", "()I"⟩ jdk_44_method_3_code 1 (Option.some FieldType.int)) := gw W 234 rfl
theorem W235 {g} (W : GW g) : HW g (.methodLink sn6 63 ⟨sn4, "<init>", sn51⟩) := gw W 235 rfl
theorem W236 {g} (W : GW g) : HW g (.instanceMethod ⟨sn4, "<init>", sn51⟩) := gw W 236 rfl
theorem W238 {g} (W : GW g) : HW g (.code ⟨sn4, "<init>", sn51⟩ jdk_53_method_1_code 3 (Option.none : Option FieldType)) := gw W 238 rfl
theorem W239 {g} (W : GW g) : HW g (.methodLink sn4 1 ⟨"java/lang/Object", "<init>", "()V"⟩) := gw W 239 rfl
theorem W240 {g} (W : GW g) : HW g (.fieldLink sn4 7 sn4 "list" "Ljava/util/List;") := gw W 240 rfl
theorem W241 {g} (W : GW g) : HW g (.laysFinal sn4 sn4 "list" "Ljava/util/List;") := gw W 241 rfl
theorem W242 {g} (W : GW g) : HW g (.fieldLink sn4 13 sn4 "size" "I") := gw W 242 rfl
theorem W243 {g} (W : GW g) : HW g (.laysFinal sn4 sn4 "size" "I") := gw W 243 rfl
theorem W244 {g} (W : GW g) : HW g (.fieldLink sn4 17 sn4 "cursor" "I") := gw W 244 rfl
theorem W245 {g} (W : GW g) : HW g (.lays sn4 sn4 "cursor" "I") := gw W 245 rfl
theorem W246 {g} (W : GW g) : HW g (.fieldLink sn4 20 sn4 "isListIterator" "Z") := gw W 246 rfl
theorem W247 {g} (W : GW g) : HW g (.laysFinal sn4 sn4 "isListIterator" "Z") := gw W 247 rfl
theorem W248 {g} (W : GW g) : HW g (.methodLink sn0 28 ⟨"java/util/Iterator", "hasNext", "()Z"⟩) := gw W 248 rfl
theorem W249 {g} (W : GW g) : HW g (.declares ⟨"java/util/Iterator", "hasNext", "()Z"⟩) := gw W 249 rfl
theorem W250 {g} (W : GW g) : HW g (.interfaceMethod "java/util/Iterator" "java/util/Iterator" "hasNext" "()Z") := gw W 250 rfl
theorem W251 {g} (W : GW g) : HW g (.selects sn4 ⟨"java/util/Iterator", "hasNext", "()Z"⟩ ⟨sn4, "hasNext", "()Z"⟩) := gw W 251 rfl
theorem W252 {g} (W : GW g) : HW g (.instanceMethod ⟨sn4, "hasNext", "()Z"⟩) := gw W 252 rfl
theorem W253 {g} (W : GW g) : HW g (.publicMethod ⟨sn4, "hasNext", "()Z"⟩) := gw W 253 rfl
theorem W254 {g} (W : GW g) : HW g (.unhidden sn4 "hasNext" "()Z") := gw W 254 rfl
theorem W255 {g} (W : GW g) : HW g (.castable sn4 "java/util/Iterator") := gw W 255 rfl
theorem W256 {g} (W : GW g) : HW g (.code ⟨sn4, "hasNext", "()Z"⟩ jdk_53_method_3_code 1 (Option.some FieldType.boolean)) := gw W 256 rfl
theorem W257 {g} (W : GW g) : HW g (.methodLink sn0 34 ⟨"java/util/Iterator", "next", sn35⟩) := gw W 257 rfl
theorem W258 {g} (W : GW g) : HW g (.declares ⟨"java/util/Iterator", "next", sn35⟩) := gw W 258 rfl
theorem W259 {g} (W : GW g) : HW g (.interfaceMethod "java/util/Iterator" "java/util/Iterator" "next" sn35) := gw W 259 rfl
theorem W260 {g} (W : GW g) : HW g (.selects sn4 ⟨"java/util/Iterator", "next", sn35⟩ ⟨sn4, "next", sn35⟩) := gw W 260 rfl
theorem W261 {g} (W : GW g) : HW g (.instanceMethod ⟨sn4, "next", sn35⟩) := gw W 261 rfl
theorem W262 {g} (W : GW g) : HW g (.publicMethod ⟨sn4, "next", sn35⟩) := gw W 262 rfl
theorem W263 {g} (W : GW g) : HW g (.unhidden sn4 "next" sn35) := gw W 263 rfl
theorem W264 {g} (W : GW g) : HW g (.codeWith ⟨sn4, "next", sn35⟩ jdk_53_method_4_code 3 (Option.some (FieldType.object "java/lang/Object")) [(0, 24, 25, 30)]) := gw W 264 rfl
theorem W265 {g} (W : GW g) : HW g (.methodLink sn4 24 ⟨"java/util/List", "get", sn9⟩) := gw W 265 rfl
theorem W266 {g} (W : GW g) : HW g (.declares ⟨"java/util/List", "get", sn9⟩) := gw W 266 rfl
theorem W267 {g} (W : GW g) : HW g (.interfaceMethod "java/util/List" "java/util/List" "get" sn9) := gw W 267 rfl
theorem W268 {g} (W : GW g) : HW g (.selects sn3 ⟨"java/util/List", "get", sn9⟩ ⟨sn3, "get", sn9⟩) := gw W 268 rfl
theorem W269 {g} (W : GW g) : HW g (.instanceMethod ⟨sn3, "get", sn9⟩) := gw W 269 rfl
theorem W270 {g} (W : GW g) : HW g (.publicMethod ⟨sn3, "get", sn9⟩) := gw W 270 rfl
theorem W271 {g} (W : GW g) : HW g (.unhidden sn3 "get" sn9) := gw W 271 rfl
theorem W272 {g} (W : GW g) : HW g (.code ⟨sn3, "get", sn9⟩ jdk_44_method_5_code 2 (Option.some (FieldType.object "java/lang/Object"))) := gw W 272 rfl
theorem W273 {g} (W : GW g) : HW g (.classLink sn0 38 "java/lang/String") := gw W 273 rfl
theorem W274 {g} (W : GW g) : HW g (.methodLink sn0 40 ⟨sn0, "isData", sn26⟩) := gw W 274 rfl
theorem W275 {g} (W : GW g) : HW g (.static ⟨sn0, "isData", sn26⟩) := gw W 275 rfl
theorem W276 {g} (W : GW g) : HW g (.code ⟨sn0, "isData", sn26⟩ prog_6_method_5_code 1 (Option.some FieldType.boolean)) := gw W 276 rfl
theorem W277 {g} (W : GW g) : HW g (.stringLink sn0 48 "data") := gw W 277 rfl
theorem W278 {g} (W : GW g) : HW g (.soleField "java/lang/String" "value") := gw W 278 rfl
theorem W279 {g} (W : GW g) : HW g (.soleField "java/lang/String" "coder") := gw W 279 rfl
theorem W280 {g} (W : GW g) : HW g (.methodLink sn0 107 ⟨"java/lang/String", "equals", sn11⟩) := gw W 280 rfl
theorem W281 {g} (W : GW g) : HW g (.declares ⟨"java/lang/String", "equals", sn11⟩) := gw W 281 rfl
theorem W282 {g} (W : GW g) : HW g (.instanceMethod ⟨"java/lang/String", "equals", sn11⟩) := gw W 282 rfl
theorem W283 {g} (W : GW g) : HW g (.selects "java/lang/String" ⟨"java/lang/String", "equals", sn11⟩ ⟨"java/lang/String", "equals", sn11⟩) := gw W 283 rfl
theorem W284 {g} (W : GW g) : HW g (.code ⟨"java/lang/String", "equals", sn11⟩ jdk_42_method_66_code 3 (Option.some FieldType.boolean)) := gw W 284 rfl
theorem W285 {g} (W : GW g) : HW g (.methodLink "java/lang/String" 541 ⟨sn20, "equals", "([B[B)Z"⟩) := gw W 285 rfl
theorem W286 {g} (W : GW g) : HW g (.static ⟨sn20, "equals", "([B[B)Z"⟩) := gw W 286 rfl
theorem W287 {g} (W : GW g) : HW g (.code ⟨sn20, "equals", "([B[B)Z"⟩ jdk_43_method_13_code 3 (Option.some FieldType.boolean)) := gw W 287 rfl
theorem W288 {g} (W : GW g) : HW g (.classLink sn0 78 sn7) := gw W 288 rfl
theorem W289 {g} (W : GW g) : HW g (.instantiable sn7 4) := gw W 289 rfl
theorem W290 {g} (W : GW g) : HW g (.initialized sn7) := gw W 290 rfl
theorem W291 {g} (W : GW g) : HW g (.methodLink sn0 80 ⟨sn7, "<init>", "()V"⟩) := gw W 291 rfl
theorem W292 {g} (W : GW g) : HW g (.instanceMethod ⟨sn7, "<init>", "()V"⟩) := gw W 292 rfl
theorem W293 {g} (W : GW g) : HW g (.code ⟨sn7, "<init>", "()V"⟩ jdk_67_method_1_code 1 (Option.none : Option FieldType)) := gw W 293 rfl
theorem W294 {g} (W : GW g) : HW g (.methodLink sn7 1 ⟨sn1, "<init>", "(I)V"⟩) := gw W 294 rfl
theorem W295 {g} (W : GW g) : HW g (.instanceMethod ⟨sn1, "<init>", "(I)V"⟩) := gw W 295 rfl
theorem W298 {g} (W : GW g) : HW g (.initialized sn1) := gw W 298 rfl
theorem W299 {g} (W : GW g) : HW g (.code ⟨sn1, "<init>", "(I)V"⟩ jdk_68_method_2_code 2 (Option.none : Option FieldType)) := gw W 299 rfl
theorem W300 {g} (W : GW g) : HW g (.methodLink sn1 3 ⟨"java/lang/Object", "<init>", "()V"⟩) := gw W 300 rfl
theorem W301 {g} (W : GW g) : HW g (.fieldLink sn1 18 "java/lang/String" "COMPACT_STRINGS" "Z") := gw W 301 rfl
theorem W302 {g} (W : GW g) : HW g (.fieldLink sn1 15 sn1 "value" "[B") := gw W 302 rfl
theorem W303 {g} (W : GW g) : HW g (.lays sn7 sn1 "value" "[B") := gw W 303 rfl
theorem W304 {g} (W : GW g) : HW g (.fieldLink sn1 22 sn1 "coder" "B") := gw W 304 rfl
theorem W305 {g} (W : GW g) : HW g (.lays sn7 sn1 "coder" "B") := gw W 305 rfl
theorem W306 {g} (W : GW g) : HW g (.stringLink sn0 81 "data: ") := gw W 306 rfl
theorem W307 {g} (W : GW g) : HW g (.methodLink sn0 83 ⟨sn7, "append", sn15⟩) := gw W 307 rfl
theorem W308 {g} (W : GW g) : HW g (.declares ⟨sn7, "append", sn15⟩) := gw W 308 rfl
theorem W309 {g} (W : GW g) : HW g (.instanceMethod ⟨sn7, "append", sn15⟩) := gw W 309 rfl
theorem W310 {g} (W : GW g) : HW g (.selects sn7 ⟨sn7, "append", sn15⟩ ⟨sn7, "append", sn15⟩) := gw W 310 rfl
theorem W311 {g} (W : GW g) : HW g (.code ⟨sn7, "append", sn15⟩ jdk_67_method_7_code 2 (Option.some (FieldType.object sn7))) := gw W 311 rfl
theorem W312 {g} (W : GW g) : HW g (.methodLink sn7 29 ⟨sn1, "append", sn18⟩) := gw W 312 rfl
theorem W313 {g} (W : GW g) : HW g (.instanceMethod ⟨sn1, "append", sn18⟩) := gw W 313 rfl
theorem W314 {g} (W : GW g) : HW g (.superclass sn7 sn1) := gw W 314 rfl
theorem W316 {g} (W : GW g) : HW g (.code ⟨sn1, "append", sn18⟩ jdk_68_method_22_code 3 (Option.some (FieldType.object sn1))) := gw W 316 rfl
theorem W317 {g} (W : GW g) : HW g (.methodLink sn1 32 ⟨"java/lang/String", "length", "()I"⟩) := gw W 317 rfl
theorem W318 {g} (W : GW g) : HW g (.declares ⟨"java/lang/String", "length", "()I"⟩) := gw W 318 rfl
theorem W319 {g} (W : GW g) : HW g (.instanceMethod ⟨"java/lang/String", "length", "()I"⟩) := gw W 319 rfl
theorem W320 {g} (W : GW g) : HW g (.selects "java/lang/String" ⟨"java/lang/String", "length", "()I"⟩ ⟨"java/lang/String", "length", "()I"⟩) := gw W 320 rfl
theorem W321 {g} (W : GW g) : HW g (.code ⟨"java/lang/String", "length", "()I"⟩ jdk_42_method_54_code 1 (Option.some FieldType.int)) := gw W 321 rfl
theorem W322 {g} (W : GW g) : HW g (.methodLink "java/lang/String" 335 ⟨"java/lang/String", "coder", "()B"⟩) := gw W 322 rfl
theorem W323 {g} (W : GW g) : HW g (.declares ⟨"java/lang/String", "coder", "()B"⟩) := gw W 323 rfl
theorem W324 {g} (W : GW g) : HW g (.instanceMethod ⟨"java/lang/String", "coder", "()B"⟩) := gw W 324 rfl
theorem W325 {g} (W : GW g) : HW g (.selects "java/lang/String" ⟨"java/lang/String", "coder", "()B"⟩ ⟨"java/lang/String", "coder", "()B"⟩) := gw W 325 rfl
theorem W326 {g} (W : GW g) : HW g (.code ⟨"java/lang/String", "coder", "()B"⟩ jdk_42_method_152_code 1 (Option.some FieldType.byte)) := gw W 326 rfl
theorem W327 {g} (W : GW g) : HW g (.fieldLink sn1 79 sn1 "count" "I") := gw W 327 rfl
theorem W328 {g} (W : GW g) : HW g (.lays sn7 sn1 "count" "I") := gw W 328 rfl
theorem W329 {g} (W : GW g) : HW g (.methodLink sn1 100 ⟨sn1, sn44, "(I)V"⟩) := gw W 329 rfl
theorem W330 {g} (W : GW g) : HW g (.instanceMethod ⟨sn1, sn44, "(I)V"⟩) := gw W 330 rfl
theorem W331 {g} (W : GW g) : HW g (.privateMethod ⟨sn1, sn44, "(I)V"⟩) := gw W 331 rfl
theorem W332 {g} (W : GW g) : HW g (.selects sn7 ⟨sn1, sn44, "(I)V"⟩ ⟨sn1, sn44, "(I)V"⟩) := gw W 332 rfl
theorem W333 {g} (W : GW g) : HW g (.code ⟨sn1, sn44, "(I)V"⟩ jdk_68_method_9_code 3 (Option.none : Option FieldType)) := gw W 333 rfl
theorem W334 {g} (W : GW g) : HW g (.methodLink sn1 208 ⟨sn1, "putStringAt", sn40⟩) := gw W 334 rfl
theorem W335 {g} (W : GW g) : HW g (.instanceMethod ⟨sn1, "putStringAt", sn40⟩) := gw W 335 rfl
theorem W336 {g} (W : GW g) : HW g (.privateMethod ⟨sn1, "putStringAt", sn40⟩) := gw W 336 rfl
theorem W337 {g} (W : GW g) : HW g (.selects sn7 ⟨sn1, "putStringAt", sn40⟩ ⟨sn1, "putStringAt", sn40⟩) := gw W 337 rfl
theorem W338 {g} (W : GW g) : HW g (.code ⟨sn1, "putStringAt", sn40⟩ jdk_68_method_73_code 3 (Option.none : Option FieldType)) := gw W 338 rfl
theorem W339 {g} (W : GW g) : HW g (.methodLink sn1 397 ⟨sn1, "inflateIfNeededFor", sn43⟩) := gw W 339 rfl
theorem W340 {g} (W : GW g) : HW g (.instanceMethod ⟨sn1, "inflateIfNeededFor", sn43⟩) := gw W 340 rfl
theorem W341 {g} (W : GW g) : HW g (.privateMethod ⟨sn1, "inflateIfNeededFor", sn43⟩) := gw W 341 rfl
theorem W342 {g} (W : GW g) : HW g (.selects sn7 ⟨sn1, "inflateIfNeededFor", sn43⟩ ⟨sn1, "inflateIfNeededFor", sn43⟩) := gw W 342 rfl
theorem W343 {g} (W : GW g) : HW g (.code ⟨sn1, "inflateIfNeededFor", sn43⟩ jdk_68_method_71_code 2 (Option.none : Option FieldType)) := gw W 343 rfl
theorem W344 {g} (W : GW g) : HW g (.methodLink sn1 40 ⟨"java/lang/String", "coder", "()B"⟩) := gw W 344 rfl
theorem W345 {g} (W : GW g) : HW g (.methodLink sn1 399 ⟨"java/lang/String", "getBytes", "([BIB)V"⟩) := gw W 345 rfl
theorem W346 {g} (W : GW g) : HW g (.declares ⟨"java/lang/String", "getBytes", "([BIB)V"⟩) := gw W 346 rfl
theorem W347 {g} (W : GW g) : HW g (.instanceMethod ⟨"java/lang/String", "getBytes", "([BIB)V"⟩) := gw W 347 rfl
theorem W348 {g} (W : GW g) : HW g (.selects "java/lang/String" ⟨"java/lang/String", "getBytes", "([BIB)V"⟩ ⟨"java/lang/String", "getBytes", "([BIB)V"⟩) := gw W 348 rfl
theorem W349 {g} (W : GW g) : HW g (.code ⟨"java/lang/String", "getBytes", "([BIB)V"⟩ jdk_42_method_147_code 4 (Option.none : Option FieldType)) := gw W 349 rfl
theorem W350 {g} (W : GW g) : HW g (.methodLink "java/lang/String" 212 ⟨"java/lang/System", "arraycopy", sn34⟩) := gw W 350 rfl
theorem W351 {g} (W : GW g) : HW g (.methodLink sn0 87 ⟨sn7, "toString", sn42⟩) := gw W 351 rfl
theorem W352 {g} (W : GW g) : HW g (.declares ⟨sn7, "toString", sn42⟩) := gw W 352 rfl
theorem W353 {g} (W : GW g) : HW g (.instanceMethod ⟨sn7, "toString", sn42⟩) := gw W 353 rfl
theorem W354 {g} (W : GW g) : HW g (.selects sn7 ⟨sn7, "toString", sn42⟩ ⟨sn7, "toString", sn42⟩) := gw W 354 rfl
theorem W355 {g} (W : GW g) : HW g (.code ⟨sn7, "toString", sn42⟩ jdk_67_method_42_code 1 (Option.some (FieldType.object "java/lang/String"))) := gw W 355 rfl
theorem W356 {g} (W : GW g) : HW g (.classLink sn7 18 "java/lang/String") := gw W 356 rfl
theorem W357 {g} (W : GW g) : HW g (.methodLink sn7 137 ⟨"java/lang/String", "<init>", sn39⟩) := gw W 357 rfl
theorem W358 {g} (W : GW g) : HW g (.instanceMethod ⟨"java/lang/String", "<init>", sn39⟩) := gw W 358 rfl
theorem W359 {g} (W : GW g) : HW g (.code ⟨"java/lang/String", "<init>", sn39⟩ jdk_42_method_53_code 2 (Option.none : Option FieldType)) := gw W 359 rfl
theorem W360 {g} (W : GW g) : HW g (.methodLink "java/lang/String" 489 ⟨"java/lang/String", "<init>", sn23⟩) := gw W 360 rfl
theorem W361 {g} (W : GW g) : HW g (.instanceMethod ⟨"java/lang/String", "<init>", sn23⟩) := gw W 361 rfl
theorem W362 {g} (W : GW g) : HW g (.code ⟨"java/lang/String", "<init>", sn23⟩ jdk_42_method_150_code 5 (Option.none : Option FieldType)) := gw W 362 rfl
theorem W363 {g} (W : GW g) : HW g (.methodLink "java/lang/String" 552 ⟨sn1, "getValue", "()[B"⟩) := gw W 363 rfl
theorem W364 {g} (W : GW g) : HW g (.declares ⟨sn1, "getValue", "()[B"⟩) := gw W 364 rfl
theorem W365 {g} (W : GW g) : HW g (.instanceMethod ⟨sn1, "getValue", "()[B"⟩) := gw W 365 rfl
theorem W366 {g} (W : GW g) : HW g (.selects sn7 ⟨sn1, "getValue", "()[B"⟩ ⟨sn1, "getValue", "()[B"⟩) := gw W 366 rfl
theorem W367 {g} (W : GW g) : HW g (.code ⟨sn1, "getValue", "()[B"⟩ jdk_68_method_64_code 1 (Option.some (FieldType.array FieldType.byte))) := gw W 367 rfl
theorem W368 {g} (W : GW g) : HW g (.methodLink "java/lang/String" 549 ⟨sn1, "length", "()I"⟩) := gw W 368 rfl
theorem W369 {g} (W : GW g) : HW g (.declares ⟨sn1, "length", "()I"⟩) := gw W 369 rfl
theorem W370 {g} (W : GW g) : HW g (.instanceMethod ⟨sn1, "length", "()I"⟩) := gw W 370 rfl
theorem W371 {g} (W : GW g) : HW g (.selects sn7 ⟨sn1, "length", "()I"⟩ ⟨sn7, "length", "()I"⟩) := gw W 371 rfl
theorem W372 {g} (W : GW g) : HW g (.instanceMethod ⟨sn7, "length", "()I"⟩) := gw W 372 rfl
theorem W373 {g} (W : GW g) : HW g (.code ⟨sn7, "length", "()I"⟩ jdk_67_method_93_code 1 (Option.some FieldType.int)) := gw W 373 rfl
theorem W374 {g} (W : GW g) : HW g (.methodLink sn7 343 ⟨sn1, "length", "()I"⟩) := gw W 374 rfl
theorem W375 {g} (W : GW g) : HW g (.code ⟨sn1, "length", "()I"⟩ jdk_68_method_6_code 1 (Option.some FieldType.int)) := gw W 375 rfl
theorem W376 {g} (W : GW g) : HW g (.methodLink "java/lang/String" 1047 ⟨sn1, "isLatin1", "()Z"⟩) := gw W 376 rfl
theorem W377 {g} (W : GW g) : HW g (.declares ⟨sn1, "isLatin1", "()Z"⟩) := gw W 377 rfl
theorem W378 {g} (W : GW g) : HW g (.instanceMethod ⟨sn1, "isLatin1", "()Z"⟩) := gw W 378 rfl
theorem W379 {g} (W : GW g) : HW g (.selects sn7 ⟨sn1, "isLatin1", "()Z"⟩ ⟨sn1, "isLatin1", "()Z"⟩) := gw W 379 rfl
theorem W380 {g} (W : GW g) : HW g (.code ⟨sn1, "isLatin1", "()Z"⟩ jdk_68_method_68_code 1 (Option.some FieldType.boolean)) := gw W 380 rfl
theorem W381 {g} (W : GW g) : HW g (.methodLink "java/lang/String" 54 ⟨"java/util/Arrays", "copyOfRange", "([BII)[B"⟩) := gw W 381 rfl
theorem W382 {g} (W : GW g) : HW g (.static ⟨"java/util/Arrays", "copyOfRange", "([BII)[B"⟩) := gw W 382 rfl
theorem W383 {g} (W : GW g) : HW g (.code ⟨"java/util/Arrays", "copyOfRange", "([BII)[B"⟩ jdk_65_method_132_code 3 (Option.some (FieldType.array FieldType.byte))) := gw W 383 rfl
theorem W384 {g} (W : GW g) : HW g (.methodLink "java/util/Arrays" 339 ⟨"java/util/Arrays", "copyOfRangeByte", "([BII)[B"⟩) := gw W 384 rfl
theorem W385 {g} (W : GW g) : HW g (.static ⟨"java/util/Arrays", "copyOfRangeByte", "([BII)[B"⟩) := gw W 385 rfl
theorem W386 {g} (W : GW g) : HW g (.code ⟨"java/util/Arrays", "copyOfRangeByte", "([BII)[B"⟩ jdk_65_method_133_code 5 (Option.some (FieldType.array FieldType.byte))) := gw W 386 rfl
theorem W387 {g} (W : GW g) : HW g (.methodLink "java/util/Arrays" 343 ⟨"java/util/Arrays", "checkLength", "(II)V"⟩) := gw W 387 rfl
theorem W388 {g} (W : GW g) : HW g (.static ⟨"java/util/Arrays", "checkLength", "(II)V"⟩) := gw W 388 rfl
theorem W389 {g} (W : GW g) : HW g (.code ⟨"java/util/Arrays", "checkLength", "(II)V"⟩ jdk_65_method_131_code 2 (Option.none : Option FieldType)) := gw W 389 rfl
theorem W390 {g} (W : GW g) : HW g (.methodLink sn0 65 ⟨"java/util/List", "add", sn11⟩) := gw W 390 rfl
theorem W391 {g} (W : GW g) : HW g (.declares ⟨"java/util/List", "add", sn11⟩) := gw W 391 rfl
theorem W392 {g} (W : GW g) : HW g (.interfaceMethod "java/util/List" "java/util/List" "add" sn11) := gw W 392 rfl
theorem W393 {g} (W : GW g) : HW g (.selects "java/util/ArrayList" ⟨"java/util/List", "add", sn11⟩ ⟨"java/util/ArrayList", "add", sn11⟩) := gw W 393 rfl
theorem W394 {g} (W : GW g) : HW g (.publicMethod ⟨"java/util/ArrayList", "add", sn11⟩) := gw W 394 rfl
theorem W395 {g} (W : GW g) : HW g (.unhidden "java/util/ArrayList" "add" sn11) := gw W 395 rfl
theorem W396 {g} (W : GW g) : HW g (.castable "java/util/ArrayList" "java/util/List") := gw W 396 rfl
theorem W397 {g} (W : GW g) : HW g (.classLink sn0 16 sn0) := gw W 397 rfl
theorem W398 {g} (W : GW g) : HW g (.methodLink sn0 91 ⟨sn0, "<init>", "(Ljava/util/List;)V"⟩) := gw W 398 rfl
theorem W399 {g} (W : GW g) : HW g (.methodLink sn2 49 ⟨sn0, "lines", "()Ljava/util/List;"⟩) := gw W 399 rfl
theorem W400 {g} (W : GW g) : HW g (.declares ⟨sn0, "lines", "()Ljava/util/List;"⟩) := gw W 400 rfl
theorem W401 {g} (W : GW g) : HW g (.instanceMethod ⟨sn0, "lines", "()Ljava/util/List;"⟩) := gw W 401 rfl
theorem W402 {g} (W : GW g) : HW g (.selects sn0 ⟨sn0, "lines", "()Ljava/util/List;"⟩ ⟨sn0, "lines", "()Ljava/util/List;"⟩) := gw W 402 rfl
theorem W403 {g} (W : GW g) : HW g (.code ⟨sn0, "lines", "()Ljava/util/List;"⟩ prog_6_method_9_code 1 (Option.some (FieldType.object "java/util/List"))) := gw W 403 rfl
theorem W404 {g} (W : GW g) : HW g (.methodLink sn2 53 ⟨sn2, "same", sn32⟩) := gw W 404 rfl
theorem W405 {g} (W : GW g) : HW g (.static ⟨sn2, "same", sn32⟩) := gw W 405 rfl
theorem W406 {g} (W : GW g) : HW g (.code ⟨sn2, "same", sn32⟩ method_6_code 3 (Option.some FieldType.boolean)) := gw W 406 rfl
theorem W407 {g} (W : GW g) : HW g (.methodLink sn2 57 ⟨"java/util/ArrayList", "size", "()I"⟩) := gw W 407 rfl
theorem W408 {g} (W : GW g) : HW g (.declares ⟨"java/util/ArrayList", "size", "()I"⟩) := gw W 408 rfl
theorem W409 {g} (W : GW g) : HW g (.instanceMethod ⟨"java/util/ArrayList", "size", "()I"⟩) := gw W 409 rfl
theorem W410 {g} (W : GW g) : HW g (.selects "java/util/ArrayList" ⟨"java/util/ArrayList", "size", "()I"⟩ ⟨"java/util/ArrayList", "size", "()I"⟩) := gw W 410 rfl
theorem W411 {g} (W : GW g) : HW g (.code ⟨"java/util/ArrayList", "size", "()I"⟩ jdk_38_method_8_code 1 (Option.some FieldType.int)) := gw W 411 rfl
theorem W412 {g} (W : GW g) : HW g (.methodLink sn2 61 ⟨"java/util/List", "size", "()I"⟩) := gw W 412 rfl
theorem W413 {g} (W : GW g) : HW g (.declares ⟨"java/util/List", "size", "()I"⟩) := gw W 413 rfl
theorem W414 {g} (W : GW g) : HW g (.interfaceMethod "java/util/List" "java/util/List" "size" "()I") := gw W 414 rfl
theorem W415 {g} (W : GW g) : HW g (.selects sn3 ⟨"java/util/List", "size", "()I"⟩ ⟨sn3, "size", "()I"⟩) := gw W 415 rfl
theorem W416 {g} (W : GW g) : HW g (.publicMethod ⟨sn3, "size", "()I"⟩) := gw W 416 rfl
theorem W417 {g} (W : GW g) : HW g (.unhidden sn3 "size" "()I") := gw W 417 rfl
theorem W418 {g} (W : GW g) : HW g (.methodLink sn2 64 ⟨"java/util/List", "get", sn9⟩) := gw W 418 rfl
theorem W419 {g} (W : GW g) : HW g (.methodLink sn2 68 ⟨"java/util/ArrayList", "get", sn9⟩) := gw W 419 rfl
theorem W420 {g} (W : GW g) : HW g (.declares ⟨"java/util/ArrayList", "get", sn9⟩) := gw W 420 rfl
theorem W421 {g} (W : GW g) : HW g (.instanceMethod ⟨"java/util/ArrayList", "get", sn9⟩) := gw W 421 rfl
theorem W422 {g} (W : GW g) : HW g (.selects "java/util/ArrayList" ⟨"java/util/ArrayList", "get", sn9⟩ ⟨"java/util/ArrayList", "get", sn9⟩) := gw W 422 rfl
theorem W423 {g} (W : GW g) : HW g (.code ⟨"java/util/ArrayList", "get", sn9⟩ jdk_38_method_20_code 2 (Option.some (FieldType.object "java/lang/Object"))) := gw W 423 rfl
theorem W424 {g} (W : GW g) : HW g (.methodLink "java/util/ArrayList" 118 ⟨"java/util/Objects", "checkIndex", "(II)I"⟩) := gw W 424 rfl
theorem W425 {g} (W : GW g) : HW g (.static ⟨"java/util/Objects", "checkIndex", "(II)I"⟩) := gw W 425 rfl
theorem W426 {g} (W : GW g) : HW g (.code ⟨"java/util/Objects", "checkIndex", "(II)I"⟩ jdk_31_method_17_code 2 (Option.some FieldType.int)) := gw W 426 rfl
theorem W427 {g} (W : GW g) : HW g (.methodLink "java/util/Objects" 105 ⟨sn36, "checkIndex", sn33⟩) := gw W 427 rfl
theorem W428 {g} (W : GW g) : HW g (.static ⟨sn36, "checkIndex", sn33⟩) := gw W 428 rfl
theorem W429 {g} (W : GW g) : HW g (.initialized sn36) := gw W 429 rfl
theorem W430 {g} (W : GW g) : HW g (.code ⟨sn36, "checkIndex", sn33⟩ jdk_41_method_11_code 3 (Option.some FieldType.int)) := gw W 430 rfl
theorem W431 {g} (W : GW g) : HW g (.methodLink "java/util/ArrayList" 123 ⟨"java/util/ArrayList", "elementData", sn9⟩) := gw W 431 rfl
theorem W432 {g} (W : GW g) : HW g (.declares ⟨"java/util/ArrayList", "elementData", sn9⟩) := gw W 432 rfl
theorem W433 {g} (W : GW g) : HW g (.instanceMethod ⟨"java/util/ArrayList", "elementData", sn9⟩) := gw W 433 rfl
theorem W434 {g} (W : GW g) : HW g (.selects "java/util/ArrayList" ⟨"java/util/ArrayList", "elementData", sn9⟩ ⟨"java/util/ArrayList", "elementData", sn9⟩) := gw W 434 rfl
theorem W435 {g} (W : GW g) : HW g (.code ⟨"java/util/ArrayList", "elementData", sn9⟩ jdk_38_method_18_code 2 (Option.some (FieldType.object "java/lang/Object"))) := gw W 435 rfl
theorem W436 {g} (W : GW g) : HW g (.methodLink sn2 69 ⟨"java/lang/String", "equals", sn11⟩) := gw W 436 rfl
theorem W437 {g} (W : GW g) : HW g (.methodLink sn8 26 ⟨"java/util/List", "of", "()Ljava/util/List;"⟩) := gw W 437 rfl
theorem W438 {g} (W : GW g) : HW g (.static ⟨"java/util/List", "of", "()Ljava/util/List;"⟩) := gw W 438 rfl
theorem W439 {g} (W : GW g) : HW g (.code ⟨"java/util/List", "of", "()Ljava/util/List;"⟩ jdk_40_method_36_code 0 (Option.some (FieldType.object "java/util/List"))) := gw W 439 rfl
theorem W440 {g} (W : GW g) : HW g (.fieldLink "java/util/List" 90 sn8 "EMPTY_LIST" sn38) := gw W 440 rfl
theorem W441 {g} (W : GW g) : HW g (.selects sn5 ⟨"java/util/List", "iterator", sn24⟩ ⟨sn6, "iterator", sn24⟩) := gw W 441 rfl
theorem W442 {g} (W : GW g) : HW g (.unhidden sn5 "iterator" sn24) := gw W 442 rfl
theorem W443 {g} (W : GW g) : HW g (.castable sn5 "java/util/List") := gw W 443 rfl
theorem W444 {g} (W : GW g) : HW g (.selects sn5 ⟨sn6, "size", "()I"⟩ ⟨sn5, "size", "()I"⟩) := gw W 444 rfl
theorem W445 {g} (W : GW g) : HW g (.instanceMethod ⟨sn5, "size", "()I"⟩) := gw W 445 rfl
theorem W446 {g} (W : GW g) : HW g (.initialized sn5) := gw W 446 rfl
theorem W447 {g} (W : GW g) : HW g (.code ⟨sn5, "size", "()I"⟩ jdk_45_method_3_code 1 (Option.some FieldType.int)) := gw W 447 rfl
theorem W448 {g} (W : GW g) : HW g (.fieldLink sn5 7 sn5 "elements" "[Ljava/lang/Object;") := gw W 448 rfl
theorem W449 {g} (W : GW g) : HW g (.laysFinal sn5 sn5 "elements" "[Ljava/lang/Object;") := gw W 449 rfl
theorem W450 {g} (W : GW g) : HW g (.selects sn5 ⟨"java/util/List", "size", "()I"⟩ ⟨sn5, "size", "()I"⟩) := gw W 450 rfl
theorem W451 {g} (W : GW g) : HW g (.publicMethod ⟨sn5, "size", "()I"⟩) := gw W 451 rfl
theorem W452 {g} (W : GW g) : HW g (.unhidden sn5 "size" "()I") := gw W 452 rfl
theorem W453 {g} (W : GW g) : HW g (.stringLink sn0 110 "data:") := gw W 453 rfl
theorem W454 {g} (W : GW g) : HW g (.methodLink sn0 62 ⟨"java/lang/String", "startsWith", sn26⟩) := gw W 454 rfl
theorem W455 {g} (W : GW g) : HW g (.declares ⟨"java/lang/String", "startsWith", sn26⟩) := gw W 455 rfl
theorem W456 {g} (W : GW g) : HW g (.instanceMethod ⟨"java/lang/String", "startsWith", sn26⟩) := gw W 456 rfl
theorem W457 {g} (W : GW g) : HW g (.selects "java/lang/String" ⟨"java/lang/String", "startsWith", sn26⟩ ⟨"java/lang/String", "startsWith", sn26⟩) := gw W 457 rfl
theorem W458 {g} (W : GW g) : HW g (.code ⟨"java/lang/String", "startsWith", sn26⟩ jdk_42_method_76_code 2 (Option.some FieldType.boolean)) := gw W 458 rfl
theorem W459 {g} (W : GW g) : HW g (.methodLink "java/lang/String" 624 ⟨"java/lang/String", "startsWith", sn41⟩) := gw W 459 rfl
theorem W460 {g} (W : GW g) : HW g (.declares ⟨"java/lang/String", "startsWith", sn41⟩) := gw W 460 rfl
theorem W461 {g} (W : GW g) : HW g (.instanceMethod ⟨"java/lang/String", "startsWith", sn41⟩) := gw W 461 rfl
theorem W462 {g} (W : GW g) : HW g (.selects "java/lang/String" ⟨"java/lang/String", "startsWith", sn41⟩ ⟨"java/lang/String", "startsWith", sn41⟩) := gw W 462 rfl
theorem W463 {g} (W : GW g) : HW g (.code ⟨"java/lang/String", "startsWith", sn41⟩ jdk_42_method_75_code 8 (Option.some FieldType.boolean)) := gw W 463 rfl
theorem W464 {g} (W : GW g) : HW g (.methodLink "java/lang/String" 505 ⟨"java/lang/String", "length", "()I"⟩) := gw W 464 rfl
theorem W465 {g} (W : GW g) : HW g (.stringLink sn2 14 "") := gw W 465 rfl
theorem W466 {g} (W : GW g) : HW g (.methodLink "java/util/List" 109 ⟨sn8, "listFromArray", sn14⟩) := gw W 466 rfl
theorem W467 {g} (W : GW g) : HW g (.static ⟨sn8, "listFromArray", sn14⟩) := gw W 467 rfl
theorem W468 {g} (W : GW g) : HW g (.code ⟨sn8, "listFromArray", sn14⟩ jdk_56_method_4_code 3 (Option.some (FieldType.object "java/util/List"))) := gw W 468 rfl
theorem W469 {g} (W : GW g) : HW g (.classLink sn8 2 "java/lang/Object") := gw W 469 rfl
theorem W470 {g} (W : GW g) : HW g (.methodLink sn8 37 ⟨"java/util/Objects", "requireNonNull", sn25⟩) := gw W 470 rfl
theorem W471 {g} (W : GW g) : HW g (.instantiable sn5 2) := gw W 471 rfl
theorem W472 {g} (W : GW g) : HW g (.methodLinkNest sn8 43 ⟨sn5, "<init>", sn46⟩ sn8) := gw W 472 rfl
theorem W473 {g} (W : GW g) : HW g (.instanceMethod ⟨sn5, "<init>", sn46⟩) := gw W 473 rfl
theorem W475 {g} (W : GW g) : HW g (.code ⟨sn5, "<init>", sn46⟩ jdk_45_method_1_code 3 (Option.none : Option FieldType)) := gw W 475 rfl
theorem W476 {g} (W : GW g) : HW g (.methodLink sn5 1 ⟨sn6, "<init>", "()V"⟩) := gw W 476 rfl
theorem W480 {g} (W : GW g) : HW g (.fieldLink sn5 13 sn5 "allowNulls" "Z") := gw W 480 rfl
theorem W481 {g} (W : GW g) : HW g (.laysFinal sn5 sn5 "allowNulls" "Z") := gw W 481 rfl
theorem W482 {g} (W : GW g) : HW g (.selects sn5 ⟨"java/util/List", "get", sn9⟩ ⟨sn5, "get", sn9⟩) := gw W 482 rfl
theorem W483 {g} (W : GW g) : HW g (.instanceMethod ⟨sn5, "get", sn9⟩) := gw W 483 rfl
theorem W484 {g} (W : GW g) : HW g (.publicMethod ⟨sn5, "get", sn9⟩) := gw W 484 rfl
theorem W485 {g} (W : GW g) : HW g (.unhidden sn5 "get" sn9) := gw W 485 rfl
theorem W486 {g} (W : GW g) : HW g (.code ⟨sn5, "get", sn9⟩ jdk_45_method_4_code 2 (Option.some (FieldType.object "java/lang/Object"))) := gw W 486 rfl
theorem W487 {g} (W : GW g) : HW g (.methodLink "java/lang/String" 607 ⟨sn37, "mismatch", "([BI[BII)I"⟩) := gw W 487 rfl
theorem W488 {g} (W : GW g) : HW g (.static ⟨sn37, "mismatch", "([BI[BII)I"⟩) := gw W 488 rfl
theorem W489 {g} (W : GW g) : HW g (.initialized sn37) := gw W 489 rfl
theorem W490 {g} (W : GW g) : HW g (.code ⟨sn37, "mismatch", "([BI[BII)I"⟩ jdk_48_method_14_code 8 (Option.some FieldType.int)) := gw W 490 rfl
theorem W491 {g} (W : GW g) : HW g (.methodLink "java/util/List" 100 ⟨sn3, "<init>", sn30⟩) := gw W 491 rfl
theorem W492 {g} (W : GW g) : HW g (.instanceMethod ⟨sn3, "<init>", sn30⟩) := gw W 492 rfl
theorem W493 {g} (W : GW g) : HW g (.code ⟨sn3, "<init>", sn30⟩ jdk_44_method_2_code 3 (Option.none : Option FieldType)) := gw W 493 rfl
abbrev dcd (b : ByteArray) (p : Nat) (i : Instr) (n : Nat) : Prop := decode b p = .ok (i, n)
abbrev y1 := method_3_code
abbrev y2 := jdk_42_method_3_code
abbrev y3 := jdk_42_method_149_code
abbrev y5 := jdk_52_method_16_code
abbrev y6 := jdk_52_method_21_code
abbrev y7 := jdk_52_method_15_code
abbrev y8 := jdk_42_method_139_code
abbrev y9 := jdk_43_method_3_code
abbrev y10 := jdk_43_method_46_code
abbrev y11 := jdk_42_method_151_code
abbrev y12 := jdk_38_method_2_code
abbrev y13 := jdk_39_method_1_code
abbrev y14 := jdk_22_method_1_code
abbrev y15 := jdk_38_method_25_code
abbrev y16 := jdk_38_method_24_code
abbrev y17 := jdk_38_method_7_code
abbrev y18 := jdk_38_method_6_code
abbrev y19 := jdk_29_method_65_code
abbrev y20 := method_4_code
abbrev y21 := method_5_code
abbrev y22 := prog_6_method_1_code
abbrev y23 := jdk_30_method_1_code
abbrev y24 := jdk_40_method_48_code
abbrev y25 := jdk_56_method_3_code
abbrev y26 := jdk_38_method_9_code
abbrev y27 := jdk_38_method_16_code
abbrev y28 := jdk_65_method_119_code
abbrev y29 := jdk_65_method_120_code
abbrev y30 := jdk_29_method_69_code
abbrev y31 := jdk_40_method_47_code
abbrev y32 := jdk_44_method_1_code
abbrev y33 := jdk_46_method_1_code
abbrev y34 := jdk_47_method_1_code
abbrev y35 := jdk_31_method_10_code
abbrev y36 := prog_6_method_3_code
abbrev y37 := jdk_46_method_10_code
abbrev y38 := jdk_44_method_3_code
abbrev y39 := jdk_53_method_1_code
abbrev y40 := jdk_53_method_3_code
abbrev y41 := jdk_44_method_5_code
abbrev y42 := prog_6_method_5_code
abbrev y43 := jdk_42_method_66_code
abbrev y44 := jdk_43_method_13_code
abbrev y45 := jdk_67_method_1_code
abbrev y46 := jdk_68_method_2_code
abbrev y47 := jdk_67_method_7_code
abbrev y48 := jdk_68_method_22_code
abbrev y49 := jdk_42_method_54_code
abbrev y50 := jdk_42_method_152_code
abbrev y51 := jdk_68_method_9_code
abbrev y52 := jdk_68_method_73_code
abbrev y53 := jdk_68_method_71_code
abbrev y54 := jdk_42_method_147_code
abbrev y55 := jdk_67_method_42_code
abbrev y56 := jdk_42_method_53_code
abbrev y57 := jdk_42_method_150_code
abbrev y58 := jdk_68_method_64_code
abbrev y59 := jdk_67_method_93_code
abbrev y60 := jdk_68_method_6_code
abbrev y61 := jdk_68_method_68_code
abbrev y62 := jdk_65_method_132_code
abbrev y63 := jdk_65_method_133_code
abbrev y64 := jdk_65_method_131_code
abbrev y65 := prog_6_method_9_code
abbrev y66 := method_6_code
abbrev y67 := jdk_38_method_8_code
abbrev y68 := jdk_38_method_20_code
abbrev y69 := jdk_31_method_17_code
abbrev y70 := jdk_41_method_11_code
abbrev y71 := jdk_38_method_18_code
abbrev y72 := jdk_40_method_36_code
abbrev y73 := jdk_45_method_3_code
abbrev y74 := jdk_42_method_76_code
abbrev y75 := jdk_42_method_75_code
abbrev y76 := jdk_56_method_4_code
abbrev y77 := jdk_45_method_1_code
abbrev y78 := jdk_45_method_4_code
abbrev y79 := jdk_48_method_14_code
abbrev y80 := jdk_44_method_2_code
abbrev y81 := jdk_53_method_4_code
theorem d1_0 : dcd y1 0 (.iload_n 0) 1 := by decide +kernel
theorem d1_1 : dcd y1 1 (.ifCond .ne 34) 3 := by decide +kernel
theorem d1_4 : dcd y1 4 (.new 17) 3 := by decide +kernel
theorem d1_7 : dcd y1 7 (.dup) 1 := by decide +kernel
theorem d1_8 : dcd y1 8 (.iconst 4) 1 := by decide +kernel
theorem d1_9 : dcd y1 9 (.newarray .char) 2 := by decide +kernel
theorem d1_11 : dcd y1 11 (.dup) 1 := by decide +kernel
theorem d1_12 : dcd y1 12 (.iconst 0) 1 := by decide +kernel
theorem d1_13 : dcd y1 13 (.bipush 100) 2 := by decide +kernel
theorem d1_15 : dcd y1 15 (.castore) 1 := by decide +kernel
theorem d1_16 : dcd y1 16 (.dup) 1 := by decide +kernel
theorem d1_17 : dcd y1 17 (.iconst 1) 1 := by decide +kernel
theorem d1_18 : dcd y1 18 (.bipush 97) 2 := by decide +kernel
theorem d1_20 : dcd y1 20 (.castore) 1 := by decide +kernel
theorem d1_21 : dcd y1 21 (.dup) 1 := by decide +kernel
theorem d1_22 : dcd y1 22 (.iconst 2) 1 := by decide +kernel
theorem d1_23 : dcd y1 23 (.bipush 116) 2 := by decide +kernel
theorem d1_25 : dcd y1 25 (.castore) 1 := by decide +kernel
theorem d1_26 : dcd y1 26 (.dup) 1 := by decide +kernel
theorem d1_27 : dcd y1 27 (.iconst 3) 1 := by decide +kernel
theorem d1_28 : dcd y1 28 (.bipush 97) 2 := by decide +kernel
theorem d1_30 : dcd y1 30 (.castore) 1 := by decide +kernel
theorem d1_31 : dcd y1 31 (.invokespecial 22) 3 := by decide +kernel
theorem d1_34 : dcd y1 34 (.areturn) 1 := by decide +kernel
theorem d1_35 : dcd y1 35 (.iload_n 0) 1 := by decide +kernel
theorem d1_36 : dcd y1 36 (.iconst 1) 1 := by decide +kernel
theorem d1_37 : dcd y1 37 (.if_icmp .ne 44) 3 := by decide +kernel
theorem d1_40 : dcd y1 40 (.new 17) 3 := by decide +kernel
theorem d1_43 : dcd y1 43 (.dup) 1 := by decide +kernel
theorem d1_44 : dcd y1 44 (.bipush 6) 2 := by decide +kernel
theorem d1_46 : dcd y1 46 (.newarray .char) 2 := by decide +kernel
theorem d1_48 : dcd y1 48 (.dup) 1 := by decide +kernel
theorem d1_49 : dcd y1 49 (.iconst 0) 1 := by decide +kernel
theorem d1_50 : dcd y1 50 (.bipush 100) 2 := by decide +kernel
theorem d1_52 : dcd y1 52 (.castore) 1 := by decide +kernel
theorem d1_53 : dcd y1 53 (.dup) 1 := by decide +kernel
theorem d1_54 : dcd y1 54 (.iconst 1) 1 := by decide +kernel
theorem d1_55 : dcd y1 55 (.bipush 97) 2 := by decide +kernel
theorem d1_57 : dcd y1 57 (.castore) 1 := by decide +kernel
theorem d1_58 : dcd y1 58 (.dup) 1 := by decide +kernel
theorem d1_59 : dcd y1 59 (.iconst 2) 1 := by decide +kernel
theorem d1_60 : dcd y1 60 (.bipush 116) 2 := by decide +kernel
theorem d1_62 : dcd y1 62 (.castore) 1 := by decide +kernel
theorem d1_63 : dcd y1 63 (.dup) 1 := by decide +kernel
theorem d1_64 : dcd y1 64 (.iconst 3) 1 := by decide +kernel
theorem d1_65 : dcd y1 65 (.bipush 97) 2 := by decide +kernel
theorem d1_67 : dcd y1 67 (.castore) 1 := by decide +kernel
theorem d1_68 : dcd y1 68 (.dup) 1 := by decide +kernel
theorem d1_69 : dcd y1 69 (.iconst 4) 1 := by decide +kernel
theorem d1_70 : dcd y1 70 (.bipush 58) 2 := by decide +kernel
theorem d1_72 : dcd y1 72 (.castore) 1 := by decide +kernel
theorem d1_73 : dcd y1 73 (.dup) 1 := by decide +kernel
theorem d1_74 : dcd y1 74 (.iconst 5) 1 := by decide +kernel
theorem d1_75 : dcd y1 75 (.iload_n 1) 1 := by decide +kernel
theorem d1_76 : dcd y1 76 (.castore) 1 := by decide +kernel
theorem d1_77 : dcd y1 77 (.invokespecial 22) 3 := by decide +kernel
theorem d1_80 : dcd y1 80 (.areturn) 1 := by decide +kernel
theorem d1_81 : dcd y1 81 (.iload_n 0) 1 := by decide +kernel
theorem d1_82 : dcd y1 82 (.iconst 2) 1 := by decide +kernel
theorem d1_83 : dcd y1 83 (.if_icmp .ne 38) 3 := by decide +kernel
theorem d1_86 : dcd y1 86 (.new 17) 3 := by decide +kernel
theorem d1_89 : dcd y1 89 (.dup) 1 := by decide +kernel
theorem d1_90 : dcd y1 90 (.iconst 5) 1 := by decide +kernel
theorem d1_91 : dcd y1 91 (.newarray .char) 2 := by decide +kernel
theorem d1_93 : dcd y1 93 (.dup) 1 := by decide +kernel
theorem d1_94 : dcd y1 94 (.iconst 0) 1 := by decide +kernel
theorem d1_95 : dcd y1 95 (.bipush 100) 2 := by decide +kernel
theorem d1_97 : dcd y1 97 (.castore) 1 := by decide +kernel
theorem d1_98 : dcd y1 98 (.dup) 1 := by decide +kernel
theorem d1_99 : dcd y1 99 (.iconst 1) 1 := by decide +kernel
theorem d1_100 : dcd y1 100 (.bipush 97) 2 := by decide +kernel
theorem d1_102 : dcd y1 102 (.castore) 1 := by decide +kernel
theorem d1_103 : dcd y1 103 (.dup) 1 := by decide +kernel
theorem d1_104 : dcd y1 104 (.iconst 2) 1 := by decide +kernel
theorem d1_105 : dcd y1 105 (.bipush 116) 2 := by decide +kernel
theorem d1_107 : dcd y1 107 (.castore) 1 := by decide +kernel
theorem d1_108 : dcd y1 108 (.dup) 1 := by decide +kernel
theorem d1_109 : dcd y1 109 (.iconst 3) 1 := by decide +kernel
theorem d1_110 : dcd y1 110 (.bipush 97) 2 := by decide +kernel
theorem d1_112 : dcd y1 112 (.castore) 1 := by decide +kernel
theorem d1_113 : dcd y1 113 (.dup) 1 := by decide +kernel
theorem d1_114 : dcd y1 114 (.iconst 4) 1 := by decide +kernel
theorem d1_115 : dcd y1 115 (.iload_n 1) 1 := by decide +kernel
theorem d1_116 : dcd y1 116 (.castore) 1 := by decide +kernel
theorem d1_117 : dcd y1 117 (.invokespecial 22) 3 := by decide +kernel
theorem d1_120 : dcd y1 120 (.areturn) 1 := by decide +kernel
theorem d1_121 : dcd y1 121 (.iload_n 0) 1 := by decide +kernel
theorem d1_122 : dcd y1 122 (.iconst 3) 1 := by decide +kernel
theorem d1_123 : dcd y1 123 (.if_icmp .ne 6) 3 := by decide +kernel
theorem d1_126 : dcd y1 126 (.ldc 14) 2 := by decide +kernel
theorem d1_128 : dcd y1 128 (.areturn) 1 := by decide +kernel
theorem d1_129 : dcd y1 129 (.iload_n 0) 1 := by decide +kernel
theorem d1_130 : dcd y1 130 (.iconst 4) 1 := by decide +kernel
theorem d1_131 : dcd y1 131 (.if_icmp .ne 29) 3 := by decide +kernel
theorem d1_134 : dcd y1 134 (.new 17) 3 := by decide +kernel
theorem d1_137 : dcd y1 137 (.dup) 1 := by decide +kernel
theorem d1_138 : dcd y1 138 (.iconst 3) 1 := by decide +kernel
theorem d1_139 : dcd y1 139 (.newarray .char) 2 := by decide +kernel
theorem d1_141 : dcd y1 141 (.dup) 1 := by decide +kernel
theorem d1_142 : dcd y1 142 (.iconst 0) 1 := by decide +kernel
theorem d1_143 : dcd y1 143 (.bipush 100) 2 := by decide +kernel
theorem d1_145 : dcd y1 145 (.castore) 1 := by decide +kernel
theorem d1_146 : dcd y1 146 (.dup) 1 := by decide +kernel
theorem d1_147 : dcd y1 147 (.iconst 1) 1 := by decide +kernel
theorem d1_148 : dcd y1 148 (.bipush 97) 2 := by decide +kernel
theorem d1_150 : dcd y1 150 (.castore) 1 := by decide +kernel
theorem d1_151 : dcd y1 151 (.dup) 1 := by decide +kernel
theorem d1_152 : dcd y1 152 (.iconst 2) 1 := by decide +kernel
theorem d1_153 : dcd y1 153 (.bipush 116) 2 := by decide +kernel
theorem d1_155 : dcd y1 155 (.castore) 1 := by decide +kernel
theorem d1_156 : dcd y1 156 (.invokespecial 22) 3 := by decide +kernel
theorem d1_159 : dcd y1 159 (.areturn) 1 := by decide +kernel
theorem d1_160 : dcd y1 160 (.iload_n 0) 1 := by decide +kernel
theorem d1_161 : dcd y1 161 (.iconst 5) 1 := by decide +kernel
theorem d1_162 : dcd y1 162 (.if_icmp .ne 34) 3 := by decide +kernel
theorem d1_165 : dcd y1 165 (.new 17) 3 := by decide +kernel
theorem d1_168 : dcd y1 168 (.dup) 1 := by decide +kernel
theorem d1_169 : dcd y1 169 (.iconst 4) 1 := by decide +kernel
theorem d1_170 : dcd y1 170 (.newarray .char) 2 := by decide +kernel
theorem d1_172 : dcd y1 172 (.dup) 1 := by decide +kernel
theorem d1_173 : dcd y1 173 (.iconst 0) 1 := by decide +kernel
theorem d1_174 : dcd y1 174 (.bipush 68) 2 := by decide +kernel
theorem d1_176 : dcd y1 176 (.castore) 1 := by decide +kernel
theorem d1_177 : dcd y1 177 (.dup) 1 := by decide +kernel
theorem d1_178 : dcd y1 178 (.iconst 1) 1 := by decide +kernel
theorem d1_179 : dcd y1 179 (.bipush 97) 2 := by decide +kernel
theorem d1_181 : dcd y1 181 (.castore) 1 := by decide +kernel
theorem d1_182 : dcd y1 182 (.dup) 1 := by decide +kernel
theorem d1_183 : dcd y1 183 (.iconst 2) 1 := by decide +kernel
theorem d1_184 : dcd y1 184 (.bipush 116) 2 := by decide +kernel
theorem d1_186 : dcd y1 186 (.castore) 1 := by decide +kernel
theorem d1_187 : dcd y1 187 (.dup) 1 := by decide +kernel
theorem d1_188 : dcd y1 188 (.iconst 3) 1 := by decide +kernel
theorem d1_189 : dcd y1 189 (.bipush 97) 2 := by decide +kernel
theorem d1_191 : dcd y1 191 (.castore) 1 := by decide +kernel
theorem d1_192 : dcd y1 192 (.invokespecial 22) 3 := by decide +kernel
theorem d1_195 : dcd y1 195 (.areturn) 1 := by decide +kernel
theorem d1_196 : dcd y1 196 (.iload_n 0) 1 := by decide +kernel
theorem d1_197 : dcd y1 197 (.bipush 6) 2 := by decide +kernel
theorem d1_199 : dcd y1 199 (.if_icmp .ne 38) 3 := by decide +kernel
theorem d1_202 : dcd y1 202 (.new 17) 3 := by decide +kernel
theorem d1_205 : dcd y1 205 (.dup) 1 := by decide +kernel
theorem d1_206 : dcd y1 206 (.iconst 5) 1 := by decide +kernel
theorem d1_207 : dcd y1 207 (.newarray .char) 2 := by decide +kernel
theorem d1_209 : dcd y1 209 (.dup) 1 := by decide +kernel
theorem d1_210 : dcd y1 210 (.iconst 0) 1 := by decide +kernel
theorem d1_211 : dcd y1 211 (.iload_n 1) 1 := by decide +kernel
theorem d1_212 : dcd y1 212 (.castore) 1 := by decide +kernel
theorem d1_213 : dcd y1 213 (.dup) 1 := by decide +kernel
theorem d1_214 : dcd y1 214 (.iconst 1) 1 := by decide +kernel
theorem d1_215 : dcd y1 215 (.bipush 100) 2 := by decide +kernel
theorem d1_217 : dcd y1 217 (.castore) 1 := by decide +kernel
theorem d1_218 : dcd y1 218 (.dup) 1 := by decide +kernel
theorem d1_219 : dcd y1 219 (.iconst 2) 1 := by decide +kernel
theorem d1_220 : dcd y1 220 (.bipush 97) 2 := by decide +kernel
theorem d1_222 : dcd y1 222 (.castore) 1 := by decide +kernel
theorem d1_223 : dcd y1 223 (.dup) 1 := by decide +kernel
theorem d1_224 : dcd y1 224 (.iconst 3) 1 := by decide +kernel
theorem d1_225 : dcd y1 225 (.bipush 116) 2 := by decide +kernel
theorem d1_227 : dcd y1 227 (.castore) 1 := by decide +kernel
theorem d1_228 : dcd y1 228 (.dup) 1 := by decide +kernel
theorem d1_229 : dcd y1 229 (.iconst 4) 1 := by decide +kernel
theorem d1_230 : dcd y1 230 (.bipush 97) 2 := by decide +kernel
theorem d1_232 : dcd y1 232 (.castore) 1 := by decide +kernel
theorem d1_233 : dcd y1 233 (.invokespecial 22) 3 := by decide +kernel
theorem d1_236 : dcd y1 236 (.areturn) 1 := by decide +kernel
theorem d1_237 : dcd y1 237 (.new 17) 3 := by decide +kernel
theorem d1_240 : dcd y1 240 (.dup) 1 := by decide +kernel
theorem d1_241 : dcd y1 241 (.iconst 2) 1 := by decide +kernel
theorem d1_242 : dcd y1 242 (.newarray .char) 2 := by decide +kernel
theorem d1_244 : dcd y1 244 (.dup) 1 := by decide +kernel
theorem d1_245 : dcd y1 245 (.iconst 0) 1 := by decide +kernel
theorem d1_246 : dcd y1 246 (.bipush 58) 2 := by decide +kernel
theorem d1_248 : dcd y1 248 (.castore) 1 := by decide +kernel
theorem d1_249 : dcd y1 249 (.dup) 1 := by decide +kernel
theorem d1_250 : dcd y1 250 (.iconst 1) 1 := by decide +kernel
theorem d1_251 : dcd y1 251 (.iload_n 1) 1 := by decide +kernel
theorem d1_252 : dcd y1 252 (.castore) 1 := by decide +kernel
theorem d1_253 : dcd y1 253 (.invokespecial 22) 3 := by decide +kernel
theorem d1_256 : dcd y1 256 (.areturn) 1 := by decide +kernel
theorem d2_0 : dcd y2 0 (.aload_n 0) 1 := by decide +kernel
theorem d2_1 : dcd y2 1 (.aload_n 1) 1 := by decide +kernel
theorem d2_2 : dcd y2 2 (.iconst 0) 1 := by decide +kernel
theorem d2_3 : dcd y2 3 (.aload_n 1) 1 := by decide +kernel
theorem d2_4 : dcd y2 4 (.arraylength) 1 := by decide +kernel
theorem d2_5 : dcd y2 5 (.aconst_null) 1 := by decide +kernel
theorem d2_6 : dcd y2 6 (.invokespecial 27) 3 := by decide +kernel
theorem d2_9 : dcd y2 9 (.return_) 1 := by decide +kernel
theorem d3_0 : dcd y3 0 (.aload_n 0) 1 := by decide +kernel
theorem d3_1 : dcd y3 1 (.invokespecial 1) 3 := by decide +kernel
theorem d3_4 : dcd y3 4 (.iload_n 3) 1 := by decide +kernel
theorem d3_5 : dcd y3 5 (.ifCond .ne 22) 3 := by decide +kernel
theorem d3_27 : dcd y3 27 (.getstatic 38) 3 := by decide +kernel
theorem d3_30 : dcd y3 30 (.ifCond .eq 28) 3 := by decide +kernel
theorem d3_33 : dcd y3 33 (.aload_n 1) 1 := by decide +kernel
theorem d3_34 : dcd y3 34 (.iload_n 2) 1 := by decide +kernel
theorem d3_35 : dcd y3 35 (.iload_n 3) 1 := by decide +kernel
theorem d3_36 : dcd y3 36 (.invokestatic 177) 3 := by decide +kernel
theorem d3_39 : dcd y3 39 (.astore 5) 2 := by decide +kernel
theorem d3_41 : dcd y3 41 (.aload_n 0) 1 := by decide +kernel
theorem d3_42 : dcd y3 42 (.aload 5) 2 := by decide +kernel
theorem d3_44 : dcd y3 44 (.iload_n 3) 1 := by decide +kernel
theorem d3_45 : dcd y3 45 (.invokestatic 47) 3 := by decide +kernel
theorem d3_48 : dcd y3 48 (.putfield 15) 3 := by decide +kernel
theorem d3_51 : dcd y3 51 (.aload_n 0) 1 := by decide +kernel
theorem d3_52 : dcd y3 52 (.aload 5) 2 := by decide +kernel
theorem d3_54 : dcd y3 54 (.putfield 9) 3 := by decide +kernel
theorem d3_57 : dcd y3 57 (.return_) 1 := by decide +kernel
theorem d5_0 : dcd y5 0 (.iload_n 2) 1 := by decide +kernel
theorem d5_1 : dcd y5 1 (.newarray .byte) 2 := by decide +kernel
theorem d5_3 : dcd y5 3 (.astore_n 3) 1 := by decide +kernel
theorem d5_4 : dcd y5 4 (.aload_n 0) 1 := by decide +kernel
theorem d5_5 : dcd y5 5 (.iload_n 1) 1 := by decide +kernel
theorem d5_6 : dcd y5 6 (.aload_n 3) 1 := by decide +kernel
theorem d5_7 : dcd y5 7 (.iconst 0) 1 := by decide +kernel
theorem d5_8 : dcd y5 8 (.iload_n 2) 1 := by decide +kernel
theorem d5_9 : dcd y5 9 (.invokestatic 115) 3 := by decide +kernel
theorem d5_12 : dcd y5 12 (.istore 4) 2 := by decide +kernel
theorem d5_14 : dcd y5 14 (.iload 4) 2 := by decide +kernel
theorem d5_16 : dcd y5 16 (.iload_n 2) 1 := by decide +kernel
theorem d5_17 : dcd y5 17 (.if_icmp .eq 40) 3 := by decide +kernel
theorem d5_57 : dcd y5 57 (.aload_n 3) 1 := by decide +kernel
theorem d5_58 : dcd y5 58 (.areturn) 1 := by decide +kernel
theorem d6_0 : dcd y6 0 (.iconst 0) 1 := by decide +kernel
theorem d6_1 : dcd y6 1 (.istore 5) 2 := by decide +kernel
theorem d6_3 : dcd y6 3 (.iload 5) 2 := by decide +kernel
theorem d6_5 : dcd y6 5 (.iload 4) 2 := by decide +kernel
theorem d6_7 : dcd y6 7 (.if_icmp .ge 37) 3 := by decide +kernel
theorem d6_10 : dcd y6 10 (.aload_n 0) 1 := by decide +kernel
theorem d6_11 : dcd y6 11 (.iload_n 1) 1 := by decide +kernel
theorem d6_12 : dcd y6 12 (.caload) 1 := by decide +kernel
theorem d6_13 : dcd y6 13 (.istore 6) 2 := by decide +kernel
theorem d6_15 : dcd y6 15 (.iload 6) 2 := by decide +kernel
theorem d6_17 : dcd y6 17 (.sipush 255) 3 := by decide +kernel
theorem d6_20 : dcd y6 20 (.if_icmp .le 6) 3 := by decide +kernel
theorem d6_26 : dcd y6 26 (.aload_n 2) 1 := by decide +kernel
theorem d6_27 : dcd y6 27 (.iload_n 3) 1 := by decide +kernel
theorem d6_28 : dcd y6 28 (.iload 6) 2 := by decide +kernel
theorem d6_30 : dcd y6 30 (.i2b) 1 := by decide +kernel
theorem d6_31 : dcd y6 31 (.bastore) 1 := by decide +kernel
theorem d6_32 : dcd y6 32 (.iinc 1 1) 3 := by decide +kernel
theorem d6_35 : dcd y6 35 (.iinc 3 1) 3 := by decide +kernel
theorem d6_38 : dcd y6 38 (.iinc 5 1) 3 := by decide +kernel
theorem d6_41 : dcd y6 41 (.goto (-38)) 3 := by decide +kernel
theorem d6_44 : dcd y6 44 (.iload 4) 2 := by decide +kernel
theorem d6_46 : dcd y6 46 (.ireturn) 1 := by decide +kernel
theorem d7_0 : dcd y7 0 (.iload_n 1) 1 := by decide +kernel
theorem d7_1 : dcd y7 1 (.aload_n 0) 1 := by decide +kernel
theorem d7_2 : dcd y7 2 (.arraylength) 1 := by decide +kernel
theorem d7_3 : dcd y7 3 (.isub) 1 := by decide +kernel
theorem d7_4 : dcd y7 4 (.bipush 31) 2 := by decide +kernel
theorem d7_6 : dcd y7 6 (.iushr) 1 := by decide +kernel
theorem d7_7 : dcd y7 7 (.i2b) 1 := by decide +kernel
theorem d7_8 : dcd y7 8 (.ireturn) 1 := by decide +kernel
theorem d8_0 : dcd y8 0 (.getstatic 38) 3 := by decide +kernel
theorem d8_3 : dcd y8 3 (.ifCond .eq 23) 3 := by decide +kernel
theorem d8_6 : dcd y8 6 (.iload_n 0) 1 := by decide +kernel
theorem d8_7 : dcd y8 7 (.invokestatic 1015) 3 := by decide +kernel
theorem d8_10 : dcd y8 10 (.ifCond .eq 16) 3 := by decide +kernel
theorem d8_13 : dcd y8 13 (.new 10) 3 := by decide +kernel
theorem d8_16 : dcd y8 16 (.dup) 1 := by decide +kernel
theorem d8_17 : dcd y8 17 (.iload_n 0) 1 := by decide +kernel
theorem d8_18 : dcd y8 18 (.invokestatic 1018) 3 := by decide +kernel
theorem d8_21 : dcd y8 21 (.iconst 0) 1 := by decide +kernel
theorem d8_22 : dcd y8 22 (.invokespecial 209) 3 := by decide +kernel
theorem d8_25 : dcd y8 25 (.areturn) 1 := by decide +kernel
theorem d9_0 : dcd y9 0 (.iload_n 0) 1 := by decide +kernel
theorem d9_1 : dcd y9 1 (.sipush 255) 3 := by decide +kernel
theorem d9_4 : dcd y9 4 (.if_icmp .gt 7) 3 := by decide +kernel
theorem d9_7 : dcd y9 7 (.iconst 1) 1 := by decide +kernel
theorem d9_8 : dcd y9 8 (.goto 4) 3 := by decide +kernel
theorem d9_12 : dcd y9 12 (.ireturn) 1 := by decide +kernel
theorem d10_0 : dcd y10 0 (.iconst 1) 1 := by decide +kernel
theorem d10_1 : dcd y10 1 (.newarray .byte) 2 := by decide +kernel
theorem d10_3 : dcd y10 3 (.dup) 1 := by decide +kernel
theorem d10_4 : dcd y10 4 (.iconst 0) 1 := by decide +kernel
theorem d10_5 : dcd y10 5 (.iload_n 0) 1 := by decide +kernel
theorem d10_6 : dcd y10 6 (.i2b) 1 := by decide +kernel
theorem d10_7 : dcd y10 7 (.bastore) 1 := by decide +kernel
theorem d10_8 : dcd y10 8 (.areturn) 1 := by decide +kernel
theorem d11_0 : dcd y11 0 (.aload_n 0) 1 := by decide +kernel
theorem d11_1 : dcd y11 1 (.invokespecial 1) 3 := by decide +kernel
theorem d11_4 : dcd y11 4 (.aload_n 0) 1 := by decide +kernel
theorem d11_5 : dcd y11 5 (.aload_n 1) 1 := by decide +kernel
theorem d11_6 : dcd y11 6 (.putfield 9) 3 := by decide +kernel
theorem d11_9 : dcd y11 9 (.aload_n 0) 1 := by decide +kernel
theorem d11_10 : dcd y11 10 (.iload_n 2) 1 := by decide +kernel
theorem d11_11 : dcd y11 11 (.putfield 15) 3 := by decide +kernel
theorem d11_14 : dcd y11 14 (.return_) 1 := by decide +kernel
theorem d12_0 : dcd y12 0 (.aload_n 0) 1 := by decide +kernel
theorem d12_1 : dcd y12 1 (.invokespecial 1) 3 := by decide +kernel
theorem d12_4 : dcd y12 4 (.aload_n 0) 1 := by decide +kernel
theorem d12_5 : dcd y12 5 (.getstatic 39) 3 := by decide +kernel
theorem d12_8 : dcd y12 8 (.putfield 9) 3 := by decide +kernel
theorem d12_11 : dcd y12 11 (.return_) 1 := by decide +kernel
theorem d13_0 : dcd y13 0 (.aload_n 0) 1 := by decide +kernel
theorem d13_1 : dcd y13 1 (.invokespecial 1) 3 := by decide +kernel
theorem d13_4 : dcd y13 4 (.aload_n 0) 1 := by decide +kernel
theorem d13_5 : dcd y13 5 (.iconst 0) 1 := by decide +kernel
theorem d13_6 : dcd y13 6 (.putfield 7) 3 := by decide +kernel
theorem d13_9 : dcd y13 9 (.return_) 1 := by decide +kernel
theorem d14_0 : dcd y14 0 (.aload_n 0) 1 := by decide +kernel
theorem d14_1 : dcd y14 1 (.invokespecial 1) 3 := by decide +kernel
theorem d14_4 : dcd y14 4 (.return_) 1 := by decide +kernel
theorem d15_0 : dcd y15 0 (.aload_n 0) 1 := by decide +kernel
theorem d15_1 : dcd y15 1 (.dup) 1 := by decide +kernel
theorem d15_2 : dcd y15 2 (.getfield 63) 3 := by decide +kernel
theorem d15_5 : dcd y15 5 (.iconst 1) 1 := by decide +kernel
theorem d15_6 : dcd y15 6 (.iadd) 1 := by decide +kernel
theorem d15_7 : dcd y15 7 (.putfield 63) 3 := by decide +kernel
theorem d15_10 : dcd y15 10 (.aload_n 0) 1 := by decide +kernel
theorem d15_11 : dcd y15 11 (.aload_n 1) 1 := by decide +kernel
theorem d15_12 : dcd y15 12 (.aload_n 0) 1 := by decide +kernel
theorem d15_13 : dcd y15 13 (.getfield 9) 3 := by decide +kernel
theorem d15_16 : dcd y15 16 (.aload_n 0) 1 := by decide +kernel
theorem d15_17 : dcd y15 17 (.getfield 48) 3 := by decide +kernel
theorem d15_20 : dcd y15 20 (.invokevirtual 131) 3 := by decide +kernel
theorem d15_23 : dcd y15 23 (.iconst 1) 1 := by decide +kernel
theorem d15_24 : dcd y15 24 (.ireturn) 1 := by decide +kernel
theorem d16_0 : dcd y16 0 (.iload_n 3) 1 := by decide +kernel
theorem d16_1 : dcd y16 1 (.aload_n 2) 1 := by decide +kernel
theorem d16_2 : dcd y16 2 (.arraylength) 1 := by decide +kernel
theorem d16_3 : dcd y16 3 (.if_icmp .ne 8) 3 := by decide +kernel
theorem d16_6 : dcd y16 6 (.aload_n 0) 1 := by decide +kernel
theorem d16_7 : dcd y16 7 (.invokevirtual 129) 3 := by decide +kernel
theorem d16_10 : dcd y16 10 (.astore_n 2) 1 := by decide +kernel
theorem d16_11 : dcd y16 11 (.aload_n 2) 1 := by decide +kernel
theorem d16_12 : dcd y16 12 (.iload_n 3) 1 := by decide +kernel
theorem d16_13 : dcd y16 13 (.aload_n 1) 1 := by decide +kernel
theorem d16_14 : dcd y16 14 (.aastore) 1 := by decide +kernel
theorem d16_15 : dcd y16 15 (.aload_n 0) 1 := by decide +kernel
theorem d16_16 : dcd y16 16 (.iload_n 3) 1 := by decide +kernel
theorem d16_17 : dcd y16 17 (.iconst 1) 1 := by decide +kernel
theorem d16_18 : dcd y16 18 (.iadd) 1 := by decide +kernel
theorem d16_19 : dcd y16 19 (.putfield 48) 3 := by decide +kernel
theorem d16_22 : dcd y16 22 (.return_) 1 := by decide +kernel
theorem d17_0 : dcd y17 0 (.aload_n 0) 1 := by decide +kernel
theorem d17_1 : dcd y17 1 (.aload_n 0) 1 := by decide +kernel
theorem d17_2 : dcd y17 2 (.getfield 48) 3 := by decide +kernel
theorem d17_5 : dcd y17 5 (.iconst 1) 1 := by decide +kernel
theorem d17_6 : dcd y17 6 (.iadd) 1 := by decide +kernel
theorem d17_7 : dcd y17 7 (.invokevirtual 69) 3 := by decide +kernel
theorem d17_10 : dcd y17 10 (.areturn) 1 := by decide +kernel
theorem d18_0 : dcd y18 0 (.aload_n 0) 1 := by decide +kernel
theorem d18_1 : dcd y18 1 (.getfield 9) 3 := by decide +kernel
theorem d18_4 : dcd y18 4 (.arraylength) 1 := by decide +kernel
theorem d18_5 : dcd y18 5 (.istore_n 2) 1 := by decide +kernel
theorem d18_6 : dcd y18 6 (.iload_n 2) 1 := by decide +kernel
theorem d18_7 : dcd y18 7 (.ifCond .gt 13) 3 := by decide +kernel
theorem d18_10 : dcd y18 10 (.aload_n 0) 1 := by decide +kernel
theorem d18_11 : dcd y18 11 (.getfield 9) 3 := by decide +kernel
theorem d18_14 : dcd y18 14 (.getstatic 39) 3 := by decide +kernel
theorem d18_17 : dcd y18 17 (.if_acmp .eq 28) 3 := by decide +kernel
theorem d18_45 : dcd y18 45 (.aload_n 0) 1 := by decide +kernel
theorem d18_46 : dcd y18 46 (.bipush 10) 2 := by decide +kernel
theorem d18_48 : dcd y18 48 (.iload_n 1) 1 := by decide +kernel
theorem d18_49 : dcd y18 49 (.invokestatic 79) 3 := by decide +kernel
theorem d18_52 : dcd y18 52 (.anewarray 7) 3 := by decide +kernel
theorem d18_55 : dcd y18 55 (.dup_x1) 1 := by decide +kernel
theorem d18_56 : dcd y18 56 (.putfield 9) 3 := by decide +kernel
theorem d18_59 : dcd y18 59 (.areturn) 1 := by decide +kernel
theorem d19_0 : dcd y19 0 (.iload_n 0) 1 := by decide +kernel
theorem d19_1 : dcd y19 1 (.iload_n 1) 1 := by decide +kernel
theorem d19_2 : dcd y19 2 (.if_icmp .lt 7) 3 := by decide +kernel
theorem d19_5 : dcd y19 5 (.iload_n 0) 1 := by decide +kernel
theorem d19_6 : dcd y19 6 (.goto 4) 3 := by decide +kernel
theorem d19_10 : dcd y19 10 (.ireturn) 1 := by decide +kernel
theorem d20_0 : dcd y20 0 (.iload_n 0) 1 := by decide +kernel
theorem d20_1 : dcd y20 1 (.ifCond .eq 8) 3 := by decide +kernel
theorem d20_4 : dcd y20 4 (.iload_n 0) 1 := by decide +kernel
theorem d20_5 : dcd y20 5 (.iconst 1) 1 := by decide +kernel
theorem d20_6 : dcd y20 6 (.if_icmp .ne 5) 3 := by decide +kernel
theorem d20_9 : dcd y20 9 (.iconst 1) 1 := by decide +kernel
theorem d20_10 : dcd y20 10 (.ireturn) 1 := by decide +kernel
theorem d20_11 : dcd y20 11 (.iload_n 0) 1 := by decide +kernel
theorem d20_12 : dcd y20 12 (.iconst 2) 1 := by decide +kernel
theorem d20_13 : dcd y20 13 (.if_icmp .ne 15) 3 := by decide +kernel
theorem d20_16 : dcd y20 16 (.iload_n 1) 1 := by decide +kernel
theorem d20_17 : dcd y20 17 (.bipush 58) 2 := by decide +kernel
theorem d20_19 : dcd y20 19 (.if_icmp .ne 7) 3 := by decide +kernel
theorem d20_22 : dcd y20 22 (.iconst 1) 1 := by decide +kernel
theorem d20_23 : dcd y20 23 (.goto 4) 3 := by decide +kernel
theorem d20_26 : dcd y20 26 (.iconst 0) 1 := by decide +kernel
theorem d20_27 : dcd y20 27 (.ireturn) 1 := by decide +kernel
theorem d20_28 : dcd y20 28 (.iconst 0) 1 := by decide +kernel
theorem d20_29 : dcd y20 29 (.ireturn) 1 := by decide +kernel
theorem d21_0 : dcd y21 0 (.iload_n 2) 1 := by decide +kernel
theorem d21_1 : dcd y21 1 (.ifCond .ne 11) 3 := by decide +kernel
theorem d21_4 : dcd y21 4 (.aload_n 0) 1 := by decide +kernel
theorem d21_5 : dcd y21 5 (.aload_n 1) 1 := by decide +kernel
theorem d21_6 : dcd y21 6 (.invokevirtual 28) 3 := by decide +kernel
theorem d21_9 : dcd y21 9 (.pop) 1 := by decide +kernel
theorem d21_10 : dcd y21 10 (.iload_n 3) 1 := by decide +kernel
theorem d21_11 : dcd y21 11 (.ireturn) 1 := by decide +kernel
theorem d21_12 : dcd y21 12 (.iload_n 3) 1 := by decide +kernel
theorem d21_13 : dcd y21 13 (.ifCond .ne 10) 3 := by decide +kernel
theorem d21_16 : dcd y21 16 (.aload_n 0) 1 := by decide +kernel
theorem d21_17 : dcd y21 17 (.aload 4) 2 := by decide +kernel
theorem d21_19 : dcd y21 19 (.invokevirtual 28) 3 := by decide +kernel
theorem d21_22 : dcd y21 22 (.pop) 1 := by decide +kernel
theorem d21_23 : dcd y21 23 (.iconst 1) 1 := by decide +kernel
theorem d21_24 : dcd y21 24 (.ireturn) 1 := by decide +kernel
theorem d22_0 : dcd y22 0 (.aload_n 0) 1 := by decide +kernel
theorem d22_1 : dcd y22 1 (.invokespecial 3) 3 := by decide +kernel
theorem d22_4 : dcd y22 4 (.aload_n 1) 1 := by decide +kernel
theorem d22_5 : dcd y22 5 (.invokestatic 9) 3 := by decide +kernel
theorem d22_8 : dcd y22 8 (.astore_n 1) 1 := by decide +kernel
theorem d22_9 : dcd y22 9 (.aload_n 0) 1 := by decide +kernel
theorem d22_10 : dcd y22 10 (.aload_n 1) 1 := by decide +kernel
theorem d22_11 : dcd y22 11 (.putfield 15) 3 := by decide +kernel
theorem d22_14 : dcd y22 14 (.return_) 1 := by decide +kernel
theorem d23_0 : dcd y23 0 (.aload_n 0) 1 := by decide +kernel
theorem d23_1 : dcd y23 1 (.invokespecial 1) 3 := by decide +kernel
theorem d23_4 : dcd y23 4 (.return_) 1 := by decide +kernel
theorem d24_0 : dcd y24 0 (.aload_n 0) 1 := by decide +kernel
theorem d24_1 : dcd y24 1 (.invokestatic 112) 3 := by decide +kernel
theorem d24_4 : dcd y24 4 (.areturn) 1 := by decide +kernel
theorem d25_0 : dcd y25 0 (.aload_n 0) 1 := by decide +kernel
theorem d25_1 : dcd y25 1 (.instanceof 10) 3 := by decide +kernel
theorem d25_4 : dcd y25 4 (.ifCond .ne 22) 3 := by decide +kernel
theorem d25_7 : dcd y25 7 (.aload_n 0) 1 := by decide +kernel
theorem d25_8 : dcd y25 8 (.instanceof 12) 3 := by decide +kernel
theorem d25_11 : dcd y25 11 (.ifCond .eq 20) 3 := by decide +kernel
theorem d25_31 : dcd y25 31 (.aload_n 0) 1 := by decide +kernel
theorem d25_32 : dcd y25 32 (.invokeinterface 20 1) 5 := by decide +kernel
theorem d25_37 : dcd y25 37 (.ifCond .eq 7) 3 := by decide +kernel
theorem d25_40 : dcd y25 40 (.invokestatic 26) 3 := by decide +kernel
theorem d25_43 : dcd y25 43 (.areturn) 1 := by decide +kernel
theorem d25_44 : dcd y25 44 (.aload_n 0) 1 := by decide +kernel
theorem d25_45 : dcd y25 45 (.invokeinterface 30 1) 5 := by decide +kernel
theorem d25_50 : dcd y25 50 (.invokestatic 34) 3 := by decide +kernel
theorem d25_53 : dcd y25 53 (.areturn) 1 := by decide +kernel
theorem d26_0 : dcd y26 0 (.aload_n 0) 1 := by decide +kernel
theorem d26_1 : dcd y26 1 (.getfield 48) 3 := by decide +kernel
theorem d26_4 : dcd y26 4 (.ifCond .ne 7) 3 := by decide +kernel
theorem d26_7 : dcd y26 7 (.iconst 1) 1 := by decide +kernel
theorem d26_8 : dcd y26 8 (.goto 4) 3 := by decide +kernel
theorem d26_11 : dcd y26 11 (.iconst 0) 1 := by decide +kernel
theorem d26_12 : dcd y26 12 (.ireturn) 1 := by decide +kernel
theorem d27_0 : dcd y27 0 (.aload_n 0) 1 := by decide +kernel
theorem d27_1 : dcd y27 1 (.getfield 9) 3 := by decide +kernel
theorem d27_4 : dcd y27 4 (.aload_n 0) 1 := by decide +kernel
theorem d27_5 : dcd y27 5 (.getfield 48) 3 := by decide +kernel
theorem d27_8 : dcd y27 8 (.invokestatic 66) 3 := by decide +kernel
theorem d27_11 : dcd y27 11 (.areturn) 1 := by decide +kernel
theorem d28_0 : dcd y28 0 (.aload_n 0) 1 := by decide +kernel
theorem d28_1 : dcd y28 1 (.iload_n 1) 1 := by decide +kernel
theorem d28_2 : dcd y28 2 (.aload_n 0) 1 := by decide +kernel
theorem d28_3 : dcd y28 3 (.invokevirtual 86) 3 := by decide +kernel
theorem d28_6 : dcd y28 6 (.invokestatic 300) 3 := by decide +kernel
theorem d28_9 : dcd y28 9 (.areturn) 1 := by decide +kernel
theorem d29_0 : dcd y29 0 (.aload_n 2) 1 := by decide +kernel
theorem d29_1 : dcd y29 1 (.ldc 110) 2 := by decide +kernel
theorem d29_3 : dcd y29 3 (.if_acmp .ne 10) 3 := by decide +kernel
theorem d29_6 : dcd y29 6 (.iload_n 1) 1 := by decide +kernel
theorem d29_7 : dcd y29 7 (.anewarray 2) 3 := by decide +kernel
theorem d29_10 : dcd y29 10 (.goto 14) 3 := by decide +kernel
theorem d29_24 : dcd y29 24 (.astore_n 3) 1 := by decide +kernel
theorem d29_25 : dcd y29 25 (.aload_n 0) 1 := by decide +kernel
theorem d29_26 : dcd y29 26 (.iconst 0) 1 := by decide +kernel
theorem d29_27 : dcd y29 27 (.aload_n 3) 1 := by decide +kernel
theorem d29_28 : dcd y29 28 (.iconst 0) 1 := by decide +kernel
theorem d29_29 : dcd y29 29 (.aload_n 0) 1 := by decide +kernel
theorem d29_30 : dcd y29 30 (.arraylength) 1 := by decide +kernel
theorem d29_31 : dcd y29 31 (.iload_n 1) 1 := by decide +kernel
theorem d29_32 : dcd y29 32 (.invokestatic 304) 3 := by decide +kernel
theorem d29_35 : dcd y29 35 (.invokestatic 150) 3 := by decide +kernel
theorem d29_38 : dcd y29 38 (.aload_n 3) 1 := by decide +kernel
theorem d29_39 : dcd y29 39 (.areturn) 1 := by decide +kernel
theorem d30_0 : dcd y30 0 (.iload_n 0) 1 := by decide +kernel
theorem d30_1 : dcd y30 1 (.iload_n 1) 1 := by decide +kernel
theorem d30_2 : dcd y30 2 (.if_icmp .gt 7) 3 := by decide +kernel
theorem d30_9 : dcd y30 9 (.iload_n 1) 1 := by decide +kernel
theorem d30_10 : dcd y30 10 (.ireturn) 1 := by decide +kernel
theorem d31_0 : dcd y31 0 (.aload_n 0) 1 := by decide +kernel
theorem d31_1 : dcd y31 1 (.arraylength) 1 := by decide +kernel
theorem d31_2 : dcd y31 2 (.tableswitch 57 0 2 #[26, 32, 43]) 26 := by decide +kernel
theorem d31_34 : dcd y31 34 (.new 96) 3 := by decide +kernel
theorem d31_37 : dcd y31 37 (.dup) 1 := by decide +kernel
theorem d31_38 : dcd y31 38 (.aload_n 0) 1 := by decide +kernel
theorem d31_39 : dcd y31 39 (.iconst 0) 1 := by decide +kernel
theorem d31_40 : dcd y31 40 (.aaload) 1 := by decide +kernel
theorem d31_41 : dcd y31 41 (.invokespecial 98) 3 := by decide +kernel
theorem d31_44 : dcd y31 44 (.areturn) 1 := by decide +kernel
theorem d31_45 : dcd y31 45 (.new 96) 3 := by decide +kernel
theorem d31_48 : dcd y31 48 (.dup) 1 := by decide +kernel
theorem d31_49 : dcd y31 49 (.aload_n 0) 1 := by decide +kernel
theorem d31_50 : dcd y31 50 (.iconst 0) 1 := by decide +kernel
theorem d31_51 : dcd y31 51 (.aaload) 1 := by decide +kernel
theorem d31_52 : dcd y31 52 (.aload_n 0) 1 := by decide +kernel
theorem d31_53 : dcd y31 53 (.iconst 1) 1 := by decide +kernel
theorem d31_54 : dcd y31 54 (.aaload) 1 := by decide +kernel
theorem d31_55 : dcd y31 55 (.invokespecial 100) 3 := by decide +kernel
theorem d31_58 : dcd y31 58 (.areturn) 1 := by decide +kernel
theorem d31_59 : dcd y31 59 (.aload_n 0) 1 := by decide +kernel
theorem d31_60 : dcd y31 60 (.invokestatic 109) 3 := by decide +kernel
theorem d31_63 : dcd y31 63 (.areturn) 1 := by decide +kernel
theorem d32_0 : dcd y32 0 (.aload_n 0) 1 := by decide +kernel
theorem d32_1 : dcd y32 1 (.invokespecial 1) 3 := by decide +kernel
theorem d32_4 : dcd y32 4 (.aload_n 0) 1 := by decide +kernel
theorem d32_5 : dcd y32 5 (.aload_n 1) 1 := by decide +kernel
theorem d32_6 : dcd y32 6 (.invokestatic 7) 3 := by decide +kernel
theorem d32_9 : dcd y32 9 (.putfield 13) 3 := by decide +kernel
theorem d32_12 : dcd y32 12 (.aload_n 0) 1 := by decide +kernel
theorem d32_13 : dcd y32 13 (.getstatic 19) 3 := by decide +kernel
theorem d32_16 : dcd y32 16 (.putfield 24) 3 := by decide +kernel
theorem d32_19 : dcd y32 19 (.return_) 1 := by decide +kernel
theorem d33_0 : dcd y33 0 (.aload_n 0) 1 := by decide +kernel
theorem d33_1 : dcd y33 1 (.invokespecial 1) 3 := by decide +kernel
theorem d33_4 : dcd y33 4 (.return_) 1 := by decide +kernel
theorem d34_0 : dcd y34 0 (.aload_n 0) 1 := by decide +kernel
theorem d34_1 : dcd y34 1 (.invokespecial 1) 3 := by decide +kernel
theorem d34_4 : dcd y34 4 (.return_) 1 := by decide +kernel
theorem d35_0 : dcd y35 0 (.aload_n 0) 1 := by decide +kernel
theorem d35_1 : dcd y35 1 (.ifnonnull 11) 3 := by decide +kernel
theorem d35_12 : dcd y35 12 (.aload_n 0) 1 := by decide +kernel
theorem d35_13 : dcd y35 13 (.areturn) 1 := by decide +kernel
theorem d36_0 : dcd y36 0 (.new 21) 3 := by decide +kernel
theorem d36_3 : dcd y36 3 (.dup) 1 := by decide +kernel
theorem d36_4 : dcd y36 4 (.invokespecial 23) 3 := by decide +kernel
theorem d36_7 : dcd y36 7 (.astore_n 2) 1 := by decide +kernel
theorem d36_8 : dcd y36 8 (.iconst 0) 1 := by decide +kernel
theorem d36_9 : dcd y36 9 (.istore_n 3) 1 := by decide +kernel
theorem d36_10 : dcd y36 10 (.aload_n 0) 1 := by decide +kernel
theorem d36_11 : dcd y36 11 (.getfield 15) 3 := by decide +kernel
theorem d36_14 : dcd y36 14 (.invokeinterface 24 1) 5 := by decide +kernel
theorem d36_19 : dcd y36 19 (.astore 4) 2 := by decide +kernel
theorem d36_21 : dcd y36 21 (.aload 4) 2 := by decide +kernel
theorem d36_23 : dcd y36 23 (.invokeinterface 28 1) 5 := by decide +kernel
theorem d36_28 : dcd y36 28 (.ifCond .eq 70) 3 := by decide +kernel
theorem d36_31 : dcd y36 31 (.aload 4) 2 := by decide +kernel
theorem d36_33 : dcd y36 33 (.invokeinterface 34 1) 5 := by decide +kernel
theorem d36_38 : dcd y36 38 (.checkcast 38) 3 := by decide +kernel
theorem d36_41 : dcd y36 41 (.astore 5) 2 := by decide +kernel
theorem d36_43 : dcd y36 43 (.aload 5) 2 := by decide +kernel
theorem d36_45 : dcd y36 45 (.invokestatic 40) 3 := by decide +kernel
theorem d36_48 : dcd y36 48 (.ifCond .ne 15) 3 := by decide +kernel
theorem d36_51 : dcd y36 51 (.aload_n 2) 1 := by decide +kernel
theorem d36_52 : dcd y36 52 (.aload 5) 2 := by decide +kernel
theorem d36_54 : dcd y36 54 (.invokeinterface 65 2) 5 := by decide +kernel
theorem d36_59 : dcd y36 59 (.pop) 1 := by decide +kernel
theorem d36_60 : dcd y36 60 (.goto 35) 3 := by decide +kernel
theorem d36_63 : dcd y36 63 (.iload_n 3) 1 := by decide +kernel
theorem d36_64 : dcd y36 64 (.ifCond .ne 31) 3 := by decide +kernel
theorem d36_67 : dcd y36 67 (.aload_n 2) 1 := by decide +kernel
theorem d36_68 : dcd y36 68 (.new 78) 3 := by decide +kernel
theorem d36_71 : dcd y36 71 (.dup) 1 := by decide +kernel
theorem d36_72 : dcd y36 72 (.invokespecial 80) 3 := by decide +kernel
theorem d36_75 : dcd y36 75 (.ldc 81) 2 := by decide +kernel
theorem d36_77 : dcd y36 77 (.invokevirtual 83) 3 := by decide +kernel
theorem d36_80 : dcd y36 80 (.aload_n 1) 1 := by decide +kernel
theorem d36_81 : dcd y36 81 (.invokevirtual 83) 3 := by decide +kernel
theorem d36_84 : dcd y36 84 (.invokevirtual 87) 3 := by decide +kernel
theorem d36_87 : dcd y36 87 (.invokeinterface 65 2) 5 := by decide +kernel
theorem d36_92 : dcd y36 92 (.pop) 1 := by decide +kernel
theorem d36_93 : dcd y36 93 (.iconst 1) 1 := by decide +kernel
theorem d36_94 : dcd y36 94 (.istore_n 3) 1 := by decide +kernel
theorem d36_95 : dcd y36 95 (.goto (-74)) 3 := by decide +kernel
theorem d36_98 : dcd y36 98 (.new 16) 3 := by decide +kernel
theorem d36_101 : dcd y36 101 (.dup) 1 := by decide +kernel
theorem d36_102 : dcd y36 102 (.aload_n 2) 1 := by decide +kernel
theorem d36_103 : dcd y36 103 (.invokespecial 91) 3 := by decide +kernel
theorem d36_106 : dcd y36 106 (.areturn) 1 := by decide +kernel
theorem d37_0 : dcd y37 0 (.new 61) 3 := by decide +kernel
theorem d37_3 : dcd y37 3 (.dup) 1 := by decide +kernel
theorem d37_4 : dcd y37 4 (.aload_n 0) 1 := by decide +kernel
theorem d37_5 : dcd y37 5 (.aload_n 0) 1 := by decide +kernel
theorem d37_6 : dcd y37 6 (.invokevirtual 13) 3 := by decide +kernel
theorem d37_9 : dcd y37 9 (.invokespecial 63) 3 := by decide +kernel
theorem d37_12 : dcd y37 12 (.areturn) 1 := by decide +kernel
theorem d38_0 : dcd y38 0 (.aload_n 0) 1 := by decide +kernel
theorem d38_1 : dcd y38 1 (.getfield 24) 3 := by decide +kernel
theorem d38_4 : dcd y38 4 (.getstatic 19) 3 := by decide +kernel
theorem d38_7 : dcd y38 7 (.if_acmp .eq 7) 3 := by decide +kernel
theorem d38_10 : dcd y38 10 (.iconst 2) 1 := by decide +kernel
theorem d38_11 : dcd y38 11 (.goto 4) 3 := by decide +kernel
theorem d38_14 : dcd y38 14 (.iconst 1) 1 := by decide +kernel
theorem d38_15 : dcd y38 15 (.ireturn) 1 := by decide +kernel
theorem d39_0 : dcd y39 0 (.aload_n 0) 1 := by decide +kernel
theorem d39_1 : dcd y39 1 (.invokespecial 1) 3 := by decide +kernel
theorem d39_4 : dcd y39 4 (.aload_n 0) 1 := by decide +kernel
theorem d39_5 : dcd y39 5 (.aload_n 1) 1 := by decide +kernel
theorem d39_6 : dcd y39 6 (.putfield 7) 3 := by decide +kernel
theorem d39_9 : dcd y39 9 (.aload_n 0) 1 := by decide +kernel
theorem d39_10 : dcd y39 10 (.iload_n 2) 1 := by decide +kernel
theorem d39_11 : dcd y39 11 (.putfield 13) 3 := by decide +kernel
theorem d39_14 : dcd y39 14 (.aload_n 0) 1 := by decide +kernel
theorem d39_15 : dcd y39 15 (.iconst 0) 1 := by decide +kernel
theorem d39_16 : dcd y39 16 (.putfield 17) 3 := by decide +kernel
theorem d39_19 : dcd y39 19 (.aload_n 0) 1 := by decide +kernel
theorem d39_20 : dcd y39 20 (.iconst 0) 1 := by decide +kernel
theorem d39_21 : dcd y39 21 (.putfield 20) 3 := by decide +kernel
theorem d39_24 : dcd y39 24 (.return_) 1 := by decide +kernel
theorem d40_0 : dcd y40 0 (.aload_n 0) 1 := by decide +kernel
theorem d40_1 : dcd y40 1 (.getfield 17) 3 := by decide +kernel
theorem d40_4 : dcd y40 4 (.aload_n 0) 1 := by decide +kernel
theorem d40_5 : dcd y40 5 (.getfield 13) 3 := by decide +kernel
theorem d40_8 : dcd y40 8 (.if_icmp .eq 7) 3 := by decide +kernel
theorem d40_11 : dcd y40 11 (.iconst 1) 1 := by decide +kernel
theorem d40_12 : dcd y40 12 (.goto 4) 3 := by decide +kernel
theorem d40_15 : dcd y40 15 (.iconst 0) 1 := by decide +kernel
theorem d40_16 : dcd y40 16 (.ireturn) 1 := by decide +kernel
theorem d41_0 : dcd y41 0 (.iload_n 1) 1 := by decide +kernel
theorem d41_1 : dcd y41 1 (.ifCond .ne 8) 3 := by decide +kernel
theorem d41_4 : dcd y41 4 (.aload_n 0) 1 := by decide +kernel
theorem d41_5 : dcd y41 5 (.getfield 13) 3 := by decide +kernel
theorem d41_8 : dcd y41 8 (.areturn) 1 := by decide +kernel
theorem d41_9 : dcd y41 9 (.iload_n 1) 1 := by decide +kernel
theorem d41_10 : dcd y41 10 (.iconst 1) 1 := by decide +kernel
theorem d41_11 : dcd y41 11 (.if_icmp .ne 18) 3 := by decide +kernel
theorem d41_14 : dcd y41 14 (.aload_n 0) 1 := by decide +kernel
theorem d41_15 : dcd y41 15 (.getfield 24) 3 := by decide +kernel
theorem d41_18 : dcd y41 18 (.getstatic 19) 3 := by decide +kernel
theorem d41_21 : dcd y41 21 (.if_acmp .eq 8) 3 := by decide +kernel
theorem d41_24 : dcd y41 24 (.aload_n 0) 1 := by decide +kernel
theorem d41_25 : dcd y41 25 (.getfield 24) 3 := by decide +kernel
theorem d41_28 : dcd y41 28 (.areturn) 1 := by decide +kernel
theorem d42_0 : dcd y42 0 (.aload_n 0) 1 := by decide +kernel
theorem d42_1 : dcd y42 1 (.ldc 48) 2 := by decide +kernel
theorem d42_3 : dcd y42 3 (.invokevirtual 107) 3 := by decide +kernel
theorem d42_6 : dcd y42 6 (.ifCond .ne 12) 3 := by decide +kernel
theorem d42_9 : dcd y42 9 (.aload_n 0) 1 := by decide +kernel
theorem d42_10 : dcd y42 10 (.ldc 110) 2 := by decide +kernel
theorem d42_12 : dcd y42 12 (.invokevirtual 62) 3 := by decide +kernel
theorem d42_15 : dcd y42 15 (.ifCond .eq 7) 3 := by decide +kernel
theorem d42_18 : dcd y42 18 (.iconst 1) 1 := by decide +kernel
theorem d42_19 : dcd y42 19 (.goto 4) 3 := by decide +kernel
theorem d42_22 : dcd y42 22 (.iconst 0) 1 := by decide +kernel
theorem d42_23 : dcd y42 23 (.ireturn) 1 := by decide +kernel
theorem d43_0 : dcd y43 0 (.aload_n 0) 1 := by decide +kernel
theorem d43_1 : dcd y43 1 (.aload_n 1) 1 := by decide +kernel
theorem d43_2 : dcd y43 2 (.if_acmp .ne 5) 3 := by decide +kernel
theorem d43_5 : dcd y43 5 (.iconst 1) 1 := by decide +kernel
theorem d43_6 : dcd y43 6 (.ireturn) 1 := by decide +kernel
theorem d43_7 : dcd y43 7 (.aload_n 1) 1 := by decide +kernel
theorem d43_8 : dcd y43 8 (.instanceof 10) 3 := by decide +kernel
theorem d43_11 : dcd y43 11 (.ifCond .eq 43) 3 := by decide +kernel
theorem d43_14 : dcd y43 14 (.aload_n 1) 1 := by decide +kernel
theorem d43_15 : dcd y43 15 (.checkcast 10) 3 := by decide +kernel
theorem d43_18 : dcd y43 18 (.astore_n 2) 1 := by decide +kernel
theorem d43_19 : dcd y43 19 (.getstatic 38) 3 := by decide +kernel
theorem d43_22 : dcd y43 22 (.ifCond .eq 14) 3 := by decide +kernel
theorem d43_25 : dcd y43 25 (.aload_n 0) 1 := by decide +kernel
theorem d43_26 : dcd y43 26 (.getfield 15) 3 := by decide +kernel
theorem d43_29 : dcd y43 29 (.aload_n 2) 1 := by decide +kernel
theorem d43_30 : dcd y43 30 (.getfield 15) 3 := by decide +kernel
theorem d43_33 : dcd y43 33 (.if_icmp .ne 21) 3 := by decide +kernel
theorem d43_36 : dcd y43 36 (.aload_n 0) 1 := by decide +kernel
theorem d43_37 : dcd y43 37 (.getfield 9) 3 := by decide +kernel
theorem d43_40 : dcd y43 40 (.aload_n 2) 1 := by decide +kernel
theorem d43_41 : dcd y43 41 (.getfield 9) 3 := by decide +kernel
theorem d43_44 : dcd y43 44 (.invokestatic 541) 3 := by decide +kernel
theorem d43_47 : dcd y43 47 (.ifCond .eq 7) 3 := by decide +kernel
theorem d43_50 : dcd y43 50 (.iconst 1) 1 := by decide +kernel
theorem d43_51 : dcd y43 51 (.goto 4) 3 := by decide +kernel
theorem d43_54 : dcd y43 54 (.iconst 0) 1 := by decide +kernel
theorem d43_55 : dcd y43 55 (.ireturn) 1 := by decide +kernel
theorem d44_0 : dcd y44 0 (.aload_n 0) 1 := by decide +kernel
theorem d44_1 : dcd y44 1 (.arraylength) 1 := by decide +kernel
theorem d44_2 : dcd y44 2 (.aload_n 1) 1 := by decide +kernel
theorem d44_3 : dcd y44 3 (.arraylength) 1 := by decide +kernel
theorem d44_4 : dcd y44 4 (.if_icmp .ne 30) 3 := by decide +kernel
theorem d44_7 : dcd y44 7 (.iconst 0) 1 := by decide +kernel
theorem d44_8 : dcd y44 8 (.istore_n 2) 1 := by decide +kernel
theorem d44_9 : dcd y44 9 (.iload_n 2) 1 := by decide +kernel
theorem d44_10 : dcd y44 10 (.aload_n 0) 1 := by decide +kernel
theorem d44_11 : dcd y44 11 (.arraylength) 1 := by decide +kernel
theorem d44_12 : dcd y44 12 (.if_icmp .ge 20) 3 := by decide +kernel
theorem d44_15 : dcd y44 15 (.aload_n 0) 1 := by decide +kernel
theorem d44_16 : dcd y44 16 (.iload_n 2) 1 := by decide +kernel
theorem d44_17 : dcd y44 17 (.baload) 1 := by decide +kernel
theorem d44_18 : dcd y44 18 (.aload_n 1) 1 := by decide +kernel
theorem d44_19 : dcd y44 19 (.iload_n 2) 1 := by decide +kernel
theorem d44_20 : dcd y44 20 (.baload) 1 := by decide +kernel
theorem d44_21 : dcd y44 21 (.if_icmp .eq 5) 3 := by decide +kernel
theorem d44_24 : dcd y44 24 (.iconst 0) 1 := by decide +kernel
theorem d44_25 : dcd y44 25 (.ireturn) 1 := by decide +kernel
theorem d44_26 : dcd y44 26 (.iinc 2 1) 3 := by decide +kernel
theorem d44_29 : dcd y44 29 (.goto (-20)) 3 := by decide +kernel
theorem d44_32 : dcd y44 32 (.iconst 1) 1 := by decide +kernel
theorem d44_33 : dcd y44 33 (.ireturn) 1 := by decide +kernel
theorem d44_34 : dcd y44 34 (.iconst 0) 1 := by decide +kernel
theorem d44_35 : dcd y44 35 (.ireturn) 1 := by decide +kernel
theorem d45_0 : dcd y45 0 (.aload_n 0) 1 := by decide +kernel
theorem d45_1 : dcd y45 1 (.bipush 16) 2 := by decide +kernel
theorem d45_3 : dcd y45 3 (.invokespecial 1) 3 := by decide +kernel
theorem d45_6 : dcd y45 6 (.return_) 1 := by decide +kernel
theorem d46_0 : dcd y46 0 (.aload_n 0) 1 := by decide +kernel
theorem d46_1 : dcd y46 1 (.invokespecial 3) 3 := by decide +kernel
theorem d46_4 : dcd y46 4 (.getstatic 18) 3 := by decide +kernel
theorem d46_7 : dcd y46 7 (.ifCond .eq 18) 3 := by decide +kernel
theorem d46_10 : dcd y46 10 (.aload_n 0) 1 := by decide +kernel
theorem d46_11 : dcd y46 11 (.iload_n 1) 1 := by decide +kernel
theorem d46_12 : dcd y46 12 (.newarray .byte) 2 := by decide +kernel
theorem d46_14 : dcd y46 14 (.putfield 15) 3 := by decide +kernel
theorem d46_17 : dcd y46 17 (.aload_n 0) 1 := by decide +kernel
theorem d46_18 : dcd y46 18 (.iconst 0) 1 := by decide +kernel
theorem d46_19 : dcd y46 19 (.putfield 22) 3 := by decide +kernel
theorem d46_22 : dcd y46 22 (.goto 16) 3 := by decide +kernel
theorem d46_38 : dcd y46 38 (.return_) 1 := by decide +kernel
theorem d47_0 : dcd y47 0 (.aload_n 0) 1 := by decide +kernel
theorem d47_1 : dcd y47 1 (.aload_n 1) 1 := by decide +kernel
theorem d47_2 : dcd y47 2 (.invokespecial 29) 3 := by decide +kernel
theorem d47_5 : dcd y47 5 (.pop) 1 := by decide +kernel
theorem d47_6 : dcd y47 6 (.aload_n 0) 1 := by decide +kernel
theorem d47_7 : dcd y47 7 (.areturn) 1 := by decide +kernel
theorem d48_0 : dcd y48 0 (.aload_n 1) 1 := by decide +kernel
theorem d48_1 : dcd y48 1 (.ifnonnull 8) 3 := by decide +kernel
theorem d48_9 : dcd y48 9 (.aload_n 1) 1 := by decide +kernel
theorem d48_10 : dcd y48 10 (.invokevirtual 32) 3 := by decide +kernel
theorem d48_13 : dcd y48 13 (.istore_n 2) 1 := by decide +kernel
theorem d48_14 : dcd y48 14 (.aload_n 0) 1 := by decide +kernel
theorem d48_15 : dcd y48 15 (.aload_n 0) 1 := by decide +kernel
theorem d48_16 : dcd y48 16 (.getfield 79) 3 := by decide +kernel
theorem d48_19 : dcd y48 19 (.iload_n 2) 1 := by decide +kernel
theorem d48_20 : dcd y48 20 (.iadd) 1 := by decide +kernel
theorem d48_21 : dcd y48 21 (.invokevirtual 100) 3 := by decide +kernel
theorem d48_24 : dcd y48 24 (.aload_n 0) 1 := by decide +kernel
theorem d48_25 : dcd y48 25 (.aload_n 0) 1 := by decide +kernel
theorem d48_26 : dcd y48 26 (.getfield 79) 3 := by decide +kernel
theorem d48_29 : dcd y48 29 (.aload_n 1) 1 := by decide +kernel
theorem d48_30 : dcd y48 30 (.invokevirtual 208) 3 := by decide +kernel
theorem d48_33 : dcd y48 33 (.aload_n 0) 1 := by decide +kernel
theorem d48_34 : dcd y48 34 (.dup) 1 := by decide +kernel
theorem d48_35 : dcd y48 35 (.getfield 79) 3 := by decide +kernel
theorem d48_38 : dcd y48 38 (.iload_n 2) 1 := by decide +kernel
theorem d48_39 : dcd y48 39 (.iadd) 1 := by decide +kernel
theorem d48_40 : dcd y48 40 (.putfield 79) 3 := by decide +kernel
theorem d48_43 : dcd y48 43 (.aload_n 0) 1 := by decide +kernel
theorem d48_44 : dcd y48 44 (.areturn) 1 := by decide +kernel
theorem d49_0 : dcd y49 0 (.aload_n 0) 1 := by decide +kernel
theorem d49_1 : dcd y49 1 (.getfield 9) 3 := by decide +kernel
theorem d49_4 : dcd y49 4 (.arraylength) 1 := by decide +kernel
theorem d49_5 : dcd y49 5 (.aload_n 0) 1 := by decide +kernel
theorem d49_6 : dcd y49 6 (.invokevirtual 335) 3 := by decide +kernel
theorem d49_9 : dcd y49 9 (.ishr) 1 := by decide +kernel
theorem d49_10 : dcd y49 10 (.ireturn) 1 := by decide +kernel
theorem d50_0 : dcd y50 0 (.getstatic 38) 3 := by decide +kernel
theorem d50_3 : dcd y50 3 (.ifCond .eq 10) 3 := by decide +kernel
theorem d50_6 : dcd y50 6 (.aload_n 0) 1 := by decide +kernel
theorem d50_7 : dcd y50 7 (.getfield 15) 3 := by decide +kernel
theorem d50_10 : dcd y50 10 (.goto 4) 3 := by decide +kernel
theorem d50_14 : dcd y50 14 (.ireturn) 1 := by decide +kernel
theorem d51_0 : dcd y51 0 (.aload_n 0) 1 := by decide +kernel
theorem d51_1 : dcd y51 1 (.getfield 15) 3 := by decide +kernel
theorem d51_4 : dcd y51 4 (.arraylength) 1 := by decide +kernel
theorem d51_5 : dcd y51 5 (.aload_n 0) 1 := by decide +kernel
theorem d51_6 : dcd y51 6 (.getfield 22) 3 := by decide +kernel
theorem d51_9 : dcd y51 9 (.ishr) 1 := by decide +kernel
theorem d51_10 : dcd y51 10 (.istore_n 2) 1 := by decide +kernel
theorem d51_11 : dcd y51 11 (.iload_n 1) 1 := by decide +kernel
theorem d51_12 : dcd y51 12 (.iload_n 2) 1 := by decide +kernel
theorem d51_13 : dcd y51 13 (.isub) 1 := by decide +kernel
theorem d51_14 : dcd y51 14 (.ifCond .le 24) 3 := by decide +kernel
theorem d51_38 : dcd y51 38 (.return_) 1 := by decide +kernel
theorem d52_0 : dcd y52 0 (.aload_n 0) 1 := by decide +kernel
theorem d52_1 : dcd y52 1 (.aload_n 2) 1 := by decide +kernel
theorem d52_2 : dcd y52 2 (.invokevirtual 397) 3 := by decide +kernel
theorem d52_5 : dcd y52 5 (.aload_n 2) 1 := by decide +kernel
theorem d52_6 : dcd y52 6 (.aload_n 0) 1 := by decide +kernel
theorem d52_7 : dcd y52 7 (.getfield 15) 3 := by decide +kernel
theorem d52_10 : dcd y52 10 (.iload_n 1) 1 := by decide +kernel
theorem d52_11 : dcd y52 11 (.aload_n 0) 1 := by decide +kernel
theorem d52_12 : dcd y52 12 (.getfield 22) 3 := by decide +kernel
theorem d52_15 : dcd y52 15 (.invokevirtual 399) 3 := by decide +kernel
theorem d52_18 : dcd y52 18 (.return_) 1 := by decide +kernel
theorem d53_0 : dcd y53 0 (.getstatic 18) 3 := by decide +kernel
theorem d53_3 : dcd y53 3 (.ifCond .eq 18) 3 := by decide +kernel
theorem d53_6 : dcd y53 6 (.aload_n 0) 1 := by decide +kernel
theorem d53_7 : dcd y53 7 (.getfield 22) 3 := by decide +kernel
theorem d53_10 : dcd y53 10 (.aload_n 1) 1 := by decide +kernel
theorem d53_11 : dcd y53 11 (.invokevirtual 40) 3 := by decide +kernel
theorem d53_14 : dcd y53 14 (.if_icmp .eq 7) 3 := by decide +kernel
theorem d53_21 : dcd y53 21 (.return_) 1 := by decide +kernel
theorem d54_0 : dcd y54 0 (.aload_n 0) 1 := by decide +kernel
theorem d54_1 : dcd y54 1 (.invokevirtual 335) 3 := by decide +kernel
theorem d54_4 : dcd y54 4 (.iload_n 3) 1 := by decide +kernel
theorem d54_5 : dcd y54 5 (.if_icmp .ne 23) 3 := by decide +kernel
theorem d54_8 : dcd y54 8 (.aload_n 0) 1 := by decide +kernel
theorem d54_9 : dcd y54 9 (.getfield 9) 3 := by decide +kernel
theorem d54_12 : dcd y54 12 (.iconst 0) 1 := by decide +kernel
theorem d54_13 : dcd y54 13 (.aload_n 1) 1 := by decide +kernel
theorem d54_14 : dcd y54 14 (.iload_n 2) 1 := by decide +kernel
theorem d54_15 : dcd y54 15 (.iload_n 3) 1 := by decide +kernel
theorem d54_16 : dcd y54 16 (.ishl) 1 := by decide +kernel
theorem d54_17 : dcd y54 17 (.aload_n 0) 1 := by decide +kernel
theorem d54_18 : dcd y54 18 (.getfield 9) 3 := by decide +kernel
theorem d54_21 : dcd y54 21 (.arraylength) 1 := by decide +kernel
theorem d54_22 : dcd y54 22 (.invokestatic 212) 3 := by decide +kernel
theorem d54_25 : dcd y54 25 (.goto 18) 3 := by decide +kernel
theorem d54_43 : dcd y54 43 (.return_) 1 := by decide +kernel
theorem d55_0 : dcd y55 0 (.new 18) 3 := by decide +kernel
theorem d55_3 : dcd y55 3 (.dup) 1 := by decide +kernel
theorem d55_4 : dcd y55 4 (.aload_n 0) 1 := by decide +kernel
theorem d55_5 : dcd y55 5 (.invokespecial 137) 3 := by decide +kernel
theorem d55_8 : dcd y55 8 (.areturn) 1 := by decide +kernel
theorem d56_0 : dcd y56 0 (.aload_n 0) 1 := by decide +kernel
theorem d56_1 : dcd y56 1 (.aload_n 1) 1 := by decide +kernel
theorem d56_2 : dcd y56 2 (.aconst_null) 1 := by decide +kernel
theorem d56_3 : dcd y56 3 (.invokespecial 489) 3 := by decide +kernel
theorem d56_6 : dcd y56 6 (.return_) 1 := by decide +kernel
theorem d57_0 : dcd y57 0 (.aload_n 0) 1 := by decide +kernel
theorem d57_1 : dcd y57 1 (.invokespecial 1) 3 := by decide +kernel
theorem d57_4 : dcd y57 4 (.aload_n 1) 1 := by decide +kernel
theorem d57_5 : dcd y57 5 (.invokevirtual 552) 3 := by decide +kernel
theorem d57_8 : dcd y57 8 (.astore_n 3) 1 := by decide +kernel
theorem d57_9 : dcd y57 9 (.aload_n 1) 1 := by decide +kernel
theorem d57_10 : dcd y57 10 (.invokevirtual 549) 3 := by decide +kernel
theorem d57_13 : dcd y57 13 (.istore 4) 2 := by decide +kernel
theorem d57_15 : dcd y57 15 (.aload_n 1) 1 := by decide +kernel
theorem d57_16 : dcd y57 16 (.invokevirtual 1047) 3 := by decide +kernel
theorem d57_19 : dcd y57 19 (.ifCond .eq 22) 3 := by decide +kernel
theorem d57_22 : dcd y57 22 (.aload_n 0) 1 := by decide +kernel
theorem d57_23 : dcd y57 23 (.iconst 0) 1 := by decide +kernel
theorem d57_24 : dcd y57 24 (.putfield 15) 3 := by decide +kernel
theorem d57_27 : dcd y57 27 (.aload_n 0) 1 := by decide +kernel
theorem d57_28 : dcd y57 28 (.aload_n 3) 1 := by decide +kernel
theorem d57_29 : dcd y57 29 (.iconst 0) 1 := by decide +kernel
theorem d57_30 : dcd y57 30 (.iload 4) 2 := by decide +kernel
theorem d57_32 : dcd y57 32 (.invokestatic 54) 3 := by decide +kernel
theorem d57_35 : dcd y57 35 (.putfield 9) 3 := by decide +kernel
theorem d57_38 : dcd y57 38 (.goto 59) 3 := by decide +kernel
theorem d57_97 : dcd y57 97 (.return_) 1 := by decide +kernel
theorem d58_0 : dcd y58 0 (.aload_n 0) 1 := by decide +kernel
theorem d58_1 : dcd y58 1 (.getfield 15) 3 := by decide +kernel
theorem d58_4 : dcd y58 4 (.areturn) 1 := by decide +kernel
theorem d59_0 : dcd y59 0 (.aload_n 0) 1 := by decide +kernel
theorem d59_1 : dcd y59 1 (.invokespecial 343) 3 := by decide +kernel
theorem d59_4 : dcd y59 4 (.ireturn) 1 := by decide +kernel
theorem d60_0 : dcd y60 0 (.aload_n 0) 1 := by decide +kernel
theorem d60_1 : dcd y60 1 (.getfield 79) 3 := by decide +kernel
theorem d60_4 : dcd y60 4 (.ireturn) 1 := by decide +kernel
theorem d61_0 : dcd y61 0 (.getstatic 18) 3 := by decide +kernel
theorem d61_3 : dcd y61 3 (.ifCond .eq 14) 3 := by decide +kernel
theorem d61_6 : dcd y61 6 (.aload_n 0) 1 := by decide +kernel
theorem d61_7 : dcd y61 7 (.getfield 22) 3 := by decide +kernel
theorem d61_10 : dcd y61 10 (.ifCond .ne 7) 3 := by decide +kernel
theorem d61_13 : dcd y61 13 (.iconst 1) 1 := by decide +kernel
theorem d61_14 : dcd y61 14 (.goto 4) 3 := by decide +kernel
theorem d61_18 : dcd y61 18 (.ireturn) 1 := by decide +kernel
theorem d62_0 : dcd y62 0 (.iload_n 1) 1 := by decide +kernel
theorem d62_1 : dcd y62 1 (.ifCond .ne 9) 3 := by decide +kernel
theorem d62_4 : dcd y62 4 (.iload_n 2) 1 := by decide +kernel
theorem d62_5 : dcd y62 5 (.aload_n 0) 1 := by decide +kernel
theorem d62_6 : dcd y62 6 (.arraylength) 1 := by decide +kernel
theorem d62_7 : dcd y62 7 (.if_icmp .eq 10) 3 := by decide +kernel
theorem d62_10 : dcd y62 10 (.aload_n 0) 1 := by decide +kernel
theorem d62_11 : dcd y62 11 (.iload_n 1) 1 := by decide +kernel
theorem d62_12 : dcd y62 12 (.iload_n 2) 1 := by decide +kernel
theorem d62_13 : dcd y62 13 (.invokestatic 339) 3 := by decide +kernel
theorem d62_16 : dcd y62 16 (.areturn) 1 := by decide +kernel
theorem d63_0 : dcd y63 0 (.iload_n 1) 1 := by decide +kernel
theorem d63_1 : dcd y63 1 (.iload_n 2) 1 := by decide +kernel
theorem d63_2 : dcd y63 2 (.invokestatic 343) 3 := by decide +kernel
theorem d63_5 : dcd y63 5 (.iload_n 2) 1 := by decide +kernel
theorem d63_6 : dcd y63 6 (.iload_n 1) 1 := by decide +kernel
theorem d63_7 : dcd y63 7 (.isub) 1 := by decide +kernel
theorem d63_8 : dcd y63 8 (.istore_n 3) 1 := by decide +kernel
theorem d63_9 : dcd y63 9 (.iload_n 3) 1 := by decide +kernel
theorem d63_10 : dcd y63 10 (.newarray .byte) 2 := by decide +kernel
theorem d63_12 : dcd y63 12 (.astore 4) 2 := by decide +kernel
theorem d63_14 : dcd y63 14 (.aload_n 0) 1 := by decide +kernel
theorem d63_15 : dcd y63 15 (.iload_n 1) 1 := by decide +kernel
theorem d63_16 : dcd y63 16 (.aload 4) 2 := by decide +kernel
theorem d63_18 : dcd y63 18 (.iconst 0) 1 := by decide +kernel
theorem d63_19 : dcd y63 19 (.aload_n 0) 1 := by decide +kernel
theorem d63_20 : dcd y63 20 (.arraylength) 1 := by decide +kernel
theorem d63_21 : dcd y63 21 (.iload_n 1) 1 := by decide +kernel
theorem d63_22 : dcd y63 22 (.isub) 1 := by decide +kernel
theorem d63_23 : dcd y63 23 (.iload_n 3) 1 := by decide +kernel
theorem d63_24 : dcd y63 24 (.invokestatic 304) 3 := by decide +kernel
theorem d63_27 : dcd y63 27 (.invokestatic 150) 3 := by decide +kernel
theorem d63_30 : dcd y63 30 (.aload 4) 2 := by decide +kernel
theorem d63_32 : dcd y63 32 (.areturn) 1 := by decide +kernel
theorem d64_0 : dcd y64 0 (.iload_n 1) 1 := by decide +kernel
theorem d64_1 : dcd y64 1 (.iload_n 0) 1 := by decide +kernel
theorem d64_2 : dcd y64 2 (.if_icmp .ge 35) 3 := by decide +kernel
theorem d64_37 : dcd y64 37 (.return_) 1 := by decide +kernel
theorem d65_0 : dcd y65 0 (.aload_n 0) 1 := by decide +kernel
theorem d65_1 : dcd y65 1 (.getfield 15) 3 := by decide +kernel
theorem d65_4 : dcd y65 4 (.areturn) 1 := by decide +kernel
theorem d66_0 : dcd y66 0 (.aload_n 1) 1 := by decide +kernel
theorem d66_1 : dcd y66 1 (.invokevirtual 57) 3 := by decide +kernel
theorem d66_4 : dcd y66 4 (.istore_n 2) 1 := by decide +kernel
theorem d66_5 : dcd y66 5 (.aload_n 0) 1 := by decide +kernel
theorem d66_6 : dcd y66 6 (.invokeinterface 61 1) 5 := by decide +kernel
theorem d66_11 : dcd y66 11 (.iload_n 2) 1 := by decide +kernel
theorem d66_12 : dcd y66 12 (.if_icmp .eq 5) 3 := by decide +kernel
theorem d66_17 : dcd y66 17 (.iload_n 2) 1 := by decide +kernel
theorem d66_18 : dcd y66 18 (.ifCond .le 26) 3 := by decide +kernel
theorem d66_21 : dcd y66 21 (.aload_n 0) 1 := by decide +kernel
theorem d66_22 : dcd y66 22 (.iconst 0) 1 := by decide +kernel
theorem d66_23 : dcd y66 23 (.invokeinterface 64 2) 5 := by decide +kernel
theorem d66_28 : dcd y66 28 (.checkcast 17) 3 := by decide +kernel
theorem d66_31 : dcd y66 31 (.aload_n 1) 1 := by decide +kernel
theorem d66_32 : dcd y66 32 (.iconst 0) 1 := by decide +kernel
theorem d66_33 : dcd y66 33 (.invokevirtual 68) 3 := by decide +kernel
theorem d66_36 : dcd y66 36 (.invokevirtual 69) 3 := by decide +kernel
theorem d66_39 : dcd y66 39 (.ifCond .ne 5) 3 := by decide +kernel
theorem d66_44 : dcd y66 44 (.iload_n 2) 1 := by decide +kernel
theorem d66_45 : dcd y66 45 (.iconst 1) 1 := by decide +kernel
theorem d66_46 : dcd y66 46 (.if_icmp .le 26) 3 := by decide +kernel
theorem d66_49 : dcd y66 49 (.aload_n 0) 1 := by decide +kernel
theorem d66_50 : dcd y66 50 (.iconst 1) 1 := by decide +kernel
theorem d66_51 : dcd y66 51 (.invokeinterface 64 2) 5 := by decide +kernel
theorem d66_56 : dcd y66 56 (.checkcast 17) 3 := by decide +kernel
theorem d66_59 : dcd y66 59 (.aload_n 1) 1 := by decide +kernel
theorem d66_60 : dcd y66 60 (.iconst 1) 1 := by decide +kernel
theorem d66_61 : dcd y66 61 (.invokevirtual 68) 3 := by decide +kernel
theorem d66_64 : dcd y66 64 (.invokevirtual 69) 3 := by decide +kernel
theorem d66_67 : dcd y66 67 (.ifCond .ne 5) 3 := by decide +kernel
theorem d66_72 : dcd y66 72 (.iload_n 2) 1 := by decide +kernel
theorem d66_73 : dcd y66 73 (.iconst 2) 1 := by decide +kernel
theorem d66_74 : dcd y66 74 (.if_icmp .le 26) 3 := by decide +kernel
theorem d66_77 : dcd y66 77 (.aload_n 0) 1 := by decide +kernel
theorem d66_78 : dcd y66 78 (.iconst 2) 1 := by decide +kernel
theorem d66_79 : dcd y66 79 (.invokeinterface 64 2) 5 := by decide +kernel
theorem d66_84 : dcd y66 84 (.checkcast 17) 3 := by decide +kernel
theorem d66_87 : dcd y66 87 (.aload_n 1) 1 := by decide +kernel
theorem d66_88 : dcd y66 88 (.iconst 2) 1 := by decide +kernel
theorem d66_89 : dcd y66 89 (.invokevirtual 68) 3 := by decide +kernel
theorem d66_92 : dcd y66 92 (.invokevirtual 69) 3 := by decide +kernel
theorem d66_95 : dcd y66 95 (.ifCond .ne 5) 3 := by decide +kernel
theorem d66_100 : dcd y66 100 (.iload_n 2) 1 := by decide +kernel
theorem d66_101 : dcd y66 101 (.iconst 3) 1 := by decide +kernel
theorem d66_102 : dcd y66 102 (.if_icmp .le 26) 3 := by decide +kernel
theorem d66_105 : dcd y66 105 (.aload_n 0) 1 := by decide +kernel
theorem d66_106 : dcd y66 106 (.iconst 3) 1 := by decide +kernel
theorem d66_107 : dcd y66 107 (.invokeinterface 64 2) 5 := by decide +kernel
theorem d66_112 : dcd y66 112 (.checkcast 17) 3 := by decide +kernel
theorem d66_115 : dcd y66 115 (.aload_n 1) 1 := by decide +kernel
theorem d66_116 : dcd y66 116 (.iconst 3) 1 := by decide +kernel
theorem d66_117 : dcd y66 117 (.invokevirtual 68) 3 := by decide +kernel
theorem d66_120 : dcd y66 120 (.invokevirtual 69) 3 := by decide +kernel
theorem d66_123 : dcd y66 123 (.ifCond .ne 5) 3 := by decide +kernel
theorem d66_128 : dcd y66 128 (.iconst 1) 1 := by decide +kernel
theorem d66_129 : dcd y66 129 (.ireturn) 1 := by decide +kernel
theorem d67_0 : dcd y67 0 (.aload_n 0) 1 := by decide +kernel
theorem d67_1 : dcd y67 1 (.getfield 48) 3 := by decide +kernel
theorem d67_4 : dcd y67 4 (.ireturn) 1 := by decide +kernel
theorem d68_0 : dcd y68 0 (.iload_n 1) 1 := by decide +kernel
theorem d68_1 : dcd y68 1 (.aload_n 0) 1 := by decide +kernel
theorem d68_2 : dcd y68 2 (.getfield 48) 3 := by decide +kernel
theorem d68_5 : dcd y68 5 (.invokestatic 118) 3 := by decide +kernel
theorem d68_8 : dcd y68 8 (.pop) 1 := by decide +kernel
theorem d68_9 : dcd y68 9 (.aload_n 0) 1 := by decide +kernel
theorem d68_10 : dcd y68 10 (.iload_n 1) 1 := by decide +kernel
theorem d68_11 : dcd y68 11 (.invokevirtual 123) 3 := by decide +kernel
theorem d68_14 : dcd y68 14 (.areturn) 1 := by decide +kernel
theorem d69_0 : dcd y69 0 (.iload_n 0) 1 := by decide +kernel
theorem d69_1 : dcd y69 1 (.iload_n 1) 1 := by decide +kernel
theorem d69_2 : dcd y69 2 (.aconst_null) 1 := by decide +kernel
theorem d69_3 : dcd y69 3 (.invokestatic 105) 3 := by decide +kernel
theorem d69_6 : dcd y69 6 (.ireturn) 1 := by decide +kernel
theorem d70_0 : dcd y70 0 (.iload_n 0) 1 := by decide +kernel
theorem d70_1 : dcd y70 1 (.ifCond .lt 8) 3 := by decide +kernel
theorem d70_4 : dcd y70 4 (.iload_n 0) 1 := by decide +kernel
theorem d70_5 : dcd y70 5 (.iload_n 1) 1 := by decide +kernel
theorem d70_6 : dcd y70 6 (.if_icmp .lt 10) 3 := by decide +kernel
theorem d70_16 : dcd y70 16 (.iload_n 0) 1 := by decide +kernel
theorem d70_17 : dcd y70 17 (.ireturn) 1 := by decide +kernel
theorem d71_0 : dcd y71 0 (.aload_n 0) 1 := by decide +kernel
theorem d71_1 : dcd y71 1 (.getfield 9) 3 := by decide +kernel
theorem d71_4 : dcd y71 4 (.iload_n 1) 1 := by decide +kernel
theorem d71_5 : dcd y71 5 (.aaload) 1 := by decide +kernel
theorem d71_6 : dcd y71 6 (.areturn) 1 := by decide +kernel
theorem d72_0 : dcd y72 0 (.getstatic 90) 3 := by decide +kernel
theorem d72_3 : dcd y72 3 (.areturn) 1 := by decide +kernel
theorem d73_0 : dcd y73 0 (.aload_n 0) 1 := by decide +kernel
theorem d73_1 : dcd y73 1 (.getfield 7) 3 := by decide +kernel
theorem d73_4 : dcd y73 4 (.arraylength) 1 := by decide +kernel
theorem d73_5 : dcd y73 5 (.ireturn) 1 := by decide +kernel
theorem d74_0 : dcd y74 0 (.aload_n 0) 1 := by decide +kernel
theorem d74_1 : dcd y74 1 (.aload_n 1) 1 := by decide +kernel
theorem d74_2 : dcd y74 2 (.iconst 0) 1 := by decide +kernel
theorem d74_3 : dcd y74 3 (.invokevirtual 624) 3 := by decide +kernel
theorem d74_6 : dcd y74 6 (.ireturn) 1 := by decide +kernel
theorem d75_0 : dcd y75 0 (.iload_n 2) 1 := by decide +kernel
theorem d75_1 : dcd y75 1 (.ifCond .lt 16) 3 := by decide +kernel
theorem d75_4 : dcd y75 4 (.iload_n 2) 1 := by decide +kernel
theorem d75_5 : dcd y75 5 (.aload_n 0) 1 := by decide +kernel
theorem d75_6 : dcd y75 6 (.invokevirtual 505) 3 := by decide +kernel
theorem d75_9 : dcd y75 9 (.aload_n 1) 1 := by decide +kernel
theorem d75_10 : dcd y75 10 (.invokevirtual 505) 3 := by decide +kernel
theorem d75_13 : dcd y75 13 (.isub) 1 := by decide +kernel
theorem d75_14 : dcd y75 14 (.if_icmp .le 5) 3 := by decide +kernel
theorem d75_17 : dcd y75 17 (.iconst 0) 1 := by decide +kernel
theorem d75_18 : dcd y75 18 (.ireturn) 1 := by decide +kernel
theorem d75_19 : dcd y75 19 (.aload_n 0) 1 := by decide +kernel
theorem d75_20 : dcd y75 20 (.getfield 9) 3 := by decide +kernel
theorem d75_23 : dcd y75 23 (.astore_n 3) 1 := by decide +kernel
theorem d75_24 : dcd y75 24 (.aload_n 1) 1 := by decide +kernel
theorem d75_25 : dcd y75 25 (.getfield 9) 3 := by decide +kernel
theorem d75_28 : dcd y75 28 (.astore 4) 2 := by decide +kernel
theorem d75_30 : dcd y75 30 (.iconst 0) 1 := by decide +kernel
theorem d75_31 : dcd y75 31 (.istore 5) 2 := by decide +kernel
theorem d75_33 : dcd y75 33 (.aload 4) 2 := by decide +kernel
theorem d75_35 : dcd y75 35 (.arraylength) 1 := by decide +kernel
theorem d75_36 : dcd y75 36 (.istore 6) 2 := by decide +kernel
theorem d75_38 : dcd y75 38 (.aload_n 0) 1 := by decide +kernel
theorem d75_39 : dcd y75 39 (.invokevirtual 335) 3 := by decide +kernel
theorem d75_42 : dcd y75 42 (.istore 7) 2 := by decide +kernel
theorem d75_44 : dcd y75 44 (.iload 7) 2 := by decide +kernel
theorem d75_46 : dcd y75 46 (.aload_n 1) 1 := by decide +kernel
theorem d75_47 : dcd y75 47 (.invokevirtual 335) 3 := by decide +kernel
theorem d75_50 : dcd y75 50 (.if_icmp .ne 32) 3 := by decide +kernel
theorem d75_53 : dcd y75 53 (.iload 7) 2 := by decide +kernel
theorem d75_55 : dcd y75 55 (.iconst 1) 1 := by decide +kernel
theorem d75_56 : dcd y75 56 (.if_icmp .ne 7) 3 := by decide +kernel
theorem d75_63 : dcd y75 63 (.aload_n 3) 1 := by decide +kernel
theorem d75_64 : dcd y75 64 (.iload_n 2) 1 := by decide +kernel
theorem d75_65 : dcd y75 65 (.aload 4) 2 := by decide +kernel
theorem d75_67 : dcd y75 67 (.iconst 0) 1 := by decide +kernel
theorem d75_68 : dcd y75 68 (.iload 6) 2 := by decide +kernel
theorem d75_70 : dcd y75 70 (.invokestatic 607) 3 := by decide +kernel
theorem d75_73 : dcd y75 73 (.ifCond .ge 7) 3 := by decide +kernel
theorem d75_76 : dcd y75 76 (.iconst 1) 1 := by decide +kernel
theorem d75_77 : dcd y75 77 (.goto 4) 3 := by decide +kernel
theorem d75_80 : dcd y75 80 (.iconst 0) 1 := by decide +kernel
theorem d75_81 : dcd y75 81 (.ireturn) 1 := by decide +kernel
theorem d76_0 : dcd y76 0 (.aload_n 0) 1 := by decide +kernel
theorem d76_1 : dcd y76 1 (.arraylength) 1 := by decide +kernel
theorem d76_2 : dcd y76 2 (.anewarray 2) 3 := by decide +kernel
theorem d76_5 : dcd y76 5 (.astore_n 1) 1 := by decide +kernel
theorem d76_6 : dcd y76 6 (.iconst 0) 1 := by decide +kernel
theorem d76_7 : dcd y76 7 (.istore_n 2) 1 := by decide +kernel
theorem d76_8 : dcd y76 8 (.iload_n 2) 1 := by decide +kernel
theorem d76_9 : dcd y76 9 (.aload_n 0) 1 := by decide +kernel
theorem d76_10 : dcd y76 10 (.arraylength) 1 := by decide +kernel
theorem d76_11 : dcd y76 11 (.if_icmp .ge 18) 3 := by decide +kernel
theorem d76_14 : dcd y76 14 (.aload_n 1) 1 := by decide +kernel
theorem d76_15 : dcd y76 15 (.iload_n 2) 1 := by decide +kernel
theorem d76_16 : dcd y76 16 (.aload_n 0) 1 := by decide +kernel
theorem d76_17 : dcd y76 17 (.iload_n 2) 1 := by decide +kernel
theorem d76_18 : dcd y76 18 (.aaload) 1 := by decide +kernel
theorem d76_19 : dcd y76 19 (.invokestatic 37) 3 := by decide +kernel
theorem d76_22 : dcd y76 22 (.aastore) 1 := by decide +kernel
theorem d76_23 : dcd y76 23 (.iinc 2 1) 3 := by decide +kernel
theorem d76_26 : dcd y76 26 (.goto (-18)) 3 := by decide +kernel
theorem d76_29 : dcd y76 29 (.new 12) 3 := by decide +kernel
theorem d76_32 : dcd y76 32 (.dup) 1 := by decide +kernel
theorem d76_33 : dcd y76 33 (.aload_n 1) 1 := by decide +kernel
theorem d76_34 : dcd y76 34 (.iconst 0) 1 := by decide +kernel
theorem d76_35 : dcd y76 35 (.invokespecial 43) 3 := by decide +kernel
theorem d76_38 : dcd y76 38 (.areturn) 1 := by decide +kernel
theorem d77_0 : dcd y77 0 (.aload_n 0) 1 := by decide +kernel
theorem d77_1 : dcd y77 1 (.invokespecial 1) 3 := by decide +kernel
theorem d77_4 : dcd y77 4 (.aload_n 0) 1 := by decide +kernel
theorem d77_5 : dcd y77 5 (.aload_n 1) 1 := by decide +kernel
theorem d77_6 : dcd y77 6 (.putfield 7) 3 := by decide +kernel
theorem d77_9 : dcd y77 9 (.aload_n 0) 1 := by decide +kernel
theorem d77_10 : dcd y77 10 (.iload_n 2) 1 := by decide +kernel
theorem d77_11 : dcd y77 11 (.putfield 13) 3 := by decide +kernel
theorem d77_14 : dcd y77 14 (.return_) 1 := by decide +kernel
theorem d78_0 : dcd y78 0 (.aload_n 0) 1 := by decide +kernel
theorem d78_1 : dcd y78 1 (.getfield 7) 3 := by decide +kernel
theorem d78_4 : dcd y78 4 (.iload_n 1) 1 := by decide +kernel
theorem d78_5 : dcd y78 5 (.aaload) 1 := by decide +kernel
theorem d78_6 : dcd y78 6 (.areturn) 1 := by decide +kernel
theorem d79_0 : dcd y79 0 (.iconst 0) 1 := by decide +kernel
theorem d79_1 : dcd y79 1 (.istore 5) 2 := by decide +kernel
theorem d79_3 : dcd y79 3 (.iload 4) 2 := by decide +kernel
theorem d79_5 : dcd y79 5 (.bipush 7) 2 := by decide +kernel
theorem d79_7 : dcd y79 7 (.if_icmp .le 63) 3 := by decide +kernel
theorem d79_70 : dcd y79 70 (.iload 5) 2 := by decide +kernel
theorem d79_72 : dcd y79 72 (.iload 4) 2 := by decide +kernel
theorem d79_74 : dcd y79 74 (.if_icmp .ge 27) 3 := by decide +kernel
theorem d79_77 : dcd y79 77 (.aload_n 0) 1 := by decide +kernel
theorem d79_78 : dcd y79 78 (.iload_n 1) 1 := by decide +kernel
theorem d79_79 : dcd y79 79 (.iload 5) 2 := by decide +kernel
theorem d79_81 : dcd y79 81 (.iadd) 1 := by decide +kernel
theorem d79_82 : dcd y79 82 (.baload) 1 := by decide +kernel
theorem d79_83 : dcd y79 83 (.aload_n 2) 1 := by decide +kernel
theorem d79_84 : dcd y79 84 (.iload_n 3) 1 := by decide +kernel
theorem d79_85 : dcd y79 85 (.iload 5) 2 := by decide +kernel
theorem d79_87 : dcd y79 87 (.iadd) 1 := by decide +kernel
theorem d79_88 : dcd y79 88 (.baload) 1 := by decide +kernel
theorem d79_89 : dcd y79 89 (.if_icmp .eq 6) 3 := by decide +kernel
theorem d79_92 : dcd y79 92 (.iload 5) 2 := by decide +kernel
theorem d79_94 : dcd y79 94 (.ireturn) 1 := by decide +kernel
theorem d79_95 : dcd y79 95 (.iinc 5 1) 3 := by decide +kernel
theorem d79_98 : dcd y79 98 (.goto (-28)) 3 := by decide +kernel
theorem d79_101 : dcd y79 101 (.iconst (-1)) 1 := by decide +kernel
theorem d79_102 : dcd y79 102 (.ireturn) 1 := by decide +kernel
theorem d80_0 : dcd y80 0 (.aload_n 0) 1 := by decide +kernel
theorem d80_1 : dcd y80 1 (.invokespecial 1) 3 := by decide +kernel
theorem d80_4 : dcd y80 4 (.aload_n 0) 1 := by decide +kernel
theorem d80_5 : dcd y80 5 (.aload_n 1) 1 := by decide +kernel
theorem d80_6 : dcd y80 6 (.invokestatic 7) 3 := by decide +kernel
theorem d80_9 : dcd y80 9 (.putfield 13) 3 := by decide +kernel
theorem d80_12 : dcd y80 12 (.aload_n 0) 1 := by decide +kernel
theorem d80_13 : dcd y80 13 (.aload_n 2) 1 := by decide +kernel
theorem d80_14 : dcd y80 14 (.invokestatic 7) 3 := by decide +kernel
theorem d80_17 : dcd y80 17 (.putfield 24) 3 := by decide +kernel
theorem d80_20 : dcd y80 20 (.return_) 1 := by decide +kernel
theorem d81_0 : dcd y81 0 (.aload_n 0) 1 := by decide +kernel
theorem d81_1 : dcd y81 1 (.getfield 17) 3 := by decide +kernel
theorem d81_4 : dcd y81 4 (.istore_n 1) 1 := by decide +kernel
theorem d81_5 : dcd y81 5 (.aload_n 0) 1 := by decide +kernel
theorem d81_6 : dcd y81 6 (.getfield 7) 3 := by decide +kernel
theorem d81_9 : dcd y81 9 (.iload_n 1) 1 := by decide +kernel
theorem d81_10 : dcd y81 10 (.invokeinterface 24 2) 5 := by decide +kernel
theorem d81_15 : dcd y81 15 (.astore_n 2) 1 := by decide +kernel
theorem d81_16 : dcd y81 16 (.aload_n 0) 1 := by decide +kernel
theorem d81_17 : dcd y81 17 (.iload_n 1) 1 := by decide +kernel
theorem d81_18 : dcd y81 18 (.iconst 1) 1 := by decide +kernel
theorem d81_19 : dcd y81 19 (.iadd) 1 := by decide +kernel
theorem d81_20 : dcd y81 20 (.putfield 17) 3 := by decide +kernel
theorem d81_23 : dcd y81 23 (.aload_n 2) 1 := by decide +kernel
theorem d81_24 : dcd y81 24 (.areturn) 1 := by decide +kernel
theorem pd0 : parseMethodDescriptor "([CI[BII)I" = some ⟨[(.array .char), .int, (.array .byte), .int, .int], some .int⟩ := by decide +kernel
theorem pd1 : parseMethodDescriptor "([CII)[B" = some ⟨[(.array .char), .int, .int], some (.array .byte)⟩ := by decide +kernel
theorem pd2 : parseMethodDescriptor "([BI)B" = some ⟨[(.array .byte), .int], some .byte⟩ := by decide +kernel
theorem pd3 : parseMethodDescriptor sn50 = some ⟨[(.array .char), .int, .int, (.object "java/lang/Void")], none⟩ := by decide +kernel
theorem pd4 : parseMethodDescriptor "(C)Z" = some ⟨[.char], some .boolean⟩ := by decide +kernel
theorem pd5 : parseMethodDescriptor "(C)[B" = some ⟨[.char], some (.array .byte)⟩ := by decide +kernel
theorem pd6 : parseMethodDescriptor "([BB)V" = some ⟨[(.array .byte), .byte], none⟩ := by decide +kernel
theorem pd7 : parseMethodDescriptor "([B[B)Z" = some ⟨[(.array .byte), (.array .byte)], some .boolean⟩ := by decide +kernel
theorem pd8 : parseMethodDescriptor "()B" = some ⟨[], some .byte⟩ := by decide +kernel
theorem pd9 : parseMethodDescriptor "()V" = some ⟨[], none⟩ := by decide +kernel
theorem pd10 : parseMethodDescriptor "(II)I" = some ⟨[.int, .int], some .int⟩ := by decide +kernel
theorem pd11 : parseMethodDescriptor sn47 = some ⟨[.int], some (.array (.object "java/lang/Object"))⟩ := by decide +kernel
theorem pd12 : parseMethodDescriptor sn17 = some ⟨[], some (.array (.object "java/lang/Object"))⟩ := by decide +kernel
theorem pd13 : parseMethodDescriptor sn28 = some ⟨[(.object "java/lang/Object"), (.array (.object "java/lang/Object")), .int], none⟩ := by decide +kernel
theorem pd14 : parseMethodDescriptor "()Z" = some ⟨[], some .boolean⟩ := by decide +kernel
theorem pd15 : parseMethodDescriptor "()Ljava/util/List;" = some ⟨[], some (.object "java/util/List")⟩ := by decide +kernel
theorem pd16 : parseMethodDescriptor sn12 = some ⟨[(.object sn31)], some (.object "java/util/List")⟩ := by decide +kernel
theorem pd17 : parseMethodDescriptor sn19 = some ⟨[(.array (.object "java/lang/Object")), .int, (.object "java/lang/Class")], some (.array (.object "java/lang/Object"))⟩ := by decide +kernel
theorem pd18 : parseMethodDescriptor sn29 = some ⟨[(.array (.object "java/lang/Object")), .int], some (.array (.object "java/lang/Object"))⟩ := by decide +kernel
theorem pd19 : parseMethodDescriptor sn25 = some ⟨[(.object "java/lang/Object")], some (.object "java/lang/Object")⟩ := by decide +kernel
theorem pd20 : parseMethodDescriptor sn49 = some ⟨[(.object "java/lang/Object")], none⟩ := by decide +kernel
theorem pd21 : parseMethodDescriptor sn14 = some ⟨[(.array (.object "java/lang/Object"))], some (.object "java/util/List")⟩ := by decide +kernel
theorem pd22 : parseMethodDescriptor sn30 = some ⟨[(.object "java/lang/Object"), (.object "java/lang/Object")], none⟩ := by decide +kernel
theorem pd23 : parseMethodDescriptor sn46 = some ⟨[(.array (.object "java/lang/Object")), .boolean], none⟩ := by decide +kernel
theorem pd24 : parseMethodDescriptor sn9 = some ⟨[.int], some (.object "java/lang/Object")⟩ := by decide +kernel
theorem pd25 : parseMethodDescriptor sn33 = some ⟨[.int, .int, (.object sn45)], some .int⟩ := by decide +kernel
theorem pd26 : parseMethodDescriptor "()I" = some ⟨[], some .int⟩ := by decide +kernel
theorem pd27 : parseMethodDescriptor "([BI[BII)I" = some ⟨[(.array .byte), .int, (.array .byte), .int, .int], some .int⟩ := by decide +kernel
theorem pd28 : parseMethodDescriptor sn41 = some ⟨[(.object "java/lang/String"), .int], some .boolean⟩ := by decide +kernel
theorem pd29 : parseMethodDescriptor sn11 = some ⟨[(.object "java/lang/Object")], some .boolean⟩ := by decide +kernel
theorem pd30 : parseMethodDescriptor sn26 = some ⟨[(.object "java/lang/String")], some .boolean⟩ := by decide +kernel
theorem pd31 : parseMethodDescriptor "(I)V" = some ⟨[.int], none⟩ := by decide +kernel
theorem pd32 : parseMethodDescriptor sn43 = some ⟨[(.object "java/lang/String")], none⟩ := by decide +kernel
theorem pd33 : parseMethodDescriptor "([BIB)V" = some ⟨[(.array .byte), .int, .byte], none⟩ := by decide +kernel
theorem pd34 : parseMethodDescriptor sn40 = some ⟨[.int, (.object "java/lang/String")], none⟩ := by decide +kernel
theorem pd35 : parseMethodDescriptor sn18 = some ⟨[(.object "java/lang/String")], some (.object sn1)⟩ := by decide +kernel
theorem pd36 : parseMethodDescriptor "()[B" = some ⟨[], some (.array .byte)⟩ := by decide +kernel
theorem pd37 : parseMethodDescriptor "(II)V" = some ⟨[.int, .int], none⟩ := by decide +kernel
theorem pd38 : parseMethodDescriptor "([BII)[B" = some ⟨[(.array .byte), .int, .int], some (.array .byte)⟩ := by decide +kernel
theorem pd39 : parseMethodDescriptor sn23 = some ⟨[(.object sn1), (.object "java/lang/Void")], none⟩ := by decide +kernel
theorem pd40 : parseMethodDescriptor sn39 = some ⟨[(.object sn7)], none⟩ := by decide +kernel
theorem pd41 : parseMethodDescriptor "([C)V" = some ⟨[(.array .char)], none⟩ := by decide +kernel
theorem pd42 : parseMethodDescriptor sn51 = some ⟨[(.object "java/util/List"), .int], none⟩ := by decide +kernel
theorem pd43 : parseMethodDescriptor sn24 = some ⟨[], some (.object "java/util/Iterator")⟩ := by decide +kernel
theorem pd44 : parseMethodDescriptor "(Ljava/util/List;)V" = some ⟨[(.object "java/util/List")], none⟩ := by decide +kernel
theorem pd45 : parseMethodDescriptor sn35 = some ⟨[], some (.object "java/lang/Object")⟩ := by decide +kernel
theorem pd46 : parseMethodDescriptor sn15 = some ⟨[(.object "java/lang/String")], some (.object sn7)⟩ := by decide +kernel
theorem pd47 : parseMethodDescriptor sn42 = some ⟨[], some (.object "java/lang/String")⟩ := by decide +kernel
theorem pd48 : parseMethodDescriptor sn52 = some ⟨[.int, .char], some (.object "java/lang/String")⟩ := by decide +kernel
theorem pd49 : parseMethodDescriptor sn48 = some ⟨[.char], some (.object "java/lang/String")⟩ := by decide +kernel
theorem pd50 : parseMethodDescriptor "(IC)Z" = some ⟨[.int, .char], some .boolean⟩ := by decide +kernel
theorem pd51 : parseMethodDescriptor sn16 = some ⟨[(.object "java/util/ArrayList"), (.object "java/lang/String"), .boolean, .boolean, (.object "java/lang/String")], some .boolean⟩ := by decide +kernel
theorem pd52 : parseMethodDescriptor sn10 = some ⟨[(.object "java/lang/String")], some (.object sn0)⟩ := by decide +kernel
theorem pd53 : parseMethodDescriptor sn32 = some ⟨[(.object "java/util/List"), (.object "java/util/ArrayList")], some .boolean⟩ := by decide +kernel
abbrev E1 (f c s l : Nat) : DD := (⟨sn2, "line", sn52⟩, method_3_code, 2, (some (.object "java/lang/String")), { frames := f, cells := c, slots := s, locals := l })
abbrev E2 (f c s l : Nat) : DD := (⟨"java/lang/String", "<init>", "([C)V"⟩, jdk_42_method_3_code, 2, none, { frames := f, cells := c, slots := s, locals := l })
abbrev E3 (f c s l : Nat) : DD := (⟨"java/lang/String", "<init>", sn50⟩, jdk_42_method_149_code, 6, none, { frames := f, cells := c, slots := s, locals := l })
abbrev E5 (f c s l : Nat) : DD := (⟨sn21, "compress", "([CII)[B"⟩, jdk_52_method_16_code, 6, (some (.array .byte)), { frames := f, cells := c, slots := s, locals := l })
abbrev E6 (f c s l : Nat) : DD := (⟨sn21, "compress", "([CI[BII)I"⟩, jdk_52_method_21_code, 7, (some .int), { frames := f, cells := c, slots := s, locals := l })
abbrev E7 (f c s l : Nat) : DD := (⟨sn21, "coderFromArrayLen", "([BI)B"⟩, jdk_52_method_15_code, 2, (some .byte), { frames := f, cells := c, slots := s, locals := l })
abbrev E8 (f c s l : Nat) : DD := (⟨"java/lang/String", "valueOf", sn48⟩, jdk_42_method_139_code, 1, (some (.object "java/lang/String")), { frames := f, cells := c, slots := s, locals := l })
abbrev E9 (f c s l : Nat) : DD := (⟨sn20, "canEncode", "(C)Z"⟩, jdk_43_method_3_code, 1, (some .boolean), { frames := f, cells := c, slots := s, locals := l })
abbrev E10 (f c s l : Nat) : DD := (⟨sn20, "toBytes", "(C)[B"⟩, jdk_43_method_46_code, 1, (some (.array .byte)), { frames := f, cells := c, slots := s, locals := l })
abbrev E11 (f c s l : Nat) : DD := (⟨"java/lang/String", "<init>", "([BB)V"⟩, jdk_42_method_151_code, 3, none, { frames := f, cells := c, slots := s, locals := l })
abbrev E12 (f c s l : Nat) : DD := (⟨"java/util/ArrayList", "<init>", "()V"⟩, jdk_38_method_2_code, 1, none, { frames := f, cells := c, slots := s, locals := l })
abbrev E13 (f c s l : Nat) : DD := (⟨sn27, "<init>", "()V"⟩, jdk_39_method_1_code, 1, none, { frames := f, cells := c, slots := s, locals := l })
abbrev E14 (f c s l : Nat) : DD := (⟨sn22, "<init>", "()V"⟩, jdk_22_method_1_code, 1, none, { frames := f, cells := c, slots := s, locals := l })
abbrev E15 (f c s l : Nat) : DD := (⟨"java/util/ArrayList", "add", sn11⟩, jdk_38_method_25_code, 2, (some .boolean), { frames := f, cells := c, slots := s, locals := l })
abbrev E16 (f c s l : Nat) : DD := (⟨"java/util/ArrayList", "add", sn28⟩, jdk_38_method_24_code, 4, none, { frames := f, cells := c, slots := s, locals := l })
abbrev E17 (f c s l : Nat) : DD := (⟨"java/util/ArrayList", "grow", sn17⟩, jdk_38_method_7_code, 1, (some (.array (.object "java/lang/Object"))), { frames := f, cells := c, slots := s, locals := l })
abbrev E18 (f c s l : Nat) : DD := (⟨"java/util/ArrayList", "grow", sn47⟩, jdk_38_method_6_code, 4, (some (.array (.object "java/lang/Object"))), { frames := f, cells := c, slots := s, locals := l })
abbrev E19 (f c s l : Nat) : DD := (⟨"java/lang/Math", "max", "(II)I"⟩, jdk_29_method_65_code, 2, (some .int), { frames := f, cells := c, slots := s, locals := l })
abbrev E20 (f c s l : Nat) : DD := (⟨sn2, "isDataKind", "(IC)Z"⟩, method_4_code, 2, (some .boolean), { frames := f, cells := c, slots := s, locals := l })
abbrev E21 (f c s l : Nat) : DD := (⟨sn2, "expect", sn16⟩, method_5_code, 5, (some .boolean), { frames := f, cells := c, slots := s, locals := l })
abbrev E22 (f c s l : Nat) : DD := (⟨sn0, "<init>", "(Ljava/util/List;)V"⟩, prog_6_method_1_code, 2, none, { frames := f, cells := c, slots := s, locals := l })
abbrev E23 (f c s l : Nat) : DD := (⟨"java/lang/Record", "<init>", "()V"⟩, jdk_30_method_1_code, 1, none, { frames := f, cells := c, slots := s, locals := l })
abbrev E24 (f c s l : Nat) : DD := (⟨"java/util/List", "copyOf", sn12⟩, jdk_40_method_48_code, 1, (some (.object "java/util/List")), { frames := f, cells := c, slots := s, locals := l })
abbrev E25 (f c s l : Nat) : DD := (⟨sn8, "listCopy", sn12⟩, jdk_56_method_3_code, 2, (some (.object "java/util/List")), { frames := f, cells := c, slots := s, locals := l })
abbrev E26 (f c s l : Nat) : DD := (⟨"java/util/ArrayList", "isEmpty", "()Z"⟩, jdk_38_method_9_code, 1, (some .boolean), { frames := f, cells := c, slots := s, locals := l })
abbrev E27 (f c s l : Nat) : DD := (⟨"java/util/ArrayList", "toArray", sn17⟩, jdk_38_method_16_code, 1, (some (.array (.object "java/lang/Object"))), { frames := f, cells := c, slots := s, locals := l })
abbrev E28 (f c s l : Nat) : DD := (⟨"java/util/Arrays", "copyOf", sn29⟩, jdk_65_method_119_code, 2, (some (.array (.object "java/lang/Object"))), { frames := f, cells := c, slots := s, locals := l })
abbrev E29 (f c s l : Nat) : DD := (⟨"java/util/Arrays", "copyOf", sn19⟩, jdk_65_method_120_code, 4, (some (.array (.object "java/lang/Object"))), { frames := f, cells := c, slots := s, locals := l })
abbrev E30 (f c s l : Nat) : DD := (⟨"java/lang/Math", "min", "(II)I"⟩, jdk_29_method_69_code, 2, (some .int), { frames := f, cells := c, slots := s, locals := l })
abbrev E31 (f c s l : Nat) : DD := (⟨"java/util/List", "of", sn14⟩, jdk_40_method_47_code, 2, (some (.object "java/util/List")), { frames := f, cells := c, slots := s, locals := l })
abbrev E32 (f c s l : Nat) : DD := (⟨sn3, "<init>", sn49⟩, jdk_44_method_1_code, 2, none, { frames := f, cells := c, slots := s, locals := l })
abbrev E33 (f c s l : Nat) : DD := (⟨sn6, "<init>", "()V"⟩, jdk_46_method_1_code, 1, none, { frames := f, cells := c, slots := s, locals := l })
abbrev E34 (f c s l : Nat) : DD := (⟨sn13, "<init>", "()V"⟩, jdk_47_method_1_code, 1, none, { frames := f, cells := c, slots := s, locals := l })
abbrev E35 (f c s l : Nat) : DD := (⟨"java/util/Objects", "requireNonNull", sn25⟩, jdk_31_method_10_code, 1, (some (.object "java/lang/Object")), { frames := f, cells := c, slots := s, locals := l })
abbrev E36 (f c s l : Nat) : DD := (⟨sn0, "withData", sn10⟩, prog_6_method_3_code, 6, (some (.object sn0)), { frames := f, cells := c, slots := s, locals := l })
abbrev E37 (f c s l : Nat) : DD := (⟨sn6, "iterator", sn24⟩, jdk_46_method_10_code, 1, (some (.object "java/util/Iterator")), { frames := f, cells := c, slots := s, locals := l })
abbrev E38 (f c s l : Nat) : DD := (⟨sn3, "size", "()I"⟩, jdk_44_method_3_code, 1, (some .int), { frames := f, cells := c, slots := s, locals := l })
abbrev E39 (f c s l : Nat) : DD := (⟨sn4, "<init>", sn51⟩, jdk_53_method_1_code, 3, none, { frames := f, cells := c, slots := s, locals := l })
abbrev E40 (f c s l : Nat) : DD := (⟨sn4, "hasNext", "()Z"⟩, jdk_53_method_3_code, 1, (some .boolean), { frames := f, cells := c, slots := s, locals := l })
abbrev E41 (f c s l : Nat) : DD := (⟨sn3, "get", sn9⟩, jdk_44_method_5_code, 2, (some (.object "java/lang/Object")), { frames := f, cells := c, slots := s, locals := l })
abbrev E42 (f c s l : Nat) : DD := (⟨sn0, "isData", sn26⟩, prog_6_method_5_code, 1, (some .boolean), { frames := f, cells := c, slots := s, locals := l })
abbrev E43 (f c s l : Nat) : DD := (⟨"java/lang/String", "equals", sn11⟩, jdk_42_method_66_code, 3, (some .boolean), { frames := f, cells := c, slots := s, locals := l })
abbrev E44 (f c s l : Nat) : DD := (⟨sn20, "equals", "([B[B)Z"⟩, jdk_43_method_13_code, 3, (some .boolean), { frames := f, cells := c, slots := s, locals := l })
abbrev E45 (f c s l : Nat) : DD := (⟨sn7, "<init>", "()V"⟩, jdk_67_method_1_code, 1, none, { frames := f, cells := c, slots := s, locals := l })
abbrev E46 (f c s l : Nat) : DD := (⟨sn1, "<init>", "(I)V"⟩, jdk_68_method_2_code, 2, none, { frames := f, cells := c, slots := s, locals := l })
abbrev E47 (f c s l : Nat) : DD := (⟨sn7, "append", sn15⟩, jdk_67_method_7_code, 2, (some (.object sn7)), { frames := f, cells := c, slots := s, locals := l })
abbrev E48 (f c s l : Nat) : DD := (⟨sn1, "append", sn18⟩, jdk_68_method_22_code, 3, (some (.object sn1)), { frames := f, cells := c, slots := s, locals := l })
abbrev E49 (f c s l : Nat) : DD := (⟨"java/lang/String", "length", "()I"⟩, jdk_42_method_54_code, 1, (some .int), { frames := f, cells := c, slots := s, locals := l })
abbrev E50 (f c s l : Nat) : DD := (⟨"java/lang/String", "coder", "()B"⟩, jdk_42_method_152_code, 1, (some .byte), { frames := f, cells := c, slots := s, locals := l })
abbrev E51 (f c s l : Nat) : DD := (⟨sn1, sn44, "(I)V"⟩, jdk_68_method_9_code, 3, none, { frames := f, cells := c, slots := s, locals := l })
abbrev E52 (f c s l : Nat) : DD := (⟨sn1, "putStringAt", sn40⟩, jdk_68_method_73_code, 3, none, { frames := f, cells := c, slots := s, locals := l })
abbrev E53 (f c s l : Nat) : DD := (⟨sn1, "inflateIfNeededFor", sn43⟩, jdk_68_method_71_code, 2, none, { frames := f, cells := c, slots := s, locals := l })
abbrev E54 (f c s l : Nat) : DD := (⟨"java/lang/String", "getBytes", "([BIB)V"⟩, jdk_42_method_147_code, 4, none, { frames := f, cells := c, slots := s, locals := l })
abbrev E55 (f c s l : Nat) : DD := (⟨sn7, "toString", sn42⟩, jdk_67_method_42_code, 1, (some (.object "java/lang/String")), { frames := f, cells := c, slots := s, locals := l })
abbrev E56 (f c s l : Nat) : DD := (⟨"java/lang/String", "<init>", sn39⟩, jdk_42_method_53_code, 2, none, { frames := f, cells := c, slots := s, locals := l })
abbrev E57 (f c s l : Nat) : DD := (⟨"java/lang/String", "<init>", sn23⟩, jdk_42_method_150_code, 5, none, { frames := f, cells := c, slots := s, locals := l })
abbrev E58 (f c s l : Nat) : DD := (⟨sn1, "getValue", "()[B"⟩, jdk_68_method_64_code, 1, (some (.array .byte)), { frames := f, cells := c, slots := s, locals := l })
abbrev E59 (f c s l : Nat) : DD := (⟨sn7, "length", "()I"⟩, jdk_67_method_93_code, 1, (some .int), { frames := f, cells := c, slots := s, locals := l })
abbrev E60 (f c s l : Nat) : DD := (⟨sn1, "length", "()I"⟩, jdk_68_method_6_code, 1, (some .int), { frames := f, cells := c, slots := s, locals := l })
abbrev E61 (f c s l : Nat) : DD := (⟨sn1, "isLatin1", "()Z"⟩, jdk_68_method_68_code, 1, (some .boolean), { frames := f, cells := c, slots := s, locals := l })
abbrev E62 (f c s l : Nat) : DD := (⟨"java/util/Arrays", "copyOfRange", "([BII)[B"⟩, jdk_65_method_132_code, 3, (some (.array .byte)), { frames := f, cells := c, slots := s, locals := l })
abbrev E63 (f c s l : Nat) : DD := (⟨"java/util/Arrays", "copyOfRangeByte", "([BII)[B"⟩, jdk_65_method_133_code, 5, (some (.array .byte)), { frames := f, cells := c, slots := s, locals := l })
abbrev E64 (f c s l : Nat) : DD := (⟨"java/util/Arrays", "checkLength", "(II)V"⟩, jdk_65_method_131_code, 2, none, { frames := f, cells := c, slots := s, locals := l })
abbrev E65 (f c s l : Nat) : DD := (⟨sn0, "lines", "()Ljava/util/List;"⟩, prog_6_method_9_code, 1, (some (.object "java/util/List")), { frames := f, cells := c, slots := s, locals := l })
abbrev E66 (f c s l : Nat) : DD := (⟨sn2, "same", sn32⟩, method_6_code, 3, (some .boolean), { frames := f, cells := c, slots := s, locals := l })
abbrev E67 (f c s l : Nat) : DD := (⟨"java/util/ArrayList", "size", "()I"⟩, jdk_38_method_8_code, 1, (some .int), { frames := f, cells := c, slots := s, locals := l })
abbrev E68 (f c s l : Nat) : DD := (⟨"java/util/ArrayList", "get", sn9⟩, jdk_38_method_20_code, 2, (some (.object "java/lang/Object")), { frames := f, cells := c, slots := s, locals := l })
abbrev E69 (f c s l : Nat) : DD := (⟨"java/util/Objects", "checkIndex", "(II)I"⟩, jdk_31_method_17_code, 2, (some .int), { frames := f, cells := c, slots := s, locals := l })
abbrev E70 (f c s l : Nat) : DD := (⟨sn36, "checkIndex", sn33⟩, jdk_41_method_11_code, 3, (some .int), { frames := f, cells := c, slots := s, locals := l })
abbrev E71 (f c s l : Nat) : DD := (⟨"java/util/ArrayList", "elementData", sn9⟩, jdk_38_method_18_code, 2, (some (.object "java/lang/Object")), { frames := f, cells := c, slots := s, locals := l })
abbrev E72 (f c s l : Nat) : DD := (⟨"java/util/List", "of", "()Ljava/util/List;"⟩, jdk_40_method_36_code, 0, (some (.object "java/util/List")), { frames := f, cells := c, slots := s, locals := l })
abbrev E73 (f c s l : Nat) : DD := (⟨sn5, "size", "()I"⟩, jdk_45_method_3_code, 1, (some .int), { frames := f, cells := c, slots := s, locals := l })
abbrev E74 (f c s l : Nat) : DD := (⟨"java/lang/String", "startsWith", sn26⟩, jdk_42_method_76_code, 2, (some .boolean), { frames := f, cells := c, slots := s, locals := l })
abbrev E75 (f c s l : Nat) : DD := (⟨"java/lang/String", "startsWith", sn41⟩, jdk_42_method_75_code, 8, (some .boolean), { frames := f, cells := c, slots := s, locals := l })
abbrev E76 (f c s l : Nat) : DD := (⟨sn8, "listFromArray", sn14⟩, jdk_56_method_4_code, 3, (some (.object "java/util/List")), { frames := f, cells := c, slots := s, locals := l })
abbrev E77 (f c s l : Nat) : DD := (⟨sn5, "<init>", sn46⟩, jdk_45_method_1_code, 3, none, { frames := f, cells := c, slots := s, locals := l })
abbrev E78 (f c s l : Nat) : DD := (⟨sn5, "get", sn9⟩, jdk_45_method_4_code, 2, (some (.object "java/lang/Object")), { frames := f, cells := c, slots := s, locals := l })
abbrev E79 (f c s l : Nat) : DD := (⟨sn37, "mismatch", "([BI[BII)I"⟩, jdk_48_method_14_code, 8, (some .int), { frames := f, cells := c, slots := s, locals := l })
abbrev E80 (f c s l : Nat) : DD := (⟨sn3, "<init>", sn30⟩, jdk_44_method_2_code, 3, none, { frames := f, cells := c, slots := s, locals := l })
abbrev E81 (f c s l : Nat) : DD := (⟨sn4, "next", sn35⟩, jdk_53_method_4_code, 3, (some (.object "java/lang/Object")), { frames := f, cells := c, slots := s, locals := l })
abbrev oS (a : Addr) (v0 v1 : Value) : Ent := (a, .inl ("java/lang/String", [("java/lang/String", "coder", "B", v0), ("java/lang/String", "value", "[B", v1)]))
theorem Ly_oS {g : GG} (W : GW g) : Lays g.Z g.a0 "java/lang/String" [("java/lang/String", "coder", "B", (.int (0 : Int32))), ("java/lang/String", "value", "[B", .null)] := by
  refine ⟨by decide, fun f hf => ?_⟩
  simp only [List.mem_cons, List.not_mem_nil, or_false] at hf
  rcases hf with rfl | rfl
  · exact ⟨Or.inr (W32 W), .byte, by decide⟩
  · exact ⟨Or.inr (W34 W), (.array .byte), by decide⟩
abbrev oAL (a : Addr) (v0 v1 v2 : Value) : Ent := (a, .inl ("java/util/ArrayList", [(sn27, "modCount", "I", v0), ("java/util/ArrayList", "elementData", "[Ljava/lang/Object;", v1), ("java/util/ArrayList", "size", "I", v2)]))
theorem Ly_oAL {g : GG} (W : GW g) : Lays g.Z g.a0 "java/util/ArrayList" [(sn27, "modCount", "I", (.int (0 : Int32))), ("java/util/ArrayList", "elementData", "[Ljava/lang/Object;", .null), ("java/util/ArrayList", "size", "I", (.int (0 : Int32)))] := by
  refine ⟨by decide, fun f hf => ?_⟩
  simp only [List.mem_cons, List.not_mem_nil, or_false] at hf
  rcases hf with rfl | rfl | rfl
  · exact ⟨Or.inl (W69 W), .int, by decide⟩
  · exact ⟨Or.inl (W72 W), (.array (.object "java/lang/Object")), by decide⟩
  · exact ⟨Or.inl (W81 W), .int, by decide⟩
abbrev oEV (a : Addr) (v0 : Value) : Ent := (a, .inl (sn0, [(sn0, "lines", "Ljava/util/List;", v0)]))
theorem Ly_oEV {g : GG} (W : GW g) : Lays g.Z g.a0 sn0 [(sn0, "lines", "Ljava/util/List;", .null)] := by
  refine ⟨by decide, fun f hf => ?_⟩
  simp only [List.mem_cons, List.not_mem_nil, or_false] at hf
  rcases hf with rfl
  · exact ⟨Or.inr (W209 W), (.object "java/util/List"), by decide⟩
abbrev o12 (a : Addr) (v0 v1 : Value) : Ent := (a, .inl (sn3, [(sn3, "e0", "Ljava/lang/Object;", v0), (sn3, "e1", "Ljava/lang/Object;", v1)]))
theorem Ly_o12 {g : GG} (W : GW g) : Lays g.Z g.a0 sn3 [(sn3, "e0", "Ljava/lang/Object;", .null), (sn3, "e1", "Ljava/lang/Object;", .null)] := by
  refine ⟨by decide, fun f hf => ?_⟩
  simp only [List.mem_cons, List.not_mem_nil, or_false] at hf
  rcases hf with rfl | rfl
  · exact ⟨Or.inr (W204 W), (.object "java/lang/Object"), by decide⟩
  · exact ⟨Or.inr (W207 W), (.object "java/lang/Object"), by decide⟩
abbrev oLN (a : Addr) (v0 v1 : Value) : Ent := (a, .inl (sn5, [(sn5, "elements", "[Ljava/lang/Object;", v0), (sn5, "allowNulls", "Z", v1)]))
theorem Ly_oLN {g : GG} (W : GW g) : Lays g.Z g.a0 sn5 [(sn5, "elements", "[Ljava/lang/Object;", .null), (sn5, "allowNulls", "Z", (.int (0 : Int32)))] := by
  refine ⟨by decide, fun f hf => ?_⟩
  simp only [List.mem_cons, List.not_mem_nil, or_false] at hf
  rcases hf with rfl | rfl
  · exact ⟨Or.inr (W449 W), (.array (.object "java/lang/Object")), by decide⟩
  · exact ⟨Or.inr (W481 W), .boolean, by decide⟩
abbrev oLI (a : Addr) (v0 v1 v2 v3 : Value) : Ent := (a, .inl (sn4, [(sn4, "list", "Ljava/util/List;", v0), (sn4, "size", "I", v1), (sn4, "cursor", "I", v2), (sn4, "isListIterator", "Z", v3)]))
theorem Ly_oLI {g : GG} (W : GW g) : Lays g.Z g.a0 sn4 [(sn4, "list", "Ljava/util/List;", .null), (sn4, "size", "I", (.int (0 : Int32))), (sn4, "cursor", "I", (.int (0 : Int32))), (sn4, "isListIterator", "Z", (.int (0 : Int32)))] := by
  refine ⟨by decide, fun f hf => ?_⟩
  simp only [List.mem_cons, List.not_mem_nil, or_false] at hf
  rcases hf with rfl | rfl | rfl | rfl
  · exact ⟨Or.inr (W241 W), (.object "java/util/List"), by decide⟩
  · exact ⟨Or.inr (W243 W), .int, by decide⟩
  · exact ⟨Or.inl (W245 W), .int, by decide⟩
  · exact ⟨Or.inr (W247 W), .boolean, by decide⟩
abbrev oSB (a : Addr) (v0 v1 v2 : Value) : Ent := (a, .inl (sn7, [(sn1, "value", "[B", v0), (sn1, "coder", "B", v1), (sn1, "count", "I", v2)]))
theorem Ly_oSB {g : GG} (W : GW g) : Lays g.Z g.a0 sn7 [(sn1, "value", "[B", .null), (sn1, "coder", "B", (.int (0 : Int32))), (sn1, "count", "I", (.int (0 : Int32)))] := by
  refine ⟨by decide, fun f hf => ?_⟩
  simp only [List.mem_cons, List.not_mem_nil, or_false] at hf
  rcases hf with rfl | rfl | rfl
  · exact ⟨Or.inl (W303 W), (.array .byte), by decide⟩
  · exact ⟨Or.inl (W305 W), .byte, by decide⟩
  · exact ⟨Or.inl (W328 W), .int, by decide⟩
theorem strW {g : GG} (W : GW g) : ∀ a ∈ Bundle.stringAtoms, a.before g.a0 g.Z = true := by
  intro a ha
  simp only [Bundle.stringAtoms, List.mem_cons, List.not_mem_nil, or_false] at ha
  rcases ha with rfl | rfl | rfl | rfl | rfl | rfl | rfl
  · exact W7 W
  · exact W6 W
  · exact W24 W
  · exact W34 W
  · exact W32 W
  · exact W278 W
  · exact W279 W
theorem inEL {g : GG} (W : GW g) {p : String × Nat} (h : p ∈ consts_1) : p ∈ g.EL := by
  show p ∈ g.2.2.2
  rw [W.2.2.2.2.1]
  exact h
/-! String's making: plain facts -/
abbrev bV (x : Int32) : Value := .int x.toInt8.toInt32
def bpre (cs : List Int32) (i : Nat) : List Value := (cs.take i).map bV ++ List.replicate (cs.length - i) (.int 0)
theorem ch_ch (x : Int32) : nar .char x.toUInt32.toUInt16.toUInt32.toInt32 = x.toUInt32.toUInt16.toUInt32.toInt32 := by simp only [nar, UInt32.toUInt32_toInt32, UInt16.toUInt16_toUInt32]
theorem by_by (x : Int32) : nar .byte x.toInt8.toInt32 = x.toInt8.toInt32 := by simp [nar]
theorem bpre0 (cs : List Int32) : bpre cs 0 = List.replicate cs.length (.int 0) := by simp [bpre]
theorem bpreN (cs : List Int32) : bpre cs cs.length = cs.map bV := by simp [bpre]
theorem bpre_len {cs : List Int32} {i : Nat} (h : i ≤ cs.length) : (bpre cs i).length = cs.length := by simp [bpre]; omega
theorem bpre_set {cs : List Int32} {i : Nat} {x : Int32} (h : cs[i]? = some x) : (bpre cs i).set i (bV x) = bpre cs (i + 1) := by
  obtain ⟨hl, rfl⟩ := List.getElem?_eq_some_iff.mp h
  have e : cs.length - i = (cs.length - (i + 1)) + 1 := by omega
  have ht : ((cs.take i).map bV).length = i := by simp; omega
  unfold bpre
  rw [e, List.replicate_succ, List.set_append_right _ _ (by omega), ht, Nat.sub_self, List.set_cons_zero, List.take_succ_eq_append_getElem hl, List.map_append, List.append_assoc]
  rfl
theorem n31 {n : Nat} (h : n < 2147483648) : ¬ Int32.ofNat n < 0 := Int32.ofNat_not_neg (by omega)
theorem n31c {n : Nat} (h : n < 2147483648) : (Int32.ofNat n).toNatClampNeg = n := Jvm.Free.XT.n32 (by omega)
theorem ltN {i n : Nat} (h : i < n) (hn : n < 2147483648) : Int32.ofNat i < Int32.ofNat n := by
  rw [Int32.lt_iff_toInt_lt, Int32.toInt_ofNat_small (by omega), Int32.toInt_ofNat_small (by omega)]; omega
theorem neN {n : Nat} (h : 0 < n) (hn : n < 2147483648) : ¬ Int32.ofNat n = 0 := fun e => by
  have := congrArg Int32.toInt e
  rw [Int32.toInt_ofNat_small (by omega)] at this
  have h0 : (0 : Int32).toInt = 0 := rfl
  omega
theorem injN {n k : Nat} (hn : n < 2147483648) (hk : k < 2147483648) (e : Int32.ofNat n = Int32.ofNat k) : n = k := by
  have := congrArg Int32.toInt e
  rw [Int32.toInt_ofNat_small (by omega), Int32.toInt_ofNat_small (by omega)] at this
  omega
theorem sucN (i : Nat) : Int32.ofNat i + (1 : Int32) = Int32.ofNat (i + 1) := by simp
theorem cdr0 (x : Int32) : (((x - x).toUInt32 >>> ((31 : Int32) &&& 31).toUInt32).toInt32).toInt8.toInt32 = 0 := by
  rw [Int32.sub_self]; decide

theorem le255 (x : Int32) : ¬ (255 : Int32) < (x &&& (255 : Int32)).toUInt32.toUInt16.toUInt32.toInt32 := by
  rw [i2c_mask]
  have h := c_mask x 255 8 (by decide) rfl
  rw [Int32.lt_iff_toInt_lt, h, show (255 : Int32).toInt = 255 from rfl]
  simp only [Nat.reducePow, Int.cast_ofNat_Int]
  omega

theorem compact {g : GG} (W : GW g) : ∃ z : Int32, Sta g.Z g.Z.heap "java/lang/String" "COMPACT_STRINGS" "Z" (.int z) ∧ ¬ z = 0 := by
  obtain ⟨z, e⟩ := is_v (Cond.before_iff.mp (W.2.2.1 _ (List.mem_of_getElem? (i := 1) rfl)))
  refine ⟨z, Sta.start e (Or.inl (W.2.2.1 _ (List.mem_of_getElem? (i := 0) rfl))), fun q => ?_⟩
  have n := not_v (Cond.before_iff.mp (W.2.2.1 _ (List.mem_of_getElem? (i := 2) rfl)))
  rw [eq_i e (Term.int_eval 0) (by rw [q])] at n
  cases n

theorem ef_c5 (c d : Addr) (n : Nat) (m : MethodId) : entryFrame m #[(.ref c), (.int 0), (.ref d), (.int 0), (.int (Int32.ofNat n))] 7 = mkF m 0 #[.val (.ref c), .val (.int 0), .val (.ref d), .val (.int 0), .val (.int (Int32.ofNat n)), .unset, .unset] [] := by first | (simp [entryFrame, mkF, argsToLocals, Value.category]; done) | rfl
abbrev D6 := E6 0 0 0 0
theorem lp_c5 {g : GG} (W : GW g) (c : Addr) (nm : String) (cs : List Int32) (hcs : ∀ x ∈ cs, ¬ (255 : Int32) < x) (hn : cs.length ≤ 8) {H0 : List Ent} {Lt : List SE} {M : MM} {d : Addr} : ∀ (k i : Nat), i + k = cs.length → ∀ (o : Slot), (o = .unset ∨ ∃ w, o = .val w ∧ w.category = 1) → ∀ {T : State}, RH g D6 M T ((d, .inr (.byte, "[B", bpre cs i)) :: (c, .inr (.char, nm, cs.map Value.int)) :: H0) Lt 0 0 →
    Fn g D6 M (fun v vm h => v = some (.int (Int32.ofNat cs.length)) ∧ Hp g vm h ((d, .inr (.byte, "[B", cs.map bV)) :: (c, .inr (.char, nm, cs.map Value.int)) :: H0) Lt) (T.setTop (mkF M.m 3 #[.val (.ref c), .val (.int (Int32.ofNat i)), .val (.ref d), .val (.int (Int32.ofNat i)), .val (.int (Int32.ofNat cs.length)), .val (.int (Int32.ofNat i)), o] [])) := by
  intro k
  induction k with
  | zero =>
    intro i hi o ho T B
    have hi' : i = cs.length := by omega
    refine p_iload B d6_3 rfl rfl ?_
    refine p_iload B d6_5 rfl rfl ?_
    refine b_icT B d6_7 (pc' := 44) (by subst hi'; exact Int32.lt_irrefl) (by decide) (by decide) ?_
    refine p_iload B d6_44 rfl rfl ?_
    exact r_reti B d6_46 rfl (by simp) rfl (by decide) (by decide) (fun vm h P => ⟨rfl, by subst hi'; rw [← bpreN cs]; exact P⟩)
  | succ k ih =>
    intro i hi o ho T B
    have hlt : i < cs.length := by omega
    obtain ⟨x, hx⟩ : ∃ x, cs[i]? = some x := ⟨_, List.getElem?_eq_getElem hlt⟩
    have hx2 : (cs.map Value.int)[i]? = some (.int x) := by rw [List.getElem?_map, hx]; rfl
    refine p_iload B d6_3 rfl rfl ?_
    refine p_iload B d6_5 rfl rfl ?_
    refine b_icF B d6_7 (pc' := 10) rfl (ltN hlt (by omega)) ?_
    refine p_aloadN B d6_10 rfl rfl rfl ?_
    refine p_iloadN B d6_11 rfl rfl ?_
    refine r_aget B d6_12 rfl rfl (aH (i := 1) rfl) (k := i) rfl hx2 ?_
    refine p_istore B d6_13 rfl (Ls' := #[.val (.ref c), .val (.int (Int32.ofNat i)), .val (.ref d), .val (.int (Int32.ofNat i)), .val (.int (Int32.ofNat cs.length)), .val (.int (Int32.ofNat i)), .val (.int x)]) (XS.store1 (o := o) rfl ho rfl) ?_
    refine p_iload B d6_15 rfl rfl ?_
    refine p_sipush B d6_17 rfl (v := (255 : Int32)) (by decide) ?_
    refine b_icT B d6_20 (pc' := 26) (hcs x (List.mem_of_getElem? hx)) (by decide) (by decide) ?_
    refine p_aloadN B d6_26 rfl rfl rfl ?_
    refine p_iloadN B d6_27 rfl rfl ?_
    refine p_iload B d6_28 rfl rfl ?_
    refine p_i2b B d6_30 rfl ?_
    refine r_bastore B d6_31 rfl (i := 0) rfl (n31 (by omega)) (k := i) (n31c (by omega)) (by rw [bpre_len (by omega)]; exact hlt) (by_by x) (H' := ((d, .inr (.byte, "[B", bpre cs (i + 1))) :: (c, .inr (.char, nm, cs.map Value.int)) :: H0)) (by rw [List.set_cons_zero, bpre_set hx]) fun T2 B2 => ?_
    refine p_iinc B2 d6_32 rfl (v := (1 : Int32)) (by decide) rfl (z := ((Int32.ofNat i) + (1 : Int32))) rfl (Ls' := #[.val (.ref c), .val (.int ((Int32.ofNat i) + (1 : Int32))), .val (.ref d), .val (.int (Int32.ofNat i)), .val (.int (Int32.ofNat cs.length)), .val (.int (Int32.ofNat i)), .val (.int x)]) rfl ?_
    refine p_iinc B2 d6_35 rfl (v := (1 : Int32)) (by decide) rfl (z := ((Int32.ofNat i) + (1 : Int32))) rfl (Ls' := #[.val (.ref c), .val (.int ((Int32.ofNat i) + (1 : Int32))), .val (.ref d), .val (.int ((Int32.ofNat i) + (1 : Int32))), .val (.int (Int32.ofNat cs.length)), .val (.int (Int32.ofNat i)), .val (.int x)]) rfl ?_
    refine p_iinc B2 d6_38 rfl (v := (1 : Int32)) (by decide) rfl (z := ((Int32.ofNat i) + (1 : Int32))) rfl (Ls' := #[.val (.ref c), .val (.int ((Int32.ofNat i) + (1 : Int32))), .val (.ref d), .val (.int ((Int32.ofNat i) + (1 : Int32))), .val (.int (Int32.ofNat cs.length)), .val (.int ((Int32.ofNat i) + (1 : Int32))), .val (.int x)]) rfl ?_
    refine b_goto B2 d6_41 (pc' := 3) (by decide) (by decide) ?_
    rw [sucN i]
    exact ih (i + 1) (by omega) _ (Or.inr ⟨_, rfl, rfl⟩) B2
theorem k_c5 {g : GG} (W : GW g) (c : Addr) (nm : String) (cs : List Int32) (hcs : ∀ x ∈ cs, ¬ (255 : Int32) < x) (hn : cs.length ≤ 8) (d : Addr) (H0 : List Ent) (Lt : List SE) : Ct g D6 #[.ref c, .int (0 : Int32), .ref d, .int (0 : Int32), .int (Int32.ofNat cs.length)] ((d, .inr (.byte, "[B", bpre cs 0)) :: (c, .inr (.char, nm, cs.map Value.int)) :: H0) Lt (fun v vm h => v = some (.int (Int32.ofNat cs.length)) ∧ Hp g vm h ((d, .inr (.byte, "[B", cs.map bV)) :: (c, .inr (.char, nm, cs.map Value.int)) :: H0) Lt) := by
  refine CtW.body W (by decide +kernel) (ef_c5 c d cs.length) ?_
  intro M T B
  refine p_iconst B d6_0 rfl (v := (0 : Int32)) (by decide) ?_
  refine p_istore B d6_1 rfl (Ls' := #[.val (.ref c), .val (.int 0), .val (.ref d), .val (.int 0), .val (.int (Int32.ofNat cs.length)), .val (.int 0), .unset]) rfl ?_
  exact lp_c5 W c nm cs hcs hn cs.length 0 (by omega) _ (Or.inl rfl) B
theorem ef_cf (d : Addr) (n : Nat) (m : MethodId) : entryFrame m #[(.ref d), (.int (Int32.ofNat n))] 2 = mkF m 0 #[.val (.ref d), .val (.int (Int32.ofNat n))] [] := by first | (simp [entryFrame, mkF, argsToLocals, Value.category]; done) | rfl
abbrev D7 := E7 0 0 0 0
theorem k_cf {g : GG} (W : GW g) (d : Addr) (nm : String) (vs : List Value) (n : Nat) (hn : vs.length = n) (H0 : List Ent) (Lt : List SE) : Ct g D7 #[.ref d, .int (Int32.ofNat n)] ((d, .inr (.byte, nm, vs)) :: H0) Lt (fun v vm h => v = some (.int (0 : Int32)) ∧ Hp g vm h ((d, .inr (.byte, nm, vs)) :: H0) Lt) := by
  subst hn
  refine CtW.body W (by decide +kernel) (ef_cf d vs.length) ?_
  intro M T B
  refine p_iloadN B d7_0 rfl rfl ?_
  refine p_aloadN B d7_1 rfl rfl rfl ?_
  refine r_alen B d7_2 rfl (aH (i := 0) rfl) (z := (Int32.ofNat vs.length)) rfl ?_
  refine p_isub B d7_3 rfl rfl ?_
  refine p_bipush B d7_4 rfl (v := (31 : Int32)) (by decide) ?_
  refine p_iushr B d7_6 rfl rfl ?_
  refine p_i2b B d7_7 rfl ?_
  rw [cdr0]
  exact r_reti B d7_8 rfl (by simp) rfl (by decide) (by decide) (fun vm h P => ⟨rfl, P⟩)
theorem ef_c3 (c : Addr) (n : Nat) (m : MethodId) : entryFrame m #[(.ref c), (.int 0), (.int (Int32.ofNat n))] 6 = mkF m 0 #[.val (.ref c), .val (.int 0), .val (.int (Int32.ofNat n)), .unset, .unset, .unset] [] := by first | (simp [entryFrame, mkF, argsToLocals, Value.category]; done) | rfl
abbrev D5 := E5 1 1 8 18
theorem k_c3 {g : GG} (W : GW g) (c : Addr) (nm : String) (cs : List Int32) (hcs : ∀ x ∈ cs, ¬ (255 : Int32) < x) (hn : cs.length ≤ 8) (H0 : List Ent) (Lt : List SE) : Ct g D5 #[.ref c, .int (0 : Int32), .int (Int32.ofNat cs.length)] ((c, .inr (.char, nm, cs.map Value.int)) :: H0) Lt (fun v vm h => ∃ d, v = some (.ref d) ∧ Hp g vm h ((d, .inr (.byte, "[B", cs.map bV)) :: (c, .inr (.char, nm, cs.map Value.int)) :: H0) Lt) := by
  refine CtW.body W (by decide +kernel) (ef_c3 c cs.length) ?_
  intro M T B
  refine p_iloadN B d5_0 rfl rfl ?_
  refine r_newp B d5_1 rfl (ty := .byte) (W24 B.gw) rfl (n31 (by omega)) (nn := cs.length) (n31c (by omega)) (cap := 8) hn (by decide) (cs' := 1) rfl (ss' := 8) rfl (by decide) (by decide) (ad := "[B") (by decide) (by decide) nofun (vs := bpre cs 0) (bpre0 cs).symm fun T1 d B1 => ?_
  refine p_astoreN B1 d5_3 rfl rfl (Ls' := #[.val (.ref c), .val (.int 0), .val (.int (Int32.ofNat cs.length)), .val (.ref d), .unset, .unset]) rfl ?_
  refine p_aloadN B1 d5_4 rfl rfl rfl ?_
  refine p_iloadN B1 d5_5 rfl rfl ?_
  refine p_aloadN B1 d5_6 rfl rfl rfl ?_
  refine p_iconst B1 d5_7 rfl (v := (0 : Int32)) (by decide) ?_
  refine p_iloadN B1 d5_8 rfl rfl ?_
  refine r_static (D' := D6) B1 d5_9 rfl (W25 B1.gw) (W26 B1.gw) (W22 B1.gw) (W27 B1.gw) (by decide) (k_c5 W c nm cs hcs hn d H0 Lt) (argsL := [(.ref c), (.int 0), (.ref d), (.int 0), (.int (Int32.ofNat cs.length))]) (rest := []) rfl pd0 rfl rfl rfl (W := 0) rfl (cs' := 1) (ss' := 8) (by decide) (Kv1 fun T1 B3 => ?_)
  refine p_istore B3 d5_12 rfl (Ls' := #[.val (.ref c), .val (.int 0), .val (.int (Int32.ofNat cs.length)), .val (.ref d), .val (.int (Int32.ofNat cs.length)), .unset]) rfl ?_
  refine p_iload B3 d5_14 rfl rfl ?_
  refine p_iloadN B3 d5_16 rfl rfl ?_
  refine b_icT B3 d5_17 (pc' := 57) rfl (by decide) (by decide) ?_
  refine p_aloadN B3 d5_57 rfl rfl rfl ?_
  exact r_reta B3 d5_58 rfl rfl rfl (by decide) (by decide) (fun vm h P => ⟨d, rfl, P⟩)
theorem ef_i4 (a c : Addr) (n : Nat) (m : MethodId) : entryFrame m #[(.ref a), (.ref c), (.int 0), (.int (Int32.ofNat n)), .null] 6 = mkF m 0 #[.val (.ref a), .val (.ref c), .val (.int 0), .val (.int (Int32.ofNat n)), .val .null, .unset] [] := by first | (simp [entryFrame, mkF, argsToLocals, Value.category]; done) | rfl
abbrev D3 := E3 2 1 8 35
theorem k_i4 {g : GG} (W : GW g) (a : Addr) (c : Addr) (nm : String) (cs : List Int32) (hcs : ∀ x ∈ cs, ¬ (255 : Int32) < x) (hn : cs.length ≤ 8) (hne : cs ≠ []) (H0 : List Ent) (Lt : List SE) : Ct g D3 #[.ref a, .ref c, .int (0 : Int32), .int (Int32.ofNat cs.length), .null] (oS a (.int 0) .null :: (c, .inr (.char, nm, cs.map Value.int)) :: H0) Lt (fun v vm h => v = none ∧ ∃ d, Hp g vm h ((c, .inr (.char, nm, cs.map Value.int)) :: H0) ((a, d, 0, cs.map bV) :: Lt)) := by
  refine CtW.body W (by decide +kernel) (ef_i4 a c cs.length) ?_
  intro M T B
  refine p_aloadN B d3_0 rfl rfl rfl ?_
  refine r_initO B d3_1 rfl (W16 B.gw) (W17 B.gw) (W18 B.gw) rfl (by decide) (W := 0) rfl (by decide) fun T1 B2 => ?_
  refine p_iloadN B2 d3_4 rfl rfl ?_
  by_cases h0 : 0 < cs.length
  · refine b_ifT B2 d3_5 (pc' := 27) (neN h0 (by omega)) (by decide) (by decide) ?_
    obtain ⟨z, hz, hz0⟩ := compact W
    refine r_gets B2 d3_27 rfl (host := "") (Or.inl (W19 B2.gw)) Via.refl (v := (.int z)) hz fun T3 B4 => ?_
    refine b_ifF B4 d3_30 (pc' := 33) rfl hz0 ?_
    refine p_aloadN B4 d3_33 rfl rfl rfl ?_
    refine p_iloadN B4 d3_34 rfl rfl ?_
    refine p_iloadN B4 d3_35 rfl rfl ?_
    have B5 : RH g D3 M T3 ((c, .inr (.char, nm, (cs.map Value.int))) :: oS a (.int 0) .null :: H0) (Lt) 0 0 := B4.front (i := 1) rfl rfl
    refine r_static (D' := D5) B5 d3_36 rfl (W20 B5.gw) (W21 B5.gw) (W22 B5.gw) (W23 B5.gw) (by decide) (k_c3 W c nm cs hcs hn (oS a (.int 0) .null :: H0) Lt) (argsL := [(.ref c), (.int 0), (.int (Int32.ofNat cs.length))]) (rest := []) rfl pd1 rfl rfl rfl (W := 0) rfl (cs' := 1) (ss' := 8) (by decide) (Kex fun d => Kv1 fun T6 B8 => ?_)
    refine p_astore B8 d3_39 rfl rfl (Ls' := #[.val (.ref a), .val (.ref c), .val (.int 0), .val (.int (Int32.ofNat cs.length)), .val .null, .val (.ref d)]) rfl ?_
    refine p_aloadN B8 d3_41 rfl rfl rfl ?_
    refine p_aload B8 d3_42 rfl rfl rfl ?_
    refine p_iloadN B8 d3_44 rfl rfl ?_
    refine r_static (D' := D7) B8 d3_45 rfl (W28 B8.gw) (W29 B8.gw) (W22 B8.gw) (W30 B8.gw) (by decide) (k_cf W d "[B" (cs.map bV) cs.length (List.length_map ..) _ Lt) (argsL := [(.ref d), (.int (Int32.ofNat cs.length))]) (rest := [(.ref a)]) rfl pd2 rfl rfl rfl (W := 1) rfl (cs' := 1) (ss' := 8) (by decide) (Kv1 fun T9 B11 => ?_)
    refine r_put B11 d3_48 rfl (host := "") (Or.inl (W31 B11.gw)) Via.refl (i := 2) (j := 0) rfl rfl (Or.inr ⟨(W32 B11.gw), rfl, rfl⟩) (W6 B11.gw) (ty := .byte) (by decide) (by decide) (by decide) (H' := ((d, .inr (.byte, "[B", (cs.map bV))) :: (c, .inr (.char, nm, (cs.map Value.int))) :: oS a (.int 0) .null :: H0)) rfl fun T12 B13 => ?_
    refine p_aloadN B13 d3_51 rfl rfl rfl ?_
    refine p_aload B13 d3_52 rfl rfl rfl ?_
    refine r_put B13 d3_54 rfl (host := "") (Or.inl (W33 B13.gw)) Via.refl (i := 2) (j := 1) rfl rfl (Or.inr ⟨(W34 B13.gw), rfl, rfl⟩) (W6 B13.gw) (ty := (.array .byte)) (by decide) rfl rfl (H' := ((d, .inr (.byte, "[B", (cs.map bV))) :: (c, .inr (.char, nm, (cs.map Value.int))) :: oS a (.int 0) (.ref d) :: H0)) rfl fun T14 B15 => ?_
    have B16 : RH g D3 M T14 (oS a (.int 0) (.ref d) :: (d, .inr (.byte, "[B", (cs.map bV))) :: (c, .inr (.char, nm, (cs.map Value.int))) :: H0) (Lt) 1 8 := B15.front (i := 2) rfl rfl
    exact r_ret B16 d3_57 rfl (by decide) (by decide) (fun vm h P => ⟨rfl, d, P.freeze (by simp) (by simp)⟩)
  · have e0 : cs = [] := List.eq_nil_of_length_eq_zero (by omega)
    exact absurd e0 hne
abbrev D2 := E2 3 1 8 52
theorem k_i1 {g : GG} (W : GW g) (a : Addr) (c : Addr) (nm : String) (cs : List Int32) (hcs : ∀ x ∈ cs, ¬ (255 : Int32) < x) (hn : cs.length ≤ 8) (hne : cs ≠ []) (H0 : List Ent) (Lt : List SE) : Ct g D2 #[.ref a, .ref c] (oS a (.int 0) .null :: (c, .inr (.char, nm, cs.map Value.int)) :: H0) Lt (fun v vm h => v = none ∧ ∃ d, Hp g vm h ((c, .inr (.char, nm, cs.map Value.int)) :: H0) ((a, d, 0, cs.map bV) :: Lt)) := by
  refine CtW.body (Ls := #[.val (.ref a), .val (.ref c)]) W (by decide +kernel) (efr rfl) ?_
  intro M T B
  refine p_aloadN B d2_0 rfl rfl rfl ?_
  refine p_aloadN B d2_1 rfl rfl rfl ?_
  refine p_iconst B d2_2 rfl (v := (0 : Int32)) (by decide) ?_
  refine p_aloadN B d2_3 rfl rfl rfl ?_
  refine r_alen B d2_4 rfl (aH (i := 1) rfl) (z := Int32.ofNat cs.length) (by rw [List.length_map]) ?_
  refine p_null B d2_5 rfl ?_
  refine r_special (D' := D3) B d2_6 rfl rfl rfl (W12 B.gw) (W13 B.gw) (W7 B.gw) (W15 B.gw) (by decide) (k_i4 W a c nm cs hcs hn hne H0 Lt) (a := a) (argsL := [(.ref c), (.int 0), (.int (Int32.ofNat cs.length)), .null]) (rest := []) rfl pd3 rfl rfl rfl (W := 0) rfl (cs' := 1) (ss' := 8) (by decide) fun T1 v2 B3 => ?_
  replace B3 := Rn.and B3
  obtain ⟨rfl, B3⟩ := B3
  replace B3 := Rn.ex B3
  obtain ⟨d, B3⟩ := B3
  show Fn g D2 M _ (T1.setTop (mkF M.m 9 #[.val (.ref a), .val (.ref c)] []))
  exact r_ret B3 d2_9 rfl (by decide) (by decide) (fun vm h P => ⟨rfl, d, P⟩)
abbrev D9 := E9 0 0 0 0
theorem k_ce {g : GG} (W : GW g) (x : Int32) (hx : ¬ (255 : Int32) < x) (H : List Ent) (Lt : List SE) : Ct g D9 #[.int x] H Lt (fun v vm h => v = some (.int (1 : Int32)) ∧ Hp g vm h H Lt) := by
  refine CtW.body (Ls := #[.val (.int x)]) W (by decide +kernel) (efr rfl) ?_
  intro M T B
  refine p_iloadN B d9_0 rfl rfl ?_
  refine p_sipush B d9_1 rfl (v := (255 : Int32)) (by decide) ?_
  refine b_icF B d9_4 (pc' := 7) rfl hx ?_
  refine p_iconst B d9_7 rfl (v := (1 : Int32)) (by decide) ?_
  refine b_goto B d9_8 (pc' := 12) (by decide) (by decide) ?_
  exact r_reti B d9_12 rfl (by simp) rfl (by decide) (by decide) (fun vm h P => ⟨rfl, P⟩)
abbrev D10 := E10 0 1 1 0
theorem k_tb {g : GG} (W : GW g) (x : Int32) (H : List Ent) (Lt : List SE) : Ct g D10 #[.int x] H Lt (fun v vm h => ∃ b, v = some (.ref b) ∧ Hp g vm h ((b, .inr (.byte, "[B", [bV x])) :: H) Lt) := by
  refine CtW.body (Ls := #[.val (.int x)]) W (by decide +kernel) (efr rfl) ?_
  intro M T B
  refine p_iconst B d10_0 rfl (v := (1 : Int32)) (by decide) ?_
  refine r_newp B d10_1 rfl (ty := .byte) (W24 B.gw) rfl (by decide) (nn := 1) (by decide) (cap := 1) (by decide) (by decide) (cs' := 1) rfl (ss' := 1) rfl (by decide) (by decide) (ad := "[B") (by decide) (by decide) nofun (vs := [(.int 0)]) rfl fun T1 a3 B2 => ?_
  refine p_dup B2 d10_3 rfl rfl ?_
  refine p_iconst B2 d10_4 rfl (v := (0 : Int32)) (by decide) ?_
  refine p_iloadN B2 d10_5 rfl rfl ?_
  refine p_i2b B2 d10_6 rfl ?_
  refine r_bastore B2 d10_7 rfl (i := 0) rfl (by decide) (k := 0) (by decide) (by simp) (x' := (x).toInt8.toInt32) (by_by _) (H' := ((a3, .inr (.byte, "[B", [(.int (x).toInt8.toInt32)])) :: H)) rfl fun T4 B5 => ?_
  exact r_reta B5 d10_8 rfl rfl rfl (by decide) (by decide) (fun vm h P => ⟨_, rfl, P⟩)
abbrev D11 := E11 1 0 0 12
theorem k_ib {g : GG} (W : GW g) (a b : Addr) (H : List Ent) (Lt : List SE) : Ct g D11 #[.ref a, .ref b, .int (0 : Int32)] (oS a (.int 0) .null :: H) Lt (fun v vm h => v = none ∧ Hp g vm h (oS a (.int 0) (.ref b) :: H) Lt) := by
  refine CtW.body (Ls := #[.val (.ref a), .val (.ref b), .val (.int 0)]) W (by decide +kernel) (efr rfl) ?_
  intro M T B
  refine p_aloadN B d11_0 rfl rfl rfl ?_
  refine r_initO B d11_1 rfl (W16 B.gw) (W17 B.gw) (W18 B.gw) rfl (by decide) (W := 0) rfl (by decide) fun T1 B2 => ?_
  refine p_aloadN B2 d11_4 rfl rfl rfl ?_
  refine p_aloadN B2 d11_5 rfl rfl rfl ?_
  refine r_put B2 d11_6 rfl (host := "") (Or.inl (W33 B2.gw)) Via.refl (i := 0) (j := 1) rfl rfl (Or.inr ⟨(W34 B2.gw), rfl, rfl⟩) (W6 B2.gw) (ty := (.array .byte)) (by decide) rfl rfl (H' := (oS a (.int 0) (.ref b) :: H)) rfl fun T3 B4 => ?_
  refine p_aloadN B4 d11_9 rfl rfl rfl ?_
  refine p_iloadN B4 d11_10 rfl rfl ?_
  refine r_put B4 d11_11 rfl (host := "") (Or.inl (W31 B4.gw)) Via.refl (i := 0) (j := 0) rfl rfl (Or.inr ⟨(W32 B4.gw), rfl, rfl⟩) (W6 B4.gw) (ty := .byte) (by decide) (by decide) (by decide) (H' := (oS a (.int 0) (.ref b) :: H)) rfl fun T5 B6 => ?_
  exact r_ret B6 d11_14 rfl (by decide) (by decide) (fun vm h P => ⟨rfl, P⟩)
abbrev D8 := E8 2 2 5 27
theorem k_vo {g : GG} (W : GW g) (x : Int32) (hx : ¬ (255 : Int32) < x) (H : List Ent) (Lt : List SE) : Ct g D8 #[.int x] H Lt (fun v vm h => ∃ a b, v = some (.ref a) ∧ Hp g vm h H ((a, b, 0, [bV x]) :: Lt)) := by
  refine CtW.body (Ls := #[.val (.int x)]) W (by decide +kernel) (efr rfl) ?_
  intro M T B
  obtain ⟨z, hz, hz0⟩ := compact W
  refine r_gets B d8_0 rfl (host := "") (Or.inl (W19 B.gw)) Via.refl (v := (.int z)) hz fun T1 B2 => ?_
  refine b_ifF B2 d8_3 (pc' := 6) rfl hz0 ?_
  refine p_iloadN B2 d8_6 rfl rfl ?_
  refine r_static (D' := D9) B2 d8_7 rfl (W38 B2.gw) (W39 B2.gw) (W40 B2.gw) (W41 B2.gw) (by decide) (k_ce W x hx _ _) (argsL := [(.int x)]) (rest := []) rfl pd4 rfl rfl rfl (W := 0) rfl (cs' := 0) (ss' := 0) (by decide) (Kv1 fun T3 B5 => ?_)
  refine b_ifF B5 d8_10 (pc' := 13) rfl (show ¬ (1 : Int32) = (0 : Int32) from by decide) ?_
  refine r_new B5 d8_13 rfl (W42 B5.gw) (W6 B5.gw) (W7 B5.gw) (Ly_oS B5.gw) (by decide) (cs' := 1) rfl (ss' := 4) rfl (by decide) (by decide) fun T6 a8 B7 => ?_
  refine p_dup B7 d8_16 rfl rfl ?_
  refine p_iloadN B7 d8_17 rfl rfl ?_
  refine r_static (D' := D10) B7 d8_18 rfl (W43 B7.gw) (W44 B7.gw) (W40 B7.gw) (W45 B7.gw) (by decide) (k_tb W x _ _) (argsL := [(.int x)]) (rest := [(.ref a8), (.ref a8)]) rfl pd5 rfl rfl rfl (W := 2) rfl (cs' := 2) (ss' := 5) (by decide) (Kex fun b => Kv1 fun T9 B11 => ?_)
  refine p_iconst B11 d8_21 rfl (v := (0 : Int32)) (by decide) ?_
  have B12 : RH g D8 M T9 (oS a8 (.int 0) .null :: (b, .inr (.byte, "[B", [(bV x)])) :: H) (Lt) 2 5 := B11.front (i := 1) rfl rfl
  refine r_special (D' := D11) B12 d8_22 rfl rfl rfl (W46 B12.gw) (W47 B12.gw) (W7 B12.gw) (W48 B12.gw) (by decide) (k_ib W a8 b _ _) (a := a8) (argsL := [(.ref b), (.int 0)]) (rest := [(.ref a8)]) rfl pd6 rfl rfl rfl (W := 1) rfl (cs' := 2) (ss' := 5) (by decide) (Kv0 fun T13 B15 => ?_)
  exact r_reta B15 d8_25 rfl rfl rfl (by decide) (by decide) (fun vm h P => ⟨_, b, rfl, P.freeze (by simp) (by simp)⟩)
theorem fld_one {Z : State} {h : Heap} {a : Addr} {C n d : String} {v w : Value} (F : Fld Z h a C n d v) (G : Fld Z h a C n d w) : v = w := by
  obtain ⟨c1, f1, k1, i1, q1, h1, h2, -, -, -, -, h7⟩ := F
  obtain ⟨c2, f2, k2, i2, q2, g1, g2, -, -, -, -, g7⟩ := G
  cases h1.symm.trans g1
  cases h2.symm.trans g2
  exact Option.some.inj (h7.symm.trans g7)
theorem Ary.one {Z : State} {h : Heap} {a : Addr} {t1 t2 : FieldType} {n1 n2 : String} {vs ws : List Value} (A : Ary Z h a t1 n1 vs) (B : Ary Z h a t2 n2 ws) : vs = ws := by
  obtain ⟨c1, r1, r2, -⟩ := A
  obtain ⟨c2, s1, s2, -⟩ := B
  cases r1.1.symm.trans s1.1
  have e := r2.symm.trans s2
  exact congrArg Array.toList e
theorem str_one {g : GG} {vm : Vm} {h : Heap} {H : List Ent} {Lt : List SE} (P : Hp g vm h H Lt) {a b b' : Addr} {c c' : Int32} {vs ws : List Value} (m1 : (a, b, c, vs) ∈ Lt) (m2 : (a, b', c', ws) ∈ Lt) : vs = ws := by
  have I := P.2.2.1 _ m1
  have J := P.2.2.1 _ m2
  have e : Value.ref b = Value.ref b' := fld_one I.2.1 J.2.1
  cases e
  exact I.2.2.2.one J.2.2.2
theorem map_int_inj {xs ys : List Int32} (h : xs.map Value.int = ys.map Value.int) : xs = ys := List.map_inj_right (fun a b q => by cases q; rfl) |>.mp h
theorem take_same {xs ys : List Int32} {i : Nat} {x : Int32} (h : xs.take i = ys.take i) (hx : xs[i]? = some x) (hy : ys[i]? = some x) : xs.take (i + 1) = ys.take (i + 1) := by
  rw [List.take_add_one, List.take_add_one, h, hx, hy]

abbrev D44 := E44 0 0 0 0
theorem lp_le {g : GG} (W : GW g) {a a' b b' : Addr} {xs ys : List Int32} {H : List Ent} {Lt : List SE} (m1 : (a, b, 0, xs.map Value.int) ∈ Lt) (m2 : (a', b', 0, ys.map Value.int) ∈ Lt) (hx : xs.length < 2147483648) (hy : ys.length < 2147483648) {M : MM} (hl : xs.length = ys.length) : ∀ (k i : Nat), i + k = xs.length → xs.take i = ys.take i → ∀ {T : State}, RH g D44 M T H Lt 0 0 →
    Fn g D44 M (fun v vm h => ∃ z : Int32, v = some (.int z) ∧ (z = 1 ∧ xs = ys ∨ z = 0 ∧ ¬ xs = ys) ∧ Hp g vm h H Lt) (T.setTop (mkF M.m 9 #[.val (.ref b), .val (.ref b'), .val (.int (Int32.ofNat i))] [])) := by
  intro k
  induction k with
  | zero =>
    intro i hi ht T B
    refine p_iloadN B d44_9 rfl rfl ?_
    refine p_aloadN B d44_10 rfl rfl rfl ?_
    refine r_alen B d44_11 rfl (sA m1) (z := Int32.ofNat xs.length) (by rw [List.length_map]) ?_
    have hi' : i = xs.length := by omega
    refine b_icT B d44_12 (pc' := 32) (by subst hi'; exact Int32.lt_irrefl) (by decide) (by decide) ?_
    refine p_iconst B d44_32 rfl (v := (1 : Int32)) (by decide) ?_
    exact r_reti B d44_33 rfl (by simp) rfl (by decide) (by decide) (fun vm h P => ⟨_, rfl, Or.inl ⟨rfl, by rw [hi', List.take_length, hl, List.take_length] at ht; exact ht⟩, P⟩)
  | succ k ih =>
    intro i hi ht T B
    refine p_iloadN B d44_9 rfl rfl ?_
    refine p_aloadN B d44_10 rfl rfl rfl ?_
    refine r_alen B d44_11 rfl (sA m1) (z := Int32.ofNat xs.length) (by rw [List.length_map]) ?_
    have hlt : i < xs.length := by omega
    refine b_icF B d44_12 (pc' := 15) rfl (ltN hlt hx) ?_
    obtain ⟨x, ex⟩ : ∃ x, xs[i]? = some x := ⟨_, List.getElem?_eq_getElem hlt⟩
    obtain ⟨y, ey⟩ : ∃ y, ys[i]? = some y := ⟨_, List.getElem?_eq_getElem (by omega)⟩
    refine p_aloadN B d44_15 rfl rfl rfl ?_
    refine p_iloadN B d44_16 rfl rfl ?_
    refine r_aget B d44_17 rfl rfl (sA m1) (k := i) rfl (v := .int x) (by rw [List.getElem?_map, ex]; rfl) ?_
    refine p_aloadN B d44_18 rfl rfl rfl ?_
    refine p_iloadN B d44_19 rfl rfl ?_
    refine r_aget B d44_20 rfl rfl (sA m2) (k := i) rfl (v := .int y) (by rw [List.getElem?_map, ey]; rfl) ?_
    by_cases hxy : x = y
    · refine b_icT B d44_21 (pc' := 26) hxy (by decide) (by decide) ?_
      refine p_iinc B d44_26 rfl (v := (1 : Int32)) (by decide) rfl (z := ((Int32.ofNat i) + (1 : Int32))) rfl (Ls' := #[.val (.ref b), .val (.ref b'), .val (.int ((Int32.ofNat i) + (1 : Int32)))]) rfl ?_
      refine b_goto B d44_29 (pc' := 9) (by decide) (by decide) ?_
      subst hxy
      rw [sucN i]
      exact ih (i + 1) (by omega) (take_same ht ex ey) B
    · refine b_icF B d44_21 (pc' := 24) rfl hxy ?_
      refine p_iconst B d44_24 rfl (v := (0 : Int32)) (by decide) ?_
      exact r_reti B d44_25 rfl (by simp) rfl (by decide) (by decide) (fun vm h P => ⟨_, rfl, Or.inr ⟨rfl, fun q => hxy (by subst q; exact Option.some.inj (ex.symm.trans ey))⟩, P⟩)
theorem k_le {g : GG} (W : GW g) {a a' b b' : Addr} {xs ys : List Int32} {H : List Ent} {Lt : List SE} (m1 : (a, b, 0, xs.map Value.int) ∈ Lt) (m2 : (a', b', 0, ys.map Value.int) ∈ Lt) (hx : xs.length < 2147483648) (hy : ys.length < 2147483648) : Ct g D44 #[.ref b, .ref b'] H Lt (fun v vm h => ∃ z : Int32, v = some (.int z) ∧ (z = 1 ∧ xs = ys ∨ z = 0 ∧ ¬ xs = ys) ∧ Hp g vm h H Lt) := by
  refine CtW.body (Ls := #[.val (.ref b), .val (.ref b'), .unset]) W (by decide +kernel) (efr rfl) ?_
  intro M T B
  refine p_aloadN B d44_0 rfl rfl rfl ?_
  refine r_alen B d44_1 rfl (sA m1) (z := Int32.ofNat xs.length) (by rw [List.length_map]) ?_
  refine p_aloadN B d44_2 rfl rfl rfl ?_
  refine r_alen B d44_3 rfl (sA m2) (z := Int32.ofNat ys.length) (by rw [List.length_map]) ?_
  by_cases hn : (Int32.ofNat xs.length) = (Int32.ofNat ys.length)
  · refine b_icF B d44_4 (pc' := 7) rfl hn ?_
    refine p_iconst B d44_7 rfl (v := (0 : Int32)) (by decide) ?_
    refine p_istoreN B d44_8 rfl (Ls' := #[.val (.ref b), .val (.ref b'), .val (.int 0)]) rfl ?_
    exact lp_le W m1 m2 hx hy (injN hx hy hn) xs.length 0 (by omega) rfl B
  · refine b_icT B d44_4 (pc' := 34) hn (by decide) (by decide) ?_
    refine p_iconst B d44_34 rfl (v := (0 : Int32)) (by decide) ?_
    exact r_reti B d44_35 rfl (by simp) rfl (by decide) (by decide) (fun vm h P => ⟨_, rfl, Or.inr ⟨rfl, fun q => hn (by rw [q])⟩, P⟩)
abbrev D43 := E43 1 0 0 14
theorem k_se {g : GG} (W : GW g) {a a' b b' : Addr} {xs ys : List Int32} {H : List Ent} {Lt : List SE} (m1 : (a, b, 0, xs.map Value.int) ∈ Lt) (m2 : (a', b', 0, ys.map Value.int) ∈ Lt) (hx : xs.length < 2147483648) (hy : ys.length < 2147483648) : Ct g D43 #[.ref a, .ref a'] H Lt (fun v vm h => ∃ z : Int32, v = some (.int z) ∧ (z = 1 ∧ xs = ys ∨ z = 0 ∧ ¬ xs = ys) ∧ Hp g vm h H Lt) := by
  refine CtW.body (Ls := #[.val (.ref a), .val (.ref a'), .unset]) W (by decide +kernel) (efr rfl) ?_
  intro M T B
  refine p_aloadN B d43_0 rfl rfl rfl ?_
  refine p_aloadN B d43_1 rfl rfl rfl ?_
  by_cases ha : (Value.ref a) = (Value.ref a')
  · refine b_anF B d43_2 (pc' := 5) rfl rfl rfl ha ?_
    refine p_iconst B d43_5 rfl (v := (1 : Int32)) (by decide) ?_
    exact r_reti B d43_6 rfl (by simp) rfl (by decide) (by decide) (fun vm h P => ⟨_, rfl, Or.inl ⟨rfl, map_int_inj (str_one P m1 (by cases ha; exact m2))⟩, P⟩)
  · refine b_anT B d43_2 (pc' := 7) rfl rfl ha (by decide) (by decide) ?_
    refine p_aloadN B d43_7 rfl rfl rfl ?_
    refine r_inst1 B d43_8 rfl (W42 B.gw) (fun vm h E P => Ins.self (sE m2 vm h E P)) fun T1 B2 => ?_
    refine b_ifF B2 d43_11 (pc' := 14) rfl (show ¬ (1 : Int32) = (0 : Int32) from by decide) ?_
    refine p_aloadN B2 d43_14 rfl rfl rfl ?_
    refine r_cast B2 d43_15 rfl (W42 B2.gw) (fun vm h E P => Ins.self (sE m2 vm h E P)) fun T3 B4 => ?_
    refine p_astoreN B4 d43_18 rfl rfl (Ls' := #[.val (.ref a), .val (.ref a'), .val (.ref a')]) rfl ?_
    obtain ⟨z, hz, hz0⟩ := compact W
    refine r_gets B4 d43_19 rfl (host := "") (Or.inl (W19 B4.gw)) Via.refl (v := (.int z)) hz fun T5 B6 => ?_
    refine b_ifF B6 d43_22 (pc' := 25) rfl hz0 ?_
    refine p_aloadN B6 d43_25 rfl rfl rfl ?_
    refine r_get B6 d43_26 rfl (host := "") (Or.inl (W31 B6.gw)) Via.refl (v := (.int 0)) (sC m1) fun T7 B8 => ?_
    refine p_aloadN B8 d43_29 rfl rfl rfl ?_
    refine r_get B8 d43_30 rfl (host := "") (Or.inl (W31 B8.gw)) Via.refl (v := (.int 0)) (sC m2) fun T9 B10 => ?_
    refine b_icF B10 d43_33 (pc' := 36) rfl (show (0 : Int32) = (0 : Int32) from by decide) ?_
    refine p_aloadN B10 d43_36 rfl rfl rfl ?_
    refine r_get B10 d43_37 rfl (host := "") (Or.inl (W33 B10.gw)) Via.refl (v := (.ref b)) (sV m1) fun T11 B12 => ?_
    refine p_aloadN B12 d43_40 rfl rfl rfl ?_
    refine r_get B12 d43_41 rfl (host := "") (Or.inl (W33 B12.gw)) Via.refl (v := (.ref b')) (sV m2) fun T13 B14 => ?_
    refine r_static (D' := D44) B14 d43_44 rfl (W285 B14.gw) (W286 B14.gw) (W40 B14.gw) (W287 B14.gw) (by decide) (k_le W m1 m2 hx hy) (argsL := [(.ref b), (.ref b')]) (rest := []) rfl pd7 rfl rfl rfl (W := 0) rfl (cs' := 0) (ss' := 0) (by decide) (Kex fun z => Kv1 fun T15 B17 => ?_)
    replace B17 := Rn.and B17
    obtain ⟨hz, B17⟩ := B17
    rcases hz with ⟨rfl, hz⟩ | ⟨rfl, hz⟩
    · refine b_ifF B17 d43_47 (pc' := 50) rfl (show ¬ (1 : Int32) = (0 : Int32) from by decide) ?_
      refine p_iconst B17 d43_50 rfl (v := (1 : Int32)) (by decide) ?_
      refine b_goto B17 d43_51 (pc' := 55) (by decide) (by decide) ?_
      exact r_reti B17 d43_55 rfl (by simp) rfl (by decide) (by decide) (fun vm h P => ⟨_, rfl, Or.inl ⟨rfl, hz⟩, P⟩)
    · refine b_ifT B17 d43_47 (pc' := 54) (show (0 : Int32) = (0 : Int32) from by decide) (by decide) (by decide) ?_
      refine p_iconst B17 d43_54 rfl (v := (0 : Int32)) (by decide) ?_
      exact r_reti B17 d43_55 rfl (by simp) rfl (by decide) (by decide) (fun vm h P => ⟨_, rfl, Or.inr ⟨rfl, hz⟩, P⟩)
def dcOf (g : GG) : Addr := match (Jvm.Term.static "java/util/ArrayList" sn53 "[Ljava/lang/Object;").eval g.a0 g.Z none [] g.Z with | some (.ref a) => a | _ => 0
theorem dc_ev {g : GG} (W : GW g) : (Jvm.Term.static "java/util/ArrayList" sn53 "[Ljava/lang/Object;").eval g.a0 g.Z none [] g.Z = some (.ref (dcOf g)) := by
  obtain ⟨a, e⟩ := exa_v (Cond.before_iff.mp (W.2.2.1 _ (List.mem_of_getElem? (i := 16) rfl)))
  have h : dcOf g = a := by unfold dcOf; rw [e]
  rw [h]; exact e
theorem dc_sta {g : GG} (W : GW g) : Sta g.Z g.Z.heap "java/util/ArrayList" sn53 "[Ljava/lang/Object;" (.ref (dcOf g)) := Sta.start (dc_ev W) (Or.inr ⟨W51 W, (W.2.2.1 _ (List.mem_of_getElem? (i := 11) rfl))⟩)
theorem dc_arr {g : GG} (W : GW g) : ∃ c : Cell, Jvm.RoadKit.Arr g.Z g.Z.heap (dcOf g) c (.object "java/lang/Object") ∧ c.slots.size.toInt32 = 0 := old_len (dc_ev W) (Cond.before_iff.mp (W.2.2.1 _ (List.mem_of_getElem? (i := 15) rfl))) (Cond.before_iff.mp (W.2.2.1 _ (List.mem_of_getElem? (i := 17) rfl)))
def emOf (g : GG) : Addr := match (Jvm.Term.static sn8 "EMPTY" "Ljava/lang/Object;").eval g.a0 g.Z none [] g.Z with | some (.ref a) => a | _ => 0
theorem em_ev {g : GG} (W : GW g) : (Jvm.Term.static sn8 "EMPTY" "Ljava/lang/Object;").eval g.a0 g.Z none [] g.Z = some (.ref (emOf g)) := by
  obtain ⟨a, e⟩ := exa_v (Cond.before_iff.mp (W.2.2.1 _ (List.mem_of_getElem? (i := 20) rfl)))
  have h : emOf g = a := by unfold emOf; rw [e]
  rw [h]; exact e
theorem em_sta {g : GG} (W : GW g) : Sta g.Z g.Z.heap sn8 "EMPTY" "Ljava/lang/Object;" (.ref (emOf g)) := Sta.start (em_ev W) (Or.inl (W.2.2.1 _ (List.mem_of_getElem? (i := 19) rfl)))
theorem em_exa {g : GG} (W : GW g) {H : List Ent} {Lt : List SE} : Al g H Lt fun h => Exa g.Z h (emOf g) "java/lang/Object" := Al.old fun h E => (Exa.start (em_ev W) (Cond.before_iff.mp (W.2.2.1 _ (List.mem_of_getElem? (i := 20) rfl)))).ext E
def elOf (g : GG) : Addr := match (Jvm.Term.static sn8 "EMPTY_LIST" sn38).eval g.a0 g.Z none [] g.Z with | some (.ref a) => a | _ => 0
theorem el_ev {g : GG} (W : GW g) : (Jvm.Term.static sn8 "EMPTY_LIST" sn38).eval g.a0 g.Z none [] g.Z = some (.ref (elOf g)) := by
  obtain ⟨a, e⟩ := exa_v (Cond.before_iff.mp (W.2.2.1 _ (List.mem_of_getElem? (i := 26) rfl)))
  have h : elOf g = a := by unfold elOf; rw [e]
  rw [h]; exact e
theorem el_sta {g : GG} (W : GW g) : Sta g.Z g.Z.heap sn8 "EMPTY_LIST" sn38 (.ref (elOf g)) := Sta.start (el_ev W) (Or.inl (W.2.2.1 _ (List.mem_of_getElem? (i := 25) rfl)))
theorem el_exa {g : GG} (W : GW g) {H : List Ent} {Lt : List SE} : Al g H Lt fun h => Exa g.Z h (elOf g) sn5 := Al.old fun h E => (Exa.start (el_ev W) (Cond.before_iff.mp (W.2.2.1 _ (List.mem_of_getElem? (i := 26) rfl)))).ext E
def eaOf (g : GG) : Addr := match (Jvm.Term.field (Jvm.Term.static sn8 "EMPTY_LIST" sn38) sn5 "elements" "[Ljava/lang/Object;").eval g.a0 g.Z none [] g.Z with | some (.ref a) => a | _ => 0
theorem ea_ev {g : GG} (W : GW g) : (Jvm.Term.field (Jvm.Term.static sn8 "EMPTY_LIST" sn38) sn5 "elements" "[Ljava/lang/Object;").eval g.a0 g.Z none [] g.Z = some (.ref (eaOf g)) := by
  obtain ⟨a, e⟩ := exa_v (Cond.before_iff.mp (W.2.2.1 _ (List.mem_of_getElem? (i := 31) rfl)))
  have h : eaOf g = a := by unfold eaOf; rw [e]
  rw [h]; exact e
theorem ea_arr {g : GG} (W : GW g) : ∃ c : Cell, Jvm.RoadKit.Arr g.Z g.Z.heap (eaOf g) c (.object "java/lang/Object") ∧ c.slots.size.toInt32 = 0 := old_len (ea_ev W) (Cond.before_iff.mp (W.2.2.1 _ (List.mem_of_getElem? (i := 30) rfl))) (Cond.before_iff.mp (W.2.2.1 _ (List.mem_of_getElem? (i := 32) rfl)))
theorem el_fld {g : GG} (W : GW g) {H : List Ent} {Lt : List SE} : Al g H Lt fun h => Fld g.Z h (elOf g) sn5 "elements" "[Ljava/lang/Object;" (.ref (eaOf g)) := Al.old fun h E => (Fld.start ((fld_at (el_ev W)).symm.trans (ea_ev W))).ext E
def miOf (g : GG) : Addr := match g.Z.vm.findClass "[Ljava/lang/Object;" with | some c => (match g.Z.vm.classes[c]? with | some k => k.mirror.getD 0 | none => 0) | none => 0
theorem mi_ok {g : GG} (W : GW g) : ∃ (c : ClassId) (k : Class), g.Z.vm.findClass "[Ljava/lang/Object;" = some c ∧ g.Z.vm.classes[c]? = some k ∧ k.mirror = some (miOf g) := by
  obtain ⟨c, k, m, h1, h2, h3⟩ := W.2.2.2.2.2
  have h1' : g.Z.vm.findClass "[Ljava/lang/Object;" = some c := h1
  have h2' : g.Z.vm.classes[c]? = some k := h2
  refine ⟨c, k, h1', h2', ?_⟩
  have e : miOf g = m := by unfold miOf; simp [h1', h2', h3]
  rw [e]; exact h3
def AL (g : GG) (a b : Addr) : List Addr → List Ent
  | [] => [oAL a (.int (0 : Int32)) (.ref (dcOf g)) (.int (0 : Int32))]
  | x :: t => [oAL a (.int (Int32.ofNat (x :: t).length)) (.ref b) (.int (Int32.ofNat (x :: t).length)), (b, .inr (.object "java/lang/Object", "[Ljava/lang/Object;", (x :: t).map Value.ref ++ List.replicate (10 - (x :: t).length) Value.null))]
theorem al_exa {g : GG} {a b : Addr} {H : List Ent} {Lt : List SE} : ∀ (L : List Addr), Al g (AL g a b L ++ H) Lt fun h => Exa g.Z h a "java/util/ArrayList"
  | [] => fE (i := 0) rfl
  | _ :: _ => fE (i := 0) rfl
def ilA (g : GG) (c : Addr) : List Addr → Addr
  | [] => elOf g
  | _ :: _ => c
def IL (g : GG) (c d : Addr) : List Addr → List Ent
  | [] => []
  | [x] => [o12 c (.ref x) (.ref (emOf g))]
  | [x, y] => [o12 c (.ref x) (.ref y)]
  | x :: y :: z :: t => [oLN c (.ref d) (.int (0 : Int32)), (d, .inr (.object "java/lang/Object", "[Ljava/lang/Object;", (x :: y :: z :: t).map Value.ref))]

/-! builders -/
theorem shr0 (x : Int32) : x >>> ((0 : Int32) &&& 31) = x := by
  rw [show ((0 : Int32) &&& 31) = 0 from by decide]; exact Int32.shiftRight_zero
theorem shl0 (x : Int32) : x <<< ((0 : Int32) &&& 31) = x := by
  rw [show ((0 : Int32) &&& 31) = 0 from by decide]; exact Int32.shiftLeft_zero
theorem addN {cs ds : List Int32} : Int32.ofNat cs.length + Int32.ofNat ds.length = Int32.ofNat (cs ++ ds).length := by rw [List.length_append, Int32.ofNat_add]
theorem add1 {cs : List Int32} : Int32.ofNat cs.length + 1 = Int32.ofNat (cs ++ [(10 : Int32)]).length := by rw [List.length_append, Int32.ofNat_add]; rfl
theorem le16 {n : Nat} (h : n ≤ 16) : ¬ (0 : Int32) < Int32.ofNat n - 16 := by
  rw [Int32.lt_iff_toInt_lt, Int32.toInt_sub, Int32.toInt_ofNat_small (by omega), show (16 : Int32).toInt = 16 from rfl, show (0 : Int32).toInt = 0 from rfl, Int.bmod_eq_of_le_mul_two (by omega) (by omega)]
  omega
def sbv (cs : List Int32) : List Value := cs.map Value.int ++ List.replicate (16 - cs.length) (Value.int (0 : Int32))
theorem sbl {cs : List Int32} (h : cs.length ≤ 16) : (sbv cs).length = 16 := by
  unfold sbv; rw [List.length_append, List.length_map, List.length_replicate]; omega
theorem sbt (cs : List Int32) : ((sbv cs).drop 0).take cs.length = cs.map Value.int := by
  unfold sbv; rw [List.drop_zero, List.take_left' (List.length_map ..)]
theorem sbu (cs : List Int32) : (List.replicate cs.length (Value.int 0)).take 0 ++ cs.map Value.int ++ (List.replicate cs.length (Value.int 0)).drop (0 + cs.length) = cs.map Value.int := by
  rw [Nat.zero_add, List.take_zero, List.nil_append, List.drop_of_length_le (by rw [List.length_replicate]; exact Nat.le_refl _), List.append_nil]
theorem sbc {cs ds : List Int32} (h : cs.length + ds.length ≤ 16) : (sbv cs).take cs.length ++ ds.map Value.int ++ (sbv cs).drop (cs.length + ds.length) = sbv (cs ++ ds) := by
  unfold sbv
  rw [List.take_left' (List.length_map ..), List.drop_append, List.drop_of_length_le (by rw [List.length_map]; omega), List.nil_append, List.length_map, Nat.add_sub_cancel_left, List.drop_replicate, List.map_append, List.length_append, Nat.sub_sub]
theorem sbs {cs : List Int32} (h : cs.length ≤ 15) : (sbv cs).set cs.length (.int (10 : Int32)) = sbv (cs ++ [(10 : Int32)]) := by
  unfold sbv
  rw [List.set_append_right _ _ (by rw [List.length_map]; exact Nat.le_refl _), List.length_map, Nat.sub_self, show 16 - cs.length = (16 - (cs ++ [(10 : Int32)]).length) + 1 from by rw [List.length_append]; simp only [List.length_cons, List.length_nil]; omega, List.replicate_succ, List.set_cons_zero, List.map_append, List.append_assoc]
  rfl
def SBo (sb vb : Addr) (vs : List Int32) : List Ent := [oSB sb (.ref vb) (.int (0 : Int32)) (.int (Int32.ofNat vs.length)), (vb, .inr (.byte, "[B", sbv vs))]
theorem sb_exa {g : GG} {sb vb : Addr} {vs : List Int32} {H : List Ent} {Lt : List SE} : Al g (SBo sb vb vs ++ H) Lt fun h => Exa g.Z h sb sn7 := fE (i := 0) rfl

/-! the plain law -/
theorem le7 {n : Nat} (h : n ≤ 7) : ¬ (7 : Int32) < Int32.ofNat n := by
  rw [Int32.lt_iff_toInt_lt, Int32.toInt_ofNat_small (by omega), show (7 : Int32).toInt = 7 from rfl]; omega
theorem subN {n m : Nat} (hn : n < 2147483648) (hm : m ≤ 7) : (Int32.ofNat n - Int32.ofNat m < 0) ↔ n < m := by
  rw [Int32.lt_iff_toInt_lt, Int32.toInt_sub, Int32.toInt_ofNat_small (by omega), Int32.toInt_ofNat_small (by omega), Int.bmod_eq_of_le_mul_two (by omega) (by omega), show (0 : Int32).toInt = 0 from rfl]
  omega
theorem nlt {a b n : Int32} (h : ¬ a < n) (hab : a.toInt ≤ b.toInt) : ¬ b < n := by
  rw [Int32.lt_iff_toInt_lt] at *; omega
theorem drop_c {α : Type} : ∀ {A B : List α} {a : α} {i : Nat}, A.drop i = a :: B → A[i]? = some a ∧ A.drop (i + 1) = B
  | x :: A, B, a, 0, h => by rw [List.drop_zero] at h; cases h; exact ⟨rfl, rfl⟩
  | x :: A, B, a, i + 1, h => by
    rw [List.drop_succ_cons] at h
    obtain ⟨h1, h2⟩ := drop_c h
    exact ⟨by rw [List.getElem?_cons_succ]; exact h1, by rw [List.drop_succ_cons]; exact h2⟩
  | [], B, a, i, h => by rw [List.drop_nil] at h; cases h
/-- the law's written text, the lists' steps -/
abbrev dpre : List Int32 := [(100 : Int32), (97 : Int32), (116 : Int32), (97 : Int32), (58 : Int32), (32 : Int32)]
def isD (xs : List Int32) : Prop := xs = [(100 : Int32), (97 : Int32), (116 : Int32), (97 : Int32)] ∨ xs.take 5 = [(100 : Int32), (97 : Int32), (116 : Int32), (97 : Int32), (58 : Int32)]
def dk (k c : Int32) : Bool := decide (k = 0 ∨ k = 1 ∨ (k = 2 ∧ c = 58))
def stp (w : Addr) (p : List Addr × Bool) (x : Addr × Bool) : List Addr × Bool := if x.2 then (if p.2 then p else (p.1 ++ [w], true)) else (p.1 ++ [x.1], p.2)
def Eqv (Lt : List SE) (a b : Addr) : Prop := ∃ (c d : Addr) (us : List Int32), (a, c, 0, us.map Value.int) ∈ Lt ∧ (b, d, 0, us.map Value.int) ∈ Lt ∧ us.length < 2147483648
def EqL (Lt : List SE) : List Addr → List Addr → Prop
  | [], [] => True
  | a :: A, b :: B => Eqv Lt a b ∧ EqL Lt A B
  | _, _ => False
def Ln (Lt : List SE) (x : Addr × Bool) : Prop := ∃ (b : Addr) (us : List Int32), (x.1, b, 0, us.map Value.int) ∈ Lt ∧ us.length < 2147483648 ∧ (x.2 = true ↔ isD us)
theorem Eqv.mono {Lt Lt' : List SE} (q : ∀ y ∈ Lt, y ∈ Lt') {a b : Addr} (h : Eqv Lt a b) : Eqv Lt' a b := by
  obtain ⟨c, d, us, h1, h2, h3⟩ := h
  exact ⟨c, d, us, q _ h1, q _ h2, h3⟩
theorem EqL.mono {Lt Lt' : List SE} (q : ∀ y ∈ Lt, y ∈ Lt') : ∀ {A B : List Addr}, EqL Lt A B → EqL Lt' A B
  | [], [], _ => trivial
  | _ :: _, _ :: _, h => ⟨h.1.mono q, EqL.mono q h.2⟩
  | [], _ :: _, h => (show False from h).elim
  | _ :: _, [], h => (show False from h).elim
theorem EqL.snoc {Lt : List SE} {a b : Addr} (e : Eqv Lt a b) : ∀ {A B : List Addr}, EqL Lt A B → EqL Lt (A ++ [a]) (B ++ [b])
  | [], [], _ => ⟨e, trivial⟩
  | _ :: _, _ :: _, h => ⟨h.1, EqL.snoc e h.2⟩
  | [], _ :: _, h => (show False from h).elim
  | _ :: _, [], h => (show False from h).elim
theorem EqL.str {Lt : List SE} : ∀ {A B : List Addr}, EqL Lt A B → ∀ x ∈ A, StrIn Lt x
  | [], _, _, x, hx => absurd hx (List.not_mem_nil)
  | a :: A, b :: B, h, x, hx => by
    rcases List.mem_cons.mp hx with rfl | hx
    · obtain ⟨c, d, us, h1, -, -⟩ := h.1
      exact ⟨c, 0, _, h1⟩
    · exact EqL.str h.2 x hx
  | _ :: _, [], h, _, _ => (show False from h).elim
theorem Ln.mono {Lt Lt' : List SE} (q : ∀ y ∈ Lt, y ∈ Lt') {x : Addr × Bool} (h : Ln Lt x) : Ln Lt' x := by
  obtain ⟨b, us, h1, h2, h3⟩ := h
  exact ⟨b, us, q _ h1, h2, h3⟩
theorem Ln.str {Lt : List SE} {x : Addr × Bool} (h : Ln Lt x) : StrIn Lt x.1 := by
  obtain ⟨b, us, h1, -, -⟩ := h
  exact ⟨b, 0, _, h1⟩
theorem StrIn.mono {Lt Lt' : List SE} (q : ∀ y ∈ Lt, y ∈ Lt') {x : Addr} (h : StrIn Lt x) : StrIn Lt' x := by
  obtain ⟨b, cd, vs, h1⟩ := h
  exact ⟨b, cd, vs, q _ h1⟩
theorem sub_ev {o t : Ent} {A I J H : List Ent} : (o :: (I ++ H)).Sublist (o :: (A ++ (I ++ (t :: (J ++ H))))) := ((((List.sublist_append_right J H).cons t).append_left I).trans (List.sublist_append_right A _)).cons_cons o
/-- bytes of chars -/
theorem c58 : ∀ n : Fin 256, ((Int32.ofNat n.val).toInt8.toInt32 = 58 ↔ Int32.ofNat n.val = 58) := by decide +kernel
theorem ge0 (x : Int32) : 0 ≤ ((x &&& (255 : Int32)).toUInt32.toUInt16.toUInt32.toInt32).toInt := by
  rw [i2c_mask]
  have h := c_mask x 255 8 (by decide) rfl
  rw [h]
  simp only [Nat.reducePow, Int.cast_ofNat_Int]
  omega
theorem chN {c : Int32} (h1 : ¬ (255 : Int32) < c) (h0 : 0 ≤ c.toInt) : ∃ n : Fin 256, c = Int32.ofNat n.val := by
  have a : ¬ (255 : Int32).toInt < c.toInt := fun q => h1 (Int32.lt_iff_toInt_lt.mpr q)
  rw [show (255 : Int32).toInt = 255 from rfl] at a
  refine ⟨⟨c.toInt.toNat, by omega⟩, ?_⟩
  rw [← Int32.toInt_inj, Int32.toInt_ofNat_small (by show c.toInt.toNat < _; omega)]
  show c.toInt = (c.toInt.toNat : Int)
  omega
theorem c58' {c : Int32} (h1 : ¬ (255 : Int32) < c) (h0 : 0 ≤ c.toInt) : (c.toInt8.toInt32 = 58 ↔ c = 58) := by
  obtain ⟨n, rfl⟩ := chN h1 h0
  exact c58 n

abbrev D50_w := E50 0 0 0 0
theorem c_cd {g : GG} (W : GW g) (a : Addr) (H : List Ent) (Lt : List SE) {b : Addr} {vs : List Value} (m1 : (a, b, 0, vs) ∈ Lt) : Ct g D50_w #[(.ref a)] H Lt (fun v vm h => v = some (.int (0 : Int32)) ∧ Hp g vm h H Lt) := by
  refine CtW.body (Ls := #[.val (.ref a)]) W (by decide +kernel) (efr rfl) ?_
  intro M T B
  replace B : RH g D50_w M T (H) Lt 0 0 := B
  obtain ⟨cz1, hcz1, gcz1⟩ := compact W
  refine r_gets B d50_0 rfl (host := "") (Or.inl (W19 B.gw)) Via.refl (v := (.int cz1)) hcz1 fun T2 B3 => ?_
  refine b_ifF B3 d50_3 (pc' := 6) rfl gcz1 ?_
  refine p_aloadN B3 d50_6 rfl rfl rfl ?_
  refine r_get B3 d50_7 rfl (host := "") (Or.inl (W31 B3.gw)) Via.refl (v := (.int 0)) (sC m1) fun T4 B5 => ?_
  refine b_goto B5 d50_10 (pc' := 14) (by decide) (by decide) ?_
  exact r_reti B5 d50_14 rfl (by simp) rfl (by decide) (by decide) (fun vm h P => ⟨rfl, P⟩)
abbrev D49_w := E49 1 0 0 13
theorem c_len {g : GG} (W : GW g) (a : Addr) (H : List Ent) (Lt : List SE) {b : Addr} {vs : List Value} (m1 : (a, b, 0, vs) ∈ Lt) : Ct g D49_w #[(.ref a)] H Lt (fun v vm h => v = some (.int (Int32.ofNat vs.length)) ∧ Hp g vm h H Lt) := by
  refine CtW.body (Ls := #[.val (.ref a)]) W (by decide +kernel) (efr rfl) ?_
  intro M T B
  replace B : RH g D49_w M T (H) Lt 0 0 := B
  refine p_aloadN B d49_0 rfl rfl rfl ?_
  refine r_get B d49_1 rfl (host := "") (Or.inl (W33 B.gw)) Via.refl (v := (.ref b)) (sV m1) fun T1 B2 => ?_
  refine r_alen B2 d49_4 rfl (sA m1) (z := (Int32.ofNat vs.length)) rfl ?_
  refine p_aloadN B2 d49_5 rfl rfl rfl ?_
  refine r_virtual (D' := D50_w) B2 d49_6 rfl (W322 B2.gw) (W323 B2.gw) (W325 B2.gw) (fun vm0 hZ => notFace_of_selects (args := #[]) (mvT hZ (W325 B2.gw))) (W324 B2.gw) (W7 B2.gw) (W326 B2.gw) (by decide) (sE m1) (c_cd W a _ _ m1) (argsL := []) (rest := [(.int (Int32.ofNat vs.length))]) rfl pd8 rfl rfl rfl (W := 1) rfl (cs' := 0) (ss' := 0) (by decide) (Kv1 fun T3 B5 => ?_)
  refine p_ishr B5 d49_9 rfl (z := (Int32.ofNat vs.length)) (shr0 _) ?_
  exact r_reti B5 d49_10 rfl (by simp) rfl (by decide) (by decide) (fun vm h P => ⟨rfl, P⟩)
abbrev D14_q3 := E14 1 0 0 12
theorem k_q3 {g : GG} (W : GW g) (x0 : Addr) (H : List Ent) (Lt : List SE) : Ct g D14_q3 #[(.ref x0)] (H) Lt (fun v vm h => v = none ∧ Hp g vm h (H) (Lt)) := by
  refine CtW.body (Ls := #[.val (.ref x0)]) W (by decide +kernel) (efr rfl) ?_
  intro M T B
  refine p_aloadN B d14_0 rfl rfl rfl ?_
  refine r_initO B d14_1 rfl (W67 B.gw) (W17 B.gw) (W18 B.gw) rfl (by decide) (W := 0) rfl (by decide) fun T1 B2 => ?_
  exact r_ret B2 d14_4 rfl (by decide) (by decide) (fun vm h P => ⟨rfl, P⟩)
abbrev D13_q1 := E13 2 0 0 24
theorem k_q1 {g : GG} (W : GW g) (x0 : Addr) (H : List Ent) (Lt : List SE) : Ct g D13_q1 #[(.ref x0)] (oAL x0 (.int 0) .null (.int 0) :: H) Lt (fun v vm h => v = none ∧ Hp g vm h (oAL x0 (.int 0) .null (.int 0) :: H) (Lt)) := by
  refine CtW.body (Ls := #[.val (.ref x0)]) W (by decide +kernel) (efr rfl) ?_
  intro M T B
  refine p_aloadN B d13_0 rfl rfl rfl ?_
  refine r_special (D' := D14_q3) B d13_1 rfl rfl rfl (W61 B.gw) (W62 B.gw) (W65 B.gw) (W66 B.gw) (by decide) (k_q3 W x0 _ _) (a := x0) (argsL := []) (rest := []) rfl pd9 rfl rfl rfl (W := 0) rfl (cs' := 0) (ss' := 0) (by decide) (Kv0 fun T1 B3 => ?_)
  refine p_aloadN B3 d13_4 rfl rfl rfl ?_
  refine p_iconst B3 d13_5 rfl (v := (0 : Int32)) (by decide) ?_
  refine r_put B3 d13_6 rfl (host := "") (Or.inl (W68 B3.gw)) Via.refl (i := 0) (j := 0) rfl rfl (Or.inl (W69 B3.gw)) (W50 B3.gw) (ty := .int) (by decide) rfl rfl (H' := (oAL x0 (.int 0) .null (.int 0) :: H)) rfl fun T4 B5 => ?_
  exact r_ret B5 d13_9 rfl (by decide) (by decide) (fun vm h P => ⟨rfl, P⟩)
abbrev D12_w := E12 3 0 0 36
theorem c_ai {g : GG} (W : GW g) (a : Addr) (H : List Ent) (Lt : List SE) : Ct g D12_w #[(.ref a)] (oAL a (.int (0 : Int32)) .null (.int (0 : Int32)) :: H) Lt (fun v vm h => v = none ∧ Hp g vm h (AL g a a [] ++ H) Lt) := by
  refine CtW.body (Ls := #[.val (.ref a)]) W (by decide +kernel) (efr rfl) ?_
  intro M T B
  replace B : RH g D12_w M T (oAL a (.int 0) .null (.int 0) :: H) Lt 0 0 := B
  refine p_aloadN B d12_0 rfl rfl rfl ?_
  refine r_special (D' := D13_q1) B d12_1 rfl rfl rfl (W55 B.gw) (W56 B.gw) (W59 B.gw) (W60 B.gw) (by decide) (k_q1 W a _ _) (a := a) (argsL := []) (rest := []) rfl pd9 rfl rfl rfl (W := 0) rfl (cs' := 0) (ss' := 0) (by decide) (Kv0 fun T1 B3 => ?_)
  refine p_aloadN B3 d12_4 rfl rfl rfl ?_
  refine r_gets B3 d12_5 rfl (host := "") (Or.inl (W70 B3.gw)) Via.refl (v := (.ref (dcOf g))) (dc_sta W) fun T4 B5 => ?_
  refine r_put B5 d12_8 rfl (host := "") (Or.inl (W71 B5.gw)) Via.refl (i := 0) (j := 1) rfl rfl (Or.inl (W72 B5.gw)) (W50 B5.gw) (ty := (.array (.object "java/lang/Object"))) (by decide) rfl rfl (H' := (oAL a (.int 0) (.ref (dcOf g)) (.int 0) :: H)) rfl fun T6 B7 => ?_
  exact r_ret B7 d12_11 rfl (by decide) (by decide) (fun vm h P => ⟨rfl, P⟩)
abbrev D19_q7 := E19 0 0 0 0
theorem k_q7 {g : GG} (W : GW g) (H : List Ent) (Lt : List SE) : Ct g D19_q7 #[(.int 10), (.int 1)] (H) Lt (fun v vm h => v = some (.int 10) ∧ Hp g vm h (H) (Lt)) := by
  refine CtW.body (Ls := #[.val (.int 10), .val (.int 1)]) W (Jvm.Free.JP.mathPlain rfl (by decide +kernel)) (efr rfl) ?_
  intro M T B
  refine p_iloadN B d19_0 rfl rfl ?_
  refine p_iloadN B d19_1 rfl rfl ?_
  refine b_icF B d19_2 (pc' := 5) rfl (show ¬ (10 : Int32) < (1 : Int32) from by decide) ?_
  refine p_iloadN B d19_5 rfl rfl ?_
  refine b_goto B d19_6 (pc' := 10) (by decide) (by decide) ?_
  exact r_reti B d19_10 rfl (by simp) rfl (by decide) (by decide) (fun vm h P => ⟨rfl, P⟩)
abbrev D18_q6 := E18 1 1 10 14
theorem k_q6 {g : GG} (W : GW g) (x0 : Addr) (H : List Ent) (Lt : List SE) : Ct g D18_q6 #[(.ref x0), (.int 1)] (oAL x0 (.int 1) (.ref (dcOf g)) (.int 0) :: H) Lt (fun v vm h => ∃ a15, v = some (.ref a15) ∧ Hp g vm h ((a15, .inr ((.object "java/lang/Object"), "[Ljava/lang/Object;", [.null, .null, .null, .null, .null, .null, .null, .null, .null, .null])) :: oAL x0 (.int 1) (.ref a15) (.int 0) :: H) (Lt)) := by
  refine CtW.body (Ls := #[.val (.ref x0), .val (.int 1), .unset, .unset]) W (by decide +kernel) (efr rfl) ?_
  intro M T B
  refine p_aloadN B d18_0 rfl rfl rfl ?_
  refine r_get B d18_1 rfl (host := "") (Or.inl (W71 B.gw)) Via.refl (v := (.ref (dcOf g))) (fO (i := 0) (j := 1) rfl rfl) fun T1 B2 => ?_
  obtain ⟨oc3, oA4, oz5⟩ := dc_arr W
  refine r_alenO B2 d18_4 rfl oA4 oz5 ?_
  refine p_istoreN B2 d18_5 rfl (Ls' := #[.val (.ref x0), .val (.int 1), .val (.int 0), .unset]) rfl ?_
  refine p_iloadN B2 d18_6 rfl rfl ?_
  refine b_ifF B2 d18_7 (pc' := 10) rfl (show ¬ (0 : Int32) < (0 : Int32) from by decide) ?_
  refine p_aloadN B2 d18_10 rfl rfl rfl ?_
  refine r_get B2 d18_11 rfl (host := "") (Or.inl (W71 B2.gw)) Via.refl (v := (.ref (dcOf g))) (fO (i := 0) (j := 1) rfl rfl) fun T6 B7 => ?_
  refine r_gets B7 d18_14 rfl (host := "") (Or.inl (W70 B7.gw)) Via.refl (v := (.ref (dcOf g))) (dc_sta W) fun T8 B9 => ?_
  refine b_aeT B9 d18_17 (pc' := 45) rfl rfl rfl (by decide) (by decide) ?_
  refine p_aloadN B9 d18_45 rfl rfl rfl ?_
  refine p_bipush B9 d18_46 rfl (v := (10 : Int32)) (by decide) ?_
  refine p_iloadN B9 d18_48 rfl rfl ?_
  refine r_static (D' := D19_q7) B9 d18_49 rfl (W97 B9.gw) (W98 B9.gw) (W99 B9.gw) (W100 B9.gw) (by decide) (k_q7 W _ _) (argsL := [(.int 10), (.int 1)]) (rest := [(.ref x0)]) rfl pd10 rfl rfl rfl (W := 1) rfl (cs' := 0) (ss' := 0) (by decide) (Kv1 fun T10 B12 => ?_)
  refine r_newr B12 d18_52 rfl (W101 B12.gw) (W102 B12.gw) (by decide) (nn := 10) (by decide) (cap := 10) (by decide) (by decide) (cs' := 1) rfl (ss' := 10) rfl (by decide) (by decide) (ad := "[Ljava/lang/Object;") (by decide) (vs := [.null, .null, .null, .null, .null, .null, .null, .null, .null, .null]) rfl fun T13 a15 B14 => ?_
  refine p_dupx1 B14 d18_55 rfl rfl rfl ?_
  refine r_put B14 d18_56 rfl (host := "") (Or.inl (W71 B14.gw)) Via.refl (i := 1) (j := 1) rfl rfl (Or.inl (W72 B14.gw)) (W50 B14.gw) (ty := (.array (.object "java/lang/Object"))) (by decide) rfl rfl (H' := ((a15, .inr ((.object "java/lang/Object"), "[Ljava/lang/Object;", [.null, .null, .null, .null, .null, .null, .null, .null, .null, .null])) :: oAL x0 (.int 1) (.ref a15) (.int 0) :: H)) rfl fun T16 B17 => ?_
  exact r_reta B17 d18_59 rfl rfl rfl (by decide) (by decide) (fun vm h P => ⟨a15, rfl, P⟩)
abbrev D17_q5 := E17 2 1 10 29
theorem k_q5 {g : GG} (W : GW g) (x0 : Addr) (H : List Ent) (Lt : List SE) : Ct g D17_q5 #[(.ref x0)] (oAL x0 (.int 1) (.ref (dcOf g)) (.int 0) :: H) Lt (fun v vm h => ∃ a6, v = some (.ref a6) ∧ Hp g vm h ((a6, .inr ((.object "java/lang/Object"), "[Ljava/lang/Object;", [.null, .null, .null, .null, .null, .null, .null, .null, .null, .null])) :: oAL x0 (.int 1) (.ref a6) (.int 0) :: H) (Lt)) := by
  refine CtW.body (Ls := #[.val (.ref x0)]) W (by decide +kernel) (efr rfl) ?_
  intro M T B
  refine p_aloadN B d17_0 rfl rfl rfl ?_
  refine p_aloadN B d17_1 rfl rfl rfl ?_
  refine r_get B d17_2 rfl (host := "") (Or.inl (W80 B.gw)) Via.refl (v := (.int 0)) (fO (i := 0) (j := 2) rfl rfl) fun T1 B2 => ?_
  refine p_iconst B2 d17_5 rfl (v := (1 : Int32)) (by decide) ?_
  refine p_iadd B2 d17_6 rfl (z := (1 : Int32)) (by decide) ?_
  refine r_private (D' := D18_q6) B2 d17_7 rfl (W92 B2.gw) (W94 B2.gw) (W50 B2.gw) (W93 B2.gw) (W51 B2.gw) (W96 B2.gw) (by decide) (fE (i := 0) rfl) (k_q6 W x0 _ _) (argsL := [(.int 1)]) (rest := []) rfl pd11 rfl rfl rfl (W := 0) rfl (cs' := 1) (ss' := 10) (by decide) (Kex fun a6 => Kv1 fun T3 B5 => ?_)
  exact r_reta B5 d17_10 rfl rfl rfl (by decide) (by decide) (fun vm h P => ⟨a6, rfl, P⟩)
abbrev D16_q4 := E16 3 1 10 41
theorem k_q4 {g : GG} (W : GW g) (x0 x1 : Addr) (H : List Ent) (Lt : List SE) (ms0 : StrIn Lt x1) : Ct g D16_q4 #[(.ref x0), (.ref x1), (.ref (dcOf g)), (.int 0)] (oAL x0 (.int 1) (.ref (dcOf g)) (.int 0) :: H) Lt (fun v vm h => ∃ a7, v = none ∧ Hp g vm h ((a7, .inr ((.object "java/lang/Object"), "[Ljava/lang/Object;", [(.ref x1), .null, .null, .null, .null, .null, .null, .null, .null, .null])) :: oAL x0 (.int 1) (.ref a7) (.int 1) :: H) (Lt)) := by
  refine CtW.body (Ls := #[.val (.ref x0), .val (.ref x1), .val (.ref (dcOf g)), .val (.int 0)]) W (by decide +kernel) (efr rfl) ?_
  intro M T B
  refine p_iloadN B d16_0 rfl rfl ?_
  refine p_aloadN B d16_1 rfl rfl rfl ?_
  obtain ⟨oc1, oA2, oz3⟩ := dc_arr W
  refine r_alenO B d16_2 rfl oA2 oz3 ?_
  refine b_icF B d16_3 (pc' := 6) rfl (show (0 : Int32) = (0 : Int32) from by decide) ?_
  refine p_aloadN B d16_6 rfl rfl rfl ?_
  refine r_private (D' := D17_q5) B d16_7 rfl (W87 B.gw) (W89 B.gw) (W50 B.gw) (W88 B.gw) (W51 B.gw) (W91 B.gw) (by decide) (fE (i := 0) rfl) (k_q5 W x0 _ _) (argsL := []) (rest := []) rfl pd12 rfl rfl rfl (W := 0) rfl (cs' := 1) (ss' := 10) (by decide) (Kex fun a7 => Kv1 fun T4 B6 => ?_)
  refine p_astoreN B6 d16_10 rfl rfl (Ls' := #[.val (.ref x0), .val (.ref x1), .val (.ref a7), .val (.int 0)]) rfl ?_
  refine p_aloadN B6 d16_11 rfl rfl rfl ?_
  refine p_iloadN B6 d16_12 rfl rfl ?_
  refine p_aloadN B6 d16_13 rfl rfl rfl ?_
  refine r_aastore B6 d16_14 rfl (i := 0) rfl (by decide) (k := 0) (by decide) (by simp) (Or.inr ⟨_, rfl, (fun vm h E P => Ins.of_exa ((sI ms0) vm h E P) (W103 B6.gw))⟩) (H' := ((a7, .inr ((.object "java/lang/Object"), "[Ljava/lang/Object;", [(.ref x1), .null, .null, .null, .null, .null, .null, .null, .null, .null])) :: oAL x0 (.int 1) (.ref a7) (.int 0) :: H)) rfl fun T8 B9 => ?_
  refine p_aloadN B9 d16_15 rfl rfl rfl ?_
  refine p_iloadN B9 d16_16 rfl rfl ?_
  refine p_iconst B9 d16_17 rfl (v := (1 : Int32)) (by decide) ?_
  refine p_iadd B9 d16_18 rfl (z := (1 : Int32)) (by decide) ?_
  refine r_put B9 d16_19 rfl (host := "") (Or.inl (W80 B9.gw)) Via.refl (i := 1) (j := 2) rfl rfl (Or.inl (W81 B9.gw)) (W50 B9.gw) (ty := .int) (by decide) rfl rfl (H' := ((a7, .inr ((.object "java/lang/Object"), "[Ljava/lang/Object;", [(.ref x1), .null, .null, .null, .null, .null, .null, .null, .null, .null])) :: oAL x0 (.int 1) (.ref a7) (.int 1) :: H)) rfl fun T10 B11 => ?_
  exact r_ret B11 d16_22 rfl (by decide) (by decide) (fun vm h P => ⟨a7, rfl, P⟩)
abbrev D15_w := E15 4 1 10 56
theorem c_add0 {g : GG} (W : GW g) (a b x : Addr) (H : List Ent) (Lt : List SE) (ms0 : StrIn Lt x) : Ct g D15_w #[(.ref a), (.ref x)] (AL g a b [] ++ H) Lt (fun v vm h => ∃ b', v = some (.int (1 : Int32)) ∧ Hp g vm h (AL g a b' [x] ++ H) Lt) := by
  refine CtW.body (Ls := #[.val (.ref a), .val (.ref x)]) W (by decide +kernel) (efr rfl) ?_
  intro M T B
  replace B : RH g D15_w M T (oAL a (.int 0) (.ref (dcOf g)) (.int 0) :: H) Lt 0 0 := B
  refine p_aloadN B d15_0 rfl rfl rfl ?_
  refine p_dup B d15_1 rfl rfl ?_
  refine r_get B d15_2 rfl (host := "") (Or.inl (W78 B.gw)) (Via.of (W79 B.gw)) (v := (.int 0)) (fO (i := 0) (j := 0) rfl rfl) fun T1 B2 => ?_
  refine p_iconst B2 d15_5 rfl (v := (1 : Int32)) (by decide) ?_
  refine p_iadd B2 d15_6 rfl (z := (1 : Int32)) (by decide) ?_
  refine r_put B2 d15_7 rfl (host := "") (Or.inl (W78 B2.gw)) (Via.of (W79 B2.gw)) (i := 0) (j := 0) rfl rfl (Or.inl (W69 B2.gw)) (W50 B2.gw) (ty := .int) (by decide) rfl rfl (H' := (oAL a (.int 1) (.ref (dcOf g)) (.int 0) :: H)) rfl fun T3 B4 => ?_
  refine p_aloadN B4 d15_10 rfl rfl rfl ?_
  refine p_aloadN B4 d15_11 rfl rfl rfl ?_
  refine p_aloadN B4 d15_12 rfl rfl rfl ?_
  refine r_get B4 d15_13 rfl (host := "") (Or.inl (W71 B4.gw)) Via.refl (v := (.ref (dcOf g))) (fO (i := 0) (j := 1) rfl rfl) fun T5 B6 => ?_
  refine p_aloadN B6 d15_16 rfl rfl rfl ?_
  refine r_get B6 d15_17 rfl (host := "") (Or.inl (W80 B6.gw)) Via.refl (v := (.int 0)) (fO (i := 0) (j := 2) rfl rfl) fun T7 B8 => ?_
  refine r_private (D' := D16_q4) B8 d15_20 rfl (W82 B8.gw) (W84 B8.gw) (W50 B8.gw) (W83 B8.gw) (W51 B8.gw) (W86 B8.gw) (by decide) (fE (i := 0) rfl) (k_q4 W a x _ _ ms0) (argsL := [(.ref x), (.ref (dcOf g)), (.int 0)]) (rest := []) rfl pd13 rfl rfl rfl (W := 0) rfl (cs' := 1) (ss' := 10) (by decide) (Kex fun a12 => Kv0 fun T9 B11 => ?_)
  refine p_iconst B11 d15_23 rfl (v := (1 : Int32)) (by decide) ?_
  have B13 := (B11.fr 1 rfl)
  exact r_reti B13 d15_24 rfl (by simp) rfl (by decide) (by decide) (fun vm h P => ⟨a12, rfl, P⟩)
abbrev D16_q8 := E16 0 0 0 0
theorem k_q8 {g : GG} (W : GW g) (x0 x1 x2 x3 : Addr) (H : List Ent) (Lt : List SE) (ms0 : StrIn Lt x1) : Ct g D16_q8 #[(.ref x0), (.ref x1), (.ref x2), (.int 1)] (oAL x0 (.int 2) (.ref x2) (.int 1) :: (x2, .inr ((.object "java/lang/Object"), "[Ljava/lang/Object;", [(.ref x3), .null, .null, .null, .null, .null, .null, .null, .null, .null])) :: H) Lt (fun v vm h => v = none ∧ Hp g vm h (oAL x0 (.int 2) (.ref x2) (.int 2) :: (x2, .inr ((.object "java/lang/Object"), "[Ljava/lang/Object;", [(.ref x3), (.ref x1), .null, .null, .null, .null, .null, .null, .null, .null])) :: H) (Lt)) := by
  refine CtW.body (Ls := #[.val (.ref x0), .val (.ref x1), .val (.ref x2), .val (.int 1)]) W (by decide +kernel) (efr rfl) ?_
  intro M T B
  refine p_iloadN B d16_0 rfl rfl ?_
  refine p_aloadN B d16_1 rfl rfl rfl ?_
  refine r_alen B d16_2 rfl (aH (i := 1) rfl) (z := (10 : Int32)) rfl ?_
  refine b_icT B d16_3 (pc' := 11) (show ¬ (1 : Int32) = (10 : Int32) from by decide) (by decide) (by decide) ?_
  refine p_aloadN B d16_11 rfl rfl rfl ?_
  refine p_iloadN B d16_12 rfl rfl ?_
  refine p_aloadN B d16_13 rfl rfl rfl ?_
  refine r_aastore B d16_14 rfl (i := 1) rfl (by decide) (k := 1) (by decide) (by simp) (Or.inr ⟨_, rfl, (fun vm h E P => Ins.of_exa ((sI ms0) vm h E P) (W103 B.gw))⟩) (H' := (oAL x0 (.int 2) (.ref x2) (.int 1) :: (x2, .inr ((.object "java/lang/Object"), "[Ljava/lang/Object;", [(.ref x3), (.ref x1), .null, .null, .null, .null, .null, .null, .null, .null])) :: H)) rfl fun T1 B2 => ?_
  refine p_aloadN B2 d16_15 rfl rfl rfl ?_
  refine p_iloadN B2 d16_16 rfl rfl ?_
  refine p_iconst B2 d16_17 rfl (v := (1 : Int32)) (by decide) ?_
  refine p_iadd B2 d16_18 rfl (z := (2 : Int32)) (by decide) ?_
  refine r_put B2 d16_19 rfl (host := "") (Or.inl (W80 B2.gw)) Via.refl (i := 0) (j := 2) rfl rfl (Or.inl (W81 B2.gw)) (W50 B2.gw) (ty := .int) (by decide) rfl rfl (H' := (oAL x0 (.int 2) (.ref x2) (.int 2) :: (x2, .inr ((.object "java/lang/Object"), "[Ljava/lang/Object;", [(.ref x3), (.ref x1), .null, .null, .null, .null, .null, .null, .null, .null])) :: H)) rfl fun T3 B4 => ?_
  exact r_ret B4 d16_22 rfl (by decide) (by decide) (fun vm h P => ⟨rfl, P⟩)
theorem c_add1 {g : GG} (W : GW g) (a b x x0 : Addr) (H : List Ent) (Lt : List SE) (ms0 : StrIn Lt x) : Ct g D15_w #[(.ref a), (.ref x)] (AL g a b [x0] ++ H) Lt (fun v vm h => ∃ b', v = some (.int (1 : Int32)) ∧ Hp g vm h (AL g a b' [x0, x] ++ H) Lt) := by
  refine CtW.body (Ls := #[.val (.ref a), .val (.ref x)]) W (by decide +kernel) (efr rfl) ?_
  intro M T B
  replace B : RH g D15_w M T (oAL a (.int 1) (.ref b) (.int 1) :: (b, .inr ((.object "java/lang/Object"), "[Ljava/lang/Object;", [(.ref x0), .null, .null, .null, .null, .null, .null, .null, .null, .null])) :: H) Lt 0 0 := B
  refine p_aloadN B d15_0 rfl rfl rfl ?_
  refine p_dup B d15_1 rfl rfl ?_
  refine r_get B d15_2 rfl (host := "") (Or.inl (W78 B.gw)) (Via.of (W79 B.gw)) (v := (.int 1)) (fO (i := 0) (j := 0) rfl rfl) fun T1 B2 => ?_
  refine p_iconst B2 d15_5 rfl (v := (1 : Int32)) (by decide) ?_
  refine p_iadd B2 d15_6 rfl (z := (2 : Int32)) (by decide) ?_
  refine r_put B2 d15_7 rfl (host := "") (Or.inl (W78 B2.gw)) (Via.of (W79 B2.gw)) (i := 0) (j := 0) rfl rfl (Or.inl (W69 B2.gw)) (W50 B2.gw) (ty := .int) (by decide) rfl rfl (H' := (oAL a (.int 2) (.ref b) (.int 1) :: (b, .inr ((.object "java/lang/Object"), "[Ljava/lang/Object;", [(.ref x0), .null, .null, .null, .null, .null, .null, .null, .null, .null])) :: H)) rfl fun T3 B4 => ?_
  refine p_aloadN B4 d15_10 rfl rfl rfl ?_
  refine p_aloadN B4 d15_11 rfl rfl rfl ?_
  refine p_aloadN B4 d15_12 rfl rfl rfl ?_
  refine r_get B4 d15_13 rfl (host := "") (Or.inl (W71 B4.gw)) Via.refl (v := (.ref b)) (fO (i := 0) (j := 1) rfl rfl) fun T5 B6 => ?_
  refine p_aloadN B6 d15_16 rfl rfl rfl ?_
  refine r_get B6 d15_17 rfl (host := "") (Or.inl (W80 B6.gw)) Via.refl (v := (.int 1)) (fO (i := 0) (j := 2) rfl rfl) fun T7 B8 => ?_
  refine r_private (D' := D16_q8) B8 d15_20 rfl (W82 B8.gw) (W84 B8.gw) (W50 B8.gw) (W83 B8.gw) (W51 B8.gw) (W86 B8.gw) (by decide) (fE (i := 0) rfl) (k_q8 W a x b x0 _ _ ms0) (argsL := [(.ref x), (.ref b), (.int 1)]) (rest := []) rfl pd13 rfl rfl rfl (W := 0) rfl (cs' := 0) (ss' := 0) (by decide) (Kv0 fun T9 B11 => ?_)
  refine p_iconst B11 d15_23 rfl (v := (1 : Int32)) (by decide) ?_
  exact r_reti B11 d15_24 rfl (by simp) rfl (by decide) (by decide) (fun vm h P => ⟨b, rfl, P⟩)
abbrev D16_q9 := E16 0 0 0 0
theorem k_q9 {g : GG} (W : GW g) (x0 x1 x2 x3 x4 : Addr) (H : List Ent) (Lt : List SE) (ms0 : StrIn Lt x1) : Ct g D16_q9 #[(.ref x0), (.ref x1), (.ref x2), (.int 2)] (oAL x0 (.int 3) (.ref x2) (.int 2) :: (x2, .inr ((.object "java/lang/Object"), "[Ljava/lang/Object;", [(.ref x3), (.ref x4), .null, .null, .null, .null, .null, .null, .null, .null])) :: H) Lt (fun v vm h => v = none ∧ Hp g vm h (oAL x0 (.int 3) (.ref x2) (.int 3) :: (x2, .inr ((.object "java/lang/Object"), "[Ljava/lang/Object;", [(.ref x3), (.ref x4), (.ref x1), .null, .null, .null, .null, .null, .null, .null])) :: H) (Lt)) := by
  refine CtW.body (Ls := #[.val (.ref x0), .val (.ref x1), .val (.ref x2), .val (.int 2)]) W (by decide +kernel) (efr rfl) ?_
  intro M T B
  refine p_iloadN B d16_0 rfl rfl ?_
  refine p_aloadN B d16_1 rfl rfl rfl ?_
  refine r_alen B d16_2 rfl (aH (i := 1) rfl) (z := (10 : Int32)) rfl ?_
  refine b_icT B d16_3 (pc' := 11) (show ¬ (2 : Int32) = (10 : Int32) from by decide) (by decide) (by decide) ?_
  refine p_aloadN B d16_11 rfl rfl rfl ?_
  refine p_iloadN B d16_12 rfl rfl ?_
  refine p_aloadN B d16_13 rfl rfl rfl ?_
  refine r_aastore B d16_14 rfl (i := 1) rfl (by decide) (k := 2) (by decide) (by simp) (Or.inr ⟨_, rfl, (fun vm h E P => Ins.of_exa ((sI ms0) vm h E P) (W103 B.gw))⟩) (H' := (oAL x0 (.int 3) (.ref x2) (.int 2) :: (x2, .inr ((.object "java/lang/Object"), "[Ljava/lang/Object;", [(.ref x3), (.ref x4), (.ref x1), .null, .null, .null, .null, .null, .null, .null])) :: H)) rfl fun T1 B2 => ?_
  refine p_aloadN B2 d16_15 rfl rfl rfl ?_
  refine p_iloadN B2 d16_16 rfl rfl ?_
  refine p_iconst B2 d16_17 rfl (v := (1 : Int32)) (by decide) ?_
  refine p_iadd B2 d16_18 rfl (z := (3 : Int32)) (by decide) ?_
  refine r_put B2 d16_19 rfl (host := "") (Or.inl (W80 B2.gw)) Via.refl (i := 0) (j := 2) rfl rfl (Or.inl (W81 B2.gw)) (W50 B2.gw) (ty := .int) (by decide) rfl rfl (H' := (oAL x0 (.int 3) (.ref x2) (.int 3) :: (x2, .inr ((.object "java/lang/Object"), "[Ljava/lang/Object;", [(.ref x3), (.ref x4), (.ref x1), .null, .null, .null, .null, .null, .null, .null])) :: H)) rfl fun T3 B4 => ?_
  exact r_ret B4 d16_22 rfl (by decide) (by decide) (fun vm h P => ⟨rfl, P⟩)
theorem c_add2 {g : GG} (W : GW g) (a b x x0 x1 : Addr) (H : List Ent) (Lt : List SE) (ms0 : StrIn Lt x) : Ct g D15_w #[(.ref a), (.ref x)] (AL g a b [x0, x1] ++ H) Lt (fun v vm h => ∃ b', v = some (.int (1 : Int32)) ∧ Hp g vm h (AL g a b' [x0, x1, x] ++ H) Lt) := by
  refine CtW.body (Ls := #[.val (.ref a), .val (.ref x)]) W (by decide +kernel) (efr rfl) ?_
  intro M T B
  replace B : RH g D15_w M T (oAL a (.int 2) (.ref b) (.int 2) :: (b, .inr ((.object "java/lang/Object"), "[Ljava/lang/Object;", [(.ref x0), (.ref x1), .null, .null, .null, .null, .null, .null, .null, .null])) :: H) Lt 0 0 := B
  refine p_aloadN B d15_0 rfl rfl rfl ?_
  refine p_dup B d15_1 rfl rfl ?_
  refine r_get B d15_2 rfl (host := "") (Or.inl (W78 B.gw)) (Via.of (W79 B.gw)) (v := (.int 2)) (fO (i := 0) (j := 0) rfl rfl) fun T1 B2 => ?_
  refine p_iconst B2 d15_5 rfl (v := (1 : Int32)) (by decide) ?_
  refine p_iadd B2 d15_6 rfl (z := (3 : Int32)) (by decide) ?_
  refine r_put B2 d15_7 rfl (host := "") (Or.inl (W78 B2.gw)) (Via.of (W79 B2.gw)) (i := 0) (j := 0) rfl rfl (Or.inl (W69 B2.gw)) (W50 B2.gw) (ty := .int) (by decide) rfl rfl (H' := (oAL a (.int 3) (.ref b) (.int 2) :: (b, .inr ((.object "java/lang/Object"), "[Ljava/lang/Object;", [(.ref x0), (.ref x1), .null, .null, .null, .null, .null, .null, .null, .null])) :: H)) rfl fun T3 B4 => ?_
  refine p_aloadN B4 d15_10 rfl rfl rfl ?_
  refine p_aloadN B4 d15_11 rfl rfl rfl ?_
  refine p_aloadN B4 d15_12 rfl rfl rfl ?_
  refine r_get B4 d15_13 rfl (host := "") (Or.inl (W71 B4.gw)) Via.refl (v := (.ref b)) (fO (i := 0) (j := 1) rfl rfl) fun T5 B6 => ?_
  refine p_aloadN B6 d15_16 rfl rfl rfl ?_
  refine r_get B6 d15_17 rfl (host := "") (Or.inl (W80 B6.gw)) Via.refl (v := (.int 2)) (fO (i := 0) (j := 2) rfl rfl) fun T7 B8 => ?_
  refine r_private (D' := D16_q9) B8 d15_20 rfl (W82 B8.gw) (W84 B8.gw) (W50 B8.gw) (W83 B8.gw) (W51 B8.gw) (W86 B8.gw) (by decide) (fE (i := 0) rfl) (k_q9 W a x b x0 x1 _ _ ms0) (argsL := [(.ref x), (.ref b), (.int 2)]) (rest := []) rfl pd13 rfl rfl rfl (W := 0) rfl (cs' := 0) (ss' := 0) (by decide) (Kv0 fun T9 B11 => ?_)
  refine p_iconst B11 d15_23 rfl (v := (1 : Int32)) (by decide) ?_
  exact r_reti B11 d15_24 rfl (by simp) rfl (by decide) (by decide) (fun vm h P => ⟨b, rfl, P⟩)
abbrev D16_q10 := E16 0 0 0 0
theorem k_q10 {g : GG} (W : GW g) (x0 x1 x2 x3 x4 x5 : Addr) (H : List Ent) (Lt : List SE) (ms0 : StrIn Lt x1) : Ct g D16_q10 #[(.ref x0), (.ref x1), (.ref x2), (.int 3)] (oAL x0 (.int 4) (.ref x2) (.int 3) :: (x2, .inr ((.object "java/lang/Object"), "[Ljava/lang/Object;", [(.ref x3), (.ref x4), (.ref x5), .null, .null, .null, .null, .null, .null, .null])) :: H) Lt (fun v vm h => v = none ∧ Hp g vm h (oAL x0 (.int 4) (.ref x2) (.int 4) :: (x2, .inr ((.object "java/lang/Object"), "[Ljava/lang/Object;", [(.ref x3), (.ref x4), (.ref x5), (.ref x1), .null, .null, .null, .null, .null, .null])) :: H) (Lt)) := by
  refine CtW.body (Ls := #[.val (.ref x0), .val (.ref x1), .val (.ref x2), .val (.int 3)]) W (by decide +kernel) (efr rfl) ?_
  intro M T B
  refine p_iloadN B d16_0 rfl rfl ?_
  refine p_aloadN B d16_1 rfl rfl rfl ?_
  refine r_alen B d16_2 rfl (aH (i := 1) rfl) (z := (10 : Int32)) rfl ?_
  refine b_icT B d16_3 (pc' := 11) (show ¬ (3 : Int32) = (10 : Int32) from by decide) (by decide) (by decide) ?_
  refine p_aloadN B d16_11 rfl rfl rfl ?_
  refine p_iloadN B d16_12 rfl rfl ?_
  refine p_aloadN B d16_13 rfl rfl rfl ?_
  refine r_aastore B d16_14 rfl (i := 1) rfl (by decide) (k := 3) (by decide) (by simp) (Or.inr ⟨_, rfl, (fun vm h E P => Ins.of_exa ((sI ms0) vm h E P) (W103 B.gw))⟩) (H' := (oAL x0 (.int 4) (.ref x2) (.int 3) :: (x2, .inr ((.object "java/lang/Object"), "[Ljava/lang/Object;", [(.ref x3), (.ref x4), (.ref x5), (.ref x1), .null, .null, .null, .null, .null, .null])) :: H)) rfl fun T1 B2 => ?_
  refine p_aloadN B2 d16_15 rfl rfl rfl ?_
  refine p_iloadN B2 d16_16 rfl rfl ?_
  refine p_iconst B2 d16_17 rfl (v := (1 : Int32)) (by decide) ?_
  refine p_iadd B2 d16_18 rfl (z := (4 : Int32)) (by decide) ?_
  refine r_put B2 d16_19 rfl (host := "") (Or.inl (W80 B2.gw)) Via.refl (i := 0) (j := 2) rfl rfl (Or.inl (W81 B2.gw)) (W50 B2.gw) (ty := .int) (by decide) rfl rfl (H' := (oAL x0 (.int 4) (.ref x2) (.int 4) :: (x2, .inr ((.object "java/lang/Object"), "[Ljava/lang/Object;", [(.ref x3), (.ref x4), (.ref x5), (.ref x1), .null, .null, .null, .null, .null, .null])) :: H)) rfl fun T3 B4 => ?_
  exact r_ret B4 d16_22 rfl (by decide) (by decide) (fun vm h P => ⟨rfl, P⟩)
theorem c_add3 {g : GG} (W : GW g) (a b x x0 x1 x2 : Addr) (H : List Ent) (Lt : List SE) (ms0 : StrIn Lt x) : Ct g D15_w #[(.ref a), (.ref x)] (AL g a b [x0, x1, x2] ++ H) Lt (fun v vm h => ∃ b', v = some (.int (1 : Int32)) ∧ Hp g vm h (AL g a b' [x0, x1, x2, x] ++ H) Lt) := by
  refine CtW.body (Ls := #[.val (.ref a), .val (.ref x)]) W (by decide +kernel) (efr rfl) ?_
  intro M T B
  replace B : RH g D15_w M T (oAL a (.int 3) (.ref b) (.int 3) :: (b, .inr ((.object "java/lang/Object"), "[Ljava/lang/Object;", [(.ref x0), (.ref x1), (.ref x2), .null, .null, .null, .null, .null, .null, .null])) :: H) Lt 0 0 := B
  refine p_aloadN B d15_0 rfl rfl rfl ?_
  refine p_dup B d15_1 rfl rfl ?_
  refine r_get B d15_2 rfl (host := "") (Or.inl (W78 B.gw)) (Via.of (W79 B.gw)) (v := (.int 3)) (fO (i := 0) (j := 0) rfl rfl) fun T1 B2 => ?_
  refine p_iconst B2 d15_5 rfl (v := (1 : Int32)) (by decide) ?_
  refine p_iadd B2 d15_6 rfl (z := (4 : Int32)) (by decide) ?_
  refine r_put B2 d15_7 rfl (host := "") (Or.inl (W78 B2.gw)) (Via.of (W79 B2.gw)) (i := 0) (j := 0) rfl rfl (Or.inl (W69 B2.gw)) (W50 B2.gw) (ty := .int) (by decide) rfl rfl (H' := (oAL a (.int 4) (.ref b) (.int 3) :: (b, .inr ((.object "java/lang/Object"), "[Ljava/lang/Object;", [(.ref x0), (.ref x1), (.ref x2), .null, .null, .null, .null, .null, .null, .null])) :: H)) rfl fun T3 B4 => ?_
  refine p_aloadN B4 d15_10 rfl rfl rfl ?_
  refine p_aloadN B4 d15_11 rfl rfl rfl ?_
  refine p_aloadN B4 d15_12 rfl rfl rfl ?_
  refine r_get B4 d15_13 rfl (host := "") (Or.inl (W71 B4.gw)) Via.refl (v := (.ref b)) (fO (i := 0) (j := 1) rfl rfl) fun T5 B6 => ?_
  refine p_aloadN B6 d15_16 rfl rfl rfl ?_
  refine r_get B6 d15_17 rfl (host := "") (Or.inl (W80 B6.gw)) Via.refl (v := (.int 3)) (fO (i := 0) (j := 2) rfl rfl) fun T7 B8 => ?_
  refine r_private (D' := D16_q10) B8 d15_20 rfl (W82 B8.gw) (W84 B8.gw) (W50 B8.gw) (W83 B8.gw) (W51 B8.gw) (W86 B8.gw) (by decide) (fE (i := 0) rfl) (k_q10 W a x b x0 x1 x2 _ _ ms0) (argsL := [(.ref x), (.ref b), (.int 3)]) (rest := []) rfl pd13 rfl rfl rfl (W := 0) rfl (cs' := 0) (ss' := 0) (by decide) (Kv0 fun T9 B11 => ?_)
  refine p_iconst B11 d15_23 rfl (v := (1 : Int32)) (by decide) ?_
  exact r_reti B11 d15_24 rfl (by simp) rfl (by decide) (by decide) (fun vm h P => ⟨b, rfl, P⟩)
theorem W_add {g : GG} (W : GW g) (a b x : Addr) (L : List Addr) (hl : L.length ≤ 3) (H : List Ent) (Lt : List SE) (ms : StrIn Lt x) : Ct g D15_w #[.ref a, .ref x] (AL g a b L ++ H) Lt (fun v vm h => ∃ b', v = some (.int (1 : Int32)) ∧ Hp g vm h (AL g a b' (L ++ [x]) ++ H) Lt) :=
  match L, hl with
  | [], _ => c_add0 W a b x  H Lt ms
  | [x0], _ => c_add1 W a b x x0 H Lt ms
  | [x0, x1], _ => c_add2 W a b x x0 x1 H Lt ms
  | [x0, x1, x2], _ => c_add3 W a b x x0 x1 x2 H Lt ms
  | _ :: _ :: _ :: _ :: _, h => absurd h (by simp only [List.length_cons]; omega)
abbrev D23_q12 := E23 1 0 0 12
theorem k_q12 {g : GG} (W : GW g) (x0 : Addr) (H : List Ent) (Lt : List SE) : Ct g D23_q12 #[(.ref x0)] (H) Lt (fun v vm h => v = none ∧ Hp g vm h (H) (Lt)) := by
  refine CtW.body (Ls := #[.val (.ref x0)]) W (by decide +kernel) (efr rfl) ?_
  intro M T B
  refine p_aloadN B d23_0 rfl rfl rfl ?_
  refine r_initO B d23_1 rfl (W121 B.gw) (W17 B.gw) (W18 B.gw) rfl (by decide) (W := 0) rfl (by decide) fun T1 B2 => ?_
  exact r_ret B2 d23_4 rfl (by decide) (by decide) (fun vm h P => ⟨rfl, P⟩)
abbrev D26_q15 := E26 0 0 0 0
theorem k_q15 {g : GG} (W : GW g) (x0 : Addr) (H : List Ent) (Lt : List SE) : Ct g D26_q15 #[(.ref x0)] (oAL x0 (.int 0) (.ref (dcOf g)) (.int 0) :: H) Lt (fun v vm h => v = some (.int 1) ∧ Hp g vm h (oAL x0 (.int 0) (.ref (dcOf g)) (.int 0) :: H) (Lt)) := by
  refine CtW.body (Ls := #[.val (.ref x0)]) W (by decide +kernel) (efr rfl) ?_
  intro M T B
  refine p_aloadN B d26_0 rfl rfl rfl ?_
  refine r_get B d26_1 rfl (host := "") (Or.inl (W80 B.gw)) Via.refl (v := (.int 0)) (fO (i := 0) (j := 2) rfl rfl) fun T1 B2 => ?_
  refine b_ifF B2 d26_4 (pc' := 7) rfl (show (0 : Int32) = (0 : Int32) from by decide) ?_
  refine p_iconst B2 d26_7 rfl (v := (1 : Int32)) (by decide) ?_
  refine b_goto B2 d26_8 (pc' := 12) (by decide) (by decide) ?_
  exact r_reti B2 d26_12 rfl (by simp) rfl (by decide) (by decide) (fun vm h P => ⟨rfl, P⟩)
abbrev D72_q16 := E72 0 0 0 0
theorem k_q16 {g : GG} (W : GW g) (H : List Ent) (Lt : List SE) : Ct g D72_q16 #[] (H) Lt (fun v vm h => v = some (.ref (elOf g)) ∧ Hp g vm h (H) (Lt)) := by
  refine CtW.body (Ls := #[]) W (by decide +kernel) (efr rfl) ?_
  intro M T B
  refine r_gets B d72_0 rfl (host := "") (Or.inl (W440 B.gw)) Via.refl (v := (.ref (elOf g))) (el_sta W) fun T1 B2 => ?_
  exact r_reta B2 d72_3 rfl rfl rfl (by decide) (by decide) (fun vm h P => ⟨rfl, P⟩)
abbrev D25_q14 := E25 1 0 0 12
theorem k_q14 {g : GG} (W : GW g) (x0 : Addr) (H : List Ent) (Lt : List SE) : Ct g D25_q14 #[(.ref x0)] (oAL x0 (.int 0) (.ref (dcOf g)) (.int 0) :: H) Lt (fun v vm h => v = some (.ref (elOf g)) ∧ Hp g vm h (oAL x0 (.int 0) (.ref (dcOf g)) (.int 0) :: H) (Lt)) := by
  refine CtW.body (Ls := #[.val (.ref x0), .unset]) W (by decide +kernel) (efr rfl) ?_
  intro M T B
  refine p_aloadN B d25_0 rfl rfl rfl ?_
  refine r_inst0 B d25_1 rfl (W130 B.gw) (fun vm h E P => ins_chain ((fE (i := 0) rfl) vm h E P) (W131 B.gw) (NS.step (W131 B.gw) (NS.step (W132 B.gw) (NS.step (W133 B.gw) (ns_root (W134 B.gw) (W179 B.gw) (by decide)) (by decide)) (by decide)) (by decide)) (W179 B.gw) (by decide)) (fE (i := 0) rfl) fun T1 B2 => ?_
  refine b_ifF B2 d25_4 (pc' := 7) rfl (show (0 : Int32) = (0 : Int32) from by decide) ?_
  refine p_aloadN B2 d25_7 rfl rfl rfl ?_
  refine r_inst0 B2 d25_8 rfl (W135 B2.gw) (fun vm h E P => ins_chain ((fE (i := 0) rfl) vm h E P) (W131 B2.gw) (NS.step (W131 B2.gw) (NS.step (W132 B2.gw) (NS.step (W133 B2.gw) (ns_root (W134 B2.gw) (W471 B2.gw) (by decide)) (by decide)) (by decide)) (by decide)) (W471 B2.gw) (by decide)) (fE (i := 0) rfl) fun T3 B4 => ?_
  refine b_ifT B4 d25_11 (pc' := 31) (show (0 : Int32) = (0 : Int32) from by decide) (by decide) (by decide) ?_
  refine p_aloadN B4 d25_31 rfl rfl rfl ?_
  refine r_iface (D' := D26_q15) B4 d25_32 rfl (W136 B4.gw) (W137 B4.gw) (W138 B4.gw) (by first | rfl | decide) (W139 B4.gw) (W140 B4.gw) (W141 B4.gw) (W142 B4.gw) (W143 B4.gw) (W51 B4.gw) (W144 B4.gw) (by decide) (fE (i := 0) rfl) (k_q15 W x0 _ _) (argsL := []) (rest := []) rfl pd14 rfl rfl rfl (W := 0) rfl (cs' := 0) (ss' := 0) (by decide) (Kv1 fun T5 B7 => ?_)
  refine b_ifF B7 d25_37 (pc' := 40) rfl (show ¬ (1 : Int32) = (0 : Int32) from by decide) ?_
  refine r_static (D' := D72_q16) B7 d25_40 rfl (W437 B7.gw) (W438 B7.gw) (W124 B7.gw) (W439 B7.gw) (by decide) (k_q16 W _ _) (argsL := []) (rest := []) rfl pd15 rfl rfl rfl (W := 0) rfl (cs' := 0) (ss' := 0) (by decide) (Kv1 fun T8 B10 => ?_)
  exact r_reta B10 d25_43 rfl rfl rfl (by decide) (by decide) (fun vm h P => ⟨rfl, P⟩)
abbrev D24_q13 := E24 2 0 0 25
theorem k_q13 {g : GG} (W : GW g) (x0 : Addr) (H : List Ent) (Lt : List SE) : Ct g D24_q13 #[(.ref x0)] (oAL x0 (.int 0) (.ref (dcOf g)) (.int 0) :: H) Lt (fun v vm h => v = some (.ref (elOf g)) ∧ Hp g vm h (oAL x0 (.int 0) (.ref (dcOf g)) (.int 0) :: H) (Lt)) := by
  refine CtW.body (Ls := #[.val (.ref x0)]) W (by decide +kernel) (efr rfl) ?_
  intro M T B
  refine p_aloadN B d24_0 rfl rfl rfl ?_
  refine r_static (D' := D25_q14) B d24_1 rfl (W126 B.gw) (W127 B.gw) (W128 B.gw) (W129 B.gw) (by decide) (k_q14 W x0 _ _) (argsL := [(.ref x0)]) (rest := []) rfl pd16 rfl rfl rfl (W := 0) rfl (cs' := 0) (ss' := 0) (by decide) (Kv1 fun T1 B3 => ?_)
  exact r_reta B3 d24_4 rfl rfl rfl (by decide) (by decide) (fun vm h P => ⟨rfl, P⟩)
abbrev D22_w := E22 9 3 10 115
theorem c_ei0 {g : GG} (W : GW g) (ev a b : Addr) (H : List Ent) (Lt : List SE) : Ct g D22_w #[(.ref ev), (.ref a)] (oEV ev .null :: (AL g a b [] ++ H)) Lt (fun v vm h => ∃ c d, v = none ∧ Hp g vm h (oEV ev (.ref (ilA g c [])) :: (AL g a b [] ++ (IL g c d [] ++ H))) Lt) := by
  refine CtW.body (Ls := #[.val (.ref ev), .val (.ref a)]) W (by decide +kernel) (efr rfl) ?_
  intro M T B
  replace B : RH g D22_w M T (oEV ev .null :: oAL a (.int 0) (.ref (dcOf g)) (.int 0) :: H) Lt 0 0 := B
  refine p_aloadN B d22_0 rfl rfl rfl ?_
  refine r_special (D' := D23_q12) B d22_1 rfl rfl rfl (W116 B.gw) (W117 B.gw) (W119 B.gw) (W120 B.gw) (by decide) (k_q12 W ev _ _) (a := ev) (argsL := []) (rest := []) rfl pd9 rfl rfl rfl (W := 0) rfl (cs' := 0) (ss' := 0) (by decide) (Kv0 fun T1 B3 => ?_)
  refine p_aloadN B3 d22_4 rfl rfl rfl ?_
  have B4 := (B3.fr 1 rfl)
  refine r_static (D' := D24_q13) B4 d22_5 rfl (W122 B4.gw) (W123 B4.gw) (W124 B4.gw) (W125 B4.gw) (by decide) (k_q13 W a _ _) (argsL := [(.ref a)]) (rest := []) rfl pd16 rfl rfl rfl (W := 0) rfl (cs' := 0) (ss' := 0) (by decide) (Kv1 fun T5 B7 => ?_)
  refine p_astoreN B7 d22_8 rfl rfl (Ls' := #[.val (.ref ev), .val (.ref (elOf g))]) rfl ?_
  refine p_aloadN B7 d22_9 rfl rfl rfl ?_
  refine p_aloadN B7 d22_10 rfl rfl rfl ?_
  refine r_put B7 d22_11 rfl (host := "") (Or.inl (W208 B7.gw)) Via.refl (i := 1) (j := 0) rfl rfl (Or.inr ⟨(W209 B7.gw), rfl, rfl⟩) (W111 B7.gw) (ty := (.object "java/util/List")) (by decide) rfl rfl (H' := (oAL a (.int 0) (.ref (dcOf g)) (.int 0) :: oEV ev (.ref (elOf g)) :: H)) rfl fun T8 B9 => ?_
  have B10 := (B9.fr 1 rfl)
  exact r_ret B10 d22_14 rfl (by decide) (by decide) (fun vm h P => ⟨0, 0, rfl, P⟩)
abbrev D26_q20 := E26 0 0 0 0
theorem k_q20 {g : GG} (W : GW g) (x0 x1 : Addr) (H : List Ent) (Lt : List SE) : Ct g D26_q20 #[(.ref x0)] (oAL x0 (.int 1) (.ref x1) (.int 1) :: H) Lt (fun v vm h => v = some (.int 0) ∧ Hp g vm h (oAL x0 (.int 1) (.ref x1) (.int 1) :: H) (Lt)) := by
  refine CtW.body (Ls := #[.val (.ref x0)]) W (by decide +kernel) (efr rfl) ?_
  intro M T B
  refine p_aloadN B d26_0 rfl rfl rfl ?_
  refine r_get B d26_1 rfl (host := "") (Or.inl (W80 B.gw)) Via.refl (v := (.int 1)) (fO (i := 0) (j := 2) rfl rfl) fun T1 B2 => ?_
  refine b_ifT B2 d26_4 (pc' := 11) (show ¬ (1 : Int32) = (0 : Int32) from by decide) (by decide) (by decide) ?_
  refine p_iconst B2 d26_11 rfl (v := (0 : Int32)) (by decide) ?_
  exact r_reti B2 d26_12 rfl (by simp) rfl (by decide) (by decide) (fun vm h P => ⟨rfl, P⟩)
abbrev D30_q24 := E30 0 0 0 0
theorem k_q24 {g : GG} (W : GW g) (H : List Ent) (Lt : List SE) : Ct g D30_q24 #[(.int 10), (.int 1)] (H) Lt (fun v vm h => v = some (.int 1) ∧ Hp g vm h (H) (Lt)) := by
  refine CtW.body (Ls := #[.val (.int 10), .val (.int 1)]) W (Jvm.Free.JP.mathPlain rfl (by decide +kernel)) (efr rfl) ?_
  intro M T B
  refine p_iloadN B d30_0 rfl rfl ?_
  refine p_iloadN B d30_1 rfl rfl ?_
  refine b_icT B d30_2 (pc' := 9) (show (1 : Int32) < (10 : Int32) from by decide) (by decide) (by decide) ?_
  refine p_iloadN B d30_9 rfl rfl ?_
  exact r_reti B d30_10 rfl (by simp) rfl (by decide) (by decide) (fun vm h P => ⟨rfl, P⟩)
abbrev D29_q23 := E29 1 1 1 18
theorem k_q23 {g : GG} (W : GW g) (x0 x1 : Addr) (H : List Ent) (Lt : List SE) (ms0 : StrIn Lt x1) : Ct g D29_q23 #[(.ref x0), (.int 1), (.ref (miOf g))] ((x0, .inr ((.object "java/lang/Object"), "[Ljava/lang/Object;", [(.ref x1), .null, .null, .null, .null, .null, .null, .null, .null, .null])) :: H) Lt (fun v vm h => ∃ a5, v = some (.ref a5) ∧ Hp g vm h ((a5, .inr ((.object "java/lang/Object"), "[Ljava/lang/Object;", [(.ref x1)])) :: (x0, .inr ((.object "java/lang/Object"), "[Ljava/lang/Object;", [(.ref x1), .null, .null, .null, .null, .null, .null, .null, .null, .null])) :: H) (Lt)) := by
  refine CtW.body (Ls := #[.val (.ref x0), .val (.int 1), .val (.ref (miOf g)), .unset]) W (by decide +kernel) (efr rfl) ?_
  intro M T B
  refine p_aloadN B d29_0 rfl rfl rfl ?_
  refine r_ldcM B d29_1 rfl (W166 B.gw) (mi_ok W) fun T1 B2 => ?_
  refine b_anF B2 d29_3 (pc' := 6) rfl rfl rfl rfl ?_
  refine p_iloadN B2 d29_6 rfl rfl ?_
  refine r_newr B2 d29_7 rfl (W167 B2.gw) (W102 B2.gw) (by decide) (nn := 1) (by decide) (cap := 1) (by decide) (by decide) (cs' := 1) rfl (ss' := 1) rfl (by decide) (by decide) (ad := "[Ljava/lang/Object;") (by decide) (vs := [.null]) rfl fun T3 a5 B4 => ?_
  refine b_goto B4 d29_10 (pc' := 24) (by decide) (by decide) ?_
  refine p_astoreN B4 d29_24 rfl rfl (Ls' := #[.val (.ref x0), .val (.int 1), .val (.ref (miOf g)), .val (.ref a5)]) rfl ?_
  refine p_aloadN B4 d29_25 rfl rfl rfl ?_
  refine p_iconst B4 d29_26 rfl (v := (0 : Int32)) (by decide) ?_
  refine p_aloadN B4 d29_27 rfl rfl rfl ?_
  refine p_iconst B4 d29_28 rfl (v := (0 : Int32)) (by decide) ?_
  refine p_aloadN B4 d29_29 rfl rfl rfl ?_
  refine r_alen B4 d29_30 rfl (aH (i := 1) rfl) (z := (10 : Int32)) rfl ?_
  refine p_iloadN B4 d29_31 rfl rfl ?_
  refine r_static (D' := D30_q24) B4 d29_32 rfl (W168 B4.gw) (W169 B4.gw) (W99 B4.gw) (W170 B4.gw) (by decide) (k_q24 W _ _) (argsL := [(.int 10), (.int 1)]) (rest := [(.int 0), (.ref a5), (.int 0), (.ref x0)]) rfl pd10 rfl rfl rfl (W := 4) rfl (cs' := 1) (ss' := 1) (by decide) (Kv1 fun T6 B8 => ?_)
  refine r_acopy B8 d29_35 (pc' := 38) (s0 := 0) (d0 := 0) (n0 := 1) (us := [(.ref x1)]) (vd' := [(.ref x1)]) rfl (W171 B8.gw) (W174 B8.gw) (W172 B8.gw) (W173 B8.gw) (aH (i := 1) rfl) (i := 0) rfl (Or.inr ⟨rfl, _, rfl, List.forall_mem_cons.2 ⟨Or.inr ⟨_, rfl, (fun vm h E P => Ins.of_exa ((sI ms0) vm h E P) (W103 B8.gw))⟩, nofun⟩⟩) (by decide) (by decide) (by decide) (by decide) (by decide) (by decide) (by simp) (by simp) rfl rfl (H' := ((a5, .inr ((.object "java/lang/Object"), "[Ljava/lang/Object;", [(.ref x1)])) :: (x0, .inr ((.object "java/lang/Object"), "[Ljava/lang/Object;", [(.ref x1), .null, .null, .null, .null, .null, .null, .null, .null, .null])) :: H)) rfl rfl (W := 0) rfl (by decide) (by decide) fun T9 B10 => ?_
  refine p_aloadN B10 d29_38 rfl rfl rfl ?_
  exact r_reta B10 d29_39 rfl rfl rfl (by decide) (by decide) (fun vm h P => ⟨a5, rfl, P⟩)
abbrev D28_q22 := E28 2 1 1 33
theorem k_q22 {g : GG} (W : GW g) (x0 x1 : Addr) (H : List Ent) (Lt : List SE) (ms0 : StrIn Lt x1) : Ct g D28_q22 #[(.ref x0), (.int 1)] ((x0, .inr ((.object "java/lang/Object"), "[Ljava/lang/Object;", [(.ref x1), .null, .null, .null, .null, .null, .null, .null, .null, .null])) :: H) Lt (fun v vm h => ∃ a6, v = some (.ref a6) ∧ Hp g vm h ((a6, .inr ((.object "java/lang/Object"), "[Ljava/lang/Object;", [(.ref x1)])) :: (x0, .inr ((.object "java/lang/Object"), "[Ljava/lang/Object;", [(.ref x1), .null, .null, .null, .null, .null, .null, .null, .null, .null])) :: H) (Lt)) := by
  refine CtW.body (Ls := #[.val (.ref x0), .val (.int 1)]) W (by decide +kernel) (efr rfl) ?_
  intro M T B
  refine p_aloadN B d28_0 rfl rfl rfl ?_
  refine p_iloadN B d28_1 rfl rfl ?_
  refine p_aloadN B d28_2 rfl rfl rfl ?_
  refine r_getClass B d28_3 rfl (W157 B.gw) (W158 B.gw) (W160 B.gw) (W159 B.gw) (W161 B.gw) (aE (i := 0) rfl (by decide)) (mi_ok W) rfl (W := 2) rfl (by decide) (by decide) fun T1 B2 => ?_
  refine r_static (D' := D29_q23) B2 d28_6 rfl (W163 B2.gw) (W164 B2.gw) (W155 B2.gw) (W165 B2.gw) (by decide) (k_q23 W x0 x1 _ _ ms0) (argsL := [(.ref x0), (.int 1), (.ref (miOf g))]) (rest := []) rfl pd17 rfl rfl rfl (W := 0) rfl (cs' := 1) (ss' := 1) (by decide) (Kex fun a6 => Kv1 fun T3 B5 => ?_)
  exact r_reta B5 d28_9 rfl rfl rfl (by decide) (by decide) (fun vm h P => ⟨a6, rfl, P⟩)
abbrev D27_q21 := E27 3 1 1 46
theorem k_q21 {g : GG} (W : GW g) (x0 x1 x2 : Addr) (H : List Ent) (Lt : List SE) (ms0 : StrIn Lt x2) : Ct g D27_q21 #[(.ref x0)] (oAL x0 (.int 1) (.ref x1) (.int 1) :: (x1, .inr ((.object "java/lang/Object"), "[Ljava/lang/Object;", [(.ref x2), .null, .null, .null, .null, .null, .null, .null, .null, .null])) :: H) Lt (fun v vm h => ∃ a9, v = some (.ref a9) ∧ Hp g vm h ((a9, .inr ((.object "java/lang/Object"), "[Ljava/lang/Object;", [(.ref x2)])) :: (x1, .inr ((.object "java/lang/Object"), "[Ljava/lang/Object;", [(.ref x2), .null, .null, .null, .null, .null, .null, .null, .null, .null])) :: oAL x0 (.int 1) (.ref x1) (.int 1) :: H) (Lt)) := by
  refine CtW.body (Ls := #[.val (.ref x0)]) W (by decide +kernel) (efr rfl) ?_
  intro M T B
  refine p_aloadN B d27_0 rfl rfl rfl ?_
  refine r_get B d27_1 rfl (host := "") (Or.inl (W71 B.gw)) Via.refl (v := (.ref x1)) (fO (i := 0) (j := 1) rfl rfl) fun T1 B2 => ?_
  refine p_aloadN B2 d27_4 rfl rfl rfl ?_
  refine r_get B2 d27_5 rfl (host := "") (Or.inl (W80 B2.gw)) Via.refl (v := (.int 1)) (fO (i := 0) (j := 2) rfl rfl) fun T3 B4 => ?_
  have B5 := (B4.fr 1 rfl)
  refine r_static (D' := D28_q22) B5 d27_8 rfl (W153 B5.gw) (W154 B5.gw) (W155 B5.gw) (W156 B5.gw) (by decide) (k_q22 W x1 x2 _ _ ms0) (argsL := [(.ref x1), (.int 1)]) (rest := []) rfl pd18 rfl rfl rfl (W := 0) rfl (cs' := 1) (ss' := 1) (by decide) (Kex fun a9 => Kv1 fun T6 B8 => ?_)
  exact r_reta B8 d27_11 rfl rfl rfl (by decide) (by decide) (fun vm h P => ⟨a9, rfl, P⟩)
abbrev D34_q30 := E34 2 0 0 24
theorem k_q30 {g : GG} (W : GW g) (x0 : Addr) (H : List Ent) (Lt : List SE) : Ct g D34_q30 #[(.ref x0)] (H) Lt (fun v vm h => v = none ∧ Hp g vm h (H) (Lt)) := by
  refine CtW.body (Ls := #[.val (.ref x0)]) W (by decide +kernel) (efr rfl) ?_
  intro M T B
  refine p_aloadN B d34_0 rfl rfl rfl ?_
  refine r_special (D' := D14_q3) B d34_1 rfl rfl rfl (W197 B.gw) (W62 B.gw) (W65 B.gw) (W66 B.gw) (by decide) (k_q3 W x0 _ _) (a := x0) (argsL := []) (rest := []) rfl pd9 rfl rfl rfl (W := 0) rfl (cs' := 0) (ss' := 0) (by decide) (Kv0 fun T1 B3 => ?_)
  exact r_ret B3 d34_4 rfl (by decide) (by decide) (fun vm h P => ⟨rfl, P⟩)
abbrev D33_q31 := E33 3 0 0 36
theorem k_q31 {g : GG} (W : GW g) (x0 : Addr) (H : List Ent) (Lt : List SE) : Ct g D33_q31 #[(.ref x0)] (H) Lt (fun v vm h => v = none ∧ Hp g vm h (H) (Lt)) := by
  refine CtW.body (Ls := #[.val (.ref x0)]) W (by decide +kernel) (efr rfl) ?_
  intro M T B
  refine p_aloadN B d33_0 rfl rfl rfl ?_
  refine r_special (D' := D34_q30) B d33_1 rfl rfl rfl (W191 B.gw) (W192 B.gw) (W195 B.gw) (W196 B.gw) (by decide) (k_q30 W x0 _ _) (a := x0) (argsL := []) (rest := []) rfl pd9 rfl rfl rfl (W := 0) rfl (cs' := 0) (ss' := 0) (by decide) (Kv0 fun T1 B3 => ?_)
  exact r_ret B3 d33_4 rfl (by decide) (by decide) (fun vm h P => ⟨rfl, P⟩)
abbrev D35_q32 := E35 0 0 0 0
theorem k_q32 {g : GG} (W : GW g) (x0 : Addr) (H : List Ent) (Lt : List SE) (ms0 : StrIn Lt x0) : Ct g D35_q32 #[(.ref x0)] (H) Lt (fun v vm h => v = some (.ref x0) ∧ Hp g vm h (H) (Lt)) := by
  refine CtW.body (Ls := #[.val (.ref x0)]) W (by decide +kernel) (efr rfl) ?_
  intro M T B
  refine p_aloadN B d35_0 rfl rfl rfl ?_
  refine b_nnT B d35_1 (pc' := 12) (by decide) (by decide) ?_
  refine p_aloadN B d35_12 rfl rfl rfl ?_
  exact r_reta B d35_13 rfl rfl rfl (by decide) (by decide) (fun vm h P => ⟨rfl, P⟩)
abbrev D32_q26 := E32 4 0 0 48
theorem k_q26 {g : GG} (W : GW g) (x0 x1 : Addr) (H : List Ent) (Lt : List SE) (ms0 : StrIn Lt x1) : Ct g D32_q26 #[(.ref x0), (.ref x1)] (o12 x0 .null .null :: H) Lt (fun v vm h => v = none ∧ Hp g vm h (o12 x0 (.ref x1) (.ref (emOf g)) :: H) (Lt)) := by
  refine CtW.body (Ls := #[.val (.ref x0), .val (.ref x1)]) W (by decide +kernel) (efr rfl) ?_
  intro M T B
  refine p_aloadN B d32_0 rfl rfl rfl ?_
  refine r_special (D' := D33_q31) B d32_1 rfl rfl rfl (W185 B.gw) (W186 B.gw) (W189 B.gw) (W190 B.gw) (by decide) (k_q31 W x0 _ _) (a := x0) (argsL := []) (rest := []) rfl pd9 rfl rfl rfl (W := 0) rfl (cs' := 0) (ss' := 0) (by decide) (Kv0 fun T1 B3 => ?_)
  refine p_aloadN B3 d32_4 rfl rfl rfl ?_
  refine p_aloadN B3 d32_5 rfl rfl rfl ?_
  refine r_static (D' := D35_q32) B3 d32_6 rfl (W199 B3.gw) (W200 B3.gw) (W201 B3.gw) (W202 B3.gw) (by decide) (k_q32 W x1 _ _ ms0) (argsL := [(.ref x1)]) (rest := [(.ref x0)]) rfl pd19 rfl rfl rfl (W := 1) rfl (cs' := 0) (ss' := 0) (by decide) (Kv1 fun T4 B6 => ?_)
  refine r_put B6 d32_9 rfl (host := "") (Or.inl (W203 B6.gw)) Via.refl (i := 0) (j := 0) rfl rfl (Or.inr ⟨(W204 B6.gw), rfl, rfl⟩) (W179 B6.gw) (ty := (.object "java/lang/Object")) (by decide) rfl rfl (H' := (o12 x0 (.ref x1) .null :: H)) rfl fun T7 B8 => ?_
  refine p_aloadN B8 d32_12 rfl rfl rfl ?_
  refine r_gets B8 d32_13 rfl (Or.inr (W205 B8.gw)) Via.refl (v := (.ref (emOf g))) (em_sta W) fun T9 B10 => ?_
  refine r_put B10 d32_16 rfl (host := "") (Or.inl (W206 B10.gw)) Via.refl (i := 0) (j := 1) rfl rfl (Or.inr ⟨(W207 B10.gw), rfl, rfl⟩) (W179 B10.gw) (ty := (.object "java/lang/Object")) (by decide) rfl rfl (H' := (o12 x0 (.ref x1) (.ref (emOf g)) :: H)) rfl fun T11 B12 => ?_
  exact r_ret B12 d32_19 rfl (by decide) (by decide) (fun vm h P => ⟨rfl, P⟩)
abbrev D31_q25 := E31 5 1 2 62
theorem k_q25 {g : GG} (W : GW g) (x0 x1 : Addr) (H : List Ent) (Lt : List SE) (ms0 : StrIn Lt x1) : Ct g D31_q25 #[(.ref x0)] ((x0, .inr ((.object "java/lang/Object"), "[Ljava/lang/Object;", [(.ref x1)])) :: H) Lt (fun v vm h => ∃ a3, v = some (.ref a3) ∧ Hp g vm h (o12 a3 (.ref x1) (.ref (emOf g)) :: (x0, .inr ((.object "java/lang/Object"), "[Ljava/lang/Object;", [(.ref x1)])) :: H) (Lt)) := by
  refine CtW.body (Ls := #[.val (.ref x0), .unset]) W (by decide +kernel) (efr rfl) ?_
  intro M T B
  refine p_aloadN B d31_0 rfl rfl rfl ?_
  refine r_alen B d31_1 rfl (aH (i := 0) rfl) (z := (1 : Int32)) rfl ?_
  refine p_tswIn B d31_2 (pc' := 34) (by decide) (off := 32) (by first | rfl | decide) (by decide) (by decide) ?_
  refine r_new B d31_34 rfl (W178 B.gw) (W179 B.gw) (W180 B.gw) (Ly_o12 B.gw) (by decide) (cs' := 1) rfl (ss' := 2) rfl (by decide) (by decide) fun T1 a3 B2 => ?_
  refine p_dup B2 d31_37 rfl rfl ?_
  refine p_aloadN B2 d31_38 rfl rfl rfl ?_
  refine p_iconst B2 d31_39 rfl (v := (0 : Int32)) (by decide) ?_
  refine r_aget B2 d31_40 rfl rfl (aH (i := 1) rfl) (k := 0) (by decide) rfl ?_
  refine r_special (D' := D32_q26) B2 d31_41 rfl rfl rfl (W181 B2.gw) (W182 B2.gw) (W180 B2.gw) (W184 B2.gw) (by decide) (k_q26 W a3 x1 _ _ ms0) (a := a3) (argsL := [(.ref x1)]) (rest := [(.ref a3)]) rfl pd20 rfl rfl rfl (W := 1) rfl (cs' := 1) (ss' := 2) (by decide) (Kv0 fun T4 B6 => ?_)
  exact r_reta B6 d31_44 rfl rfl rfl (by decide) (by decide) (fun vm h P => ⟨a3, rfl, P⟩)
abbrev D25_q18 := E25 6 2 3 75
theorem k_q18 {g : GG} (W : GW g) (x0 x1 x2 : Addr) (H : List Ent) (Lt : List SE) (ms0 : StrIn Lt x2) : Ct g D25_q18 #[(.ref x0)] (oAL x0 (.int 1) (.ref x1) (.int 1) :: (x1, .inr ((.object "java/lang/Object"), "[Ljava/lang/Object;", [(.ref x2), .null, .null, .null, .null, .null, .null, .null, .null, .null])) :: H) Lt (fun v vm h => ∃ a15, v = some (.ref a15) ∧ Hp g vm h (o12 a15 (.ref x2) (.ref (emOf g)) :: (x1, .inr ((.object "java/lang/Object"), "[Ljava/lang/Object;", [(.ref x2), .null, .null, .null, .null, .null, .null, .null, .null, .null])) :: oAL x0 (.int 1) (.ref x1) (.int 1) :: H) (Lt)) := by
  refine CtW.body (Ls := #[.val (.ref x0), .unset]) W (by decide +kernel) (efr rfl) ?_
  intro M T B
  refine p_aloadN B d25_0 rfl rfl rfl ?_
  refine r_inst0 B d25_1 rfl (W130 B.gw) (fun vm h E P => ins_chain ((fE (i := 0) rfl) vm h E P) (W131 B.gw) (NS.step (W131 B.gw) (NS.step (W132 B.gw) (NS.step (W133 B.gw) (ns_root (W134 B.gw) (W179 B.gw) (by decide)) (by decide)) (by decide)) (by decide)) (W179 B.gw) (by decide)) (fE (i := 0) rfl) fun T1 B2 => ?_
  refine b_ifF B2 d25_4 (pc' := 7) rfl (show (0 : Int32) = (0 : Int32) from by decide) ?_
  refine p_aloadN B2 d25_7 rfl rfl rfl ?_
  refine r_inst0 B2 d25_8 rfl (W135 B2.gw) (fun vm h E P => ins_chain ((fE (i := 0) rfl) vm h E P) (W131 B2.gw) (NS.step (W131 B2.gw) (NS.step (W132 B2.gw) (NS.step (W133 B2.gw) (ns_root (W134 B2.gw) (W471 B2.gw) (by decide)) (by decide)) (by decide)) (by decide)) (W471 B2.gw) (by decide)) (fE (i := 0) rfl) fun T3 B4 => ?_
  refine b_ifT B4 d25_11 (pc' := 31) (show (0 : Int32) = (0 : Int32) from by decide) (by decide) (by decide) ?_
  refine p_aloadN B4 d25_31 rfl rfl rfl ?_
  refine r_iface (D' := D26_q20) B4 d25_32 rfl (W136 B4.gw) (W137 B4.gw) (W138 B4.gw) (by first | rfl | decide) (W139 B4.gw) (W140 B4.gw) (W141 B4.gw) (W142 B4.gw) (W143 B4.gw) (W51 B4.gw) (W144 B4.gw) (by decide) (fE (i := 0) rfl) (k_q20 W x0 x1 _ _) (argsL := []) (rest := []) rfl pd14 rfl rfl rfl (W := 0) rfl (cs' := 0) (ss' := 0) (by decide) (Kv1 fun T5 B7 => ?_)
  refine b_ifT B7 d25_37 (pc' := 44) (show (0 : Int32) = (0 : Int32) from by decide) (by decide) (by decide) ?_
  refine p_aloadN B7 d25_44 rfl rfl rfl ?_
  refine r_iface (D' := D27_q21) B7 d25_45 rfl (W145 B7.gw) (W146 B7.gw) (W147 B7.gw) (by first | rfl | decide) (W148 B7.gw) (W149 B7.gw) (W150 B7.gw) (W151 B7.gw) (W143 B7.gw) (W51 B7.gw) (W152 B7.gw) (by decide) (fE (i := 0) rfl) (k_q21 W x0 x1 x2 _ _ ms0) (argsL := []) (rest := []) rfl pd12 rfl rfl rfl (W := 0) rfl (cs' := 1) (ss' := 1) (by decide) (Kex fun a11 => Kv1 fun T8 B10 => ?_)
  refine r_static (D' := D31_q25) B10 d25_50 rfl (W175 B10.gw) (W176 B10.gw) (W124 B10.gw) (W177 B10.gw) (by decide) (k_q25 W a11 x2 _ _ ms0) (argsL := [(.ref a11)]) (rest := []) rfl pd21 rfl rfl rfl (W := 0) rfl (cs' := 2) (ss' := 3) (by decide) (Kex fun a15 => Kv1 fun T12 B14 => ?_)
  have B16 := (B14.dl 1)
  exact r_reta B16 d25_53 rfl rfl rfl (by decide) (by decide) (fun vm h P => ⟨a15, rfl, P⟩)
abbrev D24_q17 := E24 7 2 3 88
theorem k_q17 {g : GG} (W : GW g) (x0 x1 x2 : Addr) (H : List Ent) (Lt : List SE) (ms0 : StrIn Lt x2) : Ct g D24_q17 #[(.ref x0)] (oAL x0 (.int 1) (.ref x1) (.int 1) :: (x1, .inr ((.object "java/lang/Object"), "[Ljava/lang/Object;", [(.ref x2), .null, .null, .null, .null, .null, .null, .null, .null, .null])) :: H) Lt (fun v vm h => ∃ a4, v = some (.ref a4) ∧ Hp g vm h (o12 a4 (.ref x2) (.ref (emOf g)) :: (x1, .inr ((.object "java/lang/Object"), "[Ljava/lang/Object;", [(.ref x2), .null, .null, .null, .null, .null, .null, .null, .null, .null])) :: oAL x0 (.int 1) (.ref x1) (.int 1) :: H) (Lt)) := by
  refine CtW.body (Ls := #[.val (.ref x0)]) W (by decide +kernel) (efr rfl) ?_
  intro M T B
  refine p_aloadN B d24_0 rfl rfl rfl ?_
  refine r_static (D' := D25_q18) B d24_1 rfl (W126 B.gw) (W127 B.gw) (W128 B.gw) (W129 B.gw) (by decide) (k_q18 W x0 x1 x2 _ _ ms0) (argsL := [(.ref x0)]) (rest := []) rfl pd16 rfl rfl rfl (W := 0) rfl (cs' := 2) (ss' := 3) (by decide) (Kex fun a4 => Kv1 fun T1 B3 => ?_)
  exact r_reta B3 d24_4 rfl rfl rfl (by decide) (by decide) (fun vm h P => ⟨a4, rfl, P⟩)
theorem c_ei1 {g : GG} (W : GW g) (ev a b x0 : Addr) (H : List Ent) (Lt : List SE) (ms0 : StrIn Lt x0) : Ct g D22_w #[(.ref ev), (.ref a)] (oEV ev .null :: (AL g a b [x0] ++ H)) Lt (fun v vm h => ∃ c d, v = none ∧ Hp g vm h (oEV ev (.ref (ilA g c [x0])) :: (AL g a b [x0] ++ (IL g c d [x0] ++ H))) Lt) := by
  refine CtW.body (Ls := #[.val (.ref ev), .val (.ref a)]) W (by decide +kernel) (efr rfl) ?_
  intro M T B
  replace B : RH g D22_w M T (oEV ev .null :: oAL a (.int 1) (.ref b) (.int 1) :: (b, .inr ((.object "java/lang/Object"), "[Ljava/lang/Object;", [(.ref x0), .null, .null, .null, .null, .null, .null, .null, .null, .null])) :: H) Lt 0 0 := B
  refine p_aloadN B d22_0 rfl rfl rfl ?_
  refine r_special (D' := D23_q12) B d22_1 rfl rfl rfl (W116 B.gw) (W117 B.gw) (W119 B.gw) (W120 B.gw) (by decide) (k_q12 W ev _ _) (a := ev) (argsL := []) (rest := []) rfl pd9 rfl rfl rfl (W := 0) rfl (cs' := 0) (ss' := 0) (by decide) (Kv0 fun T1 B3 => ?_)
  refine p_aloadN B3 d22_4 rfl rfl rfl ?_
  have B4 := ((B3.fr 2 rfl).fr 2 rfl)
  refine r_static (D' := D24_q17) B4 d22_5 rfl (W122 B4.gw) (W123 B4.gw) (W124 B4.gw) (W125 B4.gw) (by decide) (k_q17 W a b x0 _ _ ms0) (argsL := [(.ref a)]) (rest := []) rfl pd16 rfl rfl rfl (W := 0) rfl (cs' := 2) (ss' := 3) (by decide) (Kex fun a8 => Kv1 fun T5 B7 => ?_)
  refine p_astoreN B7 d22_8 rfl rfl (Ls' := #[.val (.ref ev), .val (.ref a8)]) rfl ?_
  refine p_aloadN B7 d22_9 rfl rfl rfl ?_
  refine p_aloadN B7 d22_10 rfl rfl rfl ?_
  refine r_put B7 d22_11 rfl (host := "") (Or.inl (W208 B7.gw)) Via.refl (i := 3) (j := 0) rfl rfl (Or.inr ⟨(W209 B7.gw), rfl, rfl⟩) (W111 B7.gw) (ty := (.object "java/util/List")) (by decide) rfl rfl (H' := (o12 a8 (.ref x0) (.ref (emOf g)) :: (b, .inr ((.object "java/lang/Object"), "[Ljava/lang/Object;", [(.ref x0), .null, .null, .null, .null, .null, .null, .null, .null, .null])) :: oAL a (.int 1) (.ref b) (.int 1) :: oEV ev (.ref a8) :: H)) rfl fun T9 B10 => ?_
  have B11 := (((B10.fr 1 rfl).fr 2 rfl).fr 3 rfl)
  exact r_ret B11 d22_14 rfl (by decide) (by decide) (fun vm h P => ⟨a8, 0, rfl, P⟩)
abbrev D26_q36 := E26 0 0 0 0
theorem k_q36 {g : GG} (W : GW g) (x0 x1 : Addr) (H : List Ent) (Lt : List SE) : Ct g D26_q36 #[(.ref x0)] (oAL x0 (.int 2) (.ref x1) (.int 2) :: H) Lt (fun v vm h => v = some (.int 0) ∧ Hp g vm h (oAL x0 (.int 2) (.ref x1) (.int 2) :: H) (Lt)) := by
  refine CtW.body (Ls := #[.val (.ref x0)]) W (by decide +kernel) (efr rfl) ?_
  intro M T B
  refine p_aloadN B d26_0 rfl rfl rfl ?_
  refine r_get B d26_1 rfl (host := "") (Or.inl (W80 B.gw)) Via.refl (v := (.int 2)) (fO (i := 0) (j := 2) rfl rfl) fun T1 B2 => ?_
  refine b_ifT B2 d26_4 (pc' := 11) (show ¬ (2 : Int32) = (0 : Int32) from by decide) (by decide) (by decide) ?_
  refine p_iconst B2 d26_11 rfl (v := (0 : Int32)) (by decide) ?_
  exact r_reti B2 d26_12 rfl (by simp) rfl (by decide) (by decide) (fun vm h P => ⟨rfl, P⟩)
abbrev D30_q40 := E30 0 0 0 0
theorem k_q40 {g : GG} (W : GW g) (H : List Ent) (Lt : List SE) : Ct g D30_q40 #[(.int 10), (.int 2)] (H) Lt (fun v vm h => v = some (.int 2) ∧ Hp g vm h (H) (Lt)) := by
  refine CtW.body (Ls := #[.val (.int 10), .val (.int 2)]) W (Jvm.Free.JP.mathPlain rfl (by decide +kernel)) (efr rfl) ?_
  intro M T B
  refine p_iloadN B d30_0 rfl rfl ?_
  refine p_iloadN B d30_1 rfl rfl ?_
  refine b_icT B d30_2 (pc' := 9) (show (2 : Int32) < (10 : Int32) from by decide) (by decide) (by decide) ?_
  refine p_iloadN B d30_9 rfl rfl ?_
  exact r_reti B d30_10 rfl (by simp) rfl (by decide) (by decide) (fun vm h P => ⟨rfl, P⟩)
abbrev D29_q39 := E29 1 1 2 18
theorem k_q39 {g : GG} (W : GW g) (x0 x1 x2 : Addr) (H : List Ent) (Lt : List SE) (ms0 : StrIn Lt x1) (ms1 : StrIn Lt x2) : Ct g D29_q39 #[(.ref x0), (.int 2), (.ref (miOf g))] ((x0, .inr ((.object "java/lang/Object"), "[Ljava/lang/Object;", [(.ref x1), (.ref x2), .null, .null, .null, .null, .null, .null, .null, .null])) :: H) Lt (fun v vm h => ∃ a5, v = some (.ref a5) ∧ Hp g vm h ((a5, .inr ((.object "java/lang/Object"), "[Ljava/lang/Object;", [(.ref x1), (.ref x2)])) :: (x0, .inr ((.object "java/lang/Object"), "[Ljava/lang/Object;", [(.ref x1), (.ref x2), .null, .null, .null, .null, .null, .null, .null, .null])) :: H) (Lt)) := by
  refine CtW.body (Ls := #[.val (.ref x0), .val (.int 2), .val (.ref (miOf g)), .unset]) W (by decide +kernel) (efr rfl) ?_
  intro M T B
  refine p_aloadN B d29_0 rfl rfl rfl ?_
  refine r_ldcM B d29_1 rfl (W166 B.gw) (mi_ok W) fun T1 B2 => ?_
  refine b_anF B2 d29_3 (pc' := 6) rfl rfl rfl rfl ?_
  refine p_iloadN B2 d29_6 rfl rfl ?_
  refine r_newr B2 d29_7 rfl (W167 B2.gw) (W102 B2.gw) (by decide) (nn := 2) (by decide) (cap := 2) (by decide) (by decide) (cs' := 1) rfl (ss' := 2) rfl (by decide) (by decide) (ad := "[Ljava/lang/Object;") (by decide) (vs := [.null, .null]) rfl fun T3 a5 B4 => ?_
  refine b_goto B4 d29_10 (pc' := 24) (by decide) (by decide) ?_
  refine p_astoreN B4 d29_24 rfl rfl (Ls' := #[.val (.ref x0), .val (.int 2), .val (.ref (miOf g)), .val (.ref a5)]) rfl ?_
  refine p_aloadN B4 d29_25 rfl rfl rfl ?_
  refine p_iconst B4 d29_26 rfl (v := (0 : Int32)) (by decide) ?_
  refine p_aloadN B4 d29_27 rfl rfl rfl ?_
  refine p_iconst B4 d29_28 rfl (v := (0 : Int32)) (by decide) ?_
  refine p_aloadN B4 d29_29 rfl rfl rfl ?_
  refine r_alen B4 d29_30 rfl (aH (i := 1) rfl) (z := (10 : Int32)) rfl ?_
  refine p_iloadN B4 d29_31 rfl rfl ?_
  refine r_static (D' := D30_q40) B4 d29_32 rfl (W168 B4.gw) (W169 B4.gw) (W99 B4.gw) (W170 B4.gw) (by decide) (k_q40 W _ _) (argsL := [(.int 10), (.int 2)]) (rest := [(.int 0), (.ref a5), (.int 0), (.ref x0)]) rfl pd10 rfl rfl rfl (W := 4) rfl (cs' := 1) (ss' := 2) (by decide) (Kv1 fun T6 B8 => ?_)
  refine r_acopy B8 d29_35 (pc' := 38) (s0 := 0) (d0 := 0) (n0 := 2) (us := [(.ref x1), (.ref x2)]) (vd' := [(.ref x1), (.ref x2)]) rfl (W171 B8.gw) (W174 B8.gw) (W172 B8.gw) (W173 B8.gw) (aH (i := 1) rfl) (i := 0) rfl (Or.inr ⟨rfl, _, rfl, List.forall_mem_cons.2 ⟨Or.inr ⟨_, rfl, (fun vm h E P => Ins.of_exa ((sI ms0) vm h E P) (W103 B8.gw))⟩, List.forall_mem_cons.2 ⟨Or.inr ⟨_, rfl, (fun vm h E P => Ins.of_exa ((sI ms1) vm h E P) (W103 B8.gw))⟩, nofun⟩⟩⟩) (by decide) (by decide) (by decide) (by decide) (by decide) (by decide) (by simp) (by simp) rfl rfl (H' := ((a5, .inr ((.object "java/lang/Object"), "[Ljava/lang/Object;", [(.ref x1), (.ref x2)])) :: (x0, .inr ((.object "java/lang/Object"), "[Ljava/lang/Object;", [(.ref x1), (.ref x2), .null, .null, .null, .null, .null, .null, .null, .null])) :: H)) rfl rfl (W := 0) rfl (by decide) (by decide) fun T9 B10 => ?_
  refine p_aloadN B10 d29_38 rfl rfl rfl ?_
  exact r_reta B10 d29_39 rfl rfl rfl (by decide) (by decide) (fun vm h P => ⟨a5, rfl, P⟩)
abbrev D28_q38 := E28 2 1 2 33
theorem k_q38 {g : GG} (W : GW g) (x0 x1 x2 : Addr) (H : List Ent) (Lt : List SE) (ms0 : StrIn Lt x1) (ms1 : StrIn Lt x2) : Ct g D28_q38 #[(.ref x0), (.int 2)] ((x0, .inr ((.object "java/lang/Object"), "[Ljava/lang/Object;", [(.ref x1), (.ref x2), .null, .null, .null, .null, .null, .null, .null, .null])) :: H) Lt (fun v vm h => ∃ a6, v = some (.ref a6) ∧ Hp g vm h ((a6, .inr ((.object "java/lang/Object"), "[Ljava/lang/Object;", [(.ref x1), (.ref x2)])) :: (x0, .inr ((.object "java/lang/Object"), "[Ljava/lang/Object;", [(.ref x1), (.ref x2), .null, .null, .null, .null, .null, .null, .null, .null])) :: H) (Lt)) := by
  refine CtW.body (Ls := #[.val (.ref x0), .val (.int 2)]) W (by decide +kernel) (efr rfl) ?_
  intro M T B
  refine p_aloadN B d28_0 rfl rfl rfl ?_
  refine p_iloadN B d28_1 rfl rfl ?_
  refine p_aloadN B d28_2 rfl rfl rfl ?_
  refine r_getClass B d28_3 rfl (W157 B.gw) (W158 B.gw) (W160 B.gw) (W159 B.gw) (W161 B.gw) (aE (i := 0) rfl (by decide)) (mi_ok W) rfl (W := 2) rfl (by decide) (by decide) fun T1 B2 => ?_
  refine r_static (D' := D29_q39) B2 d28_6 rfl (W163 B2.gw) (W164 B2.gw) (W155 B2.gw) (W165 B2.gw) (by decide) (k_q39 W x0 x1 x2 _ _ ms0 ms1) (argsL := [(.ref x0), (.int 2), (.ref (miOf g))]) (rest := []) rfl pd17 rfl rfl rfl (W := 0) rfl (cs' := 1) (ss' := 2) (by decide) (Kex fun a6 => Kv1 fun T3 B5 => ?_)
  exact r_reta B5 d28_9 rfl rfl rfl (by decide) (by decide) (fun vm h P => ⟨a6, rfl, P⟩)
abbrev D27_q37 := E27 3 1 2 46
theorem k_q37 {g : GG} (W : GW g) (x0 x1 x2 x3 : Addr) (H : List Ent) (Lt : List SE) (ms0 : StrIn Lt x2) (ms1 : StrIn Lt x3) : Ct g D27_q37 #[(.ref x0)] (oAL x0 (.int 2) (.ref x1) (.int 2) :: (x1, .inr ((.object "java/lang/Object"), "[Ljava/lang/Object;", [(.ref x2), (.ref x3), .null, .null, .null, .null, .null, .null, .null, .null])) :: H) Lt (fun v vm h => ∃ a9, v = some (.ref a9) ∧ Hp g vm h ((a9, .inr ((.object "java/lang/Object"), "[Ljava/lang/Object;", [(.ref x2), (.ref x3)])) :: (x1, .inr ((.object "java/lang/Object"), "[Ljava/lang/Object;", [(.ref x2), (.ref x3), .null, .null, .null, .null, .null, .null, .null, .null])) :: oAL x0 (.int 2) (.ref x1) (.int 2) :: H) (Lt)) := by
  refine CtW.body (Ls := #[.val (.ref x0)]) W (by decide +kernel) (efr rfl) ?_
  intro M T B
  refine p_aloadN B d27_0 rfl rfl rfl ?_
  refine r_get B d27_1 rfl (host := "") (Or.inl (W71 B.gw)) Via.refl (v := (.ref x1)) (fO (i := 0) (j := 1) rfl rfl) fun T1 B2 => ?_
  refine p_aloadN B2 d27_4 rfl rfl rfl ?_
  refine r_get B2 d27_5 rfl (host := "") (Or.inl (W80 B2.gw)) Via.refl (v := (.int 2)) (fO (i := 0) (j := 2) rfl rfl) fun T3 B4 => ?_
  have B5 := (B4.fr 1 rfl)
  refine r_static (D' := D28_q38) B5 d27_8 rfl (W153 B5.gw) (W154 B5.gw) (W155 B5.gw) (W156 B5.gw) (by decide) (k_q38 W x1 x2 x3 _ _ ms0 ms1) (argsL := [(.ref x1), (.int 2)]) (rest := []) rfl pd18 rfl rfl rfl (W := 0) rfl (cs' := 1) (ss' := 2) (by decide) (Kex fun a9 => Kv1 fun T6 B8 => ?_)
  exact r_reta B8 d27_11 rfl rfl rfl (by decide) (by decide) (fun vm h P => ⟨a9, rfl, P⟩)
abbrev D80_q42 := E80 4 0 0 48
theorem k_q42 {g : GG} (W : GW g) (x0 x1 x2 : Addr) (H : List Ent) (Lt : List SE) (ms0 : StrIn Lt x1) (ms1 : StrIn Lt x2) : Ct g D80_q42 #[(.ref x0), (.ref x1), (.ref x2)] (o12 x0 .null .null :: H) Lt (fun v vm h => v = none ∧ Hp g vm h (o12 x0 (.ref x1) (.ref x2) :: H) (Lt)) := by
  refine CtW.body (Ls := #[.val (.ref x0), .val (.ref x1), .val (.ref x2)]) W (by decide +kernel) (efr rfl) ?_
  intro M T B
  refine p_aloadN B d80_0 rfl rfl rfl ?_
  refine r_special (D' := D33_q31) B d80_1 rfl rfl rfl (W185 B.gw) (W186 B.gw) (W189 B.gw) (W190 B.gw) (by decide) (k_q31 W x0 _ _) (a := x0) (argsL := []) (rest := []) rfl pd9 rfl rfl rfl (W := 0) rfl (cs' := 0) (ss' := 0) (by decide) (Kv0 fun T1 B3 => ?_)
  refine p_aloadN B3 d80_4 rfl rfl rfl ?_
  refine p_aloadN B3 d80_5 rfl rfl rfl ?_
  refine r_static (D' := D35_q32) B3 d80_6 rfl (W199 B3.gw) (W200 B3.gw) (W201 B3.gw) (W202 B3.gw) (by decide) (k_q32 W x1 _ _ ms0) (argsL := [(.ref x1)]) (rest := [(.ref x0)]) rfl pd19 rfl rfl rfl (W := 1) rfl (cs' := 0) (ss' := 0) (by decide) (Kv1 fun T4 B6 => ?_)
  refine r_put B6 d80_9 rfl (host := "") (Or.inl (W203 B6.gw)) Via.refl (i := 0) (j := 0) rfl rfl (Or.inr ⟨(W204 B6.gw), rfl, rfl⟩) (W179 B6.gw) (ty := (.object "java/lang/Object")) (by decide) rfl rfl (H' := (o12 x0 (.ref x1) .null :: H)) rfl fun T7 B8 => ?_
  refine p_aloadN B8 d80_12 rfl rfl rfl ?_
  refine p_aloadN B8 d80_13 rfl rfl rfl ?_
  refine r_static (D' := D35_q32) B8 d80_14 rfl (W199 B8.gw) (W200 B8.gw) (W201 B8.gw) (W202 B8.gw) (by decide) (k_q32 W x2 _ _ ms1) (argsL := [(.ref x2)]) (rest := [(.ref x0)]) rfl pd19 rfl rfl rfl (W := 1) rfl (cs' := 0) (ss' := 0) (by decide) (Kv1 fun T9 B11 => ?_)
  refine r_put B11 d80_17 rfl (host := "") (Or.inl (W206 B11.gw)) Via.refl (i := 0) (j := 1) rfl rfl (Or.inr ⟨(W207 B11.gw), rfl, rfl⟩) (W179 B11.gw) (ty := (.object "java/lang/Object")) (by decide) rfl rfl (H' := (o12 x0 (.ref x1) (.ref x2) :: H)) rfl fun T12 B13 => ?_
  exact r_ret B13 d80_20 rfl (by decide) (by decide) (fun vm h P => ⟨rfl, P⟩)
abbrev D31_q41 := E31 5 1 2 63
theorem k_q41 {g : GG} (W : GW g) (x0 x1 x2 : Addr) (H : List Ent) (Lt : List SE) (ms0 : StrIn Lt x1) (ms1 : StrIn Lt x2) : Ct g D31_q41 #[(.ref x0)] ((x0, .inr ((.object "java/lang/Object"), "[Ljava/lang/Object;", [(.ref x1), (.ref x2)])) :: H) Lt (fun v vm h => ∃ a3, v = some (.ref a3) ∧ Hp g vm h (o12 a3 (.ref x1) (.ref x2) :: (x0, .inr ((.object "java/lang/Object"), "[Ljava/lang/Object;", [(.ref x1), (.ref x2)])) :: H) (Lt)) := by
  refine CtW.body (Ls := #[.val (.ref x0), .unset]) W (by decide +kernel) (efr rfl) ?_
  intro M T B
  refine p_aloadN B d31_0 rfl rfl rfl ?_
  refine r_alen B d31_1 rfl (aH (i := 0) rfl) (z := (2 : Int32)) rfl ?_
  refine p_tswIn B d31_2 (pc' := 45) (by decide) (off := 43) (by first | rfl | decide) (by decide) (by decide) ?_
  refine r_new B d31_45 rfl (W178 B.gw) (W179 B.gw) (W180 B.gw) (Ly_o12 B.gw) (by decide) (cs' := 1) rfl (ss' := 2) rfl (by decide) (by decide) fun T1 a3 B2 => ?_
  refine p_dup B2 d31_48 rfl rfl ?_
  refine p_aloadN B2 d31_49 rfl rfl rfl ?_
  refine p_iconst B2 d31_50 rfl (v := (0 : Int32)) (by decide) ?_
  refine r_aget B2 d31_51 rfl rfl (aH (i := 1) rfl) (k := 0) (by decide) rfl ?_
  refine p_aloadN B2 d31_52 rfl rfl rfl ?_
  refine p_iconst B2 d31_53 rfl (v := (1 : Int32)) (by decide) ?_
  refine r_aget B2 d31_54 rfl rfl (aH (i := 1) rfl) (k := 1) (by decide) rfl ?_
  refine r_special (D' := D80_q42) B2 d31_55 rfl rfl rfl (W491 B2.gw) (W492 B2.gw) (W180 B2.gw) (W493 B2.gw) (by decide) (k_q42 W a3 x1 x2 _ _ ms0 ms1) (a := a3) (argsL := [(.ref x1), (.ref x2)]) (rest := [(.ref a3)]) rfl pd22 rfl rfl rfl (W := 1) rfl (cs' := 1) (ss' := 2) (by decide) (Kv0 fun T4 B6 => ?_)
  exact r_reta B6 d31_58 rfl rfl rfl (by decide) (by decide) (fun vm h P => ⟨a3, rfl, P⟩)
abbrev D25_q34 := E25 6 2 4 76
theorem k_q34 {g : GG} (W : GW g) (x0 x1 x2 x3 : Addr) (H : List Ent) (Lt : List SE) (ms0 : StrIn Lt x2) (ms1 : StrIn Lt x3) : Ct g D25_q34 #[(.ref x0)] (oAL x0 (.int 2) (.ref x1) (.int 2) :: (x1, .inr ((.object "java/lang/Object"), "[Ljava/lang/Object;", [(.ref x2), (.ref x3), .null, .null, .null, .null, .null, .null, .null, .null])) :: H) Lt (fun v vm h => ∃ a15, v = some (.ref a15) ∧ Hp g vm h (o12 a15 (.ref x2) (.ref x3) :: (x1, .inr ((.object "java/lang/Object"), "[Ljava/lang/Object;", [(.ref x2), (.ref x3), .null, .null, .null, .null, .null, .null, .null, .null])) :: oAL x0 (.int 2) (.ref x1) (.int 2) :: H) (Lt)) := by
  refine CtW.body (Ls := #[.val (.ref x0), .unset]) W (by decide +kernel) (efr rfl) ?_
  intro M T B
  refine p_aloadN B d25_0 rfl rfl rfl ?_
  refine r_inst0 B d25_1 rfl (W130 B.gw) (fun vm h E P => ins_chain ((fE (i := 0) rfl) vm h E P) (W131 B.gw) (NS.step (W131 B.gw) (NS.step (W132 B.gw) (NS.step (W133 B.gw) (ns_root (W134 B.gw) (W179 B.gw) (by decide)) (by decide)) (by decide)) (by decide)) (W179 B.gw) (by decide)) (fE (i := 0) rfl) fun T1 B2 => ?_
  refine b_ifF B2 d25_4 (pc' := 7) rfl (show (0 : Int32) = (0 : Int32) from by decide) ?_
  refine p_aloadN B2 d25_7 rfl rfl rfl ?_
  refine r_inst0 B2 d25_8 rfl (W135 B2.gw) (fun vm h E P => ins_chain ((fE (i := 0) rfl) vm h E P) (W131 B2.gw) (NS.step (W131 B2.gw) (NS.step (W132 B2.gw) (NS.step (W133 B2.gw) (ns_root (W134 B2.gw) (W471 B2.gw) (by decide)) (by decide)) (by decide)) (by decide)) (W471 B2.gw) (by decide)) (fE (i := 0) rfl) fun T3 B4 => ?_
  refine b_ifT B4 d25_11 (pc' := 31) (show (0 : Int32) = (0 : Int32) from by decide) (by decide) (by decide) ?_
  refine p_aloadN B4 d25_31 rfl rfl rfl ?_
  refine r_iface (D' := D26_q36) B4 d25_32 rfl (W136 B4.gw) (W137 B4.gw) (W138 B4.gw) (by first | rfl | decide) (W139 B4.gw) (W140 B4.gw) (W141 B4.gw) (W142 B4.gw) (W143 B4.gw) (W51 B4.gw) (W144 B4.gw) (by decide) (fE (i := 0) rfl) (k_q36 W x0 x1 _ _) (argsL := []) (rest := []) rfl pd14 rfl rfl rfl (W := 0) rfl (cs' := 0) (ss' := 0) (by decide) (Kv1 fun T5 B7 => ?_)
  refine b_ifT B7 d25_37 (pc' := 44) (show (0 : Int32) = (0 : Int32) from by decide) (by decide) (by decide) ?_
  refine p_aloadN B7 d25_44 rfl rfl rfl ?_
  refine r_iface (D' := D27_q37) B7 d25_45 rfl (W145 B7.gw) (W146 B7.gw) (W147 B7.gw) (by first | rfl | decide) (W148 B7.gw) (W149 B7.gw) (W150 B7.gw) (W151 B7.gw) (W143 B7.gw) (W51 B7.gw) (W152 B7.gw) (by decide) (fE (i := 0) rfl) (k_q37 W x0 x1 x2 x3 _ _ ms0 ms1) (argsL := []) (rest := []) rfl pd12 rfl rfl rfl (W := 0) rfl (cs' := 1) (ss' := 2) (by decide) (Kex fun a11 => Kv1 fun T8 B10 => ?_)
  refine r_static (D' := D31_q41) B10 d25_50 rfl (W175 B10.gw) (W176 B10.gw) (W124 B10.gw) (W177 B10.gw) (by decide) (k_q41 W a11 x2 x3 _ _ ms0 ms1) (argsL := [(.ref a11)]) (rest := []) rfl pd21 rfl rfl rfl (W := 0) rfl (cs' := 2) (ss' := 4) (by decide) (Kex fun a15 => Kv1 fun T12 B14 => ?_)
  have B16 := (B14.dl 1)
  exact r_reta B16 d25_53 rfl rfl rfl (by decide) (by decide) (fun vm h P => ⟨a15, rfl, P⟩)
abbrev D24_q33 := E24 7 2 4 89
theorem k_q33 {g : GG} (W : GW g) (x0 x1 x2 x3 : Addr) (H : List Ent) (Lt : List SE) (ms0 : StrIn Lt x2) (ms1 : StrIn Lt x3) : Ct g D24_q33 #[(.ref x0)] (oAL x0 (.int 2) (.ref x1) (.int 2) :: (x1, .inr ((.object "java/lang/Object"), "[Ljava/lang/Object;", [(.ref x2), (.ref x3), .null, .null, .null, .null, .null, .null, .null, .null])) :: H) Lt (fun v vm h => ∃ a4, v = some (.ref a4) ∧ Hp g vm h (o12 a4 (.ref x2) (.ref x3) :: (x1, .inr ((.object "java/lang/Object"), "[Ljava/lang/Object;", [(.ref x2), (.ref x3), .null, .null, .null, .null, .null, .null, .null, .null])) :: oAL x0 (.int 2) (.ref x1) (.int 2) :: H) (Lt)) := by
  refine CtW.body (Ls := #[.val (.ref x0)]) W (by decide +kernel) (efr rfl) ?_
  intro M T B
  refine p_aloadN B d24_0 rfl rfl rfl ?_
  refine r_static (D' := D25_q34) B d24_1 rfl (W126 B.gw) (W127 B.gw) (W128 B.gw) (W129 B.gw) (by decide) (k_q34 W x0 x1 x2 x3 _ _ ms0 ms1) (argsL := [(.ref x0)]) (rest := []) rfl pd16 rfl rfl rfl (W := 0) rfl (cs' := 2) (ss' := 4) (by decide) (Kex fun a4 => Kv1 fun T1 B3 => ?_)
  exact r_reta B3 d24_4 rfl rfl rfl (by decide) (by decide) (fun vm h P => ⟨a4, rfl, P⟩)
theorem c_ei2 {g : GG} (W : GW g) (ev a b x0 x1 : Addr) (H : List Ent) (Lt : List SE) (ms0 : StrIn Lt x0) (ms1 : StrIn Lt x1) : Ct g D22_w #[(.ref ev), (.ref a)] (oEV ev .null :: (AL g a b [x0, x1] ++ H)) Lt (fun v vm h => ∃ c d, v = none ∧ Hp g vm h (oEV ev (.ref (ilA g c [x0, x1])) :: (AL g a b [x0, x1] ++ (IL g c d [x0, x1] ++ H))) Lt) := by
  refine CtW.body (Ls := #[.val (.ref ev), .val (.ref a)]) W (by decide +kernel) (efr rfl) ?_
  intro M T B
  replace B : RH g D22_w M T (oEV ev .null :: oAL a (.int 2) (.ref b) (.int 2) :: (b, .inr ((.object "java/lang/Object"), "[Ljava/lang/Object;", [(.ref x0), (.ref x1), .null, .null, .null, .null, .null, .null, .null, .null])) :: H) Lt 0 0 := B
  refine p_aloadN B d22_0 rfl rfl rfl ?_
  refine r_special (D' := D23_q12) B d22_1 rfl rfl rfl (W116 B.gw) (W117 B.gw) (W119 B.gw) (W120 B.gw) (by decide) (k_q12 W ev _ _) (a := ev) (argsL := []) (rest := []) rfl pd9 rfl rfl rfl (W := 0) rfl (cs' := 0) (ss' := 0) (by decide) (Kv0 fun T1 B3 => ?_)
  refine p_aloadN B3 d22_4 rfl rfl rfl ?_
  have B4 := ((B3.fr 2 rfl).fr 2 rfl)
  refine r_static (D' := D24_q33) B4 d22_5 rfl (W122 B4.gw) (W123 B4.gw) (W124 B4.gw) (W125 B4.gw) (by decide) (k_q33 W a b x0 x1 _ _ ms0 ms1) (argsL := [(.ref a)]) (rest := []) rfl pd16 rfl rfl rfl (W := 0) rfl (cs' := 2) (ss' := 4) (by decide) (Kex fun a8 => Kv1 fun T5 B7 => ?_)
  refine p_astoreN B7 d22_8 rfl rfl (Ls' := #[.val (.ref ev), .val (.ref a8)]) rfl ?_
  refine p_aloadN B7 d22_9 rfl rfl rfl ?_
  refine p_aloadN B7 d22_10 rfl rfl rfl ?_
  refine r_put B7 d22_11 rfl (host := "") (Or.inl (W208 B7.gw)) Via.refl (i := 3) (j := 0) rfl rfl (Or.inr ⟨(W209 B7.gw), rfl, rfl⟩) (W111 B7.gw) (ty := (.object "java/util/List")) (by decide) rfl rfl (H' := (o12 a8 (.ref x0) (.ref x1) :: (b, .inr ((.object "java/lang/Object"), "[Ljava/lang/Object;", [(.ref x0), (.ref x1), .null, .null, .null, .null, .null, .null, .null, .null])) :: oAL a (.int 2) (.ref b) (.int 2) :: oEV ev (.ref a8) :: H)) rfl fun T9 B10 => ?_
  have B11 := (((B10.fr 1 rfl).fr 2 rfl).fr 3 rfl)
  exact r_ret B11 d22_14 rfl (by decide) (by decide) (fun vm h P => ⟨a8, 0, rfl, P⟩)
abbrev D26_q46 := E26 0 0 0 0
theorem k_q46 {g : GG} (W : GW g) (x0 x1 : Addr) (H : List Ent) (Lt : List SE) : Ct g D26_q46 #[(.ref x0)] (oAL x0 (.int 3) (.ref x1) (.int 3) :: H) Lt (fun v vm h => v = some (.int 0) ∧ Hp g vm h (oAL x0 (.int 3) (.ref x1) (.int 3) :: H) (Lt)) := by
  refine CtW.body (Ls := #[.val (.ref x0)]) W (by decide +kernel) (efr rfl) ?_
  intro M T B
  refine p_aloadN B d26_0 rfl rfl rfl ?_
  refine r_get B d26_1 rfl (host := "") (Or.inl (W80 B.gw)) Via.refl (v := (.int 3)) (fO (i := 0) (j := 2) rfl rfl) fun T1 B2 => ?_
  refine b_ifT B2 d26_4 (pc' := 11) (show ¬ (3 : Int32) = (0 : Int32) from by decide) (by decide) (by decide) ?_
  refine p_iconst B2 d26_11 rfl (v := (0 : Int32)) (by decide) ?_
  exact r_reti B2 d26_12 rfl (by simp) rfl (by decide) (by decide) (fun vm h P => ⟨rfl, P⟩)
abbrev D30_q50 := E30 0 0 0 0
theorem k_q50 {g : GG} (W : GW g) (H : List Ent) (Lt : List SE) : Ct g D30_q50 #[(.int 10), (.int 3)] (H) Lt (fun v vm h => v = some (.int 3) ∧ Hp g vm h (H) (Lt)) := by
  refine CtW.body (Ls := #[.val (.int 10), .val (.int 3)]) W (Jvm.Free.JP.mathPlain rfl (by decide +kernel)) (efr rfl) ?_
  intro M T B
  refine p_iloadN B d30_0 rfl rfl ?_
  refine p_iloadN B d30_1 rfl rfl ?_
  refine b_icT B d30_2 (pc' := 9) (show (3 : Int32) < (10 : Int32) from by decide) (by decide) (by decide) ?_
  refine p_iloadN B d30_9 rfl rfl ?_
  exact r_reti B d30_10 rfl (by simp) rfl (by decide) (by decide) (fun vm h P => ⟨rfl, P⟩)
abbrev D29_q49 := E29 1 1 3 18
theorem k_q49 {g : GG} (W : GW g) (x0 x1 x2 x3 : Addr) (H : List Ent) (Lt : List SE) (ms0 : StrIn Lt x1) (ms1 : StrIn Lt x2) (ms2 : StrIn Lt x3) : Ct g D29_q49 #[(.ref x0), (.int 3), (.ref (miOf g))] ((x0, .inr ((.object "java/lang/Object"), "[Ljava/lang/Object;", [(.ref x1), (.ref x2), (.ref x3), .null, .null, .null, .null, .null, .null, .null])) :: H) Lt (fun v vm h => ∃ a5, v = some (.ref a5) ∧ Hp g vm h ((a5, .inr ((.object "java/lang/Object"), "[Ljava/lang/Object;", [(.ref x1), (.ref x2), (.ref x3)])) :: (x0, .inr ((.object "java/lang/Object"), "[Ljava/lang/Object;", [(.ref x1), (.ref x2), (.ref x3), .null, .null, .null, .null, .null, .null, .null])) :: H) (Lt)) := by
  refine CtW.body (Ls := #[.val (.ref x0), .val (.int 3), .val (.ref (miOf g)), .unset]) W (by decide +kernel) (efr rfl) ?_
  intro M T B
  refine p_aloadN B d29_0 rfl rfl rfl ?_
  refine r_ldcM B d29_1 rfl (W166 B.gw) (mi_ok W) fun T1 B2 => ?_
  refine b_anF B2 d29_3 (pc' := 6) rfl rfl rfl rfl ?_
  refine p_iloadN B2 d29_6 rfl rfl ?_
  refine r_newr B2 d29_7 rfl (W167 B2.gw) (W102 B2.gw) (by decide) (nn := 3) (by decide) (cap := 3) (by decide) (by decide) (cs' := 1) rfl (ss' := 3) rfl (by decide) (by decide) (ad := "[Ljava/lang/Object;") (by decide) (vs := [.null, .null, .null]) rfl fun T3 a5 B4 => ?_
  refine b_goto B4 d29_10 (pc' := 24) (by decide) (by decide) ?_
  refine p_astoreN B4 d29_24 rfl rfl (Ls' := #[.val (.ref x0), .val (.int 3), .val (.ref (miOf g)), .val (.ref a5)]) rfl ?_
  refine p_aloadN B4 d29_25 rfl rfl rfl ?_
  refine p_iconst B4 d29_26 rfl (v := (0 : Int32)) (by decide) ?_
  refine p_aloadN B4 d29_27 rfl rfl rfl ?_
  refine p_iconst B4 d29_28 rfl (v := (0 : Int32)) (by decide) ?_
  refine p_aloadN B4 d29_29 rfl rfl rfl ?_
  refine r_alen B4 d29_30 rfl (aH (i := 1) rfl) (z := (10 : Int32)) rfl ?_
  refine p_iloadN B4 d29_31 rfl rfl ?_
  refine r_static (D' := D30_q50) B4 d29_32 rfl (W168 B4.gw) (W169 B4.gw) (W99 B4.gw) (W170 B4.gw) (by decide) (k_q50 W _ _) (argsL := [(.int 10), (.int 3)]) (rest := [(.int 0), (.ref a5), (.int 0), (.ref x0)]) rfl pd10 rfl rfl rfl (W := 4) rfl (cs' := 1) (ss' := 3) (by decide) (Kv1 fun T6 B8 => ?_)
  refine r_acopy B8 d29_35 (pc' := 38) (s0 := 0) (d0 := 0) (n0 := 3) (us := [(.ref x1), (.ref x2), (.ref x3)]) (vd' := [(.ref x1), (.ref x2), (.ref x3)]) rfl (W171 B8.gw) (W174 B8.gw) (W172 B8.gw) (W173 B8.gw) (aH (i := 1) rfl) (i := 0) rfl (Or.inr ⟨rfl, _, rfl, List.forall_mem_cons.2 ⟨Or.inr ⟨_, rfl, (fun vm h E P => Ins.of_exa ((sI ms0) vm h E P) (W103 B8.gw))⟩, List.forall_mem_cons.2 ⟨Or.inr ⟨_, rfl, (fun vm h E P => Ins.of_exa ((sI ms1) vm h E P) (W103 B8.gw))⟩, List.forall_mem_cons.2 ⟨Or.inr ⟨_, rfl, (fun vm h E P => Ins.of_exa ((sI ms2) vm h E P) (W103 B8.gw))⟩, nofun⟩⟩⟩⟩) (by decide) (by decide) (by decide) (by decide) (by decide) (by decide) (by simp) (by simp) rfl rfl (H' := ((a5, .inr ((.object "java/lang/Object"), "[Ljava/lang/Object;", [(.ref x1), (.ref x2), (.ref x3)])) :: (x0, .inr ((.object "java/lang/Object"), "[Ljava/lang/Object;", [(.ref x1), (.ref x2), (.ref x3), .null, .null, .null, .null, .null, .null, .null])) :: H)) rfl rfl (W := 0) rfl (by decide) (by decide) fun T9 B10 => ?_
  refine p_aloadN B10 d29_38 rfl rfl rfl ?_
  exact r_reta B10 d29_39 rfl rfl rfl (by decide) (by decide) (fun vm h P => ⟨a5, rfl, P⟩)
abbrev D28_q48 := E28 2 1 3 33
theorem k_q48 {g : GG} (W : GW g) (x0 x1 x2 x3 : Addr) (H : List Ent) (Lt : List SE) (ms0 : StrIn Lt x1) (ms1 : StrIn Lt x2) (ms2 : StrIn Lt x3) : Ct g D28_q48 #[(.ref x0), (.int 3)] ((x0, .inr ((.object "java/lang/Object"), "[Ljava/lang/Object;", [(.ref x1), (.ref x2), (.ref x3), .null, .null, .null, .null, .null, .null, .null])) :: H) Lt (fun v vm h => ∃ a6, v = some (.ref a6) ∧ Hp g vm h ((a6, .inr ((.object "java/lang/Object"), "[Ljava/lang/Object;", [(.ref x1), (.ref x2), (.ref x3)])) :: (x0, .inr ((.object "java/lang/Object"), "[Ljava/lang/Object;", [(.ref x1), (.ref x2), (.ref x3), .null, .null, .null, .null, .null, .null, .null])) :: H) (Lt)) := by
  refine CtW.body (Ls := #[.val (.ref x0), .val (.int 3)]) W (by decide +kernel) (efr rfl) ?_
  intro M T B
  refine p_aloadN B d28_0 rfl rfl rfl ?_
  refine p_iloadN B d28_1 rfl rfl ?_
  refine p_aloadN B d28_2 rfl rfl rfl ?_
  refine r_getClass B d28_3 rfl (W157 B.gw) (W158 B.gw) (W160 B.gw) (W159 B.gw) (W161 B.gw) (aE (i := 0) rfl (by decide)) (mi_ok W) rfl (W := 2) rfl (by decide) (by decide) fun T1 B2 => ?_
  refine r_static (D' := D29_q49) B2 d28_6 rfl (W163 B2.gw) (W164 B2.gw) (W155 B2.gw) (W165 B2.gw) (by decide) (k_q49 W x0 x1 x2 x3 _ _ ms0 ms1 ms2) (argsL := [(.ref x0), (.int 3), (.ref (miOf g))]) (rest := []) rfl pd17 rfl rfl rfl (W := 0) rfl (cs' := 1) (ss' := 3) (by decide) (Kex fun a6 => Kv1 fun T3 B5 => ?_)
  exact r_reta B5 d28_9 rfl rfl rfl (by decide) (by decide) (fun vm h P => ⟨a6, rfl, P⟩)
abbrev D27_q47 := E27 3 1 3 46
theorem k_q47 {g : GG} (W : GW g) (x0 x1 x2 x3 x4 : Addr) (H : List Ent) (Lt : List SE) (ms0 : StrIn Lt x2) (ms1 : StrIn Lt x3) (ms2 : StrIn Lt x4) : Ct g D27_q47 #[(.ref x0)] (oAL x0 (.int 3) (.ref x1) (.int 3) :: (x1, .inr ((.object "java/lang/Object"), "[Ljava/lang/Object;", [(.ref x2), (.ref x3), (.ref x4), .null, .null, .null, .null, .null, .null, .null])) :: H) Lt (fun v vm h => ∃ a9, v = some (.ref a9) ∧ Hp g vm h ((a9, .inr ((.object "java/lang/Object"), "[Ljava/lang/Object;", [(.ref x2), (.ref x3), (.ref x4)])) :: (x1, .inr ((.object "java/lang/Object"), "[Ljava/lang/Object;", [(.ref x2), (.ref x3), (.ref x4), .null, .null, .null, .null, .null, .null, .null])) :: oAL x0 (.int 3) (.ref x1) (.int 3) :: H) (Lt)) := by
  refine CtW.body (Ls := #[.val (.ref x0)]) W (by decide +kernel) (efr rfl) ?_
  intro M T B
  refine p_aloadN B d27_0 rfl rfl rfl ?_
  refine r_get B d27_1 rfl (host := "") (Or.inl (W71 B.gw)) Via.refl (v := (.ref x1)) (fO (i := 0) (j := 1) rfl rfl) fun T1 B2 => ?_
  refine p_aloadN B2 d27_4 rfl rfl rfl ?_
  refine r_get B2 d27_5 rfl (host := "") (Or.inl (W80 B2.gw)) Via.refl (v := (.int 3)) (fO (i := 0) (j := 2) rfl rfl) fun T3 B4 => ?_
  have B5 := (B4.fr 1 rfl)
  refine r_static (D' := D28_q48) B5 d27_8 rfl (W153 B5.gw) (W154 B5.gw) (W155 B5.gw) (W156 B5.gw) (by decide) (k_q48 W x1 x2 x3 x4 _ _ ms0 ms1 ms2) (argsL := [(.ref x1), (.int 3)]) (rest := []) rfl pd18 rfl rfl rfl (W := 0) rfl (cs' := 1) (ss' := 3) (by decide) (Kex fun a9 => Kv1 fun T6 B8 => ?_)
  exact r_reta B8 d27_11 rfl rfl rfl (by decide) (by decide) (fun vm h P => ⟨a9, rfl, P⟩)
abbrev D77_q57 := E77 4 0 0 48
theorem k_q57 {g : GG} (W : GW g) (x0 x1 : Addr) (H : List Ent) (Lt : List SE) : Ct g D77_q57 #[(.ref x0), (.ref x1), (.int 0)] (oLN x0 .null (.int 0) :: H) Lt (fun v vm h => v = none ∧ Hp g vm h (oLN x0 (.ref x1) (.int 0) :: H) (Lt)) := by
  refine CtW.body (Ls := #[.val (.ref x0), .val (.ref x1), .val (.int 0)]) W (by decide +kernel) (efr rfl) ?_
  intro M T B
  refine p_aloadN B d77_0 rfl rfl rfl ?_
  refine r_special (D' := D33_q31) B d77_1 rfl rfl rfl (W476 B.gw) (W186 B.gw) (W189 B.gw) (W190 B.gw) (by decide) (k_q31 W x0 _ _) (a := x0) (argsL := []) (rest := []) rfl pd9 rfl rfl rfl (W := 0) rfl (cs' := 0) (ss' := 0) (by decide) (Kv0 fun T1 B3 => ?_)
  refine p_aloadN B3 d77_4 rfl rfl rfl ?_
  refine p_aloadN B3 d77_5 rfl rfl rfl ?_
  refine r_put B3 d77_6 rfl (host := "") (Or.inl (W448 B3.gw)) Via.refl (i := 0) (j := 0) rfl rfl (Or.inr ⟨(W449 B3.gw), rfl, rfl⟩) (W471 B3.gw) (ty := (.array (.object "java/lang/Object"))) (by decide) rfl rfl (H' := (oLN x0 (.ref x1) (.int 0) :: H)) rfl fun T4 B5 => ?_
  refine p_aloadN B5 d77_9 rfl rfl rfl ?_
  refine p_iloadN B5 d77_10 rfl rfl ?_
  refine r_put B5 d77_11 rfl (host := "") (Or.inl (W480 B5.gw)) Via.refl (i := 0) (j := 1) rfl rfl (Or.inr ⟨(W481 B5.gw), rfl, rfl⟩) (W471 B5.gw) (ty := .boolean) (by decide) (by decide) (by decide) (H' := (oLN x0 (.ref x1) (.int 0) :: H)) rfl fun T6 B7 => ?_
  exact r_ret B7 d77_14 rfl (by decide) (by decide) (fun vm h P => ⟨rfl, P⟩)
abbrev D76_q52 := E76 5 2 5 63
theorem k_q52 {g : GG} (W : GW g) (x0 x1 x2 x3 : Addr) (H : List Ent) (Lt : List SE) (ms0 : StrIn Lt x1) (ms1 : StrIn Lt x2) (ms2 : StrIn Lt x3) : Ct g D76_q52 #[(.ref x0)] ((x0, .inr ((.object "java/lang/Object"), "[Ljava/lang/Object;", [(.ref x1), (.ref x2), (.ref x3)])) :: H) Lt (fun v vm h => ∃ a21 a3, v = some (.ref a21) ∧ Hp g vm h (oLN a21 (.ref a3) (.int 0) :: (a3, .inr ((.object "java/lang/Object"), "[Ljava/lang/Object;", [(.ref x1), (.ref x2), (.ref x3)])) :: (x0, .inr ((.object "java/lang/Object"), "[Ljava/lang/Object;", [(.ref x1), (.ref x2), (.ref x3)])) :: H) (Lt)) := by
  refine CtW.body (Ls := #[.val (.ref x0), .unset, .unset]) W (by decide +kernel) (efr rfl) ?_
  intro M T B
  refine p_aloadN B d76_0 rfl rfl rfl ?_
  refine r_alen B d76_1 rfl (aH (i := 0) rfl) (z := (3 : Int32)) rfl ?_
  refine r_newr B d76_2 rfl (W469 B.gw) (W102 B.gw) (by decide) (nn := 3) (by decide) (cap := 3) (by decide) (by decide) (cs' := 1) rfl (ss' := 3) rfl (by decide) (by decide) (ad := "[Ljava/lang/Object;") (by decide) (vs := [.null, .null, .null]) rfl fun T1 a3 B2 => ?_
  refine p_astoreN B2 d76_5 rfl rfl (Ls' := #[.val (.ref x0), .val (.ref a3), .unset]) rfl ?_
  refine p_iconst B2 d76_6 rfl (v := (0 : Int32)) (by decide) ?_
  refine p_istoreN B2 d76_7 rfl (Ls' := #[.val (.ref x0), .val (.ref a3), .val (.int 0)]) rfl ?_
  refine p_iloadN B2 d76_8 rfl rfl ?_
  refine p_aloadN B2 d76_9 rfl rfl rfl ?_
  refine r_alen B2 d76_10 rfl (aH (i := 1) rfl) (z := (3 : Int32)) rfl ?_
  refine b_icF B2 d76_11 (pc' := 14) rfl (show (0 : Int32) < (3 : Int32) from by decide) ?_
  refine p_aloadN B2 d76_14 rfl rfl rfl ?_
  refine p_iloadN B2 d76_15 rfl rfl ?_
  refine p_aloadN B2 d76_16 rfl rfl rfl ?_
  refine p_iloadN B2 d76_17 rfl rfl ?_
  refine r_aget B2 d76_18 rfl rfl (aH (i := 1) rfl) (k := 0) (by decide) rfl ?_
  refine r_static (D' := D35_q32) B2 d76_19 rfl (W470 B2.gw) (W200 B2.gw) (W201 B2.gw) (W202 B2.gw) (by decide) (k_q32 W x1 _ _ ms0) (argsL := [(.ref x1)]) (rest := [(.int 0), (.ref a3)]) rfl pd19 rfl rfl rfl (W := 2) rfl (cs' := 1) (ss' := 3) (by decide) (Kv1 fun T4 B6 => ?_)
  refine r_aastore B6 d76_22 rfl (i := 0) rfl (by decide) (k := 0) (by decide) (by simp) (Or.inr ⟨_, rfl, (fun vm h E P => Ins.of_exa ((sI ms0) vm h E P) (W103 B6.gw))⟩) (H' := ((a3, .inr ((.object "java/lang/Object"), "[Ljava/lang/Object;", [(.ref x1), .null, .null])) :: (x0, .inr ((.object "java/lang/Object"), "[Ljava/lang/Object;", [(.ref x1), (.ref x2), (.ref x3)])) :: H)) rfl fun T7 B8 => ?_
  refine p_iinc B8 d76_23 rfl (v := (1 : Int32)) (by decide) rfl (z := (1 : Int32)) (by decide) (Ls' := #[.val (.ref x0), .val (.ref a3), .val (.int 1)]) rfl ?_
  refine b_goto B8 d76_26 (pc' := 8) (by decide) (by decide) ?_
  refine p_iloadN B8 d76_8 rfl rfl ?_
  refine p_aloadN B8 d76_9 rfl rfl rfl ?_
  refine r_alen B8 d76_10 rfl (aH (i := 1) rfl) (z := (3 : Int32)) rfl ?_
  refine b_icF B8 d76_11 (pc' := 14) rfl (show (1 : Int32) < (3 : Int32) from by decide) ?_
  refine p_aloadN B8 d76_14 rfl rfl rfl ?_
  refine p_iloadN B8 d76_15 rfl rfl ?_
  refine p_aloadN B8 d76_16 rfl rfl rfl ?_
  refine p_iloadN B8 d76_17 rfl rfl ?_
  refine r_aget B8 d76_18 rfl rfl (aH (i := 1) rfl) (k := 1) (by decide) rfl ?_
  refine r_static (D' := D35_q32) B8 d76_19 rfl (W470 B8.gw) (W200 B8.gw) (W201 B8.gw) (W202 B8.gw) (by decide) (k_q32 W x2 _ _ ms1) (argsL := [(.ref x2)]) (rest := [(.int 1), (.ref a3)]) rfl pd19 rfl rfl rfl (W := 2) rfl (cs' := 1) (ss' := 3) (by decide) (Kv1 fun T9 B11 => ?_)
  refine r_aastore B11 d76_22 rfl (i := 0) rfl (by decide) (k := 1) (by decide) (by simp) (Or.inr ⟨_, rfl, (fun vm h E P => Ins.of_exa ((sI ms1) vm h E P) (W103 B11.gw))⟩) (H' := ((a3, .inr ((.object "java/lang/Object"), "[Ljava/lang/Object;", [(.ref x1), (.ref x2), .null])) :: (x0, .inr ((.object "java/lang/Object"), "[Ljava/lang/Object;", [(.ref x1), (.ref x2), (.ref x3)])) :: H)) rfl fun T12 B13 => ?_
  refine p_iinc B13 d76_23 rfl (v := (1 : Int32)) (by decide) rfl (z := (2 : Int32)) (by decide) (Ls' := #[.val (.ref x0), .val (.ref a3), .val (.int 2)]) rfl ?_
  refine b_goto B13 d76_26 (pc' := 8) (by decide) (by decide) ?_
  refine p_iloadN B13 d76_8 rfl rfl ?_
  refine p_aloadN B13 d76_9 rfl rfl rfl ?_
  refine r_alen B13 d76_10 rfl (aH (i := 1) rfl) (z := (3 : Int32)) rfl ?_
  refine b_icF B13 d76_11 (pc' := 14) rfl (show (2 : Int32) < (3 : Int32) from by decide) ?_
  refine p_aloadN B13 d76_14 rfl rfl rfl ?_
  refine p_iloadN B13 d76_15 rfl rfl ?_
  refine p_aloadN B13 d76_16 rfl rfl rfl ?_
  refine p_iloadN B13 d76_17 rfl rfl ?_
  refine r_aget B13 d76_18 rfl rfl (aH (i := 1) rfl) (k := 2) (by decide) rfl ?_
  refine r_static (D' := D35_q32) B13 d76_19 rfl (W470 B13.gw) (W200 B13.gw) (W201 B13.gw) (W202 B13.gw) (by decide) (k_q32 W x3 _ _ ms2) (argsL := [(.ref x3)]) (rest := [(.int 2), (.ref a3)]) rfl pd19 rfl rfl rfl (W := 2) rfl (cs' := 1) (ss' := 3) (by decide) (Kv1 fun T14 B16 => ?_)
  refine r_aastore B16 d76_22 rfl (i := 0) rfl (by decide) (k := 2) (by decide) (by simp) (Or.inr ⟨_, rfl, (fun vm h E P => Ins.of_exa ((sI ms2) vm h E P) (W103 B16.gw))⟩) (H' := ((a3, .inr ((.object "java/lang/Object"), "[Ljava/lang/Object;", [(.ref x1), (.ref x2), (.ref x3)])) :: (x0, .inr ((.object "java/lang/Object"), "[Ljava/lang/Object;", [(.ref x1), (.ref x2), (.ref x3)])) :: H)) rfl fun T17 B18 => ?_
  refine p_iinc B18 d76_23 rfl (v := (1 : Int32)) (by decide) rfl (z := (3 : Int32)) (by decide) (Ls' := #[.val (.ref x0), .val (.ref a3), .val (.int 3)]) rfl ?_
  refine b_goto B18 d76_26 (pc' := 8) (by decide) (by decide) ?_
  refine p_iloadN B18 d76_8 rfl rfl ?_
  refine p_aloadN B18 d76_9 rfl rfl rfl ?_
  refine r_alen B18 d76_10 rfl (aH (i := 1) rfl) (z := (3 : Int32)) rfl ?_
  refine b_icT B18 d76_11 (pc' := 29) (show ¬ (3 : Int32) < (3 : Int32) from by decide) (by decide) (by decide) ?_
  refine r_new B18 d76_29 rfl (W135 B18.gw) (W471 B18.gw) (W446 B18.gw) (Ly_oLN B18.gw) (by decide) (cs' := 2) rfl (ss' := 5) rfl (by decide) (by decide) fun T19 a21 B20 => ?_
  refine p_dup B20 d76_32 rfl rfl ?_
  refine p_aloadN B20 d76_33 rfl rfl rfl ?_
  refine p_iconst B20 d76_34 rfl (v := (0 : Int32)) (by decide) ?_
  refine r_specialN (D' := D77_q57) B20 d76_35 rfl rfl rfl (W472 B20.gw) (W473 B20.gw) (W446 B20.gw) (W475 B20.gw) (by decide) (k_q57 W a21 a3 _ _) (a := a21) (argsL := [(.ref a3), (.int 0)]) (rest := [(.ref a21)]) rfl pd23 rfl rfl rfl (W := 1) rfl (cs' := 2) (ss' := 5) (by decide) (Kv0 fun T22 B24 => ?_)
  exact r_reta B24 d76_38 rfl rfl rfl (by decide) (by decide) (fun vm h P => ⟨a21, a3, rfl, P⟩)
abbrev D31_q51 := E31 6 2 5 77
theorem k_q51 {g : GG} (W : GW g) (x0 x1 x2 x3 : Addr) (H : List Ent) (Lt : List SE) (ms0 : StrIn Lt x1) (ms1 : StrIn Lt x2) (ms2 : StrIn Lt x3) : Ct g D31_q51 #[(.ref x0)] ((x0, .inr ((.object "java/lang/Object"), "[Ljava/lang/Object;", [(.ref x1), (.ref x2), (.ref x3)])) :: H) Lt (fun v vm h => ∃ a4 a5, v = some (.ref a4) ∧ Hp g vm h (oLN a4 (.ref a5) (.int 0) :: (a5, .inr ((.object "java/lang/Object"), "[Ljava/lang/Object;", [(.ref x1), (.ref x2), (.ref x3)])) :: (x0, .inr ((.object "java/lang/Object"), "[Ljava/lang/Object;", [(.ref x1), (.ref x2), (.ref x3)])) :: H) (Lt)) := by
  refine CtW.body (Ls := #[.val (.ref x0), .unset]) W (by decide +kernel) (efr rfl) ?_
  intro M T B
  refine p_aloadN B d31_0 rfl rfl rfl ?_
  refine r_alen B d31_1 rfl (aH (i := 0) rfl) (z := (3 : Int32)) rfl ?_
  refine p_tswOut B d31_2 (pc' := 59) (by decide) (by decide) (by decide) ?_
  refine p_aloadN B d31_59 rfl rfl rfl ?_
  refine r_static (D' := D76_q52) B d31_60 rfl (W466 B.gw) (W467 B.gw) (W128 B.gw) (W468 B.gw) (by decide) (k_q52 W x0 x1 x2 x3 _ _ ms0 ms1 ms2) (argsL := [(.ref x0)]) (rest := []) rfl pd21 rfl rfl rfl (W := 0) rfl (cs' := 2) (ss' := 5) (by decide) (Kex fun a4 => Kex fun a5 => Kv1 fun T1 B3 => ?_)
  exact r_reta B3 d31_63 rfl rfl rfl (by decide) (by decide) (fun vm h P => ⟨a4, a5, rfl, P⟩)
abbrev D25_q44 := E25 7 3 8 90
theorem k_q44 {g : GG} (W : GW g) (x0 x1 x2 x3 x4 : Addr) (H : List Ent) (Lt : List SE) (ms0 : StrIn Lt x2) (ms1 : StrIn Lt x3) (ms2 : StrIn Lt x4) : Ct g D25_q44 #[(.ref x0)] (oAL x0 (.int 3) (.ref x1) (.int 3) :: (x1, .inr ((.object "java/lang/Object"), "[Ljava/lang/Object;", [(.ref x2), (.ref x3), (.ref x4), .null, .null, .null, .null, .null, .null, .null])) :: H) Lt (fun v vm h => ∃ a15 a16, v = some (.ref a15) ∧ Hp g vm h (oLN a15 (.ref a16) (.int 0) :: (a16, .inr ((.object "java/lang/Object"), "[Ljava/lang/Object;", [(.ref x2), (.ref x3), (.ref x4)])) :: (x1, .inr ((.object "java/lang/Object"), "[Ljava/lang/Object;", [(.ref x2), (.ref x3), (.ref x4), .null, .null, .null, .null, .null, .null, .null])) :: oAL x0 (.int 3) (.ref x1) (.int 3) :: H) (Lt)) := by
  refine CtW.body (Ls := #[.val (.ref x0), .unset]) W (by decide +kernel) (efr rfl) ?_
  intro M T B
  refine p_aloadN B d25_0 rfl rfl rfl ?_
  refine r_inst0 B d25_1 rfl (W130 B.gw) (fun vm h E P => ins_chain ((fE (i := 0) rfl) vm h E P) (W131 B.gw) (NS.step (W131 B.gw) (NS.step (W132 B.gw) (NS.step (W133 B.gw) (ns_root (W134 B.gw) (W179 B.gw) (by decide)) (by decide)) (by decide)) (by decide)) (W179 B.gw) (by decide)) (fE (i := 0) rfl) fun T1 B2 => ?_
  refine b_ifF B2 d25_4 (pc' := 7) rfl (show (0 : Int32) = (0 : Int32) from by decide) ?_
  refine p_aloadN B2 d25_7 rfl rfl rfl ?_
  refine r_inst0 B2 d25_8 rfl (W135 B2.gw) (fun vm h E P => ins_chain ((fE (i := 0) rfl) vm h E P) (W131 B2.gw) (NS.step (W131 B2.gw) (NS.step (W132 B2.gw) (NS.step (W133 B2.gw) (ns_root (W134 B2.gw) (W471 B2.gw) (by decide)) (by decide)) (by decide)) (by decide)) (W471 B2.gw) (by decide)) (fE (i := 0) rfl) fun T3 B4 => ?_
  refine b_ifT B4 d25_11 (pc' := 31) (show (0 : Int32) = (0 : Int32) from by decide) (by decide) (by decide) ?_
  refine p_aloadN B4 d25_31 rfl rfl rfl ?_
  refine r_iface (D' := D26_q46) B4 d25_32 rfl (W136 B4.gw) (W137 B4.gw) (W138 B4.gw) (by first | rfl | decide) (W139 B4.gw) (W140 B4.gw) (W141 B4.gw) (W142 B4.gw) (W143 B4.gw) (W51 B4.gw) (W144 B4.gw) (by decide) (fE (i := 0) rfl) (k_q46 W x0 x1 _ _) (argsL := []) (rest := []) rfl pd14 rfl rfl rfl (W := 0) rfl (cs' := 0) (ss' := 0) (by decide) (Kv1 fun T5 B7 => ?_)
  refine b_ifT B7 d25_37 (pc' := 44) (show (0 : Int32) = (0 : Int32) from by decide) (by decide) (by decide) ?_
  refine p_aloadN B7 d25_44 rfl rfl rfl ?_
  refine r_iface (D' := D27_q47) B7 d25_45 rfl (W145 B7.gw) (W146 B7.gw) (W147 B7.gw) (by first | rfl | decide) (W148 B7.gw) (W149 B7.gw) (W150 B7.gw) (W151 B7.gw) (W143 B7.gw) (W51 B7.gw) (W152 B7.gw) (by decide) (fE (i := 0) rfl) (k_q47 W x0 x1 x2 x3 x4 _ _ ms0 ms1 ms2) (argsL := []) (rest := []) rfl pd12 rfl rfl rfl (W := 0) rfl (cs' := 1) (ss' := 3) (by decide) (Kex fun a11 => Kv1 fun T8 B10 => ?_)
  refine r_static (D' := D31_q51) B10 d25_50 rfl (W175 B10.gw) (W176 B10.gw) (W124 B10.gw) (W177 B10.gw) (by decide) (k_q51 W a11 x2 x3 x4 _ _ ms0 ms1 ms2) (argsL := [(.ref a11)]) (rest := []) rfl pd21 rfl rfl rfl (W := 0) rfl (cs' := 3) (ss' := 8) (by decide) (Kex fun a15 => Kex fun a16 => Kv1 fun T12 B14 => ?_)
  have B17 := (B14.dl 2)
  exact r_reta B17 d25_53 rfl rfl rfl (by decide) (by decide) (fun vm h P => ⟨a15, a16, rfl, P⟩)
abbrev D24_q43 := E24 8 3 8 103
theorem k_q43 {g : GG} (W : GW g) (x0 x1 x2 x3 x4 : Addr) (H : List Ent) (Lt : List SE) (ms0 : StrIn Lt x2) (ms1 : StrIn Lt x3) (ms2 : StrIn Lt x4) : Ct g D24_q43 #[(.ref x0)] (oAL x0 (.int 3) (.ref x1) (.int 3) :: (x1, .inr ((.object "java/lang/Object"), "[Ljava/lang/Object;", [(.ref x2), (.ref x3), (.ref x4), .null, .null, .null, .null, .null, .null, .null])) :: H) Lt (fun v vm h => ∃ a4 a5, v = some (.ref a4) ∧ Hp g vm h (oLN a4 (.ref a5) (.int 0) :: (a5, .inr ((.object "java/lang/Object"), "[Ljava/lang/Object;", [(.ref x2), (.ref x3), (.ref x4)])) :: (x1, .inr ((.object "java/lang/Object"), "[Ljava/lang/Object;", [(.ref x2), (.ref x3), (.ref x4), .null, .null, .null, .null, .null, .null, .null])) :: oAL x0 (.int 3) (.ref x1) (.int 3) :: H) (Lt)) := by
  refine CtW.body (Ls := #[.val (.ref x0)]) W (by decide +kernel) (efr rfl) ?_
  intro M T B
  refine p_aloadN B d24_0 rfl rfl rfl ?_
  refine r_static (D' := D25_q44) B d24_1 rfl (W126 B.gw) (W127 B.gw) (W128 B.gw) (W129 B.gw) (by decide) (k_q44 W x0 x1 x2 x3 x4 _ _ ms0 ms1 ms2) (argsL := [(.ref x0)]) (rest := []) rfl pd16 rfl rfl rfl (W := 0) rfl (cs' := 3) (ss' := 8) (by decide) (Kex fun a4 => Kex fun a5 => Kv1 fun T1 B3 => ?_)
  exact r_reta B3 d24_4 rfl rfl rfl (by decide) (by decide) (fun vm h P => ⟨a4, a5, rfl, P⟩)
theorem c_ei3 {g : GG} (W : GW g) (ev a b x0 x1 x2 : Addr) (H : List Ent) (Lt : List SE) (ms0 : StrIn Lt x0) (ms1 : StrIn Lt x1) (ms2 : StrIn Lt x2) : Ct g D22_w #[(.ref ev), (.ref a)] (oEV ev .null :: (AL g a b [x0, x1, x2] ++ H)) Lt (fun v vm h => ∃ c d, v = none ∧ Hp g vm h (oEV ev (.ref (ilA g c [x0, x1, x2])) :: (AL g a b [x0, x1, x2] ++ (IL g c d [x0, x1, x2] ++ H))) Lt) := by
  refine CtW.body (Ls := #[.val (.ref ev), .val (.ref a)]) W (by decide +kernel) (efr rfl) ?_
  intro M T B
  replace B : RH g D22_w M T (oEV ev .null :: oAL a (.int 3) (.ref b) (.int 3) :: (b, .inr ((.object "java/lang/Object"), "[Ljava/lang/Object;", [(.ref x0), (.ref x1), (.ref x2), .null, .null, .null, .null, .null, .null, .null])) :: H) Lt 0 0 := B
  refine p_aloadN B d22_0 rfl rfl rfl ?_
  refine r_special (D' := D23_q12) B d22_1 rfl rfl rfl (W116 B.gw) (W117 B.gw) (W119 B.gw) (W120 B.gw) (by decide) (k_q12 W ev _ _) (a := ev) (argsL := []) (rest := []) rfl pd9 rfl rfl rfl (W := 0) rfl (cs' := 0) (ss' := 0) (by decide) (Kv0 fun T1 B3 => ?_)
  refine p_aloadN B3 d22_4 rfl rfl rfl ?_
  have B4 := ((B3.fr 2 rfl).fr 2 rfl)
  refine r_static (D' := D24_q43) B4 d22_5 rfl (W122 B4.gw) (W123 B4.gw) (W124 B4.gw) (W125 B4.gw) (by decide) (k_q43 W a b x0 x1 x2 _ _ ms0 ms1 ms2) (argsL := [(.ref a)]) (rest := []) rfl pd16 rfl rfl rfl (W := 0) rfl (cs' := 3) (ss' := 8) (by decide) (Kex fun a8 => Kex fun a9 => Kv1 fun T5 B7 => ?_)
  refine p_astoreN B7 d22_8 rfl rfl (Ls' := #[.val (.ref ev), .val (.ref a8)]) rfl ?_
  refine p_aloadN B7 d22_9 rfl rfl rfl ?_
  refine p_aloadN B7 d22_10 rfl rfl rfl ?_
  refine r_put B7 d22_11 rfl (host := "") (Or.inl (W208 B7.gw)) Via.refl (i := 4) (j := 0) rfl rfl (Or.inr ⟨(W209 B7.gw), rfl, rfl⟩) (W111 B7.gw) (ty := (.object "java/util/List")) (by decide) rfl rfl (H' := (oLN a8 (.ref a9) (.int 0) :: (a9, .inr ((.object "java/lang/Object"), "[Ljava/lang/Object;", [(.ref x0), (.ref x1), (.ref x2)])) :: (b, .inr ((.object "java/lang/Object"), "[Ljava/lang/Object;", [(.ref x0), (.ref x1), (.ref x2), .null, .null, .null, .null, .null, .null, .null])) :: oAL a (.int 3) (.ref b) (.int 3) :: oEV ev (.ref a8) :: H)) rfl fun T10 B11 => ?_
  have B12 := (((((B11.fr 1 rfl).fr 1 rfl).fr 2 rfl).fr 3 rfl).fr 4 rfl)
  exact r_ret B12 d22_14 rfl (by decide) (by decide) (fun vm h P => ⟨a8, a9, rfl, P⟩)
abbrev D26_q61 := E26 0 0 0 0
theorem k_q61 {g : GG} (W : GW g) (x0 x1 : Addr) (H : List Ent) (Lt : List SE) : Ct g D26_q61 #[(.ref x0)] (oAL x0 (.int 4) (.ref x1) (.int 4) :: H) Lt (fun v vm h => v = some (.int 0) ∧ Hp g vm h (oAL x0 (.int 4) (.ref x1) (.int 4) :: H) (Lt)) := by
  refine CtW.body (Ls := #[.val (.ref x0)]) W (by decide +kernel) (efr rfl) ?_
  intro M T B
  refine p_aloadN B d26_0 rfl rfl rfl ?_
  refine r_get B d26_1 rfl (host := "") (Or.inl (W80 B.gw)) Via.refl (v := (.int 4)) (fO (i := 0) (j := 2) rfl rfl) fun T1 B2 => ?_
  refine b_ifT B2 d26_4 (pc' := 11) (show ¬ (4 : Int32) = (0 : Int32) from by decide) (by decide) (by decide) ?_
  refine p_iconst B2 d26_11 rfl (v := (0 : Int32)) (by decide) ?_
  exact r_reti B2 d26_12 rfl (by simp) rfl (by decide) (by decide) (fun vm h P => ⟨rfl, P⟩)
abbrev D30_q65 := E30 0 0 0 0
theorem k_q65 {g : GG} (W : GW g) (H : List Ent) (Lt : List SE) : Ct g D30_q65 #[(.int 10), (.int 4)] (H) Lt (fun v vm h => v = some (.int 4) ∧ Hp g vm h (H) (Lt)) := by
  refine CtW.body (Ls := #[.val (.int 10), .val (.int 4)]) W (Jvm.Free.JP.mathPlain rfl (by decide +kernel)) (efr rfl) ?_
  intro M T B
  refine p_iloadN B d30_0 rfl rfl ?_
  refine p_iloadN B d30_1 rfl rfl ?_
  refine b_icT B d30_2 (pc' := 9) (show (4 : Int32) < (10 : Int32) from by decide) (by decide) (by decide) ?_
  refine p_iloadN B d30_9 rfl rfl ?_
  exact r_reti B d30_10 rfl (by simp) rfl (by decide) (by decide) (fun vm h P => ⟨rfl, P⟩)
abbrev D29_q64 := E29 1 1 4 18
theorem k_q64 {g : GG} (W : GW g) (x0 x1 x2 x3 x4 : Addr) (H : List Ent) (Lt : List SE) (ms0 : StrIn Lt x1) (ms1 : StrIn Lt x2) (ms2 : StrIn Lt x3) (ms3 : StrIn Lt x4) : Ct g D29_q64 #[(.ref x0), (.int 4), (.ref (miOf g))] ((x0, .inr ((.object "java/lang/Object"), "[Ljava/lang/Object;", [(.ref x1), (.ref x2), (.ref x3), (.ref x4), .null, .null, .null, .null, .null, .null])) :: H) Lt (fun v vm h => ∃ a5, v = some (.ref a5) ∧ Hp g vm h ((a5, .inr ((.object "java/lang/Object"), "[Ljava/lang/Object;", [(.ref x1), (.ref x2), (.ref x3), (.ref x4)])) :: (x0, .inr ((.object "java/lang/Object"), "[Ljava/lang/Object;", [(.ref x1), (.ref x2), (.ref x3), (.ref x4), .null, .null, .null, .null, .null, .null])) :: H) (Lt)) := by
  refine CtW.body (Ls := #[.val (.ref x0), .val (.int 4), .val (.ref (miOf g)), .unset]) W (by decide +kernel) (efr rfl) ?_
  intro M T B
  refine p_aloadN B d29_0 rfl rfl rfl ?_
  refine r_ldcM B d29_1 rfl (W166 B.gw) (mi_ok W) fun T1 B2 => ?_
  refine b_anF B2 d29_3 (pc' := 6) rfl rfl rfl rfl ?_
  refine p_iloadN B2 d29_6 rfl rfl ?_
  refine r_newr B2 d29_7 rfl (W167 B2.gw) (W102 B2.gw) (by decide) (nn := 4) (by decide) (cap := 4) (by decide) (by decide) (cs' := 1) rfl (ss' := 4) rfl (by decide) (by decide) (ad := "[Ljava/lang/Object;") (by decide) (vs := [.null, .null, .null, .null]) rfl fun T3 a5 B4 => ?_
  refine b_goto B4 d29_10 (pc' := 24) (by decide) (by decide) ?_
  refine p_astoreN B4 d29_24 rfl rfl (Ls' := #[.val (.ref x0), .val (.int 4), .val (.ref (miOf g)), .val (.ref a5)]) rfl ?_
  refine p_aloadN B4 d29_25 rfl rfl rfl ?_
  refine p_iconst B4 d29_26 rfl (v := (0 : Int32)) (by decide) ?_
  refine p_aloadN B4 d29_27 rfl rfl rfl ?_
  refine p_iconst B4 d29_28 rfl (v := (0 : Int32)) (by decide) ?_
  refine p_aloadN B4 d29_29 rfl rfl rfl ?_
  refine r_alen B4 d29_30 rfl (aH (i := 1) rfl) (z := (10 : Int32)) rfl ?_
  refine p_iloadN B4 d29_31 rfl rfl ?_
  refine r_static (D' := D30_q65) B4 d29_32 rfl (W168 B4.gw) (W169 B4.gw) (W99 B4.gw) (W170 B4.gw) (by decide) (k_q65 W _ _) (argsL := [(.int 10), (.int 4)]) (rest := [(.int 0), (.ref a5), (.int 0), (.ref x0)]) rfl pd10 rfl rfl rfl (W := 4) rfl (cs' := 1) (ss' := 4) (by decide) (Kv1 fun T6 B8 => ?_)
  refine r_acopy B8 d29_35 (pc' := 38) (s0 := 0) (d0 := 0) (n0 := 4) (us := [(.ref x1), (.ref x2), (.ref x3), (.ref x4)]) (vd' := [(.ref x1), (.ref x2), (.ref x3), (.ref x4)]) rfl (W171 B8.gw) (W174 B8.gw) (W172 B8.gw) (W173 B8.gw) (aH (i := 1) rfl) (i := 0) rfl (Or.inr ⟨rfl, _, rfl, List.forall_mem_cons.2 ⟨Or.inr ⟨_, rfl, (fun vm h E P => Ins.of_exa ((sI ms0) vm h E P) (W103 B8.gw))⟩, List.forall_mem_cons.2 ⟨Or.inr ⟨_, rfl, (fun vm h E P => Ins.of_exa ((sI ms1) vm h E P) (W103 B8.gw))⟩, List.forall_mem_cons.2 ⟨Or.inr ⟨_, rfl, (fun vm h E P => Ins.of_exa ((sI ms2) vm h E P) (W103 B8.gw))⟩, List.forall_mem_cons.2 ⟨Or.inr ⟨_, rfl, (fun vm h E P => Ins.of_exa ((sI ms3) vm h E P) (W103 B8.gw))⟩, nofun⟩⟩⟩⟩⟩) (by decide) (by decide) (by decide) (by decide) (by decide) (by decide) (by simp) (by simp) rfl rfl (H' := ((a5, .inr ((.object "java/lang/Object"), "[Ljava/lang/Object;", [(.ref x1), (.ref x2), (.ref x3), (.ref x4)])) :: (x0, .inr ((.object "java/lang/Object"), "[Ljava/lang/Object;", [(.ref x1), (.ref x2), (.ref x3), (.ref x4), .null, .null, .null, .null, .null, .null])) :: H)) rfl rfl (W := 0) rfl (by decide) (by decide) fun T9 B10 => ?_
  refine p_aloadN B10 d29_38 rfl rfl rfl ?_
  exact r_reta B10 d29_39 rfl rfl rfl (by decide) (by decide) (fun vm h P => ⟨a5, rfl, P⟩)
abbrev D28_q63 := E28 2 1 4 33
theorem k_q63 {g : GG} (W : GW g) (x0 x1 x2 x3 x4 : Addr) (H : List Ent) (Lt : List SE) (ms0 : StrIn Lt x1) (ms1 : StrIn Lt x2) (ms2 : StrIn Lt x3) (ms3 : StrIn Lt x4) : Ct g D28_q63 #[(.ref x0), (.int 4)] ((x0, .inr ((.object "java/lang/Object"), "[Ljava/lang/Object;", [(.ref x1), (.ref x2), (.ref x3), (.ref x4), .null, .null, .null, .null, .null, .null])) :: H) Lt (fun v vm h => ∃ a6, v = some (.ref a6) ∧ Hp g vm h ((a6, .inr ((.object "java/lang/Object"), "[Ljava/lang/Object;", [(.ref x1), (.ref x2), (.ref x3), (.ref x4)])) :: (x0, .inr ((.object "java/lang/Object"), "[Ljava/lang/Object;", [(.ref x1), (.ref x2), (.ref x3), (.ref x4), .null, .null, .null, .null, .null, .null])) :: H) (Lt)) := by
  refine CtW.body (Ls := #[.val (.ref x0), .val (.int 4)]) W (by decide +kernel) (efr rfl) ?_
  intro M T B
  refine p_aloadN B d28_0 rfl rfl rfl ?_
  refine p_iloadN B d28_1 rfl rfl ?_
  refine p_aloadN B d28_2 rfl rfl rfl ?_
  refine r_getClass B d28_3 rfl (W157 B.gw) (W158 B.gw) (W160 B.gw) (W159 B.gw) (W161 B.gw) (aE (i := 0) rfl (by decide)) (mi_ok W) rfl (W := 2) rfl (by decide) (by decide) fun T1 B2 => ?_
  refine r_static (D' := D29_q64) B2 d28_6 rfl (W163 B2.gw) (W164 B2.gw) (W155 B2.gw) (W165 B2.gw) (by decide) (k_q64 W x0 x1 x2 x3 x4 _ _ ms0 ms1 ms2 ms3) (argsL := [(.ref x0), (.int 4), (.ref (miOf g))]) (rest := []) rfl pd17 rfl rfl rfl (W := 0) rfl (cs' := 1) (ss' := 4) (by decide) (Kex fun a6 => Kv1 fun T3 B5 => ?_)
  exact r_reta B5 d28_9 rfl rfl rfl (by decide) (by decide) (fun vm h P => ⟨a6, rfl, P⟩)
abbrev D27_q62 := E27 3 1 4 46
theorem k_q62 {g : GG} (W : GW g) (x0 x1 x2 x3 x4 x5 : Addr) (H : List Ent) (Lt : List SE) (ms0 : StrIn Lt x2) (ms1 : StrIn Lt x3) (ms2 : StrIn Lt x4) (ms3 : StrIn Lt x5) : Ct g D27_q62 #[(.ref x0)] (oAL x0 (.int 4) (.ref x1) (.int 4) :: (x1, .inr ((.object "java/lang/Object"), "[Ljava/lang/Object;", [(.ref x2), (.ref x3), (.ref x4), (.ref x5), .null, .null, .null, .null, .null, .null])) :: H) Lt (fun v vm h => ∃ a9, v = some (.ref a9) ∧ Hp g vm h ((a9, .inr ((.object "java/lang/Object"), "[Ljava/lang/Object;", [(.ref x2), (.ref x3), (.ref x4), (.ref x5)])) :: (x1, .inr ((.object "java/lang/Object"), "[Ljava/lang/Object;", [(.ref x2), (.ref x3), (.ref x4), (.ref x5), .null, .null, .null, .null, .null, .null])) :: oAL x0 (.int 4) (.ref x1) (.int 4) :: H) (Lt)) := by
  refine CtW.body (Ls := #[.val (.ref x0)]) W (by decide +kernel) (efr rfl) ?_
  intro M T B
  refine p_aloadN B d27_0 rfl rfl rfl ?_
  refine r_get B d27_1 rfl (host := "") (Or.inl (W71 B.gw)) Via.refl (v := (.ref x1)) (fO (i := 0) (j := 1) rfl rfl) fun T1 B2 => ?_
  refine p_aloadN B2 d27_4 rfl rfl rfl ?_
  refine r_get B2 d27_5 rfl (host := "") (Or.inl (W80 B2.gw)) Via.refl (v := (.int 4)) (fO (i := 0) (j := 2) rfl rfl) fun T3 B4 => ?_
  have B5 := (B4.fr 1 rfl)
  refine r_static (D' := D28_q63) B5 d27_8 rfl (W153 B5.gw) (W154 B5.gw) (W155 B5.gw) (W156 B5.gw) (by decide) (k_q63 W x1 x2 x3 x4 x5 _ _ ms0 ms1 ms2 ms3) (argsL := [(.ref x1), (.int 4)]) (rest := []) rfl pd18 rfl rfl rfl (W := 0) rfl (cs' := 1) (ss' := 4) (by decide) (Kex fun a9 => Kv1 fun T6 B8 => ?_)
  exact r_reta B8 d27_11 rfl rfl rfl (by decide) (by decide) (fun vm h P => ⟨a9, rfl, P⟩)
abbrev D76_q67 := E76 5 2 6 63
theorem k_q67 {g : GG} (W : GW g) (x0 x1 x2 x3 x4 : Addr) (H : List Ent) (Lt : List SE) (ms0 : StrIn Lt x1) (ms1 : StrIn Lt x2) (ms2 : StrIn Lt x3) (ms3 : StrIn Lt x4) : Ct g D76_q67 #[(.ref x0)] ((x0, .inr ((.object "java/lang/Object"), "[Ljava/lang/Object;", [(.ref x1), (.ref x2), (.ref x3), (.ref x4)])) :: H) Lt (fun v vm h => ∃ a26 a3, v = some (.ref a26) ∧ Hp g vm h (oLN a26 (.ref a3) (.int 0) :: (a3, .inr ((.object "java/lang/Object"), "[Ljava/lang/Object;", [(.ref x1), (.ref x2), (.ref x3), (.ref x4)])) :: (x0, .inr ((.object "java/lang/Object"), "[Ljava/lang/Object;", [(.ref x1), (.ref x2), (.ref x3), (.ref x4)])) :: H) (Lt)) := by
  refine CtW.body (Ls := #[.val (.ref x0), .unset, .unset]) W (by decide +kernel) (efr rfl) ?_
  intro M T B
  refine p_aloadN B d76_0 rfl rfl rfl ?_
  refine r_alen B d76_1 rfl (aH (i := 0) rfl) (z := (4 : Int32)) rfl ?_
  refine r_newr B d76_2 rfl (W469 B.gw) (W102 B.gw) (by decide) (nn := 4) (by decide) (cap := 4) (by decide) (by decide) (cs' := 1) rfl (ss' := 4) rfl (by decide) (by decide) (ad := "[Ljava/lang/Object;") (by decide) (vs := [.null, .null, .null, .null]) rfl fun T1 a3 B2 => ?_
  refine p_astoreN B2 d76_5 rfl rfl (Ls' := #[.val (.ref x0), .val (.ref a3), .unset]) rfl ?_
  refine p_iconst B2 d76_6 rfl (v := (0 : Int32)) (by decide) ?_
  refine p_istoreN B2 d76_7 rfl (Ls' := #[.val (.ref x0), .val (.ref a3), .val (.int 0)]) rfl ?_
  refine p_iloadN B2 d76_8 rfl rfl ?_
  refine p_aloadN B2 d76_9 rfl rfl rfl ?_
  refine r_alen B2 d76_10 rfl (aH (i := 1) rfl) (z := (4 : Int32)) rfl ?_
  refine b_icF B2 d76_11 (pc' := 14) rfl (show (0 : Int32) < (4 : Int32) from by decide) ?_
  refine p_aloadN B2 d76_14 rfl rfl rfl ?_
  refine p_iloadN B2 d76_15 rfl rfl ?_
  refine p_aloadN B2 d76_16 rfl rfl rfl ?_
  refine p_iloadN B2 d76_17 rfl rfl ?_
  refine r_aget B2 d76_18 rfl rfl (aH (i := 1) rfl) (k := 0) (by decide) rfl ?_
  refine r_static (D' := D35_q32) B2 d76_19 rfl (W470 B2.gw) (W200 B2.gw) (W201 B2.gw) (W202 B2.gw) (by decide) (k_q32 W x1 _ _ ms0) (argsL := [(.ref x1)]) (rest := [(.int 0), (.ref a3)]) rfl pd19 rfl rfl rfl (W := 2) rfl (cs' := 1) (ss' := 4) (by decide) (Kv1 fun T4 B6 => ?_)
  refine r_aastore B6 d76_22 rfl (i := 0) rfl (by decide) (k := 0) (by decide) (by simp) (Or.inr ⟨_, rfl, (fun vm h E P => Ins.of_exa ((sI ms0) vm h E P) (W103 B6.gw))⟩) (H' := ((a3, .inr ((.object "java/lang/Object"), "[Ljava/lang/Object;", [(.ref x1), .null, .null, .null])) :: (x0, .inr ((.object "java/lang/Object"), "[Ljava/lang/Object;", [(.ref x1), (.ref x2), (.ref x3), (.ref x4)])) :: H)) rfl fun T7 B8 => ?_
  refine p_iinc B8 d76_23 rfl (v := (1 : Int32)) (by decide) rfl (z := (1 : Int32)) (by decide) (Ls' := #[.val (.ref x0), .val (.ref a3), .val (.int 1)]) rfl ?_
  refine b_goto B8 d76_26 (pc' := 8) (by decide) (by decide) ?_
  refine p_iloadN B8 d76_8 rfl rfl ?_
  refine p_aloadN B8 d76_9 rfl rfl rfl ?_
  refine r_alen B8 d76_10 rfl (aH (i := 1) rfl) (z := (4 : Int32)) rfl ?_
  refine b_icF B8 d76_11 (pc' := 14) rfl (show (1 : Int32) < (4 : Int32) from by decide) ?_
  refine p_aloadN B8 d76_14 rfl rfl rfl ?_
  refine p_iloadN B8 d76_15 rfl rfl ?_
  refine p_aloadN B8 d76_16 rfl rfl rfl ?_
  refine p_iloadN B8 d76_17 rfl rfl ?_
  refine r_aget B8 d76_18 rfl rfl (aH (i := 1) rfl) (k := 1) (by decide) rfl ?_
  refine r_static (D' := D35_q32) B8 d76_19 rfl (W470 B8.gw) (W200 B8.gw) (W201 B8.gw) (W202 B8.gw) (by decide) (k_q32 W x2 _ _ ms1) (argsL := [(.ref x2)]) (rest := [(.int 1), (.ref a3)]) rfl pd19 rfl rfl rfl (W := 2) rfl (cs' := 1) (ss' := 4) (by decide) (Kv1 fun T9 B11 => ?_)
  refine r_aastore B11 d76_22 rfl (i := 0) rfl (by decide) (k := 1) (by decide) (by simp) (Or.inr ⟨_, rfl, (fun vm h E P => Ins.of_exa ((sI ms1) vm h E P) (W103 B11.gw))⟩) (H' := ((a3, .inr ((.object "java/lang/Object"), "[Ljava/lang/Object;", [(.ref x1), (.ref x2), .null, .null])) :: (x0, .inr ((.object "java/lang/Object"), "[Ljava/lang/Object;", [(.ref x1), (.ref x2), (.ref x3), (.ref x4)])) :: H)) rfl fun T12 B13 => ?_
  refine p_iinc B13 d76_23 rfl (v := (1 : Int32)) (by decide) rfl (z := (2 : Int32)) (by decide) (Ls' := #[.val (.ref x0), .val (.ref a3), .val (.int 2)]) rfl ?_
  refine b_goto B13 d76_26 (pc' := 8) (by decide) (by decide) ?_
  refine p_iloadN B13 d76_8 rfl rfl ?_
  refine p_aloadN B13 d76_9 rfl rfl rfl ?_
  refine r_alen B13 d76_10 rfl (aH (i := 1) rfl) (z := (4 : Int32)) rfl ?_
  refine b_icF B13 d76_11 (pc' := 14) rfl (show (2 : Int32) < (4 : Int32) from by decide) ?_
  refine p_aloadN B13 d76_14 rfl rfl rfl ?_
  refine p_iloadN B13 d76_15 rfl rfl ?_
  refine p_aloadN B13 d76_16 rfl rfl rfl ?_
  refine p_iloadN B13 d76_17 rfl rfl ?_
  refine r_aget B13 d76_18 rfl rfl (aH (i := 1) rfl) (k := 2) (by decide) rfl ?_
  refine r_static (D' := D35_q32) B13 d76_19 rfl (W470 B13.gw) (W200 B13.gw) (W201 B13.gw) (W202 B13.gw) (by decide) (k_q32 W x3 _ _ ms2) (argsL := [(.ref x3)]) (rest := [(.int 2), (.ref a3)]) rfl pd19 rfl rfl rfl (W := 2) rfl (cs' := 1) (ss' := 4) (by decide) (Kv1 fun T14 B16 => ?_)
  refine r_aastore B16 d76_22 rfl (i := 0) rfl (by decide) (k := 2) (by decide) (by simp) (Or.inr ⟨_, rfl, (fun vm h E P => Ins.of_exa ((sI ms2) vm h E P) (W103 B16.gw))⟩) (H' := ((a3, .inr ((.object "java/lang/Object"), "[Ljava/lang/Object;", [(.ref x1), (.ref x2), (.ref x3), .null])) :: (x0, .inr ((.object "java/lang/Object"), "[Ljava/lang/Object;", [(.ref x1), (.ref x2), (.ref x3), (.ref x4)])) :: H)) rfl fun T17 B18 => ?_
  refine p_iinc B18 d76_23 rfl (v := (1 : Int32)) (by decide) rfl (z := (3 : Int32)) (by decide) (Ls' := #[.val (.ref x0), .val (.ref a3), .val (.int 3)]) rfl ?_
  refine b_goto B18 d76_26 (pc' := 8) (by decide) (by decide) ?_
  refine p_iloadN B18 d76_8 rfl rfl ?_
  refine p_aloadN B18 d76_9 rfl rfl rfl ?_
  refine r_alen B18 d76_10 rfl (aH (i := 1) rfl) (z := (4 : Int32)) rfl ?_
  refine b_icF B18 d76_11 (pc' := 14) rfl (show (3 : Int32) < (4 : Int32) from by decide) ?_
  refine p_aloadN B18 d76_14 rfl rfl rfl ?_
  refine p_iloadN B18 d76_15 rfl rfl ?_
  refine p_aloadN B18 d76_16 rfl rfl rfl ?_
  refine p_iloadN B18 d76_17 rfl rfl ?_
  refine r_aget B18 d76_18 rfl rfl (aH (i := 1) rfl) (k := 3) (by decide) rfl ?_
  refine r_static (D' := D35_q32) B18 d76_19 rfl (W470 B18.gw) (W200 B18.gw) (W201 B18.gw) (W202 B18.gw) (by decide) (k_q32 W x4 _ _ ms3) (argsL := [(.ref x4)]) (rest := [(.int 3), (.ref a3)]) rfl pd19 rfl rfl rfl (W := 2) rfl (cs' := 1) (ss' := 4) (by decide) (Kv1 fun T19 B21 => ?_)
  refine r_aastore B21 d76_22 rfl (i := 0) rfl (by decide) (k := 3) (by decide) (by simp) (Or.inr ⟨_, rfl, (fun vm h E P => Ins.of_exa ((sI ms3) vm h E P) (W103 B21.gw))⟩) (H' := ((a3, .inr ((.object "java/lang/Object"), "[Ljava/lang/Object;", [(.ref x1), (.ref x2), (.ref x3), (.ref x4)])) :: (x0, .inr ((.object "java/lang/Object"), "[Ljava/lang/Object;", [(.ref x1), (.ref x2), (.ref x3), (.ref x4)])) :: H)) rfl fun T22 B23 => ?_
  refine p_iinc B23 d76_23 rfl (v := (1 : Int32)) (by decide) rfl (z := (4 : Int32)) (by decide) (Ls' := #[.val (.ref x0), .val (.ref a3), .val (.int 4)]) rfl ?_
  refine b_goto B23 d76_26 (pc' := 8) (by decide) (by decide) ?_
  refine p_iloadN B23 d76_8 rfl rfl ?_
  refine p_aloadN B23 d76_9 rfl rfl rfl ?_
  refine r_alen B23 d76_10 rfl (aH (i := 1) rfl) (z := (4 : Int32)) rfl ?_
  refine b_icT B23 d76_11 (pc' := 29) (show ¬ (4 : Int32) < (4 : Int32) from by decide) (by decide) (by decide) ?_
  refine r_new B23 d76_29 rfl (W135 B23.gw) (W471 B23.gw) (W446 B23.gw) (Ly_oLN B23.gw) (by decide) (cs' := 2) rfl (ss' := 6) rfl (by decide) (by decide) fun T24 a26 B25 => ?_
  refine p_dup B25 d76_32 rfl rfl ?_
  refine p_aloadN B25 d76_33 rfl rfl rfl ?_
  refine p_iconst B25 d76_34 rfl (v := (0 : Int32)) (by decide) ?_
  refine r_specialN (D' := D77_q57) B25 d76_35 rfl rfl rfl (W472 B25.gw) (W473 B25.gw) (W446 B25.gw) (W475 B25.gw) (by decide) (k_q57 W a26 a3 _ _) (a := a26) (argsL := [(.ref a3), (.int 0)]) (rest := [(.ref a26)]) rfl pd23 rfl rfl rfl (W := 1) rfl (cs' := 2) (ss' := 6) (by decide) (Kv0 fun T27 B29 => ?_)
  exact r_reta B29 d76_38 rfl rfl rfl (by decide) (by decide) (fun vm h P => ⟨a26, a3, rfl, P⟩)
abbrev D31_q66 := E31 6 2 6 77
theorem k_q66 {g : GG} (W : GW g) (x0 x1 x2 x3 x4 : Addr) (H : List Ent) (Lt : List SE) (ms0 : StrIn Lt x1) (ms1 : StrIn Lt x2) (ms2 : StrIn Lt x3) (ms3 : StrIn Lt x4) : Ct g D31_q66 #[(.ref x0)] ((x0, .inr ((.object "java/lang/Object"), "[Ljava/lang/Object;", [(.ref x1), (.ref x2), (.ref x3), (.ref x4)])) :: H) Lt (fun v vm h => ∃ a4 a5, v = some (.ref a4) ∧ Hp g vm h (oLN a4 (.ref a5) (.int 0) :: (a5, .inr ((.object "java/lang/Object"), "[Ljava/lang/Object;", [(.ref x1), (.ref x2), (.ref x3), (.ref x4)])) :: (x0, .inr ((.object "java/lang/Object"), "[Ljava/lang/Object;", [(.ref x1), (.ref x2), (.ref x3), (.ref x4)])) :: H) (Lt)) := by
  refine CtW.body (Ls := #[.val (.ref x0), .unset]) W (by decide +kernel) (efr rfl) ?_
  intro M T B
  refine p_aloadN B d31_0 rfl rfl rfl ?_
  refine r_alen B d31_1 rfl (aH (i := 0) rfl) (z := (4 : Int32)) rfl ?_
  refine p_tswOut B d31_2 (pc' := 59) (by decide) (by decide) (by decide) ?_
  refine p_aloadN B d31_59 rfl rfl rfl ?_
  refine r_static (D' := D76_q67) B d31_60 rfl (W466 B.gw) (W467 B.gw) (W128 B.gw) (W468 B.gw) (by decide) (k_q67 W x0 x1 x2 x3 x4 _ _ ms0 ms1 ms2 ms3) (argsL := [(.ref x0)]) (rest := []) rfl pd21 rfl rfl rfl (W := 0) rfl (cs' := 2) (ss' := 6) (by decide) (Kex fun a4 => Kex fun a5 => Kv1 fun T1 B3 => ?_)
  exact r_reta B3 d31_63 rfl rfl rfl (by decide) (by decide) (fun vm h P => ⟨a4, a5, rfl, P⟩)
abbrev D25_q59 := E25 7 3 10 90
theorem k_q59 {g : GG} (W : GW g) (x0 x1 x2 x3 x4 x5 : Addr) (H : List Ent) (Lt : List SE) (ms0 : StrIn Lt x2) (ms1 : StrIn Lt x3) (ms2 : StrIn Lt x4) (ms3 : StrIn Lt x5) : Ct g D25_q59 #[(.ref x0)] (oAL x0 (.int 4) (.ref x1) (.int 4) :: (x1, .inr ((.object "java/lang/Object"), "[Ljava/lang/Object;", [(.ref x2), (.ref x3), (.ref x4), (.ref x5), .null, .null, .null, .null, .null, .null])) :: H) Lt (fun v vm h => ∃ a15 a16, v = some (.ref a15) ∧ Hp g vm h (oLN a15 (.ref a16) (.int 0) :: (a16, .inr ((.object "java/lang/Object"), "[Ljava/lang/Object;", [(.ref x2), (.ref x3), (.ref x4), (.ref x5)])) :: (x1, .inr ((.object "java/lang/Object"), "[Ljava/lang/Object;", [(.ref x2), (.ref x3), (.ref x4), (.ref x5), .null, .null, .null, .null, .null, .null])) :: oAL x0 (.int 4) (.ref x1) (.int 4) :: H) (Lt)) := by
  refine CtW.body (Ls := #[.val (.ref x0), .unset]) W (by decide +kernel) (efr rfl) ?_
  intro M T B
  refine p_aloadN B d25_0 rfl rfl rfl ?_
  refine r_inst0 B d25_1 rfl (W130 B.gw) (fun vm h E P => ins_chain ((fE (i := 0) rfl) vm h E P) (W131 B.gw) (NS.step (W131 B.gw) (NS.step (W132 B.gw) (NS.step (W133 B.gw) (ns_root (W134 B.gw) (W179 B.gw) (by decide)) (by decide)) (by decide)) (by decide)) (W179 B.gw) (by decide)) (fE (i := 0) rfl) fun T1 B2 => ?_
  refine b_ifF B2 d25_4 (pc' := 7) rfl (show (0 : Int32) = (0 : Int32) from by decide) ?_
  refine p_aloadN B2 d25_7 rfl rfl rfl ?_
  refine r_inst0 B2 d25_8 rfl (W135 B2.gw) (fun vm h E P => ins_chain ((fE (i := 0) rfl) vm h E P) (W131 B2.gw) (NS.step (W131 B2.gw) (NS.step (W132 B2.gw) (NS.step (W133 B2.gw) (ns_root (W134 B2.gw) (W471 B2.gw) (by decide)) (by decide)) (by decide)) (by decide)) (W471 B2.gw) (by decide)) (fE (i := 0) rfl) fun T3 B4 => ?_
  refine b_ifT B4 d25_11 (pc' := 31) (show (0 : Int32) = (0 : Int32) from by decide) (by decide) (by decide) ?_
  refine p_aloadN B4 d25_31 rfl rfl rfl ?_
  refine r_iface (D' := D26_q61) B4 d25_32 rfl (W136 B4.gw) (W137 B4.gw) (W138 B4.gw) (by first | rfl | decide) (W139 B4.gw) (W140 B4.gw) (W141 B4.gw) (W142 B4.gw) (W143 B4.gw) (W51 B4.gw) (W144 B4.gw) (by decide) (fE (i := 0) rfl) (k_q61 W x0 x1 _ _) (argsL := []) (rest := []) rfl pd14 rfl rfl rfl (W := 0) rfl (cs' := 0) (ss' := 0) (by decide) (Kv1 fun T5 B7 => ?_)
  refine b_ifT B7 d25_37 (pc' := 44) (show (0 : Int32) = (0 : Int32) from by decide) (by decide) (by decide) ?_
  refine p_aloadN B7 d25_44 rfl rfl rfl ?_
  refine r_iface (D' := D27_q62) B7 d25_45 rfl (W145 B7.gw) (W146 B7.gw) (W147 B7.gw) (by first | rfl | decide) (W148 B7.gw) (W149 B7.gw) (W150 B7.gw) (W151 B7.gw) (W143 B7.gw) (W51 B7.gw) (W152 B7.gw) (by decide) (fE (i := 0) rfl) (k_q62 W x0 x1 x2 x3 x4 x5 _ _ ms0 ms1 ms2 ms3) (argsL := []) (rest := []) rfl pd12 rfl rfl rfl (W := 0) rfl (cs' := 1) (ss' := 4) (by decide) (Kex fun a11 => Kv1 fun T8 B10 => ?_)
  refine r_static (D' := D31_q66) B10 d25_50 rfl (W175 B10.gw) (W176 B10.gw) (W124 B10.gw) (W177 B10.gw) (by decide) (k_q66 W a11 x2 x3 x4 x5 _ _ ms0 ms1 ms2 ms3) (argsL := [(.ref a11)]) (rest := []) rfl pd21 rfl rfl rfl (W := 0) rfl (cs' := 3) (ss' := 10) (by decide) (Kex fun a15 => Kex fun a16 => Kv1 fun T12 B14 => ?_)
  have B17 := (B14.dl 2)
  exact r_reta B17 d25_53 rfl rfl rfl (by decide) (by decide) (fun vm h P => ⟨a15, a16, rfl, P⟩)
abbrev D24_q58 := E24 8 3 10 103
theorem k_q58 {g : GG} (W : GW g) (x0 x1 x2 x3 x4 x5 : Addr) (H : List Ent) (Lt : List SE) (ms0 : StrIn Lt x2) (ms1 : StrIn Lt x3) (ms2 : StrIn Lt x4) (ms3 : StrIn Lt x5) : Ct g D24_q58 #[(.ref x0)] (oAL x0 (.int 4) (.ref x1) (.int 4) :: (x1, .inr ((.object "java/lang/Object"), "[Ljava/lang/Object;", [(.ref x2), (.ref x3), (.ref x4), (.ref x5), .null, .null, .null, .null, .null, .null])) :: H) Lt (fun v vm h => ∃ a4 a5, v = some (.ref a4) ∧ Hp g vm h (oLN a4 (.ref a5) (.int 0) :: (a5, .inr ((.object "java/lang/Object"), "[Ljava/lang/Object;", [(.ref x2), (.ref x3), (.ref x4), (.ref x5)])) :: (x1, .inr ((.object "java/lang/Object"), "[Ljava/lang/Object;", [(.ref x2), (.ref x3), (.ref x4), (.ref x5), .null, .null, .null, .null, .null, .null])) :: oAL x0 (.int 4) (.ref x1) (.int 4) :: H) (Lt)) := by
  refine CtW.body (Ls := #[.val (.ref x0)]) W (by decide +kernel) (efr rfl) ?_
  intro M T B
  refine p_aloadN B d24_0 rfl rfl rfl ?_
  refine r_static (D' := D25_q59) B d24_1 rfl (W126 B.gw) (W127 B.gw) (W128 B.gw) (W129 B.gw) (by decide) (k_q59 W x0 x1 x2 x3 x4 x5 _ _ ms0 ms1 ms2 ms3) (argsL := [(.ref x0)]) (rest := []) rfl pd16 rfl rfl rfl (W := 0) rfl (cs' := 3) (ss' := 10) (by decide) (Kex fun a4 => Kex fun a5 => Kv1 fun T1 B3 => ?_)
  exact r_reta B3 d24_4 rfl rfl rfl (by decide) (by decide) (fun vm h P => ⟨a4, a5, rfl, P⟩)
theorem c_ei4 {g : GG} (W : GW g) (ev a b x0 x1 x2 x3 : Addr) (H : List Ent) (Lt : List SE) (ms0 : StrIn Lt x0) (ms1 : StrIn Lt x1) (ms2 : StrIn Lt x2) (ms3 : StrIn Lt x3) : Ct g D22_w #[(.ref ev), (.ref a)] (oEV ev .null :: (AL g a b [x0, x1, x2, x3] ++ H)) Lt (fun v vm h => ∃ c d, v = none ∧ Hp g vm h (oEV ev (.ref (ilA g c [x0, x1, x2, x3])) :: (AL g a b [x0, x1, x2, x3] ++ (IL g c d [x0, x1, x2, x3] ++ H))) Lt) := by
  refine CtW.body (Ls := #[.val (.ref ev), .val (.ref a)]) W (by decide +kernel) (efr rfl) ?_
  intro M T B
  replace B : RH g D22_w M T (oEV ev .null :: oAL a (.int 4) (.ref b) (.int 4) :: (b, .inr ((.object "java/lang/Object"), "[Ljava/lang/Object;", [(.ref x0), (.ref x1), (.ref x2), (.ref x3), .null, .null, .null, .null, .null, .null])) :: H) Lt 0 0 := B
  refine p_aloadN B d22_0 rfl rfl rfl ?_
  refine r_special (D' := D23_q12) B d22_1 rfl rfl rfl (W116 B.gw) (W117 B.gw) (W119 B.gw) (W120 B.gw) (by decide) (k_q12 W ev _ _) (a := ev) (argsL := []) (rest := []) rfl pd9 rfl rfl rfl (W := 0) rfl (cs' := 0) (ss' := 0) (by decide) (Kv0 fun T1 B3 => ?_)
  refine p_aloadN B3 d22_4 rfl rfl rfl ?_
  have B4 := ((B3.fr 2 rfl).fr 2 rfl)
  refine r_static (D' := D24_q58) B4 d22_5 rfl (W122 B4.gw) (W123 B4.gw) (W124 B4.gw) (W125 B4.gw) (by decide) (k_q58 W a b x0 x1 x2 x3 _ _ ms0 ms1 ms2 ms3) (argsL := [(.ref a)]) (rest := []) rfl pd16 rfl rfl rfl (W := 0) rfl (cs' := 3) (ss' := 10) (by decide) (Kex fun a8 => Kex fun a9 => Kv1 fun T5 B7 => ?_)
  refine p_astoreN B7 d22_8 rfl rfl (Ls' := #[.val (.ref ev), .val (.ref a8)]) rfl ?_
  refine p_aloadN B7 d22_9 rfl rfl rfl ?_
  refine p_aloadN B7 d22_10 rfl rfl rfl ?_
  refine r_put B7 d22_11 rfl (host := "") (Or.inl (W208 B7.gw)) Via.refl (i := 4) (j := 0) rfl rfl (Or.inr ⟨(W209 B7.gw), rfl, rfl⟩) (W111 B7.gw) (ty := (.object "java/util/List")) (by decide) rfl rfl (H' := (oLN a8 (.ref a9) (.int 0) :: (a9, .inr ((.object "java/lang/Object"), "[Ljava/lang/Object;", [(.ref x0), (.ref x1), (.ref x2), (.ref x3)])) :: (b, .inr ((.object "java/lang/Object"), "[Ljava/lang/Object;", [(.ref x0), (.ref x1), (.ref x2), (.ref x3), .null, .null, .null, .null, .null, .null])) :: oAL a (.int 4) (.ref b) (.int 4) :: oEV ev (.ref a8) :: H)) rfl fun T10 B11 => ?_
  have B12 := (((((B11.fr 1 rfl).fr 1 rfl).fr 2 rfl).fr 3 rfl).fr 4 rfl)
  exact r_ret B12 d22_14 rfl (by decide) (by decide) (fun vm h P => ⟨a8, a9, rfl, P⟩)
theorem W_ei {g : GG} (W : GW g) (ev a b : Addr) (L : List Addr) (hl : L.length ≤ 4) (H : List Ent) (Lt : List SE) (hs : ∀ x ∈ L, StrIn Lt x) : Ct g D22_w #[.ref ev, .ref a] (oEV ev .null :: (AL g a b L ++ H)) Lt (fun v vm h => ∃ c d, v = none ∧ Hp g vm h (oEV ev (.ref (ilA g c L)) :: (AL g a b L ++ (IL g c d L ++ H))) Lt) :=
  match L, hl, hs with
  | [], _, hs => c_ei0 W ev a b  H Lt
  | [x0], _, hs => c_ei1 W ev a b x0 H Lt (hs x0 (by simp))
  | [x0, x1], _, hs => c_ei2 W ev a b x0 x1 H Lt (hs x0 (by simp)) (hs x1 (by simp))
  | [x0, x1, x2], _, hs => c_ei3 W ev a b x0 x1 x2 H Lt (hs x0 (by simp)) (hs x1 (by simp)) (hs x2 (by simp))
  | [x0, x1, x2, x3], _, hs => c_ei4 W ev a b x0 x1 x2 x3 H Lt (hs x0 (by simp)) (hs x1 (by simp)) (hs x2 (by simp)) (hs x3 (by simp))
  | _ :: _ :: _ :: _ :: _ :: _, h, _ => absurd h (by simp only [List.length_cons]; omega)
abbrev D41_q69 := E41 0 0 0 0
theorem k_q69 {g : GG} (W : GW g) (x0 x1 : Addr) (H : List Ent) (Lt : List SE) (ms0 : StrIn Lt x1) : Ct g D41_q69 #[(.ref x0), (.int 0)] (o12 x0 (.ref x1) (.ref (emOf g)) :: H) Lt (fun v vm h => v = some (.ref x1) ∧ Hp g vm h (o12 x0 (.ref x1) (.ref (emOf g)) :: H) (Lt)) := by
  refine CtW.body (Ls := #[.val (.ref x0), .val (.int 0)]) W (by decide +kernel) (efr rfl) ?_
  intro M T B
  refine p_iloadN B d41_0 rfl rfl ?_
  refine b_ifF B d41_1 (pc' := 4) rfl (show (0 : Int32) = (0 : Int32) from by decide) ?_
  refine p_aloadN B d41_4 rfl rfl rfl ?_
  refine r_get B d41_5 rfl (host := "") (Or.inl (W203 B.gw)) Via.refl (v := (.ref x1)) (fO (i := 0) (j := 0) rfl rfl) fun T1 B2 => ?_
  exact r_reta B2 d41_8 rfl rfl rfl (by decide) (by decide) (fun vm h P => ⟨rfl, P⟩)
abbrev D81_w := E81 1 0 0 13
theorem c_nx1_0 {g : GG} (W : GW g) (it c d : Addr) (z : Int32) (x0 : Addr) (H : List Ent) (Lt : List SE) (ms0 : StrIn Lt x0) : CtH g D81_w [(0, 24, 25, 30)] #[(.ref it)] (oLI it (.ref (ilA g c [x0])) (.int z) (.int (0 : Int32)) (.int (0 : Int32)) :: (IL g c d [x0] ++ H)) Lt (fun v vm h => v = some (.ref x0) ∧ Hp g vm h (oLI it (.ref (ilA g c [x0])) (.int z) (.int (1 : Int32)) (.int (0 : Int32)) :: (IL g c d [x0] ++ H)) Lt) := by
  refine CtH.body (Ls := #[.val (.ref it), .unset, .unset]) W (by decide +kernel) (efr rfl) ?_
  intro M T B
  replace B : RH g D81_w M T (oLI it (.ref c) (.int z) (.int 0) (.int 0) :: o12 c (.ref x0) (.ref (emOf g)) :: H) Lt 0 0 := B
  refine p_aloadN B d81_0 rfl rfl rfl ?_
  refine r_get B d81_1 rfl (host := "") (Or.inl (W244 B.gw)) Via.refl (v := (.int 0)) (fO (i := 0) (j := 2) rfl rfl) fun T1 B2 => ?_
  refine p_istoreN B2 d81_4 rfl (Ls' := #[.val (.ref it), .val (.int 0), .unset]) rfl ?_
  refine p_aloadN B2 d81_5 rfl rfl rfl ?_
  refine r_get B2 d81_6 rfl (host := "") (Or.inl (W240 B2.gw)) Via.refl (v := (.ref c)) (fO (i := 0) (j := 0) rfl rfl) fun T3 B4 => ?_
  refine p_iloadN B4 d81_9 rfl rfl ?_
  have B5 := (B4.fr 1 rfl)
  refine r_iface (D' := D41_q69) B5 d81_10 rfl (W265 B5.gw) (W266 B5.gw) (W267 B5.gw) (by first | rfl | decide) (W268 B5.gw) (W269 B5.gw) (W270 B5.gw) (W271 B5.gw) (W224 B5.gw) (W180 B5.gw) (W272 B5.gw) (by decide) (fE (i := 0) rfl) (k_q69 W c x0 _ _ ms0) (argsL := [(.int 0)]) (rest := []) rfl pd24 rfl rfl rfl (W := 0) rfl (cs' := 0) (ss' := 0) (by decide) (Kv1 fun T6 B8 => ?_)
  refine p_astoreN B8 d81_15 rfl rfl (Ls' := #[.val (.ref it), .val (.int 0), .val (.ref x0)]) rfl ?_
  refine p_aloadN B8 d81_16 rfl rfl rfl ?_
  refine p_iloadN B8 d81_17 rfl rfl ?_
  refine p_iconst B8 d81_18 rfl (v := (1 : Int32)) (by decide) ?_
  refine p_iadd B8 d81_19 rfl (z := (1 : Int32)) (by decide) ?_
  refine r_put B8 d81_20 rfl (host := "") (Or.inl (W244 B8.gw)) Via.refl (i := 1) (j := 2) rfl rfl (Or.inl (W245 B8.gw)) (W227 B8.gw) (ty := .int) (by decide) rfl rfl (H' := (o12 c (.ref x0) (.ref (emOf g)) :: oLI it (.ref c) (.int z) (.int 1) (.int 0) :: H)) rfl fun T9 B10 => ?_
  refine p_aloadN B10 d81_23 rfl rfl rfl ?_
  have B11 := (B10.fr 1 rfl)
  exact r_reta B11 d81_24 rfl rfl rfl (by decide) (by decide) (fun vm h P => ⟨rfl, P⟩)
abbrev D41_q70 := E41 0 0 0 0
theorem k_q70 {g : GG} (W : GW g) (x0 x1 x2 : Addr) (H : List Ent) (Lt : List SE) (ms0 : StrIn Lt x1) (ms1 : StrIn Lt x2) : Ct g D41_q70 #[(.ref x0), (.int 0)] (o12 x0 (.ref x1) (.ref x2) :: H) Lt (fun v vm h => v = some (.ref x1) ∧ Hp g vm h (o12 x0 (.ref x1) (.ref x2) :: H) (Lt)) := by
  refine CtW.body (Ls := #[.val (.ref x0), .val (.int 0)]) W (by decide +kernel) (efr rfl) ?_
  intro M T B
  refine p_iloadN B d41_0 rfl rfl ?_
  refine b_ifF B d41_1 (pc' := 4) rfl (show (0 : Int32) = (0 : Int32) from by decide) ?_
  refine p_aloadN B d41_4 rfl rfl rfl ?_
  refine r_get B d41_5 rfl (host := "") (Or.inl (W203 B.gw)) Via.refl (v := (.ref x1)) (fO (i := 0) (j := 0) rfl rfl) fun T1 B2 => ?_
  exact r_reta B2 d41_8 rfl rfl rfl (by decide) (by decide) (fun vm h P => ⟨rfl, P⟩)
theorem c_nx2_0 {g : GG} (W : GW g) (it c d : Addr) (z : Int32) (x0 x1 : Addr) (H : List Ent) (Lt : List SE) (ms0 : StrIn Lt x0) (ms1 : StrIn Lt x1) : CtH g D81_w [(0, 24, 25, 30)] #[(.ref it)] (oLI it (.ref (ilA g c [x0, x1])) (.int z) (.int (0 : Int32)) (.int (0 : Int32)) :: (IL g c d [x0, x1] ++ H)) Lt (fun v vm h => v = some (.ref x0) ∧ Hp g vm h (oLI it (.ref (ilA g c [x0, x1])) (.int z) (.int (1 : Int32)) (.int (0 : Int32)) :: (IL g c d [x0, x1] ++ H)) Lt) := by
  refine CtH.body (Ls := #[.val (.ref it), .unset, .unset]) W (by decide +kernel) (efr rfl) ?_
  intro M T B
  replace B : RH g D81_w M T (oLI it (.ref c) (.int z) (.int 0) (.int 0) :: o12 c (.ref x0) (.ref x1) :: H) Lt 0 0 := B
  refine p_aloadN B d81_0 rfl rfl rfl ?_
  refine r_get B d81_1 rfl (host := "") (Or.inl (W244 B.gw)) Via.refl (v := (.int 0)) (fO (i := 0) (j := 2) rfl rfl) fun T1 B2 => ?_
  refine p_istoreN B2 d81_4 rfl (Ls' := #[.val (.ref it), .val (.int 0), .unset]) rfl ?_
  refine p_aloadN B2 d81_5 rfl rfl rfl ?_
  refine r_get B2 d81_6 rfl (host := "") (Or.inl (W240 B2.gw)) Via.refl (v := (.ref c)) (fO (i := 0) (j := 0) rfl rfl) fun T3 B4 => ?_
  refine p_iloadN B4 d81_9 rfl rfl ?_
  have B5 := (B4.fr 1 rfl)
  refine r_iface (D' := D41_q70) B5 d81_10 rfl (W265 B5.gw) (W266 B5.gw) (W267 B5.gw) (by first | rfl | decide) (W268 B5.gw) (W269 B5.gw) (W270 B5.gw) (W271 B5.gw) (W224 B5.gw) (W180 B5.gw) (W272 B5.gw) (by decide) (fE (i := 0) rfl) (k_q70 W c x0 x1 _ _ ms0 ms1) (argsL := [(.int 0)]) (rest := []) rfl pd24 rfl rfl rfl (W := 0) rfl (cs' := 0) (ss' := 0) (by decide) (Kv1 fun T6 B8 => ?_)
  refine p_astoreN B8 d81_15 rfl rfl (Ls' := #[.val (.ref it), .val (.int 0), .val (.ref x0)]) rfl ?_
  refine p_aloadN B8 d81_16 rfl rfl rfl ?_
  refine p_iloadN B8 d81_17 rfl rfl ?_
  refine p_iconst B8 d81_18 rfl (v := (1 : Int32)) (by decide) ?_
  refine p_iadd B8 d81_19 rfl (z := (1 : Int32)) (by decide) ?_
  refine r_put B8 d81_20 rfl (host := "") (Or.inl (W244 B8.gw)) Via.refl (i := 1) (j := 2) rfl rfl (Or.inl (W245 B8.gw)) (W227 B8.gw) (ty := .int) (by decide) rfl rfl (H' := (o12 c (.ref x0) (.ref x1) :: oLI it (.ref c) (.int z) (.int 1) (.int 0) :: H)) rfl fun T9 B10 => ?_
  refine p_aloadN B10 d81_23 rfl rfl rfl ?_
  have B11 := (B10.fr 1 rfl)
  exact r_reta B11 d81_24 rfl rfl rfl (by decide) (by decide) (fun vm h P => ⟨rfl, P⟩)
abbrev D78_q71 := E78 0 0 0 0
theorem k_q71 {g : GG} (W : GW g) (x0 x1 x2 x3 x4 : Addr) (H : List Ent) (Lt : List SE) (ms0 : StrIn Lt x2) (ms1 : StrIn Lt x3) (ms2 : StrIn Lt x4) : Ct g D78_q71 #[(.ref x0), (.int 0)] (oLN x0 (.ref x1) (.int 0) :: (x1, .inr ((.object "java/lang/Object"), "[Ljava/lang/Object;", [(.ref x2), (.ref x3), (.ref x4)])) :: H) Lt (fun v vm h => v = some (.ref x2) ∧ Hp g vm h (oLN x0 (.ref x1) (.int 0) :: (x1, .inr ((.object "java/lang/Object"), "[Ljava/lang/Object;", [(.ref x2), (.ref x3), (.ref x4)])) :: H) (Lt)) := by
  refine CtW.body (Ls := #[.val (.ref x0), .val (.int 0)]) W (by decide +kernel) (efr rfl) ?_
  intro M T B
  refine p_aloadN B d78_0 rfl rfl rfl ?_
  refine r_get B d78_1 rfl (host := "") (Or.inl (W448 B.gw)) Via.refl (v := (.ref x1)) (fO (i := 0) (j := 0) rfl rfl) fun T1 B2 => ?_
  refine p_iloadN B2 d78_4 rfl rfl ?_
  refine r_aget B2 d78_5 rfl rfl (aH (i := 1) rfl) (k := 0) (by decide) rfl ?_
  exact r_reta B2 d78_6 rfl rfl rfl (by decide) (by decide) (fun vm h P => ⟨rfl, P⟩)
theorem c_nx3_0 {g : GG} (W : GW g) (it c d : Addr) (z : Int32) (x0 x1 x2 : Addr) (H : List Ent) (Lt : List SE) (ms0 : StrIn Lt x0) (ms1 : StrIn Lt x1) (ms2 : StrIn Lt x2) : CtH g D81_w [(0, 24, 25, 30)] #[(.ref it)] (oLI it (.ref (ilA g c [x0, x1, x2])) (.int z) (.int (0 : Int32)) (.int (0 : Int32)) :: (IL g c d [x0, x1, x2] ++ H)) Lt (fun v vm h => v = some (.ref x0) ∧ Hp g vm h (oLI it (.ref (ilA g c [x0, x1, x2])) (.int z) (.int (1 : Int32)) (.int (0 : Int32)) :: (IL g c d [x0, x1, x2] ++ H)) Lt) := by
  refine CtH.body (Ls := #[.val (.ref it), .unset, .unset]) W (by decide +kernel) (efr rfl) ?_
  intro M T B
  replace B : RH g D81_w M T (oLI it (.ref c) (.int z) (.int 0) (.int 0) :: oLN c (.ref d) (.int 0) :: (d, .inr ((.object "java/lang/Object"), "[Ljava/lang/Object;", [(.ref x0), (.ref x1), (.ref x2)])) :: H) Lt 0 0 := B
  refine p_aloadN B d81_0 rfl rfl rfl ?_
  refine r_get B d81_1 rfl (host := "") (Or.inl (W244 B.gw)) Via.refl (v := (.int 0)) (fO (i := 0) (j := 2) rfl rfl) fun T1 B2 => ?_
  refine p_istoreN B2 d81_4 rfl (Ls' := #[.val (.ref it), .val (.int 0), .unset]) rfl ?_
  refine p_aloadN B2 d81_5 rfl rfl rfl ?_
  refine r_get B2 d81_6 rfl (host := "") (Or.inl (W240 B2.gw)) Via.refl (v := (.ref c)) (fO (i := 0) (j := 0) rfl rfl) fun T3 B4 => ?_
  refine p_iloadN B4 d81_9 rfl rfl ?_
  have B5 := ((B4.fr 2 rfl).fr 2 rfl)
  refine r_iface (D' := D78_q71) B5 d81_10 rfl (W265 B5.gw) (W266 B5.gw) (W267 B5.gw) (by first | rfl | decide) (W482 B5.gw) (W483 B5.gw) (W484 B5.gw) (W485 B5.gw) (W443 B5.gw) (W446 B5.gw) (W486 B5.gw) (by decide) (fE (i := 0) rfl) (k_q71 W c d x0 x1 x2 _ _ ms0 ms1 ms2) (argsL := [(.int 0)]) (rest := []) rfl pd24 rfl rfl rfl (W := 0) rfl (cs' := 0) (ss' := 0) (by decide) (Kv1 fun T6 B8 => ?_)
  refine p_astoreN B8 d81_15 rfl rfl (Ls' := #[.val (.ref it), .val (.int 0), .val (.ref x0)]) rfl ?_
  refine p_aloadN B8 d81_16 rfl rfl rfl ?_
  refine p_iloadN B8 d81_17 rfl rfl ?_
  refine p_iconst B8 d81_18 rfl (v := (1 : Int32)) (by decide) ?_
  refine p_iadd B8 d81_19 rfl (z := (1 : Int32)) (by decide) ?_
  refine r_put B8 d81_20 rfl (host := "") (Or.inl (W244 B8.gw)) Via.refl (i := 2) (j := 2) rfl rfl (Or.inl (W245 B8.gw)) (W227 B8.gw) (ty := .int) (by decide) rfl rfl (H' := (oLN c (.ref d) (.int 0) :: (d, .inr ((.object "java/lang/Object"), "[Ljava/lang/Object;", [(.ref x0), (.ref x1), (.ref x2)])) :: oLI it (.ref c) (.int z) (.int 1) (.int 0) :: H)) rfl fun T9 B10 => ?_
  refine p_aloadN B10 d81_23 rfl rfl rfl ?_
  have B11 := (((B10.fr 1 rfl).fr 1 rfl).fr 2 rfl)
  exact r_reta B11 d81_24 rfl rfl rfl (by decide) (by decide) (fun vm h P => ⟨rfl, P⟩)
abbrev D78_q72 := E78 0 0 0 0
theorem k_q72 {g : GG} (W : GW g) (x0 x1 x2 x3 x4 x5 : Addr) (H : List Ent) (Lt : List SE) (ms0 : StrIn Lt x2) (ms1 : StrIn Lt x3) (ms2 : StrIn Lt x4) (ms3 : StrIn Lt x5) : Ct g D78_q72 #[(.ref x0), (.int 0)] (oLN x0 (.ref x1) (.int 0) :: (x1, .inr ((.object "java/lang/Object"), "[Ljava/lang/Object;", [(.ref x2), (.ref x3), (.ref x4), (.ref x5)])) :: H) Lt (fun v vm h => v = some (.ref x2) ∧ Hp g vm h (oLN x0 (.ref x1) (.int 0) :: (x1, .inr ((.object "java/lang/Object"), "[Ljava/lang/Object;", [(.ref x2), (.ref x3), (.ref x4), (.ref x5)])) :: H) (Lt)) := by
  refine CtW.body (Ls := #[.val (.ref x0), .val (.int 0)]) W (by decide +kernel) (efr rfl) ?_
  intro M T B
  refine p_aloadN B d78_0 rfl rfl rfl ?_
  refine r_get B d78_1 rfl (host := "") (Or.inl (W448 B.gw)) Via.refl (v := (.ref x1)) (fO (i := 0) (j := 0) rfl rfl) fun T1 B2 => ?_
  refine p_iloadN B2 d78_4 rfl rfl ?_
  refine r_aget B2 d78_5 rfl rfl (aH (i := 1) rfl) (k := 0) (by decide) rfl ?_
  exact r_reta B2 d78_6 rfl rfl rfl (by decide) (by decide) (fun vm h P => ⟨rfl, P⟩)
theorem c_nx4_0 {g : GG} (W : GW g) (it c d : Addr) (z : Int32) (x0 x1 x2 x3 : Addr) (H : List Ent) (Lt : List SE) (ms0 : StrIn Lt x0) (ms1 : StrIn Lt x1) (ms2 : StrIn Lt x2) (ms3 : StrIn Lt x3) : CtH g D81_w [(0, 24, 25, 30)] #[(.ref it)] (oLI it (.ref (ilA g c [x0, x1, x2, x3])) (.int z) (.int (0 : Int32)) (.int (0 : Int32)) :: (IL g c d [x0, x1, x2, x3] ++ H)) Lt (fun v vm h => v = some (.ref x0) ∧ Hp g vm h (oLI it (.ref (ilA g c [x0, x1, x2, x3])) (.int z) (.int (1 : Int32)) (.int (0 : Int32)) :: (IL g c d [x0, x1, x2, x3] ++ H)) Lt) := by
  refine CtH.body (Ls := #[.val (.ref it), .unset, .unset]) W (by decide +kernel) (efr rfl) ?_
  intro M T B
  replace B : RH g D81_w M T (oLI it (.ref c) (.int z) (.int 0) (.int 0) :: oLN c (.ref d) (.int 0) :: (d, .inr ((.object "java/lang/Object"), "[Ljava/lang/Object;", [(.ref x0), (.ref x1), (.ref x2), (.ref x3)])) :: H) Lt 0 0 := B
  refine p_aloadN B d81_0 rfl rfl rfl ?_
  refine r_get B d81_1 rfl (host := "") (Or.inl (W244 B.gw)) Via.refl (v := (.int 0)) (fO (i := 0) (j := 2) rfl rfl) fun T1 B2 => ?_
  refine p_istoreN B2 d81_4 rfl (Ls' := #[.val (.ref it), .val (.int 0), .unset]) rfl ?_
  refine p_aloadN B2 d81_5 rfl rfl rfl ?_
  refine r_get B2 d81_6 rfl (host := "") (Or.inl (W240 B2.gw)) Via.refl (v := (.ref c)) (fO (i := 0) (j := 0) rfl rfl) fun T3 B4 => ?_
  refine p_iloadN B4 d81_9 rfl rfl ?_
  have B5 := ((B4.fr 2 rfl).fr 2 rfl)
  refine r_iface (D' := D78_q72) B5 d81_10 rfl (W265 B5.gw) (W266 B5.gw) (W267 B5.gw) (by first | rfl | decide) (W482 B5.gw) (W483 B5.gw) (W484 B5.gw) (W485 B5.gw) (W443 B5.gw) (W446 B5.gw) (W486 B5.gw) (by decide) (fE (i := 0) rfl) (k_q72 W c d x0 x1 x2 x3 _ _ ms0 ms1 ms2 ms3) (argsL := [(.int 0)]) (rest := []) rfl pd24 rfl rfl rfl (W := 0) rfl (cs' := 0) (ss' := 0) (by decide) (Kv1 fun T6 B8 => ?_)
  refine p_astoreN B8 d81_15 rfl rfl (Ls' := #[.val (.ref it), .val (.int 0), .val (.ref x0)]) rfl ?_
  refine p_aloadN B8 d81_16 rfl rfl rfl ?_
  refine p_iloadN B8 d81_17 rfl rfl ?_
  refine p_iconst B8 d81_18 rfl (v := (1 : Int32)) (by decide) ?_
  refine p_iadd B8 d81_19 rfl (z := (1 : Int32)) (by decide) ?_
  refine r_put B8 d81_20 rfl (host := "") (Or.inl (W244 B8.gw)) Via.refl (i := 2) (j := 2) rfl rfl (Or.inl (W245 B8.gw)) (W227 B8.gw) (ty := .int) (by decide) rfl rfl (H' := (oLN c (.ref d) (.int 0) :: (d, .inr ((.object "java/lang/Object"), "[Ljava/lang/Object;", [(.ref x0), (.ref x1), (.ref x2), (.ref x3)])) :: oLI it (.ref c) (.int z) (.int 1) (.int 0) :: H)) rfl fun T9 B10 => ?_
  refine p_aloadN B10 d81_23 rfl rfl rfl ?_
  have B11 := (((B10.fr 1 rfl).fr 1 rfl).fr 2 rfl)
  exact r_reta B11 d81_24 rfl rfl rfl (by decide) (by decide) (fun vm h P => ⟨rfl, P⟩)
theorem W_nx0 {g : GG} (W : GW g) (it c d x : Addr) (z : Int32) (A : List Addr) (hl : A.length ≤ 4) (hx : A[0]? = some x) (H : List Ent) (Lt : List SE) (hs : ∀ x ∈ A, StrIn Lt x) : CtH g D81_w [(0, 24, 25, 30)] #[.ref it] (oLI it (.ref (ilA g c A)) (.int z) (.int (0 : Int32)) (.int (0 : Int32)) :: (IL g c d A ++ H)) Lt (fun v vm h => v = some (.ref x) ∧ Hp g vm h (oLI it (.ref (ilA g c A)) (.int z) (.int (1 : Int32)) (.int (0 : Int32)) :: (IL g c d A ++ H)) Lt) :=
  match A, hl, hx, hs with
  | [], _, h, _ => absurd h (by simp)
  | [x0], _, h, hs => by obtain rfl : x0 = x := (by simpa using h); exact c_nx1_0 W it c d z x0 H Lt (hs x0 (by simp))
  | [x0, x1], _, h, hs => by obtain rfl : x0 = x := (by simpa using h); exact c_nx2_0 W it c d z x0 x1 H Lt (hs x0 (by simp)) (hs x1 (by simp))
  | [x0, x1, x2], _, h, hs => by obtain rfl : x0 = x := (by simpa using h); exact c_nx3_0 W it c d z x0 x1 x2 H Lt (hs x0 (by simp)) (hs x1 (by simp)) (hs x2 (by simp))
  | [x0, x1, x2, x3], _, h, hs => by obtain rfl : x0 = x := (by simpa using h); exact c_nx4_0 W it c d z x0 x1 x2 x3 H Lt (hs x0 (by simp)) (hs x1 (by simp)) (hs x2 (by simp)) (hs x3 (by simp))
  | _ :: _ :: _ :: _ :: _ :: _, h, _, _ => absurd h (by simp only [List.length_cons]; omega)
abbrev D41_q73 := E41 0 0 0 0
theorem k_q73 {g : GG} (W : GW g) (x0 x1 x2 : Addr) (H : List Ent) (Lt : List SE) (ms0 : StrIn Lt x1) (ms1 : StrIn Lt x2) : Ct g D41_q73 #[(.ref x0), (.int 1)] (o12 x0 (.ref x1) (.ref x2) :: H) Lt (fun v vm h => v = some (.ref x2) ∧ Hp g vm h (o12 x0 (.ref x1) (.ref x2) :: H) (Lt)) := by
  refine CtW.body (Ls := #[.val (.ref x0), .val (.int 1)]) W (by decide +kernel) (efr rfl) ?_
  intro M T B
  refine p_iloadN B d41_0 rfl rfl ?_
  refine b_ifT B d41_1 (pc' := 9) (show ¬ (1 : Int32) = (0 : Int32) from by decide) (by decide) (by decide) ?_
  refine p_iloadN B d41_9 rfl rfl ?_
  refine p_iconst B d41_10 rfl (v := (1 : Int32)) (by decide) ?_
  refine b_icF B d41_11 (pc' := 14) rfl (show (1 : Int32) = (1 : Int32) from by decide) ?_
  refine p_aloadN B d41_14 rfl rfl rfl ?_
  refine r_get B d41_15 rfl (host := "") (Or.inl (W206 B.gw)) Via.refl (v := (.ref x2)) (fO (i := 0) (j := 1) rfl rfl) fun T1 B2 => ?_
  refine r_gets B2 d41_18 rfl (Or.inr (W205 B2.gw)) Via.refl (v := (.ref (emOf g))) (em_sta W) fun T3 B4 => ?_
  refine b_aeF B4 d41_21 (pc' := 24) rfl rfl rfl (fun e => Rn.fact B4 (fun vm h E P => Exa.ne ((sI ms1) vm h E P) ((em_exa W) vm h E P) (by decide)) (Value.ref.inj e)) ?_
  refine p_aloadN B4 d41_24 rfl rfl rfl ?_
  refine r_get B4 d41_25 rfl (host := "") (Or.inl (W206 B4.gw)) Via.refl (v := (.ref x2)) (fO (i := 0) (j := 1) rfl rfl) fun T5 B6 => ?_
  exact r_reta B6 d41_28 rfl rfl rfl (by decide) (by decide) (fun vm h P => ⟨rfl, P⟩)
theorem c_nx2_1 {g : GG} (W : GW g) (it c d : Addr) (z : Int32) (x0 x1 : Addr) (H : List Ent) (Lt : List SE) (ms0 : StrIn Lt x0) (ms1 : StrIn Lt x1) : CtH g D81_w [(0, 24, 25, 30)] #[(.ref it)] (oLI it (.ref (ilA g c [x0, x1])) (.int z) (.int (1 : Int32)) (.int (0 : Int32)) :: (IL g c d [x0, x1] ++ H)) Lt (fun v vm h => v = some (.ref x1) ∧ Hp g vm h (oLI it (.ref (ilA g c [x0, x1])) (.int z) (.int (2 : Int32)) (.int (0 : Int32)) :: (IL g c d [x0, x1] ++ H)) Lt) := by
  refine CtH.body (Ls := #[.val (.ref it), .unset, .unset]) W (by decide +kernel) (efr rfl) ?_
  intro M T B
  replace B : RH g D81_w M T (oLI it (.ref c) (.int z) (.int 1) (.int 0) :: o12 c (.ref x0) (.ref x1) :: H) Lt 0 0 := B
  refine p_aloadN B d81_0 rfl rfl rfl ?_
  refine r_get B d81_1 rfl (host := "") (Or.inl (W244 B.gw)) Via.refl (v := (.int 1)) (fO (i := 0) (j := 2) rfl rfl) fun T1 B2 => ?_
  refine p_istoreN B2 d81_4 rfl (Ls' := #[.val (.ref it), .val (.int 1), .unset]) rfl ?_
  refine p_aloadN B2 d81_5 rfl rfl rfl ?_
  refine r_get B2 d81_6 rfl (host := "") (Or.inl (W240 B2.gw)) Via.refl (v := (.ref c)) (fO (i := 0) (j := 0) rfl rfl) fun T3 B4 => ?_
  refine p_iloadN B4 d81_9 rfl rfl ?_
  have B5 := (B4.fr 1 rfl)
  refine r_iface (D' := D41_q73) B5 d81_10 rfl (W265 B5.gw) (W266 B5.gw) (W267 B5.gw) (by first | rfl | decide) (W268 B5.gw) (W269 B5.gw) (W270 B5.gw) (W271 B5.gw) (W224 B5.gw) (W180 B5.gw) (W272 B5.gw) (by decide) (fE (i := 0) rfl) (k_q73 W c x0 x1 _ _ ms0 ms1) (argsL := [(.int 1)]) (rest := []) rfl pd24 rfl rfl rfl (W := 0) rfl (cs' := 0) (ss' := 0) (by decide) (Kv1 fun T6 B8 => ?_)
  refine p_astoreN B8 d81_15 rfl rfl (Ls' := #[.val (.ref it), .val (.int 1), .val (.ref x1)]) rfl ?_
  refine p_aloadN B8 d81_16 rfl rfl rfl ?_
  refine p_iloadN B8 d81_17 rfl rfl ?_
  refine p_iconst B8 d81_18 rfl (v := (1 : Int32)) (by decide) ?_
  refine p_iadd B8 d81_19 rfl (z := (2 : Int32)) (by decide) ?_
  refine r_put B8 d81_20 rfl (host := "") (Or.inl (W244 B8.gw)) Via.refl (i := 1) (j := 2) rfl rfl (Or.inl (W245 B8.gw)) (W227 B8.gw) (ty := .int) (by decide) rfl rfl (H' := (o12 c (.ref x0) (.ref x1) :: oLI it (.ref c) (.int z) (.int 2) (.int 0) :: H)) rfl fun T9 B10 => ?_
  refine p_aloadN B10 d81_23 rfl rfl rfl ?_
  have B11 := (B10.fr 1 rfl)
  exact r_reta B11 d81_24 rfl rfl rfl (by decide) (by decide) (fun vm h P => ⟨rfl, P⟩)
abbrev D78_q74 := E78 0 0 0 0
theorem k_q74 {g : GG} (W : GW g) (x0 x1 x2 x3 x4 : Addr) (H : List Ent) (Lt : List SE) (ms0 : StrIn Lt x2) (ms1 : StrIn Lt x3) (ms2 : StrIn Lt x4) : Ct g D78_q74 #[(.ref x0), (.int 1)] (oLN x0 (.ref x1) (.int 0) :: (x1, .inr ((.object "java/lang/Object"), "[Ljava/lang/Object;", [(.ref x2), (.ref x3), (.ref x4)])) :: H) Lt (fun v vm h => v = some (.ref x3) ∧ Hp g vm h (oLN x0 (.ref x1) (.int 0) :: (x1, .inr ((.object "java/lang/Object"), "[Ljava/lang/Object;", [(.ref x2), (.ref x3), (.ref x4)])) :: H) (Lt)) := by
  refine CtW.body (Ls := #[.val (.ref x0), .val (.int 1)]) W (by decide +kernel) (efr rfl) ?_
  intro M T B
  refine p_aloadN B d78_0 rfl rfl rfl ?_
  refine r_get B d78_1 rfl (host := "") (Or.inl (W448 B.gw)) Via.refl (v := (.ref x1)) (fO (i := 0) (j := 0) rfl rfl) fun T1 B2 => ?_
  refine p_iloadN B2 d78_4 rfl rfl ?_
  refine r_aget B2 d78_5 rfl rfl (aH (i := 1) rfl) (k := 1) (by decide) rfl ?_
  exact r_reta B2 d78_6 rfl rfl rfl (by decide) (by decide) (fun vm h P => ⟨rfl, P⟩)
theorem c_nx3_1 {g : GG} (W : GW g) (it c d : Addr) (z : Int32) (x0 x1 x2 : Addr) (H : List Ent) (Lt : List SE) (ms0 : StrIn Lt x0) (ms1 : StrIn Lt x1) (ms2 : StrIn Lt x2) : CtH g D81_w [(0, 24, 25, 30)] #[(.ref it)] (oLI it (.ref (ilA g c [x0, x1, x2])) (.int z) (.int (1 : Int32)) (.int (0 : Int32)) :: (IL g c d [x0, x1, x2] ++ H)) Lt (fun v vm h => v = some (.ref x1) ∧ Hp g vm h (oLI it (.ref (ilA g c [x0, x1, x2])) (.int z) (.int (2 : Int32)) (.int (0 : Int32)) :: (IL g c d [x0, x1, x2] ++ H)) Lt) := by
  refine CtH.body (Ls := #[.val (.ref it), .unset, .unset]) W (by decide +kernel) (efr rfl) ?_
  intro M T B
  replace B : RH g D81_w M T (oLI it (.ref c) (.int z) (.int 1) (.int 0) :: oLN c (.ref d) (.int 0) :: (d, .inr ((.object "java/lang/Object"), "[Ljava/lang/Object;", [(.ref x0), (.ref x1), (.ref x2)])) :: H) Lt 0 0 := B
  refine p_aloadN B d81_0 rfl rfl rfl ?_
  refine r_get B d81_1 rfl (host := "") (Or.inl (W244 B.gw)) Via.refl (v := (.int 1)) (fO (i := 0) (j := 2) rfl rfl) fun T1 B2 => ?_
  refine p_istoreN B2 d81_4 rfl (Ls' := #[.val (.ref it), .val (.int 1), .unset]) rfl ?_
  refine p_aloadN B2 d81_5 rfl rfl rfl ?_
  refine r_get B2 d81_6 rfl (host := "") (Or.inl (W240 B2.gw)) Via.refl (v := (.ref c)) (fO (i := 0) (j := 0) rfl rfl) fun T3 B4 => ?_
  refine p_iloadN B4 d81_9 rfl rfl ?_
  have B5 := ((B4.fr 2 rfl).fr 2 rfl)
  refine r_iface (D' := D78_q74) B5 d81_10 rfl (W265 B5.gw) (W266 B5.gw) (W267 B5.gw) (by first | rfl | decide) (W482 B5.gw) (W483 B5.gw) (W484 B5.gw) (W485 B5.gw) (W443 B5.gw) (W446 B5.gw) (W486 B5.gw) (by decide) (fE (i := 0) rfl) (k_q74 W c d x0 x1 x2 _ _ ms0 ms1 ms2) (argsL := [(.int 1)]) (rest := []) rfl pd24 rfl rfl rfl (W := 0) rfl (cs' := 0) (ss' := 0) (by decide) (Kv1 fun T6 B8 => ?_)
  refine p_astoreN B8 d81_15 rfl rfl (Ls' := #[.val (.ref it), .val (.int 1), .val (.ref x1)]) rfl ?_
  refine p_aloadN B8 d81_16 rfl rfl rfl ?_
  refine p_iloadN B8 d81_17 rfl rfl ?_
  refine p_iconst B8 d81_18 rfl (v := (1 : Int32)) (by decide) ?_
  refine p_iadd B8 d81_19 rfl (z := (2 : Int32)) (by decide) ?_
  refine r_put B8 d81_20 rfl (host := "") (Or.inl (W244 B8.gw)) Via.refl (i := 2) (j := 2) rfl rfl (Or.inl (W245 B8.gw)) (W227 B8.gw) (ty := .int) (by decide) rfl rfl (H' := (oLN c (.ref d) (.int 0) :: (d, .inr ((.object "java/lang/Object"), "[Ljava/lang/Object;", [(.ref x0), (.ref x1), (.ref x2)])) :: oLI it (.ref c) (.int z) (.int 2) (.int 0) :: H)) rfl fun T9 B10 => ?_
  refine p_aloadN B10 d81_23 rfl rfl rfl ?_
  have B11 := (((B10.fr 1 rfl).fr 1 rfl).fr 2 rfl)
  exact r_reta B11 d81_24 rfl rfl rfl (by decide) (by decide) (fun vm h P => ⟨rfl, P⟩)
abbrev D78_q75 := E78 0 0 0 0
theorem k_q75 {g : GG} (W : GW g) (x0 x1 x2 x3 x4 x5 : Addr) (H : List Ent) (Lt : List SE) (ms0 : StrIn Lt x2) (ms1 : StrIn Lt x3) (ms2 : StrIn Lt x4) (ms3 : StrIn Lt x5) : Ct g D78_q75 #[(.ref x0), (.int 1)] (oLN x0 (.ref x1) (.int 0) :: (x1, .inr ((.object "java/lang/Object"), "[Ljava/lang/Object;", [(.ref x2), (.ref x3), (.ref x4), (.ref x5)])) :: H) Lt (fun v vm h => v = some (.ref x3) ∧ Hp g vm h (oLN x0 (.ref x1) (.int 0) :: (x1, .inr ((.object "java/lang/Object"), "[Ljava/lang/Object;", [(.ref x2), (.ref x3), (.ref x4), (.ref x5)])) :: H) (Lt)) := by
  refine CtW.body (Ls := #[.val (.ref x0), .val (.int 1)]) W (by decide +kernel) (efr rfl) ?_
  intro M T B
  refine p_aloadN B d78_0 rfl rfl rfl ?_
  refine r_get B d78_1 rfl (host := "") (Or.inl (W448 B.gw)) Via.refl (v := (.ref x1)) (fO (i := 0) (j := 0) rfl rfl) fun T1 B2 => ?_
  refine p_iloadN B2 d78_4 rfl rfl ?_
  refine r_aget B2 d78_5 rfl rfl (aH (i := 1) rfl) (k := 1) (by decide) rfl ?_
  exact r_reta B2 d78_6 rfl rfl rfl (by decide) (by decide) (fun vm h P => ⟨rfl, P⟩)
theorem c_nx4_1 {g : GG} (W : GW g) (it c d : Addr) (z : Int32) (x0 x1 x2 x3 : Addr) (H : List Ent) (Lt : List SE) (ms0 : StrIn Lt x0) (ms1 : StrIn Lt x1) (ms2 : StrIn Lt x2) (ms3 : StrIn Lt x3) : CtH g D81_w [(0, 24, 25, 30)] #[(.ref it)] (oLI it (.ref (ilA g c [x0, x1, x2, x3])) (.int z) (.int (1 : Int32)) (.int (0 : Int32)) :: (IL g c d [x0, x1, x2, x3] ++ H)) Lt (fun v vm h => v = some (.ref x1) ∧ Hp g vm h (oLI it (.ref (ilA g c [x0, x1, x2, x3])) (.int z) (.int (2 : Int32)) (.int (0 : Int32)) :: (IL g c d [x0, x1, x2, x3] ++ H)) Lt) := by
  refine CtH.body (Ls := #[.val (.ref it), .unset, .unset]) W (by decide +kernel) (efr rfl) ?_
  intro M T B
  replace B : RH g D81_w M T (oLI it (.ref c) (.int z) (.int 1) (.int 0) :: oLN c (.ref d) (.int 0) :: (d, .inr ((.object "java/lang/Object"), "[Ljava/lang/Object;", [(.ref x0), (.ref x1), (.ref x2), (.ref x3)])) :: H) Lt 0 0 := B
  refine p_aloadN B d81_0 rfl rfl rfl ?_
  refine r_get B d81_1 rfl (host := "") (Or.inl (W244 B.gw)) Via.refl (v := (.int 1)) (fO (i := 0) (j := 2) rfl rfl) fun T1 B2 => ?_
  refine p_istoreN B2 d81_4 rfl (Ls' := #[.val (.ref it), .val (.int 1), .unset]) rfl ?_
  refine p_aloadN B2 d81_5 rfl rfl rfl ?_
  refine r_get B2 d81_6 rfl (host := "") (Or.inl (W240 B2.gw)) Via.refl (v := (.ref c)) (fO (i := 0) (j := 0) rfl rfl) fun T3 B4 => ?_
  refine p_iloadN B4 d81_9 rfl rfl ?_
  have B5 := ((B4.fr 2 rfl).fr 2 rfl)
  refine r_iface (D' := D78_q75) B5 d81_10 rfl (W265 B5.gw) (W266 B5.gw) (W267 B5.gw) (by first | rfl | decide) (W482 B5.gw) (W483 B5.gw) (W484 B5.gw) (W485 B5.gw) (W443 B5.gw) (W446 B5.gw) (W486 B5.gw) (by decide) (fE (i := 0) rfl) (k_q75 W c d x0 x1 x2 x3 _ _ ms0 ms1 ms2 ms3) (argsL := [(.int 1)]) (rest := []) rfl pd24 rfl rfl rfl (W := 0) rfl (cs' := 0) (ss' := 0) (by decide) (Kv1 fun T6 B8 => ?_)
  refine p_astoreN B8 d81_15 rfl rfl (Ls' := #[.val (.ref it), .val (.int 1), .val (.ref x1)]) rfl ?_
  refine p_aloadN B8 d81_16 rfl rfl rfl ?_
  refine p_iloadN B8 d81_17 rfl rfl ?_
  refine p_iconst B8 d81_18 rfl (v := (1 : Int32)) (by decide) ?_
  refine p_iadd B8 d81_19 rfl (z := (2 : Int32)) (by decide) ?_
  refine r_put B8 d81_20 rfl (host := "") (Or.inl (W244 B8.gw)) Via.refl (i := 2) (j := 2) rfl rfl (Or.inl (W245 B8.gw)) (W227 B8.gw) (ty := .int) (by decide) rfl rfl (H' := (oLN c (.ref d) (.int 0) :: (d, .inr ((.object "java/lang/Object"), "[Ljava/lang/Object;", [(.ref x0), (.ref x1), (.ref x2), (.ref x3)])) :: oLI it (.ref c) (.int z) (.int 2) (.int 0) :: H)) rfl fun T9 B10 => ?_
  refine p_aloadN B10 d81_23 rfl rfl rfl ?_
  have B11 := (((B10.fr 1 rfl).fr 1 rfl).fr 2 rfl)
  exact r_reta B11 d81_24 rfl rfl rfl (by decide) (by decide) (fun vm h P => ⟨rfl, P⟩)
theorem W_nx1 {g : GG} (W : GW g) (it c d x : Addr) (z : Int32) (A : List Addr) (hl : A.length ≤ 4) (hx : A[1]? = some x) (H : List Ent) (Lt : List SE) (hs : ∀ x ∈ A, StrIn Lt x) : CtH g D81_w [(0, 24, 25, 30)] #[.ref it] (oLI it (.ref (ilA g c A)) (.int z) (.int (1 : Int32)) (.int (0 : Int32)) :: (IL g c d A ++ H)) Lt (fun v vm h => v = some (.ref x) ∧ Hp g vm h (oLI it (.ref (ilA g c A)) (.int z) (.int (2 : Int32)) (.int (0 : Int32)) :: (IL g c d A ++ H)) Lt) :=
  match A, hl, hx, hs with
  | [], _, h, _ => absurd h (by simp)
  | [x0], _, h, _ => absurd h (by simp)
  | [x0, x1], _, h, hs => by obtain rfl : x1 = x := (by simpa using h); exact c_nx2_1 W it c d z x0 x1 H Lt (hs x0 (by simp)) (hs x1 (by simp))
  | [x0, x1, x2], _, h, hs => by obtain rfl : x1 = x := (by simpa using h); exact c_nx3_1 W it c d z x0 x1 x2 H Lt (hs x0 (by simp)) (hs x1 (by simp)) (hs x2 (by simp))
  | [x0, x1, x2, x3], _, h, hs => by obtain rfl : x1 = x := (by simpa using h); exact c_nx4_1 W it c d z x0 x1 x2 x3 H Lt (hs x0 (by simp)) (hs x1 (by simp)) (hs x2 (by simp)) (hs x3 (by simp))
  | _ :: _ :: _ :: _ :: _ :: _, h, _, _ => absurd h (by simp only [List.length_cons]; omega)
abbrev D78_q76 := E78 0 0 0 0
theorem k_q76 {g : GG} (W : GW g) (x0 x1 x2 x3 x4 : Addr) (H : List Ent) (Lt : List SE) (ms0 : StrIn Lt x2) (ms1 : StrIn Lt x3) (ms2 : StrIn Lt x4) : Ct g D78_q76 #[(.ref x0), (.int 2)] (oLN x0 (.ref x1) (.int 0) :: (x1, .inr ((.object "java/lang/Object"), "[Ljava/lang/Object;", [(.ref x2), (.ref x3), (.ref x4)])) :: H) Lt (fun v vm h => v = some (.ref x4) ∧ Hp g vm h (oLN x0 (.ref x1) (.int 0) :: (x1, .inr ((.object "java/lang/Object"), "[Ljava/lang/Object;", [(.ref x2), (.ref x3), (.ref x4)])) :: H) (Lt)) := by
  refine CtW.body (Ls := #[.val (.ref x0), .val (.int 2)]) W (by decide +kernel) (efr rfl) ?_
  intro M T B
  refine p_aloadN B d78_0 rfl rfl rfl ?_
  refine r_get B d78_1 rfl (host := "") (Or.inl (W448 B.gw)) Via.refl (v := (.ref x1)) (fO (i := 0) (j := 0) rfl rfl) fun T1 B2 => ?_
  refine p_iloadN B2 d78_4 rfl rfl ?_
  refine r_aget B2 d78_5 rfl rfl (aH (i := 1) rfl) (k := 2) (by decide) rfl ?_
  exact r_reta B2 d78_6 rfl rfl rfl (by decide) (by decide) (fun vm h P => ⟨rfl, P⟩)
theorem c_nx3_2 {g : GG} (W : GW g) (it c d : Addr) (z : Int32) (x0 x1 x2 : Addr) (H : List Ent) (Lt : List SE) (ms0 : StrIn Lt x0) (ms1 : StrIn Lt x1) (ms2 : StrIn Lt x2) : CtH g D81_w [(0, 24, 25, 30)] #[(.ref it)] (oLI it (.ref (ilA g c [x0, x1, x2])) (.int z) (.int (2 : Int32)) (.int (0 : Int32)) :: (IL g c d [x0, x1, x2] ++ H)) Lt (fun v vm h => v = some (.ref x2) ∧ Hp g vm h (oLI it (.ref (ilA g c [x0, x1, x2])) (.int z) (.int (3 : Int32)) (.int (0 : Int32)) :: (IL g c d [x0, x1, x2] ++ H)) Lt) := by
  refine CtH.body (Ls := #[.val (.ref it), .unset, .unset]) W (by decide +kernel) (efr rfl) ?_
  intro M T B
  replace B : RH g D81_w M T (oLI it (.ref c) (.int z) (.int 2) (.int 0) :: oLN c (.ref d) (.int 0) :: (d, .inr ((.object "java/lang/Object"), "[Ljava/lang/Object;", [(.ref x0), (.ref x1), (.ref x2)])) :: H) Lt 0 0 := B
  refine p_aloadN B d81_0 rfl rfl rfl ?_
  refine r_get B d81_1 rfl (host := "") (Or.inl (W244 B.gw)) Via.refl (v := (.int 2)) (fO (i := 0) (j := 2) rfl rfl) fun T1 B2 => ?_
  refine p_istoreN B2 d81_4 rfl (Ls' := #[.val (.ref it), .val (.int 2), .unset]) rfl ?_
  refine p_aloadN B2 d81_5 rfl rfl rfl ?_
  refine r_get B2 d81_6 rfl (host := "") (Or.inl (W240 B2.gw)) Via.refl (v := (.ref c)) (fO (i := 0) (j := 0) rfl rfl) fun T3 B4 => ?_
  refine p_iloadN B4 d81_9 rfl rfl ?_
  have B5 := ((B4.fr 2 rfl).fr 2 rfl)
  refine r_iface (D' := D78_q76) B5 d81_10 rfl (W265 B5.gw) (W266 B5.gw) (W267 B5.gw) (by first | rfl | decide) (W482 B5.gw) (W483 B5.gw) (W484 B5.gw) (W485 B5.gw) (W443 B5.gw) (W446 B5.gw) (W486 B5.gw) (by decide) (fE (i := 0) rfl) (k_q76 W c d x0 x1 x2 _ _ ms0 ms1 ms2) (argsL := [(.int 2)]) (rest := []) rfl pd24 rfl rfl rfl (W := 0) rfl (cs' := 0) (ss' := 0) (by decide) (Kv1 fun T6 B8 => ?_)
  refine p_astoreN B8 d81_15 rfl rfl (Ls' := #[.val (.ref it), .val (.int 2), .val (.ref x2)]) rfl ?_
  refine p_aloadN B8 d81_16 rfl rfl rfl ?_
  refine p_iloadN B8 d81_17 rfl rfl ?_
  refine p_iconst B8 d81_18 rfl (v := (1 : Int32)) (by decide) ?_
  refine p_iadd B8 d81_19 rfl (z := (3 : Int32)) (by decide) ?_
  refine r_put B8 d81_20 rfl (host := "") (Or.inl (W244 B8.gw)) Via.refl (i := 2) (j := 2) rfl rfl (Or.inl (W245 B8.gw)) (W227 B8.gw) (ty := .int) (by decide) rfl rfl (H' := (oLN c (.ref d) (.int 0) :: (d, .inr ((.object "java/lang/Object"), "[Ljava/lang/Object;", [(.ref x0), (.ref x1), (.ref x2)])) :: oLI it (.ref c) (.int z) (.int 3) (.int 0) :: H)) rfl fun T9 B10 => ?_
  refine p_aloadN B10 d81_23 rfl rfl rfl ?_
  have B11 := (((B10.fr 1 rfl).fr 1 rfl).fr 2 rfl)
  exact r_reta B11 d81_24 rfl rfl rfl (by decide) (by decide) (fun vm h P => ⟨rfl, P⟩)
abbrev D78_q77 := E78 0 0 0 0
theorem k_q77 {g : GG} (W : GW g) (x0 x1 x2 x3 x4 x5 : Addr) (H : List Ent) (Lt : List SE) (ms0 : StrIn Lt x2) (ms1 : StrIn Lt x3) (ms2 : StrIn Lt x4) (ms3 : StrIn Lt x5) : Ct g D78_q77 #[(.ref x0), (.int 2)] (oLN x0 (.ref x1) (.int 0) :: (x1, .inr ((.object "java/lang/Object"), "[Ljava/lang/Object;", [(.ref x2), (.ref x3), (.ref x4), (.ref x5)])) :: H) Lt (fun v vm h => v = some (.ref x4) ∧ Hp g vm h (oLN x0 (.ref x1) (.int 0) :: (x1, .inr ((.object "java/lang/Object"), "[Ljava/lang/Object;", [(.ref x2), (.ref x3), (.ref x4), (.ref x5)])) :: H) (Lt)) := by
  refine CtW.body (Ls := #[.val (.ref x0), .val (.int 2)]) W (by decide +kernel) (efr rfl) ?_
  intro M T B
  refine p_aloadN B d78_0 rfl rfl rfl ?_
  refine r_get B d78_1 rfl (host := "") (Or.inl (W448 B.gw)) Via.refl (v := (.ref x1)) (fO (i := 0) (j := 0) rfl rfl) fun T1 B2 => ?_
  refine p_iloadN B2 d78_4 rfl rfl ?_
  refine r_aget B2 d78_5 rfl rfl (aH (i := 1) rfl) (k := 2) (by decide) rfl ?_
  exact r_reta B2 d78_6 rfl rfl rfl (by decide) (by decide) (fun vm h P => ⟨rfl, P⟩)
theorem c_nx4_2 {g : GG} (W : GW g) (it c d : Addr) (z : Int32) (x0 x1 x2 x3 : Addr) (H : List Ent) (Lt : List SE) (ms0 : StrIn Lt x0) (ms1 : StrIn Lt x1) (ms2 : StrIn Lt x2) (ms3 : StrIn Lt x3) : CtH g D81_w [(0, 24, 25, 30)] #[(.ref it)] (oLI it (.ref (ilA g c [x0, x1, x2, x3])) (.int z) (.int (2 : Int32)) (.int (0 : Int32)) :: (IL g c d [x0, x1, x2, x3] ++ H)) Lt (fun v vm h => v = some (.ref x2) ∧ Hp g vm h (oLI it (.ref (ilA g c [x0, x1, x2, x3])) (.int z) (.int (3 : Int32)) (.int (0 : Int32)) :: (IL g c d [x0, x1, x2, x3] ++ H)) Lt) := by
  refine CtH.body (Ls := #[.val (.ref it), .unset, .unset]) W (by decide +kernel) (efr rfl) ?_
  intro M T B
  replace B : RH g D81_w M T (oLI it (.ref c) (.int z) (.int 2) (.int 0) :: oLN c (.ref d) (.int 0) :: (d, .inr ((.object "java/lang/Object"), "[Ljava/lang/Object;", [(.ref x0), (.ref x1), (.ref x2), (.ref x3)])) :: H) Lt 0 0 := B
  refine p_aloadN B d81_0 rfl rfl rfl ?_
  refine r_get B d81_1 rfl (host := "") (Or.inl (W244 B.gw)) Via.refl (v := (.int 2)) (fO (i := 0) (j := 2) rfl rfl) fun T1 B2 => ?_
  refine p_istoreN B2 d81_4 rfl (Ls' := #[.val (.ref it), .val (.int 2), .unset]) rfl ?_
  refine p_aloadN B2 d81_5 rfl rfl rfl ?_
  refine r_get B2 d81_6 rfl (host := "") (Or.inl (W240 B2.gw)) Via.refl (v := (.ref c)) (fO (i := 0) (j := 0) rfl rfl) fun T3 B4 => ?_
  refine p_iloadN B4 d81_9 rfl rfl ?_
  have B5 := ((B4.fr 2 rfl).fr 2 rfl)
  refine r_iface (D' := D78_q77) B5 d81_10 rfl (W265 B5.gw) (W266 B5.gw) (W267 B5.gw) (by first | rfl | decide) (W482 B5.gw) (W483 B5.gw) (W484 B5.gw) (W485 B5.gw) (W443 B5.gw) (W446 B5.gw) (W486 B5.gw) (by decide) (fE (i := 0) rfl) (k_q77 W c d x0 x1 x2 x3 _ _ ms0 ms1 ms2 ms3) (argsL := [(.int 2)]) (rest := []) rfl pd24 rfl rfl rfl (W := 0) rfl (cs' := 0) (ss' := 0) (by decide) (Kv1 fun T6 B8 => ?_)
  refine p_astoreN B8 d81_15 rfl rfl (Ls' := #[.val (.ref it), .val (.int 2), .val (.ref x2)]) rfl ?_
  refine p_aloadN B8 d81_16 rfl rfl rfl ?_
  refine p_iloadN B8 d81_17 rfl rfl ?_
  refine p_iconst B8 d81_18 rfl (v := (1 : Int32)) (by decide) ?_
  refine p_iadd B8 d81_19 rfl (z := (3 : Int32)) (by decide) ?_
  refine r_put B8 d81_20 rfl (host := "") (Or.inl (W244 B8.gw)) Via.refl (i := 2) (j := 2) rfl rfl (Or.inl (W245 B8.gw)) (W227 B8.gw) (ty := .int) (by decide) rfl rfl (H' := (oLN c (.ref d) (.int 0) :: (d, .inr ((.object "java/lang/Object"), "[Ljava/lang/Object;", [(.ref x0), (.ref x1), (.ref x2), (.ref x3)])) :: oLI it (.ref c) (.int z) (.int 3) (.int 0) :: H)) rfl fun T9 B10 => ?_
  refine p_aloadN B10 d81_23 rfl rfl rfl ?_
  have B11 := (((B10.fr 1 rfl).fr 1 rfl).fr 2 rfl)
  exact r_reta B11 d81_24 rfl rfl rfl (by decide) (by decide) (fun vm h P => ⟨rfl, P⟩)
theorem W_nx2 {g : GG} (W : GW g) (it c d x : Addr) (z : Int32) (A : List Addr) (hl : A.length ≤ 4) (hx : A[2]? = some x) (H : List Ent) (Lt : List SE) (hs : ∀ x ∈ A, StrIn Lt x) : CtH g D81_w [(0, 24, 25, 30)] #[.ref it] (oLI it (.ref (ilA g c A)) (.int z) (.int (2 : Int32)) (.int (0 : Int32)) :: (IL g c d A ++ H)) Lt (fun v vm h => v = some (.ref x) ∧ Hp g vm h (oLI it (.ref (ilA g c A)) (.int z) (.int (3 : Int32)) (.int (0 : Int32)) :: (IL g c d A ++ H)) Lt) :=
  match A, hl, hx, hs with
  | [], _, h, _ => absurd h (by simp)
  | [x0], _, h, _ => absurd h (by simp)
  | [x0, x1], _, h, _ => absurd h (by simp)
  | [x0, x1, x2], _, h, hs => by obtain rfl : x2 = x := (by simpa using h); exact c_nx3_2 W it c d z x0 x1 x2 H Lt (hs x0 (by simp)) (hs x1 (by simp)) (hs x2 (by simp))
  | [x0, x1, x2, x3], _, h, hs => by obtain rfl : x2 = x := (by simpa using h); exact c_nx4_2 W it c d z x0 x1 x2 x3 H Lt (hs x0 (by simp)) (hs x1 (by simp)) (hs x2 (by simp)) (hs x3 (by simp))
  | _ :: _ :: _ :: _ :: _ :: _, h, _, _ => absurd h (by simp only [List.length_cons]; omega)
abbrev D78_q78 := E78 0 0 0 0
theorem k_q78 {g : GG} (W : GW g) (x0 x1 x2 x3 x4 x5 : Addr) (H : List Ent) (Lt : List SE) (ms0 : StrIn Lt x2) (ms1 : StrIn Lt x3) (ms2 : StrIn Lt x4) (ms3 : StrIn Lt x5) : Ct g D78_q78 #[(.ref x0), (.int 3)] (oLN x0 (.ref x1) (.int 0) :: (x1, .inr ((.object "java/lang/Object"), "[Ljava/lang/Object;", [(.ref x2), (.ref x3), (.ref x4), (.ref x5)])) :: H) Lt (fun v vm h => v = some (.ref x5) ∧ Hp g vm h (oLN x0 (.ref x1) (.int 0) :: (x1, .inr ((.object "java/lang/Object"), "[Ljava/lang/Object;", [(.ref x2), (.ref x3), (.ref x4), (.ref x5)])) :: H) (Lt)) := by
  refine CtW.body (Ls := #[.val (.ref x0), .val (.int 3)]) W (by decide +kernel) (efr rfl) ?_
  intro M T B
  refine p_aloadN B d78_0 rfl rfl rfl ?_
  refine r_get B d78_1 rfl (host := "") (Or.inl (W448 B.gw)) Via.refl (v := (.ref x1)) (fO (i := 0) (j := 0) rfl rfl) fun T1 B2 => ?_
  refine p_iloadN B2 d78_4 rfl rfl ?_
  refine r_aget B2 d78_5 rfl rfl (aH (i := 1) rfl) (k := 3) (by decide) rfl ?_
  exact r_reta B2 d78_6 rfl rfl rfl (by decide) (by decide) (fun vm h P => ⟨rfl, P⟩)
theorem c_nx4_3 {g : GG} (W : GW g) (it c d : Addr) (z : Int32) (x0 x1 x2 x3 : Addr) (H : List Ent) (Lt : List SE) (ms0 : StrIn Lt x0) (ms1 : StrIn Lt x1) (ms2 : StrIn Lt x2) (ms3 : StrIn Lt x3) : CtH g D81_w [(0, 24, 25, 30)] #[(.ref it)] (oLI it (.ref (ilA g c [x0, x1, x2, x3])) (.int z) (.int (3 : Int32)) (.int (0 : Int32)) :: (IL g c d [x0, x1, x2, x3] ++ H)) Lt (fun v vm h => v = some (.ref x3) ∧ Hp g vm h (oLI it (.ref (ilA g c [x0, x1, x2, x3])) (.int z) (.int (4 : Int32)) (.int (0 : Int32)) :: (IL g c d [x0, x1, x2, x3] ++ H)) Lt) := by
  refine CtH.body (Ls := #[.val (.ref it), .unset, .unset]) W (by decide +kernel) (efr rfl) ?_
  intro M T B
  replace B : RH g D81_w M T (oLI it (.ref c) (.int z) (.int 3) (.int 0) :: oLN c (.ref d) (.int 0) :: (d, .inr ((.object "java/lang/Object"), "[Ljava/lang/Object;", [(.ref x0), (.ref x1), (.ref x2), (.ref x3)])) :: H) Lt 0 0 := B
  refine p_aloadN B d81_0 rfl rfl rfl ?_
  refine r_get B d81_1 rfl (host := "") (Or.inl (W244 B.gw)) Via.refl (v := (.int 3)) (fO (i := 0) (j := 2) rfl rfl) fun T1 B2 => ?_
  refine p_istoreN B2 d81_4 rfl (Ls' := #[.val (.ref it), .val (.int 3), .unset]) rfl ?_
  refine p_aloadN B2 d81_5 rfl rfl rfl ?_
  refine r_get B2 d81_6 rfl (host := "") (Or.inl (W240 B2.gw)) Via.refl (v := (.ref c)) (fO (i := 0) (j := 0) rfl rfl) fun T3 B4 => ?_
  refine p_iloadN B4 d81_9 rfl rfl ?_
  have B5 := ((B4.fr 2 rfl).fr 2 rfl)
  refine r_iface (D' := D78_q78) B5 d81_10 rfl (W265 B5.gw) (W266 B5.gw) (W267 B5.gw) (by first | rfl | decide) (W482 B5.gw) (W483 B5.gw) (W484 B5.gw) (W485 B5.gw) (W443 B5.gw) (W446 B5.gw) (W486 B5.gw) (by decide) (fE (i := 0) rfl) (k_q78 W c d x0 x1 x2 x3 _ _ ms0 ms1 ms2 ms3) (argsL := [(.int 3)]) (rest := []) rfl pd24 rfl rfl rfl (W := 0) rfl (cs' := 0) (ss' := 0) (by decide) (Kv1 fun T6 B8 => ?_)
  refine p_astoreN B8 d81_15 rfl rfl (Ls' := #[.val (.ref it), .val (.int 3), .val (.ref x3)]) rfl ?_
  refine p_aloadN B8 d81_16 rfl rfl rfl ?_
  refine p_iloadN B8 d81_17 rfl rfl ?_
  refine p_iconst B8 d81_18 rfl (v := (1 : Int32)) (by decide) ?_
  refine p_iadd B8 d81_19 rfl (z := (4 : Int32)) (by decide) ?_
  refine r_put B8 d81_20 rfl (host := "") (Or.inl (W244 B8.gw)) Via.refl (i := 2) (j := 2) rfl rfl (Or.inl (W245 B8.gw)) (W227 B8.gw) (ty := .int) (by decide) rfl rfl (H' := (oLN c (.ref d) (.int 0) :: (d, .inr ((.object "java/lang/Object"), "[Ljava/lang/Object;", [(.ref x0), (.ref x1), (.ref x2), (.ref x3)])) :: oLI it (.ref c) (.int z) (.int 4) (.int 0) :: H)) rfl fun T9 B10 => ?_
  refine p_aloadN B10 d81_23 rfl rfl rfl ?_
  have B11 := (((B10.fr 1 rfl).fr 1 rfl).fr 2 rfl)
  exact r_reta B11 d81_24 rfl rfl rfl (by decide) (by decide) (fun vm h P => ⟨rfl, P⟩)
theorem W_nx3 {g : GG} (W : GW g) (it c d x : Addr) (z : Int32) (A : List Addr) (hl : A.length ≤ 4) (hx : A[3]? = some x) (H : List Ent) (Lt : List SE) (hs : ∀ x ∈ A, StrIn Lt x) : CtH g D81_w [(0, 24, 25, 30)] #[.ref it] (oLI it (.ref (ilA g c A)) (.int z) (.int (3 : Int32)) (.int (0 : Int32)) :: (IL g c d A ++ H)) Lt (fun v vm h => v = some (.ref x) ∧ Hp g vm h (oLI it (.ref (ilA g c A)) (.int z) (.int (4 : Int32)) (.int (0 : Int32)) :: (IL g c d A ++ H)) Lt) :=
  match A, hl, hx, hs with
  | [], _, h, _ => absurd h (by simp)
  | [x0], _, h, _ => absurd h (by simp)
  | [x0, x1], _, h, _ => absurd h (by simp)
  | [x0, x1, x2], _, h, _ => absurd h (by simp)
  | [x0, x1, x2, x3], _, h, hs => by obtain rfl : x3 = x := (by simpa using h); exact c_nx4_3 W it c d z x0 x1 x2 x3 H Lt (hs x0 (by simp)) (hs x1 (by simp)) (hs x2 (by simp)) (hs x3 (by simp))
  | _ :: _ :: _ :: _ :: _ :: _, h, _, _ => absurd h (by simp only [List.length_cons]; omega)
abbrev D40_w := E40 0 0 0 0
theorem c_hn0 {g : GG} (W : GW g) (it l : Addr) (zs : Int32) (zc : Int32) (H : List Ent) (Lt : List SE) (he : zc = zs) : Ct g D40_w #[(.ref it)] (oLI it (.ref l) (.int zs) (.int zc) (.int (0 : Int32)) :: H) Lt (fun v vm h => v = some (.int (0 : Int32)) ∧ Hp g vm h (oLI it (.ref l) (.int zs) (.int zc) (.int (0 : Int32)) :: H) Lt) := by
  refine CtW.body (Ls := #[.val (.ref it)]) W (by decide +kernel) (efr rfl) ?_
  intro M T B
  replace B : RH g D40_w M T (oLI it (.ref l) (.int zs) (.int zc) (.int 0) :: H) Lt 0 0 := B
  refine p_aloadN B d40_0 rfl rfl rfl ?_
  refine r_get B d40_1 rfl (host := "") (Or.inl (W244 B.gw)) Via.refl (v := (.int zc)) (fO (i := 0) (j := 2) rfl rfl) fun T1 B2 => ?_
  refine p_aloadN B2 d40_4 rfl rfl rfl ?_
  refine r_get B2 d40_5 rfl (host := "") (Or.inl (W242 B2.gw)) Via.refl (v := (.int zs)) (fO (i := 0) (j := 1) rfl rfl) fun T3 B4 => ?_
  refine b_icT B4 d40_8 (pc' := 15) he (by decide) (by decide) ?_
  refine p_iconst B4 d40_15 rfl (v := (0 : Int32)) (by decide) ?_
  exact r_reti B4 d40_16 rfl (by simp) rfl (by decide) (by decide) (fun vm h P => ⟨rfl, P⟩)
theorem c_hn1 {g : GG} (W : GW g) (it l : Addr) (zs : Int32) (zc : Int32) (H : List Ent) (Lt : List SE) (he : ¬ zc = zs) : Ct g D40_w #[(.ref it)] (oLI it (.ref l) (.int zs) (.int zc) (.int (0 : Int32)) :: H) Lt (fun v vm h => v = some (.int (1 : Int32)) ∧ Hp g vm h (oLI it (.ref l) (.int zs) (.int zc) (.int (0 : Int32)) :: H) Lt) := by
  refine CtW.body (Ls := #[.val (.ref it)]) W (by decide +kernel) (efr rfl) ?_
  intro M T B
  replace B : RH g D40_w M T (oLI it (.ref l) (.int zs) (.int zc) (.int 0) :: H) Lt 0 0 := B
  refine p_aloadN B d40_0 rfl rfl rfl ?_
  refine r_get B d40_1 rfl (host := "") (Or.inl (W244 B.gw)) Via.refl (v := (.int zc)) (fO (i := 0) (j := 2) rfl rfl) fun T1 B2 => ?_
  refine p_aloadN B2 d40_4 rfl rfl rfl ?_
  refine r_get B2 d40_5 rfl (host := "") (Or.inl (W242 B2.gw)) Via.refl (v := (.int zs)) (fO (i := 0) (j := 1) rfl rfl) fun T3 B4 => ?_
  refine b_icF B4 d40_8 (pc' := 11) rfl he ?_
  refine p_iconst B4 d40_11 rfl (v := (1 : Int32)) (by decide) ?_
  refine b_goto B4 d40_12 (pc' := 16) (by decide) (by decide) ?_
  exact r_reti B4 d40_16 rfl (by simp) rfl (by decide) (by decide) (fun vm h P => ⟨rfl, P⟩)
abbrev D70_w := E70 0 0 0 0
theorem c_pc {g : GG} (W : GW g) (zi zn : Int32) (H : List Ent) (Lt : List SE) (h0 : ¬ zi < (0 : Int32)) (h1 : zi < zn) : Ct g D70_w #[(.int zi), (.int zn), .null] H Lt (fun v vm h => v = some (.int zi) ∧ Hp g vm h H Lt) := by
  refine CtW.body (Ls := #[.val (.int zi), .val (.int zn), .val .null]) W (by decide +kernel) (efr rfl) ?_
  intro M T B
  replace B : RH g D70_w M T (H) Lt 0 0 := B
  refine p_iloadN B d70_0 rfl rfl ?_
  refine b_ifF B d70_1 (pc' := 4) rfl h0 ?_
  refine p_iloadN B d70_4 rfl rfl ?_
  refine p_iloadN B d70_5 rfl rfl ?_
  refine b_icT B d70_6 (pc' := 16) h1 (by decide) (by decide) ?_
  refine p_iloadN B d70_16 rfl rfl ?_
  exact r_reti B d70_17 rfl (by simp) rfl (by decide) (by decide) (fun vm h P => ⟨rfl, P⟩)
abbrev D69_w := E69 1 0 0 14
theorem c_ci {g : GG} (W : GW g) (zi zn : Int32) (H : List Ent) (Lt : List SE) (h0 : ¬ zi < (0 : Int32)) (h1 : zi < zn) : Ct g D69_w #[(.int zi), (.int zn)] H Lt (fun v vm h => v = some (.int zi) ∧ Hp g vm h H Lt) := by
  refine CtW.body (Ls := #[.val (.int zi), .val (.int zn)]) W (by decide +kernel) (efr rfl) ?_
  intro M T B
  replace B : RH g D69_w M T (H) Lt 0 0 := B
  refine p_iloadN B d69_0 rfl rfl ?_
  refine p_iloadN B d69_1 rfl rfl ?_
  refine p_null B d69_2 rfl ?_
  refine r_static (D' := D70_w) B d69_3 rfl (W427 B.gw) (W428 B.gw) (W429 B.gw) (W430 B.gw) (by decide) (c_pc W zi zn _ _ h0 h1) (argsL := [(.int zi), (.int zn), .null]) (rest := []) rfl pd25 rfl rfl rfl (W := 0) rfl (cs' := 0) (ss' := 0) (by decide) (Kv1 fun T1 B3 => ?_)
  exact r_reti B3 d69_6 rfl (by simp) rfl (by decide) (by decide) (fun vm h P => ⟨rfl, P⟩)
abbrev D71_w := E71 0 0 0 0
theorem c_ed {g : GG} (W : GW g) (a b x y : Addr) (t : List Addr) (i : Nat) (H : List Ent) (Lt : List SE) (he : ((y :: t).map Value.ref ++ List.replicate (10 - (y :: t).length) Value.null)[i]? = some (.ref x)) : Ct g D71_w #[.ref a, .int (Int32.ofNat i)] (AL g a b (y :: t) ++ H) Lt (fun v vm h => v = some (.ref x) ∧ Hp g vm h (AL g a b (y :: t) ++ H) Lt) := by
  refine CtW.body (Ls := #[.val (.ref a), .val (.int (Int32.ofNat i))]) W (by decide +kernel) (efr rfl) ?_
  intro M T B
  replace B : RH g D71_w M T (oAL a (.int (Int32.ofNat (y :: t).length)) (.ref b) (.int (Int32.ofNat (y :: t).length)) :: (b, .inr ((.object "java/lang/Object"), "[Ljava/lang/Object;", ((y :: t).map Value.ref ++ List.replicate (10 - (y :: t).length) Value.null))) :: H) Lt 0 0 := B
  refine p_aloadN B d71_0 rfl rfl rfl ?_
  refine r_get B d71_1 rfl (host := "") (Or.inl (W71 B.gw)) Via.refl (v := (.ref b)) (fO (i := 0) (j := 1) rfl rfl) fun T1 B2 => ?_
  refine p_iloadN B2 d71_4 rfl rfl ?_
  refine r_aget B2 d71_5 rfl rfl (aH (i := 1) rfl) (k := i) rfl (v := .ref x) he ?_
  exact r_reta B2 d71_6 rfl rfl rfl (by decide) (by decide) (fun vm h P => ⟨rfl, P⟩)
abbrev D68_w := E68 2 0 0 27
theorem c_gt {g : GG} (W : GW g) (a b x y : Addr) (t : List Addr) (i : Nat) (H : List Ent) (Lt : List SE) (he : ((y :: t).map Value.ref ++ List.replicate (10 - (y :: t).length) Value.null)[i]? = some (.ref x)) (h0 : ¬ Int32.ofNat i < (0 : Int32)) (h1 : Int32.ofNat i < (Int32.ofNat (y :: t).length)) : Ct g D68_w #[.ref a, .int (Int32.ofNat i)] (AL g a b (y :: t) ++ H) Lt (fun v vm h => v = some (.ref x) ∧ Hp g vm h (AL g a b (y :: t) ++ H) Lt) := by
  refine CtW.body (Ls := #[.val (.ref a), .val (.int (Int32.ofNat i))]) W (by decide +kernel) (efr rfl) ?_
  intro M T B
  replace B : RH g D68_w M T (oAL a (.int (Int32.ofNat (y :: t).length)) (.ref b) (.int (Int32.ofNat (y :: t).length)) :: (b, .inr ((.object "java/lang/Object"), "[Ljava/lang/Object;", ((y :: t).map Value.ref ++ List.replicate (10 - (y :: t).length) Value.null))) :: H) Lt 0 0 := B
  refine p_iloadN B d68_0 rfl rfl ?_
  refine p_aloadN B d68_1 rfl rfl rfl ?_
  refine r_get B d68_2 rfl (host := "") (Or.inl (W80 B.gw)) Via.refl (v := (.int (Int32.ofNat (y :: t).length))) (fO (i := 0) (j := 2) rfl rfl) fun T1 B2 => ?_
  refine r_static (D' := D69_w) B2 d68_5 rfl (W424 B2.gw) (W425 B2.gw) (W201 B2.gw) (W426 B2.gw) (by decide) (c_ci W (Int32.ofNat i) (Int32.ofNat (y :: t).length) _ _ h0 h1) (argsL := [(.int (Int32.ofNat i)), (.int (Int32.ofNat (y :: t).length))]) (rest := []) rfl pd10 rfl rfl rfl (W := 0) rfl (cs' := 0) (ss' := 0) (by decide) (Kv1 fun T3 B5 => ?_)
  refine p_pop B5 d68_8 rfl rfl ?_
  refine p_aloadN B5 d68_9 rfl rfl rfl ?_
  refine p_iloadN B5 d68_10 rfl rfl ?_
  refine r_virtual (D' := D71_w) B5 d68_11 rfl (W431 B5.gw) (W432 B5.gw) (W434 B5.gw) (fun vm0 hZ => notFace_of_selects (args := #[]) (mvT hZ (W434 B5.gw))) (W433 B5.gw) (W51 B5.gw) (W435 B5.gw) (by decide) (fE (i := 0) rfl) (c_ed W a b x y t i _ _ he) (argsL := [(.int (Int32.ofNat i))]) (rest := []) rfl pd24 rfl rfl rfl (W := 0) rfl (cs' := 0) (ss' := 0) (by decide) (Kv1 fun T6 B8 => ?_)
  exact r_reta B8 d68_14 rfl rfl rfl (by decide) (by decide) (fun vm h P => ⟨rfl, P⟩)
theorem W_gt {g : GG} (W : GW g) (a b x : Addr) (L : List Addr) (i : Nat) (hi : L[i]? = some x) (hl : L.length ≤ 4) (H : List Ent) (Lt : List SE) : Ct g D68_w #[.ref a, .int (Int32.ofNat i)] (AL g a b L ++ H) Lt (fun v vm h => v = some (.ref x) ∧ Hp g vm h (AL g a b L ++ H) Lt) := by
  have hlt : i < L.length := (List.getElem?_eq_some_iff.mp hi).1
  cases L with
  | nil => exact absurd hlt (by simp)
  | cons y t => exact c_gt W a b x y t i H Lt (by rw [List.getElem?_append_left (by rw [List.length_map]; exact hlt), List.getElem?_map, hi]; rfl) (n31 (by omega)) (ltN hlt (by omega))
abbrev D79_w := E79 0 0 0 0
theorem lp_mm {g : GG} (W : GW g) {a a' b b' : Addr} {xs ys : List Int32} {H : List Ent} {Lt : List SE} (m1 : (a, b, 0, xs.map Value.int) ∈ Lt) (m2 : (a', b', 0, ys.map Value.int) ∈ Lt) (hx : xs.length < 2147483648) (hy : ys.length ≤ 7) (hl : ys.length ≤ xs.length) {M : MM} : ∀ (k i : Nat), i + k = ys.length → xs.take i = ys.take i → ∀ {T : State}, RH g D79_w M T H Lt 0 0 →
    Fn g D79_w M (fun v vm h => ∃ r : Int32, v = some (.int r) ∧ (r < 0 ∧ xs.take ys.length = ys ∨ ¬ r < 0 ∧ ¬ xs.take ys.length = ys) ∧ Hp g vm h H Lt) (T.setTop (mkF M.m 70 #[.val (.ref b), .val (.int (0 : Int32)), .val (.ref b'), .val (.int (0 : Int32)), .val (.int (Int32.ofNat ys.length)), .val (.int (Int32.ofNat i)), .unset, .unset] [])) := by
  intro k
  induction k with
  | zero =>
    intro i hi ht T B
    have hi' : i = ys.length := by omega
    refine p_iload B d79_70 rfl rfl ?_
    refine p_iload B d79_72 rfl rfl ?_
    refine b_icT B d79_74 (pc' := 101) (by subst hi'; exact Int32.lt_irrefl) (by decide) (by decide) ?_
    refine p_iconst B d79_101 rfl (v := (-1 : Int32)) (by decide) ?_
    exact r_reti B d79_102 rfl (by simp) rfl (by decide) (by decide) (fun vm h P => ⟨_, rfl, Or.inl ⟨by decide, by rw [hi', List.take_length] at ht; exact ht⟩, P⟩)
  | succ k ih =>
    intro i hi ht T B
    have hlt : i < ys.length := by omega
    obtain ⟨x, ex⟩ : ∃ x, xs[i]? = some x := ⟨_, List.getElem?_eq_getElem (by omega)⟩
    obtain ⟨y, ey⟩ : ∃ y, ys[i]? = some y := ⟨_, List.getElem?_eq_getElem hlt⟩
    refine p_iload B d79_70 rfl rfl ?_
    refine p_iload B d79_72 rfl rfl ?_
    refine b_icF B d79_74 (pc' := 77) rfl (ltN hlt (by omega)) ?_
    refine p_aloadN B d79_77 rfl rfl rfl ?_
    refine p_iloadN B d79_78 rfl rfl ?_
    refine p_iload B d79_79 rfl rfl ?_
    refine p_iadd B d79_81 rfl rfl ?_
    refine r_aget B d79_82 rfl rfl (sA m1) (k := i) (Int32.zero_add _) (v := .int x) (by rw [List.getElem?_map, ex]; rfl) ?_
    refine p_aloadN B d79_83 rfl rfl rfl ?_
    refine p_iloadN B d79_84 rfl rfl ?_
    refine p_iload B d79_85 rfl rfl ?_
    refine p_iadd B d79_87 rfl rfl ?_
    refine r_aget B d79_88 rfl rfl (sA m2) (k := i) (Int32.zero_add _) (v := .int y) (by rw [List.getElem?_map, ey]; rfl) ?_
    by_cases hxy : x = y
    · refine b_icT B d79_89 (pc' := 95) hxy (by decide) (by decide) ?_
      refine p_iinc B d79_95 rfl (v := (1 : Int32)) (by decide) rfl (z := ((Int32.ofNat i) + (1 : Int32))) rfl (Ls' := #[.val (.ref b), .val (.int 0), .val (.ref b'), .val (.int 0), .val (.int (Int32.ofNat ys.length)), .val (.int ((Int32.ofNat i) + (1 : Int32))), .unset, .unset]) rfl ?_
      refine b_goto B d79_98 (pc' := 70) (by decide) (by decide) ?_
      subst hxy
      rw [sucN i]
      exact ih (i + 1) (by omega) (take_same ht ex ey) B
    · refine b_icF B d79_89 (pc' := 92) rfl hxy ?_
      refine p_iload B d79_92 rfl rfl ?_
      have hq : ¬ xs.take ys.length = ys := fun q => by
        have e := congrArg (fun l => l[i]?) q
        simp only [List.getElem?_take, if_pos hlt, ex, ey] at e
        exact hxy (Option.some.inj e)
      exact r_reti B d79_94 rfl (by simp) rfl (by decide) (by decide) (fun vm h P => ⟨_, rfl, Or.inr ⟨n31 (by omega), hq⟩, P⟩)
theorem k_mm {g : GG} (W : GW g) {a a' b b' : Addr} {xs ys : List Int32} {H : List Ent} {Lt : List SE} (m1 : (a, b, 0, xs.map Value.int) ∈ Lt) (m2 : (a', b', 0, ys.map Value.int) ∈ Lt) (hx : xs.length < 2147483648) (hy : ys.length ≤ 7) (hl : ys.length ≤ xs.length) : Ct g D79_w #[.ref b, .int (0 : Int32), .ref b', .int (0 : Int32), .int (Int32.ofNat ys.length)] H Lt (fun v vm h => ∃ r : Int32, v = some (.int r) ∧ (r < 0 ∧ xs.take ys.length = ys ∨ ¬ r < 0 ∧ ¬ xs.take ys.length = ys) ∧ Hp g vm h H Lt) := by
  refine CtW.body (Ls := #[.val (.ref b), .val (.int 0), .val (.ref b'), .val (.int 0), .val (.int (Int32.ofNat ys.length)), .unset, .unset, .unset]) W (by decide +kernel) (efr rfl) ?_
  intro M T B
  refine p_iconst B d79_0 rfl (v := (0 : Int32)) (by decide) ?_
  refine p_istore B d79_1 rfl (Ls' := #[.val (.ref b), .val (.int 0), .val (.ref b'), .val (.int 0), .val (.int (Int32.ofNat ys.length)), .val (.int 0), .unset, .unset]) rfl ?_
  refine p_iload B d79_3 rfl rfl ?_
  refine p_bipush B d79_5 rfl (v := (7 : Int32)) (by decide) ?_
  refine b_icT B d79_7 (pc' := 70) (le7 hy) (by decide) (by decide) ?_
  exact lp_mm W m1 m2 hx hy hl ys.length 0 (by omega) rfl B
abbrev D75_w := E75 2 0 0 27
theorem k_s2 {g : GG} (W : GW g) {a a' b b' : Addr} {xs ys : List Int32} {H : List Ent} {Lt : List SE} (m1 : (a, b, 0, xs.map Value.int) ∈ Lt) (m2 : (a', b', 0, ys.map Value.int) ∈ Lt) (hx : xs.length < 2147483648) (hy : ys.length ≤ 7) : Ct g D75_w #[.ref a, .ref a', .int (0 : Int32)] H Lt (fun v vm h => ∃ z : Int32, v = some (.int z) ∧ (z = 1 ∧ xs.take ys.length = ys ∨ z = 0 ∧ ¬ xs.take ys.length = ys) ∧ Hp g vm h H Lt) := by
  refine CtW.body (Ls := #[.val (.ref a), .val (.ref a'), .val (.int 0), .unset, .unset, .unset, .unset, .unset]) W (by decide +kernel) (efr rfl) ?_
  intro M T B
  refine p_iloadN B d75_0 rfl rfl ?_
  refine b_ifF B d75_1 (pc' := 4) rfl (show ¬ (0 : Int32) < (0 : Int32) from by decide) ?_
  refine p_iloadN B d75_4 rfl rfl ?_
  refine p_aloadN B d75_5 rfl rfl rfl ?_
  refine r_virtual (D' := D49_w) B d75_6 rfl (W464 B.gw) (W318 B.gw) (W320 B.gw) (fun vm0 hZ => notFace_of_selects (args := #[]) (mvT hZ (W320 B.gw))) (W319 B.gw) (W7 B.gw) (W321 B.gw) (by decide) (sE m1) (c_len W a _ _ m1) (argsL := []) (rest := [(.int 0)]) rfl pd26 rfl rfl rfl (W := 1) rfl (cs' := 0) (ss' := 0) (by decide) (Kv1 fun T1 B3 => ?_)
  show Fn g D75_w M _ (T1.setTop (mkF M.m 9 #[.val (.ref a), .val (.ref a'), .val (.int 0), .unset, .unset, .unset, .unset, .unset] [(.int (Int32.ofNat (xs.map Value.int).length)), (.int 0)]))
  rw [List.length_map]
  refine p_aloadN B3 d75_9 rfl rfl rfl ?_
  refine r_virtual (D' := D49_w) B3 d75_10 rfl (W464 B3.gw) (W318 B3.gw) (W320 B3.gw) (fun vm0 hZ => notFace_of_selects (args := #[]) (mvT hZ (W320 B3.gw))) (W319 B3.gw) (W7 B3.gw) (W321 B3.gw) (by decide) (sE m2) (c_len W a' _ _ m2) (argsL := []) (rest := [(.int (Int32.ofNat xs.length)), (.int 0)]) rfl pd26 rfl rfl rfl (W := 2) rfl (cs' := 0) (ss' := 0) (by decide) (Kv1 fun T4 B6 => ?_)
  show Fn g D75_w M _ (T4.setTop (mkF M.m 13 #[.val (.ref a), .val (.ref a'), .val (.int 0), .unset, .unset, .unset, .unset, .unset] [(.int (Int32.ofNat (ys.map Value.int).length)), (.int (Int32.ofNat xs.length)), (.int 0)]))
  rw [List.length_map]
  refine p_isub B6 d75_13 rfl rfl ?_
  by_cases hl : xs.length < ys.length
  · refine b_icF B6 d75_14 (pc' := 17) rfl ((subN hx hy).mpr hl) ?_
    refine p_iconst B6 d75_17 rfl (v := (0 : Int32)) (by decide) ?_
    have hq : ¬ xs.take ys.length = ys := fun q => by
      have e := congrArg List.length q
      rw [List.length_take] at e
      omega
    exact r_reti B6 d75_18 rfl (by simp) rfl (by decide) (by decide) (fun vm h P => ⟨_, rfl, Or.inr ⟨rfl, hq⟩, P⟩)
  · refine b_icT B6 d75_14 (pc' := 19) (fun q => hl ((subN hx hy).mp q)) (by decide) (by decide) ?_
    refine p_aloadN B6 d75_19 rfl rfl rfl ?_
    refine r_get B6 d75_20 rfl (host := "") (Or.inl (W33 B6.gw)) Via.refl (v := (.ref b)) (sV m1) fun T7 B8 => ?_
    refine p_astoreN B8 d75_23 rfl rfl (Ls' := #[.val (.ref a), .val (.ref a'), .val (.int 0), .val (.ref b), .unset, .unset, .unset, .unset]) rfl ?_
    refine p_aloadN B8 d75_24 rfl rfl rfl ?_
    refine r_get B8 d75_25 rfl (host := "") (Or.inl (W33 B8.gw)) Via.refl (v := (.ref b')) (sV m2) fun T9 B10 => ?_
    refine p_astore B10 d75_28 rfl rfl (Ls' := #[.val (.ref a), .val (.ref a'), .val (.int 0), .val (.ref b), .val (.ref b'), .unset, .unset, .unset]) rfl ?_
    refine p_iconst B10 d75_30 rfl (v := (0 : Int32)) (by decide) ?_
    refine p_istore B10 d75_31 rfl (Ls' := #[.val (.ref a), .val (.ref a'), .val (.int 0), .val (.ref b), .val (.ref b'), .val (.int 0), .unset, .unset]) rfl ?_
    refine p_aload B10 d75_33 rfl rfl rfl ?_
    refine r_alen B10 d75_35 rfl (sA m2) (z := (Int32.ofNat ys.length)) (by rw [List.length_map]) ?_
    refine p_istore B10 d75_36 rfl (Ls' := #[.val (.ref a), .val (.ref a'), .val (.int 0), .val (.ref b), .val (.ref b'), .val (.int 0), .val (.int (Int32.ofNat ys.length)), .unset]) rfl ?_
    refine p_aloadN B10 d75_38 rfl rfl rfl ?_
    refine r_virtual (D' := D50_w) B10 d75_39 rfl (W322 B10.gw) (W323 B10.gw) (W325 B10.gw) (fun vm0 hZ => notFace_of_selects (args := #[]) (mvT hZ (W325 B10.gw))) (W324 B10.gw) (W7 B10.gw) (W326 B10.gw) (by decide) (sE m1) (c_cd W a _ _ m1) (argsL := []) (rest := []) rfl pd8 rfl rfl rfl (W := 0) rfl (cs' := 0) (ss' := 0) (by decide) (Kv1 fun T11 B13 => ?_)
    refine p_istore B13 d75_42 rfl (Ls' := #[.val (.ref a), .val (.ref a'), .val (.int 0), .val (.ref b), .val (.ref b'), .val (.int 0), .val (.int (Int32.ofNat ys.length)), .val (.int 0)]) rfl ?_
    refine p_iload B13 d75_44 rfl rfl ?_
    refine p_aloadN B13 d75_46 rfl rfl rfl ?_
    refine r_virtual (D' := D50_w) B13 d75_47 rfl (W322 B13.gw) (W323 B13.gw) (W325 B13.gw) (fun vm0 hZ => notFace_of_selects (args := #[]) (mvT hZ (W325 B13.gw))) (W324 B13.gw) (W7 B13.gw) (W326 B13.gw) (by decide) (sE m2) (c_cd W a' _ _ m2) (argsL := []) (rest := [(.int 0)]) rfl pd8 rfl rfl rfl (W := 1) rfl (cs' := 0) (ss' := 0) (by decide) (Kv1 fun T14 B16 => ?_)
    refine b_icF B16 d75_50 (pc' := 53) rfl (show (0 : Int32) = (0 : Int32) from by decide) ?_
    refine p_iload B16 d75_53 rfl rfl ?_
    refine p_iconst B16 d75_55 rfl (v := (1 : Int32)) (by decide) ?_
    refine b_icT B16 d75_56 (pc' := 63) (show ¬ (0 : Int32) = (1 : Int32) from by decide) (by decide) (by decide) ?_
    refine p_aloadN B16 d75_63 rfl rfl rfl ?_
    refine p_iloadN B16 d75_64 rfl rfl ?_
    refine p_aload B16 d75_65 rfl rfl rfl ?_
    refine p_iconst B16 d75_67 rfl (v := (0 : Int32)) (by decide) ?_
    refine p_iload B16 d75_68 rfl rfl ?_
    refine r_static (D' := D79_w) B16 d75_70 rfl (W487 B16.gw) (W488 B16.gw) (W489 B16.gw) (W490 B16.gw) (by decide) (k_mm W m1 m2 hx hy (by omega)) (argsL := [(.ref b), (.int 0), (.ref b'), (.int 0), (.int (Int32.ofNat ys.length))]) (rest := []) rfl pd27 rfl rfl rfl (W := 0) rfl (cs' := 0) (ss' := 0) (by decide) (Kex fun r => Kv1 fun T17 B19 => ?_)
    replace B19 := Rn.and B19
    obtain ⟨hr, B19⟩ := B19
    rcases hr with ⟨hr, hq⟩ | ⟨hr, hq⟩
    · refine b_ifF B19 d75_73 (pc' := 76) rfl hr ?_
      refine p_iconst B19 d75_76 rfl (v := (1 : Int32)) (by decide) ?_
      refine b_goto B19 d75_77 (pc' := 81) (by decide) (by decide) ?_
      exact r_reti B19 d75_81 rfl (by simp) rfl (by decide) (by decide) (fun vm h P => ⟨_, rfl, Or.inl ⟨rfl, hq⟩, P⟩)
    · refine b_ifT B19 d75_73 (pc' := 80) hr (by decide) (by decide) ?_
      refine p_iconst B19 d75_80 rfl (v := (0 : Int32)) (by decide) ?_
      exact r_reti B19 d75_81 rfl (by simp) rfl (by decide) (by decide) (fun vm h P => ⟨_, rfl, Or.inr ⟨rfl, hq⟩, P⟩)
abbrev D74_w := E74 3 0 0 46
theorem k_s1 {g : GG} (W : GW g) {a a' b b' : Addr} {xs ys : List Int32} {H : List Ent} {Lt : List SE} (m1 : (a, b, 0, xs.map Value.int) ∈ Lt) (m2 : (a', b', 0, ys.map Value.int) ∈ Lt) (hx : xs.length < 2147483648) (hy : ys.length ≤ 7) : Ct g D74_w #[.ref a, .ref a'] H Lt (fun v vm h => ∃ z : Int32, v = some (.int z) ∧ (z = 1 ∧ xs.take ys.length = ys ∨ z = 0 ∧ ¬ xs.take ys.length = ys) ∧ Hp g vm h H Lt) := by
  refine CtW.body (Ls := #[.val (.ref a), .val (.ref a')]) W (by decide +kernel) (efr rfl) ?_
  intro M T B
  refine p_aloadN B d74_0 rfl rfl rfl ?_
  refine p_aloadN B d74_1 rfl rfl rfl ?_
  refine p_iconst B d74_2 rfl (v := (0 : Int32)) (by decide) ?_
  refine r_virtual (D' := D75_w) B d74_3 rfl (W459 B.gw) (W460 B.gw) (W462 B.gw) (fun vm0 hZ => notFace_of_selects (args := #[]) (mvT hZ (W462 B.gw))) (W461 B.gw) (W7 B.gw) (W463 B.gw) (by decide) (sE m1) (k_s2 W m1 m2 hx hy) (argsL := [(.ref a'), (.int 0)]) (rest := []) rfl pd28 rfl rfl rfl (W := 0) rfl (cs' := 0) (ss' := 0) (by decide) (Kex fun z => Kv1 fun T1 B3 => ?_)
  replace B3 := Rn.and B3
  obtain ⟨hz, B3⟩ := B3
  rcases hz with ⟨rfl, hz⟩ | ⟨rfl, hz⟩
  · exact r_reti B3 d74_6 rfl (by simp) rfl (by decide) (by decide) (fun vm h P => ⟨_, rfl, Or.inl ⟨rfl, hz⟩, P⟩)
  · exact r_reti B3 d74_6 rfl (by simp) rfl (by decide) (by decide) (fun vm h P => ⟨_, rfl, Or.inr ⟨rfl, hz⟩, P⟩)
abbrev D42_w := E42 4 4 44 59
theorem k_isd {g : GG} (W : GW g) {a b : Addr} {xs : List Int32} {H : List Ent} {Lt : List SE} (m1 : (a, b, 0, xs.map Value.int) ∈ Lt) (hx : xs.length < 2147483648) : Ct g D42_w #[.ref a] H Lt (fun v vm h => ∃ z : Int32, v = some (.int z) ∧ (z = 1 ∧ isD xs ∨ z = 0 ∧ ¬ isD xs) ∧ Hp g vm h H Lt) := by
  refine CtW.body (Ls := #[.val (.ref a)]) W (by decide +kernel) (efr rfl) ?_
  intro M T B
  refine p_aloadN B d42_0 rfl rfl rfl ?_
  refine r_ldc B d42_1 rfl (W277 B.gw) (strW B.gw) (inEL B.gw (by decide)) (bs := [(.int 100), (.int 97), (.int 116), (.int 97)]) ⟨by decide, by decide⟩ (z := (4 : Int32)) (by decide) (by decide) (n := 16) (by decide) (by decide) (cs' := 2) rfl (ss' := 20) rfl (by decide) (by decide) fun T1 a3 b4 B2 => ?_
  refine r_virtual (D' := D43) B2 d42_3 rfl (W280 B2.gw) (W281 B2.gw) (W283 B2.gw) (fun vm0 hZ => notFace_of_selects (args := #[]) (mvT hZ (W283 B2.gw))) (W282 B2.gw) (W7 B2.gw) (W284 B2.gw) (by decide) (sE (List.mem_cons_of_mem _ m1)) (k_se W (List.mem_cons_of_mem _ m1) (ys := [(100 : Int32), (97 : Int32), (116 : Int32), (97 : Int32)]) (List.mem_of_getElem? (i := 0) rfl) hx (by decide)) (argsL := [(.ref a3)]) (rest := []) rfl pd29 rfl rfl rfl (W := 0) rfl (cs' := 2) (ss' := 20) (by decide) (Kex fun z => Kv1 fun T5 B7 => ?_)
  replace B7 := Rn.and B7
  obtain ⟨hz, B7⟩ := B7
  rcases hz with ⟨rfl, hz⟩ | ⟨rfl, hz⟩
  · refine b_ifT B7 d42_6 (pc' := 18) (show ¬ (1 : Int32) = (0 : Int32) from by decide) (by decide) (by decide) ?_
    refine p_iconst B7 d42_18 rfl (v := (1 : Int32)) (by decide) ?_
    refine b_goto B7 d42_19 (pc' := 23) (by decide) (by decide) ?_
    exact r_reti B7 d42_23 rfl (by simp) rfl (by decide) (by decide) (fun vm h P => ⟨_, rfl, Or.inl ⟨rfl, Or.inl hz⟩, P.lsub tl1⟩)
  · refine b_ifF B7 d42_6 (pc' := 9) rfl (show (0 : Int32) = (0 : Int32) from by decide) ?_
    refine p_aloadN B7 d42_9 rfl rfl rfl ?_
    refine r_ldc B7 d42_10 rfl (W453 B7.gw) (strW B7.gw) (inEL B7.gw (by decide)) (bs := [(.int 100), (.int 97), (.int 116), (.int 97), (.int 58)]) ⟨by decide, by decide⟩ (z := (5 : Int32)) (by decide) (by decide) (n := 20) (by decide) (by decide) (cs' := 4) rfl (ss' := 44) rfl (by decide) (by decide) fun T8 a10 b11 B9 => ?_
    refine r_virtual (D' := D74_w) B9 d42_12 rfl (W454 B9.gw) (W455 B9.gw) (W457 B9.gw) (fun vm0 hZ => notFace_of_selects (args := #[]) (mvT hZ (W457 B9.gw))) (W456 B9.gw) (W7 B9.gw) (W458 B9.gw) (by decide) (sE (List.mem_cons_of_mem _ (List.mem_cons_of_mem _ m1))) (k_s1 W (List.mem_cons_of_mem _ (List.mem_cons_of_mem _ m1)) (ys := [(100 : Int32), (97 : Int32), (116 : Int32), (97 : Int32), (58 : Int32)]) (List.mem_of_getElem? (i := 0) rfl) hx (by decide)) (argsL := [(.ref a10)]) (rest := []) rfl pd30 rfl rfl rfl (W := 0) rfl (cs' := 4) (ss' := 44) (by decide) (Kex fun z => Kv1 fun T12 B14 => ?_)
    replace B14 := Rn.and B14
    obtain ⟨hy, B14⟩ := B14
    rcases hy with ⟨rfl, hy⟩ | ⟨rfl, hy⟩
    · refine b_ifF B14 d42_15 (pc' := 18) rfl (show ¬ (1 : Int32) = (0 : Int32) from by decide) ?_
      refine p_iconst B14 d42_18 rfl (v := (1 : Int32)) (by decide) ?_
      refine b_goto B14 d42_19 (pc' := 23) (by decide) (by decide) ?_
      exact r_reti B14 d42_23 rfl (by simp) rfl (by decide) (by decide) (fun vm h P => ⟨_, rfl, Or.inl ⟨rfl, Or.inr hy⟩, P.lsub tl2⟩)
    · refine b_ifT B14 d42_15 (pc' := 22) (show (0 : Int32) = (0 : Int32) from by decide) (by decide) (by decide) ?_
      refine p_iconst B14 d42_22 rfl (v := (0 : Int32)) (by decide) ?_
      exact r_reti B14 d42_23 rfl (by simp) rfl (by decide) (by decide) (fun vm h P => ⟨_, rfl, Or.inr ⟨rfl, fun q => q.elim hz hy⟩, P.lsub tl2⟩)
abbrev D51_q80 := E51 0 0 0 0
theorem k_q80 {g : GG} (W : GW g) (x0 x1 : Addr) (cs ds : List Int32) (H : List Ent) (Lt : List SE) (hf0 : ¬ ((0 : Int32) < ((Int32.ofNat (cs ++ ds).length) - (16 : Int32)))) (hl : cs.length + ds.length ≤ 15) : Ct g D51_q80 #[(.ref x0), (.int (Int32.ofNat (cs ++ ds).length))] (oSB x0 (.ref x1) (.int 0) (.int (Int32.ofNat cs.length)) :: (x1, .inr (.byte, "[B", (sbv cs))) :: H) Lt (fun v vm h => v = none ∧ Hp g vm h (oSB x0 (.ref x1) (.int 0) (.int (Int32.ofNat cs.length)) :: (x1, .inr (.byte, "[B", (sbv cs))) :: H) (Lt)) := by
  refine CtW.body (Ls := #[.val (.ref x0), .val (.int (Int32.ofNat (cs ++ ds).length)), .unset]) W (by decide +kernel) (efr rfl) ?_
  intro M T B
  refine p_aloadN B d51_0 rfl rfl rfl ?_
  refine r_get B d51_1 rfl (host := "") (Or.inl (W302 B.gw)) Via.refl (v := (.ref x1)) (fO (i := 0) (j := 0) rfl rfl) fun T1 B2 => ?_
  refine r_alen B2 d51_4 rfl (aH (i := 1) rfl) (z := (16 : Int32)) (by rw [sbl (by omega)]; rfl) ?_
  refine p_aloadN B2 d51_5 rfl rfl rfl ?_
  refine r_get B2 d51_6 rfl (host := "") (Or.inl (W304 B2.gw)) Via.refl (v := (.int 0)) (fO (i := 0) (j := 1) rfl rfl) fun T3 B4 => ?_
  refine p_ishr B4 d51_9 rfl (z := (16 : Int32)) (by decide) ?_
  refine p_istoreN B4 d51_10 rfl (Ls' := #[.val (.ref x0), .val (.int (Int32.ofNat (cs ++ ds).length)), .val (.int 16)]) rfl ?_
  refine p_iloadN B4 d51_11 rfl rfl ?_
  refine p_iloadN B4 d51_12 rfl rfl ?_
  refine p_isub B4 d51_13 rfl rfl ?_
  refine b_ifT B4 d51_14 (pc' := 38) hf0 (by decide) (by decide) ?_
  exact r_ret B4 d51_38 rfl (by decide) (by decide) (fun vm h P => ⟨rfl, P⟩)
abbrev D53_q83 := E53 1 0 0 13
theorem k_q83 {g : GG} (W : GW g) (x0 x1 x2 : Addr) (cs ds : List Int32) (H : List Ent) (Lt : List SE) {sb0 : Addr} (ms0 : (x1, sb0, 0, (ds.map Value.int)) ∈ Lt) (hf0 : ¬ ((0 : Int32) < ((Int32.ofNat (cs ++ ds).length) - (16 : Int32)))) (hl : cs.length + ds.length ≤ 15) : Ct g D53_q83 #[(.ref x0), (.ref x1)] (oSB x0 (.ref x2) (.int 0) (.int (Int32.ofNat cs.length)) :: H) Lt (fun v vm h => v = none ∧ Hp g vm h (oSB x0 (.ref x2) (.int 0) (.int (Int32.ofNat cs.length)) :: H) (Lt)) := by
  refine CtW.body (Ls := #[.val (.ref x0), .val (.ref x1)]) W (by decide +kernel) (efr rfl) ?_
  intro M T B
  obtain ⟨cz1, hcz1, gcz1⟩ := compact W
  refine r_gets B d53_0 rfl (host := "") (Or.inl (W301 B.gw)) Via.refl (v := (.int cz1)) hcz1 fun T2 B3 => ?_
  refine b_ifF B3 d53_3 (pc' := 6) rfl gcz1 ?_
  refine p_aloadN B3 d53_6 rfl rfl rfl ?_
  refine r_get B3 d53_7 rfl (host := "") (Or.inl (W304 B3.gw)) Via.refl (v := (.int 0)) (fO (i := 0) (j := 1) rfl rfl) fun T4 B5 => ?_
  refine p_aloadN B5 d53_10 rfl rfl rfl ?_
  refine r_virtual (D' := D50_w) B5 d53_11 rfl (W344 B5.gw) (W323 B5.gw) (W325 B5.gw) (fun vm0 hZ => notFace_of_selects (args := #[]) (mvT hZ (W325 B5.gw))) (W324 B5.gw) (W7 B5.gw) (W326 B5.gw) (by decide) (sE ms0) (c_cd W x1 _ _ ms0) (argsL := []) (rest := [(.int 0)]) rfl pd8 rfl rfl rfl (W := 1) rfl (cs' := 0) (ss' := 0) (by decide) (Kv1 fun T6 B8 => ?_)
  refine b_icT B8 d53_14 (pc' := 21) (show (0 : Int32) = (0 : Int32) from by decide) (by decide) (by decide) ?_
  exact r_ret B8 d53_21 rfl (by decide) (by decide) (fun vm h P => ⟨rfl, P⟩)
abbrev D54_q84 := E54 1 0 0 18
theorem k_q84 {g : GG} (W : GW g) (x0 x1 : Addr) (cs ds : List Int32) (H : List Ent) (Lt : List SE) {sb0 : Addr} (ms0 : (x0, sb0, 0, (ds.map Value.int)) ∈ Lt) (hf0 : ¬ ((0 : Int32) < ((Int32.ofNat (cs ++ ds).length) - (16 : Int32)))) (hl : cs.length + ds.length ≤ 15) : Ct g D54_q84 #[(.ref x0), (.ref x1), (.int (Int32.ofNat cs.length)), (.int 0)] ((x1, .inr (.byte, "[B", (sbv cs))) :: H) Lt (fun v vm h => v = none ∧ Hp g vm h ((x1, .inr (.byte, "[B", (sbv (cs ++ ds)))) :: H) (Lt)) := by
  refine CtW.body (Ls := #[.val (.ref x0), .val (.ref x1), .val (.int (Int32.ofNat cs.length)), .val (.int 0)]) W (by decide +kernel) (efr rfl) ?_
  intro M T B
  refine p_aloadN B d54_0 rfl rfl rfl ?_
  refine r_virtual (D' := D50_w) B d54_1 rfl (W322 B.gw) (W323 B.gw) (W325 B.gw) (fun vm0 hZ => notFace_of_selects (args := #[]) (mvT hZ (W325 B.gw))) (W324 B.gw) (W7 B.gw) (W326 B.gw) (by decide) (sE ms0) (c_cd W x0 _ _ ms0) (argsL := []) (rest := []) rfl pd8 rfl rfl rfl (W := 0) rfl (cs' := 0) (ss' := 0) (by decide) (Kv1 fun T1 B3 => ?_)
  refine p_iloadN B3 d54_4 rfl rfl ?_
  refine b_icF B3 d54_5 (pc' := 8) rfl (show (0 : Int32) = (0 : Int32) from by decide) ?_
  refine p_aloadN B3 d54_8 rfl rfl rfl ?_
  refine r_get B3 d54_9 rfl (host := "") (Or.inl (W33 B3.gw)) Via.refl (v := (.ref sb0)) (sV ms0) fun T4 B5 => ?_
  refine p_iconst B5 d54_12 rfl (v := (0 : Int32)) (by decide) ?_
  refine p_aloadN B5 d54_13 rfl rfl rfl ?_
  refine p_iloadN B5 d54_14 rfl rfl ?_
  refine p_iloadN B5 d54_15 rfl rfl ?_
  refine p_ishl B5 d54_16 rfl (z := (Int32.ofNat cs.length)) (shl0 _) ?_
  refine p_aloadN B5 d54_17 rfl rfl rfl ?_
  refine r_get B5 d54_18 rfl (host := "") (Or.inl (W33 B5.gw)) Via.refl (v := (.ref sb0)) (sV ms0) fun T6 B7 => ?_
  refine r_alen B7 d54_21 rfl (sA ms0) (z := (Int32.ofNat ds.length)) (by rw [List.length_map]) ?_
  refine r_acopy B7 d54_22 (pc' := 25) (s0 := 0) (d0 := cs.length) (n0 := ds.length) (us := (ds.map Value.int)) (vd' := (sbv (cs ++ ds))) rfl (W350 B7.gw) (W174 B7.gw) (W172 B7.gw) (W173 B7.gw) (sA ms0) (i := 0) rfl (Or.inl ⟨rfl, rfl⟩) (by decide) (by decide) (n31 (by omega)) (n31c (by omega)) (n31 (by omega)) (n31c (by omega)) (by rw [List.length_map]; omega) (by rw [sbl (by omega)]; omega) (by rw [List.drop_zero]; exact List.take_of_length_le (by rw [List.length_map]; exact Nat.le_refl _)) (sbc (by omega)) (H' := ((x1, .inr (.byte, "[B", (sbv (cs ++ ds)))) :: H)) rfl rfl (W := 0) rfl (by decide) (by decide) fun T8 B9 => ?_
  refine b_goto B9 d54_25 (pc' := 43) (by decide) (by decide) ?_
  exact r_ret B9 d54_43 rfl (by decide) (by decide) (fun vm h P => ⟨rfl, P⟩)
abbrev D52_q81 := E52 2 0 0 33
theorem k_q81 {g : GG} (W : GW g) (x0 x1 x2 : Addr) (cs ds : List Int32) (H : List Ent) (Lt : List SE) {sb0 : Addr} (ms0 : (x1, sb0, 0, (ds.map Value.int)) ∈ Lt) (hf0 : ¬ ((0 : Int32) < ((Int32.ofNat (cs ++ ds).length) - (16 : Int32)))) (hl : cs.length + ds.length ≤ 15) : Ct g D52_q81 #[(.ref x0), (.int (Int32.ofNat cs.length)), (.ref x1)] (oSB x0 (.ref x2) (.int 0) (.int (Int32.ofNat cs.length)) :: (x2, .inr (.byte, "[B", (sbv cs))) :: H) Lt (fun v vm h => v = none ∧ Hp g vm h ((x2, .inr (.byte, "[B", (sbv (cs ++ ds)))) :: oSB x0 (.ref x2) (.int 0) (.int (Int32.ofNat cs.length)) :: H) (Lt)) := by
  refine CtW.body (Ls := #[.val (.ref x0), .val (.int (Int32.ofNat cs.length)), .val (.ref x1)]) W (by decide +kernel) (efr rfl) ?_
  intro M T B
  refine p_aloadN B d52_0 rfl rfl rfl ?_
  refine p_aloadN B d52_1 rfl rfl rfl ?_
  refine r_privateS (D' := D53_q83) B d52_2 rfl (W339 B.gw) (W341 B.gw) (W342 B.gw) (W340 B.gw) (W298 B.gw) (W343 B.gw) (by decide) (fE (i := 0) rfl) (k_q83 W x0 x1 x2 cs ds _ _ ms0 hf0 hl) (argsL := [(.ref x1)]) (rest := []) rfl pd32 rfl rfl rfl (W := 0) rfl (cs' := 0) (ss' := 0) (by decide) (Kv0 fun T1 B3 => ?_)
  refine p_aloadN B3 d52_5 rfl rfl rfl ?_
  refine p_aloadN B3 d52_6 rfl rfl rfl ?_
  refine r_get B3 d52_7 rfl (host := "") (Or.inl (W302 B3.gw)) Via.refl (v := (.ref x2)) (fO (i := 0) (j := 0) rfl rfl) fun T4 B5 => ?_
  refine p_iloadN B5 d52_10 rfl rfl ?_
  refine p_aloadN B5 d52_11 rfl rfl rfl ?_
  refine r_get B5 d52_12 rfl (host := "") (Or.inl (W304 B5.gw)) Via.refl (v := (.int 0)) (fO (i := 0) (j := 1) rfl rfl) fun T6 B7 => ?_
  have B8 := (B7.fr 1 rfl)
  refine r_virtual (D' := D54_q84) B8 d52_15 rfl (W345 B8.gw) (W346 B8.gw) (W348 B8.gw) (fun vm0 hZ => notFace_of_selects (args := #[]) (mvT hZ (W348 B8.gw))) (W347 B8.gw) (W7 B8.gw) (W349 B8.gw) (by decide) (sE ms0) (k_q84 W x1 x2 cs ds _ _ ms0 hf0 hl) (argsL := [(.ref x2), (.int (Int32.ofNat cs.length)), (.int 0)]) (rest := []) rfl pd33 rfl rfl rfl (W := 0) rfl (cs' := 0) (ss' := 0) (by decide) (Kv0 fun T9 B11 => ?_)
  exact r_ret B11 d52_18 rfl (by decide) (by decide) (fun vm h P => ⟨rfl, P⟩)
abbrev D48_q79 := E48 3 0 0 47
theorem k_q79 {g : GG} (W : GW g) (x0 x1 x2 : Addr) (cs ds : List Int32) (H : List Ent) (Lt : List SE) {sb0 : Addr} (ms0 : (x1, sb0, 0, (ds.map Value.int)) ∈ Lt) (hf0 : ¬ ((0 : Int32) < ((Int32.ofNat (cs ++ ds).length) - (16 : Int32)))) (hl : cs.length + ds.length ≤ 15) : Ct g D48_q79 #[(.ref x0), (.ref x1)] (oSB x0 (.ref x2) (.int 0) (.int (Int32.ofNat cs.length)) :: (x2, .inr (.byte, "[B", (sbv cs))) :: H) Lt (fun v vm h => v = some (.ref x0) ∧ Hp g vm h ((x2, .inr (.byte, "[B", (sbv (cs ++ ds)))) :: oSB x0 (.ref x2) (.int 0) (.int (Int32.ofNat (cs ++ ds).length)) :: H) (Lt)) := by
  refine CtW.body (Ls := #[.val (.ref x0), .val (.ref x1), .unset]) W (by decide +kernel) (efr rfl) ?_
  intro M T B
  refine p_aloadN B d48_0 rfl rfl rfl ?_
  refine b_nnT B d48_1 (pc' := 9) (by decide) (by decide) ?_
  refine p_aloadN B d48_9 rfl rfl rfl ?_
  refine r_virtual (D' := D49_w) B d48_10 rfl (W317 B.gw) (W318 B.gw) (W320 B.gw) (fun vm0 hZ => notFace_of_selects (args := #[]) (mvT hZ (W320 B.gw))) (W319 B.gw) (W7 B.gw) (W321 B.gw) (by decide) (sE ms0) (c_len W x1 _ _ ms0) (argsL := []) (rest := []) rfl pd26 rfl rfl rfl (W := 0) rfl (cs' := 0) (ss' := 0) (by decide) (Kv1 fun T1 B3 => ?_)
  show Fn g D48_q79 M _ (T1.setTop (mkF M.m 13 #[.val (.ref x0), .val (.ref x1), .unset] [(.int (Int32.ofNat (ds.map Value.int).length))]))
  rw [List.length_map]
  refine p_istoreN B3 d48_13 rfl (Ls' := #[.val (.ref x0), .val (.ref x1), .val (.int (Int32.ofNat ds.length))]) rfl ?_
  refine p_aloadN B3 d48_14 rfl rfl rfl ?_
  refine p_aloadN B3 d48_15 rfl rfl rfl ?_
  refine r_get B3 d48_16 rfl (host := "") (Or.inl (W327 B3.gw)) Via.refl (v := (.int (Int32.ofNat cs.length))) (fO (i := 0) (j := 2) rfl rfl) fun T4 B5 => ?_
  refine p_iloadN B5 d48_19 rfl rfl ?_
  refine p_iadd B5 d48_20 rfl (z := (Int32.ofNat (cs ++ ds).length)) addN ?_
  refine r_privateS (D' := D51_q80) B5 d48_21 rfl (W329 B5.gw) (W331 B5.gw) (W332 B5.gw) (W330 B5.gw) (W298 B5.gw) (W333 B5.gw) (by decide) (fE (i := 0) rfl) (k_q80 W x0 x2 cs ds _ _ hf0 hl) (argsL := [(.int (Int32.ofNat (cs ++ ds).length))]) (rest := []) rfl pd31 rfl rfl rfl (W := 0) rfl (cs' := 0) (ss' := 0) (by decide) (Kv0 fun T6 B8 => ?_)
  refine p_aloadN B8 d48_24 rfl rfl rfl ?_
  refine p_aloadN B8 d48_25 rfl rfl rfl ?_
  refine r_get B8 d48_26 rfl (host := "") (Or.inl (W327 B8.gw)) Via.refl (v := (.int (Int32.ofNat cs.length))) (fO (i := 0) (j := 2) rfl rfl) fun T9 B10 => ?_
  refine p_aloadN B10 d48_29 rfl rfl rfl ?_
  refine r_privateS (D' := D52_q81) B10 d48_30 rfl (W334 B10.gw) (W336 B10.gw) (W337 B10.gw) (W335 B10.gw) (W298 B10.gw) (W338 B10.gw) (by decide) (fE (i := 0) rfl) (k_q81 W x0 x1 x2 cs ds _ _ ms0 hf0 hl) (argsL := [(.int (Int32.ofNat cs.length)), (.ref x1)]) (rest := []) rfl pd34 rfl rfl rfl (W := 0) rfl (cs' := 0) (ss' := 0) (by decide) (Kv0 fun T11 B13 => ?_)
  refine p_aloadN B13 d48_33 rfl rfl rfl ?_
  refine p_dup B13 d48_34 rfl rfl ?_
  refine r_get B13 d48_35 rfl (host := "") (Or.inl (W327 B13.gw)) Via.refl (v := (.int (Int32.ofNat cs.length))) (fO (i := 1) (j := 2) rfl rfl) fun T14 B15 => ?_
  refine p_iloadN B15 d48_38 rfl rfl ?_
  refine p_iadd B15 d48_39 rfl (z := (Int32.ofNat (cs ++ ds).length)) addN ?_
  refine r_put B15 d48_40 rfl (host := "") (Or.inl (W327 B15.gw)) Via.refl (i := 1) (j := 2) rfl rfl (Or.inl (W328 B15.gw)) (W289 B15.gw) (ty := .int) (by decide) rfl rfl (H' := ((x2, .inr (.byte, "[B", (sbv (cs ++ ds)))) :: oSB x0 (.ref x2) (.int 0) (.int (Int32.ofNat (cs ++ ds).length)) :: H)) rfl fun T16 B17 => ?_
  refine p_aloadN B17 d48_43 rfl rfl rfl ?_
  exact r_reta B17 d48_44 rfl rfl rfl (by decide) (by decide) (fun vm h P => ⟨rfl, P⟩)
abbrev D47_w := E47 4 0 0 61
theorem W_ap {g : GG} (W : GW g) (sb vb dt : Addr) (cs ds : List Int32) (H : List Ent) (Lt : List SE) {db : Addr} (md : (dt, db, 0, ds.map Value.int) ∈ Lt) (hl : cs.length + ds.length ≤ 15) : Ct g D47_w #[(.ref sb), (.ref dt)] (SBo sb vb cs ++ H) Lt (fun v vm h => v = some (.ref sb) ∧ Hp g vm h (SBo sb vb (cs ++ ds) ++ H) Lt) := by
  refine CtW.body (Ls := #[.val (.ref sb), .val (.ref dt)]) W (by decide +kernel) (efr rfl) ?_
  intro M T B
  replace B : RH g D47_w M T (oSB sb (.ref vb) (.int 0) (.int (Int32.ofNat cs.length)) :: (vb, .inr (.byte, "[B", (sbv cs))) :: H) Lt 0 0 := B
  refine p_aloadN B d47_0 rfl rfl rfl ?_
  refine p_aloadN B d47_1 rfl rfl rfl ?_
  refine r_super (D' := D48_q79) B d47_2 rfl (by decide) (same_self (W313 B.gw) (W332 B.gw) rfl (by decide)) (W314 B.gw) (fE (i := 0) rfl) (W312 B.gw) (W313 B.gw) (W298 B.gw) (W316 B.gw) (by decide) (k_q79 W sb dt vb cs ds _ _ md (le16 (by rw [List.length_append]; omega)) hl) (a := sb) (argsL := [(.ref dt)]) (rest := []) rfl pd35 rfl rfl rfl (W := 0) rfl (cs' := 0) (ss' := 0) (by decide) (Kv1 fun T1 B3 => ?_)
  refine p_pop B3 d47_5 rfl rfl ?_
  refine p_aloadN B3 d47_6 rfl rfl rfl ?_
  have B4 := (B3.fr 1 rfl)
  exact r_reta B4 d47_7 rfl rfl rfl (by decide) (by decide) (fun vm h P => ⟨rfl, P⟩)
abbrev D58_q88 := E58 0 0 0 0
theorem k_q88 {g : GG} (W : GW g) (x0 x1 : Addr) (cs : List Int32) (H : List Ent) (Lt : List SE) (hf0 : ¬ ((Int32.ofNat cs.length) = (16 : Int32))) (hf1 : ¬ ((Int32.ofNat cs.length) < (0 : Int32))) (hf2 : (Int32.ofNat cs.length) < (16 : Int32)) (hl : cs.length ≤ 14) : Ct g D58_q88 #[(.ref x0)] (oSB x0 (.ref x1) (.int 0) (.int (Int32.ofNat cs.length)) :: H) Lt (fun v vm h => v = some (.ref x1) ∧ Hp g vm h (oSB x0 (.ref x1) (.int 0) (.int (Int32.ofNat cs.length)) :: H) (Lt)) := by
  refine CtW.body (Ls := #[.val (.ref x0)]) W (by decide +kernel) (efr rfl) ?_
  intro M T B
  refine p_aloadN B d58_0 rfl rfl rfl ?_
  refine r_get B d58_1 rfl (host := "") (Or.inl (W302 B.gw)) Via.refl (v := (.ref x1)) (fO (i := 0) (j := 0) rfl rfl) fun T1 B2 => ?_
  exact r_reta B2 d58_4 rfl rfl rfl (by decide) (by decide) (fun vm h P => ⟨rfl, P⟩)
abbrev D60_q91 := E60 0 0 0 0
theorem k_q91 {g : GG} (W : GW g) (x0 x1 : Addr) (cs : List Int32) (H : List Ent) (Lt : List SE) (hf0 : ¬ ((Int32.ofNat cs.length) = (16 : Int32))) (hf1 : ¬ ((Int32.ofNat cs.length) < (0 : Int32))) (hf2 : (Int32.ofNat cs.length) < (16 : Int32)) (hl : cs.length ≤ 14) : Ct g D60_q91 #[(.ref x0)] (oSB x0 (.ref x1) (.int 0) (.int (Int32.ofNat cs.length)) :: H) Lt (fun v vm h => v = some (.int (Int32.ofNat cs.length)) ∧ Hp g vm h (oSB x0 (.ref x1) (.int 0) (.int (Int32.ofNat cs.length)) :: H) (Lt)) := by
  refine CtW.body (Ls := #[.val (.ref x0)]) W (by decide +kernel) (efr rfl) ?_
  intro M T B
  refine p_aloadN B d60_0 rfl rfl rfl ?_
  refine r_get B d60_1 rfl (host := "") (Or.inl (W327 B.gw)) Via.refl (v := (.int (Int32.ofNat cs.length))) (fO (i := 0) (j := 2) rfl rfl) fun T1 B2 => ?_
  exact r_reti B2 d60_4 rfl (by simp) rfl (by decide) (by decide) (fun vm h P => ⟨rfl, P⟩)
abbrev D59_q92 := E59 1 0 0 12
theorem k_q92 {g : GG} (W : GW g) (x0 x1 : Addr) (cs : List Int32) (H : List Ent) (Lt : List SE) (hf0 : ¬ ((Int32.ofNat cs.length) = (16 : Int32))) (hf1 : ¬ ((Int32.ofNat cs.length) < (0 : Int32))) (hf2 : (Int32.ofNat cs.length) < (16 : Int32)) (hl : cs.length ≤ 14) : Ct g D59_q92 #[(.ref x0)] (oSB x0 (.ref x1) (.int 0) (.int (Int32.ofNat cs.length)) :: H) Lt (fun v vm h => v = some (.int (Int32.ofNat cs.length)) ∧ Hp g vm h (oSB x0 (.ref x1) (.int 0) (.int (Int32.ofNat cs.length)) :: H) (Lt)) := by
  refine CtW.body (Ls := #[.val (.ref x0)]) W (by decide +kernel) (efr rfl) ?_
  intro M T B
  refine p_aloadN B d59_0 rfl rfl rfl ?_
  refine r_super (D' := D60_q91) B d59_1 rfl (by decide) (same_self (W370 B.gw) (W332 B.gw) rfl (by decide)) (W314 B.gw) (fE (i := 0) rfl) (W374 B.gw) (W370 B.gw) (W298 B.gw) (W375 B.gw) (by decide) (k_q91 W x0 x1 cs _ _ hf0 hf1 hf2 hl) (a := x0) (argsL := []) (rest := []) rfl pd26 rfl rfl rfl (W := 0) rfl (cs' := 0) (ss' := 0) (by decide) (Kv1 fun T1 B3 => ?_)
  exact r_reti B3 d59_4 rfl (by simp) rfl (by decide) (by decide) (fun vm h P => ⟨rfl, P⟩)
abbrev D61_q94 := E61 0 0 0 0
theorem k_q94 {g : GG} (W : GW g) (x0 x1 : Addr) (cs : List Int32) (H : List Ent) (Lt : List SE) (hf0 : ¬ ((Int32.ofNat cs.length) = (16 : Int32))) (hf1 : ¬ ((Int32.ofNat cs.length) < (0 : Int32))) (hf2 : (Int32.ofNat cs.length) < (16 : Int32)) (hl : cs.length ≤ 14) : Ct g D61_q94 #[(.ref x0)] (oSB x0 (.ref x1) (.int 0) (.int (Int32.ofNat cs.length)) :: H) Lt (fun v vm h => v = some (.int 1) ∧ Hp g vm h (oSB x0 (.ref x1) (.int 0) (.int (Int32.ofNat cs.length)) :: H) (Lt)) := by
  refine CtW.body (Ls := #[.val (.ref x0)]) W (by decide +kernel) (efr rfl) ?_
  intro M T B
  obtain ⟨cz1, hcz1, gcz1⟩ := compact W
  refine r_gets B d61_0 rfl (host := "") (Or.inl (W301 B.gw)) Via.refl (v := (.int cz1)) hcz1 fun T2 B3 => ?_
  refine b_ifF B3 d61_3 (pc' := 6) rfl gcz1 ?_
  refine p_aloadN B3 d61_6 rfl rfl rfl ?_
  refine r_get B3 d61_7 rfl (host := "") (Or.inl (W304 B3.gw)) Via.refl (v := (.int 0)) (fO (i := 0) (j := 1) rfl rfl) fun T4 B5 => ?_
  refine b_ifF B5 d61_10 (pc' := 13) rfl (show (0 : Int32) = (0 : Int32) from by decide) ?_
  refine p_iconst B5 d61_13 rfl (v := (1 : Int32)) (by decide) ?_
  refine b_goto B5 d61_14 (pc' := 18) (by decide) (by decide) ?_
  exact r_reti B5 d61_18 rfl (by simp) rfl (by decide) (by decide) (fun vm h P => ⟨rfl, P⟩)
abbrev D64_q97 := E64 0 0 0 0
theorem k_q97 {g : GG} (W : GW g) (cs : List Int32) (H : List Ent) (Lt : List SE) (hf0 : ¬ ((Int32.ofNat cs.length) = (16 : Int32))) (hf1 : ¬ ((Int32.ofNat cs.length) < (0 : Int32))) (hf2 : (Int32.ofNat cs.length) < (16 : Int32)) (hl : cs.length ≤ 14) : Ct g D64_q97 #[(.int 0), (.int (Int32.ofNat cs.length))] (H) Lt (fun v vm h => v = none ∧ Hp g vm h (H) (Lt)) := by
  refine CtW.body (Ls := #[.val (.int 0), .val (.int (Int32.ofNat cs.length))]) W (by decide +kernel) (efr rfl) ?_
  intro M T B
  refine p_iloadN B d64_0 rfl rfl ?_
  refine p_iloadN B d64_1 rfl rfl ?_
  refine b_icT B d64_2 (pc' := 37) hf1 (by decide) (by decide) ?_
  exact r_ret B d64_37 rfl (by decide) (by decide) (fun vm h P => ⟨rfl, P⟩)
abbrev D30_q98 := E30 0 0 0 0
theorem k_q98 {g : GG} (W : GW g) (cs : List Int32) (H : List Ent) (Lt : List SE) (hf0 : ¬ ((Int32.ofNat cs.length) = (16 : Int32))) (hf1 : ¬ ((Int32.ofNat cs.length) < (0 : Int32))) (hf2 : (Int32.ofNat cs.length) < (16 : Int32)) (hl : cs.length ≤ 14) : Ct g D30_q98 #[(.int 16), (.int (Int32.ofNat cs.length))] (H) Lt (fun v vm h => v = some (.int (Int32.ofNat cs.length)) ∧ Hp g vm h (H) (Lt)) := by
  refine CtW.body (Ls := #[.val (.int 16), .val (.int (Int32.ofNat cs.length))]) W (Jvm.Free.JP.mathPlain rfl (by decide +kernel)) (efr rfl) ?_
  intro M T B
  refine p_iloadN B d30_0 rfl rfl ?_
  refine p_iloadN B d30_1 rfl rfl ?_
  refine b_icT B d30_2 (pc' := 9) hf2 (by decide) (by decide) ?_
  refine p_iloadN B d30_9 rfl rfl ?_
  exact r_reti B d30_10 rfl (by simp) rfl (by decide) (by decide) (fun vm h P => ⟨rfl, P⟩)
abbrev D63_q96 := E63 1 1 16 18
theorem k_q96 {g : GG} (W : GW g) (x0 : Addr) (cs : List Int32) (H : List Ent) (Lt : List SE) (hf0 : ¬ ((Int32.ofNat cs.length) = (16 : Int32))) (hf1 : ¬ ((Int32.ofNat cs.length) < (0 : Int32))) (hf2 : (Int32.ofNat cs.length) < (16 : Int32)) (hl : cs.length ≤ 14) : Ct g D63_q96 #[(.ref x0), (.int 0), (.int (Int32.ofNat cs.length))] ((x0, .inr (.byte, "[B", (sbv cs))) :: H) Lt (fun v vm h => ∃ a6, v = some (.ref a6) ∧ Hp g vm h ((a6, .inr (.byte, "[B", (cs.map Value.int))) :: (x0, .inr (.byte, "[B", (sbv cs))) :: H) (Lt)) := by
  refine CtW.body (Ls := #[.val (.ref x0), .val (.int 0), .val (.int (Int32.ofNat cs.length)), .unset, .unset]) W (by decide +kernel) (efr rfl) ?_
  intro M T B
  refine p_iloadN B d63_0 rfl rfl ?_
  refine p_iloadN B d63_1 rfl rfl ?_
  refine r_static (D' := D64_q97) B d63_2 rfl (W387 B.gw) (W388 B.gw) (W155 B.gw) (W389 B.gw) (by decide) (k_q97 W cs _ _ hf0 hf1 hf2 hl) (argsL := [(.int 0), (.int (Int32.ofNat cs.length))]) (rest := []) rfl pd37 rfl rfl rfl (W := 0) rfl (cs' := 0) (ss' := 0) (by decide) (Kv0 fun T1 B3 => ?_)
  refine p_iloadN B3 d63_5 rfl rfl ?_
  refine p_iloadN B3 d63_6 rfl rfl ?_
  refine p_isub B3 d63_7 rfl (z := (Int32.ofNat cs.length)) (Int32.sub_zero _) ?_
  refine p_istoreN B3 d63_8 rfl (Ls' := #[.val (.ref x0), .val (.int 0), .val (.int (Int32.ofNat cs.length)), .val (.int (Int32.ofNat cs.length)), .unset]) rfl ?_
  refine p_iloadN B3 d63_9 rfl rfl ?_
  refine r_newp B3 d63_10 rfl (ty := .byte) (W24 B3.gw) rfl (n31 (by omega)) (nn := cs.length) (n31c (by omega)) (cap := 16) (by omega) (by decide) (cs' := 1) rfl (ss' := 16) rfl (by decide) (by decide) (ad := "[B") (by decide) (by decide) nofun (vs := (List.replicate cs.length (Value.int 0))) rfl fun T4 a6 B5 => ?_
  refine p_astore B5 d63_12 rfl rfl (Ls' := #[.val (.ref x0), .val (.int 0), .val (.int (Int32.ofNat cs.length)), .val (.int (Int32.ofNat cs.length)), .val (.ref a6)]) rfl ?_
  refine p_aloadN B5 d63_14 rfl rfl rfl ?_
  refine p_iloadN B5 d63_15 rfl rfl ?_
  refine p_aload B5 d63_16 rfl rfl rfl ?_
  refine p_iconst B5 d63_18 rfl (v := (0 : Int32)) (by decide) ?_
  refine p_aloadN B5 d63_19 rfl rfl rfl ?_
  refine r_alen B5 d63_20 rfl (aH (i := 1) rfl) (z := (16 : Int32)) (by rw [sbl (by omega)]; rfl) ?_
  refine p_iloadN B5 d63_21 rfl rfl ?_
  refine p_isub B5 d63_22 rfl (z := (16 : Int32)) (by decide) ?_
  refine p_iloadN B5 d63_23 rfl rfl ?_
  refine r_static (D' := D30_q98) B5 d63_24 rfl (W168 B5.gw) (W169 B5.gw) (W99 B5.gw) (W170 B5.gw) (by decide) (k_q98 W cs _ _ hf0 hf1 hf2 hl) (argsL := [(.int 16), (.int (Int32.ofNat cs.length))]) (rest := [(.int 0), (.ref a6), (.int 0), (.ref x0)]) rfl pd10 rfl rfl rfl (W := 4) rfl (cs' := 1) (ss' := 16) (by decide) (Kv1 fun T7 B9 => ?_)
  refine r_acopy B9 d63_27 (pc' := 30) (s0 := 0) (d0 := 0) (n0 := cs.length) (us := (cs.map Value.int)) (vd' := (cs.map Value.int)) rfl (W171 B9.gw) (W174 B9.gw) (W172 B9.gw) (W173 B9.gw) (aH (i := 1) rfl) (i := 0) rfl (Or.inl ⟨rfl, rfl⟩) (by decide) (by decide) (by decide) (by decide) (n31 (by omega)) (n31c (by omega)) (by rw [sbl (by omega)]; omega) (by rw [List.length_replicate]; omega) (sbt _) (sbu _) (H' := ((a6, .inr (.byte, "[B", (cs.map Value.int))) :: (x0, .inr (.byte, "[B", (sbv cs))) :: H)) rfl rfl (W := 0) rfl (by decide) (by decide) fun T10 B11 => ?_
  refine p_aload B11 d63_30 rfl rfl rfl ?_
  exact r_reta B11 d63_32 rfl rfl rfl (by decide) (by decide) (fun vm h P => ⟨a6, rfl, P⟩)
abbrev D62_q95 := E62 2 1 16 34
theorem k_q95 {g : GG} (W : GW g) (x0 : Addr) (cs : List Int32) (H : List Ent) (Lt : List SE) (hf0 : ¬ ((Int32.ofNat cs.length) = (16 : Int32))) (hf1 : ¬ ((Int32.ofNat cs.length) < (0 : Int32))) (hf2 : (Int32.ofNat cs.length) < (16 : Int32)) (hl : cs.length ≤ 14) : Ct g D62_q95 #[(.ref x0), (.int 0), (.int (Int32.ofNat cs.length))] ((x0, .inr (.byte, "[B", (sbv cs))) :: H) Lt (fun v vm h => ∃ a4, v = some (.ref a4) ∧ Hp g vm h ((a4, .inr (.byte, "[B", (cs.map Value.int))) :: (x0, .inr (.byte, "[B", (sbv cs))) :: H) (Lt)) := by
  refine CtW.body (Ls := #[.val (.ref x0), .val (.int 0), .val (.int (Int32.ofNat cs.length))]) W (by decide +kernel) (efr rfl) ?_
  intro M T B
  refine p_iloadN B d62_0 rfl rfl ?_
  refine b_ifF B d62_1 (pc' := 4) rfl (show (0 : Int32) = (0 : Int32) from by decide) ?_
  refine p_iloadN B d62_4 rfl rfl ?_
  refine p_aloadN B d62_5 rfl rfl rfl ?_
  refine r_alen B d62_6 rfl (aH (i := 0) rfl) (z := (16 : Int32)) (by rw [sbl (by omega)]; rfl) ?_
  refine b_icF B d62_7 (pc' := 10) rfl hf0 ?_
  refine p_aloadN B d62_10 rfl rfl rfl ?_
  refine p_iloadN B d62_11 rfl rfl ?_
  refine p_iloadN B d62_12 rfl rfl ?_
  refine r_static (D' := D63_q96) B d62_13 rfl (W384 B.gw) (W385 B.gw) (W155 B.gw) (W386 B.gw) (by decide) (k_q96 W x0 cs _ _ hf0 hf1 hf2 hl) (argsL := [(.ref x0), (.int 0), (.int (Int32.ofNat cs.length))]) (rest := []) rfl pd38 rfl rfl rfl (W := 0) rfl (cs' := 1) (ss' := 16) (by decide) (Kex fun a4 => Kv1 fun T1 B3 => ?_)
  exact r_reta B3 d62_16 rfl rfl rfl (by decide) (by decide) (fun vm h P => ⟨a4, rfl, P⟩)
abbrev D57_q86 := E57 3 1 16 49
theorem k_q86 {g : GG} (W : GW g) (x0 x1 x2 : Addr) (cs : List Int32) (H : List Ent) (Lt : List SE) (hf0 : ¬ ((Int32.ofNat cs.length) = (16 : Int32))) (hf1 : ¬ ((Int32.ofNat cs.length) < (0 : Int32))) (hf2 : (Int32.ofNat cs.length) < (16 : Int32)) (hl : cs.length ≤ 14) : Ct g D57_q86 #[(.ref x0), (.ref x1), .null] (oS x0 (.int 0) .null :: oSB x1 (.ref x2) (.int 0) (.int (Int32.ofNat cs.length)) :: (x2, .inr (.byte, "[B", (sbv cs))) :: H) Lt (fun v vm h => ∃ a19, v = none ∧ Hp g vm h ((a19, .inr (.byte, "[B", (cs.map Value.int))) :: (x2, .inr (.byte, "[B", (sbv cs))) :: oSB x1 (.ref x2) (.int 0) (.int (Int32.ofNat cs.length)) :: oS x0 (.int 0) (.ref a19) :: H) (Lt)) := by
  refine CtW.body (Ls := #[.val (.ref x0), .val (.ref x1), .val .null, .unset, .unset]) W (by decide +kernel) (efr rfl) ?_
  intro M T B
  refine p_aloadN B d57_0 rfl rfl rfl ?_
  refine r_initO B d57_1 rfl (W16 B.gw) (W17 B.gw) (W18 B.gw) rfl (by decide) (W := 0) rfl (by decide) fun T1 B2 => ?_
  refine p_aloadN B2 d57_4 rfl rfl rfl ?_
  have B3 := (B2.fr 1 rfl)
  refine r_virtual (D' := D58_q88) B3 d57_5 rfl (W363 B3.gw) (W364 B3.gw) (W366 B3.gw) (fun vm0 hZ => notFace_of_selects (args := #[]) (mvT hZ (W366 B3.gw))) (W365 B3.gw) (W298 B3.gw) (W367 B3.gw) (by decide) (fE (i := 0) rfl) (k_q88 W x1 x2 cs _ _ hf0 hf1 hf2 hl) (argsL := []) (rest := []) rfl pd36 rfl rfl rfl (W := 0) rfl (cs' := 0) (ss' := 0) (by decide) (Kv1 fun T4 B6 => ?_)
  refine p_astoreN B6 d57_8 rfl rfl (Ls' := #[.val (.ref x0), .val (.ref x1), .val .null, .val (.ref x2), .unset]) rfl ?_
  refine p_aloadN B6 d57_9 rfl rfl rfl ?_
  refine r_virtual (D' := D59_q92) B6 d57_10 rfl (W368 B6.gw) (W369 B6.gw) (W371 B6.gw) (fun vm0 hZ => nf_mate (args := #[]) (mvT hZ (W332 B6.gw)) rfl) (W372 B6.gw) (W290 B6.gw) (W373 B6.gw) (by decide) (fE (i := 0) rfl) (k_q92 W x1 x2 cs _ _ hf0 hf1 hf2 hl) (argsL := []) (rest := []) rfl pd26 rfl rfl rfl (W := 0) rfl (cs' := 0) (ss' := 0) (by decide) (Kv1 fun T7 B9 => ?_)
  refine p_istore B9 d57_13 rfl (Ls' := #[.val (.ref x0), .val (.ref x1), .val .null, .val (.ref x2), .val (.int (Int32.ofNat cs.length))]) rfl ?_
  refine p_aloadN B9 d57_15 rfl rfl rfl ?_
  refine r_virtual (D' := D61_q94) B9 d57_16 rfl (W376 B9.gw) (W377 B9.gw) (W379 B9.gw) (fun vm0 hZ => notFace_of_selects (args := #[]) (mvT hZ (W379 B9.gw))) (W378 B9.gw) (W298 B9.gw) (W380 B9.gw) (by decide) (fE (i := 0) rfl) (k_q94 W x1 x2 cs _ _ hf0 hf1 hf2 hl) (argsL := []) (rest := []) rfl pd14 rfl rfl rfl (W := 0) rfl (cs' := 0) (ss' := 0) (by decide) (Kv1 fun T10 B12 => ?_)
  refine b_ifF B12 d57_19 (pc' := 22) rfl (show ¬ (1 : Int32) = (0 : Int32) from by decide) ?_
  refine p_aloadN B12 d57_22 rfl rfl rfl ?_
  refine p_iconst B12 d57_23 rfl (v := (0 : Int32)) (by decide) ?_
  refine r_put B12 d57_24 rfl (host := "") (Or.inl (W31 B12.gw)) Via.refl (i := 1) (j := 0) rfl rfl (Or.inr ⟨(W32 B12.gw), rfl, rfl⟩) (W6 B12.gw) (ty := .byte) (by decide) (by decide) (by decide) (H' := (oSB x1 (.ref x2) (.int 0) (.int (Int32.ofNat cs.length)) :: oS x0 (.int 0) .null :: (x2, .inr (.byte, "[B", (sbv cs))) :: H)) rfl fun T13 B14 => ?_
  refine p_aloadN B14 d57_27 rfl rfl rfl ?_
  refine p_aloadN B14 d57_28 rfl rfl rfl ?_
  refine p_iconst B14 d57_29 rfl (v := (0 : Int32)) (by decide) ?_
  refine p_iload B14 d57_30 rfl rfl ?_
  have B15 := (B14.fr 2 rfl)
  refine r_static (D' := D62_q95) B15 d57_32 rfl (W381 B15.gw) (W382 B15.gw) (W155 B15.gw) (W383 B15.gw) (by decide) (k_q95 W x2 cs _ _ hf0 hf1 hf2 hl) (argsL := [(.ref x2), (.int 0), (.int (Int32.ofNat cs.length))]) (rest := [(.ref x0)]) rfl pd38 rfl rfl rfl (W := 1) rfl (cs' := 1) (ss' := 16) (by decide) (Kex fun a19 => Kv1 fun T16 B18 => ?_)
  refine r_put B18 d57_35 rfl (host := "") (Or.inl (W33 B18.gw)) Via.refl (i := 3) (j := 1) rfl rfl (Or.inr ⟨(W34 B18.gw), rfl, rfl⟩) (W6 B18.gw) (ty := (.array .byte)) (by decide) rfl rfl (H' := ((a19, .inr (.byte, "[B", (cs.map Value.int))) :: (x2, .inr (.byte, "[B", (sbv cs))) :: oSB x1 (.ref x2) (.int 0) (.int (Int32.ofNat cs.length)) :: oS x0 (.int 0) (.ref a19) :: H)) rfl fun T20 B21 => ?_
  refine b_goto B21 d57_38 (pc' := 97) (by decide) (by decide) ?_
  exact r_ret B21 d57_97 rfl (by decide) (by decide) (fun vm h P => ⟨a19, rfl, P⟩)
abbrev D56_q85 := E56 4 1 16 65
theorem k_q85 {g : GG} (W : GW g) (x0 x1 x2 : Addr) (cs : List Int32) (H : List Ent) (Lt : List SE) (hf0 : ¬ ((Int32.ofNat cs.length) = (16 : Int32))) (hf1 : ¬ ((Int32.ofNat cs.length) < (0 : Int32))) (hf2 : (Int32.ofNat cs.length) < (16 : Int32)) (hl : cs.length ≤ 14) : Ct g D56_q85 #[(.ref x0), (.ref x1)] (oS x0 (.int 0) .null :: oSB x1 (.ref x2) (.int 0) (.int (Int32.ofNat cs.length)) :: (x2, .inr (.byte, "[B", (sbv cs))) :: H) Lt (fun v vm h => ∃ a4, v = none ∧ Hp g vm h ((a4, .inr (.byte, "[B", (cs.map Value.int))) :: (x2, .inr (.byte, "[B", (sbv cs))) :: oSB x1 (.ref x2) (.int 0) (.int (Int32.ofNat cs.length)) :: oS x0 (.int 0) (.ref a4) :: H) (Lt)) := by
  refine CtW.body (Ls := #[.val (.ref x0), .val (.ref x1)]) W (by decide +kernel) (efr rfl) ?_
  intro M T B
  refine p_aloadN B d56_0 rfl rfl rfl ?_
  refine p_aloadN B d56_1 rfl rfl rfl ?_
  refine p_null B d56_2 rfl ?_
  refine r_special (D' := D57_q86) B d56_3 rfl rfl rfl (W360 B.gw) (W361 B.gw) (W7 B.gw) (W362 B.gw) (by decide) (k_q86 W x0 x1 x2 cs _ _ hf0 hf1 hf2 hl) (a := x0) (argsL := [(.ref x1), .null]) (rest := []) rfl pd39 rfl rfl rfl (W := 0) rfl (cs' := 1) (ss' := 16) (by decide) (Kex fun a4 => Kv0 fun T1 B3 => ?_)
  exact r_ret B3 d56_6 rfl (by decide) (by decide) (fun vm h P => ⟨a4, rfl, P⟩)
abbrev D55_w := E55 5 2 20 79
theorem W_ts {g : GG} (W : GW g) (sb vb : Addr) (cs : List Int32) (H : List Ent) (Lt : List SE) (hl : cs.length ≤ 14) : Ct g D55_w #[(.ref sb)] (SBo sb vb cs ++ H) Lt (fun v vm h => ∃ w wb, v = some (.ref w) ∧ Hp g vm h H ((w, wb, 0, cs.map Value.int) :: Lt)) := by
  refine CtW.body (Ls := #[.val (.ref sb)]) W (by decide +kernel) (efr rfl) ?_
  intro M T B
  replace B : RH g D55_w M T (oSB sb (.ref vb) (.int 0) (.int (Int32.ofNat cs.length)) :: (vb, .inr (.byte, "[B", (sbv cs))) :: H) Lt 0 0 := B
  refine r_new B d55_0 rfl (W356 B.gw) (W6 B.gw) (W7 B.gw) (Ly_oS B.gw) (by decide) (cs' := 1) rfl (ss' := 4) rfl (by decide) (by decide) fun T1 a3 B2 => ?_
  refine p_dup B2 d55_3 rfl rfl ?_
  refine p_aloadN B2 d55_4 rfl rfl rfl ?_
  refine r_special (D' := D56_q85) B2 d55_5 rfl rfl rfl (W357 B2.gw) (W358 B2.gw) (W7 B2.gw) (W359 B2.gw) (by decide) (k_q85 W a3 sb vb cs _ _ (fun q => by have q' := injN (n := cs.length) (k := 16) (by omega) (by omega) q; omega) (n31 (by omega)) (ltN (n := 16) (by omega) (by omega)) hl) (a := a3) (argsL := [(.ref sb)]) (rest := [(.ref a3)]) rfl pd40 rfl rfl rfl (W := 1) rfl (cs' := 2) (ss' := 20) (by decide) (Kex fun a7 => Kv0 fun T4 B6 => ?_)
  have B8 := ((B6.dl 1).dl 1)
  have B9 := (B8.fr 1 rfl)
  exact r_reta B9 d55_8 rfl rfl rfl (by decide) (by decide) (fun vm h P => ⟨a3, a7, rfl, P.freeze (by simp) (by simp)⟩)
abbrev D67_q99 := E67 0 0 0 0
theorem k_q99 {g : GG} (W : GW g) (x0 : Addr) (H : List Ent) (Lt : List SE) : Ct g D67_q99 #[(.ref x0)] (oAL x0 (.int 0) (.ref (dcOf g)) (.int 0) :: H) Lt (fun v vm h => v = some (.int 0) ∧ Hp g vm h (oAL x0 (.int 0) (.ref (dcOf g)) (.int 0) :: H) (Lt)) := by
  refine CtW.body (Ls := #[.val (.ref x0)]) W (by decide +kernel) (efr rfl) ?_
  intro M T B
  refine p_aloadN B d67_0 rfl rfl rfl ?_
  refine r_get B d67_1 rfl (host := "") (Or.inl (W80 B.gw)) Via.refl (v := (.int 0)) (fO (i := 0) (j := 2) rfl rfl) fun T1 B2 => ?_
  exact r_reti B2 d67_4 rfl (by simp) rfl (by decide) (by decide) (fun vm h P => ⟨rfl, P⟩)
abbrev D73_q100 := E73 0 0 0 0
theorem k_q100 {g : GG} (W : GW g) (H : List Ent) (Lt : List SE) : Ct g D73_q100 #[(.ref (elOf g))] (H) Lt (fun v vm h => v = some (.int 0) ∧ Hp g vm h (H) (Lt)) := by
  refine CtW.body (Ls := #[.val (.ref (elOf g))]) W (by decide +kernel) (efr rfl) ?_
  intro M T B
  refine p_aloadN B d73_0 rfl rfl rfl ?_
  refine r_get B d73_1 rfl (host := "") (Or.inl (W448 B.gw)) Via.refl (v := (.ref (eaOf g))) (el_fld W) fun T1 B2 => ?_
  obtain ⟨oc3, oA4, oz5⟩ := ea_arr W
  refine r_alenO B2 d73_4 rfl oA4 oz5 ?_
  exact r_reti B2 d73_5 rfl (by simp) rfl (by decide) (by decide) (fun vm h P => ⟨rfl, P⟩)
abbrev D66_w := E66 3 0 0 41
theorem c_sm0 {g : GG} (W : GW g) (c d e f : Addr) (H : List Ent) (Lt : List SE) : Ct g D66_w #[(.ref (elOf g)), (.ref e)] (IL g c d [] ++ (AL g e f [] ++ H)) Lt (fun v vm h => v = some (.int (1 : Int32)) ∧ Hp g vm h (IL g c d [] ++ (AL g e f [] ++ H)) Lt) := by
  refine CtW.body (Ls := #[.val (.ref (elOf g)), .val (.ref e), .unset]) W (by decide +kernel) (efr rfl) ?_
  intro M T B
  replace B : RH g D66_w M T (oAL e (.int 0) (.ref (dcOf g)) (.int 0) :: H) Lt 0 0 := B
  refine p_aloadN B d66_0 rfl rfl rfl ?_
  refine r_virtual (D' := D67_q99) B d66_1 rfl (W407 B.gw) (W408 B.gw) (W410 B.gw) (fun vm0 hZ => notFace_of_selects (args := #[]) (mvT hZ (W410 B.gw))) (W409 B.gw) (W51 B.gw) (W411 B.gw) (by decide) (fE (i := 0) rfl) (k_q99 W e _ _) (argsL := []) (rest := []) rfl pd26 rfl rfl rfl (W := 0) rfl (cs' := 0) (ss' := 0) (by decide) (Kv1 fun T1 B3 => ?_)
  refine p_istoreN B3 d66_4 rfl (Ls' := #[.val (.ref (elOf g)), .val (.ref e), .val (.int 0)]) rfl ?_
  refine p_aloadN B3 d66_5 rfl rfl rfl ?_
  refine r_iface (D' := D73_q100) B3 d66_6 rfl (W412 B3.gw) (W413 B3.gw) (W414 B3.gw) (by first | rfl | decide) (W450 B3.gw) (W445 B3.gw) (W451 B3.gw) (W452 B3.gw) (W443 B3.gw) (W446 B3.gw) (W447 B3.gw) (by decide) (el_exa W) (k_q100 W _ _) (argsL := []) (rest := []) rfl pd26 rfl rfl rfl (W := 0) rfl (cs' := 0) (ss' := 0) (by decide) (Kv1 fun T4 B6 => ?_)
  refine p_iloadN B6 d66_11 rfl rfl ?_
  refine b_icT B6 d66_12 (pc' := 17) (show (0 : Int32) = (0 : Int32) from by decide) (by decide) (by decide) ?_
  refine p_iloadN B6 d66_17 rfl rfl ?_
  refine b_ifT B6 d66_18 (pc' := 44) (show ¬ (0 : Int32) < (0 : Int32) from by decide) (by decide) (by decide) ?_
  refine p_iloadN B6 d66_44 rfl rfl ?_
  refine p_iconst B6 d66_45 rfl (v := (1 : Int32)) (by decide) ?_
  refine b_icT B6 d66_46 (pc' := 72) (show ¬ (1 : Int32) < (0 : Int32) from by decide) (by decide) (by decide) ?_
  refine p_iloadN B6 d66_72 rfl rfl ?_
  refine p_iconst B6 d66_73 rfl (v := (2 : Int32)) (by decide) ?_
  refine b_icT B6 d66_74 (pc' := 100) (show ¬ (2 : Int32) < (0 : Int32) from by decide) (by decide) (by decide) ?_
  refine p_iloadN B6 d66_100 rfl rfl ?_
  refine p_iconst B6 d66_101 rfl (v := (3 : Int32)) (by decide) ?_
  refine b_icT B6 d66_102 (pc' := 128) (show ¬ (3 : Int32) < (0 : Int32) from by decide) (by decide) (by decide) ?_
  refine p_iconst B6 d66_128 rfl (v := (1 : Int32)) (by decide) ?_
  exact r_reti B6 d66_129 rfl (by simp) rfl (by decide) (by decide) (fun vm h P => ⟨rfl, P⟩)
abbrev D67_q102 := E67 0 0 0 0
theorem k_q102 {g : GG} (W : GW g) (x0 x1 : Addr) (z0 : Int32) (H : List Ent) (Lt : List SE) : Ct g D67_q102 #[(.ref x0)] (oAL x0 (.int z0) (.ref x1) (.int z0) :: H) Lt (fun v vm h => v = some (.int z0) ∧ Hp g vm h (oAL x0 (.int z0) (.ref x1) (.int z0) :: H) (Lt)) := by
  refine CtW.body (Ls := #[.val (.ref x0)]) W (by decide +kernel) (efr rfl) ?_
  intro M T B
  refine p_aloadN B d67_0 rfl rfl rfl ?_
  refine r_get B d67_1 rfl (host := "") (Or.inl (W80 B.gw)) Via.refl (v := (.int z0)) (fO (i := 0) (j := 2) rfl rfl) fun T1 B2 => ?_
  exact r_reti B2 d67_4 rfl (by simp) rfl (by decide) (by decide) (fun vm h P => ⟨rfl, P⟩)
abbrev D38_q103 := E38 0 0 0 0
theorem k_q103 {g : GG} (W : GW g) (x0 x1 : Addr) (H : List Ent) (Lt : List SE) (ms0 : StrIn Lt x1) : Ct g D38_q103 #[(.ref x0)] (o12 x0 (.ref x1) (.ref (emOf g)) :: H) Lt (fun v vm h => v = some (.int 1) ∧ Hp g vm h (o12 x0 (.ref x1) (.ref (emOf g)) :: H) (Lt)) := by
  refine CtW.body (Ls := #[.val (.ref x0)]) W (by decide +kernel) (efr rfl) ?_
  intro M T B
  refine p_aloadN B d38_0 rfl rfl rfl ?_
  refine r_get B d38_1 rfl (host := "") (Or.inl (W206 B.gw)) Via.refl (v := (.ref (emOf g))) (fO (i := 0) (j := 1) rfl rfl) fun T1 B2 => ?_
  refine r_gets B2 d38_4 rfl (Or.inr (W205 B2.gw)) Via.refl (v := (.ref (emOf g))) (em_sta W) fun T3 B4 => ?_
  refine b_aeT B4 d38_7 (pc' := 14) rfl rfl rfl (by decide) (by decide) ?_
  refine p_iconst B4 d38_14 rfl (v := (1 : Int32)) (by decide) ?_
  exact r_reti B4 d38_15 rfl (by simp) rfl (by decide) (by decide) (fun vm h P => ⟨rfl, P⟩)
theorem c_sm1 {g : GG} (W : GW g) (c d e f x0 y0 : Addr) (H : List Ent) (Lt : List SE) {bx0 by0 : Addr} {us0 : List Int32} (mx0 : (x0, bx0, 0, us0.map Value.int) ∈ Lt) (my0 : (y0, by0, 0, us0.map Value.int) ∈ Lt) (hu0 : us0.length < 2147483648) : Ct g D66_w #[(.ref c), (.ref e)] (IL g c d [x0] ++ (AL g e f [y0] ++ H)) Lt (fun v vm h => v = some (.int (1 : Int32)) ∧ Hp g vm h (IL g c d [x0] ++ (AL g e f [y0] ++ H)) Lt) := by
  refine CtW.body (Ls := #[.val (.ref c), .val (.ref e), .unset]) W (by decide +kernel) (efr rfl) ?_
  intro M T B
  replace B : RH g D66_w M T (o12 c (.ref x0) (.ref (emOf g)) :: oAL e (.int 1) (.ref f) (.int 1) :: (f, .inr ((.object "java/lang/Object"), "[Ljava/lang/Object;", [(.ref y0), .null, .null, .null, .null, .null, .null, .null, .null, .null])) :: H) Lt 0 0 := B
  refine p_aloadN B d66_0 rfl rfl rfl ?_
  have B1 := (B.fr 1 rfl)
  refine r_virtual (D' := D67_q102) B1 d66_1 rfl (W407 B1.gw) (W408 B1.gw) (W410 B1.gw) (fun vm0 hZ => notFace_of_selects (args := #[]) (mvT hZ (W410 B1.gw))) (W409 B1.gw) (W51 B1.gw) (W411 B1.gw) (by decide) (fE (i := 0) rfl) (k_q102 W e f (1 : Int32) _ _) (argsL := []) (rest := []) rfl pd26 rfl rfl rfl (W := 0) rfl (cs' := 0) (ss' := 0) (by decide) (Kv1 fun T2 B4 => ?_)
  refine p_istoreN B4 d66_4 rfl (Ls' := #[.val (.ref c), .val (.ref e), .val (.int 1)]) rfl ?_
  refine p_aloadN B4 d66_5 rfl rfl rfl ?_
  have B5 := (B4.fr 1 rfl)
  refine r_iface (D' := D38_q103) B5 d66_6 rfl (W412 B5.gw) (W413 B5.gw) (W414 B5.gw) (by first | rfl | decide) (W415 B5.gw) (W233 B5.gw) (W416 B5.gw) (W417 B5.gw) (W224 B5.gw) (W180 B5.gw) (W234 B5.gw) (by decide) (fE (i := 0) rfl) (k_q103 W c x0 _ _ ⟨_, _, _, mx0⟩) (argsL := []) (rest := []) rfl pd26 rfl rfl rfl (W := 0) rfl (cs' := 0) (ss' := 0) (by decide) (Kv1 fun T6 B8 => ?_)
  refine p_iloadN B8 d66_11 rfl rfl ?_
  refine b_icT B8 d66_12 (pc' := 17) (show (1 : Int32) = (1 : Int32) from by decide) (by decide) (by decide) ?_
  refine p_iloadN B8 d66_17 rfl rfl ?_
  refine b_ifF B8 d66_18 (pc' := 21) rfl (show (0 : Int32) < (1 : Int32) from by decide) ?_
  refine p_aloadN B8 d66_21 rfl rfl rfl ?_
  refine p_iconst B8 d66_22 rfl (v := (0 : Int32)) (by decide) ?_
  refine r_iface (D' := D41_q69) B8 d66_23 rfl (W418 B8.gw) (W266 B8.gw) (W267 B8.gw) (by first | rfl | decide) (W268 B8.gw) (W269 B8.gw) (W270 B8.gw) (W271 B8.gw) (W224 B8.gw) (W180 B8.gw) (W272 B8.gw) (by decide) (fE (i := 0) rfl) (k_q69 W c x0 _ _ ⟨_, _, _, mx0⟩) (argsL := [(.int 0)]) (rest := []) rfl pd24 rfl rfl rfl (W := 0) rfl (cs' := 0) (ss' := 0) (by decide) (Kv1 fun T9 B11 => ?_)
  refine r_cast B11 d66_28 rfl (W5 B11.gw) (fun vm h E P => Ins.self ((sE mx0) vm h E P)) fun T12 B13 => ?_
  refine p_aloadN B13 d66_31 rfl rfl rfl ?_
  refine p_iconst B13 d66_32 rfl (v := (0 : Int32)) (by decide) ?_
  have B14 := ((B13.fr 2 rfl).fr 2 rfl)
  refine r_virtual (D' := D68_w) B14 d66_33 rfl (W419 B14.gw) (W420 B14.gw) (W422 B14.gw) (fun vm0 hZ => notFace_of_selects (args := #[]) (mvT hZ (W422 B14.gw))) (W421 B14.gw) (W51 B14.gw) (W423 B14.gw) (by decide) (fE (i := 0) rfl) (W_gt W e f y0 [y0] 0 rfl (by simp) _ _) (argsL := [(.int 0)]) (rest := [(.ref x0)]) rfl pd24 rfl rfl rfl (W := 1) rfl (cs' := 0) (ss' := 0) (by decide) (Kv1 fun T15 B17 => ?_)
  refine r_virtual (D' := D43) B17 d66_36 rfl (W436 B17.gw) (W281 B17.gw) (W283 B17.gw) (fun vm0 hZ => notFace_of_selects (args := #[]) (mvT hZ (W283 B17.gw))) (W282 B17.gw) (W7 B17.gw) (W284 B17.gw) (by decide) (sE mx0) (k_se W mx0 my0 hu0 hu0) (argsL := [(.ref y0)]) (rest := []) rfl pd29 rfl rfl rfl (W := 0) rfl (cs' := 0) (ss' := 0) (by decide) (Kex fun z21 => Kv1 fun T18 B20 => ?_)
  replace B20 := Rn.and B20
  obtain ⟨hz22, B20⟩ := B20
  obtain rfl : z21 = (1 : Int32) := by
    rcases hz22 with ⟨q, r⟩ | ⟨q, r⟩
    · exact q
    · exact absurd rfl r
  refine b_ifT B20 d66_39 (pc' := 44) (show ¬ (1 : Int32) = (0 : Int32) from by decide) (by decide) (by decide) ?_
  refine p_iloadN B20 d66_44 rfl rfl ?_
  refine p_iconst B20 d66_45 rfl (v := (1 : Int32)) (by decide) ?_
  refine b_icT B20 d66_46 (pc' := 72) (show ¬ (1 : Int32) < (1 : Int32) from by decide) (by decide) (by decide) ?_
  refine p_iloadN B20 d66_72 rfl rfl ?_
  refine p_iconst B20 d66_73 rfl (v := (2 : Int32)) (by decide) ?_
  refine b_icT B20 d66_74 (pc' := 100) (show ¬ (2 : Int32) < (1 : Int32) from by decide) (by decide) (by decide) ?_
  refine p_iloadN B20 d66_100 rfl rfl ?_
  refine p_iconst B20 d66_101 rfl (v := (3 : Int32)) (by decide) ?_
  refine b_icT B20 d66_102 (pc' := 128) (show ¬ (3 : Int32) < (1 : Int32) from by decide) (by decide) (by decide) ?_
  refine p_iconst B20 d66_128 rfl (v := (1 : Int32)) (by decide) ?_
  have B23 := (((B20.fr 1 rfl).fr 1 rfl).fr 2 rfl)
  exact r_reti B23 d66_129 rfl (by simp) rfl (by decide) (by decide) (fun vm h P => ⟨rfl, P⟩)
abbrev D38_q105 := E38 0 0 0 0
theorem k_q105 {g : GG} (W : GW g) (x0 x1 x2 : Addr) (H : List Ent) (Lt : List SE) (ms0 : StrIn Lt x1) (ms1 : StrIn Lt x2) : Ct g D38_q105 #[(.ref x0)] (o12 x0 (.ref x1) (.ref x2) :: H) Lt (fun v vm h => v = some (.int 2) ∧ Hp g vm h (o12 x0 (.ref x1) (.ref x2) :: H) (Lt)) := by
  refine CtW.body (Ls := #[.val (.ref x0)]) W (by decide +kernel) (efr rfl) ?_
  intro M T B
  refine p_aloadN B d38_0 rfl rfl rfl ?_
  refine r_get B d38_1 rfl (host := "") (Or.inl (W206 B.gw)) Via.refl (v := (.ref x2)) (fO (i := 0) (j := 1) rfl rfl) fun T1 B2 => ?_
  refine r_gets B2 d38_4 rfl (Or.inr (W205 B2.gw)) Via.refl (v := (.ref (emOf g))) (em_sta W) fun T3 B4 => ?_
  refine b_aeF B4 d38_7 (pc' := 10) rfl rfl rfl (fun e => Rn.fact B4 (fun vm h E P => Exa.ne ((sI ms1) vm h E P) ((em_exa W) vm h E P) (by decide)) (Value.ref.inj e)) ?_
  refine p_iconst B4 d38_10 rfl (v := (2 : Int32)) (by decide) ?_
  refine b_goto B4 d38_11 (pc' := 15) (by decide) (by decide) ?_
  exact r_reti B4 d38_15 rfl (by simp) rfl (by decide) (by decide) (fun vm h P => ⟨rfl, P⟩)
theorem c_sm2 {g : GG} (W : GW g) (c d e f x0 x1 y0 y1 : Addr) (H : List Ent) (Lt : List SE) {bx0 by0 : Addr} {us0 : List Int32} (mx0 : (x0, bx0, 0, us0.map Value.int) ∈ Lt) (my0 : (y0, by0, 0, us0.map Value.int) ∈ Lt) (hu0 : us0.length < 2147483648) {bx1 by1 : Addr} {us1 : List Int32} (mx1 : (x1, bx1, 0, us1.map Value.int) ∈ Lt) (my1 : (y1, by1, 0, us1.map Value.int) ∈ Lt) (hu1 : us1.length < 2147483648) : Ct g D66_w #[(.ref c), (.ref e)] (IL g c d [x0, x1] ++ (AL g e f [y0, y1] ++ H)) Lt (fun v vm h => v = some (.int (1 : Int32)) ∧ Hp g vm h (IL g c d [x0, x1] ++ (AL g e f [y0, y1] ++ H)) Lt) := by
  refine CtW.body (Ls := #[.val (.ref c), .val (.ref e), .unset]) W (by decide +kernel) (efr rfl) ?_
  intro M T B
  replace B : RH g D66_w M T (o12 c (.ref x0) (.ref x1) :: oAL e (.int 2) (.ref f) (.int 2) :: (f, .inr ((.object "java/lang/Object"), "[Ljava/lang/Object;", [(.ref y0), (.ref y1), .null, .null, .null, .null, .null, .null, .null, .null])) :: H) Lt 0 0 := B
  refine p_aloadN B d66_0 rfl rfl rfl ?_
  have B1 := (B.fr 1 rfl)
  refine r_virtual (D' := D67_q102) B1 d66_1 rfl (W407 B1.gw) (W408 B1.gw) (W410 B1.gw) (fun vm0 hZ => notFace_of_selects (args := #[]) (mvT hZ (W410 B1.gw))) (W409 B1.gw) (W51 B1.gw) (W411 B1.gw) (by decide) (fE (i := 0) rfl) (k_q102 W e f (2 : Int32) _ _) (argsL := []) (rest := []) rfl pd26 rfl rfl rfl (W := 0) rfl (cs' := 0) (ss' := 0) (by decide) (Kv1 fun T2 B4 => ?_)
  refine p_istoreN B4 d66_4 rfl (Ls' := #[.val (.ref c), .val (.ref e), .val (.int 2)]) rfl ?_
  refine p_aloadN B4 d66_5 rfl rfl rfl ?_
  have B5 := (B4.fr 1 rfl)
  refine r_iface (D' := D38_q105) B5 d66_6 rfl (W412 B5.gw) (W413 B5.gw) (W414 B5.gw) (by first | rfl | decide) (W415 B5.gw) (W233 B5.gw) (W416 B5.gw) (W417 B5.gw) (W224 B5.gw) (W180 B5.gw) (W234 B5.gw) (by decide) (fE (i := 0) rfl) (k_q105 W c x0 x1 _ _ ⟨_, _, _, mx0⟩ ⟨_, _, _, mx1⟩) (argsL := []) (rest := []) rfl pd26 rfl rfl rfl (W := 0) rfl (cs' := 0) (ss' := 0) (by decide) (Kv1 fun T6 B8 => ?_)
  refine p_iloadN B8 d66_11 rfl rfl ?_
  refine b_icT B8 d66_12 (pc' := 17) (show (2 : Int32) = (2 : Int32) from by decide) (by decide) (by decide) ?_
  refine p_iloadN B8 d66_17 rfl rfl ?_
  refine b_ifF B8 d66_18 (pc' := 21) rfl (show (0 : Int32) < (2 : Int32) from by decide) ?_
  refine p_aloadN B8 d66_21 rfl rfl rfl ?_
  refine p_iconst B8 d66_22 rfl (v := (0 : Int32)) (by decide) ?_
  refine r_iface (D' := D41_q70) B8 d66_23 rfl (W418 B8.gw) (W266 B8.gw) (W267 B8.gw) (by first | rfl | decide) (W268 B8.gw) (W269 B8.gw) (W270 B8.gw) (W271 B8.gw) (W224 B8.gw) (W180 B8.gw) (W272 B8.gw) (by decide) (fE (i := 0) rfl) (k_q70 W c x0 x1 _ _ ⟨_, _, _, mx0⟩ ⟨_, _, _, mx1⟩) (argsL := [(.int 0)]) (rest := []) rfl pd24 rfl rfl rfl (W := 0) rfl (cs' := 0) (ss' := 0) (by decide) (Kv1 fun T9 B11 => ?_)
  refine r_cast B11 d66_28 rfl (W5 B11.gw) (fun vm h E P => Ins.self ((sE mx0) vm h E P)) fun T12 B13 => ?_
  refine p_aloadN B13 d66_31 rfl rfl rfl ?_
  refine p_iconst B13 d66_32 rfl (v := (0 : Int32)) (by decide) ?_
  have B14 := ((B13.fr 2 rfl).fr 2 rfl)
  refine r_virtual (D' := D68_w) B14 d66_33 rfl (W419 B14.gw) (W420 B14.gw) (W422 B14.gw) (fun vm0 hZ => notFace_of_selects (args := #[]) (mvT hZ (W422 B14.gw))) (W421 B14.gw) (W51 B14.gw) (W423 B14.gw) (by decide) (fE (i := 0) rfl) (W_gt W e f y0 [y0, y1] 0 rfl (by simp) _ _) (argsL := [(.int 0)]) (rest := [(.ref x0)]) rfl pd24 rfl rfl rfl (W := 1) rfl (cs' := 0) (ss' := 0) (by decide) (Kv1 fun T15 B17 => ?_)
  refine r_virtual (D' := D43) B17 d66_36 rfl (W436 B17.gw) (W281 B17.gw) (W283 B17.gw) (fun vm0 hZ => notFace_of_selects (args := #[]) (mvT hZ (W283 B17.gw))) (W282 B17.gw) (W7 B17.gw) (W284 B17.gw) (by decide) (sE mx0) (k_se W mx0 my0 hu0 hu0) (argsL := [(.ref y0)]) (rest := []) rfl pd29 rfl rfl rfl (W := 0) rfl (cs' := 0) (ss' := 0) (by decide) (Kex fun z21 => Kv1 fun T18 B20 => ?_)
  replace B20 := Rn.and B20
  obtain ⟨hz22, B20⟩ := B20
  obtain rfl : z21 = (1 : Int32) := by
    rcases hz22 with ⟨q, r⟩ | ⟨q, r⟩
    · exact q
    · exact absurd rfl r
  refine b_ifT B20 d66_39 (pc' := 44) (show ¬ (1 : Int32) = (0 : Int32) from by decide) (by decide) (by decide) ?_
  refine p_iloadN B20 d66_44 rfl rfl ?_
  refine p_iconst B20 d66_45 rfl (v := (1 : Int32)) (by decide) ?_
  refine b_icF B20 d66_46 (pc' := 49) rfl (show (1 : Int32) < (2 : Int32) from by decide) ?_
  refine p_aloadN B20 d66_49 rfl rfl rfl ?_
  refine p_iconst B20 d66_50 rfl (v := (1 : Int32)) (by decide) ?_
  have B23 := (B20.fr 2 rfl)
  refine r_iface (D' := D41_q73) B23 d66_51 rfl (W418 B23.gw) (W266 B23.gw) (W267 B23.gw) (by first | rfl | decide) (W268 B23.gw) (W269 B23.gw) (W270 B23.gw) (W271 B23.gw) (W224 B23.gw) (W180 B23.gw) (W272 B23.gw) (by decide) (fE (i := 0) rfl) (k_q73 W c x0 x1 _ _ ⟨_, _, _, mx0⟩ ⟨_, _, _, mx1⟩) (argsL := [(.int 1)]) (rest := []) rfl pd24 rfl rfl rfl (W := 0) rfl (cs' := 0) (ss' := 0) (by decide) (Kv1 fun T24 B26 => ?_)
  refine r_cast B26 d66_56 rfl (W5 B26.gw) (fun vm h E P => Ins.self ((sE mx1) vm h E P)) fun T27 B28 => ?_
  refine p_aloadN B28 d66_59 rfl rfl rfl ?_
  refine p_iconst B28 d66_60 rfl (v := (1 : Int32)) (by decide) ?_
  have B29 := ((B28.fr 2 rfl).fr 2 rfl)
  refine r_virtual (D' := D68_w) B29 d66_61 rfl (W419 B29.gw) (W420 B29.gw) (W422 B29.gw) (fun vm0 hZ => notFace_of_selects (args := #[]) (mvT hZ (W422 B29.gw))) (W421 B29.gw) (W51 B29.gw) (W423 B29.gw) (by decide) (fE (i := 0) rfl) (W_gt W e f y1 [y0, y1] 1 rfl (by simp) _ _) (argsL := [(.int 1)]) (rest := [(.ref x1)]) rfl pd24 rfl rfl rfl (W := 1) rfl (cs' := 0) (ss' := 0) (by decide) (Kv1 fun T30 B32 => ?_)
  refine r_virtual (D' := D43) B32 d66_64 rfl (W436 B32.gw) (W281 B32.gw) (W283 B32.gw) (fun vm0 hZ => notFace_of_selects (args := #[]) (mvT hZ (W283 B32.gw))) (W282 B32.gw) (W7 B32.gw) (W284 B32.gw) (by decide) (sE mx1) (k_se W mx1 my1 hu1 hu1) (argsL := [(.ref y1)]) (rest := []) rfl pd29 rfl rfl rfl (W := 0) rfl (cs' := 0) (ss' := 0) (by decide) (Kex fun z36 => Kv1 fun T33 B35 => ?_)
  replace B35 := Rn.and B35
  obtain ⟨hz37, B35⟩ := B35
  obtain rfl : z36 = (1 : Int32) := by
    rcases hz37 with ⟨q, r⟩ | ⟨q, r⟩
    · exact q
    · exact absurd rfl r
  refine b_ifT B35 d66_67 (pc' := 72) (show ¬ (1 : Int32) = (0 : Int32) from by decide) (by decide) (by decide) ?_
  refine p_iloadN B35 d66_72 rfl rfl ?_
  refine p_iconst B35 d66_73 rfl (v := (2 : Int32)) (by decide) ?_
  refine b_icT B35 d66_74 (pc' := 100) (show ¬ (2 : Int32) < (2 : Int32) from by decide) (by decide) (by decide) ?_
  refine p_iloadN B35 d66_100 rfl rfl ?_
  refine p_iconst B35 d66_101 rfl (v := (3 : Int32)) (by decide) ?_
  refine b_icT B35 d66_102 (pc' := 128) (show ¬ (3 : Int32) < (2 : Int32) from by decide) (by decide) (by decide) ?_
  refine p_iconst B35 d66_128 rfl (v := (1 : Int32)) (by decide) ?_
  have B38 := (((B35.fr 1 rfl).fr 1 rfl).fr 2 rfl)
  exact r_reti B38 d66_129 rfl (by simp) rfl (by decide) (by decide) (fun vm h P => ⟨rfl, P⟩)
abbrev D73_q107 := E73 0 0 0 0
theorem k_q107 {g : GG} (W : GW g) (x0 x1 x2 x3 x4 : Addr) (H : List Ent) (Lt : List SE) (ms0 : StrIn Lt x2) (ms1 : StrIn Lt x3) (ms2 : StrIn Lt x4) : Ct g D73_q107 #[(.ref x0)] (oLN x0 (.ref x1) (.int 0) :: (x1, .inr ((.object "java/lang/Object"), "[Ljava/lang/Object;", [(.ref x2), (.ref x3), (.ref x4)])) :: H) Lt (fun v vm h => v = some (.int 3) ∧ Hp g vm h (oLN x0 (.ref x1) (.int 0) :: (x1, .inr ((.object "java/lang/Object"), "[Ljava/lang/Object;", [(.ref x2), (.ref x3), (.ref x4)])) :: H) (Lt)) := by
  refine CtW.body (Ls := #[.val (.ref x0)]) W (by decide +kernel) (efr rfl) ?_
  intro M T B
  refine p_aloadN B d73_0 rfl rfl rfl ?_
  refine r_get B d73_1 rfl (host := "") (Or.inl (W448 B.gw)) Via.refl (v := (.ref x1)) (fO (i := 0) (j := 0) rfl rfl) fun T1 B2 => ?_
  refine r_alen B2 d73_4 rfl (aH (i := 1) rfl) (z := (3 : Int32)) rfl ?_
  exact r_reti B2 d73_5 rfl (by simp) rfl (by decide) (by decide) (fun vm h P => ⟨rfl, P⟩)
theorem c_sm3 {g : GG} (W : GW g) (c d e f x0 x1 x2 y0 y1 y2 : Addr) (H : List Ent) (Lt : List SE) {bx0 by0 : Addr} {us0 : List Int32} (mx0 : (x0, bx0, 0, us0.map Value.int) ∈ Lt) (my0 : (y0, by0, 0, us0.map Value.int) ∈ Lt) (hu0 : us0.length < 2147483648) {bx1 by1 : Addr} {us1 : List Int32} (mx1 : (x1, bx1, 0, us1.map Value.int) ∈ Lt) (my1 : (y1, by1, 0, us1.map Value.int) ∈ Lt) (hu1 : us1.length < 2147483648) {bx2 by2 : Addr} {us2 : List Int32} (mx2 : (x2, bx2, 0, us2.map Value.int) ∈ Lt) (my2 : (y2, by2, 0, us2.map Value.int) ∈ Lt) (hu2 : us2.length < 2147483648) : Ct g D66_w #[(.ref c), (.ref e)] (IL g c d [x0, x1, x2] ++ (AL g e f [y0, y1, y2] ++ H)) Lt (fun v vm h => v = some (.int (1 : Int32)) ∧ Hp g vm h (IL g c d [x0, x1, x2] ++ (AL g e f [y0, y1, y2] ++ H)) Lt) := by
  refine CtW.body (Ls := #[.val (.ref c), .val (.ref e), .unset]) W (by decide +kernel) (efr rfl) ?_
  intro M T B
  replace B : RH g D66_w M T (oLN c (.ref d) (.int 0) :: (d, .inr ((.object "java/lang/Object"), "[Ljava/lang/Object;", [(.ref x0), (.ref x1), (.ref x2)])) :: oAL e (.int 3) (.ref f) (.int 3) :: (f, .inr ((.object "java/lang/Object"), "[Ljava/lang/Object;", [(.ref y0), (.ref y1), (.ref y2), .null, .null, .null, .null, .null, .null, .null])) :: H) Lt 0 0 := B
  refine p_aloadN B d66_0 rfl rfl rfl ?_
  have B1 := (B.fr 2 rfl)
  refine r_virtual (D' := D67_q102) B1 d66_1 rfl (W407 B1.gw) (W408 B1.gw) (W410 B1.gw) (fun vm0 hZ => notFace_of_selects (args := #[]) (mvT hZ (W410 B1.gw))) (W409 B1.gw) (W51 B1.gw) (W411 B1.gw) (by decide) (fE (i := 0) rfl) (k_q102 W e f (3 : Int32) _ _) (argsL := []) (rest := []) rfl pd26 rfl rfl rfl (W := 0) rfl (cs' := 0) (ss' := 0) (by decide) (Kv1 fun T2 B4 => ?_)
  refine p_istoreN B4 d66_4 rfl (Ls' := #[.val (.ref c), .val (.ref e), .val (.int 3)]) rfl ?_
  refine p_aloadN B4 d66_5 rfl rfl rfl ?_
  have B5 := ((B4.fr 2 rfl).fr 2 rfl)
  refine r_iface (D' := D73_q107) B5 d66_6 rfl (W412 B5.gw) (W413 B5.gw) (W414 B5.gw) (by first | rfl | decide) (W450 B5.gw) (W445 B5.gw) (W451 B5.gw) (W452 B5.gw) (W443 B5.gw) (W446 B5.gw) (W447 B5.gw) (by decide) (fE (i := 0) rfl) (k_q107 W c d x0 x1 x2 _ _ ⟨_, _, _, mx0⟩ ⟨_, _, _, mx1⟩ ⟨_, _, _, mx2⟩) (argsL := []) (rest := []) rfl pd26 rfl rfl rfl (W := 0) rfl (cs' := 0) (ss' := 0) (by decide) (Kv1 fun T6 B8 => ?_)
  refine p_iloadN B8 d66_11 rfl rfl ?_
  refine b_icT B8 d66_12 (pc' := 17) (show (3 : Int32) = (3 : Int32) from by decide) (by decide) (by decide) ?_
  refine p_iloadN B8 d66_17 rfl rfl ?_
  refine b_ifF B8 d66_18 (pc' := 21) rfl (show (0 : Int32) < (3 : Int32) from by decide) ?_
  refine p_aloadN B8 d66_21 rfl rfl rfl ?_
  refine p_iconst B8 d66_22 rfl (v := (0 : Int32)) (by decide) ?_
  refine r_iface (D' := D78_q71) B8 d66_23 rfl (W418 B8.gw) (W266 B8.gw) (W267 B8.gw) (by first | rfl | decide) (W482 B8.gw) (W483 B8.gw) (W484 B8.gw) (W485 B8.gw) (W443 B8.gw) (W446 B8.gw) (W486 B8.gw) (by decide) (fE (i := 0) rfl) (k_q71 W c d x0 x1 x2 _ _ ⟨_, _, _, mx0⟩ ⟨_, _, _, mx1⟩ ⟨_, _, _, mx2⟩) (argsL := [(.int 0)]) (rest := []) rfl pd24 rfl rfl rfl (W := 0) rfl (cs' := 0) (ss' := 0) (by decide) (Kv1 fun T9 B11 => ?_)
  refine r_cast B11 d66_28 rfl (W5 B11.gw) (fun vm h E P => Ins.self ((sE mx0) vm h E P)) fun T12 B13 => ?_
  refine p_aloadN B13 d66_31 rfl rfl rfl ?_
  refine p_iconst B13 d66_32 rfl (v := (0 : Int32)) (by decide) ?_
  have B14 := ((B13.fr 3 rfl).fr 3 rfl)
  refine r_virtual (D' := D68_w) B14 d66_33 rfl (W419 B14.gw) (W420 B14.gw) (W422 B14.gw) (fun vm0 hZ => notFace_of_selects (args := #[]) (mvT hZ (W422 B14.gw))) (W421 B14.gw) (W51 B14.gw) (W423 B14.gw) (by decide) (fE (i := 0) rfl) (W_gt W e f y0 [y0, y1, y2] 0 rfl (by simp) _ _) (argsL := [(.int 0)]) (rest := [(.ref x0)]) rfl pd24 rfl rfl rfl (W := 1) rfl (cs' := 0) (ss' := 0) (by decide) (Kv1 fun T15 B17 => ?_)
  refine r_virtual (D' := D43) B17 d66_36 rfl (W436 B17.gw) (W281 B17.gw) (W283 B17.gw) (fun vm0 hZ => notFace_of_selects (args := #[]) (mvT hZ (W283 B17.gw))) (W282 B17.gw) (W7 B17.gw) (W284 B17.gw) (by decide) (sE mx0) (k_se W mx0 my0 hu0 hu0) (argsL := [(.ref y0)]) (rest := []) rfl pd29 rfl rfl rfl (W := 0) rfl (cs' := 0) (ss' := 0) (by decide) (Kex fun z21 => Kv1 fun T18 B20 => ?_)
  replace B20 := Rn.and B20
  obtain ⟨hz22, B20⟩ := B20
  obtain rfl : z21 = (1 : Int32) := by
    rcases hz22 with ⟨q, r⟩ | ⟨q, r⟩
    · exact q
    · exact absurd rfl r
  refine b_ifT B20 d66_39 (pc' := 44) (show ¬ (1 : Int32) = (0 : Int32) from by decide) (by decide) (by decide) ?_
  refine p_iloadN B20 d66_44 rfl rfl ?_
  refine p_iconst B20 d66_45 rfl (v := (1 : Int32)) (by decide) ?_
  refine b_icF B20 d66_46 (pc' := 49) rfl (show (1 : Int32) < (3 : Int32) from by decide) ?_
  refine p_aloadN B20 d66_49 rfl rfl rfl ?_
  refine p_iconst B20 d66_50 rfl (v := (1 : Int32)) (by decide) ?_
  have B23 := ((B20.fr 3 rfl).fr 3 rfl)
  refine r_iface (D' := D78_q74) B23 d66_51 rfl (W418 B23.gw) (W266 B23.gw) (W267 B23.gw) (by first | rfl | decide) (W482 B23.gw) (W483 B23.gw) (W484 B23.gw) (W485 B23.gw) (W443 B23.gw) (W446 B23.gw) (W486 B23.gw) (by decide) (fE (i := 0) rfl) (k_q74 W c d x0 x1 x2 _ _ ⟨_, _, _, mx0⟩ ⟨_, _, _, mx1⟩ ⟨_, _, _, mx2⟩) (argsL := [(.int 1)]) (rest := []) rfl pd24 rfl rfl rfl (W := 0) rfl (cs' := 0) (ss' := 0) (by decide) (Kv1 fun T24 B26 => ?_)
  refine r_cast B26 d66_56 rfl (W5 B26.gw) (fun vm h E P => Ins.self ((sE mx1) vm h E P)) fun T27 B28 => ?_
  refine p_aloadN B28 d66_59 rfl rfl rfl ?_
  refine p_iconst B28 d66_60 rfl (v := (1 : Int32)) (by decide) ?_
  have B29 := ((B28.fr 3 rfl).fr 3 rfl)
  refine r_virtual (D' := D68_w) B29 d66_61 rfl (W419 B29.gw) (W420 B29.gw) (W422 B29.gw) (fun vm0 hZ => notFace_of_selects (args := #[]) (mvT hZ (W422 B29.gw))) (W421 B29.gw) (W51 B29.gw) (W423 B29.gw) (by decide) (fE (i := 0) rfl) (W_gt W e f y1 [y0, y1, y2] 1 rfl (by simp) _ _) (argsL := [(.int 1)]) (rest := [(.ref x1)]) rfl pd24 rfl rfl rfl (W := 1) rfl (cs' := 0) (ss' := 0) (by decide) (Kv1 fun T30 B32 => ?_)
  refine r_virtual (D' := D43) B32 d66_64 rfl (W436 B32.gw) (W281 B32.gw) (W283 B32.gw) (fun vm0 hZ => notFace_of_selects (args := #[]) (mvT hZ (W283 B32.gw))) (W282 B32.gw) (W7 B32.gw) (W284 B32.gw) (by decide) (sE mx1) (k_se W mx1 my1 hu1 hu1) (argsL := [(.ref y1)]) (rest := []) rfl pd29 rfl rfl rfl (W := 0) rfl (cs' := 0) (ss' := 0) (by decide) (Kex fun z36 => Kv1 fun T33 B35 => ?_)
  replace B35 := Rn.and B35
  obtain ⟨hz37, B35⟩ := B35
  obtain rfl : z36 = (1 : Int32) := by
    rcases hz37 with ⟨q, r⟩ | ⟨q, r⟩
    · exact q
    · exact absurd rfl r
  refine b_ifT B35 d66_67 (pc' := 72) (show ¬ (1 : Int32) = (0 : Int32) from by decide) (by decide) (by decide) ?_
  refine p_iloadN B35 d66_72 rfl rfl ?_
  refine p_iconst B35 d66_73 rfl (v := (2 : Int32)) (by decide) ?_
  refine b_icF B35 d66_74 (pc' := 77) rfl (show (2 : Int32) < (3 : Int32) from by decide) ?_
  refine p_aloadN B35 d66_77 rfl rfl rfl ?_
  refine p_iconst B35 d66_78 rfl (v := (2 : Int32)) (by decide) ?_
  have B38 := ((B35.fr 3 rfl).fr 3 rfl)
  refine r_iface (D' := D78_q76) B38 d66_79 rfl (W418 B38.gw) (W266 B38.gw) (W267 B38.gw) (by first | rfl | decide) (W482 B38.gw) (W483 B38.gw) (W484 B38.gw) (W485 B38.gw) (W443 B38.gw) (W446 B38.gw) (W486 B38.gw) (by decide) (fE (i := 0) rfl) (k_q76 W c d x0 x1 x2 _ _ ⟨_, _, _, mx0⟩ ⟨_, _, _, mx1⟩ ⟨_, _, _, mx2⟩) (argsL := [(.int 2)]) (rest := []) rfl pd24 rfl rfl rfl (W := 0) rfl (cs' := 0) (ss' := 0) (by decide) (Kv1 fun T39 B41 => ?_)
  refine r_cast B41 d66_84 rfl (W5 B41.gw) (fun vm h E P => Ins.self ((sE mx2) vm h E P)) fun T42 B43 => ?_
  refine p_aloadN B43 d66_87 rfl rfl rfl ?_
  refine p_iconst B43 d66_88 rfl (v := (2 : Int32)) (by decide) ?_
  have B44 := ((B43.fr 3 rfl).fr 3 rfl)
  refine r_virtual (D' := D68_w) B44 d66_89 rfl (W419 B44.gw) (W420 B44.gw) (W422 B44.gw) (fun vm0 hZ => notFace_of_selects (args := #[]) (mvT hZ (W422 B44.gw))) (W421 B44.gw) (W51 B44.gw) (W423 B44.gw) (by decide) (fE (i := 0) rfl) (W_gt W e f y2 [y0, y1, y2] 2 rfl (by simp) _ _) (argsL := [(.int 2)]) (rest := [(.ref x2)]) rfl pd24 rfl rfl rfl (W := 1) rfl (cs' := 0) (ss' := 0) (by decide) (Kv1 fun T45 B47 => ?_)
  refine r_virtual (D' := D43) B47 d66_92 rfl (W436 B47.gw) (W281 B47.gw) (W283 B47.gw) (fun vm0 hZ => notFace_of_selects (args := #[]) (mvT hZ (W283 B47.gw))) (W282 B47.gw) (W7 B47.gw) (W284 B47.gw) (by decide) (sE mx2) (k_se W mx2 my2 hu2 hu2) (argsL := [(.ref y2)]) (rest := []) rfl pd29 rfl rfl rfl (W := 0) rfl (cs' := 0) (ss' := 0) (by decide) (Kex fun z51 => Kv1 fun T48 B50 => ?_)
  replace B50 := Rn.and B50
  obtain ⟨hz52, B50⟩ := B50
  obtain rfl : z51 = (1 : Int32) := by
    rcases hz52 with ⟨q, r⟩ | ⟨q, r⟩
    · exact q
    · exact absurd rfl r
  refine b_ifT B50 d66_95 (pc' := 100) (show ¬ (1 : Int32) = (0 : Int32) from by decide) (by decide) (by decide) ?_
  refine p_iloadN B50 d66_100 rfl rfl ?_
  refine p_iconst B50 d66_101 rfl (v := (3 : Int32)) (by decide) ?_
  refine b_icT B50 d66_102 (pc' := 128) (show ¬ (3 : Int32) < (3 : Int32) from by decide) (by decide) (by decide) ?_
  refine p_iconst B50 d66_128 rfl (v := (1 : Int32)) (by decide) ?_
  have B53 := ((((B50.fr 1 rfl).fr 1 rfl).fr 3 rfl).fr 3 rfl)
  exact r_reti B53 d66_129 rfl (by simp) rfl (by decide) (by decide) (fun vm h P => ⟨rfl, P⟩)
abbrev D73_q109 := E73 0 0 0 0
theorem k_q109 {g : GG} (W : GW g) (x0 x1 x2 x3 x4 x5 : Addr) (H : List Ent) (Lt : List SE) (ms0 : StrIn Lt x2) (ms1 : StrIn Lt x3) (ms2 : StrIn Lt x4) (ms3 : StrIn Lt x5) : Ct g D73_q109 #[(.ref x0)] (oLN x0 (.ref x1) (.int 0) :: (x1, .inr ((.object "java/lang/Object"), "[Ljava/lang/Object;", [(.ref x2), (.ref x3), (.ref x4), (.ref x5)])) :: H) Lt (fun v vm h => v = some (.int 4) ∧ Hp g vm h (oLN x0 (.ref x1) (.int 0) :: (x1, .inr ((.object "java/lang/Object"), "[Ljava/lang/Object;", [(.ref x2), (.ref x3), (.ref x4), (.ref x5)])) :: H) (Lt)) := by
  refine CtW.body (Ls := #[.val (.ref x0)]) W (by decide +kernel) (efr rfl) ?_
  intro M T B
  refine p_aloadN B d73_0 rfl rfl rfl ?_
  refine r_get B d73_1 rfl (host := "") (Or.inl (W448 B.gw)) Via.refl (v := (.ref x1)) (fO (i := 0) (j := 0) rfl rfl) fun T1 B2 => ?_
  refine r_alen B2 d73_4 rfl (aH (i := 1) rfl) (z := (4 : Int32)) rfl ?_
  exact r_reti B2 d73_5 rfl (by simp) rfl (by decide) (by decide) (fun vm h P => ⟨rfl, P⟩)
theorem c_sm4 {g : GG} (W : GW g) (c d e f x0 x1 x2 x3 y0 y1 y2 y3 : Addr) (H : List Ent) (Lt : List SE) {bx0 by0 : Addr} {us0 : List Int32} (mx0 : (x0, bx0, 0, us0.map Value.int) ∈ Lt) (my0 : (y0, by0, 0, us0.map Value.int) ∈ Lt) (hu0 : us0.length < 2147483648) {bx1 by1 : Addr} {us1 : List Int32} (mx1 : (x1, bx1, 0, us1.map Value.int) ∈ Lt) (my1 : (y1, by1, 0, us1.map Value.int) ∈ Lt) (hu1 : us1.length < 2147483648) {bx2 by2 : Addr} {us2 : List Int32} (mx2 : (x2, bx2, 0, us2.map Value.int) ∈ Lt) (my2 : (y2, by2, 0, us2.map Value.int) ∈ Lt) (hu2 : us2.length < 2147483648) {bx3 by3 : Addr} {us3 : List Int32} (mx3 : (x3, bx3, 0, us3.map Value.int) ∈ Lt) (my3 : (y3, by3, 0, us3.map Value.int) ∈ Lt) (hu3 : us3.length < 2147483648) : Ct g D66_w #[(.ref c), (.ref e)] (IL g c d [x0, x1, x2, x3] ++ (AL g e f [y0, y1, y2, y3] ++ H)) Lt (fun v vm h => v = some (.int (1 : Int32)) ∧ Hp g vm h (IL g c d [x0, x1, x2, x3] ++ (AL g e f [y0, y1, y2, y3] ++ H)) Lt) := by
  refine CtW.body (Ls := #[.val (.ref c), .val (.ref e), .unset]) W (by decide +kernel) (efr rfl) ?_
  intro M T B
  replace B : RH g D66_w M T (oLN c (.ref d) (.int 0) :: (d, .inr ((.object "java/lang/Object"), "[Ljava/lang/Object;", [(.ref x0), (.ref x1), (.ref x2), (.ref x3)])) :: oAL e (.int 4) (.ref f) (.int 4) :: (f, .inr ((.object "java/lang/Object"), "[Ljava/lang/Object;", [(.ref y0), (.ref y1), (.ref y2), (.ref y3), .null, .null, .null, .null, .null, .null])) :: H) Lt 0 0 := B
  refine p_aloadN B d66_0 rfl rfl rfl ?_
  have B1 := (B.fr 2 rfl)
  refine r_virtual (D' := D67_q102) B1 d66_1 rfl (W407 B1.gw) (W408 B1.gw) (W410 B1.gw) (fun vm0 hZ => notFace_of_selects (args := #[]) (mvT hZ (W410 B1.gw))) (W409 B1.gw) (W51 B1.gw) (W411 B1.gw) (by decide) (fE (i := 0) rfl) (k_q102 W e f (4 : Int32) _ _) (argsL := []) (rest := []) rfl pd26 rfl rfl rfl (W := 0) rfl (cs' := 0) (ss' := 0) (by decide) (Kv1 fun T2 B4 => ?_)
  refine p_istoreN B4 d66_4 rfl (Ls' := #[.val (.ref c), .val (.ref e), .val (.int 4)]) rfl ?_
  refine p_aloadN B4 d66_5 rfl rfl rfl ?_
  have B5 := ((B4.fr 2 rfl).fr 2 rfl)
  refine r_iface (D' := D73_q109) B5 d66_6 rfl (W412 B5.gw) (W413 B5.gw) (W414 B5.gw) (by first | rfl | decide) (W450 B5.gw) (W445 B5.gw) (W451 B5.gw) (W452 B5.gw) (W443 B5.gw) (W446 B5.gw) (W447 B5.gw) (by decide) (fE (i := 0) rfl) (k_q109 W c d x0 x1 x2 x3 _ _ ⟨_, _, _, mx0⟩ ⟨_, _, _, mx1⟩ ⟨_, _, _, mx2⟩ ⟨_, _, _, mx3⟩) (argsL := []) (rest := []) rfl pd26 rfl rfl rfl (W := 0) rfl (cs' := 0) (ss' := 0) (by decide) (Kv1 fun T6 B8 => ?_)
  refine p_iloadN B8 d66_11 rfl rfl ?_
  refine b_icT B8 d66_12 (pc' := 17) (show (4 : Int32) = (4 : Int32) from by decide) (by decide) (by decide) ?_
  refine p_iloadN B8 d66_17 rfl rfl ?_
  refine b_ifF B8 d66_18 (pc' := 21) rfl (show (0 : Int32) < (4 : Int32) from by decide) ?_
  refine p_aloadN B8 d66_21 rfl rfl rfl ?_
  refine p_iconst B8 d66_22 rfl (v := (0 : Int32)) (by decide) ?_
  refine r_iface (D' := D78_q72) B8 d66_23 rfl (W418 B8.gw) (W266 B8.gw) (W267 B8.gw) (by first | rfl | decide) (W482 B8.gw) (W483 B8.gw) (W484 B8.gw) (W485 B8.gw) (W443 B8.gw) (W446 B8.gw) (W486 B8.gw) (by decide) (fE (i := 0) rfl) (k_q72 W c d x0 x1 x2 x3 _ _ ⟨_, _, _, mx0⟩ ⟨_, _, _, mx1⟩ ⟨_, _, _, mx2⟩ ⟨_, _, _, mx3⟩) (argsL := [(.int 0)]) (rest := []) rfl pd24 rfl rfl rfl (W := 0) rfl (cs' := 0) (ss' := 0) (by decide) (Kv1 fun T9 B11 => ?_)
  refine r_cast B11 d66_28 rfl (W5 B11.gw) (fun vm h E P => Ins.self ((sE mx0) vm h E P)) fun T12 B13 => ?_
  refine p_aloadN B13 d66_31 rfl rfl rfl ?_
  refine p_iconst B13 d66_32 rfl (v := (0 : Int32)) (by decide) ?_
  have B14 := ((B13.fr 3 rfl).fr 3 rfl)
  refine r_virtual (D' := D68_w) B14 d66_33 rfl (W419 B14.gw) (W420 B14.gw) (W422 B14.gw) (fun vm0 hZ => notFace_of_selects (args := #[]) (mvT hZ (W422 B14.gw))) (W421 B14.gw) (W51 B14.gw) (W423 B14.gw) (by decide) (fE (i := 0) rfl) (W_gt W e f y0 [y0, y1, y2, y3] 0 rfl (by simp) _ _) (argsL := [(.int 0)]) (rest := [(.ref x0)]) rfl pd24 rfl rfl rfl (W := 1) rfl (cs' := 0) (ss' := 0) (by decide) (Kv1 fun T15 B17 => ?_)
  refine r_virtual (D' := D43) B17 d66_36 rfl (W436 B17.gw) (W281 B17.gw) (W283 B17.gw) (fun vm0 hZ => notFace_of_selects (args := #[]) (mvT hZ (W283 B17.gw))) (W282 B17.gw) (W7 B17.gw) (W284 B17.gw) (by decide) (sE mx0) (k_se W mx0 my0 hu0 hu0) (argsL := [(.ref y0)]) (rest := []) rfl pd29 rfl rfl rfl (W := 0) rfl (cs' := 0) (ss' := 0) (by decide) (Kex fun z21 => Kv1 fun T18 B20 => ?_)
  replace B20 := Rn.and B20
  obtain ⟨hz22, B20⟩ := B20
  obtain rfl : z21 = (1 : Int32) := by
    rcases hz22 with ⟨q, r⟩ | ⟨q, r⟩
    · exact q
    · exact absurd rfl r
  refine b_ifT B20 d66_39 (pc' := 44) (show ¬ (1 : Int32) = (0 : Int32) from by decide) (by decide) (by decide) ?_
  refine p_iloadN B20 d66_44 rfl rfl ?_
  refine p_iconst B20 d66_45 rfl (v := (1 : Int32)) (by decide) ?_
  refine b_icF B20 d66_46 (pc' := 49) rfl (show (1 : Int32) < (4 : Int32) from by decide) ?_
  refine p_aloadN B20 d66_49 rfl rfl rfl ?_
  refine p_iconst B20 d66_50 rfl (v := (1 : Int32)) (by decide) ?_
  have B23 := ((B20.fr 3 rfl).fr 3 rfl)
  refine r_iface (D' := D78_q75) B23 d66_51 rfl (W418 B23.gw) (W266 B23.gw) (W267 B23.gw) (by first | rfl | decide) (W482 B23.gw) (W483 B23.gw) (W484 B23.gw) (W485 B23.gw) (W443 B23.gw) (W446 B23.gw) (W486 B23.gw) (by decide) (fE (i := 0) rfl) (k_q75 W c d x0 x1 x2 x3 _ _ ⟨_, _, _, mx0⟩ ⟨_, _, _, mx1⟩ ⟨_, _, _, mx2⟩ ⟨_, _, _, mx3⟩) (argsL := [(.int 1)]) (rest := []) rfl pd24 rfl rfl rfl (W := 0) rfl (cs' := 0) (ss' := 0) (by decide) (Kv1 fun T24 B26 => ?_)
  refine r_cast B26 d66_56 rfl (W5 B26.gw) (fun vm h E P => Ins.self ((sE mx1) vm h E P)) fun T27 B28 => ?_
  refine p_aloadN B28 d66_59 rfl rfl rfl ?_
  refine p_iconst B28 d66_60 rfl (v := (1 : Int32)) (by decide) ?_
  have B29 := ((B28.fr 3 rfl).fr 3 rfl)
  refine r_virtual (D' := D68_w) B29 d66_61 rfl (W419 B29.gw) (W420 B29.gw) (W422 B29.gw) (fun vm0 hZ => notFace_of_selects (args := #[]) (mvT hZ (W422 B29.gw))) (W421 B29.gw) (W51 B29.gw) (W423 B29.gw) (by decide) (fE (i := 0) rfl) (W_gt W e f y1 [y0, y1, y2, y3] 1 rfl (by simp) _ _) (argsL := [(.int 1)]) (rest := [(.ref x1)]) rfl pd24 rfl rfl rfl (W := 1) rfl (cs' := 0) (ss' := 0) (by decide) (Kv1 fun T30 B32 => ?_)
  refine r_virtual (D' := D43) B32 d66_64 rfl (W436 B32.gw) (W281 B32.gw) (W283 B32.gw) (fun vm0 hZ => notFace_of_selects (args := #[]) (mvT hZ (W283 B32.gw))) (W282 B32.gw) (W7 B32.gw) (W284 B32.gw) (by decide) (sE mx1) (k_se W mx1 my1 hu1 hu1) (argsL := [(.ref y1)]) (rest := []) rfl pd29 rfl rfl rfl (W := 0) rfl (cs' := 0) (ss' := 0) (by decide) (Kex fun z36 => Kv1 fun T33 B35 => ?_)
  replace B35 := Rn.and B35
  obtain ⟨hz37, B35⟩ := B35
  obtain rfl : z36 = (1 : Int32) := by
    rcases hz37 with ⟨q, r⟩ | ⟨q, r⟩
    · exact q
    · exact absurd rfl r
  refine b_ifT B35 d66_67 (pc' := 72) (show ¬ (1 : Int32) = (0 : Int32) from by decide) (by decide) (by decide) ?_
  refine p_iloadN B35 d66_72 rfl rfl ?_
  refine p_iconst B35 d66_73 rfl (v := (2 : Int32)) (by decide) ?_
  refine b_icF B35 d66_74 (pc' := 77) rfl (show (2 : Int32) < (4 : Int32) from by decide) ?_
  refine p_aloadN B35 d66_77 rfl rfl rfl ?_
  refine p_iconst B35 d66_78 rfl (v := (2 : Int32)) (by decide) ?_
  have B38 := ((B35.fr 3 rfl).fr 3 rfl)
  refine r_iface (D' := D78_q77) B38 d66_79 rfl (W418 B38.gw) (W266 B38.gw) (W267 B38.gw) (by first | rfl | decide) (W482 B38.gw) (W483 B38.gw) (W484 B38.gw) (W485 B38.gw) (W443 B38.gw) (W446 B38.gw) (W486 B38.gw) (by decide) (fE (i := 0) rfl) (k_q77 W c d x0 x1 x2 x3 _ _ ⟨_, _, _, mx0⟩ ⟨_, _, _, mx1⟩ ⟨_, _, _, mx2⟩ ⟨_, _, _, mx3⟩) (argsL := [(.int 2)]) (rest := []) rfl pd24 rfl rfl rfl (W := 0) rfl (cs' := 0) (ss' := 0) (by decide) (Kv1 fun T39 B41 => ?_)
  refine r_cast B41 d66_84 rfl (W5 B41.gw) (fun vm h E P => Ins.self ((sE mx2) vm h E P)) fun T42 B43 => ?_
  refine p_aloadN B43 d66_87 rfl rfl rfl ?_
  refine p_iconst B43 d66_88 rfl (v := (2 : Int32)) (by decide) ?_
  have B44 := ((B43.fr 3 rfl).fr 3 rfl)
  refine r_virtual (D' := D68_w) B44 d66_89 rfl (W419 B44.gw) (W420 B44.gw) (W422 B44.gw) (fun vm0 hZ => notFace_of_selects (args := #[]) (mvT hZ (W422 B44.gw))) (W421 B44.gw) (W51 B44.gw) (W423 B44.gw) (by decide) (fE (i := 0) rfl) (W_gt W e f y2 [y0, y1, y2, y3] 2 rfl (by simp) _ _) (argsL := [(.int 2)]) (rest := [(.ref x2)]) rfl pd24 rfl rfl rfl (W := 1) rfl (cs' := 0) (ss' := 0) (by decide) (Kv1 fun T45 B47 => ?_)
  refine r_virtual (D' := D43) B47 d66_92 rfl (W436 B47.gw) (W281 B47.gw) (W283 B47.gw) (fun vm0 hZ => notFace_of_selects (args := #[]) (mvT hZ (W283 B47.gw))) (W282 B47.gw) (W7 B47.gw) (W284 B47.gw) (by decide) (sE mx2) (k_se W mx2 my2 hu2 hu2) (argsL := [(.ref y2)]) (rest := []) rfl pd29 rfl rfl rfl (W := 0) rfl (cs' := 0) (ss' := 0) (by decide) (Kex fun z51 => Kv1 fun T48 B50 => ?_)
  replace B50 := Rn.and B50
  obtain ⟨hz52, B50⟩ := B50
  obtain rfl : z51 = (1 : Int32) := by
    rcases hz52 with ⟨q, r⟩ | ⟨q, r⟩
    · exact q
    · exact absurd rfl r
  refine b_ifT B50 d66_95 (pc' := 100) (show ¬ (1 : Int32) = (0 : Int32) from by decide) (by decide) (by decide) ?_
  refine p_iloadN B50 d66_100 rfl rfl ?_
  refine p_iconst B50 d66_101 rfl (v := (3 : Int32)) (by decide) ?_
  refine b_icF B50 d66_102 (pc' := 105) rfl (show (3 : Int32) < (4 : Int32) from by decide) ?_
  refine p_aloadN B50 d66_105 rfl rfl rfl ?_
  refine p_iconst B50 d66_106 rfl (v := (3 : Int32)) (by decide) ?_
  have B53 := ((B50.fr 3 rfl).fr 3 rfl)
  refine r_iface (D' := D78_q78) B53 d66_107 rfl (W418 B53.gw) (W266 B53.gw) (W267 B53.gw) (by first | rfl | decide) (W482 B53.gw) (W483 B53.gw) (W484 B53.gw) (W485 B53.gw) (W443 B53.gw) (W446 B53.gw) (W486 B53.gw) (by decide) (fE (i := 0) rfl) (k_q78 W c d x0 x1 x2 x3 _ _ ⟨_, _, _, mx0⟩ ⟨_, _, _, mx1⟩ ⟨_, _, _, mx2⟩ ⟨_, _, _, mx3⟩) (argsL := [(.int 3)]) (rest := []) rfl pd24 rfl rfl rfl (W := 0) rfl (cs' := 0) (ss' := 0) (by decide) (Kv1 fun T54 B56 => ?_)
  refine r_cast B56 d66_112 rfl (W5 B56.gw) (fun vm h E P => Ins.self ((sE mx3) vm h E P)) fun T57 B58 => ?_
  refine p_aloadN B58 d66_115 rfl rfl rfl ?_
  refine p_iconst B58 d66_116 rfl (v := (3 : Int32)) (by decide) ?_
  have B59 := ((B58.fr 3 rfl).fr 3 rfl)
  refine r_virtual (D' := D68_w) B59 d66_117 rfl (W419 B59.gw) (W420 B59.gw) (W422 B59.gw) (fun vm0 hZ => notFace_of_selects (args := #[]) (mvT hZ (W422 B59.gw))) (W421 B59.gw) (W51 B59.gw) (W423 B59.gw) (by decide) (fE (i := 0) rfl) (W_gt W e f y3 [y0, y1, y2, y3] 3 rfl (by simp) _ _) (argsL := [(.int 3)]) (rest := [(.ref x3)]) rfl pd24 rfl rfl rfl (W := 1) rfl (cs' := 0) (ss' := 0) (by decide) (Kv1 fun T60 B62 => ?_)
  refine r_virtual (D' := D43) B62 d66_120 rfl (W436 B62.gw) (W281 B62.gw) (W283 B62.gw) (fun vm0 hZ => notFace_of_selects (args := #[]) (mvT hZ (W283 B62.gw))) (W282 B62.gw) (W7 B62.gw) (W284 B62.gw) (by decide) (sE mx3) (k_se W mx3 my3 hu3 hu3) (argsL := [(.ref y3)]) (rest := []) rfl pd29 rfl rfl rfl (W := 0) rfl (cs' := 0) (ss' := 0) (by decide) (Kex fun z66 => Kv1 fun T63 B65 => ?_)
  replace B65 := Rn.and B65
  obtain ⟨hz67, B65⟩ := B65
  obtain rfl : z66 = (1 : Int32) := by
    rcases hz67 with ⟨q, r⟩ | ⟨q, r⟩
    · exact q
    · exact absurd rfl r
  refine b_ifT B65 d66_123 (pc' := 128) (show ¬ (1 : Int32) = (0 : Int32) from by decide) (by decide) (by decide) ?_
  refine p_iconst B65 d66_128 rfl (v := (1 : Int32)) (by decide) ?_
  have B68 := ((((B65.fr 1 rfl).fr 1 rfl).fr 3 rfl).fr 3 rfl)
  exact r_reti B68 d66_129 rfl (by simp) rfl (by decide) (by decide) (fun vm h P => ⟨rfl, P⟩)
theorem W_sm {g : GG} (W : GW g) (c d e f : Addr) (G E : List Addr) (hl : G.length ≤ 4) (H : List Ent) (Lt : List SE) (hq : EqL Lt G E) : Ct g D66_w #[.ref (ilA g c G), .ref e] (IL g c d G ++ (AL g e f E ++ H)) Lt (fun v vm h => v = some (.int (1 : Int32)) ∧ Hp g vm h (IL g c d G ++ (AL g e f E ++ H)) Lt) :=
  match G, E, hq, hl with
  | [], [], hq, _ => by exact c_sm0 W c d e f  H Lt
  | [x0], [y0], hq, _ => by obtain ⟨⟨_, _, _, p0, q0, r0⟩, -⟩ := hq; exact c_sm1 W c d e f x0 y0 H Lt p0 q0 r0
  | [x0, x1], [y0, y1], hq, _ => by obtain ⟨⟨_, _, _, p0, q0, r0⟩, ⟨_, _, _, p1, q1, r1⟩, -⟩ := hq; exact c_sm2 W c d e f x0 x1 y0 y1 H Lt p0 q0 r0 p1 q1 r1
  | [x0, x1, x2], [y0, y1, y2], hq, _ => by obtain ⟨⟨_, _, _, p0, q0, r0⟩, ⟨_, _, _, p1, q1, r1⟩, ⟨_, _, _, p2, q2, r2⟩, -⟩ := hq; exact c_sm3 W c d e f x0 x1 x2 y0 y1 y2 H Lt p0 q0 r0 p1 q1 r1 p2 q2 r2
  | [x0, x1, x2, x3], [y0, y1, y2, y3], hq, _ => by obtain ⟨⟨_, _, _, p0, q0, r0⟩, ⟨_, _, _, p1, q1, r1⟩, ⟨_, _, _, p2, q2, r2⟩, ⟨_, _, _, p3, q3, r3⟩, -⟩ := hq; exact c_sm4 W c d e f x0 x1 x2 x3 y0 y1 y2 y3 H Lt p0 q0 r0 p1 q1 r1 p2 q2 r2 p3 q3 r3
  | [], _ :: _, hq, _ => (show False from hq).elim
  | [_], _ :: _ :: _, hq, _ => (show False from hq.2).elim
  | [_], [], hq, _ => (show False from hq).elim
  | [_, _], _ :: _ :: _ :: _, hq, _ => (show False from hq.2.2).elim
  | [_, _], [], hq, _ => (show False from hq).elim
  | [_, _], [_], hq, _ => (show False from hq.2).elim
  | [_, _, _], _ :: _ :: _ :: _ :: _, hq, _ => (show False from hq.2.2.2).elim
  | [_, _, _], [], hq, _ => (show False from hq).elim
  | [_, _, _], [_], hq, _ => (show False from hq.2).elim
  | [_, _, _], [_, _], hq, _ => (show False from hq.2.2).elim
  | [_, _, _, _], _ :: _ :: _ :: _ :: _ :: _, hq, _ => (show False from hq.2.2.2.2).elim
  | [_, _, _, _], [], hq, _ => (show False from hq).elim
  | [_, _, _, _], [_], hq, _ => (show False from hq.2).elim
  | [_, _, _, _], [_, _], hq, _ => (show False from hq.2.2).elim
  | [_, _, _, _], [_, _, _], hq, _ => (show False from hq.2.2.2).elim
  | _ :: _ :: _ :: _ :: _ :: _, _, _, h => absurd h (by simp only [List.length_cons]; omega)
theorem dk_0 {k c : Int32} (h : k = 0) : dk k c = true := by unfold dk; rw [decide_eq_true_iff]; exact Or.inl h
theorem dk_1 {k c : Int32} (h : k = 1) : dk k c = true := by unfold dk; rw [decide_eq_true_iff]; exact Or.inr (Or.inl h)
theorem dk_2 {k c : Int32} (h : k = 2) (q : c = 58) : dk k c = true := by unfold dk; rw [decide_eq_true_iff]; exact Or.inr (Or.inr ⟨h, q⟩)
theorem dk_n {k c : Int32} (h0 : ¬ k = 0) (h1 : ¬ k = 1) (h2 : ¬ (k = 2 ∧ c = 58)) : dk k c = false := by
  unfold dk; rw [decide_eq_false_iff_not]; intro q
  rcases q with q | q | q
  · exact h0 q
  · exact h1 q
  · exact h2 q
theorem dk_c {k c : Int32} (h0 : ¬ k = 0) (h1 : ¬ k = 1) (q : dk k c = true) : c = 58 := by
  unfold dk at q; rw [decide_eq_true_iff] at q
  rcases q with q | q | q
  · exact absurd q h0
  · exact absurd q h1
  · exact q.2
theorem ndk {k c : Int32} {p : Prop} (hp : ¬ p) (h : dk k c = false) : (p ↔ dk k c = true) := ⟨fun q => absurd q hp, fun q => by rw [h] at q; cases q⟩

abbrev D20_w := E20 0 0 0 0
theorem k_dk {g : GG} (W : GW g) (k c : Int32) (H : List Ent) (Lt : List SE) : Ct g D20_w #[.int k, .int c] H Lt (fun v vm h => ∃ z : Int32, v = some (.int z) ∧ (z = 0 ∧ dk k c = false ∨ z = 1 ∧ dk k c = true) ∧ Hp g vm h H Lt) := by
  refine CtW.body (Ls := #[.val (.int k), .val (.int c)]) W (by decide +kernel) (efr rfl) ?_
  intro M T B
  refine p_iloadN B d20_0 rfl rfl ?_
  by_cases h0 : k = (0 : Int32)
  · refine b_ifT B d20_1 (pc' := 9) h0 (by decide) (by decide) ?_
    refine p_iconst B d20_9 rfl (v := (1 : Int32)) (by decide) ?_
    exact r_reti B d20_10 rfl (by simp) rfl (by decide) (by decide) (fun vm h P => ⟨_, rfl, Or.inr ⟨rfl, dk_0 h0⟩, P⟩)
  · refine b_ifF B d20_1 (pc' := 4) rfl h0 ?_
    refine p_iloadN B d20_4 rfl rfl ?_
    refine p_iconst B d20_5 rfl (v := (1 : Int32)) (by decide) ?_
    by_cases h1 : k = (1 : Int32)
    · refine b_icF B d20_6 (pc' := 9) rfl h1 ?_
      refine p_iconst B d20_9 rfl (v := (1 : Int32)) (by decide) ?_
      exact r_reti B d20_10 rfl (by simp) rfl (by decide) (by decide) (fun vm h P => ⟨_, rfl, Or.inr ⟨rfl, dk_1 h1⟩, P⟩)
    · refine b_icT B d20_6 (pc' := 11) h1 (by decide) (by decide) ?_
      refine p_iloadN B d20_11 rfl rfl ?_
      refine p_iconst B d20_12 rfl (v := (2 : Int32)) (by decide) ?_
      by_cases h2 : k = (2 : Int32)
      · refine b_icF B d20_13 (pc' := 16) rfl h2 ?_
        refine p_iloadN B d20_16 rfl rfl ?_
        refine p_bipush B d20_17 rfl (v := (58 : Int32)) (by decide) ?_
        by_cases hc : c = (58 : Int32)
        · refine b_icF B d20_19 (pc' := 22) rfl hc ?_
          refine p_iconst B d20_22 rfl (v := (1 : Int32)) (by decide) ?_
          refine b_goto B d20_23 (pc' := 27) (by decide) (by decide) ?_
          exact r_reti B d20_27 rfl (by simp) rfl (by decide) (by decide) (fun vm h P => ⟨_, rfl, Or.inr ⟨rfl, dk_2 h2 hc⟩, P⟩)
        · refine b_icT B d20_19 (pc' := 26) hc (by decide) (by decide) ?_
          refine p_iconst B d20_26 rfl (v := (0 : Int32)) (by decide) ?_
          exact r_reti B d20_27 rfl (by simp) rfl (by decide) (by decide) (fun vm h P => ⟨_, rfl, Or.inl ⟨rfl, dk_n h0 h1 fun q => hc q.2⟩, P⟩)
      · refine b_icT B d20_13 (pc' := 28) h2 (by decide) (by decide) ?_
        refine p_iconst B d20_28 rfl (v := (0 : Int32)) (by decide) ?_
        exact r_reti B d20_29 rfl (by simp) rfl (by decide) (by decide) (fun vm h P => ⟨_, rfl, Or.inl ⟨rfl, dk_n h0 h1 fun q => h2 q.1⟩, P⟩)
abbrev D1_w := E1 4 3 18 66
theorem k_ln {g : GG} (W : GW g) (k c : Int32) (hc : ¬ (255 : Int32) < c) (hn : nar .char c = c) (hp : 0 ≤ c.toInt) (H : List Ent) (Lt : List SE) : Ct g D1_w #[.int k, .int c] H Lt (fun v vm h => ∃ (a b : Addr) (us : List Int32), v = some (.ref a) ∧ (us.length < 2147483648 ∧ (isD us ↔ dk k c = true)) ∧ Hp g vm h H ((a, b, 0, us.map Value.int) :: Lt)) := by
  refine CtW.body (Ls := #[.val (.int k), .val (.int c)]) W (by decide +kernel) (efr rfl) ?_
  intro M T B
  refine p_iloadN B d1_0 rfl rfl ?_
  by_cases h0 : k = (0 : Int32)
  · refine b_ifF B d1_1 (pc' := 4) rfl h0 ?_
    refine r_new B d1_4 rfl (W5 B.gw) (W6 B.gw) (W7 B.gw) (Ly_oS B.gw) (by decide) (cs' := 1) rfl (ss' := 4) rfl (by decide) (by decide) fun T1 a3 B2 => ?_
    refine p_dup B2 d1_7 rfl rfl ?_
    refine p_iconst B2 d1_8 rfl (v := (4 : Int32)) (by decide) ?_
    refine r_newp B2 d1_9 rfl (ty := .char) (W8 B2.gw) rfl (by decide) (nn := 4) (by decide) (cap := 4) (by decide) (by decide) (cs' := 2) rfl (ss' := 8) rfl (by decide) (by decide) (ad := "[C") (by decide) (by decide) nofun (vs := [(.int 0), (.int 0), (.int 0), (.int 0)]) rfl fun T4 a6 B5 => ?_
    refine p_dup B5 d1_11 rfl rfl ?_
    refine p_iconst B5 d1_12 rfl (v := (0 : Int32)) (by decide) ?_
    refine p_bipush B5 d1_13 rfl (v := (100 : Int32)) (by decide) ?_
    refine r_castore B5 d1_15 rfl (i := 0) rfl (by decide) (k := 0) (by decide) (by simp) (x' := (100 : Int32)) (by decide) (H' := ((a6, .inr (.char, "[C", [(.int 100), (.int 0), (.int 0), (.int 0)])) :: oS a3 (.int 0) .null :: H)) rfl fun T7 B8 => ?_
    refine p_dup B8 d1_16 rfl rfl ?_
    refine p_iconst B8 d1_17 rfl (v := (1 : Int32)) (by decide) ?_
    refine p_bipush B8 d1_18 rfl (v := (97 : Int32)) (by decide) ?_
    refine r_castore B8 d1_20 rfl (i := 0) rfl (by decide) (k := 1) (by decide) (by simp) (x' := (97 : Int32)) (by decide) (H' := ((a6, .inr (.char, "[C", [(.int 100), (.int 97), (.int 0), (.int 0)])) :: oS a3 (.int 0) .null :: H)) rfl fun T9 B10 => ?_
    refine p_dup B10 d1_21 rfl rfl ?_
    refine p_iconst B10 d1_22 rfl (v := (2 : Int32)) (by decide) ?_
    refine p_bipush B10 d1_23 rfl (v := (116 : Int32)) (by decide) ?_
    refine r_castore B10 d1_25 rfl (i := 0) rfl (by decide) (k := 2) (by decide) (by simp) (x' := (116 : Int32)) (by decide) (H' := ((a6, .inr (.char, "[C", [(.int 100), (.int 97), (.int 116), (.int 0)])) :: oS a3 (.int 0) .null :: H)) rfl fun T11 B12 => ?_
    refine p_dup B12 d1_26 rfl rfl ?_
    refine p_iconst B12 d1_27 rfl (v := (3 : Int32)) (by decide) ?_
    refine p_bipush B12 d1_28 rfl (v := (97 : Int32)) (by decide) ?_
    refine r_castore B12 d1_30 rfl (i := 0) rfl (by decide) (k := 3) (by decide) (by simp) (x' := (97 : Int32)) (by decide) (H' := ((a6, .inr (.char, "[C", [(.int 100), (.int 97), (.int 116), (.int 97)])) :: oS a3 (.int 0) .null :: H)) rfl fun T13 B14 => ?_
    have B15 : RH g D1_w M T13 (oS a3 (.int 0) .null :: (a6, .inr (.char, "[C", [(.int 100), (.int 97), (.int 116), (.int 97)])) :: H) (Lt) 2 8 := B14.front (i := 1) rfl rfl
    refine r_special (D' := D2) B15 d1_31 rfl rfl rfl (W9 B15.gw) (W10 B15.gw) (W7 B15.gw) (W11 B15.gw) (by decide) (k_i1 W a3 a6 "[C" ([(100 : Int32), (97 : Int32), (116 : Int32), (97 : Int32)] : List Int32) (by simp only [List.mem_cons, List.not_mem_nil, or_false, forall_eq_or_imp, forall_eq]; exact ⟨(by decide), (by decide), (by decide), (by decide)⟩) (by simp) (by simp) (H) (Lt)) (a := a3) (argsL := [(.ref a6)]) (rest := [(.ref a3)]) rfl pd41 rfl rfl rfl (W := 1) rfl (cs' := 3) (ss' := 16) (by decide) fun T16 v17 B18 => ?_
    replace B18 := Rn.and B18
    obtain ⟨rfl, B18⟩ := B18
    replace B18 := Rn.ex B18
    obtain ⟨b19, B18⟩ := B18
    have B20 : RH g D1_w M T16 (H) ((a3, b19, 0, [(bV (100 : Int32)), (bV (97 : Int32)), (bV (116 : Int32)), (bV (97 : Int32))]) :: Lt) 3 16 := B18.del 0 rfl
    show Fn g D1_w M _ (T16.setTop (mkF M.m 34 #[.val (.int k), .val (.int c)] [(.ref a3)]))
    exact r_reta B20 d1_34 rfl rfl rfl (by decide) (by decide) (fun vm h P => ⟨_, _, [(100 : Int32).toInt8.toInt32, (97 : Int32).toInt8.toInt32, (116 : Int32).toInt8.toInt32, (97 : Int32).toInt8.toInt32], rfl, ⟨by simp, ⟨fun _ => dk_0 h0, fun _ => Or.inl (by decide)⟩⟩, P⟩)
  · refine b_ifT B d1_1 (pc' := 35) h0 (by decide) (by decide) ?_
    refine p_iloadN B d1_35 rfl rfl ?_
    refine p_iconst B d1_36 rfl (v := (1 : Int32)) (by decide) ?_
    by_cases h1 : k = (1 : Int32)
    · refine b_icF B d1_37 (pc' := 40) rfl h1 ?_
      refine r_new B d1_40 rfl (W5 B.gw) (W6 B.gw) (W7 B.gw) (Ly_oS B.gw) (by decide) (cs' := 1) rfl (ss' := 4) rfl (by decide) (by decide) fun T21 a23 B22 => ?_
      refine p_dup B22 d1_43 rfl rfl ?_
      refine p_bipush B22 d1_44 rfl (v := (6 : Int32)) (by decide) ?_
      refine r_newp B22 d1_46 rfl (ty := .char) (W8 B22.gw) rfl (by decide) (nn := 6) (by decide) (cap := 6) (by decide) (by decide) (cs' := 2) rfl (ss' := 10) rfl (by decide) (by decide) (ad := "[C") (by decide) (by decide) nofun (vs := [(.int 0), (.int 0), (.int 0), (.int 0), (.int 0), (.int 0)]) rfl fun T24 a26 B25 => ?_
      refine p_dup B25 d1_48 rfl rfl ?_
      refine p_iconst B25 d1_49 rfl (v := (0 : Int32)) (by decide) ?_
      refine p_bipush B25 d1_50 rfl (v := (100 : Int32)) (by decide) ?_
      refine r_castore B25 d1_52 rfl (i := 0) rfl (by decide) (k := 0) (by decide) (by simp) (x' := (100 : Int32)) (by decide) (H' := ((a26, .inr (.char, "[C", [(.int 100), (.int 0), (.int 0), (.int 0), (.int 0), (.int 0)])) :: oS a23 (.int 0) .null :: H)) rfl fun T27 B28 => ?_
      refine p_dup B28 d1_53 rfl rfl ?_
      refine p_iconst B28 d1_54 rfl (v := (1 : Int32)) (by decide) ?_
      refine p_bipush B28 d1_55 rfl (v := (97 : Int32)) (by decide) ?_
      refine r_castore B28 d1_57 rfl (i := 0) rfl (by decide) (k := 1) (by decide) (by simp) (x' := (97 : Int32)) (by decide) (H' := ((a26, .inr (.char, "[C", [(.int 100), (.int 97), (.int 0), (.int 0), (.int 0), (.int 0)])) :: oS a23 (.int 0) .null :: H)) rfl fun T29 B30 => ?_
      refine p_dup B30 d1_58 rfl rfl ?_
      refine p_iconst B30 d1_59 rfl (v := (2 : Int32)) (by decide) ?_
      refine p_bipush B30 d1_60 rfl (v := (116 : Int32)) (by decide) ?_
      refine r_castore B30 d1_62 rfl (i := 0) rfl (by decide) (k := 2) (by decide) (by simp) (x' := (116 : Int32)) (by decide) (H' := ((a26, .inr (.char, "[C", [(.int 100), (.int 97), (.int 116), (.int 0), (.int 0), (.int 0)])) :: oS a23 (.int 0) .null :: H)) rfl fun T31 B32 => ?_
      refine p_dup B32 d1_63 rfl rfl ?_
      refine p_iconst B32 d1_64 rfl (v := (3 : Int32)) (by decide) ?_
      refine p_bipush B32 d1_65 rfl (v := (97 : Int32)) (by decide) ?_
      refine r_castore B32 d1_67 rfl (i := 0) rfl (by decide) (k := 3) (by decide) (by simp) (x' := (97 : Int32)) (by decide) (H' := ((a26, .inr (.char, "[C", [(.int 100), (.int 97), (.int 116), (.int 97), (.int 0), (.int 0)])) :: oS a23 (.int 0) .null :: H)) rfl fun T33 B34 => ?_
      refine p_dup B34 d1_68 rfl rfl ?_
      refine p_iconst B34 d1_69 rfl (v := (4 : Int32)) (by decide) ?_
      refine p_bipush B34 d1_70 rfl (v := (58 : Int32)) (by decide) ?_
      refine r_castore B34 d1_72 rfl (i := 0) rfl (by decide) (k := 4) (by decide) (by simp) (x' := (58 : Int32)) (by decide) (H' := ((a26, .inr (.char, "[C", [(.int 100), (.int 97), (.int 116), (.int 97), (.int 58), (.int 0)])) :: oS a23 (.int 0) .null :: H)) rfl fun T35 B36 => ?_
      refine p_dup B36 d1_73 rfl rfl ?_
      refine p_iconst B36 d1_74 rfl (v := (5 : Int32)) (by decide) ?_
      refine p_iloadN B36 d1_75 rfl rfl ?_
      refine r_castore B36 d1_76 rfl (i := 0) rfl (by decide) (k := 5) (by decide) (by simp) (x' := c) hn (H' := ((a26, .inr (.char, "[C", [(.int 100), (.int 97), (.int 116), (.int 97), (.int 58), (.int c)])) :: oS a23 (.int 0) .null :: H)) rfl fun T37 B38 => ?_
      have B39 : RH g D1_w M T37 (oS a23 (.int 0) .null :: (a26, .inr (.char, "[C", [(.int 100), (.int 97), (.int 116), (.int 97), (.int 58), (.int c)])) :: H) (Lt) 2 10 := B38.front (i := 1) rfl rfl
      refine r_special (D' := D2) B39 d1_77 rfl rfl rfl (W9 B39.gw) (W10 B39.gw) (W7 B39.gw) (W11 B39.gw) (by decide) (k_i1 W a23 a26 "[C" ([(100 : Int32), (97 : Int32), (116 : Int32), (97 : Int32), (58 : Int32), c] : List Int32) (by simp only [List.mem_cons, List.not_mem_nil, or_false, forall_eq_or_imp, forall_eq]; exact ⟨(by decide), (by decide), (by decide), (by decide), (by decide), hc⟩) (by simp) (by simp) (H) (Lt)) (a := a23) (argsL := [(.ref a26)]) (rest := [(.ref a23)]) rfl pd41 rfl rfl rfl (W := 1) rfl (cs' := 3) (ss' := 18) (by decide) fun T40 v41 B42 => ?_
      replace B42 := Rn.and B42
      obtain ⟨rfl, B42⟩ := B42
      replace B42 := Rn.ex B42
      obtain ⟨b43, B42⟩ := B42
      have B44 : RH g D1_w M T40 (H) ((a23, b43, 0, [(bV (100 : Int32)), (bV (97 : Int32)), (bV (116 : Int32)), (bV (97 : Int32)), (bV (58 : Int32)), (bV c)]) :: Lt) 3 18 := B42.del 0 rfl
      show Fn g D1_w M _ (T40.setTop (mkF M.m 80 #[.val (.int k), .val (.int c)] [(.ref a23)]))
      exact r_reta B44 d1_80 rfl rfl rfl (by decide) (by decide) (fun vm h P => ⟨_, _, [(100 : Int32).toInt8.toInt32, (97 : Int32).toInt8.toInt32, (116 : Int32).toInt8.toInt32, (97 : Int32).toInt8.toInt32, (58 : Int32).toInt8.toInt32, c.toInt8.toInt32], rfl, ⟨by simp, ⟨fun _ => dk_1 h1, fun _ => Or.inr (show [(100 : Int32).toInt8.toInt32, (97 : Int32).toInt8.toInt32, (116 : Int32).toInt8.toInt32, (97 : Int32).toInt8.toInt32, (58 : Int32).toInt8.toInt32] = _ from by decide)⟩⟩, P⟩)
    · refine b_icT B d1_37 (pc' := 81) h1 (by decide) (by decide) ?_
      refine p_iloadN B d1_81 rfl rfl ?_
      refine p_iconst B d1_82 rfl (v := (2 : Int32)) (by decide) ?_
      by_cases h2 : k = (2 : Int32)
      · refine b_icF B d1_83 (pc' := 86) rfl h2 ?_
        refine r_new B d1_86 rfl (W5 B.gw) (W6 B.gw) (W7 B.gw) (Ly_oS B.gw) (by decide) (cs' := 1) rfl (ss' := 4) rfl (by decide) (by decide) fun T45 a47 B46 => ?_
        refine p_dup B46 d1_89 rfl rfl ?_
        refine p_iconst B46 d1_90 rfl (v := (5 : Int32)) (by decide) ?_
        refine r_newp B46 d1_91 rfl (ty := .char) (W8 B46.gw) rfl (by decide) (nn := 5) (by decide) (cap := 5) (by decide) (by decide) (cs' := 2) rfl (ss' := 9) rfl (by decide) (by decide) (ad := "[C") (by decide) (by decide) nofun (vs := [(.int 0), (.int 0), (.int 0), (.int 0), (.int 0)]) rfl fun T48 a50 B49 => ?_
        refine p_dup B49 d1_93 rfl rfl ?_
        refine p_iconst B49 d1_94 rfl (v := (0 : Int32)) (by decide) ?_
        refine p_bipush B49 d1_95 rfl (v := (100 : Int32)) (by decide) ?_
        refine r_castore B49 d1_97 rfl (i := 0) rfl (by decide) (k := 0) (by decide) (by simp) (x' := (100 : Int32)) (by decide) (H' := ((a50, .inr (.char, "[C", [(.int 100), (.int 0), (.int 0), (.int 0), (.int 0)])) :: oS a47 (.int 0) .null :: H)) rfl fun T51 B52 => ?_
        refine p_dup B52 d1_98 rfl rfl ?_
        refine p_iconst B52 d1_99 rfl (v := (1 : Int32)) (by decide) ?_
        refine p_bipush B52 d1_100 rfl (v := (97 : Int32)) (by decide) ?_
        refine r_castore B52 d1_102 rfl (i := 0) rfl (by decide) (k := 1) (by decide) (by simp) (x' := (97 : Int32)) (by decide) (H' := ((a50, .inr (.char, "[C", [(.int 100), (.int 97), (.int 0), (.int 0), (.int 0)])) :: oS a47 (.int 0) .null :: H)) rfl fun T53 B54 => ?_
        refine p_dup B54 d1_103 rfl rfl ?_
        refine p_iconst B54 d1_104 rfl (v := (2 : Int32)) (by decide) ?_
        refine p_bipush B54 d1_105 rfl (v := (116 : Int32)) (by decide) ?_
        refine r_castore B54 d1_107 rfl (i := 0) rfl (by decide) (k := 2) (by decide) (by simp) (x' := (116 : Int32)) (by decide) (H' := ((a50, .inr (.char, "[C", [(.int 100), (.int 97), (.int 116), (.int 0), (.int 0)])) :: oS a47 (.int 0) .null :: H)) rfl fun T55 B56 => ?_
        refine p_dup B56 d1_108 rfl rfl ?_
        refine p_iconst B56 d1_109 rfl (v := (3 : Int32)) (by decide) ?_
        refine p_bipush B56 d1_110 rfl (v := (97 : Int32)) (by decide) ?_
        refine r_castore B56 d1_112 rfl (i := 0) rfl (by decide) (k := 3) (by decide) (by simp) (x' := (97 : Int32)) (by decide) (H' := ((a50, .inr (.char, "[C", [(.int 100), (.int 97), (.int 116), (.int 97), (.int 0)])) :: oS a47 (.int 0) .null :: H)) rfl fun T57 B58 => ?_
        refine p_dup B58 d1_113 rfl rfl ?_
        refine p_iconst B58 d1_114 rfl (v := (4 : Int32)) (by decide) ?_
        refine p_iloadN B58 d1_115 rfl rfl ?_
        refine r_castore B58 d1_116 rfl (i := 0) rfl (by decide) (k := 4) (by decide) (by simp) (x' := c) hn (H' := ((a50, .inr (.char, "[C", [(.int 100), (.int 97), (.int 116), (.int 97), (.int c)])) :: oS a47 (.int 0) .null :: H)) rfl fun T59 B60 => ?_
        have B61 : RH g D1_w M T59 (oS a47 (.int 0) .null :: (a50, .inr (.char, "[C", [(.int 100), (.int 97), (.int 116), (.int 97), (.int c)])) :: H) (Lt) 2 9 := B60.front (i := 1) rfl rfl
        refine r_special (D' := D2) B61 d1_117 rfl rfl rfl (W9 B61.gw) (W10 B61.gw) (W7 B61.gw) (W11 B61.gw) (by decide) (k_i1 W a47 a50 "[C" ([(100 : Int32), (97 : Int32), (116 : Int32), (97 : Int32), c] : List Int32) (by simp only [List.mem_cons, List.not_mem_nil, or_false, forall_eq_or_imp, forall_eq]; exact ⟨(by decide), (by decide), (by decide), (by decide), hc⟩) (by simp) (by simp) (H) (Lt)) (a := a47) (argsL := [(.ref a50)]) (rest := [(.ref a47)]) rfl pd41 rfl rfl rfl (W := 1) rfl (cs' := 3) (ss' := 17) (by decide) fun T62 v63 B64 => ?_
        replace B64 := Rn.and B64
        obtain ⟨rfl, B64⟩ := B64
        replace B64 := Rn.ex B64
        obtain ⟨b65, B64⟩ := B64
        have B66 : RH g D1_w M T62 (H) ((a47, b65, 0, [(bV (100 : Int32)), (bV (97 : Int32)), (bV (116 : Int32)), (bV (97 : Int32)), (bV c)]) :: Lt) 3 17 := B64.del 0 rfl
        show Fn g D1_w M _ (T62.setTop (mkF M.m 120 #[.val (.int k), .val (.int c)] [(.ref a47)]))
        exact r_reta B66 d1_120 rfl rfl rfl (by decide) (by decide) (fun vm h P => ⟨_, _, [(100 : Int32).toInt8.toInt32, (97 : Int32).toInt8.toInt32, (116 : Int32).toInt8.toInt32, (97 : Int32).toInt8.toInt32, c.toInt8.toInt32], rfl, ⟨by simp, ⟨fun q => dk_2 h2 ((c58' hc hp).mp (q.elim (fun q => absurd (congrArg List.length q) (by simp)) (fun q => Option.some.inj (congrArg (fun l => l[4]?) q)))), fun q => Or.inr (show [(100 : Int32).toInt8.toInt32, (97 : Int32).toInt8.toInt32, (116 : Int32).toInt8.toInt32, (97 : Int32).toInt8.toInt32, c.toInt8.toInt32] = _ from by rw [(c58' hc hp).mpr (dk_c h0 h1 q)]; decide)⟩⟩, P⟩)
      · refine b_icT B d1_83 (pc' := 121) h2 (by decide) (by decide) ?_
        refine p_iloadN B d1_121 rfl rfl ?_
        refine p_iconst B d1_122 rfl (v := (3 : Int32)) (by decide) ?_
        by_cases h3 : k = (3 : Int32)
        · refine b_icF B d1_123 (pc' := 126) rfl h3 ?_
          refine r_ldc B d1_126 rfl (W465 B.gw) (strW B.gw) (inEL B.gw (by decide)) (bs := []) ⟨by decide, by decide⟩ (z := (0 : Int32)) (by decide) (by decide) (n := 0) (by decide) (by decide) (cs' := 2) rfl (ss' := 4) rfl (by decide) (by decide) fun T67 a69 b70 B68 => ?_
          exact r_reta B68 d1_128 rfl rfl rfl (by decide) (by decide) (fun vm h P => ⟨_, _, [], rfl, ⟨by simp, ndk (by unfold isD; decide) (dk_n h0 h1 fun q => h2 q.1)⟩, P⟩)
        · refine b_icT B d1_123 (pc' := 129) h3 (by decide) (by decide) ?_
          refine p_iloadN B d1_129 rfl rfl ?_
          refine p_iconst B d1_130 rfl (v := (4 : Int32)) (by decide) ?_
          by_cases h4 : k = (4 : Int32)
          · refine b_icF B d1_131 (pc' := 134) rfl h4 ?_
            refine r_new B d1_134 rfl (W5 B.gw) (W6 B.gw) (W7 B.gw) (Ly_oS B.gw) (by decide) (cs' := 1) rfl (ss' := 4) rfl (by decide) (by decide) fun T71 a73 B72 => ?_
            refine p_dup B72 d1_137 rfl rfl ?_
            refine p_iconst B72 d1_138 rfl (v := (3 : Int32)) (by decide) ?_
            refine r_newp B72 d1_139 rfl (ty := .char) (W8 B72.gw) rfl (by decide) (nn := 3) (by decide) (cap := 3) (by decide) (by decide) (cs' := 2) rfl (ss' := 7) rfl (by decide) (by decide) (ad := "[C") (by decide) (by decide) nofun (vs := [(.int 0), (.int 0), (.int 0)]) rfl fun T74 a76 B75 => ?_
            refine p_dup B75 d1_141 rfl rfl ?_
            refine p_iconst B75 d1_142 rfl (v := (0 : Int32)) (by decide) ?_
            refine p_bipush B75 d1_143 rfl (v := (100 : Int32)) (by decide) ?_
            refine r_castore B75 d1_145 rfl (i := 0) rfl (by decide) (k := 0) (by decide) (by simp) (x' := (100 : Int32)) (by decide) (H' := ((a76, .inr (.char, "[C", [(.int 100), (.int 0), (.int 0)])) :: oS a73 (.int 0) .null :: H)) rfl fun T77 B78 => ?_
            refine p_dup B78 d1_146 rfl rfl ?_
            refine p_iconst B78 d1_147 rfl (v := (1 : Int32)) (by decide) ?_
            refine p_bipush B78 d1_148 rfl (v := (97 : Int32)) (by decide) ?_
            refine r_castore B78 d1_150 rfl (i := 0) rfl (by decide) (k := 1) (by decide) (by simp) (x' := (97 : Int32)) (by decide) (H' := ((a76, .inr (.char, "[C", [(.int 100), (.int 97), (.int 0)])) :: oS a73 (.int 0) .null :: H)) rfl fun T79 B80 => ?_
            refine p_dup B80 d1_151 rfl rfl ?_
            refine p_iconst B80 d1_152 rfl (v := (2 : Int32)) (by decide) ?_
            refine p_bipush B80 d1_153 rfl (v := (116 : Int32)) (by decide) ?_
            refine r_castore B80 d1_155 rfl (i := 0) rfl (by decide) (k := 2) (by decide) (by simp) (x' := (116 : Int32)) (by decide) (H' := ((a76, .inr (.char, "[C", [(.int 100), (.int 97), (.int 116)])) :: oS a73 (.int 0) .null :: H)) rfl fun T81 B82 => ?_
            have B83 : RH g D1_w M T81 (oS a73 (.int 0) .null :: (a76, .inr (.char, "[C", [(.int 100), (.int 97), (.int 116)])) :: H) (Lt) 2 7 := B82.front (i := 1) rfl rfl
            refine r_special (D' := D2) B83 d1_156 rfl rfl rfl (W9 B83.gw) (W10 B83.gw) (W7 B83.gw) (W11 B83.gw) (by decide) (k_i1 W a73 a76 "[C" ([(100 : Int32), (97 : Int32), (116 : Int32)] : List Int32) (by simp only [List.mem_cons, List.not_mem_nil, or_false, forall_eq_or_imp, forall_eq]; exact ⟨(by decide), (by decide), (by decide)⟩) (by simp) (by simp) (H) (Lt)) (a := a73) (argsL := [(.ref a76)]) (rest := [(.ref a73)]) rfl pd41 rfl rfl rfl (W := 1) rfl (cs' := 3) (ss' := 15) (by decide) fun T84 v85 B86 => ?_
            replace B86 := Rn.and B86
            obtain ⟨rfl, B86⟩ := B86
            replace B86 := Rn.ex B86
            obtain ⟨b87, B86⟩ := B86
            have B88 : RH g D1_w M T84 (H) ((a73, b87, 0, [(bV (100 : Int32)), (bV (97 : Int32)), (bV (116 : Int32))]) :: Lt) 3 15 := B86.del 0 rfl
            show Fn g D1_w M _ (T84.setTop (mkF M.m 159 #[.val (.int k), .val (.int c)] [(.ref a73)]))
            exact r_reta B88 d1_159 rfl rfl rfl (by decide) (by decide) (fun vm h P => ⟨_, _, [(100 : Int32).toInt8.toInt32, (97 : Int32).toInt8.toInt32, (116 : Int32).toInt8.toInt32], rfl, ⟨by simp, ndk (by unfold isD; decide) (dk_n h0 h1 fun q => h2 q.1)⟩, P⟩)
          · refine b_icT B d1_131 (pc' := 160) h4 (by decide) (by decide) ?_
            refine p_iloadN B d1_160 rfl rfl ?_
            refine p_iconst B d1_161 rfl (v := (5 : Int32)) (by decide) ?_
            by_cases h5 : k = (5 : Int32)
            · refine b_icF B d1_162 (pc' := 165) rfl h5 ?_
              refine r_new B d1_165 rfl (W5 B.gw) (W6 B.gw) (W7 B.gw) (Ly_oS B.gw) (by decide) (cs' := 1) rfl (ss' := 4) rfl (by decide) (by decide) fun T89 a91 B90 => ?_
              refine p_dup B90 d1_168 rfl rfl ?_
              refine p_iconst B90 d1_169 rfl (v := (4 : Int32)) (by decide) ?_
              refine r_newp B90 d1_170 rfl (ty := .char) (W8 B90.gw) rfl (by decide) (nn := 4) (by decide) (cap := 4) (by decide) (by decide) (cs' := 2) rfl (ss' := 8) rfl (by decide) (by decide) (ad := "[C") (by decide) (by decide) nofun (vs := [(.int 0), (.int 0), (.int 0), (.int 0)]) rfl fun T92 a94 B93 => ?_
              refine p_dup B93 d1_172 rfl rfl ?_
              refine p_iconst B93 d1_173 rfl (v := (0 : Int32)) (by decide) ?_
              refine p_bipush B93 d1_174 rfl (v := (68 : Int32)) (by decide) ?_
              refine r_castore B93 d1_176 rfl (i := 0) rfl (by decide) (k := 0) (by decide) (by simp) (x' := (68 : Int32)) (by decide) (H' := ((a94, .inr (.char, "[C", [(.int 68), (.int 0), (.int 0), (.int 0)])) :: oS a91 (.int 0) .null :: H)) rfl fun T95 B96 => ?_
              refine p_dup B96 d1_177 rfl rfl ?_
              refine p_iconst B96 d1_178 rfl (v := (1 : Int32)) (by decide) ?_
              refine p_bipush B96 d1_179 rfl (v := (97 : Int32)) (by decide) ?_
              refine r_castore B96 d1_181 rfl (i := 0) rfl (by decide) (k := 1) (by decide) (by simp) (x' := (97 : Int32)) (by decide) (H' := ((a94, .inr (.char, "[C", [(.int 68), (.int 97), (.int 0), (.int 0)])) :: oS a91 (.int 0) .null :: H)) rfl fun T97 B98 => ?_
              refine p_dup B98 d1_182 rfl rfl ?_
              refine p_iconst B98 d1_183 rfl (v := (2 : Int32)) (by decide) ?_
              refine p_bipush B98 d1_184 rfl (v := (116 : Int32)) (by decide) ?_
              refine r_castore B98 d1_186 rfl (i := 0) rfl (by decide) (k := 2) (by decide) (by simp) (x' := (116 : Int32)) (by decide) (H' := ((a94, .inr (.char, "[C", [(.int 68), (.int 97), (.int 116), (.int 0)])) :: oS a91 (.int 0) .null :: H)) rfl fun T99 B100 => ?_
              refine p_dup B100 d1_187 rfl rfl ?_
              refine p_iconst B100 d1_188 rfl (v := (3 : Int32)) (by decide) ?_
              refine p_bipush B100 d1_189 rfl (v := (97 : Int32)) (by decide) ?_
              refine r_castore B100 d1_191 rfl (i := 0) rfl (by decide) (k := 3) (by decide) (by simp) (x' := (97 : Int32)) (by decide) (H' := ((a94, .inr (.char, "[C", [(.int 68), (.int 97), (.int 116), (.int 97)])) :: oS a91 (.int 0) .null :: H)) rfl fun T101 B102 => ?_
              have B103 : RH g D1_w M T101 (oS a91 (.int 0) .null :: (a94, .inr (.char, "[C", [(.int 68), (.int 97), (.int 116), (.int 97)])) :: H) (Lt) 2 8 := B102.front (i := 1) rfl rfl
              refine r_special (D' := D2) B103 d1_192 rfl rfl rfl (W9 B103.gw) (W10 B103.gw) (W7 B103.gw) (W11 B103.gw) (by decide) (k_i1 W a91 a94 "[C" ([(68 : Int32), (97 : Int32), (116 : Int32), (97 : Int32)] : List Int32) (by simp only [List.mem_cons, List.not_mem_nil, or_false, forall_eq_or_imp, forall_eq]; exact ⟨(by decide), (by decide), (by decide), (by decide)⟩) (by simp) (by simp) (H) (Lt)) (a := a91) (argsL := [(.ref a94)]) (rest := [(.ref a91)]) rfl pd41 rfl rfl rfl (W := 1) rfl (cs' := 3) (ss' := 16) (by decide) fun T104 v105 B106 => ?_
              replace B106 := Rn.and B106
              obtain ⟨rfl, B106⟩ := B106
              replace B106 := Rn.ex B106
              obtain ⟨b107, B106⟩ := B106
              have B108 : RH g D1_w M T104 (H) ((a91, b107, 0, [(bV (68 : Int32)), (bV (97 : Int32)), (bV (116 : Int32)), (bV (97 : Int32))]) :: Lt) 3 16 := B106.del 0 rfl
              show Fn g D1_w M _ (T104.setTop (mkF M.m 195 #[.val (.int k), .val (.int c)] [(.ref a91)]))
              exact r_reta B108 d1_195 rfl rfl rfl (by decide) (by decide) (fun vm h P => ⟨_, _, [(68 : Int32).toInt8.toInt32, (97 : Int32).toInt8.toInt32, (116 : Int32).toInt8.toInt32, (97 : Int32).toInt8.toInt32], rfl, ⟨by simp, ndk (by unfold isD; decide) (dk_n h0 h1 fun q => h2 q.1)⟩, P⟩)
            · refine b_icT B d1_162 (pc' := 196) h5 (by decide) (by decide) ?_
              refine p_iloadN B d1_196 rfl rfl ?_
              refine p_bipush B d1_197 rfl (v := (6 : Int32)) (by decide) ?_
              by_cases h6 : k = (6 : Int32)
              · refine b_icF B d1_199 (pc' := 202) rfl h6 ?_
                refine r_new B d1_202 rfl (W5 B.gw) (W6 B.gw) (W7 B.gw) (Ly_oS B.gw) (by decide) (cs' := 1) rfl (ss' := 4) rfl (by decide) (by decide) fun T109 a111 B110 => ?_
                refine p_dup B110 d1_205 rfl rfl ?_
                refine p_iconst B110 d1_206 rfl (v := (5 : Int32)) (by decide) ?_
                refine r_newp B110 d1_207 rfl (ty := .char) (W8 B110.gw) rfl (by decide) (nn := 5) (by decide) (cap := 5) (by decide) (by decide) (cs' := 2) rfl (ss' := 9) rfl (by decide) (by decide) (ad := "[C") (by decide) (by decide) nofun (vs := [(.int 0), (.int 0), (.int 0), (.int 0), (.int 0)]) rfl fun T112 a114 B113 => ?_
                refine p_dup B113 d1_209 rfl rfl ?_
                refine p_iconst B113 d1_210 rfl (v := (0 : Int32)) (by decide) ?_
                refine p_iloadN B113 d1_211 rfl rfl ?_
                refine r_castore B113 d1_212 rfl (i := 0) rfl (by decide) (k := 0) (by decide) (by simp) (x' := c) hn (H' := ((a114, .inr (.char, "[C", [(.int c), (.int 0), (.int 0), (.int 0), (.int 0)])) :: oS a111 (.int 0) .null :: H)) rfl fun T115 B116 => ?_
                refine p_dup B116 d1_213 rfl rfl ?_
                refine p_iconst B116 d1_214 rfl (v := (1 : Int32)) (by decide) ?_
                refine p_bipush B116 d1_215 rfl (v := (100 : Int32)) (by decide) ?_
                refine r_castore B116 d1_217 rfl (i := 0) rfl (by decide) (k := 1) (by decide) (by simp) (x' := (100 : Int32)) (by decide) (H' := ((a114, .inr (.char, "[C", [(.int c), (.int 100), (.int 0), (.int 0), (.int 0)])) :: oS a111 (.int 0) .null :: H)) rfl fun T117 B118 => ?_
                refine p_dup B118 d1_218 rfl rfl ?_
                refine p_iconst B118 d1_219 rfl (v := (2 : Int32)) (by decide) ?_
                refine p_bipush B118 d1_220 rfl (v := (97 : Int32)) (by decide) ?_
                refine r_castore B118 d1_222 rfl (i := 0) rfl (by decide) (k := 2) (by decide) (by simp) (x' := (97 : Int32)) (by decide) (H' := ((a114, .inr (.char, "[C", [(.int c), (.int 100), (.int 97), (.int 0), (.int 0)])) :: oS a111 (.int 0) .null :: H)) rfl fun T119 B120 => ?_
                refine p_dup B120 d1_223 rfl rfl ?_
                refine p_iconst B120 d1_224 rfl (v := (3 : Int32)) (by decide) ?_
                refine p_bipush B120 d1_225 rfl (v := (116 : Int32)) (by decide) ?_
                refine r_castore B120 d1_227 rfl (i := 0) rfl (by decide) (k := 3) (by decide) (by simp) (x' := (116 : Int32)) (by decide) (H' := ((a114, .inr (.char, "[C", [(.int c), (.int 100), (.int 97), (.int 116), (.int 0)])) :: oS a111 (.int 0) .null :: H)) rfl fun T121 B122 => ?_
                refine p_dup B122 d1_228 rfl rfl ?_
                refine p_iconst B122 d1_229 rfl (v := (4 : Int32)) (by decide) ?_
                refine p_bipush B122 d1_230 rfl (v := (97 : Int32)) (by decide) ?_
                refine r_castore B122 d1_232 rfl (i := 0) rfl (by decide) (k := 4) (by decide) (by simp) (x' := (97 : Int32)) (by decide) (H' := ((a114, .inr (.char, "[C", [(.int c), (.int 100), (.int 97), (.int 116), (.int 97)])) :: oS a111 (.int 0) .null :: H)) rfl fun T123 B124 => ?_
                have B125 : RH g D1_w M T123 (oS a111 (.int 0) .null :: (a114, .inr (.char, "[C", [(.int c), (.int 100), (.int 97), (.int 116), (.int 97)])) :: H) (Lt) 2 9 := B124.front (i := 1) rfl rfl
                refine r_special (D' := D2) B125 d1_233 rfl rfl rfl (W9 B125.gw) (W10 B125.gw) (W7 B125.gw) (W11 B125.gw) (by decide) (k_i1 W a111 a114 "[C" ([c, (100 : Int32), (97 : Int32), (116 : Int32), (97 : Int32)] : List Int32) (by simp only [List.mem_cons, List.not_mem_nil, or_false, forall_eq_or_imp, forall_eq]; exact ⟨hc, (by decide), (by decide), (by decide), (by decide)⟩) (by simp) (by simp) (H) (Lt)) (a := a111) (argsL := [(.ref a114)]) (rest := [(.ref a111)]) rfl pd41 rfl rfl rfl (W := 1) rfl (cs' := 3) (ss' := 17) (by decide) fun T126 v127 B128 => ?_
                replace B128 := Rn.and B128
                obtain ⟨rfl, B128⟩ := B128
                replace B128 := Rn.ex B128
                obtain ⟨b129, B128⟩ := B128
                have B130 : RH g D1_w M T126 (H) ((a111, b129, 0, [(bV c), (bV (100 : Int32)), (bV (97 : Int32)), (bV (116 : Int32)), (bV (97 : Int32))]) :: Lt) 3 17 := B128.del 0 rfl
                show Fn g D1_w M _ (T126.setTop (mkF M.m 236 #[.val (.int k), .val (.int c)] [(.ref a111)]))
                exact r_reta B130 d1_236 rfl rfl rfl (by decide) (by decide) (fun vm h P => ⟨_, _, [c.toInt8.toInt32, (100 : Int32).toInt8.toInt32, (97 : Int32).toInt8.toInt32, (116 : Int32).toInt8.toInt32, (97 : Int32).toInt8.toInt32], rfl, ⟨by simp, ndk (fun q => q.elim (fun q => absurd (congrArg List.length q) (by simp)) (fun q => absurd (show (97 : Int32).toInt8.toInt32 = 58 from Option.some.inj (congrArg (fun l => l[4]?) q)) (by decide))) (dk_n h0 h1 fun q => h2 q.1)⟩, P⟩)
              · refine b_icT B d1_199 (pc' := 237) h6 (by decide) (by decide) ?_
                refine r_new B d1_237 rfl (W5 B.gw) (W6 B.gw) (W7 B.gw) (Ly_oS B.gw) (by decide) (cs' := 1) rfl (ss' := 4) rfl (by decide) (by decide) fun T131 a133 B132 => ?_
                refine p_dup B132 d1_240 rfl rfl ?_
                refine p_iconst B132 d1_241 rfl (v := (2 : Int32)) (by decide) ?_
                refine r_newp B132 d1_242 rfl (ty := .char) (W8 B132.gw) rfl (by decide) (nn := 2) (by decide) (cap := 2) (by decide) (by decide) (cs' := 2) rfl (ss' := 6) rfl (by decide) (by decide) (ad := "[C") (by decide) (by decide) nofun (vs := [(.int 0), (.int 0)]) rfl fun T134 a136 B135 => ?_
                refine p_dup B135 d1_244 rfl rfl ?_
                refine p_iconst B135 d1_245 rfl (v := (0 : Int32)) (by decide) ?_
                refine p_bipush B135 d1_246 rfl (v := (58 : Int32)) (by decide) ?_
                refine r_castore B135 d1_248 rfl (i := 0) rfl (by decide) (k := 0) (by decide) (by simp) (x' := (58 : Int32)) (by decide) (H' := ((a136, .inr (.char, "[C", [(.int 58), (.int 0)])) :: oS a133 (.int 0) .null :: H)) rfl fun T137 B138 => ?_
                refine p_dup B138 d1_249 rfl rfl ?_
                refine p_iconst B138 d1_250 rfl (v := (1 : Int32)) (by decide) ?_
                refine p_iloadN B138 d1_251 rfl rfl ?_
                refine r_castore B138 d1_252 rfl (i := 0) rfl (by decide) (k := 1) (by decide) (by simp) (x' := c) hn (H' := ((a136, .inr (.char, "[C", [(.int 58), (.int c)])) :: oS a133 (.int 0) .null :: H)) rfl fun T139 B140 => ?_
                have B141 : RH g D1_w M T139 (oS a133 (.int 0) .null :: (a136, .inr (.char, "[C", [(.int 58), (.int c)])) :: H) (Lt) 2 6 := B140.front (i := 1) rfl rfl
                refine r_special (D' := D2) B141 d1_253 rfl rfl rfl (W9 B141.gw) (W10 B141.gw) (W7 B141.gw) (W11 B141.gw) (by decide) (k_i1 W a133 a136 "[C" ([(58 : Int32), c] : List Int32) (by simp only [List.mem_cons, List.not_mem_nil, or_false, forall_eq_or_imp, forall_eq]; exact ⟨(by decide), hc⟩) (by simp) (by simp) (H) (Lt)) (a := a133) (argsL := [(.ref a136)]) (rest := [(.ref a133)]) rfl pd41 rfl rfl rfl (W := 1) rfl (cs' := 3) (ss' := 14) (by decide) fun T142 v143 B144 => ?_
                replace B144 := Rn.and B144
                obtain ⟨rfl, B144⟩ := B144
                replace B144 := Rn.ex B144
                obtain ⟨b145, B144⟩ := B144
                have B146 : RH g D1_w M T142 (H) ((a133, b145, 0, [(bV (58 : Int32)), (bV c)]) :: Lt) 3 14 := B144.del 0 rfl
                show Fn g D1_w M _ (T142.setTop (mkF M.m 256 #[.val (.int k), .val (.int c)] [(.ref a133)]))
                exact r_reta B146 d1_256 rfl rfl rfl (by decide) (by decide) (fun vm h P => ⟨_, _, [(58 : Int32).toInt8.toInt32, c.toInt8.toInt32], rfl, ⟨by simp, ndk (fun q => q.elim (fun q => absurd (congrArg List.length q) (by simp)) (fun q => absurd (congrArg List.length q) (by simp))) (dk_n h0 h1 fun q => h2 q.1)⟩, P⟩)
abbrev D21_w := E21 5 1 10 69
theorem k_ex00 {g : GG} (W : GW g) (e f x w : Addr) (E : List Addr) (hE : E.length ≤ 3) (H : List Ent) (Lt : List SE) {xb : Addr} {xu : List Int32} (mx : (x, xb, 0, xu.map Value.int) ∈ Lt) {wb : Addr} {wu : List Int32} (mw : (w, wb, 0, wu.map Value.int) ∈ Lt) : Ct g D21_w #[.ref e, .ref x, .int (0 : Int32), .int (0 : Int32), .ref w] (AL g e f E ++ H) Lt (fun v vm h => ∃ (f' : Addr) (E' : List Addr) (s' : Bool) (z' : Int32), v = some (.int z') ∧ ((E', s') = stp w (E, false) (x, false) ∧ (z' = 0 ∧ s' = false ∨ z' = 1 ∧ s' = true) ∧ E'.length ≤ E.length + 1) ∧ Hp g vm h (AL g e f' E' ++ H) Lt) := by
  refine CtW.body (Ls := #[.val (.ref e), .val (.ref x), .val (.int 0), .val (.int 0), .val (.ref w)]) W (by decide +kernel) (efr rfl) ?_
  intro M T B
  refine p_iloadN B d21_0 rfl rfl ?_
  refine b_ifF B d21_1 (pc' := 4) rfl (show (0 : Int32) = (0 : Int32) from by decide) ?_
  refine p_aloadN B d21_4 rfl rfl rfl ?_
  refine p_aloadN B d21_5 rfl rfl rfl ?_
  refine r_virtual (D' := D15_w) B d21_6 rfl (W73 B.gw) (W74 B.gw) (W76 B.gw) (fun vm0 hZ => notFace_of_selects (args := #[]) (mvT hZ (W76 B.gw))) (W75 B.gw) (W51 B.gw) (W77 B.gw) (by decide) (al_exa E) (W_add W e f x E hE _ _ ⟨_, _, _, mx⟩) (argsL := [(.ref x)]) (rest := []) rfl pd29 rfl rfl rfl (W := 0) rfl (cs' := 1) (ss' := 10) (by decide) (Kex fun b4 => Kv1 fun T1 B3 => ?_)
  refine p_pop B3 d21_9 rfl rfl ?_
  refine p_iloadN B3 d21_10 rfl rfl ?_
  exact r_reti B3 d21_11 rfl (by simp) rfl (by decide) (by decide) (fun vm h P => ⟨b4, E ++ [x], false, 0, rfl, ⟨rfl, Or.inl ⟨rfl, rfl⟩, by simp⟩, P⟩)
theorem k_ex01 {g : GG} (W : GW g) (e f x w : Addr) (E : List Addr) (hE : E.length ≤ 3) (H : List Ent) (Lt : List SE) {xb : Addr} {xu : List Int32} (mx : (x, xb, 0, xu.map Value.int) ∈ Lt) {wb : Addr} {wu : List Int32} (mw : (w, wb, 0, wu.map Value.int) ∈ Lt) : Ct g D21_w #[.ref e, .ref x, .int (0 : Int32), .int (1 : Int32), .ref w] (AL g e f E ++ H) Lt (fun v vm h => ∃ (f' : Addr) (E' : List Addr) (s' : Bool) (z' : Int32), v = some (.int z') ∧ ((E', s') = stp w (E, true) (x, false) ∧ (z' = 0 ∧ s' = false ∨ z' = 1 ∧ s' = true) ∧ E'.length ≤ E.length + 1) ∧ Hp g vm h (AL g e f' E' ++ H) Lt) := by
  refine CtW.body (Ls := #[.val (.ref e), .val (.ref x), .val (.int 0), .val (.int 1), .val (.ref w)]) W (by decide +kernel) (efr rfl) ?_
  intro M T B
  refine p_iloadN B d21_0 rfl rfl ?_
  refine b_ifF B d21_1 (pc' := 4) rfl (show (0 : Int32) = (0 : Int32) from by decide) ?_
  refine p_aloadN B d21_4 rfl rfl rfl ?_
  refine p_aloadN B d21_5 rfl rfl rfl ?_
  refine r_virtual (D' := D15_w) B d21_6 rfl (W73 B.gw) (W74 B.gw) (W76 B.gw) (fun vm0 hZ => notFace_of_selects (args := #[]) (mvT hZ (W76 B.gw))) (W75 B.gw) (W51 B.gw) (W77 B.gw) (by decide) (al_exa E) (W_add W e f x E hE _ _ ⟨_, _, _, mx⟩) (argsL := [(.ref x)]) (rest := []) rfl pd29 rfl rfl rfl (W := 0) rfl (cs' := 1) (ss' := 10) (by decide) (Kex fun b4 => Kv1 fun T1 B3 => ?_)
  refine p_pop B3 d21_9 rfl rfl ?_
  refine p_iloadN B3 d21_10 rfl rfl ?_
  exact r_reti B3 d21_11 rfl (by simp) rfl (by decide) (by decide) (fun vm h P => ⟨b4, E ++ [x], true, 1, rfl, ⟨rfl, Or.inr ⟨rfl, rfl⟩, by simp⟩, P⟩)
theorem k_ex10 {g : GG} (W : GW g) (e f x w : Addr) (E : List Addr) (hE : E.length ≤ 3) (H : List Ent) (Lt : List SE) {xb : Addr} {xu : List Int32} (mx : (x, xb, 0, xu.map Value.int) ∈ Lt) {wb : Addr} {wu : List Int32} (mw : (w, wb, 0, wu.map Value.int) ∈ Lt) : Ct g D21_w #[.ref e, .ref x, .int (1 : Int32), .int (0 : Int32), .ref w] (AL g e f E ++ H) Lt (fun v vm h => ∃ (f' : Addr) (E' : List Addr) (s' : Bool) (z' : Int32), v = some (.int z') ∧ ((E', s') = stp w (E, false) (x, true) ∧ (z' = 0 ∧ s' = false ∨ z' = 1 ∧ s' = true) ∧ E'.length ≤ E.length + 1) ∧ Hp g vm h (AL g e f' E' ++ H) Lt) := by
  refine CtW.body (Ls := #[.val (.ref e), .val (.ref x), .val (.int 1), .val (.int 0), .val (.ref w)]) W (by decide +kernel) (efr rfl) ?_
  intro M T B
  refine p_iloadN B d21_0 rfl rfl ?_
  refine b_ifT B d21_1 (pc' := 12) (show ¬ (1 : Int32) = (0 : Int32) from by decide) (by decide) (by decide) ?_
  refine p_iloadN B d21_12 rfl rfl ?_
  refine b_ifF B d21_13 (pc' := 16) rfl (show (0 : Int32) = (0 : Int32) from by decide) ?_
  refine p_aloadN B d21_16 rfl rfl rfl ?_
  refine p_aload B d21_17 rfl rfl rfl ?_
  refine r_virtual (D' := D15_w) B d21_19 rfl (W73 B.gw) (W74 B.gw) (W76 B.gw) (fun vm0 hZ => notFace_of_selects (args := #[]) (mvT hZ (W76 B.gw))) (W75 B.gw) (W51 B.gw) (W77 B.gw) (by decide) (al_exa E) (W_add W e f w E hE _ _ ⟨_, _, _, mw⟩) (argsL := [(.ref w)]) (rest := []) rfl pd29 rfl rfl rfl (W := 0) rfl (cs' := 1) (ss' := 10) (by decide) (Kex fun b4 => Kv1 fun T1 B3 => ?_)
  refine p_pop B3 d21_22 rfl rfl ?_
  refine p_iconst B3 d21_23 rfl (v := (1 : Int32)) (by decide) ?_
  exact r_reti B3 d21_24 rfl (by simp) rfl (by decide) (by decide) (fun vm h P => ⟨b4, E ++ [w], true, 1, rfl, ⟨rfl, Or.inr ⟨rfl, rfl⟩, by simp⟩, P⟩)
theorem k_ex11 {g : GG} (W : GW g) (e f x w : Addr) (E : List Addr) (hE : E.length ≤ 3) (H : List Ent) (Lt : List SE) {xb : Addr} {xu : List Int32} (mx : (x, xb, 0, xu.map Value.int) ∈ Lt) {wb : Addr} {wu : List Int32} (mw : (w, wb, 0, wu.map Value.int) ∈ Lt) : Ct g D21_w #[.ref e, .ref x, .int (1 : Int32), .int (1 : Int32), .ref w] (AL g e f E ++ H) Lt (fun v vm h => ∃ (f' : Addr) (E' : List Addr) (s' : Bool) (z' : Int32), v = some (.int z') ∧ ((E', s') = stp w (E, true) (x, true) ∧ (z' = 0 ∧ s' = false ∨ z' = 1 ∧ s' = true) ∧ E'.length ≤ E.length + 1) ∧ Hp g vm h (AL g e f' E' ++ H) Lt) := by
  refine CtW.body (Ls := #[.val (.ref e), .val (.ref x), .val (.int 1), .val (.int 1), .val (.ref w)]) W (by decide +kernel) (efr rfl) ?_
  intro M T B
  refine p_iloadN B d21_0 rfl rfl ?_
  refine b_ifT B d21_1 (pc' := 12) (show ¬ (1 : Int32) = (0 : Int32) from by decide) (by decide) (by decide) ?_
  refine p_iloadN B d21_12 rfl rfl ?_
  refine b_ifT B d21_13 (pc' := 23) (show ¬ (1 : Int32) = (0 : Int32) from by decide) (by decide) (by decide) ?_
  refine p_iconst B d21_23 rfl (v := (1 : Int32)) (by decide) ?_
  exact r_reti B d21_24 rfl (by simp) rfl (by decide) (by decide) (fun vm h P => ⟨f, E, true, 1, rfl, ⟨rfl, Or.inr ⟨rfl, rfl⟩, by omega⟩, P⟩)
theorem k_ex {g : GG} (W : GW g) (e f x w : Addr) (zd zs : Int32) (b s : Bool) (E : List Addr) (hE : E.length ≤ 3) (H : List Ent) (Lt : List SE) {xb : Addr} {xu : List Int32} (mx : (x, xb, 0, xu.map Value.int) ∈ Lt) {wb : Addr} {wu : List Int32} (mw : (w, wb, 0, wu.map Value.int) ∈ Lt) (hd : zd = 0 ∧ b = false ∨ zd = 1 ∧ b = true) (hs : zs = 0 ∧ s = false ∨ zs = 1 ∧ s = true) : Ct g D21_w #[.ref e, .ref x, .int zd, .int zs, .ref w] (AL g e f E ++ H) Lt (fun v vm h => ∃ (f' : Addr) (E' : List Addr) (s' : Bool) (z' : Int32), v = some (.int z') ∧ ((E', s') = stp w (E, s) (x, b) ∧ (z' = 0 ∧ s' = false ∨ z' = 1 ∧ s' = true) ∧ E'.length ≤ E.length + 1) ∧ Hp g vm h (AL g e f' E' ++ H) Lt) := by
  rcases hd with ⟨rfl, rfl⟩ | ⟨rfl, rfl⟩
  · rcases hs with ⟨rfl, rfl⟩ | ⟨rfl, rfl⟩
    · exact k_ex00 W e f x w E hE H Lt mx mw
    · exact k_ex01 W e f x w E hE H Lt mx mw
  · rcases hs with ⟨rfl, rfl⟩ | ⟨rfl, rfl⟩
    · exact k_ex10 W e f x w E hE H Lt mx mw
    · exact k_ex11 W e f x w E hE H Lt mx mw
abbrev D36_w := E36 10 50 506 129
abbrev D12_q110 := E12 3 0 0 36
theorem k_q110 {g : GG} (W : GW g) (x0 : Addr) (H : List Ent) (Lt : List SE) : Ct g D12_q110 #[(.ref x0)] (oAL x0 (.int 0) .null (.int 0) :: H) Lt (fun v vm h => v = none ∧ Hp g vm h (oAL x0 (.int 0) (.ref (dcOf g)) (.int 0) :: H) (Lt)) := by
  refine CtW.body (Ls := #[.val (.ref x0)]) W (by decide +kernel) (efr rfl) ?_
  intro M T B
  refine p_aloadN B d12_0 rfl rfl rfl ?_
  refine r_special (D' := D13_q1) B d12_1 rfl rfl rfl (W55 B.gw) (W56 B.gw) (W59 B.gw) (W60 B.gw) (by decide) (k_q1 W x0 _ _) (a := x0) (argsL := []) (rest := []) rfl pd9 rfl rfl rfl (W := 0) rfl (cs' := 0) (ss' := 0) (by decide) (Kv0 fun T1 B3 => ?_)
  refine p_aloadN B3 d12_4 rfl rfl rfl ?_
  refine r_gets B3 d12_5 rfl (host := "") (Or.inl (W70 B3.gw)) Via.refl (v := (.ref (dcOf g))) (dc_sta W) fun T4 B5 => ?_
  refine r_put B5 d12_8 rfl (host := "") (Or.inl (W71 B5.gw)) Via.refl (i := 0) (j := 1) rfl rfl (Or.inl (W72 B5.gw)) (W50 B5.gw) (ty := (.array (.object "java/lang/Object"))) (by decide) rfl rfl (H' := (oAL x0 (.int 0) (.ref (dcOf g)) (.int 0) :: H)) rfl fun T6 B7 => ?_
  exact r_ret B7 d12_11 rfl (by decide) (by decide) (fun vm h P => ⟨rfl, P⟩)
abbrev D39_q112 := E39 1 0 0 12
theorem k_q112 {g : GG} (W : GW g) (x0 : Addr) (H : List Ent) (Lt : List SE) : Ct g D39_q112 #[(.ref x0), (.ref (elOf g)), (.int 0)] (oLI x0 .null (.int 0) (.int 0) (.int 0) :: H) Lt (fun v vm h => v = none ∧ Hp g vm h (oLI x0 (.ref (elOf g)) (.int 0) (.int 0) (.int 0) :: H) (Lt)) := by
  refine CtW.body (Ls := #[.val (.ref x0), .val (.ref (elOf g)), .val (.int 0)]) W (by decide +kernel) (efr rfl) ?_
  intro M T B
  refine p_aloadN B d39_0 rfl rfl rfl ?_
  refine r_initO B d39_1 rfl (W239 B.gw) (W17 B.gw) (W18 B.gw) rfl (by decide) (W := 0) rfl (by decide) fun T1 B2 => ?_
  refine p_aloadN B2 d39_4 rfl rfl rfl ?_
  refine p_aloadN B2 d39_5 rfl rfl rfl ?_
  refine r_put B2 d39_6 rfl (host := "") (Or.inl (W240 B2.gw)) Via.refl (i := 0) (j := 0) rfl rfl (Or.inr ⟨(W241 B2.gw), rfl, rfl⟩) (W227 B2.gw) (ty := (.object "java/util/List")) (by decide) rfl rfl (H' := (oLI x0 (.ref (elOf g)) (.int 0) (.int 0) (.int 0) :: H)) rfl fun T3 B4 => ?_
  refine p_aloadN B4 d39_9 rfl rfl rfl ?_
  refine p_iloadN B4 d39_10 rfl rfl ?_
  refine r_put B4 d39_11 rfl (host := "") (Or.inl (W242 B4.gw)) Via.refl (i := 0) (j := 1) rfl rfl (Or.inr ⟨(W243 B4.gw), rfl, rfl⟩) (W227 B4.gw) (ty := .int) (by decide) rfl rfl (H' := (oLI x0 (.ref (elOf g)) (.int 0) (.int 0) (.int 0) :: H)) rfl fun T5 B6 => ?_
  refine p_aloadN B6 d39_14 rfl rfl rfl ?_
  refine p_iconst B6 d39_15 rfl (v := (0 : Int32)) (by decide) ?_
  refine r_put B6 d39_16 rfl (host := "") (Or.inl (W244 B6.gw)) Via.refl (i := 0) (j := 2) rfl rfl (Or.inl (W245 B6.gw)) (W227 B6.gw) (ty := .int) (by decide) rfl rfl (H' := (oLI x0 (.ref (elOf g)) (.int 0) (.int 0) (.int 0) :: H)) rfl fun T7 B8 => ?_
  refine p_aloadN B8 d39_19 rfl rfl rfl ?_
  refine p_iconst B8 d39_20 rfl (v := (0 : Int32)) (by decide) ?_
  refine r_put B8 d39_21 rfl (host := "") (Or.inl (W246 B8.gw)) Via.refl (i := 0) (j := 3) rfl rfl (Or.inr ⟨(W247 B8.gw), rfl, rfl⟩) (W227 B8.gw) (ty := .boolean) (by decide) (by decide) (by decide) (H' := (oLI x0 (.ref (elOf g)) (.int 0) (.int 0) (.int 0) :: H)) rfl fun T9 B10 => ?_
  exact r_ret B10 d39_24 rfl (by decide) (by decide) (fun vm h P => ⟨rfl, P⟩)
abbrev D37_q111 := E37 2 1 4 27
theorem k_q111 {g : GG} (W : GW g) (H : List Ent) (Lt : List SE) : Ct g D37_q111 #[(.ref (elOf g))] (H) Lt (fun v vm h => ∃ a3, v = some (.ref a3) ∧ Hp g vm h (oLI a3 (.ref (elOf g)) (.int 0) (.int 0) (.int 0) :: H) (Lt)) := by
  refine CtW.body (Ls := #[.val (.ref (elOf g))]) W (by decide +kernel) (efr rfl) ?_
  intro M T B
  refine r_new B d37_0 rfl (W226 B.gw) (W227 B.gw) (W228 B.gw) (Ly_oLI B.gw) (by decide) (cs' := 1) rfl (ss' := 4) rfl (by decide) (by decide) fun T1 a3 B2 => ?_
  refine p_dup B2 d37_3 rfl rfl ?_
  refine p_aloadN B2 d37_4 rfl rfl rfl ?_
  refine p_aloadN B2 d37_5 rfl rfl rfl ?_
  refine r_virtualUp (D' := D73_q100) B2 d37_6 rfl (W229 B2.gw) (W230 B2.gw) (W231 B2.gw) (by decide) (W444 B2.gw) (W445 B2.gw) (W446 B2.gw) (W447 B2.gw) (el_exa W) (k_q100 W _ _) (argsL := []) (rest := [(.ref (elOf g)), (.ref a3), (.ref a3)]) rfl pd26 rfl rfl rfl (W := 3) rfl (cs' := 1) (ss' := 4) (by decide) (Kv1 fun T4 B6 => ?_)
  refine r_special (D' := D39_q112) B6 d37_9 rfl rfl rfl (W235 B6.gw) (W236 B6.gw) (W228 B6.gw) (W238 B6.gw) (by decide) (k_q112 W a3 _ _) (a := a3) (argsL := [(.ref (elOf g)), (.int 0)]) (rest := [(.ref a3)]) rfl pd42 rfl rfl rfl (W := 1) rfl (cs' := 1) (ss' := 4) (by decide) (Kv0 fun T7 B9 => ?_)
  exact r_reta B9 d37_12 rfl rfl rfl (by decide) (by decide) (fun vm h P => ⟨a3, rfl, P⟩)
abbrev D39_q115 := E39 1 0 0 12
theorem k_q115 {g : GG} (W : GW g) (x0 x1 : Addr) (z0 : Int32) (H : List Ent) (Lt : List SE) : Ct g D39_q115 #[(.ref x0), (.ref x1), (.int z0)] (oLI x0 .null (.int 0) (.int 0) (.int 0) :: H) Lt (fun v vm h => v = none ∧ Hp g vm h (oLI x0 (.ref x1) (.int z0) (.int 0) (.int 0) :: H) (Lt)) := by
  refine CtW.body (Ls := #[.val (.ref x0), .val (.ref x1), .val (.int z0)]) W (by decide +kernel) (efr rfl) ?_
  intro M T B
  refine p_aloadN B d39_0 rfl rfl rfl ?_
  refine r_initO B d39_1 rfl (W239 B.gw) (W17 B.gw) (W18 B.gw) rfl (by decide) (W := 0) rfl (by decide) fun T1 B2 => ?_
  refine p_aloadN B2 d39_4 rfl rfl rfl ?_
  refine p_aloadN B2 d39_5 rfl rfl rfl ?_
  refine r_put B2 d39_6 rfl (host := "") (Or.inl (W240 B2.gw)) Via.refl (i := 0) (j := 0) rfl rfl (Or.inr ⟨(W241 B2.gw), rfl, rfl⟩) (W227 B2.gw) (ty := (.object "java/util/List")) (by decide) rfl rfl (H' := (oLI x0 (.ref x1) (.int 0) (.int 0) (.int 0) :: H)) rfl fun T3 B4 => ?_
  refine p_aloadN B4 d39_9 rfl rfl rfl ?_
  refine p_iloadN B4 d39_10 rfl rfl ?_
  refine r_put B4 d39_11 rfl (host := "") (Or.inl (W242 B4.gw)) Via.refl (i := 0) (j := 1) rfl rfl (Or.inr ⟨(W243 B4.gw), rfl, rfl⟩) (W227 B4.gw) (ty := .int) (by decide) rfl rfl (H' := (oLI x0 (.ref x1) (.int z0) (.int 0) (.int 0) :: H)) rfl fun T5 B6 => ?_
  refine p_aloadN B6 d39_14 rfl rfl rfl ?_
  refine p_iconst B6 d39_15 rfl (v := (0 : Int32)) (by decide) ?_
  refine r_put B6 d39_16 rfl (host := "") (Or.inl (W244 B6.gw)) Via.refl (i := 0) (j := 2) rfl rfl (Or.inl (W245 B6.gw)) (W227 B6.gw) (ty := .int) (by decide) rfl rfl (H' := (oLI x0 (.ref x1) (.int z0) (.int 0) (.int 0) :: H)) rfl fun T7 B8 => ?_
  refine p_aloadN B8 d39_19 rfl rfl rfl ?_
  refine p_iconst B8 d39_20 rfl (v := (0 : Int32)) (by decide) ?_
  refine r_put B8 d39_21 rfl (host := "") (Or.inl (W246 B8.gw)) Via.refl (i := 0) (j := 3) rfl rfl (Or.inr ⟨(W247 B8.gw), rfl, rfl⟩) (W227 B8.gw) (ty := .boolean) (by decide) (by decide) (by decide) (H' := (oLI x0 (.ref x1) (.int z0) (.int 0) (.int 0) :: H)) rfl fun T9 B10 => ?_
  exact r_ret B10 d39_24 rfl (by decide) (by decide) (fun vm h P => ⟨rfl, P⟩)
abbrev D37_q113 := E37 2 1 4 27
theorem k_q113 {g : GG} (W : GW g) (x0 x1 : Addr) (H : List Ent) (Lt : List SE) (ms0 : StrIn Lt x1) : Ct g D37_q113 #[(.ref x0)] (o12 x0 (.ref x1) (.ref (emOf g)) :: H) Lt (fun v vm h => ∃ a3, v = some (.ref a3) ∧ Hp g vm h (oLI a3 (.ref x0) (.int 1) (.int 0) (.int 0) :: o12 x0 (.ref x1) (.ref (emOf g)) :: H) (Lt)) := by
  refine CtW.body (Ls := #[.val (.ref x0)]) W (by decide +kernel) (efr rfl) ?_
  intro M T B
  refine r_new B d37_0 rfl (W226 B.gw) (W227 B.gw) (W228 B.gw) (Ly_oLI B.gw) (by decide) (cs' := 1) rfl (ss' := 4) rfl (by decide) (by decide) fun T1 a3 B2 => ?_
  refine p_dup B2 d37_3 rfl rfl ?_
  refine p_aloadN B2 d37_4 rfl rfl rfl ?_
  refine p_aloadN B2 d37_5 rfl rfl rfl ?_
  have B4 := (B2.fr 1 rfl)
  refine r_virtualUp (D' := D38_q103) B4 d37_6 rfl (W229 B4.gw) (W230 B4.gw) (W231 B4.gw) (by decide) (W232 B4.gw) (W233 B4.gw) (W180 B4.gw) (W234 B4.gw) (fE (i := 0) rfl) (k_q103 W x0 x1 _ _ ms0) (argsL := []) (rest := [(.ref x0), (.ref a3), (.ref a3)]) rfl pd26 rfl rfl rfl (W := 3) rfl (cs' := 1) (ss' := 4) (by decide) (Kv1 fun T5 B7 => ?_)
  have B8 := (B7.fr 1 rfl)
  refine r_special (D' := D39_q115) B8 d37_9 rfl rfl rfl (W235 B8.gw) (W236 B8.gw) (W228 B8.gw) (W238 B8.gw) (by decide) (k_q115 W a3 x0 (1 : Int32) _ _) (a := a3) (argsL := [(.ref x0), (.int 1)]) (rest := [(.ref a3)]) rfl pd42 rfl rfl rfl (W := 1) rfl (cs' := 1) (ss' := 4) (by decide) (Kv0 fun T9 B11 => ?_)
  exact r_reta B11 d37_12 rfl rfl rfl (by decide) (by decide) (fun vm h P => ⟨a3, rfl, P⟩)
abbrev D37_q116 := E37 2 1 4 27
theorem k_q116 {g : GG} (W : GW g) (x0 x1 x2 : Addr) (H : List Ent) (Lt : List SE) (ms0 : StrIn Lt x1) (ms1 : StrIn Lt x2) : Ct g D37_q116 #[(.ref x0)] (o12 x0 (.ref x1) (.ref x2) :: H) Lt (fun v vm h => ∃ a3, v = some (.ref a3) ∧ Hp g vm h (oLI a3 (.ref x0) (.int 2) (.int 0) (.int 0) :: o12 x0 (.ref x1) (.ref x2) :: H) (Lt)) := by
  refine CtW.body (Ls := #[.val (.ref x0)]) W (by decide +kernel) (efr rfl) ?_
  intro M T B
  refine r_new B d37_0 rfl (W226 B.gw) (W227 B.gw) (W228 B.gw) (Ly_oLI B.gw) (by decide) (cs' := 1) rfl (ss' := 4) rfl (by decide) (by decide) fun T1 a3 B2 => ?_
  refine p_dup B2 d37_3 rfl rfl ?_
  refine p_aloadN B2 d37_4 rfl rfl rfl ?_
  refine p_aloadN B2 d37_5 rfl rfl rfl ?_
  have B4 := (B2.fr 1 rfl)
  refine r_virtualUp (D' := D38_q105) B4 d37_6 rfl (W229 B4.gw) (W230 B4.gw) (W231 B4.gw) (by decide) (W232 B4.gw) (W233 B4.gw) (W180 B4.gw) (W234 B4.gw) (fE (i := 0) rfl) (k_q105 W x0 x1 x2 _ _ ms0 ms1) (argsL := []) (rest := [(.ref x0), (.ref a3), (.ref a3)]) rfl pd26 rfl rfl rfl (W := 3) rfl (cs' := 1) (ss' := 4) (by decide) (Kv1 fun T5 B7 => ?_)
  have B8 := (B7.fr 1 rfl)
  refine r_special (D' := D39_q115) B8 d37_9 rfl rfl rfl (W235 B8.gw) (W236 B8.gw) (W228 B8.gw) (W238 B8.gw) (by decide) (k_q115 W a3 x0 (2 : Int32) _ _) (a := a3) (argsL := [(.ref x0), (.int 2)]) (rest := [(.ref a3)]) rfl pd42 rfl rfl rfl (W := 1) rfl (cs' := 1) (ss' := 4) (by decide) (Kv0 fun T9 B11 => ?_)
  exact r_reta B11 d37_12 rfl rfl rfl (by decide) (by decide) (fun vm h P => ⟨a3, rfl, P⟩)
abbrev D37_q118 := E37 2 1 4 27
theorem k_q118 {g : GG} (W : GW g) (x0 x1 x2 x3 x4 : Addr) (H : List Ent) (Lt : List SE) (ms0 : StrIn Lt x2) (ms1 : StrIn Lt x3) (ms2 : StrIn Lt x4) : Ct g D37_q118 #[(.ref x0)] (oLN x0 (.ref x1) (.int 0) :: (x1, .inr ((.object "java/lang/Object"), "[Ljava/lang/Object;", [(.ref x2), (.ref x3), (.ref x4)])) :: H) Lt (fun v vm h => ∃ a3, v = some (.ref a3) ∧ Hp g vm h (oLI a3 (.ref x0) (.int 3) (.int 0) (.int 0) :: oLN x0 (.ref x1) (.int 0) :: (x1, .inr ((.object "java/lang/Object"), "[Ljava/lang/Object;", [(.ref x2), (.ref x3), (.ref x4)])) :: H) (Lt)) := by
  refine CtW.body (Ls := #[.val (.ref x0)]) W (by decide +kernel) (efr rfl) ?_
  intro M T B
  refine r_new B d37_0 rfl (W226 B.gw) (W227 B.gw) (W228 B.gw) (Ly_oLI B.gw) (by decide) (cs' := 1) rfl (ss' := 4) rfl (by decide) (by decide) fun T1 a3 B2 => ?_
  refine p_dup B2 d37_3 rfl rfl ?_
  refine p_aloadN B2 d37_4 rfl rfl rfl ?_
  refine p_aloadN B2 d37_5 rfl rfl rfl ?_
  have B4 := ((B2.fr 2 rfl).fr 2 rfl)
  refine r_virtualUp (D' := D73_q107) B4 d37_6 rfl (W229 B4.gw) (W230 B4.gw) (W231 B4.gw) (by decide) (W444 B4.gw) (W445 B4.gw) (W446 B4.gw) (W447 B4.gw) (fE (i := 0) rfl) (k_q107 W x0 x1 x2 x3 x4 _ _ ms0 ms1 ms2) (argsL := []) (rest := [(.ref x0), (.ref a3), (.ref a3)]) rfl pd26 rfl rfl rfl (W := 3) rfl (cs' := 1) (ss' := 4) (by decide) (Kv1 fun T5 B7 => ?_)
  have B8 := (B7.fr 2 rfl)
  refine r_special (D' := D39_q115) B8 d37_9 rfl rfl rfl (W235 B8.gw) (W236 B8.gw) (W228 B8.gw) (W238 B8.gw) (by decide) (k_q115 W a3 x0 (3 : Int32) _ _) (a := a3) (argsL := [(.ref x0), (.int 3)]) (rest := [(.ref a3)]) rfl pd42 rfl rfl rfl (W := 1) rfl (cs' := 1) (ss' := 4) (by decide) (Kv0 fun T9 B11 => ?_)
  exact r_reta B11 d37_12 rfl rfl rfl (by decide) (by decide) (fun vm h P => ⟨a3, rfl, P⟩)
abbrev D37_q120 := E37 2 1 4 27
theorem k_q120 {g : GG} (W : GW g) (x0 x1 x2 x3 x4 x5 : Addr) (H : List Ent) (Lt : List SE) (ms0 : StrIn Lt x2) (ms1 : StrIn Lt x3) (ms2 : StrIn Lt x4) (ms3 : StrIn Lt x5) : Ct g D37_q120 #[(.ref x0)] (oLN x0 (.ref x1) (.int 0) :: (x1, .inr ((.object "java/lang/Object"), "[Ljava/lang/Object;", [(.ref x2), (.ref x3), (.ref x4), (.ref x5)])) :: H) Lt (fun v vm h => ∃ a3, v = some (.ref a3) ∧ Hp g vm h (oLI a3 (.ref x0) (.int 4) (.int 0) (.int 0) :: oLN x0 (.ref x1) (.int 0) :: (x1, .inr ((.object "java/lang/Object"), "[Ljava/lang/Object;", [(.ref x2), (.ref x3), (.ref x4), (.ref x5)])) :: H) (Lt)) := by
  refine CtW.body (Ls := #[.val (.ref x0)]) W (by decide +kernel) (efr rfl) ?_
  intro M T B
  refine r_new B d37_0 rfl (W226 B.gw) (W227 B.gw) (W228 B.gw) (Ly_oLI B.gw) (by decide) (cs' := 1) rfl (ss' := 4) rfl (by decide) (by decide) fun T1 a3 B2 => ?_
  refine p_dup B2 d37_3 rfl rfl ?_
  refine p_aloadN B2 d37_4 rfl rfl rfl ?_
  refine p_aloadN B2 d37_5 rfl rfl rfl ?_
  have B4 := ((B2.fr 2 rfl).fr 2 rfl)
  refine r_virtualUp (D' := D73_q109) B4 d37_6 rfl (W229 B4.gw) (W230 B4.gw) (W231 B4.gw) (by decide) (W444 B4.gw) (W445 B4.gw) (W446 B4.gw) (W447 B4.gw) (fE (i := 0) rfl) (k_q109 W x0 x1 x2 x3 x4 x5 _ _ ms0 ms1 ms2 ms3) (argsL := []) (rest := [(.ref x0), (.ref a3), (.ref a3)]) rfl pd26 rfl rfl rfl (W := 3) rfl (cs' := 1) (ss' := 4) (by decide) (Kv1 fun T5 B7 => ?_)
  have B8 := (B7.fr 2 rfl)
  refine r_special (D' := D39_q115) B8 d37_9 rfl rfl rfl (W235 B8.gw) (W236 B8.gw) (W228 B8.gw) (W238 B8.gw) (by decide) (k_q115 W a3 x0 (4 : Int32) _ _) (a := a3) (argsL := [(.ref x0), (.int 4)]) (rest := [(.ref a3)]) rfl pd42 rfl rfl rfl (W := 1) rfl (cs' := 1) (ss' := 4) (by decide) (Kv0 fun T9 B11 => ?_)
  exact r_reta B11 d37_12 rfl rfl rfl (by decide) (by decide) (fun vm h P => ⟨a3, rfl, P⟩)
abbrev D46_q123 := E46 1 1 16 12
theorem k_q123 {g : GG} (W : GW g) (x0 : Addr) (H : List Ent) (Lt : List SE) : Ct g D46_q123 #[(.ref x0), (.int 16)] (oSB x0 .null (.int 0) (.int 0) :: H) Lt (fun v vm h => ∃ a8, v = none ∧ Hp g vm h ((a8, .inr (.byte, "[B", [(.int 0), (.int 0), (.int 0), (.int 0), (.int 0), (.int 0), (.int 0), (.int 0), (.int 0), (.int 0), (.int 0), (.int 0), (.int 0), (.int 0), (.int 0), (.int 0)])) :: oSB x0 (.ref a8) (.int 0) (.int 0) :: H) (Lt)) := by
  refine CtW.body (Ls := #[.val (.ref x0), .val (.int 16)]) W (by decide +kernel) (efr rfl) ?_
  intro M T B
  refine p_aloadN B d46_0 rfl rfl rfl ?_
  refine r_initO B d46_1 rfl (W300 B.gw) (W17 B.gw) (W18 B.gw) rfl (by decide) (W := 0) rfl (by decide) fun T1 B2 => ?_
  obtain ⟨cz3, hcz3, gcz3⟩ := compact W
  refine r_gets B2 d46_4 rfl (host := "") (Or.inl (W301 B2.gw)) Via.refl (v := (.int cz3)) hcz3 fun T4 B5 => ?_
  refine b_ifF B5 d46_7 (pc' := 10) rfl gcz3 ?_
  refine p_aloadN B5 d46_10 rfl rfl rfl ?_
  refine p_iloadN B5 d46_11 rfl rfl ?_
  refine r_newp B5 d46_12 rfl (ty := .byte) (W24 B5.gw) rfl (by decide) (nn := 16) (by decide) (cap := 16) (by decide) (by decide) (cs' := 1) rfl (ss' := 16) rfl (by decide) (by decide) (ad := "[B") (by decide) (by decide) nofun (vs := [(.int 0), (.int 0), (.int 0), (.int 0), (.int 0), (.int 0), (.int 0), (.int 0), (.int 0), (.int 0), (.int 0), (.int 0), (.int 0), (.int 0), (.int 0), (.int 0)]) rfl fun T6 a8 B7 => ?_
  refine r_put B7 d46_14 rfl (host := "") (Or.inl (W302 B7.gw)) Via.refl (i := 1) (j := 0) rfl rfl (Or.inl (W303 B7.gw)) (W289 B7.gw) (ty := (.array .byte)) (by decide) rfl rfl (H' := ((a8, .inr (.byte, "[B", [(.int 0), (.int 0), (.int 0), (.int 0), (.int 0), (.int 0), (.int 0), (.int 0), (.int 0), (.int 0), (.int 0), (.int 0), (.int 0), (.int 0), (.int 0), (.int 0)])) :: oSB x0 (.ref a8) (.int 0) (.int 0) :: H)) rfl fun T9 B10 => ?_
  refine p_aloadN B10 d46_17 rfl rfl rfl ?_
  refine p_iconst B10 d46_18 rfl (v := (0 : Int32)) (by decide) ?_
  refine r_put B10 d46_19 rfl (host := "") (Or.inl (W304 B10.gw)) Via.refl (i := 1) (j := 1) rfl rfl (Or.inl (W305 B10.gw)) (W289 B10.gw) (ty := .byte) (by decide) (by decide) (by decide) (H' := ((a8, .inr (.byte, "[B", [(.int 0), (.int 0), (.int 0), (.int 0), (.int 0), (.int 0), (.int 0), (.int 0), (.int 0), (.int 0), (.int 0), (.int 0), (.int 0), (.int 0), (.int 0), (.int 0)])) :: oSB x0 (.ref a8) (.int 0) (.int 0) :: H)) rfl fun T11 B12 => ?_
  refine b_goto B12 d46_22 (pc' := 38) (by decide) (by decide) ?_
  exact r_ret B12 d46_38 rfl (by decide) (by decide) (fun vm h P => ⟨a8, rfl, P⟩)
abbrev D45_q122 := E45 2 1 16 25
theorem k_q122 {g : GG} (W : GW g) (x0 : Addr) (H : List Ent) (Lt : List SE) : Ct g D45_q122 #[(.ref x0)] (oSB x0 .null (.int 0) (.int 0) :: H) Lt (fun v vm h => ∃ a4, v = none ∧ Hp g vm h ((a4, .inr (.byte, "[B", [(.int 0), (.int 0), (.int 0), (.int 0), (.int 0), (.int 0), (.int 0), (.int 0), (.int 0), (.int 0), (.int 0), (.int 0), (.int 0), (.int 0), (.int 0), (.int 0)])) :: oSB x0 (.ref a4) (.int 0) (.int 0) :: H) (Lt)) := by
  refine CtW.body (Ls := #[.val (.ref x0)]) W (by decide +kernel) (efr rfl) ?_
  intro M T B
  refine p_aloadN B d45_0 rfl rfl rfl ?_
  refine p_bipush B d45_1 rfl (v := (16 : Int32)) (by decide) ?_
  refine r_special (D' := D46_q123) B d45_3 rfl rfl rfl (W294 B.gw) (W295 B.gw) (W298 B.gw) (W299 B.gw) (by decide) (k_q123 W x0 _ _) (a := x0) (argsL := [(.int 16)]) (rest := []) rfl pd31 rfl rfl rfl (W := 0) rfl (cs' := 1) (ss' := 16) (by decide) (Kex fun a4 => Kv0 fun T1 B3 => ?_)
  exact r_ret B3 d45_6 rfl (by decide) (by decide) (fun vm h P => ⟨a4, rfl, P⟩)
theorem lp_4 {g : GG} (W : GW g) {M : MM} {H : List Ent} (ev dt it r c d w : Addr) (A : List Addr) {dtb wb : Addr} {ds : List Int32} (hds : ds.length ≤ 1) (hn : A.length ≤ 4) : ∀ (R : List (Addr × Bool)) (E G : List Addr) (s : Bool) (z : Int32) (rb : Addr) (o5 : Slot) (Lt : List SE) {T : State} (hs0 : ∀ y ∈ A, StrIn Lt y), (o5 = .unset ∨ ∃ w, o5 = .val w ∧ w.category = 1) → (dt, dtb, 0, ds.map Value.int) ∈ Lt → (w, wb, 0, (dpre ++ ds).map Value.int) ∈ Lt → (∀ x ∈ R, Ln Lt x) → EqL Lt G E → (z = 0 ∧ s = false ∨ z = 1 ∧ s = true) → A.drop 4 = R.map Prod.fst → 4 ≤ A.length → G.length ≤ 4 → RH g D36_w M T (oLI it (.ref (ilA g c A)) (.int (Int32.ofNat A.length)) (.int (4 : Int32)) (.int (0 : Int32)) :: (IL g c d A ++ (AL g r rb G ++ H))) Lt 46 495 →
    Fn g D36_w M (fun v vm h => ∃ (ev' c' d' : Addr) (G' : List Addr) (Lt' : List SE), v = some (.ref ev') ∧ (EqL Lt' G' ((R : List (Addr × Bool)).foldl (stp w) (E, s)).1 ∧ G'.length ≤ 4) ∧ Hp g vm h (oEV ev' (.ref (ilA g c' G')) :: (IL g c' d' G' ++ H)) Lt') (T.setTop (mkF M.m 21 #[.val (.ref ev), .val (.ref dt), .val (.ref r), .val (.int z), .val (.ref it), o5] [])) := by
  intro R
  cases R with
  | nil =>
    intro E G s z rb o5 Lt T hs0 ho md mw hR hG hs hd hi hg B
    have hA : A.length = 4 := (by have q := congrArg List.length hd; simp only [List.length_drop, List.length_map, List.length_cons, List.length_nil] at q; omega)
    refine p_aload B d36_21 rfl rfl rfl ?_
    refine r_iface (D' := D40_w) B d36_23 rfl (W248 B.gw) (W249 B.gw) (W250 B.gw) (by first | rfl | decide) (W251 B.gw) (W252 B.gw) (W253 B.gw) (W254 B.gw) (W255 B.gw) (W228 B.gw) (W256 B.gw) (by decide) (fE (i := 0) rfl) (c_hn0 W it (ilA g c A) (Int32.ofNat A.length) (4 : Int32) _ _ (by rw [hA]; rfl)) (argsL := []) (rest := []) rfl pd14 rfl rfl rfl (W := 0) rfl (cs' := 46) (ss' := 495) (by decide) (Kv1 fun T1 B3 => ?_)
    refine b_ifT B3 d36_28 (pc' := 98) (show (0 : Int32) = (0 : Int32) from by decide) (by decide) (by decide) ?_
    refine r_new B3 d36_98 rfl (W397 B3.gw) (W111 B3.gw) (W112 B3.gw) (Ly_oEV B3.gw) (by decide) (cs' := 47) rfl (ss' := 496) rfl (by decide) (by decide) fun T4 a6 B5 => ?_
    refine p_dup B5 d36_101 rfl rfl ?_
    refine p_aloadN B5 d36_102 rfl rfl rfl ?_
    have B7 : RH g D36_w M T4 (AL g r rb G ++ (oEV a6 .null :: (oLI it (.ref (ilA g c A)) (.int (Int32.ofNat A.length)) (.int 4) (.int 0) :: (IL g c d A ++ H)))) (Lt) 47 496 := B5.perm (pm3 [oEV a6 .null] [oLI it (.ref (ilA g c A)) (.int (Int32.ofNat A.length)) (.int 4) (.int 0)] (IL g c d A) (AL g r rb G))
    have B8 : RH g D36_w M T4 (oEV a6 .null :: (AL g r rb G ++ (oLI it (.ref (ilA g c A)) (.int (Int32.ofNat A.length)) (.int 4) (.int 0) :: (IL g c d A ++ H)))) (Lt) 47 496 := B7.perm (pm1 (AL g r rb G) [oEV a6 .null])
    refine r_special (D' := D22_w) B8 d36_103 rfl rfl rfl (W398 B8.gw) (W114 B8.gw) (W112 B8.gw) (W115 B8.gw) (by decide) (W_ei W a6 r rb G (by omega) _ _ hG.str) (a := a6) (argsL := [(.ref r)]) (rest := [(.ref a6)]) rfl pd44 rfl rfl rfl (W := 1) rfl (cs' := 50) (ss' := 506) (by decide) (Kex fun c' => Kex fun d' => Kv0 fun T9 B11 => ?_)
    exact r_reta B11 d36_106 rfl rfl rfl (by decide) (by decide) (fun vm h P => ⟨a6, c', d', G, _, rfl, ⟨hG, by omega⟩, P.sub sub_ev⟩)
  | cons x R =>
    intro E G s z rb o5 Lt T hs0 ho md mw hR hG hs hd hi hg B
    exact absurd (congrArg List.length hd) (by simp only [List.length_drop, List.length_map, List.length_cons]; omega)
theorem lp_3 {g : GG} (W : GW g) {M : MM} {H : List Ent} (ev dt it r c d w : Addr) (A : List Addr) {dtb wb : Addr} {ds : List Int32} (hds : ds.length ≤ 1) (hn : A.length ≤ 4) : ∀ (R : List (Addr × Bool)) (E G : List Addr) (s : Bool) (z : Int32) (rb : Addr) (o5 : Slot) (Lt : List SE) {T : State} (hs0 : ∀ y ∈ A, StrIn Lt y), (o5 = .unset ∨ ∃ w, o5 = .val w ∧ w.category = 1) → (dt, dtb, 0, ds.map Value.int) ∈ Lt → (w, wb, 0, (dpre ++ ds).map Value.int) ∈ Lt → (∀ x ∈ R, Ln Lt x) → EqL Lt G E → (z = 0 ∧ s = false ∨ z = 1 ∧ s = true) → A.drop 3 = R.map Prod.fst → 3 ≤ A.length → G.length ≤ 3 → RH g D36_w M T (oLI it (.ref (ilA g c A)) (.int (Int32.ofNat A.length)) (.int (3 : Int32)) (.int (0 : Int32)) :: (IL g c d A ++ (AL g r rb G ++ H))) Lt 35 373 →
    Fn g D36_w M (fun v vm h => ∃ (ev' c' d' : Addr) (G' : List Addr) (Lt' : List SE), v = some (.ref ev') ∧ (EqL Lt' G' ((R : List (Addr × Bool)).foldl (stp w) (E, s)).1 ∧ G'.length ≤ 4) ∧ Hp g vm h (oEV ev' (.ref (ilA g c' G')) :: (IL g c' d' G' ++ H)) Lt') (T.setTop (mkF M.m 21 #[.val (.ref ev), .val (.ref dt), .val (.ref r), .val (.int z), .val (.ref it), o5] [])) := by
  intro R
  cases R with
  | nil =>
    intro E G s z rb o5 Lt T hs0 ho md mw hR hG hs hd hi hg B
    have hA : A.length = 3 := (by have q := congrArg List.length hd; simp only [List.length_drop, List.length_map, List.length_cons, List.length_nil] at q; omega)
    refine p_aload B d36_21 rfl rfl rfl ?_
    refine r_iface (D' := D40_w) B d36_23 rfl (W248 B.gw) (W249 B.gw) (W250 B.gw) (by first | rfl | decide) (W251 B.gw) (W252 B.gw) (W253 B.gw) (W254 B.gw) (W255 B.gw) (W228 B.gw) (W256 B.gw) (by decide) (fE (i := 0) rfl) (c_hn0 W it (ilA g c A) (Int32.ofNat A.length) (3 : Int32) _ _ (by rw [hA]; rfl)) (argsL := []) (rest := []) rfl pd14 rfl rfl rfl (W := 0) rfl (cs' := 35) (ss' := 373) (by decide) (Kv1 fun T1 B3 => ?_)
    refine b_ifT B3 d36_28 (pc' := 98) (show (0 : Int32) = (0 : Int32) from by decide) (by decide) (by decide) ?_
    refine r_new B3 d36_98 rfl (W397 B3.gw) (W111 B3.gw) (W112 B3.gw) (Ly_oEV B3.gw) (by decide) (cs' := 36) rfl (ss' := 374) rfl (by decide) (by decide) fun T4 a6 B5 => ?_
    refine p_dup B5 d36_101 rfl rfl ?_
    refine p_aloadN B5 d36_102 rfl rfl rfl ?_
    have B7 : RH g D36_w M T4 (AL g r rb G ++ (oEV a6 .null :: (oLI it (.ref (ilA g c A)) (.int (Int32.ofNat A.length)) (.int 3) (.int 0) :: (IL g c d A ++ H)))) (Lt) 36 374 := B5.perm (pm3 [oEV a6 .null] [oLI it (.ref (ilA g c A)) (.int (Int32.ofNat A.length)) (.int 3) (.int 0)] (IL g c d A) (AL g r rb G))
    have B8 : RH g D36_w M T4 (oEV a6 .null :: (AL g r rb G ++ (oLI it (.ref (ilA g c A)) (.int (Int32.ofNat A.length)) (.int 3) (.int 0) :: (IL g c d A ++ H)))) (Lt) 36 374 := B7.perm (pm1 (AL g r rb G) [oEV a6 .null])
    refine r_special (D' := D22_w) B8 d36_103 rfl rfl rfl (W398 B8.gw) (W114 B8.gw) (W112 B8.gw) (W115 B8.gw) (by decide) (W_ei W a6 r rb G (by omega) _ _ hG.str) (a := a6) (argsL := [(.ref r)]) (rest := [(.ref a6)]) rfl pd44 rfl rfl rfl (W := 1) rfl (cs' := 39) (ss' := 384) (by decide) (Kex fun c' => Kex fun d' => Kv0 fun T9 B11 => ?_)
    exact r_reta B11 d36_106 rfl rfl rfl (by decide) (by decide) (fun vm h P => ⟨a6, c', d', G, _, rfl, ⟨hG, by omega⟩, P.sub sub_ev⟩)
  | cons p R =>
    intro E G s z rb o5 Lt T hs0 ho md mw hR hG hs hd hi hg B
    obtain ⟨x, b⟩ := p
    have hA : 3 < A.length := (by have q := congrArg List.length hd; simp only [List.length_drop, List.length_map, List.length_cons, List.length_nil] at q; omega)
    obtain ⟨hxA, hd'⟩ := drop_c (show A.drop 3 = x :: R.map Prod.fst from hd)
    obtain ⟨xb, xu, mx, hxl, hxd⟩ := hR (x, b) (List.mem_cons_self ..)
    have hR' : ∀ y ∈ R, Ln Lt y := fun y hy => hR y (List.mem_cons_of_mem _ hy)
    refine p_aload B d36_21 rfl rfl rfl ?_
    refine r_iface (D' := D40_w) B d36_23 rfl (W248 B.gw) (W249 B.gw) (W250 B.gw) (by first | rfl | decide) (W251 B.gw) (W252 B.gw) (W253 B.gw) (W254 B.gw) (W255 B.gw) (W228 B.gw) (W256 B.gw) (by decide) (fE (i := 0) rfl) (c_hn1 W it (ilA g c A) (Int32.ofNat A.length) (3 : Int32) _ _ (fun q => by have q' := injN (n := 3) (k := A.length) (by omega) (by omega) q; omega)) (argsL := []) (rest := []) rfl pd14 rfl rfl rfl (W := 0) rfl (cs' := 35) (ss' := 373) (by decide) (Kv1 fun T1 B3 => ?_)
    refine b_ifF B3 d36_28 (pc' := 31) rfl (show ¬ (1 : Int32) = (0 : Int32) from by decide) ?_
    refine p_aload B3 d36_31 rfl rfl rfl ?_
    refine r_ifaceH (D' := D81_w) B3 d36_33 rfl (W257 B3.gw) (W258 B3.gw) (W259 B3.gw) (by first | rfl | decide) (W260 B3.gw) (W261 B3.gw) (W262 B3.gw) (W263 B3.gw) (W255 B3.gw) (W228 B3.gw) (W264 B3.gw) (by decide) (fE (i := 0) rfl) (W_nx3 W it c d x (Int32.ofNat A.length) A hn hxA _ _ hs0) (argsL := []) (rest := []) rfl pd45 rfl rfl rfl (W := 0) rfl (cs' := 35) (ss' := 373) (by decide) (Kv1 fun T4 B6 => ?_)
    refine r_cast B6 d36_38 rfl (W273 B6.gw) (fun vm h E P => Ins.self ((sE mx) vm h E P)) fun T7 B8 => ?_
    refine p_astore B8 d36_41 rfl rfl (Ls' := #[.val (.ref ev), .val (.ref dt), .val (.ref r), .val (.int z), .val (.ref it), .val (.ref x)]) (XS.store1 (o := o5) rfl ho rfl) ?_
    refine p_aload B8 d36_43 rfl rfl rfl ?_
    refine r_static (D' := D42_w) B8 d36_45 rfl (W274 B8.gw) (W275 B8.gw) (W112 B8.gw) (W276 B8.gw) (by decide) (k_isd W mx hxl) (argsL := [(.ref x)]) (rest := []) rfl pd30 rfl rfl rfl (W := 0) rfl (cs' := 39) (ss' := 417) (by decide) (Kex fun zd => Kv1 fun T9 B11 => ?_)
    replace B11 := Rn.and B11
    obtain ⟨hz, B11⟩ := B11
    rcases hz with ⟨rfl, hz⟩ | ⟨rfl, hz⟩
    · obtain rfl : b = true := hxd.mpr hz
      refine b_ifT B11 d36_48 (pc' := 63) (show ¬ (1 : Int32) = (0 : Int32) from by decide) (by decide) (by decide) ?_
      refine p_iloadN B11 d36_63 rfl rfl ?_
      rcases hs with ⟨rfl, rfl⟩ | ⟨rfl, rfl⟩
      · refine b_ifF B11 d36_64 (pc' := 67) rfl (show (0 : Int32) = (0 : Int32) from by decide) ?_
        refine p_aloadN B11 d36_67 rfl rfl rfl ?_
        refine r_new B11 d36_68 rfl (W288 B11.gw) (W289 B11.gw) (W290 B11.gw) (Ly_oSB B11.gw) (by decide) (cs' := 40) rfl (ss' := 421) rfl (by decide) (by decide) fun T12 a14 B13 => ?_
        refine p_dup B13 d36_71 rfl rfl ?_
        refine r_special (D' := D45_q122) B13 d36_72 rfl rfl rfl (W291 B13.gw) (W292 B13.gw) (W290 B13.gw) (W293 B13.gw) (by decide) (k_q122 W a14 _ _) (a := a14) (argsL := []) (rest := [(.ref a14), (.ref r)]) rfl pd9 rfl rfl rfl (W := 2) rfl (cs' := 41) (ss' := 437) (by decide) (Kex fun a18 => Kv0 fun T15 B17 => ?_)
        refine r_ldc B17 d36_75 rfl (W306 B17.gw) (strW B17.gw) (inEL B17.gw (by decide)) (bs := [(.int 100), (.int 97), (.int 116), (.int 97), (.int 58), (.int 32)]) ⟨by decide, by decide⟩ (z := (6 : Int32)) (by decide) (by decide) (n := 24) (by decide) (by decide) (cs' := 43) rfl (ss' := 465) rfl (by decide) (by decide) fun T19 a21 b22 B20 => ?_
        have B23 := (B20.fr 1 rfl)
        refine r_virtual (D' := D47_w) B23 d36_77 rfl (W307 B23.gw) (W308 B23.gw) (W310 B23.gw) (fun vm0 hZ => notFace_of_selects (args := #[]) (mvT hZ (W310 B23.gw))) (W309 B23.gw) (W290 B23.gw) (W311 B23.gw) (by decide) (fE (i := 0) rfl) (W_ap W a14 a18 a21 [] dpre _ _ (List.mem_of_getElem? (i := 0) rfl) (by decide)) (argsL := [(.ref a21)]) (rest := [(.ref r)]) rfl pd46 rfl rfl rfl (W := 1) rfl (cs' := 43) (ss' := 465) (by decide) (Kv1 fun T24 B26 => ?_)
        have B27 : RH g D36_w M T24 (SBo a14 a18 dpre ++ (oLI it (.ref (ilA g c A)) (.int (Int32.ofNat A.length)) (.int 4) (.int 0) :: (IL g c d A ++ (AL g r rb G ++ H)))) ((a21, b22, 0, [(.int 100), (.int 97), (.int 116), (.int 97), (.int 58), (.int 32)]) :: Lt) 43 465 := B26
        refine p_aloadN B27 d36_80 rfl rfl rfl ?_
        refine r_virtual (D' := D47_w) B27 d36_81 rfl (W307 B27.gw) (W308 B27.gw) (W310 B27.gw) (fun vm0 hZ => notFace_of_selects (args := #[]) (mvT hZ (W310 B27.gw))) (W309 B27.gw) (W290 B27.gw) (W311 B27.gw) (by decide) sb_exa (W_ap W a14 a18 dt dpre ds _ _ (List.mem_cons_of_mem _ md) (by show 6 + ds.length ≤ 15; omega)) (argsL := [(.ref dt)]) (rest := [(.ref r)]) rfl pd46 rfl rfl rfl (W := 1) rfl (cs' := 43) (ss' := 465) (by decide) (Kv1 fun T28 B30 => ?_)
        refine r_virtual (D' := D55_w) B30 d36_84 rfl (W351 B30.gw) (W352 B30.gw) (W354 B30.gw) (fun vm0 hZ => notFace_of_selects (args := #[]) (mvT hZ (W354 B30.gw))) (W353 B30.gw) (W290 B30.gw) (W355 B30.gw) (by decide) sb_exa (W_ts W a14 a18 (dpre ++ ds) _ _ (by rw [List.length_append]; show 6 + ds.length ≤ 14; omega)) (argsL := []) (rest := [(.ref r)]) rfl pd47 rfl rfl rfl (W := 1) rfl (cs' := 45) (ss' := 485) (by decide) fun T31 v32 B33 => ?_
        replace B33 := Rn.ex B33
        obtain ⟨w', B33⟩ := B33
        replace B33 := Rn.ex B33
        obtain ⟨wb', B33⟩ := B33
        replace B33 := Rn.and B33
        obtain ⟨rfl, B33⟩ := B33
        replace B33 := Rn.lsub (Lt' := (w', wb', 0, (dpre ++ ds).map Value.int) :: Lt) B33 (List.forall_mem_cons.2 ⟨List.mem_cons_self .., fun y hy => List.mem_cons_of_mem _ (tl1 y hy)⟩)
        show Fn g D36_w M _ (T31.setTop (mkF M.m 87 #[.val (.ref ev), .val (.ref dt), .val (.ref r), .val (.int 0), .val (.ref it), .val (.ref x)] [(.ref w'), (.ref r)]))
        have B34 : RH g D36_w M T31 (AL g r rb G ++ (oLI it (.ref (ilA g c A)) (.int (Int32.ofNat A.length)) (.int 4) (.int 0) :: (IL g c d A ++ H))) ((w', wb', 0, (dpre ++ ds).map Value.int) :: Lt) 45 485 := B33.perm (pm2 [oLI it (.ref (ilA g c A)) (.int (Int32.ofNat A.length)) (.int 4) (.int 0)] (IL g c d A) (AL g r rb G))
        refine r_iface (D' := D15_w) B34 d36_87 rfl (W390 B34.gw) (W391 B34.gw) (W392 B34.gw) (by first | rfl | decide) (W393 B34.gw) (W75 B34.gw) (W394 B34.gw) (W395 B34.gw) (W396 B34.gw) (W51 B34.gw) (W77 B34.gw) (by decide) (al_exa G) (W_add W r rb w' G (by omega) _ _ ⟨_, _, _, (List.mem_of_getElem? (i := 0) rfl)⟩) (argsL := [(.ref w')]) (rest := []) rfl pd29 rfl rfl rfl (W := 0) rfl (cs' := 46) (ss' := 495) (by decide) (Kex fun b38 => Kv1 fun T35 B37 => ?_)
        refine p_pop B37 d36_92 rfl rfl ?_
        refine p_iconst B37 d36_93 rfl (v := (1 : Int32)) (by decide) ?_
        refine p_istoreN B37 d36_94 rfl (Ls' := #[.val (.ref ev), .val (.ref dt), .val (.ref r), .val (.int 1), .val (.ref it), .val (.ref x)]) rfl ?_
        refine b_goto B37 d36_95 (pc' := 21) (by decide) (by decide) ?_
        have B39 : RH g D36_w M T35 (IL g c d A ++ (AL g r b38 (G ++ [w']) ++ (oLI it (.ref (ilA g c A)) (.int (Int32.ofNat A.length)) (.int 4) (.int 0) :: H))) ((w', wb', 0, (dpre ++ ds).map Value.int) :: Lt) 46 495 := B37.perm (pm2 (AL g r b38 (G ++ [w'])) [oLI it (.ref (ilA g c A)) (.int (Int32.ofNat A.length)) (.int 4) (.int 0)] (IL g c d A))
        have B40 : RH g D36_w M T35 (oLI it (.ref (ilA g c A)) (.int (Int32.ofNat A.length)) (.int 4) (.int 0) :: (IL g c d A ++ (AL g r b38 (G ++ [w']) ++ H))) ((w', wb', 0, (dpre ++ ds).map Value.int) :: Lt) 46 495 := B39.perm (pm2 (IL g c d A) (AL g r b38 (G ++ [w'])) [oLI it (.ref (ilA g c A)) (.int (Int32.ofNat A.length)) (.int 4) (.int 0)])
        exact lp_4 W ev dt it r c d w A hds hn (hs0 := (fun y hy => (hs0 y hy).mono (fun y hy => List.mem_cons_of_mem _ hy))) R (E ++ [w]) (G ++ [w']) true 1 b38 _ _ (T := T35) (Or.inr ⟨_, rfl, rfl⟩) (List.mem_cons_of_mem _ md) (List.mem_cons_of_mem _ mw) (fun y hy => (hR' y hy).mono (fun y hy => List.mem_cons_of_mem _ hy)) (EqL.snoc ⟨_, _, _, List.mem_cons_self .., List.mem_cons_of_mem _ mw, by simp only [dpre, List.length_append, List.length_cons, List.length_nil]; omega⟩ (EqL.mono (fun y hy => List.mem_cons_of_mem _ hy) hG)) (Or.inr ⟨rfl, rfl⟩) hd' (by omega) (by simp only [List.length_append, List.length_cons, List.length_nil]; omega) (B40)
      · refine b_ifT B11 d36_64 (pc' := 95) (show ¬ (1 : Int32) = (0 : Int32) from by decide) (by decide) (by decide) ?_
        refine b_goto B11 d36_95 (pc' := 21) (by decide) (by decide) ?_
        exact lp_4 W ev dt it r c d w A hds hn (hs0 := hs0) R E G true 1 rb _ Lt (T := T9) (Or.inr ⟨_, rfl, rfl⟩) md mw hR' hG (Or.inr ⟨rfl, rfl⟩) hd' (by omega) (by omega) (B11.mono (cs' := 46) (ss' := 495) (by decide) (by decide))
    · obtain rfl : b = false := by
        cases b
        · rfl
        · exact absurd (hxd.mp rfl) hz
      refine b_ifF B11 d36_48 (pc' := 51) rfl (show (0 : Int32) = (0 : Int32) from by decide) ?_
      refine p_aloadN B11 d36_51 rfl rfl rfl ?_
      refine p_aload B11 d36_52 rfl rfl rfl ?_
      have B41 : RH g D36_w M T9 (AL g r rb G ++ (oLI it (.ref (ilA g c A)) (.int (Int32.ofNat A.length)) (.int 4) (.int 0) :: (IL g c d A ++ H))) (Lt) 39 417 := B11.perm (pm2 [oLI it (.ref (ilA g c A)) (.int (Int32.ofNat A.length)) (.int 4) (.int 0)] (IL g c d A) (AL g r rb G))
      refine r_iface (D' := D15_w) B41 d36_54 rfl (W390 B41.gw) (W391 B41.gw) (W392 B41.gw) (by first | rfl | decide) (W393 B41.gw) (W75 B41.gw) (W394 B41.gw) (W395 B41.gw) (W396 B41.gw) (W51 B41.gw) (W77 B41.gw) (by decide) (al_exa G) (W_add W r rb x G (by omega) _ _ ⟨_, _, _, mx⟩) (argsL := [(.ref x)]) (rest := []) rfl pd29 rfl rfl rfl (W := 0) rfl (cs' := 40) (ss' := 427) (by decide) (Kex fun b45 => Kv1 fun T42 B44 => ?_)
      refine p_pop B44 d36_59 rfl rfl ?_
      refine b_goto B44 d36_60 (pc' := 95) (by decide) (by decide) ?_
      refine b_goto B44 d36_95 (pc' := 21) (by decide) (by decide) ?_
      have B46 : RH g D36_w M T42 (IL g c d A ++ (AL g r b45 (G ++ [x]) ++ (oLI it (.ref (ilA g c A)) (.int (Int32.ofNat A.length)) (.int 4) (.int 0) :: H))) (Lt) 40 427 := B44.perm (pm2 (AL g r b45 (G ++ [x])) [oLI it (.ref (ilA g c A)) (.int (Int32.ofNat A.length)) (.int 4) (.int 0)] (IL g c d A))
      have B47 : RH g D36_w M T42 (oLI it (.ref (ilA g c A)) (.int (Int32.ofNat A.length)) (.int 4) (.int 0) :: (IL g c d A ++ (AL g r b45 (G ++ [x]) ++ H))) (Lt) 40 427 := B46.perm (pm2 (IL g c d A) (AL g r b45 (G ++ [x])) [oLI it (.ref (ilA g c A)) (.int (Int32.ofNat A.length)) (.int 4) (.int 0)])
      exact lp_4 W ev dt it r c d w A hds hn (hs0 := hs0) R (E ++ [x]) (G ++ [x]) s z b45 _ Lt (T := T42) (Or.inr ⟨_, rfl, rfl⟩) md mw hR' (EqL.snoc ⟨_, _, _, mx, mx, hxl⟩ hG) hs hd' (by omega) (by simp only [List.length_append, List.length_cons, List.length_nil]; omega) (B47.mono (cs' := 46) (ss' := 495) (by decide) (by decide))
theorem lp_2 {g : GG} (W : GW g) {M : MM} {H : List Ent} (ev dt it r c d w : Addr) (A : List Addr) {dtb wb : Addr} {ds : List Int32} (hds : ds.length ≤ 1) (hn : A.length ≤ 4) : ∀ (R : List (Addr × Bool)) (E G : List Addr) (s : Bool) (z : Int32) (rb : Addr) (o5 : Slot) (Lt : List SE) {T : State} (hs0 : ∀ y ∈ A, StrIn Lt y), (o5 = .unset ∨ ∃ w, o5 = .val w ∧ w.category = 1) → (dt, dtb, 0, ds.map Value.int) ∈ Lt → (w, wb, 0, (dpre ++ ds).map Value.int) ∈ Lt → (∀ x ∈ R, Ln Lt x) → EqL Lt G E → (z = 0 ∧ s = false ∨ z = 1 ∧ s = true) → A.drop 2 = R.map Prod.fst → 2 ≤ A.length → G.length ≤ 2 → RH g D36_w M T (oLI it (.ref (ilA g c A)) (.int (Int32.ofNat A.length)) (.int (2 : Int32)) (.int (0 : Int32)) :: (IL g c d A ++ (AL g r rb G ++ H))) Lt 24 251 →
    Fn g D36_w M (fun v vm h => ∃ (ev' c' d' : Addr) (G' : List Addr) (Lt' : List SE), v = some (.ref ev') ∧ (EqL Lt' G' ((R : List (Addr × Bool)).foldl (stp w) (E, s)).1 ∧ G'.length ≤ 4) ∧ Hp g vm h (oEV ev' (.ref (ilA g c' G')) :: (IL g c' d' G' ++ H)) Lt') (T.setTop (mkF M.m 21 #[.val (.ref ev), .val (.ref dt), .val (.ref r), .val (.int z), .val (.ref it), o5] [])) := by
  intro R
  cases R with
  | nil =>
    intro E G s z rb o5 Lt T hs0 ho md mw hR hG hs hd hi hg B
    have hA : A.length = 2 := (by have q := congrArg List.length hd; simp only [List.length_drop, List.length_map, List.length_cons, List.length_nil] at q; omega)
    refine p_aload B d36_21 rfl rfl rfl ?_
    refine r_iface (D' := D40_w) B d36_23 rfl (W248 B.gw) (W249 B.gw) (W250 B.gw) (by first | rfl | decide) (W251 B.gw) (W252 B.gw) (W253 B.gw) (W254 B.gw) (W255 B.gw) (W228 B.gw) (W256 B.gw) (by decide) (fE (i := 0) rfl) (c_hn0 W it (ilA g c A) (Int32.ofNat A.length) (2 : Int32) _ _ (by rw [hA]; rfl)) (argsL := []) (rest := []) rfl pd14 rfl rfl rfl (W := 0) rfl (cs' := 24) (ss' := 251) (by decide) (Kv1 fun T1 B3 => ?_)
    refine b_ifT B3 d36_28 (pc' := 98) (show (0 : Int32) = (0 : Int32) from by decide) (by decide) (by decide) ?_
    refine r_new B3 d36_98 rfl (W397 B3.gw) (W111 B3.gw) (W112 B3.gw) (Ly_oEV B3.gw) (by decide) (cs' := 25) rfl (ss' := 252) rfl (by decide) (by decide) fun T4 a6 B5 => ?_
    refine p_dup B5 d36_101 rfl rfl ?_
    refine p_aloadN B5 d36_102 rfl rfl rfl ?_
    have B7 : RH g D36_w M T4 (AL g r rb G ++ (oEV a6 .null :: (oLI it (.ref (ilA g c A)) (.int (Int32.ofNat A.length)) (.int 2) (.int 0) :: (IL g c d A ++ H)))) (Lt) 25 252 := B5.perm (pm3 [oEV a6 .null] [oLI it (.ref (ilA g c A)) (.int (Int32.ofNat A.length)) (.int 2) (.int 0)] (IL g c d A) (AL g r rb G))
    have B8 : RH g D36_w M T4 (oEV a6 .null :: (AL g r rb G ++ (oLI it (.ref (ilA g c A)) (.int (Int32.ofNat A.length)) (.int 2) (.int 0) :: (IL g c d A ++ H)))) (Lt) 25 252 := B7.perm (pm1 (AL g r rb G) [oEV a6 .null])
    refine r_special (D' := D22_w) B8 d36_103 rfl rfl rfl (W398 B8.gw) (W114 B8.gw) (W112 B8.gw) (W115 B8.gw) (by decide) (W_ei W a6 r rb G (by omega) _ _ hG.str) (a := a6) (argsL := [(.ref r)]) (rest := [(.ref a6)]) rfl pd44 rfl rfl rfl (W := 1) rfl (cs' := 28) (ss' := 262) (by decide) (Kex fun c' => Kex fun d' => Kv0 fun T9 B11 => ?_)
    exact r_reta B11 d36_106 rfl rfl rfl (by decide) (by decide) (fun vm h P => ⟨a6, c', d', G, _, rfl, ⟨hG, by omega⟩, P.sub sub_ev⟩)
  | cons p R =>
    intro E G s z rb o5 Lt T hs0 ho md mw hR hG hs hd hi hg B
    obtain ⟨x, b⟩ := p
    have hA : 2 < A.length := (by have q := congrArg List.length hd; simp only [List.length_drop, List.length_map, List.length_cons, List.length_nil] at q; omega)
    obtain ⟨hxA, hd'⟩ := drop_c (show A.drop 2 = x :: R.map Prod.fst from hd)
    obtain ⟨xb, xu, mx, hxl, hxd⟩ := hR (x, b) (List.mem_cons_self ..)
    have hR' : ∀ y ∈ R, Ln Lt y := fun y hy => hR y (List.mem_cons_of_mem _ hy)
    refine p_aload B d36_21 rfl rfl rfl ?_
    refine r_iface (D' := D40_w) B d36_23 rfl (W248 B.gw) (W249 B.gw) (W250 B.gw) (by first | rfl | decide) (W251 B.gw) (W252 B.gw) (W253 B.gw) (W254 B.gw) (W255 B.gw) (W228 B.gw) (W256 B.gw) (by decide) (fE (i := 0) rfl) (c_hn1 W it (ilA g c A) (Int32.ofNat A.length) (2 : Int32) _ _ (fun q => by have q' := injN (n := 2) (k := A.length) (by omega) (by omega) q; omega)) (argsL := []) (rest := []) rfl pd14 rfl rfl rfl (W := 0) rfl (cs' := 24) (ss' := 251) (by decide) (Kv1 fun T1 B3 => ?_)
    refine b_ifF B3 d36_28 (pc' := 31) rfl (show ¬ (1 : Int32) = (0 : Int32) from by decide) ?_
    refine p_aload B3 d36_31 rfl rfl rfl ?_
    refine r_ifaceH (D' := D81_w) B3 d36_33 rfl (W257 B3.gw) (W258 B3.gw) (W259 B3.gw) (by first | rfl | decide) (W260 B3.gw) (W261 B3.gw) (W262 B3.gw) (W263 B3.gw) (W255 B3.gw) (W228 B3.gw) (W264 B3.gw) (by decide) (fE (i := 0) rfl) (W_nx2 W it c d x (Int32.ofNat A.length) A hn hxA _ _ hs0) (argsL := []) (rest := []) rfl pd45 rfl rfl rfl (W := 0) rfl (cs' := 24) (ss' := 251) (by decide) (Kv1 fun T4 B6 => ?_)
    refine r_cast B6 d36_38 rfl (W273 B6.gw) (fun vm h E P => Ins.self ((sE mx) vm h E P)) fun T7 B8 => ?_
    refine p_astore B8 d36_41 rfl rfl (Ls' := #[.val (.ref ev), .val (.ref dt), .val (.ref r), .val (.int z), .val (.ref it), .val (.ref x)]) (XS.store1 (o := o5) rfl ho rfl) ?_
    refine p_aload B8 d36_43 rfl rfl rfl ?_
    refine r_static (D' := D42_w) B8 d36_45 rfl (W274 B8.gw) (W275 B8.gw) (W112 B8.gw) (W276 B8.gw) (by decide) (k_isd W mx hxl) (argsL := [(.ref x)]) (rest := []) rfl pd30 rfl rfl rfl (W := 0) rfl (cs' := 28) (ss' := 295) (by decide) (Kex fun zd => Kv1 fun T9 B11 => ?_)
    replace B11 := Rn.and B11
    obtain ⟨hz, B11⟩ := B11
    rcases hz with ⟨rfl, hz⟩ | ⟨rfl, hz⟩
    · obtain rfl : b = true := hxd.mpr hz
      refine b_ifT B11 d36_48 (pc' := 63) (show ¬ (1 : Int32) = (0 : Int32) from by decide) (by decide) (by decide) ?_
      refine p_iloadN B11 d36_63 rfl rfl ?_
      rcases hs with ⟨rfl, rfl⟩ | ⟨rfl, rfl⟩
      · refine b_ifF B11 d36_64 (pc' := 67) rfl (show (0 : Int32) = (0 : Int32) from by decide) ?_
        refine p_aloadN B11 d36_67 rfl rfl rfl ?_
        refine r_new B11 d36_68 rfl (W288 B11.gw) (W289 B11.gw) (W290 B11.gw) (Ly_oSB B11.gw) (by decide) (cs' := 29) rfl (ss' := 299) rfl (by decide) (by decide) fun T12 a14 B13 => ?_
        refine p_dup B13 d36_71 rfl rfl ?_
        refine r_special (D' := D45_q122) B13 d36_72 rfl rfl rfl (W291 B13.gw) (W292 B13.gw) (W290 B13.gw) (W293 B13.gw) (by decide) (k_q122 W a14 _ _) (a := a14) (argsL := []) (rest := [(.ref a14), (.ref r)]) rfl pd9 rfl rfl rfl (W := 2) rfl (cs' := 30) (ss' := 315) (by decide) (Kex fun a18 => Kv0 fun T15 B17 => ?_)
        refine r_ldc B17 d36_75 rfl (W306 B17.gw) (strW B17.gw) (inEL B17.gw (by decide)) (bs := [(.int 100), (.int 97), (.int 116), (.int 97), (.int 58), (.int 32)]) ⟨by decide, by decide⟩ (z := (6 : Int32)) (by decide) (by decide) (n := 24) (by decide) (by decide) (cs' := 32) rfl (ss' := 343) rfl (by decide) (by decide) fun T19 a21 b22 B20 => ?_
        have B23 := (B20.fr 1 rfl)
        refine r_virtual (D' := D47_w) B23 d36_77 rfl (W307 B23.gw) (W308 B23.gw) (W310 B23.gw) (fun vm0 hZ => notFace_of_selects (args := #[]) (mvT hZ (W310 B23.gw))) (W309 B23.gw) (W290 B23.gw) (W311 B23.gw) (by decide) (fE (i := 0) rfl) (W_ap W a14 a18 a21 [] dpre _ _ (List.mem_of_getElem? (i := 0) rfl) (by decide)) (argsL := [(.ref a21)]) (rest := [(.ref r)]) rfl pd46 rfl rfl rfl (W := 1) rfl (cs' := 32) (ss' := 343) (by decide) (Kv1 fun T24 B26 => ?_)
        have B27 : RH g D36_w M T24 (SBo a14 a18 dpre ++ (oLI it (.ref (ilA g c A)) (.int (Int32.ofNat A.length)) (.int 3) (.int 0) :: (IL g c d A ++ (AL g r rb G ++ H)))) ((a21, b22, 0, [(.int 100), (.int 97), (.int 116), (.int 97), (.int 58), (.int 32)]) :: Lt) 32 343 := B26
        refine p_aloadN B27 d36_80 rfl rfl rfl ?_
        refine r_virtual (D' := D47_w) B27 d36_81 rfl (W307 B27.gw) (W308 B27.gw) (W310 B27.gw) (fun vm0 hZ => notFace_of_selects (args := #[]) (mvT hZ (W310 B27.gw))) (W309 B27.gw) (W290 B27.gw) (W311 B27.gw) (by decide) sb_exa (W_ap W a14 a18 dt dpre ds _ _ (List.mem_cons_of_mem _ md) (by show 6 + ds.length ≤ 15; omega)) (argsL := [(.ref dt)]) (rest := [(.ref r)]) rfl pd46 rfl rfl rfl (W := 1) rfl (cs' := 32) (ss' := 343) (by decide) (Kv1 fun T28 B30 => ?_)
        refine r_virtual (D' := D55_w) B30 d36_84 rfl (W351 B30.gw) (W352 B30.gw) (W354 B30.gw) (fun vm0 hZ => notFace_of_selects (args := #[]) (mvT hZ (W354 B30.gw))) (W353 B30.gw) (W290 B30.gw) (W355 B30.gw) (by decide) sb_exa (W_ts W a14 a18 (dpre ++ ds) _ _ (by rw [List.length_append]; show 6 + ds.length ≤ 14; omega)) (argsL := []) (rest := [(.ref r)]) rfl pd47 rfl rfl rfl (W := 1) rfl (cs' := 34) (ss' := 363) (by decide) fun T31 v32 B33 => ?_
        replace B33 := Rn.ex B33
        obtain ⟨w', B33⟩ := B33
        replace B33 := Rn.ex B33
        obtain ⟨wb', B33⟩ := B33
        replace B33 := Rn.and B33
        obtain ⟨rfl, B33⟩ := B33
        replace B33 := Rn.lsub (Lt' := (w', wb', 0, (dpre ++ ds).map Value.int) :: Lt) B33 (List.forall_mem_cons.2 ⟨List.mem_cons_self .., fun y hy => List.mem_cons_of_mem _ (tl1 y hy)⟩)
        show Fn g D36_w M _ (T31.setTop (mkF M.m 87 #[.val (.ref ev), .val (.ref dt), .val (.ref r), .val (.int 0), .val (.ref it), .val (.ref x)] [(.ref w'), (.ref r)]))
        have B34 : RH g D36_w M T31 (AL g r rb G ++ (oLI it (.ref (ilA g c A)) (.int (Int32.ofNat A.length)) (.int 3) (.int 0) :: (IL g c d A ++ H))) ((w', wb', 0, (dpre ++ ds).map Value.int) :: Lt) 34 363 := B33.perm (pm2 [oLI it (.ref (ilA g c A)) (.int (Int32.ofNat A.length)) (.int 3) (.int 0)] (IL g c d A) (AL g r rb G))
        refine r_iface (D' := D15_w) B34 d36_87 rfl (W390 B34.gw) (W391 B34.gw) (W392 B34.gw) (by first | rfl | decide) (W393 B34.gw) (W75 B34.gw) (W394 B34.gw) (W395 B34.gw) (W396 B34.gw) (W51 B34.gw) (W77 B34.gw) (by decide) (al_exa G) (W_add W r rb w' G (by omega) _ _ ⟨_, _, _, (List.mem_of_getElem? (i := 0) rfl)⟩) (argsL := [(.ref w')]) (rest := []) rfl pd29 rfl rfl rfl (W := 0) rfl (cs' := 35) (ss' := 373) (by decide) (Kex fun b38 => Kv1 fun T35 B37 => ?_)
        refine p_pop B37 d36_92 rfl rfl ?_
        refine p_iconst B37 d36_93 rfl (v := (1 : Int32)) (by decide) ?_
        refine p_istoreN B37 d36_94 rfl (Ls' := #[.val (.ref ev), .val (.ref dt), .val (.ref r), .val (.int 1), .val (.ref it), .val (.ref x)]) rfl ?_
        refine b_goto B37 d36_95 (pc' := 21) (by decide) (by decide) ?_
        have B39 : RH g D36_w M T35 (IL g c d A ++ (AL g r b38 (G ++ [w']) ++ (oLI it (.ref (ilA g c A)) (.int (Int32.ofNat A.length)) (.int 3) (.int 0) :: H))) ((w', wb', 0, (dpre ++ ds).map Value.int) :: Lt) 35 373 := B37.perm (pm2 (AL g r b38 (G ++ [w'])) [oLI it (.ref (ilA g c A)) (.int (Int32.ofNat A.length)) (.int 3) (.int 0)] (IL g c d A))
        have B40 : RH g D36_w M T35 (oLI it (.ref (ilA g c A)) (.int (Int32.ofNat A.length)) (.int 3) (.int 0) :: (IL g c d A ++ (AL g r b38 (G ++ [w']) ++ H))) ((w', wb', 0, (dpre ++ ds).map Value.int) :: Lt) 35 373 := B39.perm (pm2 (IL g c d A) (AL g r b38 (G ++ [w'])) [oLI it (.ref (ilA g c A)) (.int (Int32.ofNat A.length)) (.int 3) (.int 0)])
        exact lp_3 W ev dt it r c d w A hds hn (hs0 := (fun y hy => (hs0 y hy).mono (fun y hy => List.mem_cons_of_mem _ hy))) R (E ++ [w]) (G ++ [w']) true 1 b38 _ _ (T := T35) (Or.inr ⟨_, rfl, rfl⟩) (List.mem_cons_of_mem _ md) (List.mem_cons_of_mem _ mw) (fun y hy => (hR' y hy).mono (fun y hy => List.mem_cons_of_mem _ hy)) (EqL.snoc ⟨_, _, _, List.mem_cons_self .., List.mem_cons_of_mem _ mw, by simp only [dpre, List.length_append, List.length_cons, List.length_nil]; omega⟩ (EqL.mono (fun y hy => List.mem_cons_of_mem _ hy) hG)) (Or.inr ⟨rfl, rfl⟩) hd' (by omega) (by simp only [List.length_append, List.length_cons, List.length_nil]; omega) (B40)
      · refine b_ifT B11 d36_64 (pc' := 95) (show ¬ (1 : Int32) = (0 : Int32) from by decide) (by decide) (by decide) ?_
        refine b_goto B11 d36_95 (pc' := 21) (by decide) (by decide) ?_
        exact lp_3 W ev dt it r c d w A hds hn (hs0 := hs0) R E G true 1 rb _ Lt (T := T9) (Or.inr ⟨_, rfl, rfl⟩) md mw hR' hG (Or.inr ⟨rfl, rfl⟩) hd' (by omega) (by omega) (B11.mono (cs' := 35) (ss' := 373) (by decide) (by decide))
    · obtain rfl : b = false := by
        cases b
        · rfl
        · exact absurd (hxd.mp rfl) hz
      refine b_ifF B11 d36_48 (pc' := 51) rfl (show (0 : Int32) = (0 : Int32) from by decide) ?_
      refine p_aloadN B11 d36_51 rfl rfl rfl ?_
      refine p_aload B11 d36_52 rfl rfl rfl ?_
      have B41 : RH g D36_w M T9 (AL g r rb G ++ (oLI it (.ref (ilA g c A)) (.int (Int32.ofNat A.length)) (.int 3) (.int 0) :: (IL g c d A ++ H))) (Lt) 28 295 := B11.perm (pm2 [oLI it (.ref (ilA g c A)) (.int (Int32.ofNat A.length)) (.int 3) (.int 0)] (IL g c d A) (AL g r rb G))
      refine r_iface (D' := D15_w) B41 d36_54 rfl (W390 B41.gw) (W391 B41.gw) (W392 B41.gw) (by first | rfl | decide) (W393 B41.gw) (W75 B41.gw) (W394 B41.gw) (W395 B41.gw) (W396 B41.gw) (W51 B41.gw) (W77 B41.gw) (by decide) (al_exa G) (W_add W r rb x G (by omega) _ _ ⟨_, _, _, mx⟩) (argsL := [(.ref x)]) (rest := []) rfl pd29 rfl rfl rfl (W := 0) rfl (cs' := 29) (ss' := 305) (by decide) (Kex fun b45 => Kv1 fun T42 B44 => ?_)
      refine p_pop B44 d36_59 rfl rfl ?_
      refine b_goto B44 d36_60 (pc' := 95) (by decide) (by decide) ?_
      refine b_goto B44 d36_95 (pc' := 21) (by decide) (by decide) ?_
      have B46 : RH g D36_w M T42 (IL g c d A ++ (AL g r b45 (G ++ [x]) ++ (oLI it (.ref (ilA g c A)) (.int (Int32.ofNat A.length)) (.int 3) (.int 0) :: H))) (Lt) 29 305 := B44.perm (pm2 (AL g r b45 (G ++ [x])) [oLI it (.ref (ilA g c A)) (.int (Int32.ofNat A.length)) (.int 3) (.int 0)] (IL g c d A))
      have B47 : RH g D36_w M T42 (oLI it (.ref (ilA g c A)) (.int (Int32.ofNat A.length)) (.int 3) (.int 0) :: (IL g c d A ++ (AL g r b45 (G ++ [x]) ++ H))) (Lt) 29 305 := B46.perm (pm2 (IL g c d A) (AL g r b45 (G ++ [x])) [oLI it (.ref (ilA g c A)) (.int (Int32.ofNat A.length)) (.int 3) (.int 0)])
      exact lp_3 W ev dt it r c d w A hds hn (hs0 := hs0) R (E ++ [x]) (G ++ [x]) s z b45 _ Lt (T := T42) (Or.inr ⟨_, rfl, rfl⟩) md mw hR' (EqL.snoc ⟨_, _, _, mx, mx, hxl⟩ hG) hs hd' (by omega) (by simp only [List.length_append, List.length_cons, List.length_nil]; omega) (B47.mono (cs' := 35) (ss' := 373) (by decide) (by decide))
theorem lp_1 {g : GG} (W : GW g) {M : MM} {H : List Ent} (ev dt it r c d w : Addr) (A : List Addr) {dtb wb : Addr} {ds : List Int32} (hds : ds.length ≤ 1) (hn : A.length ≤ 4) : ∀ (R : List (Addr × Bool)) (E G : List Addr) (s : Bool) (z : Int32) (rb : Addr) (o5 : Slot) (Lt : List SE) {T : State} (hs0 : ∀ y ∈ A, StrIn Lt y), (o5 = .unset ∨ ∃ w, o5 = .val w ∧ w.category = 1) → (dt, dtb, 0, ds.map Value.int) ∈ Lt → (w, wb, 0, (dpre ++ ds).map Value.int) ∈ Lt → (∀ x ∈ R, Ln Lt x) → EqL Lt G E → (z = 0 ∧ s = false ∨ z = 1 ∧ s = true) → A.drop 1 = R.map Prod.fst → 1 ≤ A.length → G.length ≤ 1 → RH g D36_w M T (oLI it (.ref (ilA g c A)) (.int (Int32.ofNat A.length)) (.int (1 : Int32)) (.int (0 : Int32)) :: (IL g c d A ++ (AL g r rb G ++ H))) Lt 13 129 →
    Fn g D36_w M (fun v vm h => ∃ (ev' c' d' : Addr) (G' : List Addr) (Lt' : List SE), v = some (.ref ev') ∧ (EqL Lt' G' ((R : List (Addr × Bool)).foldl (stp w) (E, s)).1 ∧ G'.length ≤ 4) ∧ Hp g vm h (oEV ev' (.ref (ilA g c' G')) :: (IL g c' d' G' ++ H)) Lt') (T.setTop (mkF M.m 21 #[.val (.ref ev), .val (.ref dt), .val (.ref r), .val (.int z), .val (.ref it), o5] [])) := by
  intro R
  cases R with
  | nil =>
    intro E G s z rb o5 Lt T hs0 ho md mw hR hG hs hd hi hg B
    have hA : A.length = 1 := (by have q := congrArg List.length hd; simp only [List.length_drop, List.length_map, List.length_cons, List.length_nil] at q; omega)
    refine p_aload B d36_21 rfl rfl rfl ?_
    refine r_iface (D' := D40_w) B d36_23 rfl (W248 B.gw) (W249 B.gw) (W250 B.gw) (by first | rfl | decide) (W251 B.gw) (W252 B.gw) (W253 B.gw) (W254 B.gw) (W255 B.gw) (W228 B.gw) (W256 B.gw) (by decide) (fE (i := 0) rfl) (c_hn0 W it (ilA g c A) (Int32.ofNat A.length) (1 : Int32) _ _ (by rw [hA]; rfl)) (argsL := []) (rest := []) rfl pd14 rfl rfl rfl (W := 0) rfl (cs' := 13) (ss' := 129) (by decide) (Kv1 fun T1 B3 => ?_)
    refine b_ifT B3 d36_28 (pc' := 98) (show (0 : Int32) = (0 : Int32) from by decide) (by decide) (by decide) ?_
    refine r_new B3 d36_98 rfl (W397 B3.gw) (W111 B3.gw) (W112 B3.gw) (Ly_oEV B3.gw) (by decide) (cs' := 14) rfl (ss' := 130) rfl (by decide) (by decide) fun T4 a6 B5 => ?_
    refine p_dup B5 d36_101 rfl rfl ?_
    refine p_aloadN B5 d36_102 rfl rfl rfl ?_
    have B7 : RH g D36_w M T4 (AL g r rb G ++ (oEV a6 .null :: (oLI it (.ref (ilA g c A)) (.int (Int32.ofNat A.length)) (.int 1) (.int 0) :: (IL g c d A ++ H)))) (Lt) 14 130 := B5.perm (pm3 [oEV a6 .null] [oLI it (.ref (ilA g c A)) (.int (Int32.ofNat A.length)) (.int 1) (.int 0)] (IL g c d A) (AL g r rb G))
    have B8 : RH g D36_w M T4 (oEV a6 .null :: (AL g r rb G ++ (oLI it (.ref (ilA g c A)) (.int (Int32.ofNat A.length)) (.int 1) (.int 0) :: (IL g c d A ++ H)))) (Lt) 14 130 := B7.perm (pm1 (AL g r rb G) [oEV a6 .null])
    refine r_special (D' := D22_w) B8 d36_103 rfl rfl rfl (W398 B8.gw) (W114 B8.gw) (W112 B8.gw) (W115 B8.gw) (by decide) (W_ei W a6 r rb G (by omega) _ _ hG.str) (a := a6) (argsL := [(.ref r)]) (rest := [(.ref a6)]) rfl pd44 rfl rfl rfl (W := 1) rfl (cs' := 17) (ss' := 140) (by decide) (Kex fun c' => Kex fun d' => Kv0 fun T9 B11 => ?_)
    exact r_reta B11 d36_106 rfl rfl rfl (by decide) (by decide) (fun vm h P => ⟨a6, c', d', G, _, rfl, ⟨hG, by omega⟩, P.sub sub_ev⟩)
  | cons p R =>
    intro E G s z rb o5 Lt T hs0 ho md mw hR hG hs hd hi hg B
    obtain ⟨x, b⟩ := p
    have hA : 1 < A.length := (by have q := congrArg List.length hd; simp only [List.length_drop, List.length_map, List.length_cons, List.length_nil] at q; omega)
    obtain ⟨hxA, hd'⟩ := drop_c (show A.drop 1 = x :: R.map Prod.fst from hd)
    obtain ⟨xb, xu, mx, hxl, hxd⟩ := hR (x, b) (List.mem_cons_self ..)
    have hR' : ∀ y ∈ R, Ln Lt y := fun y hy => hR y (List.mem_cons_of_mem _ hy)
    refine p_aload B d36_21 rfl rfl rfl ?_
    refine r_iface (D' := D40_w) B d36_23 rfl (W248 B.gw) (W249 B.gw) (W250 B.gw) (by first | rfl | decide) (W251 B.gw) (W252 B.gw) (W253 B.gw) (W254 B.gw) (W255 B.gw) (W228 B.gw) (W256 B.gw) (by decide) (fE (i := 0) rfl) (c_hn1 W it (ilA g c A) (Int32.ofNat A.length) (1 : Int32) _ _ (fun q => by have q' := injN (n := 1) (k := A.length) (by omega) (by omega) q; omega)) (argsL := []) (rest := []) rfl pd14 rfl rfl rfl (W := 0) rfl (cs' := 13) (ss' := 129) (by decide) (Kv1 fun T1 B3 => ?_)
    refine b_ifF B3 d36_28 (pc' := 31) rfl (show ¬ (1 : Int32) = (0 : Int32) from by decide) ?_
    refine p_aload B3 d36_31 rfl rfl rfl ?_
    refine r_ifaceH (D' := D81_w) B3 d36_33 rfl (W257 B3.gw) (W258 B3.gw) (W259 B3.gw) (by first | rfl | decide) (W260 B3.gw) (W261 B3.gw) (W262 B3.gw) (W263 B3.gw) (W255 B3.gw) (W228 B3.gw) (W264 B3.gw) (by decide) (fE (i := 0) rfl) (W_nx1 W it c d x (Int32.ofNat A.length) A hn hxA _ _ hs0) (argsL := []) (rest := []) rfl pd45 rfl rfl rfl (W := 0) rfl (cs' := 13) (ss' := 129) (by decide) (Kv1 fun T4 B6 => ?_)
    refine r_cast B6 d36_38 rfl (W273 B6.gw) (fun vm h E P => Ins.self ((sE mx) vm h E P)) fun T7 B8 => ?_
    refine p_astore B8 d36_41 rfl rfl (Ls' := #[.val (.ref ev), .val (.ref dt), .val (.ref r), .val (.int z), .val (.ref it), .val (.ref x)]) (XS.store1 (o := o5) rfl ho rfl) ?_
    refine p_aload B8 d36_43 rfl rfl rfl ?_
    refine r_static (D' := D42_w) B8 d36_45 rfl (W274 B8.gw) (W275 B8.gw) (W112 B8.gw) (W276 B8.gw) (by decide) (k_isd W mx hxl) (argsL := [(.ref x)]) (rest := []) rfl pd30 rfl rfl rfl (W := 0) rfl (cs' := 17) (ss' := 173) (by decide) (Kex fun zd => Kv1 fun T9 B11 => ?_)
    replace B11 := Rn.and B11
    obtain ⟨hz, B11⟩ := B11
    rcases hz with ⟨rfl, hz⟩ | ⟨rfl, hz⟩
    · obtain rfl : b = true := hxd.mpr hz
      refine b_ifT B11 d36_48 (pc' := 63) (show ¬ (1 : Int32) = (0 : Int32) from by decide) (by decide) (by decide) ?_
      refine p_iloadN B11 d36_63 rfl rfl ?_
      rcases hs with ⟨rfl, rfl⟩ | ⟨rfl, rfl⟩
      · refine b_ifF B11 d36_64 (pc' := 67) rfl (show (0 : Int32) = (0 : Int32) from by decide) ?_
        refine p_aloadN B11 d36_67 rfl rfl rfl ?_
        refine r_new B11 d36_68 rfl (W288 B11.gw) (W289 B11.gw) (W290 B11.gw) (Ly_oSB B11.gw) (by decide) (cs' := 18) rfl (ss' := 177) rfl (by decide) (by decide) fun T12 a14 B13 => ?_
        refine p_dup B13 d36_71 rfl rfl ?_
        refine r_special (D' := D45_q122) B13 d36_72 rfl rfl rfl (W291 B13.gw) (W292 B13.gw) (W290 B13.gw) (W293 B13.gw) (by decide) (k_q122 W a14 _ _) (a := a14) (argsL := []) (rest := [(.ref a14), (.ref r)]) rfl pd9 rfl rfl rfl (W := 2) rfl (cs' := 19) (ss' := 193) (by decide) (Kex fun a18 => Kv0 fun T15 B17 => ?_)
        refine r_ldc B17 d36_75 rfl (W306 B17.gw) (strW B17.gw) (inEL B17.gw (by decide)) (bs := [(.int 100), (.int 97), (.int 116), (.int 97), (.int 58), (.int 32)]) ⟨by decide, by decide⟩ (z := (6 : Int32)) (by decide) (by decide) (n := 24) (by decide) (by decide) (cs' := 21) rfl (ss' := 221) rfl (by decide) (by decide) fun T19 a21 b22 B20 => ?_
        have B23 := (B20.fr 1 rfl)
        refine r_virtual (D' := D47_w) B23 d36_77 rfl (W307 B23.gw) (W308 B23.gw) (W310 B23.gw) (fun vm0 hZ => notFace_of_selects (args := #[]) (mvT hZ (W310 B23.gw))) (W309 B23.gw) (W290 B23.gw) (W311 B23.gw) (by decide) (fE (i := 0) rfl) (W_ap W a14 a18 a21 [] dpre _ _ (List.mem_of_getElem? (i := 0) rfl) (by decide)) (argsL := [(.ref a21)]) (rest := [(.ref r)]) rfl pd46 rfl rfl rfl (W := 1) rfl (cs' := 21) (ss' := 221) (by decide) (Kv1 fun T24 B26 => ?_)
        have B27 : RH g D36_w M T24 (SBo a14 a18 dpre ++ (oLI it (.ref (ilA g c A)) (.int (Int32.ofNat A.length)) (.int 2) (.int 0) :: (IL g c d A ++ (AL g r rb G ++ H)))) ((a21, b22, 0, [(.int 100), (.int 97), (.int 116), (.int 97), (.int 58), (.int 32)]) :: Lt) 21 221 := B26
        refine p_aloadN B27 d36_80 rfl rfl rfl ?_
        refine r_virtual (D' := D47_w) B27 d36_81 rfl (W307 B27.gw) (W308 B27.gw) (W310 B27.gw) (fun vm0 hZ => notFace_of_selects (args := #[]) (mvT hZ (W310 B27.gw))) (W309 B27.gw) (W290 B27.gw) (W311 B27.gw) (by decide) sb_exa (W_ap W a14 a18 dt dpre ds _ _ (List.mem_cons_of_mem _ md) (by show 6 + ds.length ≤ 15; omega)) (argsL := [(.ref dt)]) (rest := [(.ref r)]) rfl pd46 rfl rfl rfl (W := 1) rfl (cs' := 21) (ss' := 221) (by decide) (Kv1 fun T28 B30 => ?_)
        refine r_virtual (D' := D55_w) B30 d36_84 rfl (W351 B30.gw) (W352 B30.gw) (W354 B30.gw) (fun vm0 hZ => notFace_of_selects (args := #[]) (mvT hZ (W354 B30.gw))) (W353 B30.gw) (W290 B30.gw) (W355 B30.gw) (by decide) sb_exa (W_ts W a14 a18 (dpre ++ ds) _ _ (by rw [List.length_append]; show 6 + ds.length ≤ 14; omega)) (argsL := []) (rest := [(.ref r)]) rfl pd47 rfl rfl rfl (W := 1) rfl (cs' := 23) (ss' := 241) (by decide) fun T31 v32 B33 => ?_
        replace B33 := Rn.ex B33
        obtain ⟨w', B33⟩ := B33
        replace B33 := Rn.ex B33
        obtain ⟨wb', B33⟩ := B33
        replace B33 := Rn.and B33
        obtain ⟨rfl, B33⟩ := B33
        replace B33 := Rn.lsub (Lt' := (w', wb', 0, (dpre ++ ds).map Value.int) :: Lt) B33 (List.forall_mem_cons.2 ⟨List.mem_cons_self .., fun y hy => List.mem_cons_of_mem _ (tl1 y hy)⟩)
        show Fn g D36_w M _ (T31.setTop (mkF M.m 87 #[.val (.ref ev), .val (.ref dt), .val (.ref r), .val (.int 0), .val (.ref it), .val (.ref x)] [(.ref w'), (.ref r)]))
        have B34 : RH g D36_w M T31 (AL g r rb G ++ (oLI it (.ref (ilA g c A)) (.int (Int32.ofNat A.length)) (.int 2) (.int 0) :: (IL g c d A ++ H))) ((w', wb', 0, (dpre ++ ds).map Value.int) :: Lt) 23 241 := B33.perm (pm2 [oLI it (.ref (ilA g c A)) (.int (Int32.ofNat A.length)) (.int 2) (.int 0)] (IL g c d A) (AL g r rb G))
        refine r_iface (D' := D15_w) B34 d36_87 rfl (W390 B34.gw) (W391 B34.gw) (W392 B34.gw) (by first | rfl | decide) (W393 B34.gw) (W75 B34.gw) (W394 B34.gw) (W395 B34.gw) (W396 B34.gw) (W51 B34.gw) (W77 B34.gw) (by decide) (al_exa G) (W_add W r rb w' G (by omega) _ _ ⟨_, _, _, (List.mem_of_getElem? (i := 0) rfl)⟩) (argsL := [(.ref w')]) (rest := []) rfl pd29 rfl rfl rfl (W := 0) rfl (cs' := 24) (ss' := 251) (by decide) (Kex fun b38 => Kv1 fun T35 B37 => ?_)
        refine p_pop B37 d36_92 rfl rfl ?_
        refine p_iconst B37 d36_93 rfl (v := (1 : Int32)) (by decide) ?_
        refine p_istoreN B37 d36_94 rfl (Ls' := #[.val (.ref ev), .val (.ref dt), .val (.ref r), .val (.int 1), .val (.ref it), .val (.ref x)]) rfl ?_
        refine b_goto B37 d36_95 (pc' := 21) (by decide) (by decide) ?_
        have B39 : RH g D36_w M T35 (IL g c d A ++ (AL g r b38 (G ++ [w']) ++ (oLI it (.ref (ilA g c A)) (.int (Int32.ofNat A.length)) (.int 2) (.int 0) :: H))) ((w', wb', 0, (dpre ++ ds).map Value.int) :: Lt) 24 251 := B37.perm (pm2 (AL g r b38 (G ++ [w'])) [oLI it (.ref (ilA g c A)) (.int (Int32.ofNat A.length)) (.int 2) (.int 0)] (IL g c d A))
        have B40 : RH g D36_w M T35 (oLI it (.ref (ilA g c A)) (.int (Int32.ofNat A.length)) (.int 2) (.int 0) :: (IL g c d A ++ (AL g r b38 (G ++ [w']) ++ H))) ((w', wb', 0, (dpre ++ ds).map Value.int) :: Lt) 24 251 := B39.perm (pm2 (IL g c d A) (AL g r b38 (G ++ [w'])) [oLI it (.ref (ilA g c A)) (.int (Int32.ofNat A.length)) (.int 2) (.int 0)])
        exact lp_2 W ev dt it r c d w A hds hn (hs0 := (fun y hy => (hs0 y hy).mono (fun y hy => List.mem_cons_of_mem _ hy))) R (E ++ [w]) (G ++ [w']) true 1 b38 _ _ (T := T35) (Or.inr ⟨_, rfl, rfl⟩) (List.mem_cons_of_mem _ md) (List.mem_cons_of_mem _ mw) (fun y hy => (hR' y hy).mono (fun y hy => List.mem_cons_of_mem _ hy)) (EqL.snoc ⟨_, _, _, List.mem_cons_self .., List.mem_cons_of_mem _ mw, by simp only [dpre, List.length_append, List.length_cons, List.length_nil]; omega⟩ (EqL.mono (fun y hy => List.mem_cons_of_mem _ hy) hG)) (Or.inr ⟨rfl, rfl⟩) hd' (by omega) (by simp only [List.length_append, List.length_cons, List.length_nil]; omega) (B40)
      · refine b_ifT B11 d36_64 (pc' := 95) (show ¬ (1 : Int32) = (0 : Int32) from by decide) (by decide) (by decide) ?_
        refine b_goto B11 d36_95 (pc' := 21) (by decide) (by decide) ?_
        exact lp_2 W ev dt it r c d w A hds hn (hs0 := hs0) R E G true 1 rb _ Lt (T := T9) (Or.inr ⟨_, rfl, rfl⟩) md mw hR' hG (Or.inr ⟨rfl, rfl⟩) hd' (by omega) (by omega) (B11.mono (cs' := 24) (ss' := 251) (by decide) (by decide))
    · obtain rfl : b = false := by
        cases b
        · rfl
        · exact absurd (hxd.mp rfl) hz
      refine b_ifF B11 d36_48 (pc' := 51) rfl (show (0 : Int32) = (0 : Int32) from by decide) ?_
      refine p_aloadN B11 d36_51 rfl rfl rfl ?_
      refine p_aload B11 d36_52 rfl rfl rfl ?_
      have B41 : RH g D36_w M T9 (AL g r rb G ++ (oLI it (.ref (ilA g c A)) (.int (Int32.ofNat A.length)) (.int 2) (.int 0) :: (IL g c d A ++ H))) (Lt) 17 173 := B11.perm (pm2 [oLI it (.ref (ilA g c A)) (.int (Int32.ofNat A.length)) (.int 2) (.int 0)] (IL g c d A) (AL g r rb G))
      refine r_iface (D' := D15_w) B41 d36_54 rfl (W390 B41.gw) (W391 B41.gw) (W392 B41.gw) (by first | rfl | decide) (W393 B41.gw) (W75 B41.gw) (W394 B41.gw) (W395 B41.gw) (W396 B41.gw) (W51 B41.gw) (W77 B41.gw) (by decide) (al_exa G) (W_add W r rb x G (by omega) _ _ ⟨_, _, _, mx⟩) (argsL := [(.ref x)]) (rest := []) rfl pd29 rfl rfl rfl (W := 0) rfl (cs' := 18) (ss' := 183) (by decide) (Kex fun b45 => Kv1 fun T42 B44 => ?_)
      refine p_pop B44 d36_59 rfl rfl ?_
      refine b_goto B44 d36_60 (pc' := 95) (by decide) (by decide) ?_
      refine b_goto B44 d36_95 (pc' := 21) (by decide) (by decide) ?_
      have B46 : RH g D36_w M T42 (IL g c d A ++ (AL g r b45 (G ++ [x]) ++ (oLI it (.ref (ilA g c A)) (.int (Int32.ofNat A.length)) (.int 2) (.int 0) :: H))) (Lt) 18 183 := B44.perm (pm2 (AL g r b45 (G ++ [x])) [oLI it (.ref (ilA g c A)) (.int (Int32.ofNat A.length)) (.int 2) (.int 0)] (IL g c d A))
      have B47 : RH g D36_w M T42 (oLI it (.ref (ilA g c A)) (.int (Int32.ofNat A.length)) (.int 2) (.int 0) :: (IL g c d A ++ (AL g r b45 (G ++ [x]) ++ H))) (Lt) 18 183 := B46.perm (pm2 (IL g c d A) (AL g r b45 (G ++ [x])) [oLI it (.ref (ilA g c A)) (.int (Int32.ofNat A.length)) (.int 2) (.int 0)])
      exact lp_2 W ev dt it r c d w A hds hn (hs0 := hs0) R (E ++ [x]) (G ++ [x]) s z b45 _ Lt (T := T42) (Or.inr ⟨_, rfl, rfl⟩) md mw hR' (EqL.snoc ⟨_, _, _, mx, mx, hxl⟩ hG) hs hd' (by omega) (by simp only [List.length_append, List.length_cons, List.length_nil]; omega) (B47.mono (cs' := 24) (ss' := 251) (by decide) (by decide))
theorem lp_0 {g : GG} (W : GW g) {M : MM} {H : List Ent} (ev dt it r c d w : Addr) (A : List Addr) {dtb wb : Addr} {ds : List Int32} (hds : ds.length ≤ 1) (hn : A.length ≤ 4) : ∀ (R : List (Addr × Bool)) (E G : List Addr) (s : Bool) (z : Int32) (rb : Addr) (o5 : Slot) (Lt : List SE) {T : State} (hs0 : ∀ y ∈ A, StrIn Lt y), (o5 = .unset ∨ ∃ w, o5 = .val w ∧ w.category = 1) → (dt, dtb, 0, ds.map Value.int) ∈ Lt → (w, wb, 0, (dpre ++ ds).map Value.int) ∈ Lt → (∀ x ∈ R, Ln Lt x) → EqL Lt G E → (z = 0 ∧ s = false ∨ z = 1 ∧ s = true) → A.drop 0 = R.map Prod.fst → 0 ≤ A.length → G.length ≤ 0 → RH g D36_w M T (oLI it (.ref (ilA g c A)) (.int (Int32.ofNat A.length)) (.int (0 : Int32)) (.int (0 : Int32)) :: (IL g c d A ++ (AL g r rb G ++ H))) Lt 2 7 →
    Fn g D36_w M (fun v vm h => ∃ (ev' c' d' : Addr) (G' : List Addr) (Lt' : List SE), v = some (.ref ev') ∧ (EqL Lt' G' ((R : List (Addr × Bool)).foldl (stp w) (E, s)).1 ∧ G'.length ≤ 4) ∧ Hp g vm h (oEV ev' (.ref (ilA g c' G')) :: (IL g c' d' G' ++ H)) Lt') (T.setTop (mkF M.m 21 #[.val (.ref ev), .val (.ref dt), .val (.ref r), .val (.int z), .val (.ref it), o5] [])) := by
  intro R
  cases R with
  | nil =>
    intro E G s z rb o5 Lt T hs0 ho md mw hR hG hs hd hi hg B
    have hA : A.length = 0 := (by have q := congrArg List.length hd; simp only [List.length_drop, List.length_map, List.length_cons, List.length_nil] at q; omega)
    refine p_aload B d36_21 rfl rfl rfl ?_
    refine r_iface (D' := D40_w) B d36_23 rfl (W248 B.gw) (W249 B.gw) (W250 B.gw) (by first | rfl | decide) (W251 B.gw) (W252 B.gw) (W253 B.gw) (W254 B.gw) (W255 B.gw) (W228 B.gw) (W256 B.gw) (by decide) (fE (i := 0) rfl) (c_hn0 W it (ilA g c A) (Int32.ofNat A.length) (0 : Int32) _ _ (by rw [hA]; rfl)) (argsL := []) (rest := []) rfl pd14 rfl rfl rfl (W := 0) rfl (cs' := 2) (ss' := 7) (by decide) (Kv1 fun T1 B3 => ?_)
    refine b_ifT B3 d36_28 (pc' := 98) (show (0 : Int32) = (0 : Int32) from by decide) (by decide) (by decide) ?_
    refine r_new B3 d36_98 rfl (W397 B3.gw) (W111 B3.gw) (W112 B3.gw) (Ly_oEV B3.gw) (by decide) (cs' := 3) rfl (ss' := 8) rfl (by decide) (by decide) fun T4 a6 B5 => ?_
    refine p_dup B5 d36_101 rfl rfl ?_
    refine p_aloadN B5 d36_102 rfl rfl rfl ?_
    have B7 : RH g D36_w M T4 (AL g r rb G ++ (oEV a6 .null :: (oLI it (.ref (ilA g c A)) (.int (Int32.ofNat A.length)) (.int 0) (.int 0) :: (IL g c d A ++ H)))) (Lt) 3 8 := B5.perm (pm3 [oEV a6 .null] [oLI it (.ref (ilA g c A)) (.int (Int32.ofNat A.length)) (.int 0) (.int 0)] (IL g c d A) (AL g r rb G))
    have B8 : RH g D36_w M T4 (oEV a6 .null :: (AL g r rb G ++ (oLI it (.ref (ilA g c A)) (.int (Int32.ofNat A.length)) (.int 0) (.int 0) :: (IL g c d A ++ H)))) (Lt) 3 8 := B7.perm (pm1 (AL g r rb G) [oEV a6 .null])
    refine r_special (D' := D22_w) B8 d36_103 rfl rfl rfl (W398 B8.gw) (W114 B8.gw) (W112 B8.gw) (W115 B8.gw) (by decide) (W_ei W a6 r rb G (by omega) _ _ hG.str) (a := a6) (argsL := [(.ref r)]) (rest := [(.ref a6)]) rfl pd44 rfl rfl rfl (W := 1) rfl (cs' := 6) (ss' := 18) (by decide) (Kex fun c' => Kex fun d' => Kv0 fun T9 B11 => ?_)
    exact r_reta B11 d36_106 rfl rfl rfl (by decide) (by decide) (fun vm h P => ⟨a6, c', d', G, _, rfl, ⟨hG, by omega⟩, P.sub sub_ev⟩)
  | cons p R =>
    intro E G s z rb o5 Lt T hs0 ho md mw hR hG hs hd hi hg B
    obtain ⟨x, b⟩ := p
    have hA : 0 < A.length := (by have q := congrArg List.length hd; simp only [List.length_drop, List.length_map, List.length_cons, List.length_nil] at q; omega)
    obtain ⟨hxA, hd'⟩ := drop_c (show A.drop 0 = x :: R.map Prod.fst from hd)
    obtain ⟨xb, xu, mx, hxl, hxd⟩ := hR (x, b) (List.mem_cons_self ..)
    have hR' : ∀ y ∈ R, Ln Lt y := fun y hy => hR y (List.mem_cons_of_mem _ hy)
    refine p_aload B d36_21 rfl rfl rfl ?_
    refine r_iface (D' := D40_w) B d36_23 rfl (W248 B.gw) (W249 B.gw) (W250 B.gw) (by first | rfl | decide) (W251 B.gw) (W252 B.gw) (W253 B.gw) (W254 B.gw) (W255 B.gw) (W228 B.gw) (W256 B.gw) (by decide) (fE (i := 0) rfl) (c_hn1 W it (ilA g c A) (Int32.ofNat A.length) (0 : Int32) _ _ (fun q => by have q' := injN (n := 0) (k := A.length) (by omega) (by omega) q; omega)) (argsL := []) (rest := []) rfl pd14 rfl rfl rfl (W := 0) rfl (cs' := 2) (ss' := 7) (by decide) (Kv1 fun T1 B3 => ?_)
    refine b_ifF B3 d36_28 (pc' := 31) rfl (show ¬ (1 : Int32) = (0 : Int32) from by decide) ?_
    refine p_aload B3 d36_31 rfl rfl rfl ?_
    refine r_ifaceH (D' := D81_w) B3 d36_33 rfl (W257 B3.gw) (W258 B3.gw) (W259 B3.gw) (by first | rfl | decide) (W260 B3.gw) (W261 B3.gw) (W262 B3.gw) (W263 B3.gw) (W255 B3.gw) (W228 B3.gw) (W264 B3.gw) (by decide) (fE (i := 0) rfl) (W_nx0 W it c d x (Int32.ofNat A.length) A hn hxA _ _ hs0) (argsL := []) (rest := []) rfl pd45 rfl rfl rfl (W := 0) rfl (cs' := 2) (ss' := 7) (by decide) (Kv1 fun T4 B6 => ?_)
    refine r_cast B6 d36_38 rfl (W273 B6.gw) (fun vm h E P => Ins.self ((sE mx) vm h E P)) fun T7 B8 => ?_
    refine p_astore B8 d36_41 rfl rfl (Ls' := #[.val (.ref ev), .val (.ref dt), .val (.ref r), .val (.int z), .val (.ref it), .val (.ref x)]) (XS.store1 (o := o5) rfl ho rfl) ?_
    refine p_aload B8 d36_43 rfl rfl rfl ?_
    refine r_static (D' := D42_w) B8 d36_45 rfl (W274 B8.gw) (W275 B8.gw) (W112 B8.gw) (W276 B8.gw) (by decide) (k_isd W mx hxl) (argsL := [(.ref x)]) (rest := []) rfl pd30 rfl rfl rfl (W := 0) rfl (cs' := 6) (ss' := 51) (by decide) (Kex fun zd => Kv1 fun T9 B11 => ?_)
    replace B11 := Rn.and B11
    obtain ⟨hz, B11⟩ := B11
    rcases hz with ⟨rfl, hz⟩ | ⟨rfl, hz⟩
    · obtain rfl : b = true := hxd.mpr hz
      refine b_ifT B11 d36_48 (pc' := 63) (show ¬ (1 : Int32) = (0 : Int32) from by decide) (by decide) (by decide) ?_
      refine p_iloadN B11 d36_63 rfl rfl ?_
      rcases hs with ⟨rfl, rfl⟩ | ⟨rfl, rfl⟩
      · refine b_ifF B11 d36_64 (pc' := 67) rfl (show (0 : Int32) = (0 : Int32) from by decide) ?_
        refine p_aloadN B11 d36_67 rfl rfl rfl ?_
        refine r_new B11 d36_68 rfl (W288 B11.gw) (W289 B11.gw) (W290 B11.gw) (Ly_oSB B11.gw) (by decide) (cs' := 7) rfl (ss' := 55) rfl (by decide) (by decide) fun T12 a14 B13 => ?_
        refine p_dup B13 d36_71 rfl rfl ?_
        refine r_special (D' := D45_q122) B13 d36_72 rfl rfl rfl (W291 B13.gw) (W292 B13.gw) (W290 B13.gw) (W293 B13.gw) (by decide) (k_q122 W a14 _ _) (a := a14) (argsL := []) (rest := [(.ref a14), (.ref r)]) rfl pd9 rfl rfl rfl (W := 2) rfl (cs' := 8) (ss' := 71) (by decide) (Kex fun a18 => Kv0 fun T15 B17 => ?_)
        refine r_ldc B17 d36_75 rfl (W306 B17.gw) (strW B17.gw) (inEL B17.gw (by decide)) (bs := [(.int 100), (.int 97), (.int 116), (.int 97), (.int 58), (.int 32)]) ⟨by decide, by decide⟩ (z := (6 : Int32)) (by decide) (by decide) (n := 24) (by decide) (by decide) (cs' := 10) rfl (ss' := 99) rfl (by decide) (by decide) fun T19 a21 b22 B20 => ?_
        have B23 := (B20.fr 1 rfl)
        refine r_virtual (D' := D47_w) B23 d36_77 rfl (W307 B23.gw) (W308 B23.gw) (W310 B23.gw) (fun vm0 hZ => notFace_of_selects (args := #[]) (mvT hZ (W310 B23.gw))) (W309 B23.gw) (W290 B23.gw) (W311 B23.gw) (by decide) (fE (i := 0) rfl) (W_ap W a14 a18 a21 [] dpre _ _ (List.mem_of_getElem? (i := 0) rfl) (by decide)) (argsL := [(.ref a21)]) (rest := [(.ref r)]) rfl pd46 rfl rfl rfl (W := 1) rfl (cs' := 10) (ss' := 99) (by decide) (Kv1 fun T24 B26 => ?_)
        have B27 : RH g D36_w M T24 (SBo a14 a18 dpre ++ (oLI it (.ref (ilA g c A)) (.int (Int32.ofNat A.length)) (.int 1) (.int 0) :: (IL g c d A ++ (AL g r rb G ++ H)))) ((a21, b22, 0, [(.int 100), (.int 97), (.int 116), (.int 97), (.int 58), (.int 32)]) :: Lt) 10 99 := B26
        refine p_aloadN B27 d36_80 rfl rfl rfl ?_
        refine r_virtual (D' := D47_w) B27 d36_81 rfl (W307 B27.gw) (W308 B27.gw) (W310 B27.gw) (fun vm0 hZ => notFace_of_selects (args := #[]) (mvT hZ (W310 B27.gw))) (W309 B27.gw) (W290 B27.gw) (W311 B27.gw) (by decide) sb_exa (W_ap W a14 a18 dt dpre ds _ _ (List.mem_cons_of_mem _ md) (by show 6 + ds.length ≤ 15; omega)) (argsL := [(.ref dt)]) (rest := [(.ref r)]) rfl pd46 rfl rfl rfl (W := 1) rfl (cs' := 10) (ss' := 99) (by decide) (Kv1 fun T28 B30 => ?_)
        refine r_virtual (D' := D55_w) B30 d36_84 rfl (W351 B30.gw) (W352 B30.gw) (W354 B30.gw) (fun vm0 hZ => notFace_of_selects (args := #[]) (mvT hZ (W354 B30.gw))) (W353 B30.gw) (W290 B30.gw) (W355 B30.gw) (by decide) sb_exa (W_ts W a14 a18 (dpre ++ ds) _ _ (by rw [List.length_append]; show 6 + ds.length ≤ 14; omega)) (argsL := []) (rest := [(.ref r)]) rfl pd47 rfl rfl rfl (W := 1) rfl (cs' := 12) (ss' := 119) (by decide) fun T31 v32 B33 => ?_
        replace B33 := Rn.ex B33
        obtain ⟨w', B33⟩ := B33
        replace B33 := Rn.ex B33
        obtain ⟨wb', B33⟩ := B33
        replace B33 := Rn.and B33
        obtain ⟨rfl, B33⟩ := B33
        replace B33 := Rn.lsub (Lt' := (w', wb', 0, (dpre ++ ds).map Value.int) :: Lt) B33 (List.forall_mem_cons.2 ⟨List.mem_cons_self .., fun y hy => List.mem_cons_of_mem _ (tl1 y hy)⟩)
        show Fn g D36_w M _ (T31.setTop (mkF M.m 87 #[.val (.ref ev), .val (.ref dt), .val (.ref r), .val (.int 0), .val (.ref it), .val (.ref x)] [(.ref w'), (.ref r)]))
        have B34 : RH g D36_w M T31 (AL g r rb G ++ (oLI it (.ref (ilA g c A)) (.int (Int32.ofNat A.length)) (.int 1) (.int 0) :: (IL g c d A ++ H))) ((w', wb', 0, (dpre ++ ds).map Value.int) :: Lt) 12 119 := B33.perm (pm2 [oLI it (.ref (ilA g c A)) (.int (Int32.ofNat A.length)) (.int 1) (.int 0)] (IL g c d A) (AL g r rb G))
        refine r_iface (D' := D15_w) B34 d36_87 rfl (W390 B34.gw) (W391 B34.gw) (W392 B34.gw) (by first | rfl | decide) (W393 B34.gw) (W75 B34.gw) (W394 B34.gw) (W395 B34.gw) (W396 B34.gw) (W51 B34.gw) (W77 B34.gw) (by decide) (al_exa G) (W_add W r rb w' G (by omega) _ _ ⟨_, _, _, (List.mem_of_getElem? (i := 0) rfl)⟩) (argsL := [(.ref w')]) (rest := []) rfl pd29 rfl rfl rfl (W := 0) rfl (cs' := 13) (ss' := 129) (by decide) (Kex fun b38 => Kv1 fun T35 B37 => ?_)
        refine p_pop B37 d36_92 rfl rfl ?_
        refine p_iconst B37 d36_93 rfl (v := (1 : Int32)) (by decide) ?_
        refine p_istoreN B37 d36_94 rfl (Ls' := #[.val (.ref ev), .val (.ref dt), .val (.ref r), .val (.int 1), .val (.ref it), .val (.ref x)]) rfl ?_
        refine b_goto B37 d36_95 (pc' := 21) (by decide) (by decide) ?_
        have B39 : RH g D36_w M T35 (IL g c d A ++ (AL g r b38 (G ++ [w']) ++ (oLI it (.ref (ilA g c A)) (.int (Int32.ofNat A.length)) (.int 1) (.int 0) :: H))) ((w', wb', 0, (dpre ++ ds).map Value.int) :: Lt) 13 129 := B37.perm (pm2 (AL g r b38 (G ++ [w'])) [oLI it (.ref (ilA g c A)) (.int (Int32.ofNat A.length)) (.int 1) (.int 0)] (IL g c d A))
        have B40 : RH g D36_w M T35 (oLI it (.ref (ilA g c A)) (.int (Int32.ofNat A.length)) (.int 1) (.int 0) :: (IL g c d A ++ (AL g r b38 (G ++ [w']) ++ H))) ((w', wb', 0, (dpre ++ ds).map Value.int) :: Lt) 13 129 := B39.perm (pm2 (IL g c d A) (AL g r b38 (G ++ [w'])) [oLI it (.ref (ilA g c A)) (.int (Int32.ofNat A.length)) (.int 1) (.int 0)])
        exact lp_1 W ev dt it r c d w A hds hn (hs0 := (fun y hy => (hs0 y hy).mono (fun y hy => List.mem_cons_of_mem _ hy))) R (E ++ [w]) (G ++ [w']) true 1 b38 _ _ (T := T35) (Or.inr ⟨_, rfl, rfl⟩) (List.mem_cons_of_mem _ md) (List.mem_cons_of_mem _ mw) (fun y hy => (hR' y hy).mono (fun y hy => List.mem_cons_of_mem _ hy)) (EqL.snoc ⟨_, _, _, List.mem_cons_self .., List.mem_cons_of_mem _ mw, by simp only [dpre, List.length_append, List.length_cons, List.length_nil]; omega⟩ (EqL.mono (fun y hy => List.mem_cons_of_mem _ hy) hG)) (Or.inr ⟨rfl, rfl⟩) hd' (by omega) (by simp only [List.length_append, List.length_cons, List.length_nil]; omega) (B40)
      · refine b_ifT B11 d36_64 (pc' := 95) (show ¬ (1 : Int32) = (0 : Int32) from by decide) (by decide) (by decide) ?_
        refine b_goto B11 d36_95 (pc' := 21) (by decide) (by decide) ?_
        exact lp_1 W ev dt it r c d w A hds hn (hs0 := hs0) R E G true 1 rb _ Lt (T := T9) (Or.inr ⟨_, rfl, rfl⟩) md mw hR' hG (Or.inr ⟨rfl, rfl⟩) hd' (by omega) (by omega) (B11.mono (cs' := 13) (ss' := 129) (by decide) (by decide))
    · obtain rfl : b = false := by
        cases b
        · rfl
        · exact absurd (hxd.mp rfl) hz
      refine b_ifF B11 d36_48 (pc' := 51) rfl (show (0 : Int32) = (0 : Int32) from by decide) ?_
      refine p_aloadN B11 d36_51 rfl rfl rfl ?_
      refine p_aload B11 d36_52 rfl rfl rfl ?_
      have B41 : RH g D36_w M T9 (AL g r rb G ++ (oLI it (.ref (ilA g c A)) (.int (Int32.ofNat A.length)) (.int 1) (.int 0) :: (IL g c d A ++ H))) (Lt) 6 51 := B11.perm (pm2 [oLI it (.ref (ilA g c A)) (.int (Int32.ofNat A.length)) (.int 1) (.int 0)] (IL g c d A) (AL g r rb G))
      refine r_iface (D' := D15_w) B41 d36_54 rfl (W390 B41.gw) (W391 B41.gw) (W392 B41.gw) (by first | rfl | decide) (W393 B41.gw) (W75 B41.gw) (W394 B41.gw) (W395 B41.gw) (W396 B41.gw) (W51 B41.gw) (W77 B41.gw) (by decide) (al_exa G) (W_add W r rb x G (by omega) _ _ ⟨_, _, _, mx⟩) (argsL := [(.ref x)]) (rest := []) rfl pd29 rfl rfl rfl (W := 0) rfl (cs' := 7) (ss' := 61) (by decide) (Kex fun b45 => Kv1 fun T42 B44 => ?_)
      refine p_pop B44 d36_59 rfl rfl ?_
      refine b_goto B44 d36_60 (pc' := 95) (by decide) (by decide) ?_
      refine b_goto B44 d36_95 (pc' := 21) (by decide) (by decide) ?_
      have B46 : RH g D36_w M T42 (IL g c d A ++ (AL g r b45 (G ++ [x]) ++ (oLI it (.ref (ilA g c A)) (.int (Int32.ofNat A.length)) (.int 1) (.int 0) :: H))) (Lt) 7 61 := B44.perm (pm2 (AL g r b45 (G ++ [x])) [oLI it (.ref (ilA g c A)) (.int (Int32.ofNat A.length)) (.int 1) (.int 0)] (IL g c d A))
      have B47 : RH g D36_w M T42 (oLI it (.ref (ilA g c A)) (.int (Int32.ofNat A.length)) (.int 1) (.int 0) :: (IL g c d A ++ (AL g r b45 (G ++ [x]) ++ H))) (Lt) 7 61 := B46.perm (pm2 (IL g c d A) (AL g r b45 (G ++ [x])) [oLI it (.ref (ilA g c A)) (.int (Int32.ofNat A.length)) (.int 1) (.int 0)])
      exact lp_1 W ev dt it r c d w A hds hn (hs0 := hs0) R (E ++ [x]) (G ++ [x]) s z b45 _ Lt (T := T42) (Or.inr ⟨_, rfl, rfl⟩) md mw hR' (EqL.snoc ⟨_, _, _, mx, mx, hxl⟩ hG) hs hd' (by omega) (by simp only [List.length_append, List.length_cons, List.length_nil]; omega) (B47.mono (cs' := 13) (ss' := 129) (by decide) (by decide))
theorem c_wd0 {g : GG} (W : GW g) (ev dt c d : Addr) (H : List Ent) (Lt : List SE) {dtb wb : Addr} {ds : List Int32} (hds : ds.length ≤ 1) (w : Addr) (md : (dt, dtb, 0, ds.map Value.int) ∈ Lt) (mw : (w, wb, 0, (dpre ++ ds).map Value.int) ∈ Lt) (hR : ∀ x ∈ ([] : List (Addr × Bool)), Ln Lt x) : Ct g D36_w #[.ref ev, .ref dt] (oEV ev (.ref (ilA g c [])) :: (IL g c d [] ++ H)) Lt (fun v vm h => ∃ (ev' c' d' : Addr) (G' : List Addr) (Lt' : List SE), v = some (.ref ev') ∧ (EqL Lt' G' (([] : List (Addr × Bool)).foldl (stp w) ([], false)).1 ∧ G'.length ≤ 4) ∧ Hp g vm h (oEV ev' (.ref (ilA g c' G')) :: (IL g c' d' G' ++ H)) Lt') := by
  refine CtW.body (Ls := #[.val (.ref ev), .val (.ref dt), .unset, .unset, .unset, .unset]) W (by decide +kernel) (efr rfl) ?_
  intro M T B
  replace B : RH g D36_w M T (oEV ev (.ref (elOf g)) :: H) Lt 0 0 := B
  refine r_new B d36_0 rfl (W215 B.gw) (W50 B.gw) (W51 B.gw) (Ly_oAL B.gw) (by decide) (cs' := 1) rfl (ss' := 3) rfl (by decide) (by decide) fun T1 a3 B2 => ?_
  refine p_dup B2 d36_3 rfl rfl ?_
  refine r_special (D' := D12_q110) B2 d36_4 rfl rfl rfl (W216 B2.gw) (W53 B2.gw) (W51 B2.gw) (W54 B2.gw) (by decide) (k_q110 W a3 _ _) (a := a3) (argsL := []) (rest := [(.ref a3)]) rfl pd9 rfl rfl rfl (W := 1) rfl (cs' := 1) (ss' := 3) (by decide) (Kv0 fun T4 B6 => ?_)
  refine p_astoreN B6 d36_7 rfl rfl (Ls' := #[.val (.ref ev), .val (.ref dt), .val (.ref a3), .unset, .unset, .unset]) rfl ?_
  refine p_iconst B6 d36_8 rfl (v := (0 : Int32)) (by decide) ?_
  refine p_istoreN B6 d36_9 rfl (Ls' := #[.val (.ref ev), .val (.ref dt), .val (.ref a3), .val (.int 0), .unset, .unset]) rfl ?_
  refine p_aloadN B6 d36_10 rfl rfl rfl ?_
  refine r_get B6 d36_11 rfl (host := "") (Or.inl (W208 B6.gw)) Via.refl (v := (.ref (elOf g))) (fO (i := 1) (j := 0) rfl rfl) fun T7 B8 => ?_
  refine r_iface (D' := D37_q111) B8 d36_14 rfl (W217 B8.gw) (W218 B8.gw) (W219 B8.gw) (by first | rfl | decide) (W441 B8.gw) (W221 B8.gw) (W222 B8.gw) (W442 B8.gw) (W443 B8.gw) (W189 B8.gw) (W225 B8.gw) (by decide) (el_exa W) (k_q111 W _ _) (argsL := []) (rest := []) rfl pd43 rfl rfl rfl (W := 0) rfl (cs' := 2) (ss' := 7) (by decide) (Kex fun a12 => Kv1 fun T9 B11 => ?_)
  refine p_astore B11 d36_19 rfl rfl (Ls' := #[.val (.ref ev), .val (.ref dt), .val (.ref a3), .val (.int 0), .val (.ref a12), .unset]) rfl ?_
  have B13 := (B11.dl 2)
  exact lp_0 W ev dt a12 a3 c d w [] hds (by simp) (hs0 := nofun) [] [] [] false 0 a3 _ Lt (T := T9) (Or.inl rfl) md mw hR trivial (Or.inl ⟨rfl, rfl⟩) rfl (Nat.zero_le _) (Nat.zero_le _) (B13)
theorem c_wd1 {g : GG} (W : GW g) (ev dt c d x0 : Addr) (b0 : Bool) (H : List Ent) (Lt : List SE) {dtb wb : Addr} {ds : List Int32} (hds : ds.length ≤ 1) (w : Addr) (md : (dt, dtb, 0, ds.map Value.int) ∈ Lt) (mw : (w, wb, 0, (dpre ++ ds).map Value.int) ∈ Lt) (hR : ∀ x ∈ ([(x0, b0)] : List (Addr × Bool)), Ln Lt x) (ms0 : StrIn Lt x0) : Ct g D36_w #[.ref ev, .ref dt] (oEV ev (.ref (ilA g c [x0])) :: (IL g c d [x0] ++ H)) Lt (fun v vm h => ∃ (ev' c' d' : Addr) (G' : List Addr) (Lt' : List SE), v = some (.ref ev') ∧ (EqL Lt' G' (([(x0, b0)] : List (Addr × Bool)).foldl (stp w) ([], false)).1 ∧ G'.length ≤ 4) ∧ Hp g vm h (oEV ev' (.ref (ilA g c' G')) :: (IL g c' d' G' ++ H)) Lt') := by
  refine CtW.body (Ls := #[.val (.ref ev), .val (.ref dt), .unset, .unset, .unset, .unset]) W (by decide +kernel) (efr rfl) ?_
  intro M T B
  replace B : RH g D36_w M T (oEV ev (.ref c) :: o12 c (.ref x0) (.ref (emOf g)) :: H) Lt 0 0 := B
  refine r_new B d36_0 rfl (W215 B.gw) (W50 B.gw) (W51 B.gw) (Ly_oAL B.gw) (by decide) (cs' := 1) rfl (ss' := 3) rfl (by decide) (by decide) fun T1 a3 B2 => ?_
  refine p_dup B2 d36_3 rfl rfl ?_
  refine r_special (D' := D12_q110) B2 d36_4 rfl rfl rfl (W216 B2.gw) (W53 B2.gw) (W51 B2.gw) (W54 B2.gw) (by decide) (k_q110 W a3 _ _) (a := a3) (argsL := []) (rest := [(.ref a3)]) rfl pd9 rfl rfl rfl (W := 1) rfl (cs' := 1) (ss' := 3) (by decide) (Kv0 fun T4 B6 => ?_)
  refine p_astoreN B6 d36_7 rfl rfl (Ls' := #[.val (.ref ev), .val (.ref dt), .val (.ref a3), .unset, .unset, .unset]) rfl ?_
  refine p_iconst B6 d36_8 rfl (v := (0 : Int32)) (by decide) ?_
  refine p_istoreN B6 d36_9 rfl (Ls' := #[.val (.ref ev), .val (.ref dt), .val (.ref a3), .val (.int 0), .unset, .unset]) rfl ?_
  refine p_aloadN B6 d36_10 rfl rfl rfl ?_
  refine r_get B6 d36_11 rfl (host := "") (Or.inl (W208 B6.gw)) Via.refl (v := (.ref c)) (fO (i := 1) (j := 0) rfl rfl) fun T7 B8 => ?_
  have B9 := (B8.fr 2 rfl)
  refine r_iface (D' := D37_q113) B9 d36_14 rfl (W217 B9.gw) (W218 B9.gw) (W219 B9.gw) (by first | rfl | decide) (W220 B9.gw) (W221 B9.gw) (W222 B9.gw) (W223 B9.gw) (W224 B9.gw) (W189 B9.gw) (W225 B9.gw) (by decide) (fE (i := 0) rfl) (k_q113 W c x0 _ _ ms0) (argsL := []) (rest := []) rfl pd43 rfl rfl rfl (W := 0) rfl (cs' := 2) (ss' := 7) (by decide) (Kex fun a13 => Kv1 fun T10 B12 => ?_)
  refine p_astore B12 d36_19 rfl rfl (Ls' := #[.val (.ref ev), .val (.ref dt), .val (.ref a3), .val (.int 0), .val (.ref a13), .unset]) rfl ?_
  have B14 := (B12.dl 3)
  exact lp_0 W ev dt a13 a3 c d w [x0] hds (by simp) (hs0 := List.forall_mem_cons.2 ⟨ms0, nofun⟩) [(x0, b0)] [] [] false 0 a3 _ Lt (T := T10) (Or.inl rfl) md mw hR trivial (Or.inl ⟨rfl, rfl⟩) rfl (Nat.zero_le _) (Nat.zero_le _) (B14)
theorem c_wd2 {g : GG} (W : GW g) (ev dt c d x0 x1 : Addr) (b0 : Bool) (b1 : Bool) (H : List Ent) (Lt : List SE) {dtb wb : Addr} {ds : List Int32} (hds : ds.length ≤ 1) (w : Addr) (md : (dt, dtb, 0, ds.map Value.int) ∈ Lt) (mw : (w, wb, 0, (dpre ++ ds).map Value.int) ∈ Lt) (hR : ∀ x ∈ ([(x0, b0), (x1, b1)] : List (Addr × Bool)), Ln Lt x) (ms0 : StrIn Lt x0) (ms1 : StrIn Lt x1) : Ct g D36_w #[.ref ev, .ref dt] (oEV ev (.ref (ilA g c [x0, x1])) :: (IL g c d [x0, x1] ++ H)) Lt (fun v vm h => ∃ (ev' c' d' : Addr) (G' : List Addr) (Lt' : List SE), v = some (.ref ev') ∧ (EqL Lt' G' (([(x0, b0), (x1, b1)] : List (Addr × Bool)).foldl (stp w) ([], false)).1 ∧ G'.length ≤ 4) ∧ Hp g vm h (oEV ev' (.ref (ilA g c' G')) :: (IL g c' d' G' ++ H)) Lt') := by
  refine CtW.body (Ls := #[.val (.ref ev), .val (.ref dt), .unset, .unset, .unset, .unset]) W (by decide +kernel) (efr rfl) ?_
  intro M T B
  replace B : RH g D36_w M T (oEV ev (.ref c) :: o12 c (.ref x0) (.ref x1) :: H) Lt 0 0 := B
  refine r_new B d36_0 rfl (W215 B.gw) (W50 B.gw) (W51 B.gw) (Ly_oAL B.gw) (by decide) (cs' := 1) rfl (ss' := 3) rfl (by decide) (by decide) fun T1 a3 B2 => ?_
  refine p_dup B2 d36_3 rfl rfl ?_
  refine r_special (D' := D12_q110) B2 d36_4 rfl rfl rfl (W216 B2.gw) (W53 B2.gw) (W51 B2.gw) (W54 B2.gw) (by decide) (k_q110 W a3 _ _) (a := a3) (argsL := []) (rest := [(.ref a3)]) rfl pd9 rfl rfl rfl (W := 1) rfl (cs' := 1) (ss' := 3) (by decide) (Kv0 fun T4 B6 => ?_)
  refine p_astoreN B6 d36_7 rfl rfl (Ls' := #[.val (.ref ev), .val (.ref dt), .val (.ref a3), .unset, .unset, .unset]) rfl ?_
  refine p_iconst B6 d36_8 rfl (v := (0 : Int32)) (by decide) ?_
  refine p_istoreN B6 d36_9 rfl (Ls' := #[.val (.ref ev), .val (.ref dt), .val (.ref a3), .val (.int 0), .unset, .unset]) rfl ?_
  refine p_aloadN B6 d36_10 rfl rfl rfl ?_
  refine r_get B6 d36_11 rfl (host := "") (Or.inl (W208 B6.gw)) Via.refl (v := (.ref c)) (fO (i := 1) (j := 0) rfl rfl) fun T7 B8 => ?_
  have B9 := (B8.fr 2 rfl)
  refine r_iface (D' := D37_q116) B9 d36_14 rfl (W217 B9.gw) (W218 B9.gw) (W219 B9.gw) (by first | rfl | decide) (W220 B9.gw) (W221 B9.gw) (W222 B9.gw) (W223 B9.gw) (W224 B9.gw) (W189 B9.gw) (W225 B9.gw) (by decide) (fE (i := 0) rfl) (k_q116 W c x0 x1 _ _ ms0 ms1) (argsL := []) (rest := []) rfl pd43 rfl rfl rfl (W := 0) rfl (cs' := 2) (ss' := 7) (by decide) (Kex fun a13 => Kv1 fun T10 B12 => ?_)
  refine p_astore B12 d36_19 rfl rfl (Ls' := #[.val (.ref ev), .val (.ref dt), .val (.ref a3), .val (.int 0), .val (.ref a13), .unset]) rfl ?_
  have B14 := (B12.dl 3)
  exact lp_0 W ev dt a13 a3 c d w [x0, x1] hds (by simp) (hs0 := List.forall_mem_cons.2 ⟨ms0, List.forall_mem_cons.2 ⟨ms1, nofun⟩⟩) [(x0, b0), (x1, b1)] [] [] false 0 a3 _ Lt (T := T10) (Or.inl rfl) md mw hR trivial (Or.inl ⟨rfl, rfl⟩) rfl (Nat.zero_le _) (Nat.zero_le _) (B14)
theorem c_wd3 {g : GG} (W : GW g) (ev dt c d x0 x1 x2 : Addr) (b0 : Bool) (b1 : Bool) (b2 : Bool) (H : List Ent) (Lt : List SE) {dtb wb : Addr} {ds : List Int32} (hds : ds.length ≤ 1) (w : Addr) (md : (dt, dtb, 0, ds.map Value.int) ∈ Lt) (mw : (w, wb, 0, (dpre ++ ds).map Value.int) ∈ Lt) (hR : ∀ x ∈ ([(x0, b0), (x1, b1), (x2, b2)] : List (Addr × Bool)), Ln Lt x) (ms0 : StrIn Lt x0) (ms1 : StrIn Lt x1) (ms2 : StrIn Lt x2) : Ct g D36_w #[.ref ev, .ref dt] (oEV ev (.ref (ilA g c [x0, x1, x2])) :: (IL g c d [x0, x1, x2] ++ H)) Lt (fun v vm h => ∃ (ev' c' d' : Addr) (G' : List Addr) (Lt' : List SE), v = some (.ref ev') ∧ (EqL Lt' G' (([(x0, b0), (x1, b1), (x2, b2)] : List (Addr × Bool)).foldl (stp w) ([], false)).1 ∧ G'.length ≤ 4) ∧ Hp g vm h (oEV ev' (.ref (ilA g c' G')) :: (IL g c' d' G' ++ H)) Lt') := by
  refine CtW.body (Ls := #[.val (.ref ev), .val (.ref dt), .unset, .unset, .unset, .unset]) W (by decide +kernel) (efr rfl) ?_
  intro M T B
  replace B : RH g D36_w M T (oEV ev (.ref c) :: oLN c (.ref d) (.int 0) :: (d, .inr ((.object "java/lang/Object"), "[Ljava/lang/Object;", [(.ref x0), (.ref x1), (.ref x2)])) :: H) Lt 0 0 := B
  refine r_new B d36_0 rfl (W215 B.gw) (W50 B.gw) (W51 B.gw) (Ly_oAL B.gw) (by decide) (cs' := 1) rfl (ss' := 3) rfl (by decide) (by decide) fun T1 a3 B2 => ?_
  refine p_dup B2 d36_3 rfl rfl ?_
  refine r_special (D' := D12_q110) B2 d36_4 rfl rfl rfl (W216 B2.gw) (W53 B2.gw) (W51 B2.gw) (W54 B2.gw) (by decide) (k_q110 W a3 _ _) (a := a3) (argsL := []) (rest := [(.ref a3)]) rfl pd9 rfl rfl rfl (W := 1) rfl (cs' := 1) (ss' := 3) (by decide) (Kv0 fun T4 B6 => ?_)
  refine p_astoreN B6 d36_7 rfl rfl (Ls' := #[.val (.ref ev), .val (.ref dt), .val (.ref a3), .unset, .unset, .unset]) rfl ?_
  refine p_iconst B6 d36_8 rfl (v := (0 : Int32)) (by decide) ?_
  refine p_istoreN B6 d36_9 rfl (Ls' := #[.val (.ref ev), .val (.ref dt), .val (.ref a3), .val (.int 0), .unset, .unset]) rfl ?_
  refine p_aloadN B6 d36_10 rfl rfl rfl ?_
  refine r_get B6 d36_11 rfl (host := "") (Or.inl (W208 B6.gw)) Via.refl (v := (.ref c)) (fO (i := 1) (j := 0) rfl rfl) fun T7 B8 => ?_
  have B9 := ((B8.fr 3 rfl).fr 3 rfl)
  refine r_iface (D' := D37_q118) B9 d36_14 rfl (W217 B9.gw) (W218 B9.gw) (W219 B9.gw) (by first | rfl | decide) (W441 B9.gw) (W221 B9.gw) (W222 B9.gw) (W442 B9.gw) (W443 B9.gw) (W189 B9.gw) (W225 B9.gw) (by decide) (fE (i := 0) rfl) (k_q118 W c d x0 x1 x2 _ _ ms0 ms1 ms2) (argsL := []) (rest := []) rfl pd43 rfl rfl rfl (W := 0) rfl (cs' := 2) (ss' := 7) (by decide) (Kex fun a13 => Kv1 fun T10 B12 => ?_)
  refine p_astore B12 d36_19 rfl rfl (Ls' := #[.val (.ref ev), .val (.ref dt), .val (.ref a3), .val (.int 0), .val (.ref a13), .unset]) rfl ?_
  have B14 := (B12.dl 4)
  exact lp_0 W ev dt a13 a3 c d w [x0, x1, x2] hds (by simp) (hs0 := List.forall_mem_cons.2 ⟨ms0, List.forall_mem_cons.2 ⟨ms1, List.forall_mem_cons.2 ⟨ms2, nofun⟩⟩⟩) [(x0, b0), (x1, b1), (x2, b2)] [] [] false 0 a3 _ Lt (T := T10) (Or.inl rfl) md mw hR trivial (Or.inl ⟨rfl, rfl⟩) rfl (Nat.zero_le _) (Nat.zero_le _) (B14)
theorem c_wd4 {g : GG} (W : GW g) (ev dt c d x0 x1 x2 x3 : Addr) (b0 : Bool) (b1 : Bool) (b2 : Bool) (b3 : Bool) (H : List Ent) (Lt : List SE) {dtb wb : Addr} {ds : List Int32} (hds : ds.length ≤ 1) (w : Addr) (md : (dt, dtb, 0, ds.map Value.int) ∈ Lt) (mw : (w, wb, 0, (dpre ++ ds).map Value.int) ∈ Lt) (hR : ∀ x ∈ ([(x0, b0), (x1, b1), (x2, b2), (x3, b3)] : List (Addr × Bool)), Ln Lt x) (ms0 : StrIn Lt x0) (ms1 : StrIn Lt x1) (ms2 : StrIn Lt x2) (ms3 : StrIn Lt x3) : Ct g D36_w #[.ref ev, .ref dt] (oEV ev (.ref (ilA g c [x0, x1, x2, x3])) :: (IL g c d [x0, x1, x2, x3] ++ H)) Lt (fun v vm h => ∃ (ev' c' d' : Addr) (G' : List Addr) (Lt' : List SE), v = some (.ref ev') ∧ (EqL Lt' G' (([(x0, b0), (x1, b1), (x2, b2), (x3, b3)] : List (Addr × Bool)).foldl (stp w) ([], false)).1 ∧ G'.length ≤ 4) ∧ Hp g vm h (oEV ev' (.ref (ilA g c' G')) :: (IL g c' d' G' ++ H)) Lt') := by
  refine CtW.body (Ls := #[.val (.ref ev), .val (.ref dt), .unset, .unset, .unset, .unset]) W (by decide +kernel) (efr rfl) ?_
  intro M T B
  replace B : RH g D36_w M T (oEV ev (.ref c) :: oLN c (.ref d) (.int 0) :: (d, .inr ((.object "java/lang/Object"), "[Ljava/lang/Object;", [(.ref x0), (.ref x1), (.ref x2), (.ref x3)])) :: H) Lt 0 0 := B
  refine r_new B d36_0 rfl (W215 B.gw) (W50 B.gw) (W51 B.gw) (Ly_oAL B.gw) (by decide) (cs' := 1) rfl (ss' := 3) rfl (by decide) (by decide) fun T1 a3 B2 => ?_
  refine p_dup B2 d36_3 rfl rfl ?_
  refine r_special (D' := D12_q110) B2 d36_4 rfl rfl rfl (W216 B2.gw) (W53 B2.gw) (W51 B2.gw) (W54 B2.gw) (by decide) (k_q110 W a3 _ _) (a := a3) (argsL := []) (rest := [(.ref a3)]) rfl pd9 rfl rfl rfl (W := 1) rfl (cs' := 1) (ss' := 3) (by decide) (Kv0 fun T4 B6 => ?_)
  refine p_astoreN B6 d36_7 rfl rfl (Ls' := #[.val (.ref ev), .val (.ref dt), .val (.ref a3), .unset, .unset, .unset]) rfl ?_
  refine p_iconst B6 d36_8 rfl (v := (0 : Int32)) (by decide) ?_
  refine p_istoreN B6 d36_9 rfl (Ls' := #[.val (.ref ev), .val (.ref dt), .val (.ref a3), .val (.int 0), .unset, .unset]) rfl ?_
  refine p_aloadN B6 d36_10 rfl rfl rfl ?_
  refine r_get B6 d36_11 rfl (host := "") (Or.inl (W208 B6.gw)) Via.refl (v := (.ref c)) (fO (i := 1) (j := 0) rfl rfl) fun T7 B8 => ?_
  have B9 := ((B8.fr 3 rfl).fr 3 rfl)
  refine r_iface (D' := D37_q120) B9 d36_14 rfl (W217 B9.gw) (W218 B9.gw) (W219 B9.gw) (by first | rfl | decide) (W441 B9.gw) (W221 B9.gw) (W222 B9.gw) (W442 B9.gw) (W443 B9.gw) (W189 B9.gw) (W225 B9.gw) (by decide) (fE (i := 0) rfl) (k_q120 W c d x0 x1 x2 x3 _ _ ms0 ms1 ms2 ms3) (argsL := []) (rest := []) rfl pd43 rfl rfl rfl (W := 0) rfl (cs' := 2) (ss' := 7) (by decide) (Kex fun a13 => Kv1 fun T10 B12 => ?_)
  refine p_astore B12 d36_19 rfl rfl (Ls' := #[.val (.ref ev), .val (.ref dt), .val (.ref a3), .val (.int 0), .val (.ref a13), .unset]) rfl ?_
  have B14 := (B12.dl 4)
  exact lp_0 W ev dt a13 a3 c d w [x0, x1, x2, x3] hds (by simp) (hs0 := List.forall_mem_cons.2 ⟨ms0, List.forall_mem_cons.2 ⟨ms1, List.forall_mem_cons.2 ⟨ms2, List.forall_mem_cons.2 ⟨ms3, nofun⟩⟩⟩⟩) [(x0, b0), (x1, b1), (x2, b2), (x3, b3)] [] [] false 0 a3 _ Lt (T := T10) (Or.inl rfl) md mw hR trivial (Or.inl ⟨rfl, rfl⟩) rfl (Nat.zero_le _) (Nat.zero_le _) (B14)
theorem k_wd {g : GG} (W : GW g) (ev dt c d : Addr) (L : List (Addr × Bool)) (hl : L.length ≤ 4) (H : List Ent) (Lt : List SE) {dtb wb : Addr} {ds : List Int32} (hds : ds.length ≤ 1) (w : Addr) (md : (dt, dtb, 0, ds.map Value.int) ∈ Lt) (mw : (w, wb, 0, (dpre ++ ds).map Value.int) ∈ Lt) (hR : ∀ x ∈ L, Ln Lt x) : Ct g D36_w #[.ref ev, .ref dt] (oEV ev (.ref (ilA g c (L.map Prod.fst))) :: (IL g c d (L.map Prod.fst) ++ H)) Lt (fun v vm h => ∃ (ev' c' d' : Addr) (G' : List Addr) (Lt' : List SE), v = some (.ref ev') ∧ (EqL Lt' G' ((L : List (Addr × Bool)).foldl (stp w) ([], false)).1 ∧ G'.length ≤ 4) ∧ Hp g vm h (oEV ev' (.ref (ilA g c' G')) :: (IL g c' d' G' ++ H)) Lt') :=
  match L, hl, hR with
  | [], _, hR => by exact c_wd0 W ev dt c d  H Lt hds w md mw hR
  | [(x0, b0)], _, hR => by have m0 : StrIn Lt x0 := (hR (x0, b0) (by simp)).str; exact c_wd1 W ev dt c d x0 b0 H Lt hds w md mw hR m0
  | [(x0, b0), (x1, b1)], _, hR => by have m0 : StrIn Lt x0 := (hR (x0, b0) (by simp)).str; have m1 : StrIn Lt x1 := (hR (x1, b1) (by simp)).str; exact c_wd2 W ev dt c d x0 x1 b0 b1 H Lt hds w md mw hR m0 m1
  | [(x0, b0), (x1, b1), (x2, b2)], _, hR => by have m0 : StrIn Lt x0 := (hR (x0, b0) (by simp)).str; have m1 : StrIn Lt x1 := (hR (x1, b1) (by simp)).str; have m2 : StrIn Lt x2 := (hR (x2, b2) (by simp)).str; exact c_wd3 W ev dt c d x0 x1 x2 b0 b1 b2 H Lt hds w md mw hR m0 m1 m2
  | [(x0, b0), (x1, b1), (x2, b2), (x3, b3)], _, hR => by have m0 : StrIn Lt x0 := (hR (x0, b0) (by simp)).str; have m1 : StrIn Lt x1 := (hR (x1, b1) (by simp)).str; have m2 : StrIn Lt x2 := (hR (x2, b2) (by simp)).str; have m3 : StrIn Lt x3 := (hR (x3, b3) (by simp)).str; exact c_wd4 W ev dt c d x0 x1 x2 x3 b0 b1 b2 b3 H Lt hds w md mw hR m0 m1 m2 m3
  | _ :: _ :: _ :: _ :: _ :: _, h, _ => absurd h (by simp only [List.length_cons]; omega)
abbrev nx (p : Int32) : Int32 := (p &&& (2147483647 : Int32)) % (5 : Int32)
abbrev kx (p : Int32) : Int32 := p &&& (7 : Int32)
abbrev ky (p s : Int32) : Int32 := ((p).toUInt32 >>> (s &&& 31).toUInt32).toInt32 &&& (7 : Int32)
abbrev cx (p : Int32) : Int32 := (p &&& (255 : Int32)).toUInt32.toUInt16.toUInt32.toInt32
abbrev cy (p s : Int32) : Int32 := (((p).toUInt32 >>> (s &&& 31).toUInt32).toInt32 &&& (255 : Int32)).toUInt32.toUInt16.toUInt32.toInt32
theorem b100 : (100 : Int32).toInt8.toInt32 = 100 := by decide
theorem b97 : (97 : Int32).toInt8.toInt32 = 97 := by decide
theorem b116 : (116 : Int32).toInt8.toInt32 = 116 := by decide
theorem b58 : (58 : Int32).toInt8.toInt32 = 58 := by decide
theorem b32 : (32 : Int32).toInt8.toInt32 = 32 := by decide
theorem wr (t : List Value) : bV (100 : Int32) :: bV (97 : Int32) :: bV (116 : Int32) :: bV (97 : Int32) :: bV (58 : Int32) :: bV (32 : Int32) :: t = dpre.map Value.int ++ t := by
  simp only [bV, b100, b97, b116, b58, b32]; rfl

abbrev D0 : DD := (x, code, maxLocals, ret, room_1)
theorem ef_law (p0 p1 p2 p3 : Int32) (m : MethodId) : entryFrame m #[(.int p0), (.int p1), (.int p2), (.int p3)] maxLocals = mkF m 0 #[.val (.int p0), .val (.int p1), .val (.int p2), .val (.int p3), .unset, .unset, .unset, .unset, .unset, .unset, .unset, .unset, .unset, .unset, .unset, .unset, .unset, .unset, .unset, .unset, .unset, .unset, .unset, .unset, .unset, .unset] [] := by first | (simp [entryFrame, mkF, argsToLocals, Value.category, maxLocals]; done) | rfl
abbrev D65_q124 := E65 0 0 0 0
theorem k_q124 {g : GG} (W : GW g) (x0 x1 : Addr) (H : List Ent) (Lt : List SE) : Ct g D65_q124 #[(.ref x0)] (oEV x0 (.ref x1) :: H) Lt (fun v vm h => v = some (.ref x1) ∧ Hp g vm h (oEV x0 (.ref x1) :: H) (Lt)) := by
  refine CtW.body (Ls := #[.val (.ref x0)]) W (by decide +kernel) (efr rfl) ?_
  intro M T B
  refine p_aloadN B d65_0 rfl rfl rfl ?_
  refine r_get B d65_1 rfl (host := "") (Or.inl (W208 B.gw)) Via.refl (v := (.ref x1)) (fO (i := 0) (j := 0) rfl rfl) fun T1 B2 => ?_
  exact r_reta B2 d65_4 rfl rfl rfl (by decide) (by decide) (fun vm h P => ⟨rfl, P⟩)
theorem law2 {g : GG} (W : GW g) {M : MM} {T : State} (p0 p1 p2 p3 n k0 k1 k2 k3 c0 c1 c2 c3 dc fl : Int32) (s0 s1 s2 s3 dt w : Addr) {sb0 sb1 sb2 sb3 dtb wb : Addr} {u0 u1 u2 u3 ds : List Int32} (hds : ds.length ≤ 1) {Lt : List SE} (ml0 : (s0, sb0, 0, u0.map Value.int) ∈ Lt) (hl0 : u0.length < 2147483648) (hd0 : isD u0 ↔ dk k0 c0 = true) (ml1 : (s1, sb1, 0, u1.map Value.int) ∈ Lt) (hl1 : u1.length < 2147483648) (hd1 : isD u1 ↔ dk k1 c1 = true) (ml2 : (s2, sb2, 0, u2.map Value.int) ∈ Lt) (hl2 : u2.length < 2147483648) (hd2 : isD u2 ↔ dk k2 c2 = true) (ml3 : (s3, sb3, 0, u3.map Value.int) ∈ Lt) (hl3 : u3.length < 2147483648) (hd3 : isD u3 ↔ dk k3 c3 = true) (md : (dt, dtb, 0, ds.map Value.int) ∈ Lt) (mw : (w, wb, 0, (dpre ++ ds).map Value.int) ∈ Lt) (B : RH g D0 M T [] Lt 17 96) : Fn g D0 M (fun v _ _ => v = some (.int 1)) (T.setTop (mkF M.m 256 #[.val (.int p0), .val (.int p1), .val (.int p2), .val (.int p3), .val (.int n), .val (.int k0), .val (.int k1), .val (.int k2), .val (.int k3), .val (.int c0), .val (.int c1), .val (.int c2), .val (.int c3), .val (.ref s0), .val (.ref s1), .val (.ref s2), .val (.ref s3), .val (.int dc), .val (.int fl), .val (.ref dt), .val (.ref w), .unset, .unset, .unset, .unset, .unset] [])) := by
  refine r_new B at_256 rfl (W49 B.gw) (W50 B.gw) (W51 B.gw) (Ly_oAL B.gw) (by decide) (cs' := 18) rfl (ss' := 99) rfl (by decide) (by decide) fun T1 a3 B2 => ?_
  refine p_dup B2 at_259 rfl rfl ?_
  refine r_special (D' := D12_w) B2 at_260 rfl rfl rfl (W52 B2.gw) (W53 B2.gw) (W51 B2.gw) (W54 B2.gw) (by decide) (c_ai W a3 _ _) (a := a3) (argsL := []) (rest := [(.ref a3)]) rfl pd9 rfl rfl rfl (W := 1) rfl (cs' := 18) (ss' := 99) (by decide) (Kv0 fun T4 B6 => ?_)
  refine p_astore B6 at_263 rfl rfl (Ls' := #[.val (.int p0), .val (.int p1), .val (.int p2), .val (.int p3), .val (.int n), .val (.int k0), .val (.int k1), .val (.int k2), .val (.int k3), .val (.int c0), .val (.int c1), .val (.int c2), .val (.int c3), .val (.ref s0), .val (.ref s1), .val (.ref s2), .val (.ref s3), .val (.int dc), .val (.int fl), .val (.ref dt), .val (.ref w), .val (.ref a3), .unset, .unset, .unset, .unset]) rfl ?_
  refine r_new B6 at_265 rfl (W49 B6.gw) (W50 B6.gw) (W51 B6.gw) (Ly_oAL B6.gw) (by decide) (cs' := 19) rfl (ss' := 102) rfl (by decide) (by decide) fun T7 a9 B8 => ?_
  refine p_dup B8 at_268 rfl rfl ?_
  refine r_special (D' := D12_w) B8 at_269 rfl rfl rfl (W52 B8.gw) (W53 B8.gw) (W51 B8.gw) (W54 B8.gw) (by decide) (c_ai W a9 _ _) (a := a9) (argsL := []) (rest := [(.ref a9)]) rfl pd9 rfl rfl rfl (W := 1) rfl (cs' := 19) (ss' := 102) (by decide) (Kv0 fun T10 B12 => ?_)
  refine p_astore B12 at_272 rfl rfl (Ls' := #[.val (.int p0), .val (.int p1), .val (.int p2), .val (.int p3), .val (.int n), .val (.int k0), .val (.int k1), .val (.int k2), .val (.int k3), .val (.int c0), .val (.int c1), .val (.int c2), .val (.int c3), .val (.ref s0), .val (.ref s1), .val (.ref s2), .val (.ref s3), .val (.int dc), .val (.int fl), .val (.ref dt), .val (.ref w), .val (.ref a3), .val (.ref a9), .unset, .unset, .unset]) rfl ?_
  refine p_iconst B12 at_274 rfl (v := (0 : Int32)) (by decide) ?_
  refine p_istore B12 at_275 rfl (Ls' := #[.val (.int p0), .val (.int p1), .val (.int p2), .val (.int p3), .val (.int n), .val (.int k0), .val (.int k1), .val (.int k2), .val (.int k3), .val (.int c0), .val (.int c1), .val (.int c2), .val (.int c3), .val (.ref s0), .val (.ref s1), .val (.ref s2), .val (.ref s3), .val (.int dc), .val (.int fl), .val (.ref dt), .val (.ref w), .val (.ref a3), .val (.ref a9), .val (.int 0), .unset, .unset]) rfl ?_
  refine p_iload B12 at_277 rfl rfl ?_
  by_cases hk0 : (0 : Int32) < n
  · refine b_ifF B12 at_279 (pc' := 282) rfl hk0 ?_
    refine p_aload B12 at_282 rfl rfl rfl ?_
    refine p_aload B12 at_284 rfl rfl rfl ?_
    have B13 : RH g D0 M T10 (AL g a3 a3 [] ++ (AL g a9 a9 [] ++ [])) (Lt) 19 102 := B12.perm (pm1 (AL g a9 a9 []) (AL g a3 a3 []))
    refine r_virtual (D' := D15_w) B13 at_286 rfl (W73 B13.gw) (W74 B13.gw) (W76 B13.gw) (fun vm0 hZ => notFace_of_selects (args := #[]) (mvT hZ (W76 B13.gw))) (W75 B13.gw) (W51 B13.gw) (W77 B13.gw) (by decide) (al_exa []) (W_add W a3 a3 s0 [] (by simp) _ _ ⟨_, _, _, ml0⟩) (argsL := [(.ref s0)]) (rest := []) rfl pd29 rfl rfl rfl (W := 0) rfl (cs' := 20) (ss' := 112) (by decide) (Kex fun b17 => Kv1 fun T14 B16 => ?_)
    have B18 : RH g D0 M T14 (AL g a3 b17 [s0] ++ (AL g a9 a9 [] ++ [])) (Lt) 20 112 := B16
    refine p_pop B18 at_289 rfl rfl ?_
    refine p_aload B18 at_290 rfl rfl rfl ?_
    refine p_aload B18 at_292 rfl rfl rfl ?_
    refine p_iload B18 at_294 rfl rfl ?_
    refine p_iload B18 at_296 rfl rfl ?_
    refine r_static (D' := D20_w) B18 at_298 rfl (W104 B18.gw) (W105 B18.gw) (W3 B18.gw) (W106 B18.gw) (by decide) (k_dk W k0 c0 _ _) (argsL := [(.int k0), (.int c0)]) (rest := [(.ref s0), (.ref a9)]) rfl pd50 rfl rfl rfl (W := 2) rfl (cs' := 20) (ss' := 112) (by decide) (Kex fun zd0 => Kv1 fun T19 B21 => ?_)
    replace B21 := Rn.and B21
    obtain ⟨hz0, B21⟩ := B21
    refine p_iload B21 at_301 rfl rfl ?_
    refine p_aload B21 at_303 rfl rfl rfl ?_
    have B22 : RH g D0 M T19 (AL g a9 a9 [] ++ (AL g a3 b17 [s0] ++ [])) (Lt) 20 112 := B21.perm (pm1 (AL g a3 b17 [s0]) (AL g a9 a9 []))
    refine r_static (D' := D21_w) B22 at_305 rfl (W107 B22.gw) (W108 B22.gw) (W3 B22.gw) (W109 B22.gw) (by decide) (k_ex W a9 a9 s0 w zd0 (0 : Int32) _ false [] (by simp) _ _ ml0 mw hz0 (Or.inl ⟨rfl, rfl⟩)) (argsL := [(.ref a9), (.ref s0), (.int zd0), (.int 0), (.ref w)]) (rest := []) rfl pd51 rfl rfl rfl (W := 0) rfl (cs' := 21) (ss' := 122) (by decide) fun T23 v24 B25 => ?_
    replace B25 := Rn.ex B25
    obtain ⟨f0, B25⟩ := B25
    replace B25 := Rn.ex B25
    obtain ⟨E0, B25⟩ := B25
    replace B25 := Rn.ex B25
    obtain ⟨t0, B25⟩ := B25
    replace B25 := Rn.ex B25
    obtain ⟨z0, B25⟩ := B25
    replace B25 := Rn.and B25
    obtain ⟨rfl, B25⟩ := B25
    replace B25 := Rn.and B25
    obtain ⟨hh0, B25⟩ := B25
    obtain ⟨hst0, hzz0, hle0⟩ := hh0
    have hlen0 : E0.length ≤ 1 := by simpa using hle0
    show Fn g D0 M _ (T23.setTop (mkF M.m 308 #[.val (.int p0), .val (.int p1), .val (.int p2), .val (.int p3), .val (.int n), .val (.int k0), .val (.int k1), .val (.int k2), .val (.int k3), .val (.int c0), .val (.int c1), .val (.int c2), .val (.int c3), .val (.ref s0), .val (.ref s1), .val (.ref s2), .val (.ref s3), .val (.int dc), .val (.int fl), .val (.ref dt), .val (.ref w), .val (.ref a3), .val (.ref a9), .val (.int 0), .unset, .unset] [(.int z0)]))
    refine p_istore B25 at_308 rfl (Ls' := #[.val (.int p0), .val (.int p1), .val (.int p2), .val (.int p3), .val (.int n), .val (.int k0), .val (.int k1), .val (.int k2), .val (.int k3), .val (.int c0), .val (.int c1), .val (.int c2), .val (.int c3), .val (.ref s0), .val (.ref s1), .val (.ref s2), .val (.ref s3), .val (.int dc), .val (.int fl), .val (.ref dt), .val (.ref w), .val (.ref a3), .val (.ref a9), .val (.int z0), .unset, .unset]) rfl ?_
    refine p_iload B25 at_310 rfl rfl ?_
    refine p_iconst B25 at_312 rfl (v := (1 : Int32)) (by decide) ?_
    by_cases hk1 : (1 : Int32) < n
    · refine b_icF B25 at_313 (pc' := 316) rfl hk1 ?_
      refine p_aload B25 at_316 rfl rfl rfl ?_
      refine p_aload B25 at_318 rfl rfl rfl ?_
      have B26 : RH g D0 M T23 (AL g a3 b17 [s0] ++ (AL g a9 f0 E0 ++ [])) (Lt) 21 122 := B25.perm (pm1 (AL g a9 f0 E0) (AL g a3 b17 [s0]))
      refine r_virtual (D' := D15_w) B26 at_320 rfl (W73 B26.gw) (W74 B26.gw) (W76 B26.gw) (fun vm0 hZ => notFace_of_selects (args := #[]) (mvT hZ (W76 B26.gw))) (W75 B26.gw) (W51 B26.gw) (W77 B26.gw) (by decide) (al_exa [s0]) (W_add W a3 b17 s1 [s0] (by simp) _ _ ⟨_, _, _, ml1⟩) (argsL := [(.ref s1)]) (rest := []) rfl pd29 rfl rfl rfl (W := 0) rfl (cs' := 22) (ss' := 132) (by decide) (Kex fun b30 => Kv1 fun T27 B29 => ?_)
      have B31 : RH g D0 M T27 (AL g a3 b30 [s0, s1] ++ (AL g a9 f0 E0 ++ [])) (Lt) 22 132 := B29
      refine p_pop B31 at_323 rfl rfl ?_
      refine p_aload B31 at_324 rfl rfl rfl ?_
      refine p_aload B31 at_326 rfl rfl rfl ?_
      refine p_iload B31 at_328 rfl rfl ?_
      refine p_iload B31 at_330 rfl rfl ?_
      refine r_static (D' := D20_w) B31 at_332 rfl (W104 B31.gw) (W105 B31.gw) (W3 B31.gw) (W106 B31.gw) (by decide) (k_dk W k1 c1 _ _) (argsL := [(.int k1), (.int c1)]) (rest := [(.ref s1), (.ref a9)]) rfl pd50 rfl rfl rfl (W := 2) rfl (cs' := 22) (ss' := 132) (by decide) (Kex fun zd1 => Kv1 fun T32 B34 => ?_)
      replace B34 := Rn.and B34
      obtain ⟨hz1, B34⟩ := B34
      refine p_iload B34 at_335 rfl rfl ?_
      refine p_aload B34 at_337 rfl rfl rfl ?_
      have B35 : RH g D0 M T32 (AL g a9 f0 E0 ++ (AL g a3 b30 [s0, s1] ++ [])) (Lt) 22 132 := B34.perm (pm1 (AL g a3 b30 [s0, s1]) (AL g a9 f0 E0))
      refine r_static (D' := D21_w) B35 at_339 rfl (W107 B35.gw) (W108 B35.gw) (W3 B35.gw) (W109 B35.gw) (by decide) (k_ex W a9 f0 s1 w zd1 z0 _ t0 E0 (by omega) _ _ ml1 mw hz1 hzz0) (argsL := [(.ref a9), (.ref s1), (.int zd1), (.int z0), (.ref w)]) (rest := []) rfl pd51 rfl rfl rfl (W := 0) rfl (cs' := 23) (ss' := 142) (by decide) fun T36 v37 B38 => ?_
      replace B38 := Rn.ex B38
      obtain ⟨f1, B38⟩ := B38
      replace B38 := Rn.ex B38
      obtain ⟨E1, B38⟩ := B38
      replace B38 := Rn.ex B38
      obtain ⟨t1, B38⟩ := B38
      replace B38 := Rn.ex B38
      obtain ⟨z1, B38⟩ := B38
      replace B38 := Rn.and B38
      obtain ⟨rfl, B38⟩ := B38
      replace B38 := Rn.and B38
      obtain ⟨hh1, B38⟩ := B38
      obtain ⟨hst1, hzz1, hle1⟩ := hh1
      have hlen1 : E1.length ≤ 2 := by omega
      show Fn g D0 M _ (T36.setTop (mkF M.m 342 #[.val (.int p0), .val (.int p1), .val (.int p2), .val (.int p3), .val (.int n), .val (.int k0), .val (.int k1), .val (.int k2), .val (.int k3), .val (.int c0), .val (.int c1), .val (.int c2), .val (.int c3), .val (.ref s0), .val (.ref s1), .val (.ref s2), .val (.ref s3), .val (.int dc), .val (.int fl), .val (.ref dt), .val (.ref w), .val (.ref a3), .val (.ref a9), .val (.int z0), .unset, .unset] [(.int z1)]))
      refine p_istore B38 at_342 rfl (Ls' := #[.val (.int p0), .val (.int p1), .val (.int p2), .val (.int p3), .val (.int n), .val (.int k0), .val (.int k1), .val (.int k2), .val (.int k3), .val (.int c0), .val (.int c1), .val (.int c2), .val (.int c3), .val (.ref s0), .val (.ref s1), .val (.ref s2), .val (.ref s3), .val (.int dc), .val (.int fl), .val (.ref dt), .val (.ref w), .val (.ref a3), .val (.ref a9), .val (.int z1), .unset, .unset]) rfl ?_
      refine p_iload B38 at_344 rfl rfl ?_
      refine p_iconst B38 at_346 rfl (v := (2 : Int32)) (by decide) ?_
      by_cases hk2 : (2 : Int32) < n
      · refine b_icF B38 at_347 (pc' := 350) rfl hk2 ?_
        refine p_aload B38 at_350 rfl rfl rfl ?_
        refine p_aload B38 at_352 rfl rfl rfl ?_
        have B39 : RH g D0 M T36 (AL g a3 b30 [s0, s1] ++ (AL g a9 f1 E1 ++ [])) (Lt) 23 142 := B38.perm (pm1 (AL g a9 f1 E1) (AL g a3 b30 [s0, s1]))
        refine r_virtual (D' := D15_w) B39 at_354 rfl (W73 B39.gw) (W74 B39.gw) (W76 B39.gw) (fun vm0 hZ => notFace_of_selects (args := #[]) (mvT hZ (W76 B39.gw))) (W75 B39.gw) (W51 B39.gw) (W77 B39.gw) (by decide) (al_exa [s0, s1]) (W_add W a3 b30 s2 [s0, s1] (by simp) _ _ ⟨_, _, _, ml2⟩) (argsL := [(.ref s2)]) (rest := []) rfl pd29 rfl rfl rfl (W := 0) rfl (cs' := 24) (ss' := 152) (by decide) (Kex fun b43 => Kv1 fun T40 B42 => ?_)
        have B44 : RH g D0 M T40 (AL g a3 b43 [s0, s1, s2] ++ (AL g a9 f1 E1 ++ [])) (Lt) 24 152 := B42
        refine p_pop B44 at_357 rfl rfl ?_
        refine p_aload B44 at_358 rfl rfl rfl ?_
        refine p_aload B44 at_360 rfl rfl rfl ?_
        refine p_iload B44 at_362 rfl rfl ?_
        refine p_iload B44 at_364 rfl rfl ?_
        refine r_static (D' := D20_w) B44 at_366 rfl (W104 B44.gw) (W105 B44.gw) (W3 B44.gw) (W106 B44.gw) (by decide) (k_dk W k2 c2 _ _) (argsL := [(.int k2), (.int c2)]) (rest := [(.ref s2), (.ref a9)]) rfl pd50 rfl rfl rfl (W := 2) rfl (cs' := 24) (ss' := 152) (by decide) (Kex fun zd2 => Kv1 fun T45 B47 => ?_)
        replace B47 := Rn.and B47
        obtain ⟨hz2, B47⟩ := B47
        refine p_iload B47 at_369 rfl rfl ?_
        refine p_aload B47 at_371 rfl rfl rfl ?_
        have B48 : RH g D0 M T45 (AL g a9 f1 E1 ++ (AL g a3 b43 [s0, s1, s2] ++ [])) (Lt) 24 152 := B47.perm (pm1 (AL g a3 b43 [s0, s1, s2]) (AL g a9 f1 E1))
        refine r_static (D' := D21_w) B48 at_373 rfl (W107 B48.gw) (W108 B48.gw) (W3 B48.gw) (W109 B48.gw) (by decide) (k_ex W a9 f1 s2 w zd2 z1 _ t1 E1 (by omega) _ _ ml2 mw hz2 hzz1) (argsL := [(.ref a9), (.ref s2), (.int zd2), (.int z1), (.ref w)]) (rest := []) rfl pd51 rfl rfl rfl (W := 0) rfl (cs' := 25) (ss' := 162) (by decide) fun T49 v50 B51 => ?_
        replace B51 := Rn.ex B51
        obtain ⟨f2, B51⟩ := B51
        replace B51 := Rn.ex B51
        obtain ⟨E2, B51⟩ := B51
        replace B51 := Rn.ex B51
        obtain ⟨t2, B51⟩ := B51
        replace B51 := Rn.ex B51
        obtain ⟨z2, B51⟩ := B51
        replace B51 := Rn.and B51
        obtain ⟨rfl, B51⟩ := B51
        replace B51 := Rn.and B51
        obtain ⟨hh2, B51⟩ := B51
        obtain ⟨hst2, hzz2, hle2⟩ := hh2
        have hlen2 : E2.length ≤ 3 := by omega
        show Fn g D0 M _ (T49.setTop (mkF M.m 376 #[.val (.int p0), .val (.int p1), .val (.int p2), .val (.int p3), .val (.int n), .val (.int k0), .val (.int k1), .val (.int k2), .val (.int k3), .val (.int c0), .val (.int c1), .val (.int c2), .val (.int c3), .val (.ref s0), .val (.ref s1), .val (.ref s2), .val (.ref s3), .val (.int dc), .val (.int fl), .val (.ref dt), .val (.ref w), .val (.ref a3), .val (.ref a9), .val (.int z1), .unset, .unset] [(.int z2)]))
        refine p_istore B51 at_376 rfl (Ls' := #[.val (.int p0), .val (.int p1), .val (.int p2), .val (.int p3), .val (.int n), .val (.int k0), .val (.int k1), .val (.int k2), .val (.int k3), .val (.int c0), .val (.int c1), .val (.int c2), .val (.int c3), .val (.ref s0), .val (.ref s1), .val (.ref s2), .val (.ref s3), .val (.int dc), .val (.int fl), .val (.ref dt), .val (.ref w), .val (.ref a3), .val (.ref a9), .val (.int z2), .unset, .unset]) rfl ?_
        refine p_iload B51 at_378 rfl rfl ?_
        refine p_iconst B51 at_380 rfl (v := (3 : Int32)) (by decide) ?_
        by_cases hk3 : (3 : Int32) < n
        · refine b_icF B51 at_381 (pc' := 384) rfl hk3 ?_
          refine p_aload B51 at_384 rfl rfl rfl ?_
          refine p_aload B51 at_386 rfl rfl rfl ?_
          have B52 : RH g D0 M T49 (AL g a3 b43 [s0, s1, s2] ++ (AL g a9 f2 E2 ++ [])) (Lt) 25 162 := B51.perm (pm1 (AL g a9 f2 E2) (AL g a3 b43 [s0, s1, s2]))
          refine r_virtual (D' := D15_w) B52 at_388 rfl (W73 B52.gw) (W74 B52.gw) (W76 B52.gw) (fun vm0 hZ => notFace_of_selects (args := #[]) (mvT hZ (W76 B52.gw))) (W75 B52.gw) (W51 B52.gw) (W77 B52.gw) (by decide) (al_exa [s0, s1, s2]) (W_add W a3 b43 s3 [s0, s1, s2] (by simp) _ _ ⟨_, _, _, ml3⟩) (argsL := [(.ref s3)]) (rest := []) rfl pd29 rfl rfl rfl (W := 0) rfl (cs' := 26) (ss' := 172) (by decide) (Kex fun b56 => Kv1 fun T53 B55 => ?_)
          have B57 : RH g D0 M T53 (AL g a3 b56 [s0, s1, s2, s3] ++ (AL g a9 f2 E2 ++ [])) (Lt) 26 172 := B55
          refine p_pop B57 at_391 rfl rfl ?_
          refine p_aload B57 at_392 rfl rfl rfl ?_
          refine p_aload B57 at_394 rfl rfl rfl ?_
          refine p_iload B57 at_396 rfl rfl ?_
          refine p_iload B57 at_398 rfl rfl ?_
          refine r_static (D' := D20_w) B57 at_400 rfl (W104 B57.gw) (W105 B57.gw) (W3 B57.gw) (W106 B57.gw) (by decide) (k_dk W k3 c3 _ _) (argsL := [(.int k3), (.int c3)]) (rest := [(.ref s3), (.ref a9)]) rfl pd50 rfl rfl rfl (W := 2) rfl (cs' := 26) (ss' := 172) (by decide) (Kex fun zd3 => Kv1 fun T58 B60 => ?_)
          replace B60 := Rn.and B60
          obtain ⟨hz3, B60⟩ := B60
          refine p_iload B60 at_403 rfl rfl ?_
          refine p_aload B60 at_405 rfl rfl rfl ?_
          have B61 : RH g D0 M T58 (AL g a9 f2 E2 ++ (AL g a3 b56 [s0, s1, s2, s3] ++ [])) (Lt) 26 172 := B60.perm (pm1 (AL g a3 b56 [s0, s1, s2, s3]) (AL g a9 f2 E2))
          refine r_static (D' := D21_w) B61 at_407 rfl (W107 B61.gw) (W108 B61.gw) (W3 B61.gw) (W109 B61.gw) (by decide) (k_ex W a9 f2 s3 w zd3 z2 _ t2 E2 (by omega) _ _ ml3 mw hz3 hzz2) (argsL := [(.ref a9), (.ref s3), (.int zd3), (.int z2), (.ref w)]) (rest := []) rfl pd51 rfl rfl rfl (W := 0) rfl (cs' := 27) (ss' := 182) (by decide) fun T62 v63 B64 => ?_
          replace B64 := Rn.ex B64
          obtain ⟨f3, B64⟩ := B64
          replace B64 := Rn.ex B64
          obtain ⟨E3, B64⟩ := B64
          replace B64 := Rn.ex B64
          obtain ⟨t3, B64⟩ := B64
          replace B64 := Rn.ex B64
          obtain ⟨z3, B64⟩ := B64
          replace B64 := Rn.and B64
          obtain ⟨rfl, B64⟩ := B64
          replace B64 := Rn.and B64
          obtain ⟨hh3, B64⟩ := B64
          obtain ⟨hst3, hzz3, hle3⟩ := hh3
          have hlen3 : E3.length ≤ 4 := by omega
          show Fn g D0 M _ (T62.setTop (mkF M.m 410 #[.val (.int p0), .val (.int p1), .val (.int p2), .val (.int p3), .val (.int n), .val (.int k0), .val (.int k1), .val (.int k2), .val (.int k3), .val (.int c0), .val (.int c1), .val (.int c2), .val (.int c3), .val (.ref s0), .val (.ref s1), .val (.ref s2), .val (.ref s3), .val (.int dc), .val (.int fl), .val (.ref dt), .val (.ref w), .val (.ref a3), .val (.ref a9), .val (.int z2), .unset, .unset] [(.int z3)]))
          refine p_istore B64 at_410 rfl (Ls' := #[.val (.int p0), .val (.int p1), .val (.int p2), .val (.int p3), .val (.int n), .val (.int k0), .val (.int k1), .val (.int k2), .val (.int k3), .val (.int c0), .val (.int c1), .val (.int c2), .val (.int c3), .val (.ref s0), .val (.ref s1), .val (.ref s2), .val (.ref s3), .val (.int dc), .val (.int fl), .val (.ref dt), .val (.ref w), .val (.ref a3), .val (.ref a9), .val (.int z3), .unset, .unset]) rfl ?_
          refine r_new B64 at_412 rfl (W110 B64.gw) (W111 B64.gw) (W112 B64.gw) (Ly_oEV B64.gw) (by decide) (cs' := 28) rfl (ss' := 183) rfl (by decide) (by decide) fun T65 a67 B66 => ?_
          refine p_dup B66 at_415 rfl rfl ?_
          refine p_aload B66 at_416 rfl rfl rfl ?_
          have B68 : RH g D0 M T65 (AL g a3 b56 [s0, s1, s2, s3] ++ (oEV a67 .null :: (AL g a9 f3 E3 ++ []))) (Lt) 28 183 := B66.perm (pm2 [oEV a67 .null] (AL g a9 f3 E3) (AL g a3 b56 [s0, s1, s2, s3]))
          have B69 : RH g D0 M T65 (oEV a67 .null :: (AL g a3 b56 [s0, s1, s2, s3] ++ (AL g a9 f3 E3 ++ []))) (Lt) 28 183 := B68.perm (pm1 (AL g a3 b56 [s0, s1, s2, s3]) [oEV a67 .null])
          refine r_special (D' := D22_w) B69 at_418 rfl rfl rfl (W113 B69.gw) (W114 B69.gw) (W112 B69.gw) (W115 B69.gw) (by decide) (W_ei W a67 a3 b56 [s0, s1, s2, s3] (by simp) _ _ (List.forall_mem_cons.2 ⟨⟨_, _, _, ml0⟩, List.forall_mem_cons.2 ⟨⟨_, _, _, ml1⟩, List.forall_mem_cons.2 ⟨⟨_, _, _, ml2⟩, List.forall_mem_cons.2 ⟨⟨_, _, _, ml3⟩, nofun⟩⟩⟩⟩)) (a := a67) (argsL := [(.ref a3)]) (rest := [(.ref a67)]) rfl pd44 rfl rfl rfl (W := 1) rfl (cs' := 31) (ss' := 193) (by decide) (Kex fun c73 => Kex fun d74 => Kv0 fun T70 B72 => ?_)
          refine p_aload B72 at_421 rfl rfl rfl ?_
          have B75 : RH g D0 M T70 (IL g c73 d74 [s0, s1, s2, s3] ++ (oEV a67 (.ref (ilA g c73 [s0, s1, s2, s3])) :: (AL g a3 b56 [s0, s1, s2, s3] ++ (AL g a9 f3 E3 ++ [])))) (Lt) 31 193 := B72.perm (pm2 [oEV a67 (.ref (ilA g c73 [s0, s1, s2, s3]))] (AL g a3 b56 [s0, s1, s2, s3]) (IL g c73 d74 [s0, s1, s2, s3]))
          have B76 : RH g D0 M T70 (oEV a67 (.ref (ilA g c73 [s0, s1, s2, s3])) :: (IL g c73 d74 [s0, s1, s2, s3] ++ (AL g a3 b56 [s0, s1, s2, s3] ++ (AL g a9 f3 E3 ++ [])))) (Lt) 31 193 := B75.perm (pm1 (IL g c73 d74 [s0, s1, s2, s3]) [oEV a67 (.ref (ilA g c73 [s0, s1, s2, s3]))])
          refine r_virtual (D' := D36_w) B76 at_423 rfl (W210 B76.gw) (W211 B76.gw) (W213 B76.gw) (fun vm0 hZ => notFace_of_selects (args := #[]) (mvT hZ (W213 B76.gw))) (W212 B76.gw) (W112 B76.gw) (W214 B76.gw) (by decide) (fE (i := 0) rfl) (k_wd W a67 dt c73 d74 [(s0, dk k0 c0), (s1, dk k1 c1), (s2, dk k2 c2), (s3, dk k3 c3)] (by simp) _ _ hds w md mw (List.forall_mem_cons.2 ⟨⟨_, _, ml0, hl0, hd0.symm⟩, List.forall_mem_cons.2 ⟨⟨_, _, ml1, hl1, hd1.symm⟩, List.forall_mem_cons.2 ⟨⟨_, _, ml2, hl2, hd2.symm⟩, List.forall_mem_cons.2 ⟨⟨_, _, ml3, hl3, hd3.symm⟩, nofun⟩⟩⟩⟩)) (argsL := [(.ref dt)]) (rest := []) rfl pd52 rfl rfl rfl (W := 0) rfl (cs' := 81) (ss' := 699) (by decide) (Kex fun ev80 => Kex fun c81 => Kex fun d82 => Kex fun G83 => Kex fun Lt84 => Kv1 fun T77 B79 => ?_)
          replace B79 := Rn.and B79
          obtain ⟨hq85, B79⟩ := B79
          refine p_astore B79 at_426 rfl rfl (Ls' := #[.val (.int p0), .val (.int p1), .val (.int p2), .val (.int p3), .val (.int n), .val (.int k0), .val (.int k1), .val (.int k2), .val (.int k3), .val (.int c0), .val (.int c1), .val (.int c2), .val (.int c3), .val (.ref s0), .val (.ref s1), .val (.ref s2), .val (.ref s3), .val (.int dc), .val (.int fl), .val (.ref dt), .val (.ref w), .val (.ref a3), .val (.ref a9), .val (.int z3), .val (.ref ev80), .unset]) rfl ?_
          refine p_aload B79 at_428 rfl rfl rfl ?_
          refine r_virtual (D' := D65_q124) B79 at_430 rfl (W399 B79.gw) (W400 B79.gw) (W402 B79.gw) (fun vm0 hZ => notFace_of_selects (args := #[]) (mvT hZ (W402 B79.gw))) (W401 B79.gw) (W112 B79.gw) (W403 B79.gw) (by decide) (fE (i := 0) rfl) (k_q124 W ev80 (ilA g c81 G83) _ _) (argsL := []) (rest := []) rfl pd15 rfl rfl rfl (W := 0) rfl (cs' := 81) (ss' := 699) (by decide) (Kv1 fun T86 B88 => ?_)
          refine p_astore B88 at_433 rfl rfl (Ls' := #[.val (.int p0), .val (.int p1), .val (.int p2), .val (.int p3), .val (.int n), .val (.int k0), .val (.int k1), .val (.int k2), .val (.int k3), .val (.int c0), .val (.int c1), .val (.int c2), .val (.int c3), .val (.ref s0), .val (.ref s1), .val (.ref s2), .val (.ref s3), .val (.int dc), .val (.int fl), .val (.ref dt), .val (.ref w), .val (.ref a3), .val (.ref a9), .val (.int z3), .val (.ref ev80), .val (.ref (ilA g c81 G83))]) rfl ?_
          refine p_aload B88 at_435 rfl rfl rfl ?_
          refine p_aload B88 at_437 rfl rfl rfl ?_
          have B89 : RH g D0 M T86 (AL g a9 f3 E3 ++ (oEV ev80 (.ref (ilA g c81 G83)) :: (IL g c81 d82 G83 ++ (AL g a3 b56 [s0, s1, s2, s3] ++ [])))) (Lt84) 81 699 := B88.perm (pm3 [oEV ev80 (.ref (ilA g c81 G83))] (IL g c81 d82 G83) (AL g a3 b56 [s0, s1, s2, s3]) (AL g a9 f3 E3))
          have B90 : RH g D0 M T86 (IL g c81 d82 G83 ++ (AL g a9 f3 E3 ++ (oEV ev80 (.ref (ilA g c81 G83)) :: (AL g a3 b56 [s0, s1, s2, s3] ++ [])))) (Lt84) 81 699 := B89.perm (pm2 (AL g a9 f3 E3) [oEV ev80 (.ref (ilA g c81 G83))] (IL g c81 d82 G83))
          have hf : ([(s0, dk k0 c0), (s1, dk k1 c1), (s2, dk k2 c2), (s3, dk k3 c3)] : List (Addr × Bool)).foldl (stp w) ([], false) = (E3, t3) := by
            show stp w (stp w (stp w (stp w ([], false) (s0, dk k0 c0)) (s1, dk k1 c1)) (s2, dk k2 c2)) (s3, dk k3 c3) = _
            rw [← hst0, ← hst1, ← hst2, ← hst3]
          rw [hf] at hq85
          refine r_static (D' := D66_w) B90 at_439 rfl (W404 B90.gw) (W405 B90.gw) (W3 B90.gw) (W406 B90.gw) (by decide) (W_sm W c81 d82 a9 f3 G83 E3 hq85.2 _ _ hq85.1) (argsL := [(.ref (ilA g c81 G83)), (.ref a9)]) (rest := []) rfl pd53 rfl rfl rfl (W := 0) rfl (cs' := 81) (ss' := 699) (by decide) (Kv1 fun T91 B93 => ?_)
          exact r_reti B93 at_442 rfl (by simp) rfl (by decide) (by decide) (fun vm h P => rfl)
        · refine b_icT B51 at_381 (pc' := 412) hk3 (by decide) (by decide) ?_
          refine r_new B51 at_412 rfl (W110 B51.gw) (W111 B51.gw) (W112 B51.gw) (Ly_oEV B51.gw) (by decide) (cs' := 26) rfl (ss' := 163) rfl (by decide) (by decide) fun T94 a96 B95 => ?_
          refine p_dup B95 at_415 rfl rfl ?_
          refine p_aload B95 at_416 rfl rfl rfl ?_
          have B97 : RH g D0 M T94 (AL g a3 b43 [s0, s1, s2] ++ (oEV a96 .null :: (AL g a9 f2 E2 ++ []))) (Lt) 26 163 := B95.perm (pm2 [oEV a96 .null] (AL g a9 f2 E2) (AL g a3 b43 [s0, s1, s2]))
          have B98 : RH g D0 M T94 (oEV a96 .null :: (AL g a3 b43 [s0, s1, s2] ++ (AL g a9 f2 E2 ++ []))) (Lt) 26 163 := B97.perm (pm1 (AL g a3 b43 [s0, s1, s2]) [oEV a96 .null])
          refine r_special (D' := D22_w) B98 at_418 rfl rfl rfl (W113 B98.gw) (W114 B98.gw) (W112 B98.gw) (W115 B98.gw) (by decide) (W_ei W a96 a3 b43 [s0, s1, s2] (by simp) _ _ (List.forall_mem_cons.2 ⟨⟨_, _, _, ml0⟩, List.forall_mem_cons.2 ⟨⟨_, _, _, ml1⟩, List.forall_mem_cons.2 ⟨⟨_, _, _, ml2⟩, nofun⟩⟩⟩)) (a := a96) (argsL := [(.ref a3)]) (rest := [(.ref a96)]) rfl pd44 rfl rfl rfl (W := 1) rfl (cs' := 29) (ss' := 173) (by decide) (Kex fun c102 => Kex fun d103 => Kv0 fun T99 B101 => ?_)
          refine p_aload B101 at_421 rfl rfl rfl ?_
          have B104 : RH g D0 M T99 (IL g c102 d103 [s0, s1, s2] ++ (oEV a96 (.ref (ilA g c102 [s0, s1, s2])) :: (AL g a3 b43 [s0, s1, s2] ++ (AL g a9 f2 E2 ++ [])))) (Lt) 29 173 := B101.perm (pm2 [oEV a96 (.ref (ilA g c102 [s0, s1, s2]))] (AL g a3 b43 [s0, s1, s2]) (IL g c102 d103 [s0, s1, s2]))
          have B105 : RH g D0 M T99 (oEV a96 (.ref (ilA g c102 [s0, s1, s2])) :: (IL g c102 d103 [s0, s1, s2] ++ (AL g a3 b43 [s0, s1, s2] ++ (AL g a9 f2 E2 ++ [])))) (Lt) 29 173 := B104.perm (pm1 (IL g c102 d103 [s0, s1, s2]) [oEV a96 (.ref (ilA g c102 [s0, s1, s2]))])
          refine r_virtual (D' := D36_w) B105 at_423 rfl (W210 B105.gw) (W211 B105.gw) (W213 B105.gw) (fun vm0 hZ => notFace_of_selects (args := #[]) (mvT hZ (W213 B105.gw))) (W212 B105.gw) (W112 B105.gw) (W214 B105.gw) (by decide) (fE (i := 0) rfl) (k_wd W a96 dt c102 d103 [(s0, dk k0 c0), (s1, dk k1 c1), (s2, dk k2 c2)] (by simp) _ _ hds w md mw (List.forall_mem_cons.2 ⟨⟨_, _, ml0, hl0, hd0.symm⟩, List.forall_mem_cons.2 ⟨⟨_, _, ml1, hl1, hd1.symm⟩, List.forall_mem_cons.2 ⟨⟨_, _, ml2, hl2, hd2.symm⟩, nofun⟩⟩⟩)) (argsL := [(.ref dt)]) (rest := []) rfl pd52 rfl rfl rfl (W := 0) rfl (cs' := 79) (ss' := 679) (by decide) (Kex fun ev109 => Kex fun c110 => Kex fun d111 => Kex fun G112 => Kex fun Lt113 => Kv1 fun T106 B108 => ?_)
          replace B108 := Rn.and B108
          obtain ⟨hq114, B108⟩ := B108
          refine p_astore B108 at_426 rfl rfl (Ls' := #[.val (.int p0), .val (.int p1), .val (.int p2), .val (.int p3), .val (.int n), .val (.int k0), .val (.int k1), .val (.int k2), .val (.int k3), .val (.int c0), .val (.int c1), .val (.int c2), .val (.int c3), .val (.ref s0), .val (.ref s1), .val (.ref s2), .val (.ref s3), .val (.int dc), .val (.int fl), .val (.ref dt), .val (.ref w), .val (.ref a3), .val (.ref a9), .val (.int z2), .val (.ref ev109), .unset]) rfl ?_
          refine p_aload B108 at_428 rfl rfl rfl ?_
          refine r_virtual (D' := D65_q124) B108 at_430 rfl (W399 B108.gw) (W400 B108.gw) (W402 B108.gw) (fun vm0 hZ => notFace_of_selects (args := #[]) (mvT hZ (W402 B108.gw))) (W401 B108.gw) (W112 B108.gw) (W403 B108.gw) (by decide) (fE (i := 0) rfl) (k_q124 W ev109 (ilA g c110 G112) _ _) (argsL := []) (rest := []) rfl pd15 rfl rfl rfl (W := 0) rfl (cs' := 79) (ss' := 679) (by decide) (Kv1 fun T115 B117 => ?_)
          refine p_astore B117 at_433 rfl rfl (Ls' := #[.val (.int p0), .val (.int p1), .val (.int p2), .val (.int p3), .val (.int n), .val (.int k0), .val (.int k1), .val (.int k2), .val (.int k3), .val (.int c0), .val (.int c1), .val (.int c2), .val (.int c3), .val (.ref s0), .val (.ref s1), .val (.ref s2), .val (.ref s3), .val (.int dc), .val (.int fl), .val (.ref dt), .val (.ref w), .val (.ref a3), .val (.ref a9), .val (.int z2), .val (.ref ev109), .val (.ref (ilA g c110 G112))]) rfl ?_
          refine p_aload B117 at_435 rfl rfl rfl ?_
          refine p_aload B117 at_437 rfl rfl rfl ?_
          have B118 : RH g D0 M T115 (AL g a9 f2 E2 ++ (oEV ev109 (.ref (ilA g c110 G112)) :: (IL g c110 d111 G112 ++ (AL g a3 b43 [s0, s1, s2] ++ [])))) (Lt113) 79 679 := B117.perm (pm3 [oEV ev109 (.ref (ilA g c110 G112))] (IL g c110 d111 G112) (AL g a3 b43 [s0, s1, s2]) (AL g a9 f2 E2))
          have B119 : RH g D0 M T115 (IL g c110 d111 G112 ++ (AL g a9 f2 E2 ++ (oEV ev109 (.ref (ilA g c110 G112)) :: (AL g a3 b43 [s0, s1, s2] ++ [])))) (Lt113) 79 679 := B118.perm (pm2 (AL g a9 f2 E2) [oEV ev109 (.ref (ilA g c110 G112))] (IL g c110 d111 G112))
          have hf : ([(s0, dk k0 c0), (s1, dk k1 c1), (s2, dk k2 c2)] : List (Addr × Bool)).foldl (stp w) ([], false) = (E2, t2) := by
            show stp w (stp w (stp w ([], false) (s0, dk k0 c0)) (s1, dk k1 c1)) (s2, dk k2 c2) = _
            rw [← hst0, ← hst1, ← hst2]
          rw [hf] at hq114
          refine r_static (D' := D66_w) B119 at_439 rfl (W404 B119.gw) (W405 B119.gw) (W3 B119.gw) (W406 B119.gw) (by decide) (W_sm W c110 d111 a9 f2 G112 E2 hq114.2 _ _ hq114.1) (argsL := [(.ref (ilA g c110 G112)), (.ref a9)]) (rest := []) rfl pd53 rfl rfl rfl (W := 0) rfl (cs' := 79) (ss' := 679) (by decide) (Kv1 fun T120 B122 => ?_)
          exact r_reti B122 at_442 rfl (by simp) rfl (by decide) (by decide) (fun vm h P => rfl)
      · refine b_icT B38 at_347 (pc' := 378) hk2 (by decide) (by decide) ?_
        refine p_iload B38 at_378 rfl rfl ?_
        refine p_iconst B38 at_380 rfl (v := (3 : Int32)) (by decide) ?_
        refine b_icT B38 at_381 (pc' := 412) (nlt hk2 (by decide)) (by decide) (by decide) ?_
        refine r_new B38 at_412 rfl (W110 B38.gw) (W111 B38.gw) (W112 B38.gw) (Ly_oEV B38.gw) (by decide) (cs' := 24) rfl (ss' := 143) rfl (by decide) (by decide) fun T123 a125 B124 => ?_
        refine p_dup B124 at_415 rfl rfl ?_
        refine p_aload B124 at_416 rfl rfl rfl ?_
        have B126 : RH g D0 M T123 (AL g a3 b30 [s0, s1] ++ (oEV a125 .null :: (AL g a9 f1 E1 ++ []))) (Lt) 24 143 := B124.perm (pm2 [oEV a125 .null] (AL g a9 f1 E1) (AL g a3 b30 [s0, s1]))
        have B127 : RH g D0 M T123 (oEV a125 .null :: (AL g a3 b30 [s0, s1] ++ (AL g a9 f1 E1 ++ []))) (Lt) 24 143 := B126.perm (pm1 (AL g a3 b30 [s0, s1]) [oEV a125 .null])
        refine r_special (D' := D22_w) B127 at_418 rfl rfl rfl (W113 B127.gw) (W114 B127.gw) (W112 B127.gw) (W115 B127.gw) (by decide) (W_ei W a125 a3 b30 [s0, s1] (by simp) _ _ (List.forall_mem_cons.2 ⟨⟨_, _, _, ml0⟩, List.forall_mem_cons.2 ⟨⟨_, _, _, ml1⟩, nofun⟩⟩)) (a := a125) (argsL := [(.ref a3)]) (rest := [(.ref a125)]) rfl pd44 rfl rfl rfl (W := 1) rfl (cs' := 27) (ss' := 153) (by decide) (Kex fun c131 => Kex fun d132 => Kv0 fun T128 B130 => ?_)
        refine p_aload B130 at_421 rfl rfl rfl ?_
        have B133 : RH g D0 M T128 (IL g c131 d132 [s0, s1] ++ (oEV a125 (.ref (ilA g c131 [s0, s1])) :: (AL g a3 b30 [s0, s1] ++ (AL g a9 f1 E1 ++ [])))) (Lt) 27 153 := B130.perm (pm2 [oEV a125 (.ref (ilA g c131 [s0, s1]))] (AL g a3 b30 [s0, s1]) (IL g c131 d132 [s0, s1]))
        have B134 : RH g D0 M T128 (oEV a125 (.ref (ilA g c131 [s0, s1])) :: (IL g c131 d132 [s0, s1] ++ (AL g a3 b30 [s0, s1] ++ (AL g a9 f1 E1 ++ [])))) (Lt) 27 153 := B133.perm (pm1 (IL g c131 d132 [s0, s1]) [oEV a125 (.ref (ilA g c131 [s0, s1]))])
        refine r_virtual (D' := D36_w) B134 at_423 rfl (W210 B134.gw) (W211 B134.gw) (W213 B134.gw) (fun vm0 hZ => notFace_of_selects (args := #[]) (mvT hZ (W213 B134.gw))) (W212 B134.gw) (W112 B134.gw) (W214 B134.gw) (by decide) (fE (i := 0) rfl) (k_wd W a125 dt c131 d132 [(s0, dk k0 c0), (s1, dk k1 c1)] (by simp) _ _ hds w md mw (List.forall_mem_cons.2 ⟨⟨_, _, ml0, hl0, hd0.symm⟩, List.forall_mem_cons.2 ⟨⟨_, _, ml1, hl1, hd1.symm⟩, nofun⟩⟩)) (argsL := [(.ref dt)]) (rest := []) rfl pd52 rfl rfl rfl (W := 0) rfl (cs' := 77) (ss' := 659) (by decide) (Kex fun ev138 => Kex fun c139 => Kex fun d140 => Kex fun G141 => Kex fun Lt142 => Kv1 fun T135 B137 => ?_)
        replace B137 := Rn.and B137
        obtain ⟨hq143, B137⟩ := B137
        refine p_astore B137 at_426 rfl rfl (Ls' := #[.val (.int p0), .val (.int p1), .val (.int p2), .val (.int p3), .val (.int n), .val (.int k0), .val (.int k1), .val (.int k2), .val (.int k3), .val (.int c0), .val (.int c1), .val (.int c2), .val (.int c3), .val (.ref s0), .val (.ref s1), .val (.ref s2), .val (.ref s3), .val (.int dc), .val (.int fl), .val (.ref dt), .val (.ref w), .val (.ref a3), .val (.ref a9), .val (.int z1), .val (.ref ev138), .unset]) rfl ?_
        refine p_aload B137 at_428 rfl rfl rfl ?_
        refine r_virtual (D' := D65_q124) B137 at_430 rfl (W399 B137.gw) (W400 B137.gw) (W402 B137.gw) (fun vm0 hZ => notFace_of_selects (args := #[]) (mvT hZ (W402 B137.gw))) (W401 B137.gw) (W112 B137.gw) (W403 B137.gw) (by decide) (fE (i := 0) rfl) (k_q124 W ev138 (ilA g c139 G141) _ _) (argsL := []) (rest := []) rfl pd15 rfl rfl rfl (W := 0) rfl (cs' := 77) (ss' := 659) (by decide) (Kv1 fun T144 B146 => ?_)
        refine p_astore B146 at_433 rfl rfl (Ls' := #[.val (.int p0), .val (.int p1), .val (.int p2), .val (.int p3), .val (.int n), .val (.int k0), .val (.int k1), .val (.int k2), .val (.int k3), .val (.int c0), .val (.int c1), .val (.int c2), .val (.int c3), .val (.ref s0), .val (.ref s1), .val (.ref s2), .val (.ref s3), .val (.int dc), .val (.int fl), .val (.ref dt), .val (.ref w), .val (.ref a3), .val (.ref a9), .val (.int z1), .val (.ref ev138), .val (.ref (ilA g c139 G141))]) rfl ?_
        refine p_aload B146 at_435 rfl rfl rfl ?_
        refine p_aload B146 at_437 rfl rfl rfl ?_
        have B147 : RH g D0 M T144 (AL g a9 f1 E1 ++ (oEV ev138 (.ref (ilA g c139 G141)) :: (IL g c139 d140 G141 ++ (AL g a3 b30 [s0, s1] ++ [])))) (Lt142) 77 659 := B146.perm (pm3 [oEV ev138 (.ref (ilA g c139 G141))] (IL g c139 d140 G141) (AL g a3 b30 [s0, s1]) (AL g a9 f1 E1))
        have B148 : RH g D0 M T144 (IL g c139 d140 G141 ++ (AL g a9 f1 E1 ++ (oEV ev138 (.ref (ilA g c139 G141)) :: (AL g a3 b30 [s0, s1] ++ [])))) (Lt142) 77 659 := B147.perm (pm2 (AL g a9 f1 E1) [oEV ev138 (.ref (ilA g c139 G141))] (IL g c139 d140 G141))
        have hf : ([(s0, dk k0 c0), (s1, dk k1 c1)] : List (Addr × Bool)).foldl (stp w) ([], false) = (E1, t1) := by
          show stp w (stp w ([], false) (s0, dk k0 c0)) (s1, dk k1 c1) = _
          rw [← hst0, ← hst1]
        rw [hf] at hq143
        refine r_static (D' := D66_w) B148 at_439 rfl (W404 B148.gw) (W405 B148.gw) (W3 B148.gw) (W406 B148.gw) (by decide) (W_sm W c139 d140 a9 f1 G141 E1 hq143.2 _ _ hq143.1) (argsL := [(.ref (ilA g c139 G141)), (.ref a9)]) (rest := []) rfl pd53 rfl rfl rfl (W := 0) rfl (cs' := 77) (ss' := 659) (by decide) (Kv1 fun T149 B151 => ?_)
        exact r_reti B151 at_442 rfl (by simp) rfl (by decide) (by decide) (fun vm h P => rfl)
    · refine b_icT B25 at_313 (pc' := 344) hk1 (by decide) (by decide) ?_
      refine p_iload B25 at_344 rfl rfl ?_
      refine p_iconst B25 at_346 rfl (v := (2 : Int32)) (by decide) ?_
      refine b_icT B25 at_347 (pc' := 378) (nlt hk1 (by decide)) (by decide) (by decide) ?_
      refine p_iload B25 at_378 rfl rfl ?_
      refine p_iconst B25 at_380 rfl (v := (3 : Int32)) (by decide) ?_
      refine b_icT B25 at_381 (pc' := 412) (nlt hk1 (by decide)) (by decide) (by decide) ?_
      refine r_new B25 at_412 rfl (W110 B25.gw) (W111 B25.gw) (W112 B25.gw) (Ly_oEV B25.gw) (by decide) (cs' := 22) rfl (ss' := 123) rfl (by decide) (by decide) fun T152 a154 B153 => ?_
      refine p_dup B153 at_415 rfl rfl ?_
      refine p_aload B153 at_416 rfl rfl rfl ?_
      have B155 : RH g D0 M T152 (AL g a3 b17 [s0] ++ (oEV a154 .null :: (AL g a9 f0 E0 ++ []))) (Lt) 22 123 := B153.perm (pm2 [oEV a154 .null] (AL g a9 f0 E0) (AL g a3 b17 [s0]))
      have B156 : RH g D0 M T152 (oEV a154 .null :: (AL g a3 b17 [s0] ++ (AL g a9 f0 E0 ++ []))) (Lt) 22 123 := B155.perm (pm1 (AL g a3 b17 [s0]) [oEV a154 .null])
      refine r_special (D' := D22_w) B156 at_418 rfl rfl rfl (W113 B156.gw) (W114 B156.gw) (W112 B156.gw) (W115 B156.gw) (by decide) (W_ei W a154 a3 b17 [s0] (by simp) _ _ (List.forall_mem_cons.2 ⟨⟨_, _, _, ml0⟩, nofun⟩)) (a := a154) (argsL := [(.ref a3)]) (rest := [(.ref a154)]) rfl pd44 rfl rfl rfl (W := 1) rfl (cs' := 25) (ss' := 133) (by decide) (Kex fun c160 => Kex fun d161 => Kv0 fun T157 B159 => ?_)
      refine p_aload B159 at_421 rfl rfl rfl ?_
      have B162 : RH g D0 M T157 (IL g c160 d161 [s0] ++ (oEV a154 (.ref (ilA g c160 [s0])) :: (AL g a3 b17 [s0] ++ (AL g a9 f0 E0 ++ [])))) (Lt) 25 133 := B159.perm (pm2 [oEV a154 (.ref (ilA g c160 [s0]))] (AL g a3 b17 [s0]) (IL g c160 d161 [s0]))
      have B163 : RH g D0 M T157 (oEV a154 (.ref (ilA g c160 [s0])) :: (IL g c160 d161 [s0] ++ (AL g a3 b17 [s0] ++ (AL g a9 f0 E0 ++ [])))) (Lt) 25 133 := B162.perm (pm1 (IL g c160 d161 [s0]) [oEV a154 (.ref (ilA g c160 [s0]))])
      refine r_virtual (D' := D36_w) B163 at_423 rfl (W210 B163.gw) (W211 B163.gw) (W213 B163.gw) (fun vm0 hZ => notFace_of_selects (args := #[]) (mvT hZ (W213 B163.gw))) (W212 B163.gw) (W112 B163.gw) (W214 B163.gw) (by decide) (fE (i := 0) rfl) (k_wd W a154 dt c160 d161 [(s0, dk k0 c0)] (by simp) _ _ hds w md mw (List.forall_mem_cons.2 ⟨⟨_, _, ml0, hl0, hd0.symm⟩, nofun⟩)) (argsL := [(.ref dt)]) (rest := []) rfl pd52 rfl rfl rfl (W := 0) rfl (cs' := 75) (ss' := 639) (by decide) (Kex fun ev167 => Kex fun c168 => Kex fun d169 => Kex fun G170 => Kex fun Lt171 => Kv1 fun T164 B166 => ?_)
      replace B166 := Rn.and B166
      obtain ⟨hq172, B166⟩ := B166
      refine p_astore B166 at_426 rfl rfl (Ls' := #[.val (.int p0), .val (.int p1), .val (.int p2), .val (.int p3), .val (.int n), .val (.int k0), .val (.int k1), .val (.int k2), .val (.int k3), .val (.int c0), .val (.int c1), .val (.int c2), .val (.int c3), .val (.ref s0), .val (.ref s1), .val (.ref s2), .val (.ref s3), .val (.int dc), .val (.int fl), .val (.ref dt), .val (.ref w), .val (.ref a3), .val (.ref a9), .val (.int z0), .val (.ref ev167), .unset]) rfl ?_
      refine p_aload B166 at_428 rfl rfl rfl ?_
      refine r_virtual (D' := D65_q124) B166 at_430 rfl (W399 B166.gw) (W400 B166.gw) (W402 B166.gw) (fun vm0 hZ => notFace_of_selects (args := #[]) (mvT hZ (W402 B166.gw))) (W401 B166.gw) (W112 B166.gw) (W403 B166.gw) (by decide) (fE (i := 0) rfl) (k_q124 W ev167 (ilA g c168 G170) _ _) (argsL := []) (rest := []) rfl pd15 rfl rfl rfl (W := 0) rfl (cs' := 75) (ss' := 639) (by decide) (Kv1 fun T173 B175 => ?_)
      refine p_astore B175 at_433 rfl rfl (Ls' := #[.val (.int p0), .val (.int p1), .val (.int p2), .val (.int p3), .val (.int n), .val (.int k0), .val (.int k1), .val (.int k2), .val (.int k3), .val (.int c0), .val (.int c1), .val (.int c2), .val (.int c3), .val (.ref s0), .val (.ref s1), .val (.ref s2), .val (.ref s3), .val (.int dc), .val (.int fl), .val (.ref dt), .val (.ref w), .val (.ref a3), .val (.ref a9), .val (.int z0), .val (.ref ev167), .val (.ref (ilA g c168 G170))]) rfl ?_
      refine p_aload B175 at_435 rfl rfl rfl ?_
      refine p_aload B175 at_437 rfl rfl rfl ?_
      have B176 : RH g D0 M T173 (AL g a9 f0 E0 ++ (oEV ev167 (.ref (ilA g c168 G170)) :: (IL g c168 d169 G170 ++ (AL g a3 b17 [s0] ++ [])))) (Lt171) 75 639 := B175.perm (pm3 [oEV ev167 (.ref (ilA g c168 G170))] (IL g c168 d169 G170) (AL g a3 b17 [s0]) (AL g a9 f0 E0))
      have B177 : RH g D0 M T173 (IL g c168 d169 G170 ++ (AL g a9 f0 E0 ++ (oEV ev167 (.ref (ilA g c168 G170)) :: (AL g a3 b17 [s0] ++ [])))) (Lt171) 75 639 := B176.perm (pm2 (AL g a9 f0 E0) [oEV ev167 (.ref (ilA g c168 G170))] (IL g c168 d169 G170))
      have hf : ([(s0, dk k0 c0)] : List (Addr × Bool)).foldl (stp w) ([], false) = (E0, t0) := by
        show stp w ([], false) (s0, dk k0 c0) = _
        rw [← hst0]
      rw [hf] at hq172
      refine r_static (D' := D66_w) B177 at_439 rfl (W404 B177.gw) (W405 B177.gw) (W3 B177.gw) (W406 B177.gw) (by decide) (W_sm W c168 d169 a9 f0 G170 E0 hq172.2 _ _ hq172.1) (argsL := [(.ref (ilA g c168 G170)), (.ref a9)]) (rest := []) rfl pd53 rfl rfl rfl (W := 0) rfl (cs' := 75) (ss' := 639) (by decide) (Kv1 fun T178 B180 => ?_)
      exact r_reti B180 at_442 rfl (by simp) rfl (by decide) (by decide) (fun vm h P => rfl)
  · refine b_ifT B12 at_279 (pc' := 310) hk0 (by decide) (by decide) ?_
    refine p_iload B12 at_310 rfl rfl ?_
    refine p_iconst B12 at_312 rfl (v := (1 : Int32)) (by decide) ?_
    refine b_icT B12 at_313 (pc' := 344) (nlt hk0 (by decide)) (by decide) (by decide) ?_
    refine p_iload B12 at_344 rfl rfl ?_
    refine p_iconst B12 at_346 rfl (v := (2 : Int32)) (by decide) ?_
    refine b_icT B12 at_347 (pc' := 378) (nlt hk0 (by decide)) (by decide) (by decide) ?_
    refine p_iload B12 at_378 rfl rfl ?_
    refine p_iconst B12 at_380 rfl (v := (3 : Int32)) (by decide) ?_
    refine b_icT B12 at_381 (pc' := 412) (nlt hk0 (by decide)) (by decide) (by decide) ?_
    refine r_new B12 at_412 rfl (W110 B12.gw) (W111 B12.gw) (W112 B12.gw) (Ly_oEV B12.gw) (by decide) (cs' := 20) rfl (ss' := 103) rfl (by decide) (by decide) fun T181 a183 B182 => ?_
    refine p_dup B182 at_415 rfl rfl ?_
    refine p_aload B182 at_416 rfl rfl rfl ?_
    have B184 : RH g D0 M T181 (AL g a3 a3 [] ++ (oEV a183 .null :: (AL g a9 a9 [] ++ []))) (Lt) 20 103 := B182.perm (pm2 [oEV a183 .null] (AL g a9 a9 []) (AL g a3 a3 []))
    have B185 : RH g D0 M T181 (oEV a183 .null :: (AL g a3 a3 [] ++ (AL g a9 a9 [] ++ []))) (Lt) 20 103 := B184.perm (pm1 (AL g a3 a3 []) [oEV a183 .null])
    refine r_special (D' := D22_w) B185 at_418 rfl rfl rfl (W113 B185.gw) (W114 B185.gw) (W112 B185.gw) (W115 B185.gw) (by decide) (W_ei W a183 a3 a3 [] (by simp) _ _ (nofun)) (a := a183) (argsL := [(.ref a3)]) (rest := [(.ref a183)]) rfl pd44 rfl rfl rfl (W := 1) rfl (cs' := 23) (ss' := 113) (by decide) (Kex fun c189 => Kex fun d190 => Kv0 fun T186 B188 => ?_)
    refine p_aload B188 at_421 rfl rfl rfl ?_
    have B191 : RH g D0 M T186 (IL g c189 d190 [] ++ (oEV a183 (.ref (ilA g c189 [])) :: (AL g a3 a3 [] ++ (AL g a9 a9 [] ++ [])))) (Lt) 23 113 := B188.perm (pm2 [oEV a183 (.ref (ilA g c189 []))] (AL g a3 a3 []) (IL g c189 d190 []))
    have B192 : RH g D0 M T186 (oEV a183 (.ref (ilA g c189 [])) :: (IL g c189 d190 [] ++ (AL g a3 a3 [] ++ (AL g a9 a9 [] ++ [])))) (Lt) 23 113 := B191.perm (pm1 (IL g c189 d190 []) [oEV a183 (.ref (ilA g c189 []))])
    refine r_virtual (D' := D36_w) B192 at_423 rfl (W210 B192.gw) (W211 B192.gw) (W213 B192.gw) (fun vm0 hZ => notFace_of_selects (args := #[]) (mvT hZ (W213 B192.gw))) (W212 B192.gw) (W112 B192.gw) (W214 B192.gw) (by decide) (fE (i := 0) rfl) (k_wd W a183 dt c189 d190 [] (by simp) _ _ hds w md mw (nofun)) (argsL := [(.ref dt)]) (rest := []) rfl pd52 rfl rfl rfl (W := 0) rfl (cs' := 73) (ss' := 619) (by decide) (Kex fun ev196 => Kex fun c197 => Kex fun d198 => Kex fun G199 => Kex fun Lt200 => Kv1 fun T193 B195 => ?_)
    replace B195 := Rn.and B195
    obtain ⟨hq201, B195⟩ := B195
    refine p_astore B195 at_426 rfl rfl (Ls' := #[.val (.int p0), .val (.int p1), .val (.int p2), .val (.int p3), .val (.int n), .val (.int k0), .val (.int k1), .val (.int k2), .val (.int k3), .val (.int c0), .val (.int c1), .val (.int c2), .val (.int c3), .val (.ref s0), .val (.ref s1), .val (.ref s2), .val (.ref s3), .val (.int dc), .val (.int fl), .val (.ref dt), .val (.ref w), .val (.ref a3), .val (.ref a9), .val (.int 0), .val (.ref ev196), .unset]) rfl ?_
    refine p_aload B195 at_428 rfl rfl rfl ?_
    refine r_virtual (D' := D65_q124) B195 at_430 rfl (W399 B195.gw) (W400 B195.gw) (W402 B195.gw) (fun vm0 hZ => notFace_of_selects (args := #[]) (mvT hZ (W402 B195.gw))) (W401 B195.gw) (W112 B195.gw) (W403 B195.gw) (by decide) (fE (i := 0) rfl) (k_q124 W ev196 (ilA g c197 G199) _ _) (argsL := []) (rest := []) rfl pd15 rfl rfl rfl (W := 0) rfl (cs' := 73) (ss' := 619) (by decide) (Kv1 fun T202 B204 => ?_)
    refine p_astore B204 at_433 rfl rfl (Ls' := #[.val (.int p0), .val (.int p1), .val (.int p2), .val (.int p3), .val (.int n), .val (.int k0), .val (.int k1), .val (.int k2), .val (.int k3), .val (.int c0), .val (.int c1), .val (.int c2), .val (.int c3), .val (.ref s0), .val (.ref s1), .val (.ref s2), .val (.ref s3), .val (.int dc), .val (.int fl), .val (.ref dt), .val (.ref w), .val (.ref a3), .val (.ref a9), .val (.int 0), .val (.ref ev196), .val (.ref (ilA g c197 G199))]) rfl ?_
    refine p_aload B204 at_435 rfl rfl rfl ?_
    refine p_aload B204 at_437 rfl rfl rfl ?_
    have B205 : RH g D0 M T202 (AL g a9 a9 [] ++ (oEV ev196 (.ref (ilA g c197 G199)) :: (IL g c197 d198 G199 ++ (AL g a3 a3 [] ++ [])))) (Lt200) 73 619 := B204.perm (pm3 [oEV ev196 (.ref (ilA g c197 G199))] (IL g c197 d198 G199) (AL g a3 a3 []) (AL g a9 a9 []))
    have B206 : RH g D0 M T202 (IL g c197 d198 G199 ++ (AL g a9 a9 [] ++ (oEV ev196 (.ref (ilA g c197 G199)) :: (AL g a3 a3 [] ++ [])))) (Lt200) 73 619 := B205.perm (pm2 (AL g a9 a9 []) [oEV ev196 (.ref (ilA g c197 G199))] (IL g c197 d198 G199))
    have hf : ([] : List (Addr × Bool)).foldl (stp w) ([], false) = ([], false) := by
      show ([], false) = _
      rfl
    rw [hf] at hq201
    refine r_static (D' := D66_w) B206 at_439 rfl (W404 B206.gw) (W405 B206.gw) (W3 B206.gw) (W406 B206.gw) (by decide) (W_sm W c197 d198 a9 a9 G199 [] hq201.2 _ _ hq201.1) (argsL := [(.ref (ilA g c197 G199)), (.ref a9)]) (rest := []) rfl pd53 rfl rfl rfl (W := 0) rfl (cs' := 73) (ss' := 619) (by decide) (Kv1 fun T207 B209 => ?_)
    exact r_reti B209 at_442 rfl (by simp) rfl (by decide) (by decide) (fun vm h P => rfl)
theorem k_law {g : GG} (W : GW g) (p0 p1 p2 p3 : Int32) : CtW g D0 tables_1 #[.int p0, .int p1, .int p2, .int p3] [] [] (fun v _ _ => v = some (.int 1)) := by
  refine CtW.body W (by decide +kernel) (ef_law p0 p1 p2 p3) ?_
  intro M T B
  refine p_iloadN B at_0 rfl rfl ?_
  refine r_ldcI B at_1 rfl (W0 B.gw) ?_
  refine p_iand B at_3 rfl rfl ?_
  refine p_iconst B at_4 rfl (v := (5 : Int32)) (by decide) ?_
  refine p_irem B at_5 rfl (by decide) rfl ?_
  refine p_istore B at_6 rfl (Ls' := #[.val (.int p0), .val (.int p1), .val (.int p2), .val (.int p3), .val (.int (nx p3)), .unset, .unset, .unset, .unset, .unset, .unset, .unset, .unset, .unset, .unset, .unset, .unset, .unset, .unset, .unset, .unset, .unset, .unset, .unset, .unset, .unset]) rfl ?_
  refine p_iloadN B at_8 rfl rfl ?_
  refine p_bipush B at_9 rfl (v := (7 : Int32)) (by decide) ?_
  refine p_iand B at_11 rfl rfl ?_
  refine p_istore B at_12 rfl (Ls' := #[.val (.int p0), .val (.int p1), .val (.int p2), .val (.int p3), .val (.int (nx p3)), .val (.int (kx p0)), .unset, .unset, .unset, .unset, .unset, .unset, .unset, .unset, .unset, .unset, .unset, .unset, .unset, .unset, .unset, .unset, .unset, .unset, .unset, .unset]) rfl ?_
  refine p_iloadN B at_14 rfl rfl ?_
  refine p_iconst B at_15 rfl (v := (3 : Int32)) (by decide) ?_
  refine p_iushr B at_16 rfl rfl ?_
  refine p_bipush B at_17 rfl (v := (7 : Int32)) (by decide) ?_
  refine p_iand B at_19 rfl rfl ?_
  refine p_istore B at_20 rfl (Ls' := #[.val (.int p0), .val (.int p1), .val (.int p2), .val (.int p3), .val (.int (nx p3)), .val (.int (kx p0)), .val (.int (ky p0 3)), .unset, .unset, .unset, .unset, .unset, .unset, .unset, .unset, .unset, .unset, .unset, .unset, .unset, .unset, .unset, .unset, .unset, .unset, .unset]) rfl ?_
  refine p_iloadN B at_22 rfl rfl ?_
  refine p_bipush B at_23 rfl (v := (6 : Int32)) (by decide) ?_
  refine p_iushr B at_25 rfl rfl ?_
  refine p_bipush B at_26 rfl (v := (7 : Int32)) (by decide) ?_
  refine p_iand B at_28 rfl rfl ?_
  refine p_istore B at_29 rfl (Ls' := #[.val (.int p0), .val (.int p1), .val (.int p2), .val (.int p3), .val (.int (nx p3)), .val (.int (kx p0)), .val (.int (ky p0 3)), .val (.int (ky p0 6)), .unset, .unset, .unset, .unset, .unset, .unset, .unset, .unset, .unset, .unset, .unset, .unset, .unset, .unset, .unset, .unset, .unset, .unset]) rfl ?_
  refine p_iloadN B at_31 rfl rfl ?_
  refine p_bipush B at_32 rfl (v := (9 : Int32)) (by decide) ?_
  refine p_iushr B at_34 rfl rfl ?_
  refine p_bipush B at_35 rfl (v := (7 : Int32)) (by decide) ?_
  refine p_iand B at_37 rfl rfl ?_
  refine p_istore B at_38 rfl (Ls' := #[.val (.int p0), .val (.int p1), .val (.int p2), .val (.int p3), .val (.int (nx p3)), .val (.int (kx p0)), .val (.int (ky p0 3)), .val (.int (ky p0 6)), .val (.int (ky p0 9)), .unset, .unset, .unset, .unset, .unset, .unset, .unset, .unset, .unset, .unset, .unset, .unset, .unset, .unset, .unset, .unset, .unset]) rfl ?_
  refine p_iloadN B at_40 rfl rfl ?_
  refine p_sipush B at_41 rfl (v := (255 : Int32)) (by decide) ?_
  refine p_iand B at_44 rfl rfl ?_
  refine p_i2c B at_45 rfl ?_
  refine p_istore B at_46 rfl (Ls' := #[.val (.int p0), .val (.int p1), .val (.int p2), .val (.int p3), .val (.int (nx p3)), .val (.int (kx p0)), .val (.int (ky p0 3)), .val (.int (ky p0 6)), .val (.int (ky p0 9)), .val (.int (cx p1)), .unset, .unset, .unset, .unset, .unset, .unset, .unset, .unset, .unset, .unset, .unset, .unset, .unset, .unset, .unset, .unset]) rfl ?_
  refine p_iloadN B at_48 rfl rfl ?_
  refine p_bipush B at_49 rfl (v := (8 : Int32)) (by decide) ?_
  refine p_iushr B at_51 rfl rfl ?_
  refine p_sipush B at_52 rfl (v := (255 : Int32)) (by decide) ?_
  refine p_iand B at_55 rfl rfl ?_
  refine p_i2c B at_56 rfl ?_
  refine p_istore B at_57 rfl (Ls' := #[.val (.int p0), .val (.int p1), .val (.int p2), .val (.int p3), .val (.int (nx p3)), .val (.int (kx p0)), .val (.int (ky p0 3)), .val (.int (ky p0 6)), .val (.int (ky p0 9)), .val (.int (cx p1)), .val (.int (cy p1 8)), .unset, .unset, .unset, .unset, .unset, .unset, .unset, .unset, .unset, .unset, .unset, .unset, .unset, .unset, .unset]) rfl ?_
  refine p_iloadN B at_59 rfl rfl ?_
  refine p_bipush B at_60 rfl (v := (16 : Int32)) (by decide) ?_
  refine p_iushr B at_62 rfl rfl ?_
  refine p_sipush B at_63 rfl (v := (255 : Int32)) (by decide) ?_
  refine p_iand B at_66 rfl rfl ?_
  refine p_i2c B at_67 rfl ?_
  refine p_istore B at_68 rfl (Ls' := #[.val (.int p0), .val (.int p1), .val (.int p2), .val (.int p3), .val (.int (nx p3)), .val (.int (kx p0)), .val (.int (ky p0 3)), .val (.int (ky p0 6)), .val (.int (ky p0 9)), .val (.int (cx p1)), .val (.int (cy p1 8)), .val (.int (cy p1 16)), .unset, .unset, .unset, .unset, .unset, .unset, .unset, .unset, .unset, .unset, .unset, .unset, .unset, .unset]) rfl ?_
  refine p_iloadN B at_70 rfl rfl ?_
  refine p_bipush B at_71 rfl (v := (24 : Int32)) (by decide) ?_
  refine p_iushr B at_73 rfl rfl ?_
  refine p_sipush B at_74 rfl (v := (255 : Int32)) (by decide) ?_
  refine p_iand B at_77 rfl rfl ?_
  refine p_i2c B at_78 rfl ?_
  refine p_istore B at_79 rfl (Ls' := #[.val (.int p0), .val (.int p1), .val (.int p2), .val (.int p3), .val (.int (nx p3)), .val (.int (kx p0)), .val (.int (ky p0 3)), .val (.int (ky p0 6)), .val (.int (ky p0 9)), .val (.int (cx p1)), .val (.int (cy p1 8)), .val (.int (cy p1 16)), .val (.int (cy p1 24)), .unset, .unset, .unset, .unset, .unset, .unset, .unset, .unset, .unset, .unset, .unset, .unset, .unset]) rfl ?_
  refine p_iload B at_81 rfl rfl ?_
  refine p_iload B at_83 rfl rfl ?_
  refine r_static (D' := D1_w) B at_85 rfl (W1 B.gw) (W2 B.gw) (W3 B.gw) (W4 B.gw) (by decide) (k_ln W (kx p0) (cx p1) (le255 _) (ch_ch _) (ge0 _) _ _) (argsL := [(.int (kx p0)), (.int (cx p1))]) (rest := []) rfl pd48 rfl rfl rfl (W := 0) rfl (cs' := 3) (ss' := 18) (by decide) (Kex fun s0 => Kex fun sb0 => Kex fun u0 => Kv1 fun T1 B3 => ?_)
  replace B3 := Rn.and B3
  obtain ⟨hq0, B3⟩ := B3
  refine p_astore B3 at_88 rfl rfl (Ls' := #[.val (.int p0), .val (.int p1), .val (.int p2), .val (.int p3), .val (.int (nx p3)), .val (.int (kx p0)), .val (.int (ky p0 3)), .val (.int (ky p0 6)), .val (.int (ky p0 9)), .val (.int (cx p1)), .val (.int (cy p1 8)), .val (.int (cy p1 16)), .val (.int (cy p1 24)), .val (.ref s0), .unset, .unset, .unset, .unset, .unset, .unset, .unset, .unset, .unset, .unset, .unset, .unset]) rfl ?_
  refine p_iload B3 at_90 rfl rfl ?_
  refine p_iload B3 at_92 rfl rfl ?_
  refine r_static (D' := D1_w) B3 at_94 rfl (W1 B3.gw) (W2 B3.gw) (W3 B3.gw) (W4 B3.gw) (by decide) (k_ln W (ky p0 3) (cy p1 8) (le255 _) (ch_ch _) (ge0 _) _ _) (argsL := [(.int (ky p0 3)), (.int (cy p1 8))]) (rest := []) rfl pd48 rfl rfl rfl (W := 0) rfl (cs' := 6) (ss' := 36) (by decide) (Kex fun s1 => Kex fun sb1 => Kex fun u1 => Kv1 fun T4 B6 => ?_)
  replace B6 := Rn.and B6
  obtain ⟨hq1, B6⟩ := B6
  refine p_astore B6 at_97 rfl rfl (Ls' := #[.val (.int p0), .val (.int p1), .val (.int p2), .val (.int p3), .val (.int (nx p3)), .val (.int (kx p0)), .val (.int (ky p0 3)), .val (.int (ky p0 6)), .val (.int (ky p0 9)), .val (.int (cx p1)), .val (.int (cy p1 8)), .val (.int (cy p1 16)), .val (.int (cy p1 24)), .val (.ref s0), .val (.ref s1), .unset, .unset, .unset, .unset, .unset, .unset, .unset, .unset, .unset, .unset, .unset]) rfl ?_
  refine p_iload B6 at_99 rfl rfl ?_
  refine p_iload B6 at_101 rfl rfl ?_
  refine r_static (D' := D1_w) B6 at_103 rfl (W1 B6.gw) (W2 B6.gw) (W3 B6.gw) (W4 B6.gw) (by decide) (k_ln W (ky p0 6) (cy p1 16) (le255 _) (ch_ch _) (ge0 _) _ _) (argsL := [(.int (ky p0 6)), (.int (cy p1 16))]) (rest := []) rfl pd48 rfl rfl rfl (W := 0) rfl (cs' := 9) (ss' := 54) (by decide) (Kex fun s2 => Kex fun sb2 => Kex fun u2 => Kv1 fun T7 B9 => ?_)
  replace B9 := Rn.and B9
  obtain ⟨hq2, B9⟩ := B9
  refine p_astore B9 at_106 rfl rfl (Ls' := #[.val (.int p0), .val (.int p1), .val (.int p2), .val (.int p3), .val (.int (nx p3)), .val (.int (kx p0)), .val (.int (ky p0 3)), .val (.int (ky p0 6)), .val (.int (ky p0 9)), .val (.int (cx p1)), .val (.int (cy p1 8)), .val (.int (cy p1 16)), .val (.int (cy p1 24)), .val (.ref s0), .val (.ref s1), .val (.ref s2), .unset, .unset, .unset, .unset, .unset, .unset, .unset, .unset, .unset, .unset]) rfl ?_
  refine p_iload B9 at_108 rfl rfl ?_
  refine p_iload B9 at_110 rfl rfl ?_
  refine r_static (D' := D1_w) B9 at_112 rfl (W1 B9.gw) (W2 B9.gw) (W3 B9.gw) (W4 B9.gw) (by decide) (k_ln W (ky p0 9) (cy p1 24) (le255 _) (ch_ch _) (ge0 _) _ _) (argsL := [(.int (ky p0 9)), (.int (cy p1 24))]) (rest := []) rfl pd48 rfl rfl rfl (W := 0) rfl (cs' := 12) (ss' := 72) (by decide) (Kex fun s3 => Kex fun sb3 => Kex fun u3 => Kv1 fun T10 B12 => ?_)
  replace B12 := Rn.and B12
  obtain ⟨hq3, B12⟩ := B12
  refine p_astore B12 at_115 rfl rfl (Ls' := #[.val (.int p0), .val (.int p1), .val (.int p2), .val (.int p3), .val (.int (nx p3)), .val (.int (kx p0)), .val (.int (ky p0 3)), .val (.int (ky p0 6)), .val (.int (ky p0 9)), .val (.int (cx p1)), .val (.int (cy p1 8)), .val (.int (cy p1 16)), .val (.int (cy p1 24)), .val (.ref s0), .val (.ref s1), .val (.ref s2), .val (.ref s3), .unset, .unset, .unset, .unset, .unset, .unset, .unset, .unset, .unset]) rfl ?_
  refine p_iloadN B12 at_117 rfl rfl ?_
  refine p_sipush B12 at_118 rfl (v := (255 : Int32)) (by decide) ?_
  refine p_iand B12 at_121 rfl rfl ?_
  refine p_i2c B12 at_122 rfl ?_
  refine p_istore B12 at_123 rfl (Ls' := #[.val (.int p0), .val (.int p1), .val (.int p2), .val (.int p3), .val (.int (nx p3)), .val (.int (kx p0)), .val (.int (ky p0 3)), .val (.int (ky p0 6)), .val (.int (ky p0 9)), .val (.int (cx p1)), .val (.int (cy p1 8)), .val (.int (cy p1 16)), .val (.int (cy p1 24)), .val (.ref s0), .val (.ref s1), .val (.ref s2), .val (.ref s3), .val (.int (cx p2)), .unset, .unset, .unset, .unset, .unset, .unset, .unset, .unset]) rfl ?_
  refine p_iloadN B12 at_125 rfl rfl ?_
  refine p_bipush B12 at_126 rfl (v := (8 : Int32)) (by decide) ?_
  refine p_iushr B12 at_128 rfl rfl ?_
  refine p_iconst B12 at_129 rfl (v := (1 : Int32)) (by decide) ?_
  refine p_iand B12 at_130 rfl rfl ?_
  by_cases hb : ((((p2).toUInt32 >>> ((8 : Int32) &&& 31).toUInt32).toInt32) &&& (1 : Int32)) = (0 : Int32)
  · refine b_ifT B12 at_131 (pc' := 138) hb (by decide) (by decide) ?_
    refine p_iconst B12 at_138 rfl (v := (0 : Int32)) (by decide) ?_
    refine p_istore B12 at_139 rfl (Ls' := #[.val (.int p0), .val (.int p1), .val (.int p2), .val (.int p3), .val (.int (nx p3)), .val (.int (kx p0)), .val (.int (ky p0 3)), .val (.int (ky p0 6)), .val (.int (ky p0 9)), .val (.int (cx p1)), .val (.int (cy p1 8)), .val (.int (cy p1 16)), .val (.int (cy p1 24)), .val (.ref s0), .val (.ref s1), .val (.ref s2), .val (.ref s3), .val (.int (cx p2)), .val (.int 0), .unset, .unset, .unset, .unset, .unset, .unset, .unset]) rfl ?_
    refine p_iload B12 at_141 rfl rfl ?_
    refine b_ifT B12 at_143 (pc' := 151) (show (0 : Int32) = (0 : Int32) from by decide) (by decide) (by decide) ?_
    refine p_iload B12 at_151 rfl rfl ?_
    refine r_static (D' := D8) B12 at_153 rfl (W35 B12.gw) (W36 B12.gw) (W7 B12.gw) (W37 B12.gw) (by decide) (k_vo W (cx p2) (le255 _) _ _) (argsL := [(.int (cx p2))]) (rest := []) rfl pd49 rfl rfl rfl (W := 0) rfl (cs' := 14) (ss' := 77) (by decide) (Kex fun a16 => Kex fun b17 => Kv1 fun T13 B15 => ?_)
    refine p_astore B15 at_156 rfl rfl (Ls' := #[.val (.int p0), .val (.int p1), .val (.int p2), .val (.int p3), .val (.int (nx p3)), .val (.int (kx p0)), .val (.int (ky p0 3)), .val (.int (ky p0 6)), .val (.int (ky p0 9)), .val (.int (cx p1)), .val (.int (cy p1 8)), .val (.int (cy p1 16)), .val (.int (cy p1 24)), .val (.ref s0), .val (.ref s1), .val (.ref s2), .val (.ref s3), .val (.int (cx p2)), .val (.int 0), .val (.ref a16), .unset, .unset, .unset, .unset, .unset, .unset]) rfl ?_
    refine p_iload B15 at_158 rfl rfl ?_
    refine b_ifT B15 at_160 (pc' := 207) (show (0 : Int32) = (0 : Int32) from by decide) (by decide) (by decide) ?_
    refine r_new B15 at_207 rfl (W5 B15.gw) (W6 B15.gw) (W7 B15.gw) (Ly_oS B15.gw) (by decide) (cs' := 15) rfl (ss' := 81) rfl (by decide) (by decide) fun T18 a20 B19 => ?_
    refine p_dup B19 at_210 rfl rfl ?_
    refine p_bipush B19 at_211 rfl (v := (7 : Int32)) (by decide) ?_
    refine r_newp B19 at_213 rfl (ty := .char) (W8 B19.gw) rfl (by decide) (nn := 7) (by decide) (cap := 7) (by decide) (by decide) (cs' := 16) rfl (ss' := 88) rfl (by decide) (by decide) (ad := "[C") (by decide) (by decide) nofun (vs := [(.int 0), (.int 0), (.int 0), (.int 0), (.int 0), (.int 0), (.int 0)]) rfl fun T21 a23 B22 => ?_
    refine p_dup B22 at_215 rfl rfl ?_
    refine p_iconst B22 at_216 rfl (v := (0 : Int32)) (by decide) ?_
    refine p_bipush B22 at_217 rfl (v := (100 : Int32)) (by decide) ?_
    refine r_castore B22 at_219 rfl (i := 0) rfl (by decide) (k := 0) (by decide) (by simp) (x' := (100 : Int32)) (by decide) (H' := [(a23, .inr (.char, "[C", [(.int 100), (.int 0), (.int 0), (.int 0), (.int 0), (.int 0), (.int 0)])), oS a20 (.int 0) .null]) rfl fun T24 B25 => ?_
    refine p_dup B25 at_220 rfl rfl ?_
    refine p_iconst B25 at_221 rfl (v := (1 : Int32)) (by decide) ?_
    refine p_bipush B25 at_222 rfl (v := (97 : Int32)) (by decide) ?_
    refine r_castore B25 at_224 rfl (i := 0) rfl (by decide) (k := 1) (by decide) (by simp) (x' := (97 : Int32)) (by decide) (H' := [(a23, .inr (.char, "[C", [(.int 100), (.int 97), (.int 0), (.int 0), (.int 0), (.int 0), (.int 0)])), oS a20 (.int 0) .null]) rfl fun T26 B27 => ?_
    refine p_dup B27 at_225 rfl rfl ?_
    refine p_iconst B27 at_226 rfl (v := (2 : Int32)) (by decide) ?_
    refine p_bipush B27 at_227 rfl (v := (116 : Int32)) (by decide) ?_
    refine r_castore B27 at_229 rfl (i := 0) rfl (by decide) (k := 2) (by decide) (by simp) (x' := (116 : Int32)) (by decide) (H' := [(a23, .inr (.char, "[C", [(.int 100), (.int 97), (.int 116), (.int 0), (.int 0), (.int 0), (.int 0)])), oS a20 (.int 0) .null]) rfl fun T28 B29 => ?_
    refine p_dup B29 at_230 rfl rfl ?_
    refine p_iconst B29 at_231 rfl (v := (3 : Int32)) (by decide) ?_
    refine p_bipush B29 at_232 rfl (v := (97 : Int32)) (by decide) ?_
    refine r_castore B29 at_234 rfl (i := 0) rfl (by decide) (k := 3) (by decide) (by simp) (x' := (97 : Int32)) (by decide) (H' := [(a23, .inr (.char, "[C", [(.int 100), (.int 97), (.int 116), (.int 97), (.int 0), (.int 0), (.int 0)])), oS a20 (.int 0) .null]) rfl fun T30 B31 => ?_
    refine p_dup B31 at_235 rfl rfl ?_
    refine p_iconst B31 at_236 rfl (v := (4 : Int32)) (by decide) ?_
    refine p_bipush B31 at_237 rfl (v := (58 : Int32)) (by decide) ?_
    refine r_castore B31 at_239 rfl (i := 0) rfl (by decide) (k := 4) (by decide) (by simp) (x' := (58 : Int32)) (by decide) (H' := [(a23, .inr (.char, "[C", [(.int 100), (.int 97), (.int 116), (.int 97), (.int 58), (.int 0), (.int 0)])), oS a20 (.int 0) .null]) rfl fun T32 B33 => ?_
    refine p_dup B33 at_240 rfl rfl ?_
    refine p_iconst B33 at_241 rfl (v := (5 : Int32)) (by decide) ?_
    refine p_bipush B33 at_242 rfl (v := (32 : Int32)) (by decide) ?_
    refine r_castore B33 at_244 rfl (i := 0) rfl (by decide) (k := 5) (by decide) (by simp) (x' := (32 : Int32)) (by decide) (H' := [(a23, .inr (.char, "[C", [(.int 100), (.int 97), (.int 116), (.int 97), (.int 58), (.int 32), (.int 0)])), oS a20 (.int 0) .null]) rfl fun T34 B35 => ?_
    refine p_dup B35 at_245 rfl rfl ?_
    refine p_bipush B35 at_246 rfl (v := (6 : Int32)) (by decide) ?_
    refine p_iload B35 at_248 rfl rfl ?_
    refine r_castore B35 at_250 rfl (i := 0) rfl (by decide) (k := 6) (by decide) (by simp) (x' := (cx p2)) (ch_ch _) (H' := [(a23, .inr (.char, "[C", [(.int 100), (.int 97), (.int 116), (.int 97), (.int 58), (.int 32), (.int (cx p2))])), oS a20 (.int 0) .null]) rfl fun T36 B37 => ?_
    have B38 : RH g D0 M T36 [oS a20 (.int 0) .null, (a23, .inr (.char, "[C", [(.int 100), (.int 97), (.int 116), (.int 97), (.int 58), (.int 32), (.int (cx p2))]))] [(a16, b17, 0, [(bV (cx p2))]), (s3, sb3, 0, u3.map Value.int), (s2, sb2, 0, u2.map Value.int), (s1, sb1, 0, u1.map Value.int), (s0, sb0, 0, u0.map Value.int)] 16 88 := B37.front (i := 1) rfl rfl
    refine r_special (D' := D2) B38 at_251 rfl rfl rfl (W9 B38.gw) (W10 B38.gw) (W7 B38.gw) (W11 B38.gw) (by decide) (k_i1 W a20 a23 "[C" ([(100 : Int32), (97 : Int32), (116 : Int32), (97 : Int32), (58 : Int32), (32 : Int32), (cx p2)] : List Int32) (by simp only [List.mem_cons, List.not_mem_nil, or_false, forall_eq_or_imp, forall_eq]; exact ⟨(by decide), (by decide), (by decide), (by decide), (by decide), (by decide), le255 _⟩) (by simp) (by simp) [] [(a16, b17, 0, [(bV (cx p2))]), (s3, sb3, 0, u3.map Value.int), (s2, sb2, 0, u2.map Value.int), (s1, sb1, 0, u1.map Value.int), (s0, sb0, 0, u0.map Value.int)]) (a := a20) (argsL := [(.ref a23)]) (rest := [(.ref a20)]) rfl pd41 rfl rfl rfl (W := 1) rfl (cs' := 17) (ss' := 96) (by decide) fun T39 v40 B41 => ?_
    replace B41 := Rn.and B41
    obtain ⟨rfl, B41⟩ := B41
    replace B41 := Rn.ex B41
    obtain ⟨b42, B41⟩ := B41
    have B43 : RH g D0 M T39 [] [(a20, b42, 0, [(bV (100 : Int32)), (bV (97 : Int32)), (bV (116 : Int32)), (bV (97 : Int32)), (bV (58 : Int32)), (bV (32 : Int32)), (bV (cx p2))]), (a16, b17, 0, [(bV (cx p2))]), (s3, sb3, 0, u3.map Value.int), (s2, sb2, 0, u2.map Value.int), (s1, sb1, 0, u1.map Value.int), (s0, sb0, 0, u0.map Value.int)] 17 96 := B41.del 0 rfl
    show Fn g D0 M _ (T39.setTop (mkF M.m 254 #[.val (.int p0), .val (.int p1), .val (.int p2), .val (.int p3), .val (.int (nx p3)), .val (.int (kx p0)), .val (.int (ky p0 3)), .val (.int (ky p0 6)), .val (.int (ky p0 9)), .val (.int (cx p1)), .val (.int (cy p1 8)), .val (.int (cy p1 16)), .val (.int (cy p1 24)), .val (.ref s0), .val (.ref s1), .val (.ref s2), .val (.ref s3), .val (.int (cx p2)), .val (.int 0), .val (.ref a16), .unset, .unset, .unset, .unset, .unset, .unset] [(.ref a20)]))
    refine p_astore B43 at_254 rfl rfl (Ls' := #[.val (.int p0), .val (.int p1), .val (.int p2), .val (.int p3), .val (.int (nx p3)), .val (.int (kx p0)), .val (.int (ky p0 3)), .val (.int (ky p0 6)), .val (.int (ky p0 9)), .val (.int (cx p1)), .val (.int (cy p1 8)), .val (.int (cy p1 16)), .val (.int (cy p1 24)), .val (.ref s0), .val (.ref s1), .val (.ref s2), .val (.ref s3), .val (.int (cx p2)), .val (.int 0), .val (.ref a16), .val (.ref a20), .unset, .unset, .unset, .unset, .unset]) rfl ?_
    exact law2 W (p0) (p1) (p2) (p3) ((nx p3)) ((kx p0)) ((ky p0 3)) ((ky p0 6)) ((ky p0 9)) ((cx p1)) ((cy p1 8)) ((cy p1 16)) ((cy p1 24)) ((cx p2)) ((0 : Int32)) s0 s1 s2 s3 a16 a20 (ds := [(cx p2).toInt8.toInt32]) (by simp) (List.mem_of_getElem? (i := 5) rfl) hq0.1 hq0.2 (List.mem_of_getElem? (i := 4) rfl) hq1.1 hq1.2 (List.mem_of_getElem? (i := 3) rfl) hq2.1 hq2.2 (List.mem_of_getElem? (i := 2) rfl) hq3.1 hq3.2 (List.mem_of_getElem? (i := 1) rfl) (by rw [show List.map Value.int (dpre ++ ([(cx p2).toInt8.toInt32] : List Int32)) = [bV (100 : Int32), bV (97 : Int32), bV (116 : Int32), bV (97 : Int32), bV (58 : Int32), bV (32 : Int32), bV (cx p2)] from (wr [bV (cx p2)]).symm]; exact (List.mem_of_getElem? (i := 0) rfl)) (B43)
  · refine b_ifF B12 at_131 (pc' := 134) rfl hb ?_
    refine p_iconst B12 at_134 rfl (v := (1 : Int32)) (by decide) ?_
    refine b_goto B12 at_135 (pc' := 139) (by decide) (by decide) ?_
    refine p_istore B12 at_139 rfl (Ls' := #[.val (.int p0), .val (.int p1), .val (.int p2), .val (.int p3), .val (.int (nx p3)), .val (.int (kx p0)), .val (.int (ky p0 3)), .val (.int (ky p0 6)), .val (.int (ky p0 9)), .val (.int (cx p1)), .val (.int (cy p1 8)), .val (.int (cy p1 16)), .val (.int (cy p1 24)), .val (.ref s0), .val (.ref s1), .val (.ref s2), .val (.ref s3), .val (.int (cx p2)), .val (.int 1), .unset, .unset, .unset, .unset, .unset, .unset, .unset]) rfl ?_
    refine p_iload B12 at_141 rfl rfl ?_
    refine b_ifF B12 at_143 (pc' := 146) rfl (show ¬ (1 : Int32) = (0 : Int32) from by decide) ?_
    refine r_ldc B12 at_146 rfl (W465 B12.gw) (strW B12.gw) (inEL B12.gw (by decide)) (bs := []) ⟨by decide, by decide⟩ (z := (0 : Int32)) (by decide) (by decide) (n := 0) (by decide) (by decide) (cs' := 14) rfl (ss' := 76) rfl (by decide) (by decide) fun T44 a46 b47 B45 => ?_
    refine b_goto B45 at_148 (pc' := 156) (by decide) (by decide) ?_
    refine p_astore B45 at_156 rfl rfl (Ls' := #[.val (.int p0), .val (.int p1), .val (.int p2), .val (.int p3), .val (.int (nx p3)), .val (.int (kx p0)), .val (.int (ky p0 3)), .val (.int (ky p0 6)), .val (.int (ky p0 9)), .val (.int (cx p1)), .val (.int (cy p1 8)), .val (.int (cy p1 16)), .val (.int (cy p1 24)), .val (.ref s0), .val (.ref s1), .val (.ref s2), .val (.ref s3), .val (.int (cx p2)), .val (.int 1), .val (.ref a46), .unset, .unset, .unset, .unset, .unset, .unset]) rfl ?_
    refine p_iload B45 at_158 rfl rfl ?_
    refine b_ifF B45 at_160 (pc' := 163) rfl (show ¬ (1 : Int32) = (0 : Int32) from by decide) ?_
    refine r_new B45 at_163 rfl (W5 B45.gw) (W6 B45.gw) (W7 B45.gw) (Ly_oS B45.gw) (by decide) (cs' := 15) rfl (ss' := 80) rfl (by decide) (by decide) fun T48 a50 B49 => ?_
    refine p_dup B49 at_166 rfl rfl ?_
    refine p_bipush B49 at_167 rfl (v := (6 : Int32)) (by decide) ?_
    refine r_newp B49 at_169 rfl (ty := .char) (W8 B49.gw) rfl (by decide) (nn := 6) (by decide) (cap := 6) (by decide) (by decide) (cs' := 16) rfl (ss' := 86) rfl (by decide) (by decide) (ad := "[C") (by decide) (by decide) nofun (vs := [(.int 0), (.int 0), (.int 0), (.int 0), (.int 0), (.int 0)]) rfl fun T51 a53 B52 => ?_
    refine p_dup B52 at_171 rfl rfl ?_
    refine p_iconst B52 at_172 rfl (v := (0 : Int32)) (by decide) ?_
    refine p_bipush B52 at_173 rfl (v := (100 : Int32)) (by decide) ?_
    refine r_castore B52 at_175 rfl (i := 0) rfl (by decide) (k := 0) (by decide) (by simp) (x' := (100 : Int32)) (by decide) (H' := [(a53, .inr (.char, "[C", [(.int 100), (.int 0), (.int 0), (.int 0), (.int 0), (.int 0)])), oS a50 (.int 0) .null]) rfl fun T54 B55 => ?_
    refine p_dup B55 at_176 rfl rfl ?_
    refine p_iconst B55 at_177 rfl (v := (1 : Int32)) (by decide) ?_
    refine p_bipush B55 at_178 rfl (v := (97 : Int32)) (by decide) ?_
    refine r_castore B55 at_180 rfl (i := 0) rfl (by decide) (k := 1) (by decide) (by simp) (x' := (97 : Int32)) (by decide) (H' := [(a53, .inr (.char, "[C", [(.int 100), (.int 97), (.int 0), (.int 0), (.int 0), (.int 0)])), oS a50 (.int 0) .null]) rfl fun T56 B57 => ?_
    refine p_dup B57 at_181 rfl rfl ?_
    refine p_iconst B57 at_182 rfl (v := (2 : Int32)) (by decide) ?_
    refine p_bipush B57 at_183 rfl (v := (116 : Int32)) (by decide) ?_
    refine r_castore B57 at_185 rfl (i := 0) rfl (by decide) (k := 2) (by decide) (by simp) (x' := (116 : Int32)) (by decide) (H' := [(a53, .inr (.char, "[C", [(.int 100), (.int 97), (.int 116), (.int 0), (.int 0), (.int 0)])), oS a50 (.int 0) .null]) rfl fun T58 B59 => ?_
    refine p_dup B59 at_186 rfl rfl ?_
    refine p_iconst B59 at_187 rfl (v := (3 : Int32)) (by decide) ?_
    refine p_bipush B59 at_188 rfl (v := (97 : Int32)) (by decide) ?_
    refine r_castore B59 at_190 rfl (i := 0) rfl (by decide) (k := 3) (by decide) (by simp) (x' := (97 : Int32)) (by decide) (H' := [(a53, .inr (.char, "[C", [(.int 100), (.int 97), (.int 116), (.int 97), (.int 0), (.int 0)])), oS a50 (.int 0) .null]) rfl fun T60 B61 => ?_
    refine p_dup B61 at_191 rfl rfl ?_
    refine p_iconst B61 at_192 rfl (v := (4 : Int32)) (by decide) ?_
    refine p_bipush B61 at_193 rfl (v := (58 : Int32)) (by decide) ?_
    refine r_castore B61 at_195 rfl (i := 0) rfl (by decide) (k := 4) (by decide) (by simp) (x' := (58 : Int32)) (by decide) (H' := [(a53, .inr (.char, "[C", [(.int 100), (.int 97), (.int 116), (.int 97), (.int 58), (.int 0)])), oS a50 (.int 0) .null]) rfl fun T62 B63 => ?_
    refine p_dup B63 at_196 rfl rfl ?_
    refine p_iconst B63 at_197 rfl (v := (5 : Int32)) (by decide) ?_
    refine p_bipush B63 at_198 rfl (v := (32 : Int32)) (by decide) ?_
    refine r_castore B63 at_200 rfl (i := 0) rfl (by decide) (k := 5) (by decide) (by simp) (x' := (32 : Int32)) (by decide) (H' := [(a53, .inr (.char, "[C", [(.int 100), (.int 97), (.int 116), (.int 97), (.int 58), (.int 32)])), oS a50 (.int 0) .null]) rfl fun T64 B65 => ?_
    have B66 : RH g D0 M T64 [oS a50 (.int 0) .null, (a53, .inr (.char, "[C", [(.int 100), (.int 97), (.int 116), (.int 97), (.int 58), (.int 32)]))] [(a46, b47, 0, []), (s3, sb3, 0, u3.map Value.int), (s2, sb2, 0, u2.map Value.int), (s1, sb1, 0, u1.map Value.int), (s0, sb0, 0, u0.map Value.int)] 16 86 := B65.front (i := 1) rfl rfl
    refine r_special (D' := D2) B66 at_201 rfl rfl rfl (W9 B66.gw) (W10 B66.gw) (W7 B66.gw) (W11 B66.gw) (by decide) (k_i1 W a50 a53 "[C" ([(100 : Int32), (97 : Int32), (116 : Int32), (97 : Int32), (58 : Int32), (32 : Int32)] : List Int32) (by simp only [List.mem_cons, List.not_mem_nil, or_false, forall_eq_or_imp, forall_eq]; exact ⟨(by decide), (by decide), (by decide), (by decide), (by decide), (by decide)⟩) (by simp) (by simp) [] [(a46, b47, 0, []), (s3, sb3, 0, u3.map Value.int), (s2, sb2, 0, u2.map Value.int), (s1, sb1, 0, u1.map Value.int), (s0, sb0, 0, u0.map Value.int)]) (a := a50) (argsL := [(.ref a53)]) (rest := [(.ref a50)]) rfl pd41 rfl rfl rfl (W := 1) rfl (cs' := 17) (ss' := 94) (by decide) fun T67 v68 B69 => ?_
    replace B69 := Rn.and B69
    obtain ⟨rfl, B69⟩ := B69
    replace B69 := Rn.ex B69
    obtain ⟨b70, B69⟩ := B69
    have B71 : RH g D0 M T67 [] [(a50, b70, 0, [(bV (100 : Int32)), (bV (97 : Int32)), (bV (116 : Int32)), (bV (97 : Int32)), (bV (58 : Int32)), (bV (32 : Int32))]), (a46, b47, 0, []), (s3, sb3, 0, u3.map Value.int), (s2, sb2, 0, u2.map Value.int), (s1, sb1, 0, u1.map Value.int), (s0, sb0, 0, u0.map Value.int)] 17 94 := B69.del 0 rfl
    show Fn g D0 M _ (T67.setTop (mkF M.m 204 #[.val (.int p0), .val (.int p1), .val (.int p2), .val (.int p3), .val (.int (nx p3)), .val (.int (kx p0)), .val (.int (ky p0 3)), .val (.int (ky p0 6)), .val (.int (ky p0 9)), .val (.int (cx p1)), .val (.int (cy p1 8)), .val (.int (cy p1 16)), .val (.int (cy p1 24)), .val (.ref s0), .val (.ref s1), .val (.ref s2), .val (.ref s3), .val (.int (cx p2)), .val (.int 1), .val (.ref a46), .unset, .unset, .unset, .unset, .unset, .unset] [(.ref a50)]))
    refine b_goto B71 at_204 (pc' := 254) (by decide) (by decide) ?_
    refine p_astore B71 at_254 rfl rfl (Ls' := #[.val (.int p0), .val (.int p1), .val (.int p2), .val (.int p3), .val (.int (nx p3)), .val (.int (kx p0)), .val (.int (ky p0 3)), .val (.int (ky p0 6)), .val (.int (ky p0 9)), .val (.int (cx p1)), .val (.int (cy p1 8)), .val (.int (cy p1 16)), .val (.int (cy p1 24)), .val (.ref s0), .val (.ref s1), .val (.ref s2), .val (.ref s3), .val (.int (cx p2)), .val (.int 1), .val (.ref a46), .val (.ref a50), .unset, .unset, .unset, .unset, .unset]) rfl ?_
    exact law2 W (p0) (p1) (p2) (p3) ((nx p3)) ((kx p0)) ((ky p0 3)) ((ky p0 6)) ((ky p0 9)) ((cx p1)) ((cy p1 8)) ((cy p1 16)) ((cy p1 24)) ((cx p2)) ((1 : Int32)) s0 s1 s2 s3 a46 a50 (ds := []) (by simp) (List.mem_of_getElem? (i := 5) rfl) hq0.1 hq0.2 (List.mem_of_getElem? (i := 4) rfl) hq1.1 hq1.2 (List.mem_of_getElem? (i := 3) rfl) hq2.1 hq2.2 (List.mem_of_getElem? (i := 2) rfl) hq3.1 hq3.2 (List.mem_of_getElem? (i := 1) rfl) (by rw [show List.map Value.int (dpre ++ ([] : List Int32)) = [bV (100 : Int32), bV (97 : Int32), bV (116 : Int32), bV (97 : Int32), bV (58 : Int32), bV (32 : Int32)] from (wr []).symm]; exact (List.mem_of_getElem? (i := 0) rfl)) (B71.mono (cs' := 17) (ss' := 96) (by decide) (by decide))
theorem comes_1 {Post : Tables → Env → Array Value → State → Outcome → State → Prop} (hpost : ∀ tb e args s v u, (limb_1_1.after args s (.returned v) u = true ∧ limb_1_2.after args s (.returned v) u = true ∧ True) → FramedW s (.returned v) u (Jvm.fieldLocs frame_1_writes args s ++ Jvm.arrayLocs frame_1_arrays args s ++ Jvm.staticLocs frame_1_statics s) 88 4544 → Post tb e args s (.returned v) u) :
    ArmFor flags0 classFile x code maxLocals ret World_1 tables_1 room_1 Calls_1 rest_1 Pre_1 Post := by
  intro l hfl _ _ p e ha hc hk s m args below hf hA hF happ hP
  obtain ⟨hcalls, hrest, hpre⟩ := hP
  obtain ⟨-, -, -, hnamed, -, -, -, hat⟩ := (Spec.applies_iff hf).mp happ
  obtain ⟨hg, hn⟩ := and_e (Cond.before_iff.mp (show (Jvm.Cond.and given_1 narrow_1).before args s = true from hpre))
  obtain ⟨q0, r0⟩ := and_e hg
  obtain ⟨q1, r1⟩ := and_e r0
  obtain ⟨q2, r2⟩ := and_e r1
  obtain ⟨q3, r3⟩ := and_e r2
  obtain ⟨w0, w1, w2, w3, rfl⟩ : ∃ w0 w1 w2 w3 : Value, args = #[w0, w1, w2, w3] := by
    have hs : args.size = 4 := by simpa [Cond.value, given_1] using q0
    obtain ⟨L⟩ := args
    match L, hs with
    | [w0, w1, w2, w3], _ => exact ⟨w0, w1, w2, w3, rfl⟩
  have hw := fun d (hd : d ∈ tables_1) => atoms_spec (ws := Jvm.Cond.code x code maxLocals ret :: tables_1) hat d (List.mem_cons_of_mem _ hd)
  have hfit : Fit s := fun {y c} hc i hi => by
    obtain ⟨ha, rfl⟩ := Array.getElem?_eq_some_iff.mp hc
    have q := List.all_eq_true.mp ((Array.all_eq_true_iff_forall_mem.mp hF) _ (Array.getElem_mem ha)) i (List.mem_range.mpr hi)
    simpa [Array.getElem?_eq_getElem hi] using q
  obtain ⟨hsets, -⟩ := atoms_of _ (rest_1_c_eq ▸ (show rest_1_c.before _ s = true from hrest))
  obtain ⟨i0, ei0⟩ := is_v q1
  obtain rfl : w0 = (.int i0) := Option.some.inj ei0
  obtain ⟨i1, ei1⟩ := is_v q2
  obtain rfl : w1 = (.int i1) := Option.some.inj ei1
  obtain ⟨i2, ei2⟩ := is_v q3
  obtain rfl : w2 = (.int i2) := Option.some.inj ei2
  obtain ⟨i3, ei3⟩ := is_v r3
  obtain rfl : w3 = (.int i3) := Option.some.inj ei3
  have hEW : EW s #[(.int i0), (.int i1), (.int i2), (.int i3)] consts_1 := EW.cons (hw _ (List.mem_of_getElem? (i := 277) rfl)) (by decide) (EW.cons (hw _ (List.mem_of_getElem? (i := 306) rfl)) (by decide) (EW.cons (hw _ (List.mem_of_getElem? (i := 453) rfl)) (by decide) (EW.cons (hw _ (List.mem_of_getElem? (i := 465) rfl)) (by decide) (EW.nil))))
  have hcw : Jvm.Lit.compactW.before #[(.int i0), (.int i1), (.int i2), (.int i3)] s = true := hsets _ (List.mem_of_getElem? (i := 2) rfl)
  have hCH : CHv s consts_1 s.vm s.heap := CHv.start hEW (fun p hp => hcalls.2.1 p hp) hcw (hw _ (List.mem_of_getElem? (i := 24) rfl)) (hw _ (List.mem_of_getElem? (i := 6) rfl))
  have W : GW (l, s, #[(.int i0), (.int i1), (.int i2), (.int i3)], consts_1) := ⟨hw, hEW, hsets, hfit, rfl, (let ⟨c, k, m, a1, a2, a3, _⟩ := hcalls.1; ⟨c, k, m, a1, a2, a3⟩)⟩
  obtain ⟨n, o, h1, h2, h3, _, L, rfl, rfl, N, hr⟩ := k_law W i0 i1 i2 i3 p e ha hc hk s m _ below hf ((Spec.applies_iff_loose hf).mp happ).1 ⟨rfl, State.Warmed39.refl s, hCH, ext_rfl _, Hp.nil⟩ trivial
  exact ⟨n, _, h1, h2, h3, hpost _ _ _ _ _ _ ⟨Cond.after_iff.mpr rfl, Cond.after_iff.mpr (eq_i res_at (Term.int_eval (1)) rfl), trivial⟩ ⟨hr.2.2.1, hr.2.2.2.1, hr.2.2.2.2.1, (hr.2.2.2.2.2.sift fun y hy => Or.inr (N y hy)).mono (by decide) (by decide)⟩⟩
theorem main_1_1 : Claimed_1_1 := comes_1 fun _ _ _ _ _ _ h hF => ⟨h.1, hF⟩
theorem main_1_2 : Claimed_1_2 := comes_1 fun _ _ _ _ _ _ h hF => ⟨h.2.1, hF⟩
end Jvm.Pilot.@@N@@
namespace Jvm.Pilot.@@N@@
open Jvm Jvm.ClassFile Sem Op Lib Jvm.Free Jvm.Stand Jvm.Pilot.@@N@@.Jvm.D
/-! MADE BY PROGRAM (witnessworld.py) out of the Statement's table words and the real class files: 46 classes; the members and pool entries that the words name. The judged class is class 1, her method 1. -/
namespace start1
open Jvm.ClassFile
def u (s : String) : CpInfo := .utf8 (stringToUtf16 s)
/-- a pool by its gaps: so many unusable entries, then the entry; so many at the end -/
def gap : Nat → List CpInfo → List CpInfo
  | 0, r => r
  | n + 1, r => .unusable :: gap n r
def poolList (es : List (Nat × CpInfo)) (last : Nat) : List CpInfo := es.foldr (fun e r => gap e.1 (e.2 :: r)) (gap last [])
def pool (es : List (Nat × CpInfo)) (last : Nat) : Array CpInfo := ⟨poolList es last⟩
def fileOf (pool : Array CpInfo) (this : Nat) (attrs : Array Attribute := #[]) (ms : Array MethodInfo := #[]) (fl : Nat := 33) (sup : Nat := 0) (ifs : Array Nat := #[]) (fds : Array FieldInfo := #[]) : ClassFile where
  minorVersion := 0
  majorVersion := 65
  constantPool := pool
  accessFlags := fl
  thisClass := this
  superClass := sup
  interfaces := ifs
  fields := fds
  methods := ms
  attributes := attrs
def plain (name : String) (sup : Option ClassId) : Class where
  name := name
  kind := .ordinary
  loader := none
  accessFlags := 33
  super := sup
  interfaces := #[]
  cf := none
  fields := #[]
  methods := #[]
  instanceTypes := #[]
  staticTypes := #[]
  resolved := #[]
  callSites := []
  init := .initialized
  statics := none
  mirror := none

def pool0 : Array CpInfo := pool [(5, u "<init>"), (0, u "()V"), (1, .class_ 10), (1, u "java/lang/Object"), (0, u "getClass"), (0, u "()Ljava/lang/Class;")] 111

def k0c0 : Code := { maxStack := 0, maxLocals := 1, code := object_method_1_code, exceptionTable := #[], attributes := #[] }
def k0m0 : Method := { name := "<init>", desc := "()V", sig := { parameters := [], returnType := none }, accessFlags := 1, code := some k0c0 }
def k0m1 : Method := { name := "getClass", desc := "()Ljava/lang/Class;", sig := { parameters := [], returnType := some (.object "java/lang/Class") }, accessFlags := 273, code := none }
/-- java/lang/Object -/
def k0 : Class := { plain "java/lang/Object" none with
  accessFlags := 33
  interfaces := #[]
  cf := some (fileOf pool0 8 #[] #[{ accessFlags := 1, nameIndex := 5, descriptorIndex := 6, attributes := #[] }, { accessFlags := 273, nameIndex := 11, descriptorIndex := 12, attributes := #[] }] 33 0 #[] #[])
  fields := #[]
  methods := #[k0m0, k0m1]
  instanceTypes := #[]
  staticTypes := #[]
  resolved := Array.replicate 124 none
  statics := none }

def pool1 : Array CpInfo := pool [(2, .class_ 4), (0, .nameAndType 5 6), (0, u "java/lang/Object"), (0, u "<init>"), (0, u "()V"), (0, .integer 2147483647), (0, .methodref 9 10), (0, .class_ 11), (0, .nameAndType 12 13), (0, u sn2), (0, u "line"), (0, u sn52), (0, .string 15), (0, u ""), (0, .methodref 17 18), (0, .class_ 19), (0, .nameAndType 20 21), (0, u "java/lang/String"), (0, u "valueOf"), (0, u sn48), (0, .methodref 17 23), (0, .nameAndType 5 24), (0, u "([C)V"), (0, .class_ 26), (0, u "java/util/ArrayList"), (0, .methodref 25 3), (0, .methodref 25 29), (0, .nameAndType 30 31), (0, u "add"), (0, u sn11), (0, .methodref 9 33), (0, .nameAndType 34 35), (0, u "isDataKind"), (0, u "(IC)Z"), (0, .methodref 9 37), (0, .nameAndType 38 39), (0, u "expect"), (0, u sn16), (0, .class_ 41), (0, u sn0), (0, .methodref 40 43), (0, .nameAndType 5 44), (0, u "(Ljava/util/List;)V"), (0, .methodref 40 46), (0, .nameAndType 47 48), (0, u "withData"), (0, u sn10), (0, .methodref 40 50), (0, .nameAndType 51 52), (0, u "lines"), (0, u "()Ljava/util/List;"), (0, .methodref 9 54), (0, .nameAndType 55 56), (0, u "same"), (0, u sn32), (0, .methodref 25 58), (0, .nameAndType 59 60), (0, u "size"), (0, u "()I"), (0, .interfaceMethodref 62 58), (0, .class_ 63), (0, u "java/util/List"), (0, .interfaceMethodref 62 65), (0, .nameAndType 66 67), (0, u "get"), (0, u sn9), (0, .methodref 25 65), (0, .methodref 17 70), (0, .nameAndType 71 31), (0, u "equals"), (2, u "law"), (0, u "(IIII)Z")] 10

def k1m0 : Method := { name := "<init>", desc := "()V", sig := { parameters := [], returnType := none }, accessFlags := 1, code := none }
def k1c1 : Code := { maxStack := 6, maxLocals := 26, code := code, exceptionTable := #[], attributes := #[] }
def k1m1 : Method := { name := "law", desc := "(IIII)Z", sig := { parameters := [.int, .int, .int, .int], returnType := some .boolean }, accessFlags := 9, code := some k1c1 }
def k1c2 : Code := { maxStack := 6, maxLocals := 2, code := method_3_code, exceptionTable := #[], attributes := #[] }
def k1m2 : Method := { name := "line", desc := sn52, sig := { parameters := [.int, .char], returnType := some (.object "java/lang/String") }, accessFlags := 10, code := some k1c2 }
def k1c3 : Code := { maxStack := 2, maxLocals := 2, code := method_4_code, exceptionTable := #[], attributes := #[] }
def k1m3 : Method := { name := "isDataKind", desc := "(IC)Z", sig := { parameters := [.int, .char], returnType := some .boolean }, accessFlags := 10, code := some k1c3 }
def k1c4 : Code := { maxStack := 2, maxLocals := 5, code := method_5_code, exceptionTable := #[], attributes := #[] }
def k1m4 : Method := { name := "expect", desc := sn16, sig := { parameters := [(.object "java/util/ArrayList"), (.object "java/lang/String"), .boolean, .boolean, (.object "java/lang/String")], returnType := some .boolean }, accessFlags := 10, code := some k1c4 }
def k1c5 : Code := { maxStack := 3, maxLocals := 3, code := method_6_code, exceptionTable := #[], attributes := #[] }
def k1m5 : Method := { name := "same", desc := sn32, sig := { parameters := [(.object "java/util/List"), (.object "java/util/ArrayList")], returnType := some .boolean }, accessFlags := 10, code := some k1c5 }
/-- com/example/credence/credence/gateway/EventWithDataPinLaw -/
def k1 : Class := { plain sn2 (some 0) with
  accessFlags := 49
  interfaces := #[]
  cf := some (fileOf pool1 9 #[] #[{ accessFlags := 1, nameIndex := 5, descriptorIndex := 6, attributes := #[] }, { accessFlags := 9, nameIndex := 74, descriptorIndex := 75, attributes := #[] }, { accessFlags := 10, nameIndex := 12, descriptorIndex := 13, attributes := #[] }, { accessFlags := 10, nameIndex := 34, descriptorIndex := 35, attributes := #[] }, { accessFlags := 10, nameIndex := 38, descriptorIndex := 39, attributes := #[] }, { accessFlags := 10, nameIndex := 55, descriptorIndex := 56, attributes := #[] }] 49 2 #[] #[])
  fields := #[]
  methods := #[k1m0, k1m1, k1m2, k1m3, k1m4, k1m5]
  instanceTypes := #[]
  staticTypes := #[]
  resolved := Array.replicate 86 none
  statics := none }

def pool2 : Array CpInfo := pool [(1, .class_ 2), (0, u sn54), (0, .class_ 4), (0, u "java/lang/Object")] 2

/-- java/io/Serializable -/
def k2 : Class := { plain sn54 (some 0) with
  accessFlags := 1537
  interfaces := #[]
  cf := some (fileOf pool2 1 #[] #[] 1537 3 #[] #[])
  fields := #[]
  methods := #[]
  instanceTypes := #[]
  staticTypes := #[]
  resolved := Array.replicate 7 none
  statics := none }

def pool3 : Array CpInfo := pool [(1, .class_ 2), (0, u sn57), (0, .class_ 4), (0, u "java/lang/Object")] 7

/-- java/lang/Comparable -/
def k3 : Class := { plain sn57 (some 0) with
  accessFlags := 1537
  interfaces := #[]
  cf := some (fileOf pool3 1 #[] #[] 1537 3 #[] #[])
  fields := #[]
  methods := #[]
  instanceTypes := #[]
  staticTypes := #[]
  resolved := Array.replicate 12 none
  statics := none }

def pool4 : Array CpInfo := pool [(2, .class_ 4), (1, u sn55), (42, .class_ 48), (0, u "java/lang/CharSequence$1CodePointIterator"), (10, .class_ 60), (0, u "java/lang/CharSequence$1CharIterator"), (5, .class_ 67), (0, u "java/lang/Object")] 63

/-- java/lang/CharSequence -/
def k4 : Class := { plain sn55 (some 0) with
  accessFlags := 1537
  interfaces := #[]
  cf := some (fileOf pool4 2 #[.nestMembers #[47, 59]] #[] 1537 66 #[] #[])
  fields := #[]
  methods := #[]
  instanceTypes := #[]
  staticTypes := #[]
  resolved := Array.replicate 131 none
  statics := none }

def pool5 : Array CpInfo := pool [(1, .class_ 2), (0, u "java/lang/constant/Constable"), (0, .class_ 4), (0, u "java/lang/Object")] 6

/-- java/lang/constant/Constable -/
def k5 : Class := { plain "java/lang/constant/Constable" (some 0) with
  accessFlags := 1537
  interfaces := #[]
  cf := some (fileOf pool5 1 #[] #[] 1537 3 #[] #[])
  fields := #[]
  methods := #[]
  instanceTypes := #[]
  staticTypes := #[]
  resolved := Array.replicate 11 none
  statics := none }

def pool6 : Array CpInfo := pool [(1, .class_ 2), (0, u "java/lang/constant/ConstantDesc"), (0, .class_ 4), (0, u "java/lang/Object")] 32

/-- java/lang/constant/ConstantDesc -/
def k6 : Class := { plain "java/lang/constant/ConstantDesc" (some 0) with
  accessFlags := 1537
  interfaces := #[]
  cf := some (fileOf pool6 1 #[] #[] 1537 3 #[] #[])
  fields := #[]
  methods := #[]
  instanceTypes := #[]
  staticTypes := #[]
  resolved := Array.replicate 37 none
  statics := none }

def pool7 : Array CpInfo := pool [(1, .methodref 2 3), (0, .class_ 4), (0, .nameAndType 5 6), (0, u "java/lang/Object"), (0, u "<init>"), (0, u "()V"), (2, .fieldref 10 11), (0, .class_ 12), (0, .nameAndType 13 14), (0, u "java/lang/String"), (0, u "value"), (0, u "[B"), (0, .fieldref 10 16), (0, .nameAndType 17 18), (0, u "coder"), (0, u "B"), (2, u "hash"), (0, u "I"), (2, u "hashIsZero"), (0, u "Z"), (0, .methodref 10 28), (0, .nameAndType 5 29), (0, u sn50), (8, .fieldref 10 39), (0, .nameAndType 40 26), (0, u "COMPACT_STRINGS"), (1, .class_ 44), (1, u sn21), (0, u "compress"), (1, .methodref 42 48), (0, .nameAndType 49 50), (0, u "coderFromArrayLen"), (0, u "([BI)B"), (2, u "toBytes"), (0, .methodref 55 56), (0, .class_ 57), (0, .nameAndType 58 59), (0, u "java/util/Arrays"), (0, u "copyOfRange"), (0, u "([BII)[B"), (47, .class_ 109), (1, u sn20), (32, u "()Z"), (34, .methodref 42 178), (0, .nameAndType 45 179), (0, u "([CII)[B"), (13, .class_ 195), (1, u "java/lang/System"), (13, .methodref 10 210), (0, .nameAndType 5 211), (0, u "([BB)V"), (0, .methodref 193 213), (0, .nameAndType 214 215), (0, u "arraycopy"), (0, u sn34), (118, u "()I"), (0, .methodref 10 336), (0, .nameAndType 17 337), (0, u "()B"), (2, u "()[B"), (28, u "(C)Z"), (6, u "([BI[BII)I"), (112, .methodref 10 490), (0, .nameAndType 5 491), (0, u sn23), (1, .nameAndType 494 142), (0, u "isLatin1"), (10, .methodref 10 506), (0, .nameAndType 507 334), (0, u "length"), (24, u "getBytes"), (8, .methodref 107 542), (0, .nameAndType 543 544), (0, u "equals"), (0, u "([B[B)Z"), (4, .methodref 550 506), (0, .class_ 551), (0, u sn1), (0, .methodref 550 553), (0, .nameAndType 554 340), (0, u "getValue"), (4, .class_ 561), (1, u sn37), (0, u "mismatch"), (10, u sn11), (1, .class_ 576), (0, u sn55), (22, u "CASE_INSENSITIVE_ORDER"), (0, u "Ljava/util/Comparator;"), (6, .methodref 559 608), (0, .nameAndType 562 376), (15, .methodref 10 625), (0, .nameAndType 626 627), (0, u "startsWith"), (0, u sn41), (154, u "valueOf"), (0, u sn48), (37, u "([BIB)V"), (188, u "([C)V"), (4, .methodref 107 1016), (0, .nameAndType 1017 369), (0, u "canEncode"), (0, .methodref 107 1019), (0, .nameAndType 53 1020), (0, u "(C)[B"), (26, .methodref 550 493), (53, u "serialPersistentFields"), (0, u "[Ljava/io/ObjectStreamField;"), (0, .class_ 1104), (0, u "java/lang/String$CaseInsensitiveComparator"), (1, .class_ 1107), (0, u sn54), (0, .class_ 1109), (0, u sn57), (0, .class_ 1111), (0, u "java/lang/constant/Constable"), (0, .class_ 1113), (0, u "java/lang/constant/ConstantDesc"), (2, u "serialVersionUID"), (0, u "J"), (3, u "REPL"), (0, u "C"), (2, u "LATIN1"), (1, u "UTF16"), (105, u sn39), (23, u sn26)] 193

def k7m0 : Method := { name := "<init>", desc := "()V", sig := { parameters := [], returnType := none }, accessFlags := 1, code := none }
def k7c1 : Code := { maxStack := 5, maxLocals := 2, code := jdk_42_method_3_code, exceptionTable := #[], attributes := #[] }
def k7m1 : Method := { name := "<init>", desc := "([C)V", sig := { parameters := [(.array .char)], returnType := none }, accessFlags := 1, code := some k7c1 }
def k7c2 : Code := { maxStack := 3, maxLocals := 2, code := jdk_42_method_53_code, exceptionTable := #[], attributes := #[] }
def k7m2 : Method := { name := "<init>", desc := sn39, sig := { parameters := [(.object sn7)], returnType := none }, accessFlags := 1, code := some k7c2 }
def k7c3 : Code := { maxStack := 2, maxLocals := 1, code := jdk_42_method_54_code, exceptionTable := #[], attributes := #[] }
def k7m3 : Method := { name := "length", desc := "()I", sig := { parameters := [], returnType := some .int }, accessFlags := 1, code := some k7c3 }
def k7c4 : Code := { maxStack := 2, maxLocals := 3, code := jdk_42_method_66_code, exceptionTable := #[], attributes := #[] }
def k7m4 : Method := { name := "equals", desc := sn11, sig := { parameters := [(.object "java/lang/Object")], returnType := some .boolean }, accessFlags := 1, code := some k7c4 }
def k7c5 : Code := { maxStack := 5, maxLocals := 8, code := jdk_42_method_75_code, exceptionTable := #[], attributes := #[] }
def k7m5 : Method := { name := "startsWith", desc := sn41, sig := { parameters := [(.object "java/lang/String"), .int], returnType := some .boolean }, accessFlags := 1, code := some k7c5 }
def k7c6 : Code := { maxStack := 3, maxLocals := 2, code := jdk_42_method_76_code, exceptionTable := #[], attributes := #[] }
def k7m6 : Method := { name := "startsWith", desc := sn26, sig := { parameters := [(.object "java/lang/String")], returnType := some .boolean }, accessFlags := 1, code := some k7c6 }
def k7c7 : Code := { maxStack := 4, maxLocals := 1, code := jdk_42_method_139_code, exceptionTable := #[], attributes := #[] }
def k7m7 : Method := { name := "valueOf", desc := sn48, sig := { parameters := [.char], returnType := some (.object "java/lang/String") }, accessFlags := 9, code := some k7c7 }
def k7c8 : Code := { maxStack := 5, maxLocals := 4, code := jdk_42_method_147_code, exceptionTable := #[], attributes := #[] }
def k7m8 : Method := { name := "getBytes", desc := "([BIB)V", sig := { parameters := [(.array .byte), .int, .byte], returnType := none }, accessFlags := 0, code := some k7c8 }
def k7c9 : Code := { maxStack := 4, maxLocals := 6, code := jdk_42_method_149_code, exceptionTable := #[], attributes := #[] }
def k7m9 : Method := { name := "<init>", desc := sn50, sig := { parameters := [(.array .char), .int, .int, (.object "java/lang/Void")], returnType := none }, accessFlags := 2, code := some k7c9 }
def k7c10 : Code := { maxStack := 5, maxLocals := 5, code := jdk_42_method_150_code, exceptionTable := #[], attributes := #[] }
def k7m10 : Method := { name := "<init>", desc := sn23, sig := { parameters := [(.object sn1), (.object "java/lang/Void")], returnType := none }, accessFlags := 0, code := some k7c10 }
def k7c11 : Code := { maxStack := 2, maxLocals := 3, code := jdk_42_method_151_code, exceptionTable := #[], attributes := #[] }
def k7m11 : Method := { name := "<init>", desc := "([BB)V", sig := { parameters := [(.array .byte), .byte], returnType := none }, accessFlags := 0, code := some k7c11 }
def k7c12 : Code := { maxStack := 1, maxLocals := 1, code := jdk_42_method_152_code, exceptionTable := #[], attributes := #[] }
def k7m12 : Method := { name := "coder", desc := "()B", sig := { parameters := [], returnType := some .byte }, accessFlags := 0, code := some k7c12 }
/-- java/lang/String -/
def k7 : Class := { plain "java/lang/String" (some 0) with
  accessFlags := 49
  interfaces := #[2, 3, 4, 5, 6]
  cf := some (fileOf pool7 10 #[.nestMembers #[1103]] #[{ accessFlags := 1, nameIndex := 5, descriptorIndex := 6, attributes := #[] }, { accessFlags := 1, nameIndex := 5, descriptorIndex := 1010, attributes := #[] }, { accessFlags := 1, nameIndex := 5, descriptorIndex := 1233, attributes := #[] }, { accessFlags := 1, nameIndex := 507, descriptorIndex := 334, attributes := #[] }, { accessFlags := 1, nameIndex := 543, descriptorIndex := 573, attributes := #[] }, { accessFlags := 1, nameIndex := 626, descriptorIndex := 627, attributes := #[] }, { accessFlags := 1, nameIndex := 626, descriptorIndex := 1257, attributes := #[] }, { accessFlags := 9, nameIndex := 782, descriptorIndex := 783, attributes := #[] }, { accessFlags := 0, nameIndex := 532, descriptorIndex := 821, attributes := #[] }, { accessFlags := 2, nameIndex := 5, descriptorIndex := 29, attributes := #[] }, { accessFlags := 0, nameIndex := 5, descriptorIndex := 491, attributes := #[] }, { accessFlags := 0, nameIndex := 5, descriptorIndex := 211, attributes := #[] }, { accessFlags := 0, nameIndex := 17, descriptorIndex := 337, attributes := #[] }] 49 2 #[1106, 1108, 575, 1110, 1112] #[{ accessFlags := 18, nameIndex := 13, descriptorIndex := 14, attributes := #[] }, { accessFlags := 18, nameIndex := 17, descriptorIndex := 18, attributes := #[] }, { accessFlags := 2, nameIndex := 21, descriptorIndex := 22, attributes := #[] }, { accessFlags := 2, nameIndex := 25, descriptorIndex := 26, attributes := #[] }, { accessFlags := 26, nameIndex := 1116, descriptorIndex := 1117, attributes := #[] }, { accessFlags := 24, nameIndex := 40, descriptorIndex := 26, attributes := #[] }, { accessFlags := 26, nameIndex := 1101, descriptorIndex := 1102, attributes := #[] }, { accessFlags := 26, nameIndex := 1121, descriptorIndex := 1122, attributes := #[] }, { accessFlags := 25, nameIndex := 599, descriptorIndex := 600, attributes := #[] }, { accessFlags := 24, nameIndex := 1125, descriptorIndex := 18, attributes := #[] }, { accessFlags := 24, nameIndex := 1127, descriptorIndex := 18, attributes := #[] }])
  fields := #[{ name := "value", type := (.array .byte), accessFlags := 18, slot := 0, constantValue := 0 }, { name := "coder", type := .byte, accessFlags := 18, slot := 1, constantValue := 0 }, { name := "hash", type := .int, accessFlags := 2, slot := 2, constantValue := 0 }, { name := "hashIsZero", type := .boolean, accessFlags := 2, slot := 3, constantValue := 0 }, { name := "serialVersionUID", type := .long, accessFlags := 26, slot := 0, constantValue := 0 }, { name := "COMPACT_STRINGS", type := .boolean, accessFlags := 24, slot := 1, constantValue := 0 }, { name := "serialPersistentFields", type := (.array (.object "java/io/ObjectStreamField")), accessFlags := 26, slot := 2, constantValue := 0 }, { name := "REPL", type := .char, accessFlags := 26, slot := 3, constantValue := 0 }, { name := "CASE_INSENSITIVE_ORDER", type := (.object "java/util/Comparator"), accessFlags := 25, slot := 4, constantValue := 0 }, { name := "LATIN1", type := .byte, accessFlags := 24, slot := 5, constantValue := 0 }, { name := "UTF16", type := .byte, accessFlags := 24, slot := 6, constantValue := 0 }]
  methods := #[k7m0, k7m1, k7m2, k7m3, k7m4, k7m5, k7m6, k7m7, k7m8, k7m9, k7m10, k7m11, k7m12]
  instanceTypes := #[(.array .byte), .byte, .int, .boolean]
  staticTypes := #[.long, .boolean, (.array (.object "java/io/ObjectStreamField")), .char, (.object "java/util/Comparator"), .byte, .byte]
  resolved := Array.replicate 1451 none
  statics := some 0 }

def pool8 : Array CpInfo := pool [(6, .class_ 8), (1, u "java/lang/Object"), (0, u "<init>"), (0, u "()V"), (1, .class_ 14), (1, u sn21), (31, u "$assertionsDisabled"), (0, u "Z"), (13, u "HI_BYTE_SHIFT"), (0, u "I"), (2, u "LO_BYTE_SHIFT"), (49, .methodref 12 116), (0, .nameAndType 117 118), (0, u "compress"), (0, u "([CI[BII)I"), (3, u "([CII)[B"), (138, u "coderFromArrayLen"), (0, u "([BI)B"), (106, .class_ 371), (1, u "java/lang/StringUTF16$LinesSpliterator"), (58, u "MAX_LENGTH"), (196, .class_ 628), (0, u "java/lang/StringUTF16$CodePointsSpliterator"), (0, .class_ 630), (0, u "java/lang/StringUTF16$CharsSpliterator")] 4

def k8m0 : Method := { name := "<init>", desc := "()V", sig := { parameters := [], returnType := none }, accessFlags := 0, code := none }
def k8c1 : Code := { maxStack := 2, maxLocals := 2, code := jdk_52_method_15_code, exceptionTable := #[], attributes := #[] }
def k8m1 : Method := { name := "coderFromArrayLen", desc := "([BI)B", sig := { parameters := [(.array .byte), .int], returnType := some .byte }, accessFlags := 8, code := some k8c1 }
def k8c2 : Code := { maxStack := 5, maxLocals := 6, code := jdk_52_method_16_code, exceptionTable := #[], attributes := #[] }
def k8m2 : Method := { name := "compress", desc := "([CII)[B", sig := { parameters := [(.array .char), .int, .int], returnType := some (.array .byte) }, accessFlags := 9, code := some k8c2 }
def k8c3 : Code := { maxStack := 3, maxLocals := 7, code := jdk_52_method_21_code, exceptionTable := #[], attributes := #[] }
def k8m3 : Method := { name := "compress", desc := "([CI[BII)I", sig := { parameters := [(.array .char), .int, (.array .byte), .int, .int], returnType := some .int }, accessFlags := 9, code := some k8c3 }
/-- java/lang/StringUTF16 -/
def k8 : Class := { plain sn21 (some 0) with
  accessFlags := 48
  interfaces := #[]
  cf := some (fileOf pool8 12 #[.nestMembers #[627, 629, 369]] #[{ accessFlags := 0, nameIndex := 9, descriptorIndex := 10, attributes := #[] }, { accessFlags := 8, nameIndex := 261, descriptorIndex := 262, attributes := #[] }, { accessFlags := 9, nameIndex := 117, descriptorIndex := 122, attributes := #[] }, { accessFlags := 9, nameIndex := 117, descriptorIndex := 118, attributes := #[] }] 48 6 #[] #[{ accessFlags := 26, nameIndex := 61, descriptorIndex := 62, attributes := #[] }, { accessFlags := 26, nameIndex := 65, descriptorIndex := 62, attributes := #[] }, { accessFlags := 24, nameIndex := 430, descriptorIndex := 62, attributes := #[] }, { accessFlags := 4120, nameIndex := 46, descriptorIndex := 47, attributes := #[] }])
  fields := #[{ name := "HI_BYTE_SHIFT", type := .int, accessFlags := 26, slot := 0, constantValue := 0 }, { name := "LO_BYTE_SHIFT", type := .int, accessFlags := 26, slot := 1, constantValue := 0 }, { name := "MAX_LENGTH", type := .int, accessFlags := 24, slot := 2, constantValue := 0 }, { name := "$assertionsDisabled", type := .boolean, accessFlags := 4120, slot := 3, constantValue := 0 }]
  methods := #[k8m0, k8m1, k8m2, k8m3]
  instanceTypes := #[]
  staticTypes := #[.int, .int, .int, .boolean]
  resolved := Array.replicate 635 none
  statics := none }

def pool9 : Array CpInfo := pool [(4, .class_ 6), (1, u "java/lang/Object"), (0, u "<init>"), (0, u "()V"), (5, .class_ 16), (1, u sn20), (73, u "canEncode"), (14, u "(C)Z"), (15, u "$assertionsDisabled"), (0, u "Z"), (98, .class_ 223), (1, u "java/lang/StringLatin1$LinesSpliterator"), (57, u "equals"), (0, u "([B[B)Z"), (97, u "toBytes"), (1, u "(C)[B"), (7, .class_ 391), (0, u "java/lang/StringLatin1$CharsSpliterator")] 3

def k9m0 : Method := { name := "<init>", desc := "()V", sig := { parameters := [], returnType := none }, accessFlags := 0, code := none }
def k9c1 : Code := { maxStack := 2, maxLocals := 1, code := jdk_43_method_3_code, exceptionTable := #[], attributes := #[] }
def k9m1 : Method := { name := "canEncode", desc := "(C)Z", sig := { parameters := [.char], returnType := some .boolean }, accessFlags := 9, code := some k9c1 }
def k9c2 : Code := { maxStack := 3, maxLocals := 3, code := jdk_43_method_13_code, exceptionTable := #[], attributes := #[] }
def k9m2 : Method := { name := "equals", desc := "([B[B)Z", sig := { parameters := [(.array .byte), (.array .byte)], returnType := some .boolean }, accessFlags := 9, code := some k9c2 }
def k9c3 : Code := { maxStack := 4, maxLocals := 1, code := jdk_43_method_46_code, exceptionTable := #[], attributes := #[] }
def k9m3 : Method := { name := "toBytes", desc := "(C)[B", sig := { parameters := [.char], returnType := some (.array .byte) }, accessFlags := 9, code := some k9c3 }
/-- java/lang/StringLatin1 -/
def k9 : Class := { plain sn20 (some 0) with
  accessFlags := 48
  interfaces := #[]
  cf := some (fileOf pool9 14 #[.nestMembers #[390, 221]] #[{ accessFlags := 0, nameIndex := 7, descriptorIndex := 8, attributes := #[] }, { accessFlags := 9, nameIndex := 90, descriptorIndex := 105, attributes := #[] }, { accessFlags := 9, nameIndex := 281, descriptorIndex := 282, attributes := #[] }, { accessFlags := 9, nameIndex := 380, descriptorIndex := 382, attributes := #[] }] 48 4 #[] #[{ accessFlags := 4120, nameIndex := 121, descriptorIndex := 122, attributes := #[] }])
  fields := #[{ name := "$assertionsDisabled", type := .boolean, accessFlags := 4120, slot := 0, constantValue := 0 }]
  methods := #[k9m0, k9m1, k9m2, k9m3]
  instanceTypes := #[]
  staticTypes := #[.boolean]
  resolved := Array.replicate 395 none
  statics := none }

def pool10 : Array CpInfo := pool [(8, .class_ 10), (1, u "java/lang/Iterable"), (24, .class_ 36), (0, u "java/lang/Object")] 25

/-- java/lang/Iterable -/
def k10 : Class := { plain "java/lang/Iterable" (some 0) with
  accessFlags := 1537
  interfaces := #[]
  cf := some (fileOf pool10 8 #[] #[] 1537 35 #[] #[])
  fields := #[]
  methods := #[]
  instanceTypes := #[]
  staticTypes := #[]
  resolved := Array.replicate 62 none
  statics := none }

def pool11 : Array CpInfo := pool [(10, .class_ 12), (1, u sn31), (0, u "toArray"), (16, u "()Z"), (29, .class_ 61), (0, u "java/lang/Object"), (0, .class_ 63), (0, u "java/lang/Iterable"), (2, u "isEmpty"), (3, u sn17)] 44

def k11m0 : Method := { name := "isEmpty", desc := "()Z", sig := { parameters := [], returnType := some .boolean }, accessFlags := 1025, code := none }
def k11m1 : Method := { name := "toArray", desc := sn17, sig := { parameters := [], returnType := some (.array (.object "java/lang/Object")) }, accessFlags := 1025, code := none }
/-- java/util/Collection -/
def k11 : Class := { plain sn31 (some 0) with
  accessFlags := 1537
  interfaces := #[10]
  cf := some (fileOf pool11 10 #[] #[{ accessFlags := 1025, nameIndex := 66, descriptorIndex := 30, attributes := #[] }, { accessFlags := 1025, nameIndex := 13, descriptorIndex := 70, attributes := #[] }] 1537 60 #[62] #[])
  fields := #[]
  methods := #[k11m0, k11m1]
  instanceTypes := #[]
  staticTypes := #[]
  resolved := Array.replicate 115 none
  statics := none }

def pool12 : Array CpInfo := pool [(1, .methodref 2 3), (0, .class_ 4), (0, .nameAndType 5 6), (0, u "java/lang/Object"), (0, u "<init>"), (0, u "()V"), (1, .class_ 10), (1, u sn22), (0, u "size"), (0, u "()I"), (64, .class_ 78), (0, u sn31)] 81

def k12c0 : Code := { maxStack := 1, maxLocals := 1, code := jdk_22_method_1_code, exceptionTable := #[], attributes := #[] }
def k12m0 : Method := { name := "<init>", desc := "()V", sig := { parameters := [], returnType := none }, accessFlags := 4, code := some k12c0 }
def k12m1 : Method := { name := "size", desc := "()I", sig := { parameters := [], returnType := some .int }, accessFlags := 1025, code := none }
/-- java/util/AbstractCollection -/
def k12 : Class := { plain sn22 (some 0) with
  accessFlags := 1057
  interfaces := #[11]
  cf := some (fileOf pool12 8 #[] #[{ accessFlags := 4, nameIndex := 5, descriptorIndex := 6, attributes := #[] }, { accessFlags := 1025, nameIndex := 11, descriptorIndex := 12, attributes := #[] }] 1057 2 #[77] #[])
  fields := #[]
  methods := #[k12m0, k12m1]
  instanceTypes := #[]
  staticTypes := #[]
  resolved := Array.replicate 160 none
  statics := none }

def pool13 : Array CpInfo := pool [(8, .class_ 10), (1, u "java/util/SequencedCollection"), (15, .class_ 27), (0, u "java/lang/Object"), (0, .class_ 29), (0, u sn31)] 27

/-- java/util/SequencedCollection -/
def k13 : Class := { plain "java/util/SequencedCollection" (some 0) with
  accessFlags := 1537
  interfaces := #[11]
  cf := some (fileOf pool13 8 #[] #[] 1537 26 #[28] #[])
  fields := #[]
  methods := #[]
  instanceTypes := #[]
  staticTypes := #[]
  resolved := Array.replicate 57 none
  statics := none }

def pool14 : Array CpInfo := pool [(8, .class_ 10), (1, u "java/util/List"), (20, u sn49), (16, u "<init>"), (11, u "add"), (3, u sn11), (10, u "get"), (0, u sn9), (2, u "size"), (0, u "()I"), (7, u "of"), (1, .fieldref 91 92), (0, .class_ 93), (0, .nameAndType 94 95), (0, u sn8), (0, u "EMPTY_LIST"), (0, u sn38), (0, .class_ 97), (0, u sn3), (0, .methodref 96 99), (0, .nameAndType 48 31), (0, .methodref 96 101), (0, .nameAndType 48 102), (0, u sn30), (0, .class_ 104), (0, u "java/lang/Object"), (3, u sn14), (0, .methodref 91 110), (0, .nameAndType 111 108), (0, u "listFromArray"), (0, .methodref 91 113), (0, .nameAndType 114 115), (0, u "listCopy"), (0, u sn12), (3, u "()Ljava/util/List;"), (0, .class_ 121), (0, u "java/util/SequencedCollection"), (1, u "iterator"), (0, u sn24), (109, u "copyOf")] 16

def k14m0 : Method := { name := "size", desc := "()I", sig := { parameters := [], returnType := some .int }, accessFlags := 1025, code := none }
def k14m1 : Method := { name := "iterator", desc := sn24, sig := { parameters := [], returnType := some (.object "java/util/Iterator") }, accessFlags := 1025, code := none }
def k14m2 : Method := { name := "add", desc := sn11, sig := { parameters := [(.object "java/lang/Object")], returnType := some .boolean }, accessFlags := 1025, code := none }
def k14m3 : Method := { name := "get", desc := sn9, sig := { parameters := [.int], returnType := some (.object "java/lang/Object") }, accessFlags := 1025, code := none }
def k14c4 : Code := { maxStack := 1, maxLocals := 0, code := jdk_40_method_36_code, exceptionTable := #[], attributes := #[] }
def k14m4 : Method := { name := "of", desc := "()Ljava/util/List;", sig := { parameters := [], returnType := some (.object "java/util/List") }, accessFlags := 9, code := some k14c4 }
def k14c5 : Code := { maxStack := 5, maxLocals := 2, code := jdk_40_method_47_code, exceptionTable := #[], attributes := #[] }
def k14m5 : Method := { name := "of", desc := sn14, sig := { parameters := [(.array (.object "java/lang/Object"))], returnType := some (.object "java/util/List") }, accessFlags := 137, code := some k14c5 }
def k14c6 : Code := { maxStack := 1, maxLocals := 1, code := jdk_40_method_48_code, exceptionTable := #[], attributes := #[] }
def k14m6 : Method := { name := "copyOf", desc := sn12, sig := { parameters := [(.object sn31)], returnType := some (.object "java/util/List") }, accessFlags := 9, code := some k14c6 }
/-- java/util/List -/
def k14 : Class := { plain "java/util/List" (some 0) with
  accessFlags := 1537
  interfaces := #[13]
  cf := some (fileOf pool14 8 #[] #[{ accessFlags := 1025, nameIndex := 79, descriptorIndex := 80, attributes := #[] }, { accessFlags := 1025, nameIndex := 123, descriptorIndex := 124, attributes := #[] }, { accessFlags := 1025, nameIndex := 60, descriptorIndex := 64, attributes := #[] }, { accessFlags := 1025, nameIndex := 75, descriptorIndex := 76, attributes := #[] }, { accessFlags := 9, nameIndex := 88, descriptorIndex := 119, attributes := #[] }, { accessFlags := 137, nameIndex := 88, descriptorIndex := 108, attributes := #[] }, { accessFlags := 9, nameIndex := 234, descriptorIndex := 115, attributes := #[] }] 1537 103 #[120] #[])
  fields := #[]
  methods := #[k14m0, k14m1, k14m2, k14m3, k14m4, k14m5, k14m6]
  instanceTypes := #[]
  staticTypes := #[]
  resolved := Array.replicate 251 none
  statics := none }

def pool15 : Array CpInfo := pool [(1, .methodref 2 3), (0, .class_ 4), (0, .nameAndType 5 6), (0, u sn22), (0, u "<init>"), (0, u "()V"), (0, .fieldref 8 9), (0, .class_ 10), (0, .nameAndType 11 12), (0, u sn27), (0, u "modCount"), (0, u "I"), (64, .class_ 78), (0, u "java/util/AbstractList$Itr"), (3, .class_ 83), (0, u "java/util/AbstractList$ListItr"), (9, .class_ 94), (0, u "java/util/AbstractList$RandomAccessSubList"), (3, .class_ 99), (0, u "java/util/AbstractList$SubList"), (33, .class_ 134), (0, u "java/util/List"), (73, .class_ 209), (0, u "java/util/AbstractList$SubList$1"), (0, .class_ 211), (0, u "java/util/AbstractList$RandomAccessSpliterator")] 6

def k15c0 : Code := { maxStack := 2, maxLocals := 1, code := jdk_39_method_1_code, exceptionTable := #[], attributes := #[] }
def k15m0 : Method := { name := "<init>", desc := "()V", sig := { parameters := [], returnType := none }, accessFlags := 4, code := some k15c0 }
/-- java/util/AbstractList -/
def k15 : Class := { plain sn27 (some 12) with
  accessFlags := 1057
  interfaces := #[14]
  cf := some (fileOf pool15 8 #[.nestMembers #[93, 98, 208, 210, 82, 77]] #[{ accessFlags := 4, nameIndex := 5, descriptorIndex := 6, attributes := #[] }] 1057 2 #[133] #[{ accessFlags := 132, nameIndex := 11, descriptorIndex := 12, attributes := #[] }])
  fields := #[{ name := "modCount", type := .int, accessFlags := 132, slot := 0, constantValue := 0 }]
  methods := #[k15m0]
  instanceTypes := #[.int]
  staticTypes := #[]
  resolved := Array.replicate 218 none
  statics := none }

def pool16 : Array CpInfo := pool [(1, .class_ 2), (0, u sn56), (0, .class_ 4), (0, u "java/lang/Object")] 2

/-- java/util/RandomAccess -/
def k16 : Class := { plain sn56 (some 0) with
  accessFlags := 1537
  interfaces := #[]
  cf := some (fileOf pool16 1 #[] #[] 1537 3 #[] #[])
  fields := #[]
  methods := #[]
  instanceTypes := #[]
  staticTypes := #[]
  resolved := Array.replicate 7 none
  statics := none }

def pool17 : Array CpInfo := pool [(1, .class_ 2), (0, u "java/lang/Cloneable"), (0, .class_ 4), (0, u "java/lang/Object")] 2

/-- java/lang/Cloneable -/
def k17 : Class := { plain "java/lang/Cloneable" (some 0) with
  accessFlags := 1537
  interfaces := #[]
  cf := some (fileOf pool17 1 #[] #[] 1537 3 #[] #[])
  fields := #[]
  methods := #[]
  instanceTypes := #[]
  staticTypes := #[]
  resolved := Array.replicate 7 none
  statics := none }

def pool18 : Array CpInfo := pool [(1, .methodref 2 3), (0, .class_ 4), (0, .nameAndType 5 6), (0, u sn27), (0, u "<init>"), (0, u "()V"), (0, .class_ 8), (0, u "java/lang/Object"), (0, .fieldref 10 11), (0, .class_ 12), (0, .nameAndType 13 14), (0, u "java/util/ArrayList"), (0, u "elementData"), (0, u "[Ljava/lang/Object;"), (2, u "EMPTY_ELEMENTDATA"), (21, .fieldref 10 40), (0, .nameAndType 41 14), (0, u sn53), (4, u "toArray"), (0, u sn17), (0, .fieldref 10 49), (0, .nameAndType 50 51), (0, u "size"), (0, u "I"), (6, .class_ 60), (1, u "java/util/Arrays"), (0, u "copyOf"), (1, .fieldref 10 64), (0, .nameAndType 65 51), (0, u "modCount"), (0, .methodref 58 67), (0, .nameAndType 61 68), (0, u sn29), (0, .methodref 10 70), (0, .nameAndType 71 72), (0, u "grow"), (0, u sn47), (6, .methodref 80 81), (0, .class_ 82), (0, .nameAndType 83 84), (0, u "java/lang/Math"), (0, u "max"), (0, u "(II)I"), (11, u sn11), (21, .methodref 119 120), (0, .class_ 121), (0, .nameAndType 122 84), (0, u "java/util/Objects"), (0, u "checkIndex"), (0, .methodref 10 124), (0, .nameAndType 13 125), (0, u sn9), (3, .methodref 10 130), (0, .nameAndType 71 47), (0, .methodref 10 132), (0, .nameAndType 133 134), (0, u "add"), (0, u sn28), (13, .class_ 149), (0, u "java/util/List"), (23, u "()Z"), (12, u "()I"), (75, .class_ 263), (0, u "java/util/ArrayList$ListItr"), (3, .class_ 268), (0, u "java/util/ArrayList$Itr"), (7, .class_ 277), (0, u "java/util/ArrayList$SubList"), (12, .class_ 291), (0, u "java/util/ArrayList$ArrayListSpliterator"), (37, .class_ 330), (0, u sn56), (0, .class_ 332), (0, u "java/lang/Cloneable"), (0, .class_ 334), (0, u sn54), (0, u "serialVersionUID"), (0, u "J"), (3, u "DEFAULT_CAPACITY"), (22, u "isEmpty"), (17, u "get"), (118, .class_ 501), (0, u "java/util/ArrayList$SubList$2"), (0, .class_ 503), (0, u "java/util/ArrayList$SubList$1")] 5

def k18c0 : Code := { maxStack := 2, maxLocals := 1, code := jdk_38_method_2_code, exceptionTable := #[], attributes := #[] }
def k18m0 : Method := { name := "<init>", desc := "()V", sig := { parameters := [], returnType := none }, accessFlags := 1, code := some k18c0 }
def k18c1 : Code := { maxStack := 4, maxLocals := 4, code := jdk_38_method_6_code, exceptionTable := #[], attributes := #[] }
def k18m1 : Method := { name := "grow", desc := sn47, sig := { parameters := [.int], returnType := some (.array (.object "java/lang/Object")) }, accessFlags := 2, code := some k18c1 }
def k18c2 : Code := { maxStack := 3, maxLocals := 1, code := jdk_38_method_7_code, exceptionTable := #[], attributes := #[] }
def k18m2 : Method := { name := "grow", desc := sn17, sig := { parameters := [], returnType := some (.array (.object "java/lang/Object")) }, accessFlags := 2, code := some k18c2 }
def k18c3 : Code := { maxStack := 1, maxLocals := 1, code := jdk_38_method_8_code, exceptionTable := #[], attributes := #[] }
def k18m3 : Method := { name := "size", desc := "()I", sig := { parameters := [], returnType := some .int }, accessFlags := 1, code := some k18c3 }
def k18c4 : Code := { maxStack := 1, maxLocals := 1, code := jdk_38_method_9_code, exceptionTable := #[], attributes := #[] }
def k18m4 : Method := { name := "isEmpty", desc := "()Z", sig := { parameters := [], returnType := some .boolean }, accessFlags := 1, code := some k18c4 }
def k18c5 : Code := { maxStack := 2, maxLocals := 1, code := jdk_38_method_16_code, exceptionTable := #[], attributes := #[] }
def k18m5 : Method := { name := "toArray", desc := sn17, sig := { parameters := [], returnType := some (.array (.object "java/lang/Object")) }, accessFlags := 1, code := some k18c5 }
def k18c6 : Code := { maxStack := 2, maxLocals := 2, code := jdk_38_method_18_code, exceptionTable := #[], attributes := #[] }
def k18m6 : Method := { name := "elementData", desc := sn9, sig := { parameters := [.int], returnType := some (.object "java/lang/Object") }, accessFlags := 0, code := some k18c6 }
def k18c7 : Code := { maxStack := 2, maxLocals := 2, code := jdk_38_method_20_code, exceptionTable := #[], attributes := #[] }
def k18m7 : Method := { name := "get", desc := sn9, sig := { parameters := [.int], returnType := some (.object "java/lang/Object") }, accessFlags := 1, code := some k18c7 }
def k18c8 : Code := { maxStack := 3, maxLocals := 4, code := jdk_38_method_24_code, exceptionTable := #[], attributes := #[] }
def k18m8 : Method := { name := "add", desc := sn28, sig := { parameters := [(.object "java/lang/Object"), (.array (.object "java/lang/Object")), .int], returnType := none }, accessFlags := 2, code := some k18c8 }
def k18c9 : Code := { maxStack := 4, maxLocals := 2, code := jdk_38_method_25_code, exceptionTable := #[], attributes := #[] }
def k18m9 : Method := { name := "add", desc := sn11, sig := { parameters := [(.object "java/lang/Object")], returnType := some .boolean }, accessFlags := 1, code := some k18c9 }
/-- java/util/ArrayList -/
def k18 : Class := { plain "java/util/ArrayList" (some 15) with
  accessFlags := 33
  interfaces := #[14, 16, 17, 2]
  cf := some (fileOf pool18 10 #[.nestMembers #[290, 276, 500, 502, 262, 267]] #[{ accessFlags := 1, nameIndex := 5, descriptorIndex := 6, attributes := #[] }, { accessFlags := 2, nameIndex := 71, descriptorIndex := 72, attributes := #[] }, { accessFlags := 2, nameIndex := 71, descriptorIndex := 47, attributes := #[] }, { accessFlags := 1, nameIndex := 50, descriptorIndex := 186, attributes := #[] }, { accessFlags := 1, nameIndex := 363, descriptorIndex := 173, attributes := #[] }, { accessFlags := 1, nameIndex := 46, descriptorIndex := 47, attributes := #[] }, { accessFlags := 0, nameIndex := 13, descriptorIndex := 125, attributes := #[] }, { accessFlags := 1, nameIndex := 381, descriptorIndex := 125, attributes := #[] }, { accessFlags := 2, nameIndex := 133, descriptorIndex := 134, attributes := #[] }, { accessFlags := 1, nameIndex := 133, descriptorIndex := 96, attributes := #[] }] 33 2 #[148, 329, 331, 333] #[{ accessFlags := 26, nameIndex := 335, descriptorIndex := 336, attributes := #[] }, { accessFlags := 26, nameIndex := 340, descriptorIndex := 51, attributes := #[] }, { accessFlags := 26, nameIndex := 17, descriptorIndex := 14, attributes := #[] }, { accessFlags := 26, nameIndex := 41, descriptorIndex := 14, attributes := #[] }, { accessFlags := 128, nameIndex := 13, descriptorIndex := 14, attributes := #[] }, { accessFlags := 2, nameIndex := 50, descriptorIndex := 51, attributes := #[] }])
  fields := #[{ name := "serialVersionUID", type := .long, accessFlags := 26, slot := 0, constantValue := 0 }, { name := "DEFAULT_CAPACITY", type := .int, accessFlags := 26, slot := 1, constantValue := 0 }, { name := "EMPTY_ELEMENTDATA", type := (.array (.object "java/lang/Object")), accessFlags := 26, slot := 2, constantValue := 0 }, { name := sn53, type := (.array (.object "java/lang/Object")), accessFlags := 26, slot := 3, constantValue := 0 }, { name := "elementData", type := (.array (.object "java/lang/Object")), accessFlags := 128, slot := 1, constantValue := 0 }, { name := "size", type := .int, accessFlags := 2, slot := 2, constantValue := 0 }]
  methods := #[k18m0, k18m1, k18m2, k18m3, k18m4, k18m5, k18m6, k18m7, k18m8, k18m9]
  instanceTypes := #[.int, (.array (.object "java/lang/Object")), .int]
  staticTypes := #[.long, .int, (.array (.object "java/lang/Object")), (.array (.object "java/lang/Object"))]
  resolved := Array.replicate 509 none
  statics := some 1 }

def pool19 : Array CpInfo := pool [(1, .class_ 2), (0, u "java/lang/Math"), (1, .class_ 6), (1, u "java/lang/Object"), (0, u "<init>"), (0, u "()V"), (89, .class_ 100), (1, u "java/lang/Math$RandomNumberGeneratorHolder"), (71, u "negativeZeroFloatBits"), (0, u "J"), (2, u "negativeZeroDoubleBits"), (21, u "max"), (2, u "min"), (43, u "$assertionsDisabled"), (0, u "Z"), (88, u "(II)I"), (2, u "twoToTheDoubleScaleDown"), (0, u "D"), (4, u "twoToTheDoubleScaleUp"), (9, u "E"), (3, u "PI"), (2, u "TAU"), (2, u "DEGREES_TO_RADIANS"), (0, u "RADIANS_TO_DEGREES")] 94

def k19m0 : Method := { name := "<init>", desc := "()V", sig := { parameters := [], returnType := none }, accessFlags := 2, code := none }
def k19c1 : Code := { maxStack := 2, maxLocals := 2, code := jdk_29_method_65_code, exceptionTable := #[], attributes := #[] }
def k19m1 : Method := { name := "max", desc := "(II)I", sig := { parameters := [.int, .int], returnType := some .int }, accessFlags := 9, code := some k19c1 }
def k19c2 : Code := { maxStack := 2, maxLocals := 2, code := jdk_29_method_69_code, exceptionTable := #[], attributes := #[] }
def k19m2 : Method := { name := "min", desc := "(II)I", sig := { parameters := [.int, .int], returnType := some .int }, accessFlags := 9, code := some k19c2 }
/-- java/lang/Math -/
def k19 : Class := { plain "java/lang/Math" (some 0) with
  accessFlags := 49
  interfaces := #[]
  cf := some (fileOf pool19 1 #[.nestMembers #[98]] #[{ accessFlags := 2, nameIndex := 7, descriptorIndex := 8, attributes := #[] }, { accessFlags := 9, nameIndex := 198, descriptorIndex := 335, attributes := #[] }, { accessFlags := 9, nameIndex := 201, descriptorIndex := 335, attributes := #[] }] 49 4 #[] #[{ accessFlags := 25, nameIndex := 354, descriptorIndex := 339, attributes := #[] }, { accessFlags := 25, nameIndex := 358, descriptorIndex := 339, attributes := #[] }, { accessFlags := 25, nameIndex := 361, descriptorIndex := 339, attributes := #[] }, { accessFlags := 26, nameIndex := 364, descriptorIndex := 339, attributes := #[] }, { accessFlags := 26, nameIndex := 365, descriptorIndex := 339, attributes := #[] }, { accessFlags := 26, nameIndex := 172, descriptorIndex := 173, attributes := #[] }, { accessFlags := 26, nameIndex := 176, descriptorIndex := 173, attributes := #[] }, { accessFlags := 8, nameIndex := 344, descriptorIndex := 339, attributes := #[] }, { accessFlags := 8, nameIndex := 338, descriptorIndex := 339, attributes := #[] }, { accessFlags := 4120, nameIndex := 245, descriptorIndex := 246, attributes := #[] }])
  fields := #[{ name := "E", type := .double, accessFlags := 25, slot := 0, constantValue := 0 }, { name := "PI", type := .double, accessFlags := 25, slot := 1, constantValue := 0 }, { name := "TAU", type := .double, accessFlags := 25, slot := 2, constantValue := 0 }, { name := "DEGREES_TO_RADIANS", type := .double, accessFlags := 26, slot := 3, constantValue := 0 }, { name := "RADIANS_TO_DEGREES", type := .double, accessFlags := 26, slot := 4, constantValue := 0 }, { name := "negativeZeroFloatBits", type := .long, accessFlags := 26, slot := 5, constantValue := 0 }, { name := "negativeZeroDoubleBits", type := .long, accessFlags := 26, slot := 6, constantValue := 0 }, { name := "twoToTheDoubleScaleUp", type := .double, accessFlags := 8, slot := 7, constantValue := 0 }, { name := "twoToTheDoubleScaleDown", type := .double, accessFlags := 8, slot := 8, constantValue := 0 }, { name := "$assertionsDisabled", type := .boolean, accessFlags := 4120, slot := 9, constantValue := 0 }]
  methods := #[k19m0, k19m1, k19m2]
  instanceTypes := #[]
  staticTypes := #[.double, .double, .double, .double, .double, .long, .long, .double, .double, .boolean]
  resolved := Array.replicate 460 none
  statics := none }

def pool20 : Array CpInfo := pool [(1, .methodref 2 3), (0, .class_ 4), (0, .nameAndType 5 6), (0, u "java/lang/Object"), (0, u "<init>"), (0, u "()V"), (0, .class_ 8), (0, u "java/lang/Record")] 13

def k20c0 : Code := { maxStack := 1, maxLocals := 1, code := jdk_30_method_1_code, exceptionTable := #[], attributes := #[] }
def k20m0 : Method := { name := "<init>", desc := "()V", sig := { parameters := [], returnType := none }, accessFlags := 4, code := some k20c0 }
/-- java/lang/Record -/
def k20 : Class := { plain "java/lang/Record" (some 0) with
  accessFlags := 1057
  interfaces := #[]
  cf := some (fileOf pool20 7 #[] #[{ accessFlags := 4, nameIndex := 5, descriptorIndex := 6, attributes := #[] }] 1057 2 #[] #[])
  fields := #[]
  methods := #[k20m0]
  instanceTypes := #[]
  staticTypes := #[]
  resolved := Array.replicate 22 none
  statics := none }

def pool21 : Array CpInfo := pool [(1, .class_ 2), (0, u "com/example/credence/credence/gateway/EventStream"), (0, .methodref 4 5), (0, .class_ 6), (0, .nameAndType 7 8), (0, u "java/lang/Record"), (0, u "<init>"), (0, u "()V"), (0, .interfaceMethodref 10 11), (0, .class_ 12), (0, .nameAndType 13 14), (0, u "java/util/List"), (0, u "copyOf"), (0, u sn12), (0, .fieldref 16 17), (0, .class_ 18), (0, .nameAndType 19 20), (0, u sn0), (0, u "lines"), (0, u "Ljava/util/List;"), (0, .class_ 22), (0, u "java/util/ArrayList"), (0, .methodref 21 5), (0, .interfaceMethodref 10 25), (0, .nameAndType 26 27), (0, u "iterator"), (0, u sn24), (0, .interfaceMethodref 29 30), (0, .class_ 31), (0, .nameAndType 32 33), (0, u "java/util/Iterator"), (0, u "hasNext"), (0, u "()Z"), (0, .interfaceMethodref 29 35), (0, .nameAndType 36 37), (0, u "next"), (0, u sn35), (0, .class_ 39), (0, u "java/lang/String"), (0, .methodref 16 41), (0, .nameAndType 42 43), (0, u "isData"), (0, u sn26), (4, .string 49), (0, u "data"), (12, .methodref 38 63), (0, .nameAndType 64 43), (0, u "startsWith"), (0, .interfaceMethodref 10 66), (0, .nameAndType 67 68), (0, u "add"), (0, u sn11), (9, .class_ 79), (0, u sn7), (0, .methodref 78 5), (0, .string 82), (0, u "data: "), (0, .methodref 78 84), (0, .nameAndType 85 86), (0, u "append"), (0, u sn15), (0, .methodref 78 88), (0, .nameAndType 89 90), (0, u "toString"), (0, u sn42), (0, .methodref 16 92), (0, .nameAndType 7 93), (0, u "(Ljava/util/List;)V"), (13, .methodref 38 108), (0, .nameAndType 109 68), (0, u "equals"), (0, .string 111), (0, u "data:"), (17, u "withData"), (0, u sn10), (2, u "()Ljava/util/List;")] 22

def k21c0 : Code := { maxStack := 2, maxLocals := 2, code := prog_6_method_1_code, exceptionTable := #[], attributes := #[] }
def k21m0 : Method := { name := "<init>", desc := "(Ljava/util/List;)V", sig := { parameters := [(.object "java/util/List")], returnType := none }, accessFlags := 0, code := some k21c0 }
def k21c1 : Code := { maxStack := 3, maxLocals := 6, code := prog_6_method_3_code, exceptionTable := #[], attributes := #[] }
def k21m1 : Method := { name := "withData", desc := sn10, sig := { parameters := [(.object "java/lang/String")], returnType := some (.object sn0) }, accessFlags := 0, code := some k21c1 }
def k21c2 : Code := { maxStack := 2, maxLocals := 1, code := prog_6_method_5_code, exceptionTable := #[], attributes := #[] }
def k21m2 : Method := { name := "isData", desc := sn26, sig := { parameters := [(.object "java/lang/String")], returnType := some .boolean }, accessFlags := 10, code := some k21c2 }
def k21c3 : Code := { maxStack := 1, maxLocals := 1, code := prog_6_method_9_code, exceptionTable := #[], attributes := #[] }
def k21m3 : Method := { name := "lines", desc := "()Ljava/util/List;", sig := { parameters := [], returnType := some (.object "java/util/List") }, accessFlags := 1, code := some k21c3 }
/-- com/example/credence/credence/gateway/EventStream$Event -/
def k21 : Class := { plain sn0 (some 20) with
  accessFlags := 48
  interfaces := #[]
  cf := some (fileOf pool21 16 #[.nestHost 1] #[{ accessFlags := 0, nameIndex := 7, descriptorIndex := 93, attributes := #[] }, { accessFlags := 0, nameIndex := 129, descriptorIndex := 130, attributes := #[] }, { accessFlags := 10, nameIndex := 42, descriptorIndex := 43, attributes := #[] }, { accessFlags := 1, nameIndex := 19, descriptorIndex := 133, attributes := #[] }] 48 4 #[] #[{ accessFlags := 18, nameIndex := 19, descriptorIndex := 20, attributes := #[] }])
  fields := #[{ name := "lines", type := (.object "java/util/List"), accessFlags := 18, slot := 0, constantValue := 0 }]
  methods := #[k21m0, k21m1, k21m2, k21m3]
  instanceTypes := #[(.object "java/util/List")]
  staticTypes := #[]
  resolved := Array.replicate 156 none
  statics := none }

def pool22 : Array CpInfo := pool [(2, .class_ 4), (1, u "java/lang/Object"), (0, u "<init>"), (0, u "()V"), (3, .class_ 11), (0, u sn3), (0, .class_ 13), (0, u sn5), (3, u "Z"), (0, .class_ 19), (0, u "java/util/List"), (0, .interfaceMethodref 21 22), (0, .class_ 23), (0, .nameAndType 24 25), (0, u sn31), (0, u "isEmpty"), (0, u "()Z"), (0, .interfaceMethodref 18 27), (0, .nameAndType 28 29), (0, u "of"), (0, u "()Ljava/util/List;"), (0, .interfaceMethodref 21 31), (0, .nameAndType 32 33), (0, u "toArray"), (0, u sn17), (0, .interfaceMethodref 18 35), (0, .nameAndType 28 36), (0, u sn14), (0, .methodref 38 39), (0, .class_ 40), (0, .nameAndType 41 42), (0, u "java/util/Objects"), (0, u "requireNonNull"), (0, u sn25), (0, .methodref 12 44), (0, .nameAndType 5 45), (0, u sn46), (1, .class_ 49), (1, u sn8), (0, u "$assertionsDisabled"), (5, u "[Ljava/lang/Object;"), (5, u "EMPTY_LIST"), (0, u sn38), (8, u "EMPTY_LIST_NULLS"), (22, u "SALT32L"), (0, u "J"), (2, u "REVERSE"), (6, u "archivedObjects"), (2, u "EMPTY"), (0, u "Ljava/lang/Object;"), (0, .class_ 112), (0, u "java/util/ImmutableCollections$SetN"), (5, u "EMPTY_SET"), (0, u "Ljava/util/ImmutableCollections$SetN;"), (0, .class_ 121), (0, u "java/util/ImmutableCollections$MapN"), (3, u "EMPTY_MAP"), (0, u "Ljava/util/ImmutableCollections$MapN;"), (4, u "EXPAND_FACTOR"), (0, u "I"), (9, u "listCopy"), (0, u sn12), (7, u "listFromArray"), (17, .class_ 170), (0, u "java/util/ImmutableCollections$MapN$MapNIterator"), (0, .class_ 172), (0, u "java/util/ImmutableCollections$MapN$1"), (0, .class_ 174), (0, u "java/util/ImmutableCollections$Map1"), (0, .class_ 176), (0, u "java/util/ImmutableCollections$AbstractImmutableMap"), (0, .class_ 178), (0, u "java/util/ImmutableCollections$SetN$SetNIterator"), (0, .class_ 180), (0, u "java/util/ImmutableCollections$Set12"), (0, .class_ 182), (0, u "java/util/ImmutableCollections$Set12$1"), (0, .class_ 184), (0, u "java/util/ImmutableCollections$AbstractImmutableSet"), (0, .class_ 186), (0, u "java/util/ImmutableCollections$SubList"), (0, .class_ 188), (0, u sn4), (0, .class_ 190), (0, u sn6), (0, .class_ 192), (0, u sn13), (0, .class_ 194), (0, u "java/util/ImmutableCollections$Access"), (0, .class_ 196), (0, u "java/util/ImmutableCollections$Access$1")] 16

def k22m0 : Method := { name := "<init>", desc := "()V", sig := { parameters := [], returnType := none }, accessFlags := 2, code := none }
def k22c1 : Code := { maxStack := 1, maxLocals := 2, code := jdk_56_method_3_code, exceptionTable := #[], attributes := #[] }
def k22m1 : Method := { name := "listCopy", desc := sn12, sig := { parameters := [(.object sn31)], returnType := some (.object "java/util/List") }, accessFlags := 8, code := some k22c1 }
def k22c2 : Code := { maxStack := 4, maxLocals := 3, code := jdk_56_method_4_code, exceptionTable := #[], attributes := #[] }
def k22m2 : Method := { name := "listFromArray", desc := sn14, sig := { parameters := [(.array (.object "java/lang/Object"))], returnType := some (.object "java/util/List") }, accessFlags := 136, code := some k22c2 }
/-- java/util/ImmutableCollections -/
def k22 : Class := { plain sn8 (some 0) with
  accessFlags := 32
  interfaces := #[]
  cf := some (fileOf pool22 47 #[.nestMembers #[120, 169, 171, 173, 175, 111, 177, 179, 181, 183, 12, 10, 185, 187, 189, 191, 193, 195]] #[{ accessFlags := 2, nameIndex := 5, descriptorIndex := 6, attributes := #[] }, { accessFlags := 8, nameIndex := 142, descriptorIndex := 143, attributes := #[] }, { accessFlags := 136, nameIndex := 151, descriptorIndex := 36, attributes := #[] }] 32 2 #[] #[{ accessFlags := 26, nameIndex := 95, descriptorIndex := 96, attributes := #[] }, { accessFlags := 26, nameIndex := 99, descriptorIndex := 17, attributes := #[] }, { accessFlags := 10, nameIndex := 106, descriptorIndex := 56, attributes := #[] }, { accessFlags := 26, nameIndex := 109, descriptorIndex := 110, attributes := #[] }, { accessFlags := 24, nameIndex := 62, descriptorIndex := 63, attributes := #[] }, { accessFlags := 24, nameIndex := 72, descriptorIndex := 63, attributes := #[] }, { accessFlags := 24, nameIndex := 118, descriptorIndex := 119, attributes := #[] }, { accessFlags := 24, nameIndex := 125, descriptorIndex := 126, attributes := #[] }, { accessFlags := 24, nameIndex := 131, descriptorIndex := 132, attributes := #[] }, { accessFlags := 4120, nameIndex := 50, descriptorIndex := 17, attributes := #[] }])
  fields := #[{ name := "SALT32L", type := .long, accessFlags := 26, slot := 0, constantValue := 0 }, { name := "REVERSE", type := .boolean, accessFlags := 26, slot := 1, constantValue := 0 }, { name := "archivedObjects", type := (.array (.object "java/lang/Object")), accessFlags := 10, slot := 2, constantValue := 0 }, { name := "EMPTY", type := (.object "java/lang/Object"), accessFlags := 26, slot := 3, constantValue := 0 }, { name := "EMPTY_LIST", type := (.object sn5), accessFlags := 24, slot := 4, constantValue := 0 }, { name := "EMPTY_LIST_NULLS", type := (.object sn5), accessFlags := 24, slot := 5, constantValue := 0 }, { name := "EMPTY_SET", type := (.object "java/util/ImmutableCollections$SetN"), accessFlags := 24, slot := 6, constantValue := 0 }, { name := "EMPTY_MAP", type := (.object "java/util/ImmutableCollections$MapN"), accessFlags := 24, slot := 7, constantValue := 0 }, { name := "EXPAND_FACTOR", type := .int, accessFlags := 24, slot := 8, constantValue := 0 }, { name := "$assertionsDisabled", type := .boolean, accessFlags := 4120, slot := 9, constantValue := 0 }]
  methods := #[k22m0, k22m1, k22m2]
  instanceTypes := #[]
  staticTypes := #[.long, .boolean, (.array (.object "java/lang/Object")), (.object "java/lang/Object"), (.object sn5), (.object sn5), (.object "java/util/ImmutableCollections$SetN"), (.object "java/util/ImmutableCollections$MapN"), .int, .boolean]
  resolved := Array.replicate 213 none
  statics := some 2 }

def pool23 : Array CpInfo := pool [(1, .methodref 2 3), (0, .class_ 4), (0, .nameAndType 5 6), (0, u sn22), (0, u "<init>"), (0, u "()V"), (1, .class_ 10), (1, u sn8), (2, .class_ 14), (0, u sn13)] 41

def k23c0 : Code := { maxStack := 1, maxLocals := 1, code := jdk_47_method_1_code, exceptionTable := #[], attributes := #[] }
def k23m0 : Method := { name := "<init>", desc := "()V", sig := { parameters := [], returnType := none }, accessFlags := 0, code := some k23c0 }
/-- java/util/ImmutableCollections$AbstractImmutableCollection -/
def k23 : Class := { plain sn13 (some 12) with
  accessFlags := 1056
  interfaces := #[]
  cf := some (fileOf pool23 13 #[.nestHost 8] #[{ accessFlags := 0, nameIndex := 5, descriptorIndex := 6, attributes := #[] }] 1056 2 #[] #[])
  fields := #[]
  methods := #[k23m0]
  instanceTypes := #[]
  staticTypes := #[]
  resolved := Array.replicate 56 none
  statics := none }

def pool24 : Array CpInfo := pool [(1, .methodref 2 3), (0, .class_ 4), (0, .nameAndType 5 6), (0, u sn13), (0, u "<init>"), (0, u "()V"), (1, .class_ 10), (1, u sn8), (2, .methodref 14 15), (0, .class_ 16), (0, .nameAndType 17 18), (0, u sn6), (0, u "size"), (0, u "()I"), (42, .class_ 62), (0, u sn4), (0, .methodref 61 64), (0, .nameAndType 5 65), (0, u sn51), (11, .class_ 78), (0, u "java/util/List"), (2, u "iterator"), (0, u sn24), (41, .class_ 125), (0, u sn56)] 70

def k24c0 : Code := { maxStack := 1, maxLocals := 1, code := jdk_46_method_1_code, exceptionTable := #[], attributes := #[] }
def k24m0 : Method := { name := "<init>", desc := "()V", sig := { parameters := [], returnType := none }, accessFlags := 0, code := some k24c0 }
def k24c1 : Code := { maxStack := 4, maxLocals := 1, code := jdk_46_method_10_code, exceptionTable := #[], attributes := #[] }
def k24m1 : Method := { name := "iterator", desc := sn24, sig := { parameters := [], returnType := some (.object "java/util/Iterator") }, accessFlags := 1, code := some k24c1 }
/-- java/util/ImmutableCollections$AbstractImmutableList -/
def k24 : Class := { plain sn6 (some 23) with
  accessFlags := 1056
  interfaces := #[14, 16]
  cf := some (fileOf pool24 14 #[.nestHost 8] #[{ accessFlags := 0, nameIndex := 5, descriptorIndex := 6, attributes := #[] }, { accessFlags := 1, nameIndex := 81, descriptorIndex := 82, attributes := #[] }] 1056 2 #[77, 124] #[])
  fields := #[]
  methods := #[k24m0, k24m1]
  instanceTypes := #[]
  staticTypes := #[]
  resolved := Array.replicate 196 none
  statics := none }

def pool25 : Array CpInfo := pool [(1, .methodref 2 3), (0, .class_ 4), (0, .nameAndType 5 6), (0, u sn6), (0, u "<init>"), (0, u "()V"), (0, .methodref 8 9), (0, .class_ 10), (0, .nameAndType 11 12), (0, u "java/util/Objects"), (0, u "requireNonNull"), (0, u sn25), (0, .fieldref 14 15), (0, .class_ 16), (0, .nameAndType 17 18), (0, u sn3), (0, u "e0"), (0, u "Ljava/lang/Object;"), (0, .fieldref 20 21), (0, .class_ 22), (0, .nameAndType 23 18), (0, u sn8), (0, u "EMPTY"), (0, .fieldref 14 25), (0, .nameAndType 26 18), (0, u "e1"), (24, u "size"), (0, u "()I"), (17, .class_ 71), (0, u sn54), (4, u sn49), (8, u sn30), (4, u "get"), (0, u sn9)] 33

def k25c0 : Code := { maxStack := 2, maxLocals := 2, code := jdk_44_method_1_code, exceptionTable := #[], attributes := #[] }
def k25m0 : Method := { name := "<init>", desc := sn49, sig := { parameters := [(.object "java/lang/Object")], returnType := none }, accessFlags := 0, code := some k25c0 }
def k25c1 : Code := { maxStack := 2, maxLocals := 3, code := jdk_44_method_2_code, exceptionTable := #[], attributes := #[] }
def k25m1 : Method := { name := "<init>", desc := sn30, sig := { parameters := [(.object "java/lang/Object"), (.object "java/lang/Object")], returnType := none }, accessFlags := 0, code := some k25c1 }
def k25c2 : Code := { maxStack := 2, maxLocals := 1, code := jdk_44_method_3_code, exceptionTable := #[], attributes := #[] }
def k25m2 : Method := { name := "size", desc := "()I", sig := { parameters := [], returnType := some .int }, accessFlags := 1, code := some k25c2 }
def k25c3 : Code := { maxStack := 2, maxLocals := 2, code := jdk_44_method_5_code, exceptionTable := #[], attributes := #[] }
def k25m3 : Method := { name := "get", desc := sn9, sig := { parameters := [.int], returnType := some (.object "java/lang/Object") }, accessFlags := 1, code := some k25c3 }
/-- java/util/ImmutableCollections$List12 -/
def k25 : Class := { plain sn3 (some 24) with
  accessFlags := 48
  interfaces := #[2]
  cf := some (fileOf pool25 14 #[.nestHost 20] #[{ accessFlags := 0, nameIndex := 5, descriptorIndex := 76, attributes := #[] }, { accessFlags := 0, nameIndex := 5, descriptorIndex := 85, attributes := #[] }, { accessFlags := 1, nameIndex := 51, descriptorIndex := 52, attributes := #[] }, { accessFlags := 1, nameIndex := 90, descriptorIndex := 91, attributes := #[] }] 48 2 #[70] #[{ accessFlags := 18, nameIndex := 17, descriptorIndex := 18, attributes := #[] }, { accessFlags := 18, nameIndex := 26, descriptorIndex := 18, attributes := #[] }])
  fields := #[{ name := "e0", type := (.object "java/lang/Object"), accessFlags := 18, slot := 0, constantValue := 0 }, { name := "e1", type := (.object "java/lang/Object"), accessFlags := 18, slot := 1, constantValue := 0 }]
  methods := #[k25m0, k25m1, k25m2, k25m3]
  instanceTypes := #[(.object "java/lang/Object"), (.object "java/lang/Object")]
  staticTypes := #[]
  resolved := Array.replicate 125 none
  statics := none }

def pool26 : Array CpInfo := pool [(1, .methodref 2 3), (0, .class_ 4), (0, .nameAndType 5 6), (0, u sn6), (0, u "<init>"), (0, u "()V"), (0, .fieldref 8 9), (0, .class_ 10), (0, .nameAndType 11 12), (0, u sn5), (0, u "elements"), (0, u "[Ljava/lang/Object;"), (0, .fieldref 8 14), (0, .nameAndType 15 16), (0, u "allowNulls"), (0, u "Z"), (42, .class_ 60), (0, u sn54), (4, u sn46), (11, u "size"), (0, u "()I"), (0, u "get"), (0, u sn9), (33, .class_ 115), (0, u sn8)] 3

def k26c0 : Code := { maxStack := 2, maxLocals := 3, code := jdk_45_method_1_code, exceptionTable := #[], attributes := #[] }
def k26m0 : Method := { name := "<init>", desc := sn46, sig := { parameters := [(.array (.object "java/lang/Object")), .boolean], returnType := none }, accessFlags := 2, code := some k26c0 }
def k26c1 : Code := { maxStack := 1, maxLocals := 1, code := jdk_45_method_3_code, exceptionTable := #[], attributes := #[] }
def k26m1 : Method := { name := "size", desc := "()I", sig := { parameters := [], returnType := some .int }, accessFlags := 1, code := some k26c1 }
def k26c2 : Code := { maxStack := 2, maxLocals := 2, code := jdk_45_method_4_code, exceptionTable := #[], attributes := #[] }
def k26m2 : Method := { name := "get", desc := sn9, sig := { parameters := [.int], returnType := some (.object "java/lang/Object") }, accessFlags := 1, code := some k26c2 }
/-- java/util/ImmutableCollections$ListN -/
def k26 : Class := { plain sn5 (some 24) with
  accessFlags := 48
  interfaces := #[2]
  cf := some (fileOf pool26 8 #[.nestHost 114] #[{ accessFlags := 2, nameIndex := 5, descriptorIndex := 65, attributes := #[] }, { accessFlags := 1, nameIndex := 77, descriptorIndex := 78, attributes := #[] }, { accessFlags := 1, nameIndex := 79, descriptorIndex := 80, attributes := #[] }] 48 2 #[59] #[{ accessFlags := 18, nameIndex := 11, descriptorIndex := 12, attributes := #[] }, { accessFlags := 18, nameIndex := 15, descriptorIndex := 16, attributes := #[] }])
  fields := #[{ name := "elements", type := (.array (.object "java/lang/Object")), accessFlags := 18, slot := 0, constantValue := 0 }, { name := "allowNulls", type := .boolean, accessFlags := 18, slot := 1, constantValue := 0 }]
  methods := #[k26m0, k26m1, k26m2]
  instanceTypes := #[(.array (.object "java/lang/Object")), .boolean]
  staticTypes := #[]
  resolved := Array.replicate 119 none
  statics := none }

def pool27 : Array CpInfo := pool [(2, .class_ 4), (1, u "java/lang/Object"), (0, u "<init>"), (0, u "()V"), (7, .class_ 16), (1, u "java/util/Arrays"), (57, .class_ 76), (1, u "java/util/Arrays$NaturalOrder"), (9, .methodref 2 87), (0, .nameAndType 88 89), (0, u "getClass"), (0, u "()Ljava/lang/Class;"), (20, .class_ 111), (0, u "[Ljava/lang/Object;"), (1, .class_ 115), (1, u "java/util/Arrays$LegacyMergeSort"), (1, u "Z"), (21, u "copyOfRange"), (10, .methodref 151 152), (0, .class_ 153), (0, .nameAndType 154 155), (0, u "java/lang/System"), (0, u "arraycopy"), (0, u sn34), (144, .methodref 14 301), (0, .nameAndType 302 303), (0, u "copyOf"), (0, u sn19), (0, .methodref 305 306), (0, .class_ 307), (0, .nameAndType 308 309), (0, u "java/lang/Math"), (0, u "min"), (0, u "(II)I"), (29, .methodref 14 340), (0, .nameAndType 341 342), (0, u "copyOfRangeByte"), (0, u "([BII)[B"), (0, .methodref 14 344), (0, .nameAndType 345 346), (0, u "checkLength"), (0, u "(II)V"), (28, .class_ 376), (0, u "java/util/Arrays$ArrayList"), (68, u "$assertionsDisabled"), (269, u "MIN_ARRAY_SORT_GRAN"), (0, u "I"), (2, u "INSERTIONSORT_THRESHOLD"), (140, u sn29), (114, .class_ 976), (0, u "java/util/Arrays$ArrayItr")] 52

def k27m0 : Method := { name := "<init>", desc := "()V", sig := { parameters := [], returnType := none }, accessFlags := 2, code := none }
def k27c1 : Code := { maxStack := 3, maxLocals := 2, code := jdk_65_method_119_code, exceptionTable := #[], attributes := #[] }
def k27m1 : Method := { name := "copyOf", desc := sn29, sig := { parameters := [(.array (.object "java/lang/Object")), .int], returnType := some (.array (.object "java/lang/Object")) }, accessFlags := 9, code := some k27c1 }
def k27c2 : Code := { maxStack := 6, maxLocals := 4, code := jdk_65_method_120_code, exceptionTable := #[], attributes := #[] }
def k27m2 : Method := { name := "copyOf", desc := sn19, sig := { parameters := [(.array (.object "java/lang/Object")), .int, (.object "java/lang/Class")], returnType := some (.array (.object "java/lang/Object")) }, accessFlags := 9, code := some k27c2 }
def k27c3 : Code := { maxStack := 4, maxLocals := 2, code := jdk_65_method_131_code, exceptionTable := #[], attributes := #[] }
def k27m3 : Method := { name := "checkLength", desc := "(II)V", sig := { parameters := [.int, .int], returnType := none }, accessFlags := 10, code := some k27c3 }
def k27c4 : Code := { maxStack := 3, maxLocals := 3, code := jdk_65_method_132_code, exceptionTable := #[], attributes := #[] }
def k27m4 : Method := { name := "copyOfRange", desc := "([BII)[B", sig := { parameters := [(.array .byte), .int, .int], returnType := some (.array .byte) }, accessFlags := 9, code := some k27c4 }
def k27c5 : Code := { maxStack := 6, maxLocals := 5, code := jdk_65_method_133_code, exceptionTable := #[], attributes := #[] }
def k27m5 : Method := { name := "copyOfRangeByte", desc := "([BII)[B", sig := { parameters := [(.array .byte), .int, .int], returnType := some (.array .byte) }, accessFlags := 10, code := some k27c5 }
/-- java/util/Arrays -/
def k27 : Class := { plain "java/util/Arrays" (some 0) with
  accessFlags := 49
  interfaces := #[]
  cf := some (fileOf pool27 14 #[.nestMembers #[975, 375, 113, 74]] #[{ accessFlags := 2, nameIndex := 5, descriptorIndex := 6, attributes := #[] }, { accessFlags := 9, nameIndex := 302, descriptorIndex := 860, attributes := #[] }, { accessFlags := 9, nameIndex := 302, descriptorIndex := 303, attributes := #[] }, { accessFlags := 10, nameIndex := 345, descriptorIndex := 346, attributes := #[] }, { accessFlags := 9, nameIndex := 139, descriptorIndex := 342, attributes := #[] }, { accessFlags := 10, nameIndex := 341, descriptorIndex := 342, attributes := #[] }] 49 2 #[] #[{ accessFlags := 26, nameIndex := 715, descriptorIndex := 716, attributes := #[] }, { accessFlags := 26, nameIndex := 719, descriptorIndex := 716, attributes := #[] }, { accessFlags := 4120, nameIndex := 445, descriptorIndex := 117, attributes := #[] }])
  fields := #[{ name := "MIN_ARRAY_SORT_GRAN", type := .int, accessFlags := 26, slot := 0, constantValue := 0 }, { name := "INSERTIONSORT_THRESHOLD", type := .int, accessFlags := 26, slot := 1, constantValue := 0 }, { name := "$assertionsDisabled", type := .boolean, accessFlags := 4120, slot := 2, constantValue := 0 }]
  methods := #[k27m0, k27m1, k27m2, k27m3, k27m4, k27m5]
  instanceTypes := #[]
  staticTypes := #[.int, .int, .boolean]
  resolved := Array.replicate 1029 none
  statics := none }

def pool28 : Array CpInfo := pool [(2, .class_ 4), (1, u "java/lang/Object"), (0, u "<init>"), (0, u "()V"), (1, .class_ 10), (1, u "java/lang/System"), (0, u "allowSecurityManager"), (0, u "I"), (16, u "cons"), (0, u "Ljava/io/Console;"), (77, .class_ 110), (1, u "java/lang/System$CallersHolder"), (43, u "initialErrStream"), (0, u "Ljava/io/PrintStream;"), (19, u "security"), (0, u "Ljava/lang/SecurityManager;"), (31, .class_ 209), (0, u "java/lang/System$1"), (7, u "props"), (0, u "Ljava/util/Properties;"), (2, u "lineSeparator"), (0, u "Ljava/lang/String;"), (96, .class_ 321), (1, u "java/lang/System$LoggerFinder"), (5, .class_ 328), (0, u "java/lang/System$Logger"), (67, u "err"), (2, u "out"), (91, u "notSupportedJnuEncoding"), (15, u "in"), (17, u "initialIn"), (0, u "Ljava/io/InputStream;"), (35, u "bootLayer"), (0, u "Ljava/lang/ModuleLayer;"), (99, .class_ 664), (0, u "java/lang/System$2"), (9, u "NEVER"), (2, u "MAYBE"), (49, u "arraycopy"), (0, u sn34), (72, .class_ 802), (0, u "java/lang/System$Logger$Level")] 31

def k28m0 : Method := { name := "<init>", desc := "()V", sig := { parameters := [], returnType := none }, accessFlags := 2, code := none }
def k28m1 : Method := { name := "arraycopy", desc := sn34, sig := { parameters := [(.object "java/lang/Object"), .int, (.object "java/lang/Object"), .int, .int], returnType := none }, accessFlags := 265, code := none }
/-- java/lang/System -/
def k28 : Class := { plain "java/lang/System" (some 0) with
  accessFlags := 49
  interfaces := #[]
  cf := some (fileOf pool28 8 #[.nestMembers #[319, 327, 801, 108, 663, 208]] #[{ accessFlags := 2, nameIndex := 5, descriptorIndex := 6, attributes := #[] }, { accessFlags := 265, nameIndex := 727, descriptorIndex := 728, attributes := #[] }] 49 2 #[] #[{ accessFlags := 25, nameIndex := 507, descriptorIndex := 526, attributes := #[] }, { accessFlags := 25, nameIndex := 399, descriptorIndex := 155, attributes := #[] }, { accessFlags := 25, nameIndex := 396, descriptorIndex := 155, attributes := #[] }, { accessFlags := 10, nameIndex := 525, descriptorIndex := 526, attributes := #[] }, { accessFlags := 26, nameIndex := 674, descriptorIndex := 12, attributes := #[] }, { accessFlags := 26, nameIndex := 677, descriptorIndex := 12, attributes := #[] }, { accessFlags := 10, nameIndex := 11, descriptorIndex := 12, attributes := #[] }, { accessFlags := 74, nameIndex := 175, descriptorIndex := 176, attributes := #[] }, { accessFlags := 10, nameIndex := 491, descriptorIndex := 222, attributes := #[] }, { accessFlags := 74, nameIndex := 29, descriptorIndex := 30, attributes := #[] }, { accessFlags := 74, nameIndex := 154, descriptorIndex := 155, attributes := #[] }, { accessFlags := 10, nameIndex := 217, descriptorIndex := 218, attributes := #[] }, { accessFlags := 10, nameIndex := 221, descriptorIndex := 222, attributes := #[] }, { accessFlags := 8, nameIndex := 562, descriptorIndex := 563, attributes := #[] }])
  fields := #[{ name := "in", type := (.object "java/io/InputStream"), accessFlags := 25, slot := 0, constantValue := 0 }, { name := "out", type := (.object "java/io/PrintStream"), accessFlags := 25, slot := 1, constantValue := 0 }, { name := "err", type := (.object "java/io/PrintStream"), accessFlags := 25, slot := 2, constantValue := 0 }, { name := "initialIn", type := (.object "java/io/InputStream"), accessFlags := 10, slot := 3, constantValue := 0 }, { name := "NEVER", type := .int, accessFlags := 26, slot := 4, constantValue := 0 }, { name := "MAYBE", type := .int, accessFlags := 26, slot := 5, constantValue := 0 }, { name := "allowSecurityManager", type := .int, accessFlags := 10, slot := 6, constantValue := 0 }, { name := "security", type := (.object "java/lang/SecurityManager"), accessFlags := 74, slot := 7, constantValue := 0 }, { name := "notSupportedJnuEncoding", type := (.object "java/lang/String"), accessFlags := 10, slot := 8, constantValue := 0 }, { name := "cons", type := (.object "java/io/Console"), accessFlags := 74, slot := 9, constantValue := 0 }, { name := "initialErrStream", type := (.object "java/io/PrintStream"), accessFlags := 74, slot := 10, constantValue := 0 }, { name := "props", type := (.object "java/util/Properties"), accessFlags := 10, slot := 11, constantValue := 0 }, { name := "lineSeparator", type := (.object "java/lang/String"), accessFlags := 10, slot := 12, constantValue := 0 }, { name := "bootLayer", type := (.object "java/lang/ModuleLayer"), accessFlags := 8, slot := 13, constantValue := 0 }]
  methods := #[k28m0, k28m1]
  instanceTypes := #[]
  staticTypes := #[(.object "java/io/InputStream"), (.object "java/io/PrintStream"), (.object "java/io/PrintStream"), (.object "java/io/InputStream"), .int, .int, .int, (.object "java/lang/SecurityManager"), (.object "java/lang/String"), (.object "java/io/Console"), (.object "java/io/PrintStream"), (.object "java/util/Properties"), (.object "java/lang/String"), (.object "java/lang/ModuleLayer")]
  resolved := Array.replicate 834 none
  statics := none }

def pool29 : Array CpInfo := pool [(2, .class_ 4), (1, u "java/lang/Object"), (0, u "<init>"), (0, u "()V"), (35, .class_ 44), (1, u "java/util/Objects"), (0, u "requireNonNull"), (0, u sn25), (58, .methodref 106 107), (0, .class_ 108), (0, .nameAndType 109 110), (0, u sn36), (0, u "checkIndex"), (0, u sn33), (60, u "(II)I")] 12

def k29m0 : Method := { name := "<init>", desc := "()V", sig := { parameters := [], returnType := none }, accessFlags := 2, code := none }
def k29c1 : Code := { maxStack := 2, maxLocals := 1, code := jdk_31_method_10_code, exceptionTable := #[], attributes := #[] }
def k29m1 : Method := { name := "requireNonNull", desc := sn25, sig := { parameters := [(.object "java/lang/Object")], returnType := some (.object "java/lang/Object") }, accessFlags := 9, code := some k29c1 }
def k29c2 : Code := { maxStack := 3, maxLocals := 2, code := jdk_31_method_17_code, exceptionTable := #[], attributes := #[] }
def k29m2 : Method := { name := "checkIndex", desc := "(II)I", sig := { parameters := [.int, .int], returnType := some .int }, accessFlags := 9, code := some k29c2 }
/-- java/util/Objects -/
def k29 : Class := { plain "java/util/Objects" (some 0) with
  accessFlags := 49
  interfaces := #[]
  cf := some (fileOf pool29 42 #[] #[{ accessFlags := 2, nameIndex := 5, descriptorIndex := 6, attributes := #[] }, { accessFlags := 9, nameIndex := 45, descriptorIndex := 46, attributes := #[] }, { accessFlags := 9, nameIndex := 109, descriptorIndex := 171, attributes := #[] }] 49 2 #[] #[])
  fields := #[]
  methods := #[k29m0, k29m1, k29m2]
  instanceTypes := #[]
  staticTypes := #[]
  resolved := Array.replicate 184 none
  statics := none }

def pool30 : Array CpInfo := pool [(16, .class_ 18), (1, u "java/util/Iterator"), (0, u "hasNext"), (0, u "()Z"), (2, u "next"), (0, u sn35), (6, .class_ 32), (0, u "java/lang/Object")] 20

def k30m0 : Method := { name := "hasNext", desc := "()Z", sig := { parameters := [], returnType := some .boolean }, accessFlags := 1025, code := none }
def k30m1 : Method := { name := "next", desc := sn35, sig := { parameters := [], returnType := some (.object "java/lang/Object") }, accessFlags := 1025, code := none }
/-- java/util/Iterator -/
def k30 : Class := { plain "java/util/Iterator" (some 0) with
  accessFlags := 1537
  interfaces := #[]
  cf := some (fileOf pool30 16 #[] #[{ accessFlags := 1025, nameIndex := 19, descriptorIndex := 20, attributes := #[] }, { accessFlags := 1025, nameIndex := 23, descriptorIndex := 24, attributes := #[] }] 1537 31 #[] #[])
  fields := #[]
  methods := #[k30m0, k30m1]
  instanceTypes := #[]
  staticTypes := #[]
  resolved := Array.replicate 53 none
  statics := none }

def pool31 : Array CpInfo := pool [(1, .class_ 2), (0, u "java/util/ListIterator"), (0, .class_ 4), (0, u "java/lang/Object"), (0, .class_ 6), (0, u "java/util/Iterator")] 20

/-- java/util/ListIterator -/
def k31 : Class := { plain "java/util/ListIterator" (some 0) with
  accessFlags := 1537
  interfaces := #[30]
  cf := some (fileOf pool31 1 #[] #[] 1537 3 #[5] #[])
  fields := #[]
  methods := #[]
  instanceTypes := #[]
  staticTypes := #[]
  resolved := Array.replicate 27 none
  statics := none }

def pool32 : Array CpInfo := pool [(1, .methodref 2 3), (0, .class_ 4), (0, .nameAndType 5 6), (0, u "java/lang/Object"), (0, u "<init>"), (0, u "()V"), (0, .fieldref 8 9), (0, .class_ 10), (0, .nameAndType 11 12), (0, u sn4), (0, u "list"), (0, u "Ljava/util/List;"), (0, .fieldref 8 14), (0, .nameAndType 15 16), (0, u "size"), (0, u "I"), (0, .fieldref 8 18), (0, .nameAndType 19 16), (0, u "cursor"), (0, .fieldref 8 21), (0, .nameAndType 22 23), (0, u "isListIterator"), (0, u "Z"), (0, .interfaceMethodref 25 26), (0, .class_ 27), (0, .nameAndType 28 29), (0, u "java/util/List"), (0, u "get"), (0, u sn9), (6, .class_ 38), (1, u sn8), (2, .class_ 42), (0, u "java/util/ListIterator"), (4, u sn51), (11, u "hasNext"), (0, u "()Z"), (1, u "next"), (0, u sn35)] 22

def k32c0 : Code := { maxStack := 2, maxLocals := 3, code := jdk_53_method_1_code, exceptionTable := #[], attributes := #[] }
def k32m0 : Method := { name := "<init>", desc := sn51, sig := { parameters := [(.object "java/util/List"), .int], returnType := none }, accessFlags := 0, code := some k32c0 }
def k32c1 : Code := { maxStack := 2, maxLocals := 1, code := jdk_53_method_3_code, exceptionTable := #[], attributes := #[] }
def k32m1 : Method := { name := "hasNext", desc := "()Z", sig := { parameters := [], returnType := some .boolean }, accessFlags := 1, code := some k32c1 }
def k32c2 : Code := { maxStack := 3, maxLocals := 3, code := jdk_53_method_4_code, exceptionTable := #[{ startPc := 0, endPc := 24, handlerPc := 25, catchType := 30 }], attributes := #[] }
def k32m2 : Method := { name := "next", desc := sn35, sig := { parameters := [], returnType := some (.object "java/lang/Object") }, accessFlags := 1, code := some k32c2 }
/-- java/util/ImmutableCollections$ListItr -/
def k32 : Class := { plain sn4 (some 0) with
  accessFlags := 48
  interfaces := #[31]
  cf := some (fileOf pool32 8 #[.nestHost 36] #[{ accessFlags := 0, nameIndex := 5, descriptorIndex := 47, attributes := #[] }, { accessFlags := 1, nameIndex := 59, descriptorIndex := 60, attributes := #[] }, { accessFlags := 1, nameIndex := 62, descriptorIndex := 63, attributes := #[] }] 48 2 #[41] #[{ accessFlags := 18, nameIndex := 11, descriptorIndex := 12, attributes := #[] }, { accessFlags := 18, nameIndex := 15, descriptorIndex := 16, attributes := #[] }, { accessFlags := 18, nameIndex := 22, descriptorIndex := 23, attributes := #[] }, { accessFlags := 2, nameIndex := 19, descriptorIndex := 16, attributes := #[] }])
  fields := #[{ name := "list", type := (.object "java/util/List"), accessFlags := 18, slot := 0, constantValue := 0 }, { name := "size", type := .int, accessFlags := 18, slot := 1, constantValue := 0 }, { name := "isListIterator", type := .boolean, accessFlags := 18, slot := 2, constantValue := 0 }, { name := "cursor", type := .int, accessFlags := 2, slot := 3, constantValue := 0 }]
  methods := #[k32m0, k32m1, k32m2]
  instanceTypes := #[(.object "java/util/List"), .int, .boolean, .int]
  staticTypes := #[]
  resolved := Array.replicate 86 none
  statics := none }

def pool33 : Array CpInfo := pool [(1, .class_ 2), (0, u sn58), (0, .class_ 4), (0, u "java/lang/Object")] 9

/-- java/lang/Appendable -/
def k33 : Class := { plain sn58 (some 0) with
  accessFlags := 1537
  interfaces := #[]
  cf := some (fileOf pool33 1 #[] #[] 1537 3 #[] #[])
  fields := #[]
  methods := #[]
  instanceTypes := #[]
  staticTypes := #[]
  resolved := Array.replicate 14 none
  statics := none }

def pool34 : Array CpInfo := pool [(1, .class_ 2), (0, u "java/lang/String"), (0, .methodref 4 5), (0, .class_ 6), (0, .nameAndType 7 8), (0, u "java/lang/Object"), (0, u "<init>"), (0, u "()V"), (1, .class_ 12), (1, u sn1), (0, u "EMPTYVALUE"), (0, u "[B"), (0, .fieldref 10 16), (0, .nameAndType 17 14), (0, u "value"), (0, .fieldref 1 19), (0, .nameAndType 20 21), (0, u "COMPACT_STRINGS"), (0, u "Z"), (0, .fieldref 10 23), (0, .nameAndType 24 25), (0, u "coder"), (0, u "B"), (6, .methodref 1 33), (0, .nameAndType 34 35), (0, u "length"), (0, u "()I"), (4, .methodref 1 41), (0, .nameAndType 24 42), (0, u "()B"), (2, u "append"), (0, u sn18), (1, .class_ 49), (0, u sn55), (19, u sn43), (5, u "maybeLatin1"), (3, .fieldref 10 80), (0, .nameAndType 81 82), (0, u "count"), (0, u "I"), (2, u "isLatin1"), (0, u "()Z"), (13, .methodref 10 101), (0, .nameAndType 102 103), (0, u sn44), (0, u "(I)V"), (104, .methodref 10 209), (0, .nameAndType 210 211), (0, u "putStringAt"), (0, u sn40), (5, u "inflateIfNeededFor"), (2, .nameAndType 221 222), (0, u "getBytes"), (0, u "([BIB)V"), (174, .methodref 10 398), (0, .nameAndType 217 69), (0, .methodref 1 220), (3, u "()[B"), (40, .class_ 445), (0, u sn58), (106, u "getValue")] 56

def k34m0 : Method := { name := "<init>", desc := "()V", sig := { parameters := [], returnType := none }, accessFlags := 0, code := none }
def k34c1 : Code := { maxStack := 2, maxLocals := 2, code := jdk_68_method_2_code, exceptionTable := #[], attributes := #[] }
def k34m1 : Method := { name := "<init>", desc := "(I)V", sig := { parameters := [.int], returnType := none }, accessFlags := 0, code := some k34c1 }
def k34c2 : Code := { maxStack := 1, maxLocals := 1, code := jdk_68_method_6_code, exceptionTable := #[], attributes := #[] }
def k34m2 : Method := { name := "length", desc := "()I", sig := { parameters := [], returnType := some .int }, accessFlags := 1, code := some k34c2 }
def k34c3 : Code := { maxStack := 4, maxLocals := 3, code := jdk_68_method_9_code, exceptionTable := #[], attributes := #[] }
def k34m3 : Method := { name := sn44, desc := "(I)V", sig := { parameters := [.int], returnType := none }, accessFlags := 2, code := some k34c3 }
def k34c4 : Code := { maxStack := 3, maxLocals := 3, code := jdk_68_method_22_code, exceptionTable := #[], attributes := #[] }
def k34m4 : Method := { name := "append", desc := sn18, sig := { parameters := [(.object "java/lang/String")], returnType := some (.object sn1) }, accessFlags := 1, code := some k34c4 }
def k34c5 : Code := { maxStack := 1, maxLocals := 1, code := jdk_68_method_64_code, exceptionTable := #[], attributes := #[] }
def k34m5 : Method := { name := "getValue", desc := "()[B", sig := { parameters := [], returnType := some (.array .byte) }, accessFlags := 16, code := some k34c5 }
def k34c6 : Code := { maxStack := 1, maxLocals := 1, code := jdk_68_method_68_code, exceptionTable := #[], attributes := #[] }
def k34m6 : Method := { name := "isLatin1", desc := "()Z", sig := { parameters := [], returnType := some .boolean }, accessFlags := 16, code := some k34c6 }
def k34c7 : Code := { maxStack := 2, maxLocals := 2, code := jdk_68_method_71_code, exceptionTable := #[], attributes := #[] }
def k34m7 : Method := { name := "inflateIfNeededFor", desc := sn43, sig := { parameters := [(.object "java/lang/String")], returnType := none }, accessFlags := 2, code := some k34c7 }
def k34c8 : Code := { maxStack := 4, maxLocals := 3, code := jdk_68_method_73_code, exceptionTable := #[], attributes := #[] }
def k34m8 : Method := { name := "putStringAt", desc := sn40, sig := { parameters := [.int, (.object "java/lang/String")], returnType := none }, accessFlags := 2, code := some k34c8 }
/-- java/lang/AbstractStringBuilder -/
def k34 : Class := { plain sn1 (some 0) with
  accessFlags := 1056
  interfaces := #[33, 4]
  cf := some (fileOf pool34 10 #[] #[{ accessFlags := 0, nameIndex := 7, descriptorIndex := 8, attributes := #[] }, { accessFlags := 0, nameIndex := 7, descriptorIndex := 103, attributes := #[] }, { accessFlags := 1, nameIndex := 34, descriptorIndex := 35, attributes := #[] }, { accessFlags := 2, nameIndex := 102, descriptorIndex := 103, attributes := #[] }, { accessFlags := 1, nameIndex := 45, descriptorIndex := 46, attributes := #[] }, { accessFlags := 16, nameIndex := 552, descriptorIndex := 403, attributes := #[] }, { accessFlags := 16, nameIndex := 85, descriptorIndex := 86, attributes := #[] }, { accessFlags := 2, nameIndex := 217, descriptorIndex := 69, attributes := #[] }, { accessFlags := 2, nameIndex := 210, descriptorIndex := 211, attributes := #[] }] 1056 4 #[444, 48] #[{ accessFlags := 0, nameIndex := 17, descriptorIndex := 14, attributes := #[] }, { accessFlags := 0, nameIndex := 24, descriptorIndex := 25, attributes := #[] }, { accessFlags := 0, nameIndex := 75, descriptorIndex := 21, attributes := #[] }, { accessFlags := 0, nameIndex := 81, descriptorIndex := 82, attributes := #[] }, { accessFlags := 26, nameIndex := 13, descriptorIndex := 14, attributes := #[] }])
  fields := #[{ name := "value", type := (.array .byte), accessFlags := 0, slot := 0, constantValue := 0 }, { name := "coder", type := .byte, accessFlags := 0, slot := 1, constantValue := 0 }, { name := "maybeLatin1", type := .boolean, accessFlags := 0, slot := 2, constantValue := 0 }, { name := "count", type := .int, accessFlags := 0, slot := 3, constantValue := 0 }, { name := "EMPTYVALUE", type := (.array .byte), accessFlags := 26, slot := 0, constantValue := 0 }]
  methods := #[k34m0, k34m1, k34m2, k34m3, k34m4, k34m5, k34m6, k34m7, k34m8]
  instanceTypes := #[(.array .byte), .byte, .boolean, .int]
  staticTypes := #[(.array .byte)]
  resolved := Array.replicate 609 none
  statics := none }

def pool35 : Array CpInfo := pool [(1, .methodref 2 3), (0, .class_ 4), (0, .nameAndType 5 6), (0, u sn1), (0, u "<init>"), (0, u "(I)V"), (11, .class_ 20), (1, u "java/lang/String"), (3, .class_ 26), (1, u sn7), (0, u "append"), (0, u sn15), (0, .methodref 2 30), (0, .nameAndType 27 31), (0, u sn18), (105, .methodref 18 138), (0, .nameAndType 5 139), (0, u sn39), (5, u "()V"), (10, u "()I"), (186, .methodref 2 344), (0, .nameAndType 345 156), (0, u "length"), (3, .class_ 350), (0, u sn58), (0, .class_ 352), (0, u sn54), (0, .class_ 354), (0, u sn57), (0, .class_ 356), (0, u sn55), (0, u "serialVersionUID"), (0, u "J"), (40, u "toString"), (0, u sn42)] 21

def k35c0 : Code := { maxStack := 2, maxLocals := 1, code := jdk_67_method_1_code, exceptionTable := #[], attributes := #[] }
def k35m0 : Method := { name := "<init>", desc := "()V", sig := { parameters := [], returnType := none }, accessFlags := 1, code := some k35c0 }
def k35c1 : Code := { maxStack := 2, maxLocals := 2, code := jdk_67_method_7_code, exceptionTable := #[], attributes := #[] }
def k35m1 : Method := { name := "append", desc := sn15, sig := { parameters := [(.object "java/lang/String")], returnType := some (.object sn7) }, accessFlags := 1, code := some k35c1 }
def k35c2 : Code := { maxStack := 3, maxLocals := 1, code := jdk_67_method_42_code, exceptionTable := #[], attributes := #[] }
def k35m2 : Method := { name := "toString", desc := sn42, sig := { parameters := [], returnType := some (.object "java/lang/String") }, accessFlags := 1, code := some k35c2 }
def k35c3 : Code := { maxStack := 1, maxLocals := 1, code := jdk_67_method_93_code, exceptionTable := #[], attributes := #[] }
def k35m3 : Method := { name := "length", desc := "()I", sig := { parameters := [], returnType := some .int }, accessFlags := 4161, code := some k35c3 }
/-- java/lang/StringBuilder -/
def k35 : Class := { plain sn7 (some 34) with
  accessFlags := 49
  interfaces := #[33, 2, 3, 4]
  cf := some (fileOf pool35 24 #[] #[{ accessFlags := 1, nameIndex := 5, descriptorIndex := 145, attributes := #[] }, { accessFlags := 1, nameIndex := 27, descriptorIndex := 28, attributes := #[] }, { accessFlags := 1, nameIndex := 399, descriptorIndex := 400, attributes := #[] }, { accessFlags := 4161, nameIndex := 345, descriptorIndex := 156, attributes := #[] }] 49 2 #[349, 351, 353, 355] #[{ accessFlags := 24, nameIndex := 357, descriptorIndex := 358, attributes := #[] }])
  fields := #[{ name := "serialVersionUID", type := .long, accessFlags := 24, slot := 0, constantValue := 0 }]
  methods := #[k35m0, k35m1, k35m2, k35m3]
  instanceTypes := #[(.array .byte), .byte, .boolean, .int]
  staticTypes := #[.long]
  resolved := Array.replicate 422 none
  statics := none }

def pool36 : Array CpInfo := pool [(2, .class_ 4), (1, u "java/lang/Object"), (0, u "<init>"), (0, u "()V"), (17, .class_ 26), (1, u sn36), (6, u "checkIndex"), (21, .class_ 56), (0, u "jdk/internal/util/Preconditions$4"), (57, .class_ 115), (0, u "jdk/internal/util/Preconditions$1"), (7, u "SIOOBE_FORMATTER"), (0, u "Ljava/util/function/BiFunction;"), (0, .class_ 126), (0, u "jdk/internal/util/Preconditions$2"), (3, u "AIOOBE_FORMATTER"), (0, .class_ 132), (0, u "jdk/internal/util/Preconditions$3"), (3, u "IOOBE_FORMATTER"), (41, u sn33)] 15

def k36m0 : Method := { name := "<init>", desc := "()V", sig := { parameters := [], returnType := none }, accessFlags := 1, code := none }
def k36c1 : Code := { maxStack := 3, maxLocals := 3, code := jdk_41_method_11_code, exceptionTable := #[], attributes := #[] }
def k36m1 : Method := { name := "checkIndex", desc := sn33, sig := { parameters := [.int, .int, (.object sn45)], returnType := some .int }, accessFlags := 9, code := some k36c1 }
/-- jdk/internal/util/Preconditions -/
def k36 : Class := { plain sn36 (some 0) with
  accessFlags := 33
  interfaces := #[]
  cf := some (fileOf pool36 24 #[.nestMembers #[55, 131, 125, 114]] #[{ accessFlags := 1, nameIndex := 5, descriptorIndex := 6, attributes := #[] }, { accessFlags := 9, nameIndex := 33, descriptorIndex := 178, attributes := #[] }] 33 2 #[] #[{ accessFlags := 25, nameIndex := 123, descriptorIndex := 124, attributes := #[] }, { accessFlags := 25, nameIndex := 130, descriptorIndex := 124, attributes := #[] }, { accessFlags := 25, nameIndex := 136, descriptorIndex := 124, attributes := #[] }])
  fields := #[{ name := "SIOOBE_FORMATTER", type := (.object sn45), accessFlags := 25, slot := 0, constantValue := 0 }, { name := "AIOOBE_FORMATTER", type := (.object sn45), accessFlags := 25, slot := 1, constantValue := 0 }, { name := "IOOBE_FORMATTER", type := (.object sn45), accessFlags := 25, slot := 2, constantValue := 0 }]
  methods := #[k36m0, k36m1]
  instanceTypes := #[]
  staticTypes := #[(.object sn45), (.object sn45), (.object sn45)]
  resolved := Array.replicate 194 none
  statics := some 3 }

def pool37 : Array CpInfo := pool [(9, u "<init>"), (6, .class_ 18), (1, u "java/lang/Object"), (0, u "()V"), (1, .class_ 23), (1, u sn37), (0, u "LOG2_ARRAY_LONG_INDEX_SCALE"), (0, u "I"), (2, u "U"), (0, u "Ljdk/internal/misc/Unsafe;"), (8, u "BIG_ENDIAN"), (0, u "Z"), (8, u "LOG2_BYTE_BIT_SIZE"), (4, u "LOG2_ARRAY_INT_INDEX_SCALE"), (54, u "JLA"), (0, u "Ljdk/internal/access/JavaLangAccess;"), (11, u "LOG2_ARRAY_BOOLEAN_INDEX_SCALE"), (9, u "LOG2_ARRAY_BYTE_INDEX_SCALE"), (5, u "LOG2_ARRAY_CHAR_INDEX_SCALE"), (5, u "LOG2_ARRAY_SHORT_INDEX_SCALE"), (5, u "mismatch"), (12, u "LOG2_ARRAY_FLOAT_INDEX_SCALE"), (24, u "LOG2_ARRAY_DOUBLE_INDEX_SCALE"), (89, u "T_BOOLEAN"), (2, u "T_CHAR"), (1, u "T_FLOAT"), (1, u "T_DOUBLE"), (1, u "T_BYTE"), (1, u "T_SHORT"), (1, u "T_INT"), (1, u "T_LONG"), (1, u "SOFT_MAX_ARRAY_LENGTH"), (42, u "([BI[BII)I")] 40

def k37m0 : Method := { name := "<init>", desc := "()V", sig := { parameters := [], returnType := none }, accessFlags := 2, code := none }
def k37c1 : Code := { maxStack := 8, maxLocals := 8, code := jdk_48_method_14_code, exceptionTable := #[], attributes := #[] }
def k37m1 : Method := { name := "mismatch", desc := "([BI[BII)I", sig := { parameters := [(.array .byte), .int, (.array .byte), .int, .int], returnType := some .int }, accessFlags := 9, code := some k37c1 }
/-- jdk/internal/util/ArraysSupport -/
def k37 : Class := { plain sn37 (some 0) with
  accessFlags := 33
  interfaces := #[]
  cf := some (fileOf pool37 21 #[] #[{ accessFlags := 2, nameIndex := 9, descriptorIndex := 19, attributes := #[] }, { accessFlags := 9, nameIndex := 149, descriptorIndex := 337, attributes := #[] }] 33 16 #[] #[{ accessFlags := 24, nameIndex := 28, descriptorIndex := 29, attributes := #[] }, { accessFlags := 26, nameIndex := 38, descriptorIndex := 39, attributes := #[] }, { accessFlags := 25, nameIndex := 121, descriptorIndex := 25, attributes := #[] }, { accessFlags := 25, nameIndex := 131, descriptorIndex := 25, attributes := #[] }, { accessFlags := 25, nameIndex := 137, descriptorIndex := 25, attributes := #[] }, { accessFlags := 25, nameIndex := 143, descriptorIndex := 25, attributes := #[] }, { accessFlags := 25, nameIndex := 53, descriptorIndex := 25, attributes := #[] }, { accessFlags := 25, nameIndex := 24, descriptorIndex := 25, attributes := #[] }, { accessFlags := 25, nameIndex := 162, descriptorIndex := 25, attributes := #[] }, { accessFlags := 25, nameIndex := 187, descriptorIndex := 25, attributes := #[] }, { accessFlags := 26, nameIndex := 48, descriptorIndex := 25, attributes := #[] }, { accessFlags := 25, nameIndex := 277, descriptorIndex := 25, attributes := #[] }, { accessFlags := 25, nameIndex := 280, descriptorIndex := 25, attributes := #[] }, { accessFlags := 25, nameIndex := 282, descriptorIndex := 25, attributes := #[] }, { accessFlags := 25, nameIndex := 284, descriptorIndex := 25, attributes := #[] }, { accessFlags := 25, nameIndex := 286, descriptorIndex := 25, attributes := #[] }, { accessFlags := 25, nameIndex := 288, descriptorIndex := 25, attributes := #[] }, { accessFlags := 25, nameIndex := 290, descriptorIndex := 25, attributes := #[] }, { accessFlags := 25, nameIndex := 292, descriptorIndex := 25, attributes := #[] }, { accessFlags := 26, nameIndex := 108, descriptorIndex := 109, attributes := #[] }, { accessFlags := 25, nameIndex := 294, descriptorIndex := 25, attributes := #[] }])
  fields := #[{ name := "U", type := (.object "jdk/internal/misc/Unsafe"), accessFlags := 24, slot := 0, constantValue := 0 }, { name := "BIG_ENDIAN", type := .boolean, accessFlags := 26, slot := 1, constantValue := 0 }, { name := "LOG2_ARRAY_BOOLEAN_INDEX_SCALE", type := .int, accessFlags := 25, slot := 2, constantValue := 0 }, { name := "LOG2_ARRAY_BYTE_INDEX_SCALE", type := .int, accessFlags := 25, slot := 3, constantValue := 0 }, { name := "LOG2_ARRAY_CHAR_INDEX_SCALE", type := .int, accessFlags := 25, slot := 4, constantValue := 0 }, { name := "LOG2_ARRAY_SHORT_INDEX_SCALE", type := .int, accessFlags := 25, slot := 5, constantValue := 0 }, { name := "LOG2_ARRAY_INT_INDEX_SCALE", type := .int, accessFlags := 25, slot := 6, constantValue := 0 }, { name := "LOG2_ARRAY_LONG_INDEX_SCALE", type := .int, accessFlags := 25, slot := 7, constantValue := 0 }, { name := "LOG2_ARRAY_FLOAT_INDEX_SCALE", type := .int, accessFlags := 25, slot := 8, constantValue := 0 }, { name := "LOG2_ARRAY_DOUBLE_INDEX_SCALE", type := .int, accessFlags := 25, slot := 9, constantValue := 0 }, { name := "LOG2_BYTE_BIT_SIZE", type := .int, accessFlags := 26, slot := 10, constantValue := 0 }, { name := "T_BOOLEAN", type := .int, accessFlags := 25, slot := 11, constantValue := 0 }, { name := "T_CHAR", type := .int, accessFlags := 25, slot := 12, constantValue := 0 }, { name := "T_FLOAT", type := .int, accessFlags := 25, slot := 13, constantValue := 0 }, { name := "T_DOUBLE", type := .int, accessFlags := 25, slot := 14, constantValue := 0 }, { name := "T_BYTE", type := .int, accessFlags := 25, slot := 15, constantValue := 0 }, { name := "T_SHORT", type := .int, accessFlags := 25, slot := 16, constantValue := 0 }, { name := "T_INT", type := .int, accessFlags := 25, slot := 17, constantValue := 0 }, { name := "T_LONG", type := .int, accessFlags := 25, slot := 18, constantValue := 0 }, { name := "JLA", type := (.object "jdk/internal/access/JavaLangAccess"), accessFlags := 26, slot := 19, constantValue := 0 }, { name := "SOFT_MAX_ARRAY_LENGTH", type := .int, accessFlags := 25, slot := 20, constantValue := 0 }]
  methods := #[k37m0, k37m1]
  instanceTypes := #[]
  staticTypes := #[(.object "jdk/internal/misc/Unsafe"), .boolean, .int, .int, .int, .int, .int, .int, .int, .int, .int, .int, .int, .int, .int, .int, .int, .int, .int, (.object "jdk/internal/access/JavaLangAccess"), .int]
  resolved := Array.replicate 378 none
  statics := none }

def pool38 : Array CpInfo := pool [(1, u "java/lang/Class"), (0, .class_ 1), (0, u "java/lang/Object"), (0, .class_ 3)] 0

/-- java/lang/Class -/
def k38 : Class := { plain "java/lang/Class" (some 0) with
  accessFlags := 49
  interfaces := #[]
  cf := some (fileOf pool38 2 #[] #[] 49 4 #[] #[])
  fields := #[]
  methods := #[]
  instanceTypes := #[]
  staticTypes := #[]
  resolved := Array.replicate 5 none
  statics := none }

/-- the primitive byte -/
def k39 : Class := { plain "byte" none with kind := .primitive 'B', accessFlags := 0x411 }
/-- [B -/
def k40 : Class := { plain "[B" (some 0) with kind := .array 39 .byte, interfaces := #[17, 2], accessFlags := 1041 }

/-- the primitive char -/
def k41 : Class := { plain "char" none with kind := .primitive 'C', accessFlags := 0x411 }
/-- [C -/
def k42 : Class := { plain "[C" (some 0) with kind := .array 41 .char, interfaces := #[17, 2], accessFlags := 1041 }

/-- the primitive int -/
def k43 : Class := { plain "int" none with kind := .primitive 'I', accessFlags := 0x411 }
/-- [I -/
def k44 : Class := { plain "[I" (some 0) with kind := .array 43 .int, interfaces := #[17, 2], accessFlags := 1041 }

/-- [Ljava/lang/Object; -/
def k45 : Class := { plain "[Ljava/lang/Object;" (some 0) with kind := .array 0 (.object "java/lang/Object"), interfaces := #[17, 2], accessFlags := 1041, mirror := some 4 }

def heap : Heap := #[{ cls := 7, slots := #[.long 0, .int 1, .null, .int 0, .null, .int 0, .int 0], vm := .statics 7 },
  { cls := 18, slots := #[.long 0, .int 0, .ref 7, .ref 8], vm := .statics 18 },
  { cls := 22, slots := #[.long 0, .int 0, .null, .ref 9, .ref 6, .null, .null, .null, .int 0, .int 1], vm := .statics 22 },
  { cls := 36, slots := #[.null, .null, .null], vm := .statics 36 },
  { cls := 38, slots := #[], vm := .mirror 45 },
  { cls := 45, slots := #[], vm := .none },
  { cls := 26, slots := #[.ref 5, .int 0], vm := .none },
  { cls := 45, slots := #[], vm := .none },
  { cls := 45, slots := #[], vm := .none },
  { cls := 0, slots := #[], vm := .none }]
def classes : Array Class := #[k0, k1, k2, k3, k4, k5, k6, k7, k8, k9, k10, k11, k12, k13, k14, k15, k16, k17, k18, k19, k20, k21, k22, k23, k24, k25, k26, k27, k28, k29, k30, k31, k32, k33, k34, k35, k36, k37, k38, k39, k40, k41, k42, k43, k44, k45]
def interned : List (Array UInt16 × Addr) := []
def slotsUsed : Nat := 26
def theMethod : MethodId := ⟨1, 1⟩
def args0 : Array Value := #[.int 5, .int 5, .int 5, .int 5]
def aboutOver (below : List Frame) : State where
  vm := { classes := classes, interned := interned.toArray }
  heap := heap
  slotsUsed := slotsUsed
  threads := #[{ frames := .invoking theMethod args0 :: below }]
def below0 : List Frame := [.native { method := ⟨0, 0⟩, args := #[] }]
def about1 : State := aboutOver below0
def p0 : Program := .bare "" "" ""
def e0 : Env := launch0.env 0 0 0
theorem w_frames : about1.frames = Frame.invoking theMethod args0 :: below0 := rfl
set_option maxRecDepth 65536 in
theorem w_args : argsFit about1.vm theMethod args0 = true := by decide +kernel
set_option maxRecDepth 65536 in
theorem w_heap : heapFits about1 = true := by decide +kernel
set_option maxRecDepth 65536 in
theorem w_runnable : about1.curStatus? = some .runnable := by decide +kernel
set_option maxRecDepth 65536 in
theorem w_alone : about1.alone = true := by decide +kernel
set_option maxRecDepth 65536 in
theorem w_named : about1.methodNamed? x = some theMethod := by decide +kernel
set_option maxRecDepth 65536 in
theorem w_hears : about1.hears theMethod below0 = true := by decide +kernel
set_option maxRecDepth 65536 in
theorem w_ripe : about1.ripe theMethod args0 below0 = true := by decide +kernel
theorem w_running : about1.status = .running := rfl
set_option maxRecDepth 65536 in
theorem w_room : about1.hasRoom e0.platform room_1 = true :=
  launch0.hasRoom_least _ room_1 (by decide +kernel) (by decide +kernel) (by decide +kernel) (by decide +kernel) (by decide +kernel) (by decide +kernel)
theorem allAtoms_all (ts : List Jvm.Cond) (a : Array Jvm.Value) (st : Jvm.State) : (allAtoms ts).before a st = ts.all (fun c => c.before a st) := by
  induction ts with
  | nil => rfl
  | cons c t ih =>
    show (Jvm.Cond.and c (allAtoms t)).before a st = _
    rw [Jvm.Cond.before_and, ih, List.all_cons]
def words1 : List Jvm.Cond := Jvm.Cond.code x code maxLocals ret :: tables_1
/-- a 'code' word, met by the world's own term for the bytes: nothing is compared byte by byte -/
theorem code_word {y : MethodName} {bytes : ByteArray} {mx : Nat} {rt : Option FieldType} {a : Array Value} {s : State} {m : MethodId} {meth : Method} {c : Code} (h1 : s.methodNamed? y = some m) (h2 : s.vm.method? m = some meth) (h3 : meth.code = some c) (h4 : c.code = bytes)
    (h5 : (c.maxLocals == mx && c.exceptionTable.isEmpty && decide (c.maxStack ≤ mostOperands) && decide (meth.sig.returnType = rt) && !meth.locks && decide (parseMethodDescriptor y.desc = some meth.sig)) = true) : (Jvm.Cond.code y bytes mx rt).before a s = true := by
  simp only [Bool.and_eq_true, beq_iff_eq, Bool.not_eq_true', decide_eq_true_eq] at h5
  obtain ⟨⟨⟨⟨⟨g1, g2⟩, g3⟩, g4⟩, g5⟩, g6⟩ := h5
  simp [Cond.before, Cond.holds, Cond.value, h1, h2, h3, h4, g1, g2, g3, g4, g5, g6]
def isCode : Jvm.Cond → Bool
  | .code _ _ _ _ => true
  | _ => false
theorem all_split {L : List Jvm.Cond} {P : Jvm.Cond → Bool} (h1 : L.all (fun c => isCode c || P c) = true) (h2 : ∀ c ∈ L.filter isCode, P c = true) : L.all P = true := by
  refine List.all_eq_true.mpr fun c hc => ?_
  have h := List.all_eq_true.mp h1 c hc
  rcases Bool.eq_false_or_eq_true (isCode c) with hi | hi
  · exact h2 c (List.mem_filter.mpr ⟨hc, hi⟩)
  · simpa [hi] using h
set_option maxRecDepth 65536 in
theorem w_c0 : (Jvm.Cond.code x code maxLocals ret).before args0 about1 = true := code_word (m := ⟨1, 1⟩) (meth := k1m1) (c := k1c1) (by decide +kernel) rfl rfl rfl (by decide +kernel)
set_option maxRecDepth 65536 in
theorem w_c1 : (Jvm.Cond.code ({ cls := sn2, name := "line", desc := sn52 } : Jvm.MethodName) method_3_code (2 : Nat) (Option.some (Jvm.ClassFile.FieldType.object "java/lang/String"))).before args0 about1 = true := code_word (m := ⟨1, 2⟩) (meth := k1m2) (c := k1c2) (by decide +kernel) rfl rfl rfl (by decide +kernel)
set_option maxRecDepth 65536 in
theorem w_c2 : (Jvm.Cond.code ({ cls := "java/lang/String", name := "<init>", desc := "([C)V" } : Jvm.MethodName) jdk_42_method_3_code (2 : Nat) (Option.none : Option Jvm.ClassFile.FieldType)).before args0 about1 = true := code_word (m := ⟨7, 1⟩) (meth := k7m1) (c := k7c1) (by decide +kernel) rfl rfl rfl (by decide +kernel)
set_option maxRecDepth 65536 in
theorem w_c3 : (Jvm.Cond.code ({ cls := "java/lang/String", name := "<init>", desc := sn50 } : Jvm.MethodName) jdk_42_method_149_code (6 : Nat) (Option.none : Option Jvm.ClassFile.FieldType)).before args0 about1 = true := code_word (m := ⟨7, 9⟩) (meth := k7m9) (c := k7c9) (by decide +kernel) rfl rfl rfl (by decide +kernel)
set_option maxRecDepth 65536 in
theorem w_c4 : (Jvm.Cond.code ({ cls := "java/lang/Object", name := "<init>", desc := "()V" } : Jvm.MethodName) object_method_1_code (1 : Nat) (Option.none : Option Jvm.ClassFile.FieldType)).before args0 about1 = true := code_word (m := ⟨0, 0⟩) (meth := k0m0) (c := k0c0) (by decide +kernel) rfl rfl rfl (by decide +kernel)
set_option maxRecDepth 65536 in
theorem w_c5 : (Jvm.Cond.code ({ cls := sn21, name := "compress", desc := "([CII)[B" } : Jvm.MethodName) jdk_52_method_16_code (6 : Nat) (Option.some (Jvm.ClassFile.FieldType.array Jvm.ClassFile.FieldType.byte))).before args0 about1 = true := code_word (m := ⟨8, 2⟩) (meth := k8m2) (c := k8c2) (by decide +kernel) rfl rfl rfl (by decide +kernel)
set_option maxRecDepth 65536 in
theorem w_c6 : (Jvm.Cond.code ({ cls := sn21, name := "compress", desc := "([CI[BII)I" } : Jvm.MethodName) jdk_52_method_21_code (7 : Nat) (Option.some Jvm.ClassFile.FieldType.int)).before args0 about1 = true := code_word (m := ⟨8, 3⟩) (meth := k8m3) (c := k8c3) (by decide +kernel) rfl rfl rfl (by decide +kernel)
set_option maxRecDepth 65536 in
theorem w_c7 : (Jvm.Cond.code ({ cls := sn21, name := "coderFromArrayLen", desc := "([BI)B" } : Jvm.MethodName) jdk_52_method_15_code (2 : Nat) (Option.some Jvm.ClassFile.FieldType.byte)).before args0 about1 = true := code_word (m := ⟨8, 1⟩) (meth := k8m1) (c := k8c1) (by decide +kernel) rfl rfl rfl (by decide +kernel)
set_option maxRecDepth 65536 in
theorem w_c8 : (Jvm.Cond.code ({ cls := "java/lang/String", name := "valueOf", desc := sn48 } : Jvm.MethodName) jdk_42_method_139_code (1 : Nat) (Option.some (Jvm.ClassFile.FieldType.object "java/lang/String"))).before args0 about1 = true := code_word (m := ⟨7, 7⟩) (meth := k7m7) (c := k7c7) (by decide +kernel) rfl rfl rfl (by decide +kernel)
set_option maxRecDepth 65536 in
theorem w_c9 : (Jvm.Cond.code ({ cls := sn20, name := "canEncode", desc := "(C)Z" } : Jvm.MethodName) jdk_43_method_3_code (1 : Nat) (Option.some Jvm.ClassFile.FieldType.boolean)).before args0 about1 = true := code_word (m := ⟨9, 1⟩) (meth := k9m1) (c := k9c1) (by decide +kernel) rfl rfl rfl (by decide +kernel)
set_option maxRecDepth 65536 in
theorem w_c10 : (Jvm.Cond.code ({ cls := sn20, name := "toBytes", desc := "(C)[B" } : Jvm.MethodName) jdk_43_method_46_code (1 : Nat) (Option.some (Jvm.ClassFile.FieldType.array Jvm.ClassFile.FieldType.byte))).before args0 about1 = true := code_word (m := ⟨9, 3⟩) (meth := k9m3) (c := k9c3) (by decide +kernel) rfl rfl rfl (by decide +kernel)
set_option maxRecDepth 65536 in
theorem w_c11 : (Jvm.Cond.code ({ cls := "java/lang/String", name := "<init>", desc := "([BB)V" } : Jvm.MethodName) jdk_42_method_151_code (3 : Nat) (Option.none : Option Jvm.ClassFile.FieldType)).before args0 about1 = true := code_word (m := ⟨7, 11⟩) (meth := k7m11) (c := k7c11) (by decide +kernel) rfl rfl rfl (by decide +kernel)
set_option maxRecDepth 65536 in
theorem w_c12 : (Jvm.Cond.code ({ cls := "java/util/ArrayList", name := "<init>", desc := "()V" } : Jvm.MethodName) jdk_38_method_2_code (1 : Nat) (Option.none : Option Jvm.ClassFile.FieldType)).before args0 about1 = true := code_word (m := ⟨18, 0⟩) (meth := k18m0) (c := k18c0) (by decide +kernel) rfl rfl rfl (by decide +kernel)
set_option maxRecDepth 65536 in
theorem w_c13 : (Jvm.Cond.code ({ cls := sn27, name := "<init>", desc := "()V" } : Jvm.MethodName) jdk_39_method_1_code (1 : Nat) (Option.none : Option Jvm.ClassFile.FieldType)).before args0 about1 = true := code_word (m := ⟨15, 0⟩) (meth := k15m0) (c := k15c0) (by decide +kernel) rfl rfl rfl (by decide +kernel)
set_option maxRecDepth 65536 in
theorem w_c14 : (Jvm.Cond.code ({ cls := sn22, name := "<init>", desc := "()V" } : Jvm.MethodName) jdk_22_method_1_code (1 : Nat) (Option.none : Option Jvm.ClassFile.FieldType)).before args0 about1 = true := code_word (m := ⟨12, 0⟩) (meth := k12m0) (c := k12c0) (by decide +kernel) rfl rfl rfl (by decide +kernel)
set_option maxRecDepth 65536 in
theorem w_c15 : (Jvm.Cond.code ({ cls := "java/util/ArrayList", name := "add", desc := sn11 } : Jvm.MethodName) jdk_38_method_25_code (2 : Nat) (Option.some Jvm.ClassFile.FieldType.boolean)).before args0 about1 = true := code_word (m := ⟨18, 9⟩) (meth := k18m9) (c := k18c9) (by decide +kernel) rfl rfl rfl (by decide +kernel)
set_option maxRecDepth 65536 in
theorem w_c16 : (Jvm.Cond.code ({ cls := "java/util/ArrayList", name := "add", desc := sn28 } : Jvm.MethodName) jdk_38_method_24_code (4 : Nat) (Option.none : Option Jvm.ClassFile.FieldType)).before args0 about1 = true := code_word (m := ⟨18, 8⟩) (meth := k18m8) (c := k18c8) (by decide +kernel) rfl rfl rfl (by decide +kernel)
set_option maxRecDepth 65536 in
theorem w_c17 : (Jvm.Cond.code ({ cls := "java/util/ArrayList", name := "grow", desc := sn17 } : Jvm.MethodName) jdk_38_method_7_code (1 : Nat) (Option.some (Jvm.ClassFile.FieldType.array (Jvm.ClassFile.FieldType.object "java/lang/Object")))).before args0 about1 = true := code_word (m := ⟨18, 2⟩) (meth := k18m2) (c := k18c2) (by decide +kernel) rfl rfl rfl (by decide +kernel)
set_option maxRecDepth 65536 in
theorem w_c18 : (Jvm.Cond.code ({ cls := "java/util/ArrayList", name := "grow", desc := sn47 } : Jvm.MethodName) jdk_38_method_6_code (4 : Nat) (Option.some (Jvm.ClassFile.FieldType.array (Jvm.ClassFile.FieldType.object "java/lang/Object")))).before args0 about1 = true := code_word (m := ⟨18, 1⟩) (meth := k18m1) (c := k18c1) (by decide +kernel) rfl rfl rfl (by decide +kernel)
set_option maxRecDepth 65536 in
theorem w_c19 : (Jvm.Cond.code ({ cls := "java/lang/Math", name := "max", desc := "(II)I" } : Jvm.MethodName) jdk_29_method_65_code (2 : Nat) (Option.some Jvm.ClassFile.FieldType.int)).before args0 about1 = true := code_word (m := ⟨19, 1⟩) (meth := k19m1) (c := k19c1) (by decide +kernel) rfl rfl rfl (by decide +kernel)
set_option maxRecDepth 65536 in
theorem w_c20 : (Jvm.Cond.code ({ cls := sn2, name := "isDataKind", desc := "(IC)Z" } : Jvm.MethodName) method_4_code (2 : Nat) (Option.some Jvm.ClassFile.FieldType.boolean)).before args0 about1 = true := code_word (m := ⟨1, 3⟩) (meth := k1m3) (c := k1c3) (by decide +kernel) rfl rfl rfl (by decide +kernel)
set_option maxRecDepth 65536 in
theorem w_c21 : (Jvm.Cond.code ({ cls := sn2, name := "expect", desc := sn16 } : Jvm.MethodName) method_5_code (5 : Nat) (Option.some Jvm.ClassFile.FieldType.boolean)).before args0 about1 = true := code_word (m := ⟨1, 4⟩) (meth := k1m4) (c := k1c4) (by decide +kernel) rfl rfl rfl (by decide +kernel)
set_option maxRecDepth 65536 in
theorem w_c22 : (Jvm.Cond.code ({ cls := sn0, name := "<init>", desc := "(Ljava/util/List;)V" } : Jvm.MethodName) prog_6_method_1_code (2 : Nat) (Option.none : Option Jvm.ClassFile.FieldType)).before args0 about1 = true := code_word (m := ⟨21, 0⟩) (meth := k21m0) (c := k21c0) (by decide +kernel) rfl rfl rfl (by decide +kernel)
set_option maxRecDepth 65536 in
theorem w_c23 : (Jvm.Cond.code ({ cls := "java/lang/Record", name := "<init>", desc := "()V" } : Jvm.MethodName) jdk_30_method_1_code (1 : Nat) (Option.none : Option Jvm.ClassFile.FieldType)).before args0 about1 = true := code_word (m := ⟨20, 0⟩) (meth := k20m0) (c := k20c0) (by decide +kernel) rfl rfl rfl (by decide +kernel)
set_option maxRecDepth 65536 in
theorem w_c24 : (Jvm.Cond.code ({ cls := "java/util/List", name := "copyOf", desc := sn12 } : Jvm.MethodName) jdk_40_method_48_code (1 : Nat) (Option.some (Jvm.ClassFile.FieldType.object "java/util/List"))).before args0 about1 = true := code_word (m := ⟨14, 6⟩) (meth := k14m6) (c := k14c6) (by decide +kernel) rfl rfl rfl (by decide +kernel)
set_option maxRecDepth 65536 in
theorem w_c25 : (Jvm.Cond.code ({ cls := sn8, name := "listCopy", desc := sn12 } : Jvm.MethodName) jdk_56_method_3_code (2 : Nat) (Option.some (Jvm.ClassFile.FieldType.object "java/util/List"))).before args0 about1 = true := code_word (m := ⟨22, 1⟩) (meth := k22m1) (c := k22c1) (by decide +kernel) rfl rfl rfl (by decide +kernel)
set_option maxRecDepth 65536 in
theorem w_c26 : (Jvm.Cond.code ({ cls := "java/util/ArrayList", name := "isEmpty", desc := "()Z" } : Jvm.MethodName) jdk_38_method_9_code (1 : Nat) (Option.some Jvm.ClassFile.FieldType.boolean)).before args0 about1 = true := code_word (m := ⟨18, 4⟩) (meth := k18m4) (c := k18c4) (by decide +kernel) rfl rfl rfl (by decide +kernel)
set_option maxRecDepth 65536 in
theorem w_c27 : (Jvm.Cond.code ({ cls := "java/util/ArrayList", name := "toArray", desc := sn17 } : Jvm.MethodName) jdk_38_method_16_code (1 : Nat) (Option.some (Jvm.ClassFile.FieldType.array (Jvm.ClassFile.FieldType.object "java/lang/Object")))).before args0 about1 = true := code_word (m := ⟨18, 5⟩) (meth := k18m5) (c := k18c5) (by decide +kernel) rfl rfl rfl (by decide +kernel)
set_option maxRecDepth 65536 in
theorem w_c28 : (Jvm.Cond.code ({ cls := "java/util/Arrays", name := "copyOf", desc := sn29 } : Jvm.MethodName) jdk_65_method_119_code (2 : Nat) (Option.some (Jvm.ClassFile.FieldType.array (Jvm.ClassFile.FieldType.object "java/lang/Object")))).before args0 about1 = true := code_word (m := ⟨27, 1⟩) (meth := k27m1) (c := k27c1) (by decide +kernel) rfl rfl rfl (by decide +kernel)
set_option maxRecDepth 65536 in
theorem w_c29 : (Jvm.Cond.code ({ cls := "java/util/Arrays", name := "copyOf", desc := sn19 } : Jvm.MethodName) jdk_65_method_120_code (4 : Nat) (Option.some (Jvm.ClassFile.FieldType.array (Jvm.ClassFile.FieldType.object "java/lang/Object")))).before args0 about1 = true := code_word (m := ⟨27, 2⟩) (meth := k27m2) (c := k27c2) (by decide +kernel) rfl rfl rfl (by decide +kernel)
set_option maxRecDepth 65536 in
theorem w_c30 : (Jvm.Cond.code ({ cls := "java/lang/Math", name := "min", desc := "(II)I" } : Jvm.MethodName) jdk_29_method_69_code (2 : Nat) (Option.some Jvm.ClassFile.FieldType.int)).before args0 about1 = true := code_word (m := ⟨19, 2⟩) (meth := k19m2) (c := k19c2) (by decide +kernel) rfl rfl rfl (by decide +kernel)
set_option maxRecDepth 65536 in
theorem w_c31 : (Jvm.Cond.code ({ cls := "java/util/List", name := "of", desc := sn14 } : Jvm.MethodName) jdk_40_method_47_code (2 : Nat) (Option.some (Jvm.ClassFile.FieldType.object "java/util/List"))).before args0 about1 = true := code_word (m := ⟨14, 5⟩) (meth := k14m5) (c := k14c5) (by decide +kernel) rfl rfl rfl (by decide +kernel)
set_option maxRecDepth 65536 in
theorem w_c32 : (Jvm.Cond.code ({ cls := sn3, name := "<init>", desc := sn49 } : Jvm.MethodName) jdk_44_method_1_code (2 : Nat) (Option.none : Option Jvm.ClassFile.FieldType)).before args0 about1 = true := code_word (m := ⟨25, 0⟩) (meth := k25m0) (c := k25c0) (by decide +kernel) rfl rfl rfl (by decide +kernel)
set_option maxRecDepth 65536 in
theorem w_c33 : (Jvm.Cond.code ({ cls := sn6, name := "<init>", desc := "()V" } : Jvm.MethodName) jdk_46_method_1_code (1 : Nat) (Option.none : Option Jvm.ClassFile.FieldType)).before args0 about1 = true := code_word (m := ⟨24, 0⟩) (meth := k24m0) (c := k24c0) (by decide +kernel) rfl rfl rfl (by decide +kernel)
set_option maxRecDepth 65536 in
theorem w_c34 : (Jvm.Cond.code ({ cls := sn13, name := "<init>", desc := "()V" } : Jvm.MethodName) jdk_47_method_1_code (1 : Nat) (Option.none : Option Jvm.ClassFile.FieldType)).before args0 about1 = true := code_word (m := ⟨23, 0⟩) (meth := k23m0) (c := k23c0) (by decide +kernel) rfl rfl rfl (by decide +kernel)
set_option maxRecDepth 65536 in
theorem w_c35 : (Jvm.Cond.code ({ cls := "java/util/Objects", name := "requireNonNull", desc := sn25 } : Jvm.MethodName) jdk_31_method_10_code (1 : Nat) (Option.some (Jvm.ClassFile.FieldType.object "java/lang/Object"))).before args0 about1 = true := code_word (m := ⟨29, 1⟩) (meth := k29m1) (c := k29c1) (by decide +kernel) rfl rfl rfl (by decide +kernel)
set_option maxRecDepth 65536 in
theorem w_c36 : (Jvm.Cond.code ({ cls := sn0, name := "withData", desc := sn10 } : Jvm.MethodName) prog_6_method_3_code (6 : Nat) (Option.some (Jvm.ClassFile.FieldType.object sn0))).before args0 about1 = true := code_word (m := ⟨21, 1⟩) (meth := k21m1) (c := k21c1) (by decide +kernel) rfl rfl rfl (by decide +kernel)
set_option maxRecDepth 65536 in
theorem w_c37 : (Jvm.Cond.code ({ cls := sn6, name := "iterator", desc := sn24 } : Jvm.MethodName) jdk_46_method_10_code (1 : Nat) (Option.some (Jvm.ClassFile.FieldType.object "java/util/Iterator"))).before args0 about1 = true := code_word (m := ⟨24, 1⟩) (meth := k24m1) (c := k24c1) (by decide +kernel) rfl rfl rfl (by decide +kernel)
set_option maxRecDepth 65536 in
theorem w_c38 : (Jvm.Cond.code ({ cls := sn3, name := "size", desc := "()I" } : Jvm.MethodName) jdk_44_method_3_code (1 : Nat) (Option.some Jvm.ClassFile.FieldType.int)).before args0 about1 = true := code_word (m := ⟨25, 2⟩) (meth := k25m2) (c := k25c2) (by decide +kernel) rfl rfl rfl (by decide +kernel)
set_option maxRecDepth 65536 in
theorem w_c39 : (Jvm.Cond.code ({ cls := sn4, name := "<init>", desc := sn51 } : Jvm.MethodName) jdk_53_method_1_code (3 : Nat) (Option.none : Option Jvm.ClassFile.FieldType)).before args0 about1 = true := code_word (m := ⟨32, 0⟩) (meth := k32m0) (c := k32c0) (by decide +kernel) rfl rfl rfl (by decide +kernel)
set_option maxRecDepth 65536 in
theorem w_c40 : (Jvm.Cond.code ({ cls := sn4, name := "hasNext", desc := "()Z" } : Jvm.MethodName) jdk_53_method_3_code (1 : Nat) (Option.some Jvm.ClassFile.FieldType.boolean)).before args0 about1 = true := code_word (m := ⟨32, 1⟩) (meth := k32m1) (c := k32c1) (by decide +kernel) rfl rfl rfl (by decide +kernel)
set_option maxRecDepth 65536 in
theorem w_c41 : (Jvm.Cond.code ({ cls := sn3, name := "get", desc := sn9 } : Jvm.MethodName) jdk_44_method_5_code (2 : Nat) (Option.some (Jvm.ClassFile.FieldType.object "java/lang/Object"))).before args0 about1 = true := code_word (m := ⟨25, 3⟩) (meth := k25m3) (c := k25c3) (by decide +kernel) rfl rfl rfl (by decide +kernel)
set_option maxRecDepth 65536 in
theorem w_c42 : (Jvm.Cond.code ({ cls := sn0, name := "isData", desc := sn26 } : Jvm.MethodName) prog_6_method_5_code (1 : Nat) (Option.some Jvm.ClassFile.FieldType.boolean)).before args0 about1 = true := code_word (m := ⟨21, 2⟩) (meth := k21m2) (c := k21c2) (by decide +kernel) rfl rfl rfl (by decide +kernel)
set_option maxRecDepth 65536 in
theorem w_c43 : (Jvm.Cond.code ({ cls := "java/lang/String", name := "equals", desc := sn11 } : Jvm.MethodName) jdk_42_method_66_code (3 : Nat) (Option.some Jvm.ClassFile.FieldType.boolean)).before args0 about1 = true := code_word (m := ⟨7, 4⟩) (meth := k7m4) (c := k7c4) (by decide +kernel) rfl rfl rfl (by decide +kernel)
set_option maxRecDepth 65536 in
theorem w_c44 : (Jvm.Cond.code ({ cls := sn20, name := "equals", desc := "([B[B)Z" } : Jvm.MethodName) jdk_43_method_13_code (3 : Nat) (Option.some Jvm.ClassFile.FieldType.boolean)).before args0 about1 = true := code_word (m := ⟨9, 2⟩) (meth := k9m2) (c := k9c2) (by decide +kernel) rfl rfl rfl (by decide +kernel)
set_option maxRecDepth 65536 in
theorem w_c45 : (Jvm.Cond.code ({ cls := sn7, name := "<init>", desc := "()V" } : Jvm.MethodName) jdk_67_method_1_code (1 : Nat) (Option.none : Option Jvm.ClassFile.FieldType)).before args0 about1 = true := code_word (m := ⟨35, 0⟩) (meth := k35m0) (c := k35c0) (by decide +kernel) rfl rfl rfl (by decide +kernel)
set_option maxRecDepth 65536 in
theorem w_c46 : (Jvm.Cond.code ({ cls := sn1, name := "<init>", desc := "(I)V" } : Jvm.MethodName) jdk_68_method_2_code (2 : Nat) (Option.none : Option Jvm.ClassFile.FieldType)).before args0 about1 = true := code_word (m := ⟨34, 1⟩) (meth := k34m1) (c := k34c1) (by decide +kernel) rfl rfl rfl (by decide +kernel)
set_option maxRecDepth 65536 in
theorem w_c47 : (Jvm.Cond.code ({ cls := sn7, name := "append", desc := sn15 } : Jvm.MethodName) jdk_67_method_7_code (2 : Nat) (Option.some (Jvm.ClassFile.FieldType.object sn7))).before args0 about1 = true := code_word (m := ⟨35, 1⟩) (meth := k35m1) (c := k35c1) (by decide +kernel) rfl rfl rfl (by decide +kernel)
set_option maxRecDepth 65536 in
theorem w_c48 : (Jvm.Cond.code ({ cls := sn1, name := "append", desc := sn18 } : Jvm.MethodName) jdk_68_method_22_code (3 : Nat) (Option.some (Jvm.ClassFile.FieldType.object sn1))).before args0 about1 = true := code_word (m := ⟨34, 4⟩) (meth := k34m4) (c := k34c4) (by decide +kernel) rfl rfl rfl (by decide +kernel)
set_option maxRecDepth 65536 in
theorem w_c49 : (Jvm.Cond.code ({ cls := "java/lang/String", name := "length", desc := "()I" } : Jvm.MethodName) jdk_42_method_54_code (1 : Nat) (Option.some Jvm.ClassFile.FieldType.int)).before args0 about1 = true := code_word (m := ⟨7, 3⟩) (meth := k7m3) (c := k7c3) (by decide +kernel) rfl rfl rfl (by decide +kernel)
set_option maxRecDepth 65536 in
theorem w_c50 : (Jvm.Cond.code ({ cls := "java/lang/String", name := "coder", desc := "()B" } : Jvm.MethodName) jdk_42_method_152_code (1 : Nat) (Option.some Jvm.ClassFile.FieldType.byte)).before args0 about1 = true := code_word (m := ⟨7, 12⟩) (meth := k7m12) (c := k7c12) (by decide +kernel) rfl rfl rfl (by decide +kernel)
set_option maxRecDepth 65536 in
theorem w_c51 : (Jvm.Cond.code ({ cls := sn1, name := sn44, desc := "(I)V" } : Jvm.MethodName) jdk_68_method_9_code (3 : Nat) (Option.none : Option Jvm.ClassFile.FieldType)).before args0 about1 = true := code_word (m := ⟨34, 3⟩) (meth := k34m3) (c := k34c3) (by decide +kernel) rfl rfl rfl (by decide +kernel)
set_option maxRecDepth 65536 in
theorem w_c52 : (Jvm.Cond.code ({ cls := sn1, name := "putStringAt", desc := sn40 } : Jvm.MethodName) jdk_68_method_73_code (3 : Nat) (Option.none : Option Jvm.ClassFile.FieldType)).before args0 about1 = true := code_word (m := ⟨34, 8⟩) (meth := k34m8) (c := k34c8) (by decide +kernel) rfl rfl rfl (by decide +kernel)
set_option maxRecDepth 65536 in
theorem w_c53 : (Jvm.Cond.code ({ cls := sn1, name := "inflateIfNeededFor", desc := sn43 } : Jvm.MethodName) jdk_68_method_71_code (2 : Nat) (Option.none : Option Jvm.ClassFile.FieldType)).before args0 about1 = true := code_word (m := ⟨34, 7⟩) (meth := k34m7) (c := k34c7) (by decide +kernel) rfl rfl rfl (by decide +kernel)
set_option maxRecDepth 65536 in
theorem w_c54 : (Jvm.Cond.code ({ cls := "java/lang/String", name := "getBytes", desc := "([BIB)V" } : Jvm.MethodName) jdk_42_method_147_code (4 : Nat) (Option.none : Option Jvm.ClassFile.FieldType)).before args0 about1 = true := code_word (m := ⟨7, 8⟩) (meth := k7m8) (c := k7c8) (by decide +kernel) rfl rfl rfl (by decide +kernel)
set_option maxRecDepth 65536 in
theorem w_c55 : (Jvm.Cond.code ({ cls := sn7, name := "toString", desc := sn42 } : Jvm.MethodName) jdk_67_method_42_code (1 : Nat) (Option.some (Jvm.ClassFile.FieldType.object "java/lang/String"))).before args0 about1 = true := code_word (m := ⟨35, 2⟩) (meth := k35m2) (c := k35c2) (by decide +kernel) rfl rfl rfl (by decide +kernel)
set_option maxRecDepth 65536 in
theorem w_c56 : (Jvm.Cond.code ({ cls := "java/lang/String", name := "<init>", desc := sn39 } : Jvm.MethodName) jdk_42_method_53_code (2 : Nat) (Option.none : Option Jvm.ClassFile.FieldType)).before args0 about1 = true := code_word (m := ⟨7, 2⟩) (meth := k7m2) (c := k7c2) (by decide +kernel) rfl rfl rfl (by decide +kernel)
set_option maxRecDepth 65536 in
theorem w_c57 : (Jvm.Cond.code ({ cls := "java/lang/String", name := "<init>", desc := sn23 } : Jvm.MethodName) jdk_42_method_150_code (5 : Nat) (Option.none : Option Jvm.ClassFile.FieldType)).before args0 about1 = true := code_word (m := ⟨7, 10⟩) (meth := k7m10) (c := k7c10) (by decide +kernel) rfl rfl rfl (by decide +kernel)
set_option maxRecDepth 65536 in
theorem w_c58 : (Jvm.Cond.code ({ cls := sn1, name := "getValue", desc := "()[B" } : Jvm.MethodName) jdk_68_method_64_code (1 : Nat) (Option.some (Jvm.ClassFile.FieldType.array Jvm.ClassFile.FieldType.byte))).before args0 about1 = true := code_word (m := ⟨34, 5⟩) (meth := k34m5) (c := k34c5) (by decide +kernel) rfl rfl rfl (by decide +kernel)
set_option maxRecDepth 65536 in
theorem w_c59 : (Jvm.Cond.code ({ cls := sn7, name := "length", desc := "()I" } : Jvm.MethodName) jdk_67_method_93_code (1 : Nat) (Option.some Jvm.ClassFile.FieldType.int)).before args0 about1 = true := code_word (m := ⟨35, 3⟩) (meth := k35m3) (c := k35c3) (by decide +kernel) rfl rfl rfl (by decide +kernel)
set_option maxRecDepth 65536 in
theorem w_c60 : (Jvm.Cond.code ({ cls := sn1, name := "length", desc := "()I" } : Jvm.MethodName) jdk_68_method_6_code (1 : Nat) (Option.some Jvm.ClassFile.FieldType.int)).before args0 about1 = true := code_word (m := ⟨34, 2⟩) (meth := k34m2) (c := k34c2) (by decide +kernel) rfl rfl rfl (by decide +kernel)
set_option maxRecDepth 65536 in
theorem w_c61 : (Jvm.Cond.code ({ cls := sn1, name := "isLatin1", desc := "()Z" } : Jvm.MethodName) jdk_68_method_68_code (1 : Nat) (Option.some Jvm.ClassFile.FieldType.boolean)).before args0 about1 = true := code_word (m := ⟨34, 6⟩) (meth := k34m6) (c := k34c6) (by decide +kernel) rfl rfl rfl (by decide +kernel)
set_option maxRecDepth 65536 in
theorem w_c62 : (Jvm.Cond.code ({ cls := "java/util/Arrays", name := "copyOfRange", desc := "([BII)[B" } : Jvm.MethodName) jdk_65_method_132_code (3 : Nat) (Option.some (Jvm.ClassFile.FieldType.array Jvm.ClassFile.FieldType.byte))).before args0 about1 = true := code_word (m := ⟨27, 4⟩) (meth := k27m4) (c := k27c4) (by decide +kernel) rfl rfl rfl (by decide +kernel)
set_option maxRecDepth 65536 in
theorem w_c63 : (Jvm.Cond.code ({ cls := "java/util/Arrays", name := "copyOfRangeByte", desc := "([BII)[B" } : Jvm.MethodName) jdk_65_method_133_code (5 : Nat) (Option.some (Jvm.ClassFile.FieldType.array Jvm.ClassFile.FieldType.byte))).before args0 about1 = true := code_word (m := ⟨27, 5⟩) (meth := k27m5) (c := k27c5) (by decide +kernel) rfl rfl rfl (by decide +kernel)
set_option maxRecDepth 65536 in
theorem w_c64 : (Jvm.Cond.code ({ cls := "java/util/Arrays", name := "checkLength", desc := "(II)V" } : Jvm.MethodName) jdk_65_method_131_code (2 : Nat) (Option.none : Option Jvm.ClassFile.FieldType)).before args0 about1 = true := code_word (m := ⟨27, 3⟩) (meth := k27m3) (c := k27c3) (by decide +kernel) rfl rfl rfl (by decide +kernel)
set_option maxRecDepth 65536 in
theorem w_c65 : (Jvm.Cond.code ({ cls := sn0, name := "lines", desc := "()Ljava/util/List;" } : Jvm.MethodName) prog_6_method_9_code (1 : Nat) (Option.some (Jvm.ClassFile.FieldType.object "java/util/List"))).before args0 about1 = true := code_word (m := ⟨21, 3⟩) (meth := k21m3) (c := k21c3) (by decide +kernel) rfl rfl rfl (by decide +kernel)
set_option maxRecDepth 65536 in
theorem w_c66 : (Jvm.Cond.code ({ cls := sn2, name := "same", desc := sn32 } : Jvm.MethodName) method_6_code (3 : Nat) (Option.some Jvm.ClassFile.FieldType.boolean)).before args0 about1 = true := code_word (m := ⟨1, 5⟩) (meth := k1m5) (c := k1c5) (by decide +kernel) rfl rfl rfl (by decide +kernel)
set_option maxRecDepth 65536 in
theorem w_c67 : (Jvm.Cond.code ({ cls := "java/util/ArrayList", name := "size", desc := "()I" } : Jvm.MethodName) jdk_38_method_8_code (1 : Nat) (Option.some Jvm.ClassFile.FieldType.int)).before args0 about1 = true := code_word (m := ⟨18, 3⟩) (meth := k18m3) (c := k18c3) (by decide +kernel) rfl rfl rfl (by decide +kernel)
set_option maxRecDepth 65536 in
theorem w_c68 : (Jvm.Cond.code ({ cls := "java/util/ArrayList", name := "get", desc := sn9 } : Jvm.MethodName) jdk_38_method_20_code (2 : Nat) (Option.some (Jvm.ClassFile.FieldType.object "java/lang/Object"))).before args0 about1 = true := code_word (m := ⟨18, 7⟩) (meth := k18m7) (c := k18c7) (by decide +kernel) rfl rfl rfl (by decide +kernel)
set_option maxRecDepth 65536 in
theorem w_c69 : (Jvm.Cond.code ({ cls := "java/util/Objects", name := "checkIndex", desc := "(II)I" } : Jvm.MethodName) jdk_31_method_17_code (2 : Nat) (Option.some Jvm.ClassFile.FieldType.int)).before args0 about1 = true := code_word (m := ⟨29, 2⟩) (meth := k29m2) (c := k29c2) (by decide +kernel) rfl rfl rfl (by decide +kernel)
set_option maxRecDepth 65536 in
theorem w_c70 : (Jvm.Cond.code ({ cls := sn36, name := "checkIndex", desc := sn33 } : Jvm.MethodName) jdk_41_method_11_code (3 : Nat) (Option.some Jvm.ClassFile.FieldType.int)).before args0 about1 = true := code_word (m := ⟨36, 1⟩) (meth := k36m1) (c := k36c1) (by decide +kernel) rfl rfl rfl (by decide +kernel)
set_option maxRecDepth 65536 in
theorem w_c71 : (Jvm.Cond.code ({ cls := "java/util/ArrayList", name := "elementData", desc := sn9 } : Jvm.MethodName) jdk_38_method_18_code (2 : Nat) (Option.some (Jvm.ClassFile.FieldType.object "java/lang/Object"))).before args0 about1 = true := code_word (m := ⟨18, 6⟩) (meth := k18m6) (c := k18c6) (by decide +kernel) rfl rfl rfl (by decide +kernel)
set_option maxRecDepth 65536 in
theorem w_c72 : (Jvm.Cond.code ({ cls := "java/util/List", name := "of", desc := "()Ljava/util/List;" } : Jvm.MethodName) jdk_40_method_36_code (0 : Nat) (Option.some (Jvm.ClassFile.FieldType.object "java/util/List"))).before args0 about1 = true := code_word (m := ⟨14, 4⟩) (meth := k14m4) (c := k14c4) (by decide +kernel) rfl rfl rfl (by decide +kernel)
set_option maxRecDepth 65536 in
theorem w_c73 : (Jvm.Cond.code ({ cls := sn5, name := "size", desc := "()I" } : Jvm.MethodName) jdk_45_method_3_code (1 : Nat) (Option.some Jvm.ClassFile.FieldType.int)).before args0 about1 = true := code_word (m := ⟨26, 1⟩) (meth := k26m1) (c := k26c1) (by decide +kernel) rfl rfl rfl (by decide +kernel)
set_option maxRecDepth 65536 in
theorem w_c74 : (Jvm.Cond.code ({ cls := "java/lang/String", name := "startsWith", desc := sn26 } : Jvm.MethodName) jdk_42_method_76_code (2 : Nat) (Option.some Jvm.ClassFile.FieldType.boolean)).before args0 about1 = true := code_word (m := ⟨7, 6⟩) (meth := k7m6) (c := k7c6) (by decide +kernel) rfl rfl rfl (by decide +kernel)
set_option maxRecDepth 65536 in
theorem w_c75 : (Jvm.Cond.code ({ cls := "java/lang/String", name := "startsWith", desc := sn41 } : Jvm.MethodName) jdk_42_method_75_code (8 : Nat) (Option.some Jvm.ClassFile.FieldType.boolean)).before args0 about1 = true := code_word (m := ⟨7, 5⟩) (meth := k7m5) (c := k7c5) (by decide +kernel) rfl rfl rfl (by decide +kernel)
set_option maxRecDepth 65536 in
theorem w_c76 : (Jvm.Cond.code ({ cls := sn8, name := "listFromArray", desc := sn14 } : Jvm.MethodName) jdk_56_method_4_code (3 : Nat) (Option.some (Jvm.ClassFile.FieldType.object "java/util/List"))).before args0 about1 = true := code_word (m := ⟨22, 2⟩) (meth := k22m2) (c := k22c2) (by decide +kernel) rfl rfl rfl (by decide +kernel)
set_option maxRecDepth 65536 in
theorem w_c77 : (Jvm.Cond.code ({ cls := sn5, name := "<init>", desc := sn46 } : Jvm.MethodName) jdk_45_method_1_code (3 : Nat) (Option.none : Option Jvm.ClassFile.FieldType)).before args0 about1 = true := code_word (m := ⟨26, 0⟩) (meth := k26m0) (c := k26c0) (by decide +kernel) rfl rfl rfl (by decide +kernel)
set_option maxRecDepth 65536 in
theorem w_c78 : (Jvm.Cond.code ({ cls := sn5, name := "get", desc := sn9 } : Jvm.MethodName) jdk_45_method_4_code (2 : Nat) (Option.some (Jvm.ClassFile.FieldType.object "java/lang/Object"))).before args0 about1 = true := code_word (m := ⟨26, 2⟩) (meth := k26m2) (c := k26c2) (by decide +kernel) rfl rfl rfl (by decide +kernel)
set_option maxRecDepth 65536 in
theorem w_c79 : (Jvm.Cond.code ({ cls := sn37, name := "mismatch", desc := "([BI[BII)I" } : Jvm.MethodName) jdk_48_method_14_code (8 : Nat) (Option.some Jvm.ClassFile.FieldType.int)).before args0 about1 = true := code_word (m := ⟨37, 1⟩) (meth := k37m1) (c := k37c1) (by decide +kernel) rfl rfl rfl (by decide +kernel)
set_option maxRecDepth 65536 in
theorem w_c80 : (Jvm.Cond.code ({ cls := sn3, name := "<init>", desc := sn30 } : Jvm.MethodName) jdk_44_method_2_code (3 : Nat) (Option.none : Option Jvm.ClassFile.FieldType)).before args0 about1 = true := code_word (m := ⟨25, 1⟩) (meth := k25m1) (c := k25c1) (by decide +kernel) rfl rfl rfl (by decide +kernel)
def codes1 : List Jvm.Cond := [Jvm.Cond.code x code maxLocals ret, Jvm.Cond.code ({ cls := sn2, name := "line", desc := sn52 } : Jvm.MethodName) method_3_code (2 : Nat) (Option.some (Jvm.ClassFile.FieldType.object "java/lang/String")), Jvm.Cond.code ({ cls := "java/lang/String", name := "<init>", desc := "([C)V" } : Jvm.MethodName) jdk_42_method_3_code (2 : Nat) (Option.none : Option Jvm.ClassFile.FieldType), Jvm.Cond.code ({ cls := "java/lang/String", name := "<init>", desc := sn50 } : Jvm.MethodName) jdk_42_method_149_code (6 : Nat) (Option.none : Option Jvm.ClassFile.FieldType), Jvm.Cond.code ({ cls := "java/lang/Object", name := "<init>", desc := "()V" } : Jvm.MethodName) object_method_1_code (1 : Nat) (Option.none : Option Jvm.ClassFile.FieldType), Jvm.Cond.code ({ cls := sn21, name := "compress", desc := "([CII)[B" } : Jvm.MethodName) jdk_52_method_16_code (6 : Nat) (Option.some (Jvm.ClassFile.FieldType.array Jvm.ClassFile.FieldType.byte)), Jvm.Cond.code ({ cls := sn21, name := "compress", desc := "([CI[BII)I" } : Jvm.MethodName) jdk_52_method_21_code (7 : Nat) (Option.some Jvm.ClassFile.FieldType.int), Jvm.Cond.code ({ cls := sn21, name := "coderFromArrayLen", desc := "([BI)B" } : Jvm.MethodName) jdk_52_method_15_code (2 : Nat) (Option.some Jvm.ClassFile.FieldType.byte), Jvm.Cond.code ({ cls := "java/lang/String", name := "valueOf", desc := sn48 } : Jvm.MethodName) jdk_42_method_139_code (1 : Nat) (Option.some (Jvm.ClassFile.FieldType.object "java/lang/String")), Jvm.Cond.code ({ cls := sn20, name := "canEncode", desc := "(C)Z" } : Jvm.MethodName) jdk_43_method_3_code (1 : Nat) (Option.some Jvm.ClassFile.FieldType.boolean), Jvm.Cond.code ({ cls := sn20, name := "toBytes", desc := "(C)[B" } : Jvm.MethodName) jdk_43_method_46_code (1 : Nat) (Option.some (Jvm.ClassFile.FieldType.array Jvm.ClassFile.FieldType.byte)), Jvm.Cond.code ({ cls := "java/lang/String", name := "<init>", desc := "([BB)V" } : Jvm.MethodName) jdk_42_method_151_code (3 : Nat) (Option.none : Option Jvm.ClassFile.FieldType), Jvm.Cond.code ({ cls := "java/util/ArrayList", name := "<init>", desc := "()V" } : Jvm.MethodName) jdk_38_method_2_code (1 : Nat) (Option.none : Option Jvm.ClassFile.FieldType), Jvm.Cond.code ({ cls := sn27, name := "<init>", desc := "()V" } : Jvm.MethodName) jdk_39_method_1_code (1 : Nat) (Option.none : Option Jvm.ClassFile.FieldType), Jvm.Cond.code ({ cls := sn22, name := "<init>", desc := "()V" } : Jvm.MethodName) jdk_22_method_1_code (1 : Nat) (Option.none : Option Jvm.ClassFile.FieldType), Jvm.Cond.code ({ cls := "java/util/ArrayList", name := "add", desc := sn11 } : Jvm.MethodName) jdk_38_method_25_code (2 : Nat) (Option.some Jvm.ClassFile.FieldType.boolean), Jvm.Cond.code ({ cls := "java/util/ArrayList", name := "add", desc := sn28 } : Jvm.MethodName) jdk_38_method_24_code (4 : Nat) (Option.none : Option Jvm.ClassFile.FieldType), Jvm.Cond.code ({ cls := "java/util/ArrayList", name := "grow", desc := sn17 } : Jvm.MethodName) jdk_38_method_7_code (1 : Nat) (Option.some (Jvm.ClassFile.FieldType.array (Jvm.ClassFile.FieldType.object "java/lang/Object"))), Jvm.Cond.code ({ cls := "java/util/ArrayList", name := "grow", desc := sn47 } : Jvm.MethodName) jdk_38_method_6_code (4 : Nat) (Option.some (Jvm.ClassFile.FieldType.array (Jvm.ClassFile.FieldType.object "java/lang/Object"))), Jvm.Cond.code ({ cls := "java/lang/Math", name := "max", desc := "(II)I" } : Jvm.MethodName) jdk_29_method_65_code (2 : Nat) (Option.some Jvm.ClassFile.FieldType.int), Jvm.Cond.code ({ cls := sn2, name := "isDataKind", desc := "(IC)Z" } : Jvm.MethodName) method_4_code (2 : Nat) (Option.some Jvm.ClassFile.FieldType.boolean), Jvm.Cond.code ({ cls := sn2, name := "expect", desc := sn16 } : Jvm.MethodName) method_5_code (5 : Nat) (Option.some Jvm.ClassFile.FieldType.boolean), Jvm.Cond.code ({ cls := sn0, name := "<init>", desc := "(Ljava/util/List;)V" } : Jvm.MethodName) prog_6_method_1_code (2 : Nat) (Option.none : Option Jvm.ClassFile.FieldType), Jvm.Cond.code ({ cls := "java/lang/Record", name := "<init>", desc := "()V" } : Jvm.MethodName) jdk_30_method_1_code (1 : Nat) (Option.none : Option Jvm.ClassFile.FieldType), Jvm.Cond.code ({ cls := "java/util/List", name := "copyOf", desc := sn12 } : Jvm.MethodName) jdk_40_method_48_code (1 : Nat) (Option.some (Jvm.ClassFile.FieldType.object "java/util/List")), Jvm.Cond.code ({ cls := sn8, name := "listCopy", desc := sn12 } : Jvm.MethodName) jdk_56_method_3_code (2 : Nat) (Option.some (Jvm.ClassFile.FieldType.object "java/util/List")), Jvm.Cond.code ({ cls := "java/util/ArrayList", name := "isEmpty", desc := "()Z" } : Jvm.MethodName) jdk_38_method_9_code (1 : Nat) (Option.some Jvm.ClassFile.FieldType.boolean), Jvm.Cond.code ({ cls := "java/util/ArrayList", name := "toArray", desc := sn17 } : Jvm.MethodName) jdk_38_method_16_code (1 : Nat) (Option.some (Jvm.ClassFile.FieldType.array (Jvm.ClassFile.FieldType.object "java/lang/Object"))), Jvm.Cond.code ({ cls := "java/util/Arrays", name := "copyOf", desc := sn29 } : Jvm.MethodName) jdk_65_method_119_code (2 : Nat) (Option.some (Jvm.ClassFile.FieldType.array (Jvm.ClassFile.FieldType.object "java/lang/Object"))), Jvm.Cond.code ({ cls := "java/util/Arrays", name := "copyOf", desc := sn19 } : Jvm.MethodName) jdk_65_method_120_code (4 : Nat) (Option.some (Jvm.ClassFile.FieldType.array (Jvm.ClassFile.FieldType.object "java/lang/Object"))), Jvm.Cond.code ({ cls := "java/lang/Math", name := "min", desc := "(II)I" } : Jvm.MethodName) jdk_29_method_69_code (2 : Nat) (Option.some Jvm.ClassFile.FieldType.int), Jvm.Cond.code ({ cls := "java/util/List", name := "of", desc := sn14 } : Jvm.MethodName) jdk_40_method_47_code (2 : Nat) (Option.some (Jvm.ClassFile.FieldType.object "java/util/List")), Jvm.Cond.code ({ cls := sn3, name := "<init>", desc := sn49 } : Jvm.MethodName) jdk_44_method_1_code (2 : Nat) (Option.none : Option Jvm.ClassFile.FieldType), Jvm.Cond.code ({ cls := sn6, name := "<init>", desc := "()V" } : Jvm.MethodName) jdk_46_method_1_code (1 : Nat) (Option.none : Option Jvm.ClassFile.FieldType), Jvm.Cond.code ({ cls := sn13, name := "<init>", desc := "()V" } : Jvm.MethodName) jdk_47_method_1_code (1 : Nat) (Option.none : Option Jvm.ClassFile.FieldType), Jvm.Cond.code ({ cls := "java/util/Objects", name := "requireNonNull", desc := sn25 } : Jvm.MethodName) jdk_31_method_10_code (1 : Nat) (Option.some (Jvm.ClassFile.FieldType.object "java/lang/Object")), Jvm.Cond.code ({ cls := sn0, name := "withData", desc := sn10 } : Jvm.MethodName) prog_6_method_3_code (6 : Nat) (Option.some (Jvm.ClassFile.FieldType.object sn0)), Jvm.Cond.code ({ cls := sn6, name := "iterator", desc := sn24 } : Jvm.MethodName) jdk_46_method_10_code (1 : Nat) (Option.some (Jvm.ClassFile.FieldType.object "java/util/Iterator")), Jvm.Cond.code ({ cls := sn3, name := "size", desc := "()I" } : Jvm.MethodName) jdk_44_method_3_code (1 : Nat) (Option.some Jvm.ClassFile.FieldType.int), Jvm.Cond.code ({ cls := sn4, name := "<init>", desc := sn51 } : Jvm.MethodName) jdk_53_method_1_code (3 : Nat) (Option.none : Option Jvm.ClassFile.FieldType), Jvm.Cond.code ({ cls := sn4, name := "hasNext", desc := "()Z" } : Jvm.MethodName) jdk_53_method_3_code (1 : Nat) (Option.some Jvm.ClassFile.FieldType.boolean), Jvm.Cond.code ({ cls := sn3, name := "get", desc := sn9 } : Jvm.MethodName) jdk_44_method_5_code (2 : Nat) (Option.some (Jvm.ClassFile.FieldType.object "java/lang/Object")), Jvm.Cond.code ({ cls := sn0, name := "isData", desc := sn26 } : Jvm.MethodName) prog_6_method_5_code (1 : Nat) (Option.some Jvm.ClassFile.FieldType.boolean), Jvm.Cond.code ({ cls := "java/lang/String", name := "equals", desc := sn11 } : Jvm.MethodName) jdk_42_method_66_code (3 : Nat) (Option.some Jvm.ClassFile.FieldType.boolean), Jvm.Cond.code ({ cls := sn20, name := "equals", desc := "([B[B)Z" } : Jvm.MethodName) jdk_43_method_13_code (3 : Nat) (Option.some Jvm.ClassFile.FieldType.boolean), Jvm.Cond.code ({ cls := sn7, name := "<init>", desc := "()V" } : Jvm.MethodName) jdk_67_method_1_code (1 : Nat) (Option.none : Option Jvm.ClassFile.FieldType), Jvm.Cond.code ({ cls := sn1, name := "<init>", desc := "(I)V" } : Jvm.MethodName) jdk_68_method_2_code (2 : Nat) (Option.none : Option Jvm.ClassFile.FieldType), Jvm.Cond.code ({ cls := sn7, name := "append", desc := sn15 } : Jvm.MethodName) jdk_67_method_7_code (2 : Nat) (Option.some (Jvm.ClassFile.FieldType.object sn7)), Jvm.Cond.code ({ cls := sn1, name := "append", desc := sn18 } : Jvm.MethodName) jdk_68_method_22_code (3 : Nat) (Option.some (Jvm.ClassFile.FieldType.object sn1)), Jvm.Cond.code ({ cls := "java/lang/String", name := "length", desc := "()I" } : Jvm.MethodName) jdk_42_method_54_code (1 : Nat) (Option.some Jvm.ClassFile.FieldType.int), Jvm.Cond.code ({ cls := "java/lang/String", name := "coder", desc := "()B" } : Jvm.MethodName) jdk_42_method_152_code (1 : Nat) (Option.some Jvm.ClassFile.FieldType.byte), Jvm.Cond.code ({ cls := sn1, name := sn44, desc := "(I)V" } : Jvm.MethodName) jdk_68_method_9_code (3 : Nat) (Option.none : Option Jvm.ClassFile.FieldType), Jvm.Cond.code ({ cls := sn1, name := "putStringAt", desc := sn40 } : Jvm.MethodName) jdk_68_method_73_code (3 : Nat) (Option.none : Option Jvm.ClassFile.FieldType), Jvm.Cond.code ({ cls := sn1, name := "inflateIfNeededFor", desc := sn43 } : Jvm.MethodName) jdk_68_method_71_code (2 : Nat) (Option.none : Option Jvm.ClassFile.FieldType), Jvm.Cond.code ({ cls := "java/lang/String", name := "getBytes", desc := "([BIB)V" } : Jvm.MethodName) jdk_42_method_147_code (4 : Nat) (Option.none : Option Jvm.ClassFile.FieldType), Jvm.Cond.code ({ cls := sn7, name := "toString", desc := sn42 } : Jvm.MethodName) jdk_67_method_42_code (1 : Nat) (Option.some (Jvm.ClassFile.FieldType.object "java/lang/String")), Jvm.Cond.code ({ cls := "java/lang/String", name := "<init>", desc := sn39 } : Jvm.MethodName) jdk_42_method_53_code (2 : Nat) (Option.none : Option Jvm.ClassFile.FieldType), Jvm.Cond.code ({ cls := "java/lang/String", name := "<init>", desc := sn23 } : Jvm.MethodName) jdk_42_method_150_code (5 : Nat) (Option.none : Option Jvm.ClassFile.FieldType), Jvm.Cond.code ({ cls := sn1, name := "getValue", desc := "()[B" } : Jvm.MethodName) jdk_68_method_64_code (1 : Nat) (Option.some (Jvm.ClassFile.FieldType.array Jvm.ClassFile.FieldType.byte)), Jvm.Cond.code ({ cls := sn7, name := "length", desc := "()I" } : Jvm.MethodName) jdk_67_method_93_code (1 : Nat) (Option.some Jvm.ClassFile.FieldType.int), Jvm.Cond.code ({ cls := sn1, name := "length", desc := "()I" } : Jvm.MethodName) jdk_68_method_6_code (1 : Nat) (Option.some Jvm.ClassFile.FieldType.int), Jvm.Cond.code ({ cls := sn1, name := "isLatin1", desc := "()Z" } : Jvm.MethodName) jdk_68_method_68_code (1 : Nat) (Option.some Jvm.ClassFile.FieldType.boolean), Jvm.Cond.code ({ cls := "java/util/Arrays", name := "copyOfRange", desc := "([BII)[B" } : Jvm.MethodName) jdk_65_method_132_code (3 : Nat) (Option.some (Jvm.ClassFile.FieldType.array Jvm.ClassFile.FieldType.byte)), Jvm.Cond.code ({ cls := "java/util/Arrays", name := "copyOfRangeByte", desc := "([BII)[B" } : Jvm.MethodName) jdk_65_method_133_code (5 : Nat) (Option.some (Jvm.ClassFile.FieldType.array Jvm.ClassFile.FieldType.byte)), Jvm.Cond.code ({ cls := "java/util/Arrays", name := "checkLength", desc := "(II)V" } : Jvm.MethodName) jdk_65_method_131_code (2 : Nat) (Option.none : Option Jvm.ClassFile.FieldType), Jvm.Cond.code ({ cls := sn0, name := "lines", desc := "()Ljava/util/List;" } : Jvm.MethodName) prog_6_method_9_code (1 : Nat) (Option.some (Jvm.ClassFile.FieldType.object "java/util/List")), Jvm.Cond.code ({ cls := sn2, name := "same", desc := sn32 } : Jvm.MethodName) method_6_code (3 : Nat) (Option.some Jvm.ClassFile.FieldType.boolean), Jvm.Cond.code ({ cls := "java/util/ArrayList", name := "size", desc := "()I" } : Jvm.MethodName) jdk_38_method_8_code (1 : Nat) (Option.some Jvm.ClassFile.FieldType.int), Jvm.Cond.code ({ cls := "java/util/ArrayList", name := "get", desc := sn9 } : Jvm.MethodName) jdk_38_method_20_code (2 : Nat) (Option.some (Jvm.ClassFile.FieldType.object "java/lang/Object")), Jvm.Cond.code ({ cls := "java/util/Objects", name := "checkIndex", desc := "(II)I" } : Jvm.MethodName) jdk_31_method_17_code (2 : Nat) (Option.some Jvm.ClassFile.FieldType.int), Jvm.Cond.code ({ cls := sn36, name := "checkIndex", desc := sn33 } : Jvm.MethodName) jdk_41_method_11_code (3 : Nat) (Option.some Jvm.ClassFile.FieldType.int), Jvm.Cond.code ({ cls := "java/util/ArrayList", name := "elementData", desc := sn9 } : Jvm.MethodName) jdk_38_method_18_code (2 : Nat) (Option.some (Jvm.ClassFile.FieldType.object "java/lang/Object")), Jvm.Cond.code ({ cls := "java/util/List", name := "of", desc := "()Ljava/util/List;" } : Jvm.MethodName) jdk_40_method_36_code (0 : Nat) (Option.some (Jvm.ClassFile.FieldType.object "java/util/List")), Jvm.Cond.code ({ cls := sn5, name := "size", desc := "()I" } : Jvm.MethodName) jdk_45_method_3_code (1 : Nat) (Option.some Jvm.ClassFile.FieldType.int), Jvm.Cond.code ({ cls := "java/lang/String", name := "startsWith", desc := sn26 } : Jvm.MethodName) jdk_42_method_76_code (2 : Nat) (Option.some Jvm.ClassFile.FieldType.boolean), Jvm.Cond.code ({ cls := "java/lang/String", name := "startsWith", desc := sn41 } : Jvm.MethodName) jdk_42_method_75_code (8 : Nat) (Option.some Jvm.ClassFile.FieldType.boolean), Jvm.Cond.code ({ cls := sn8, name := "listFromArray", desc := sn14 } : Jvm.MethodName) jdk_56_method_4_code (3 : Nat) (Option.some (Jvm.ClassFile.FieldType.object "java/util/List")), Jvm.Cond.code ({ cls := sn5, name := "<init>", desc := sn46 } : Jvm.MethodName) jdk_45_method_1_code (3 : Nat) (Option.none : Option Jvm.ClassFile.FieldType), Jvm.Cond.code ({ cls := sn5, name := "get", desc := sn9 } : Jvm.MethodName) jdk_45_method_4_code (2 : Nat) (Option.some (Jvm.ClassFile.FieldType.object "java/lang/Object")), Jvm.Cond.code ({ cls := sn37, name := "mismatch", desc := "([BI[BII)I" } : Jvm.MethodName) jdk_48_method_14_code (8 : Nat) (Option.some Jvm.ClassFile.FieldType.int), Jvm.Cond.code ({ cls := sn3, name := "<init>", desc := sn30 } : Jvm.MethodName) jdk_44_method_2_code (3 : Nat) (Option.none : Option Jvm.ClassFile.FieldType)]
set_option maxRecDepth 65536 in
theorem codes_eq : words1.filter isCode = codes1 := rfl
theorem w_codes : ∀ c ∈ words1.filter isCode, c.before args0 about1 = true := by
  rw [codes_eq]
  intro c hc
  simp only [codes1, List.mem_cons, List.not_mem_nil, or_false] at hc
  rcases hc with rfl | rfl | rfl | rfl | rfl | rfl | rfl | rfl | rfl | rfl | rfl | rfl | rfl | rfl | rfl | rfl | rfl | rfl | rfl | rfl | rfl | rfl | rfl | rfl | rfl | rfl | rfl | rfl | rfl | rfl | rfl | rfl | rfl | rfl | rfl | rfl | rfl | rfl | rfl | rfl | rfl | rfl | rfl | rfl | rfl | rfl | rfl | rfl | rfl | rfl | rfl | rfl | rfl | rfl | rfl | rfl | rfl | rfl | rfl | rfl | rfl | rfl | rfl | rfl | rfl | rfl | rfl | rfl | rfl | rfl | rfl | rfl | rfl | rfl | rfl | rfl | rfl | rfl | rfl | rfl | rfl
  · exact w_c0
  · exact w_c1
  · exact w_c2
  · exact w_c3
  · exact w_c4
  · exact w_c5
  · exact w_c6
  · exact w_c7
  · exact w_c8
  · exact w_c9
  · exact w_c10
  · exact w_c11
  · exact w_c12
  · exact w_c13
  · exact w_c14
  · exact w_c15
  · exact w_c16
  · exact w_c17
  · exact w_c18
  · exact w_c19
  · exact w_c20
  · exact w_c21
  · exact w_c22
  · exact w_c23
  · exact w_c24
  · exact w_c25
  · exact w_c26
  · exact w_c27
  · exact w_c28
  · exact w_c29
  · exact w_c30
  · exact w_c31
  · exact w_c32
  · exact w_c33
  · exact w_c34
  · exact w_c35
  · exact w_c36
  · exact w_c37
  · exact w_c38
  · exact w_c39
  · exact w_c40
  · exact w_c41
  · exact w_c42
  · exact w_c43
  · exact w_c44
  · exact w_c45
  · exact w_c46
  · exact w_c47
  · exact w_c48
  · exact w_c49
  · exact w_c50
  · exact w_c51
  · exact w_c52
  · exact w_c53
  · exact w_c54
  · exact w_c55
  · exact w_c56
  · exact w_c57
  · exact w_c58
  · exact w_c59
  · exact w_c60
  · exact w_c61
  · exact w_c62
  · exact w_c63
  · exact w_c64
  · exact w_c65
  · exact w_c66
  · exact w_c67
  · exact w_c68
  · exact w_c69
  · exact w_c70
  · exact w_c71
  · exact w_c72
  · exact w_c73
  · exact w_c74
  · exact w_c75
  · exact w_c76
  · exact w_c77
  · exact w_c78
  · exact w_c79
  · exact w_c80
set_option maxRecDepth 65536 in
theorem w_t1 : (words1.take 24).all (fun c => isCode c || c.before args0 about1) = true := by decide +kernel
set_option maxRecDepth 65536 in
theorem w_t2 : ((words1.drop 24).take 24).all (fun c => isCode c || c.before args0 about1) = true := by decide +kernel
set_option maxRecDepth 65536 in
theorem w_t3 : (((words1.drop 24).drop 24).take 24).all (fun c => isCode c || c.before args0 about1) = true := by decide +kernel
set_option maxRecDepth 65536 in
theorem w_t4 : ((((words1.drop 24).drop 24).drop 24).take 24).all (fun c => isCode c || c.before args0 about1) = true := by decide +kernel
set_option maxRecDepth 65536 in
theorem w_t5 : (((((words1.drop 24).drop 24).drop 24).drop 24).take 24).all (fun c => isCode c || c.before args0 about1) = true := by decide +kernel
set_option maxRecDepth 65536 in
theorem w_t6 : ((((((words1.drop 24).drop 24).drop 24).drop 24).drop 24).take 24).all (fun c => isCode c || c.before args0 about1) = true := by decide +kernel
set_option maxRecDepth 65536 in
theorem w_t7 : (((((((words1.drop 24).drop 24).drop 24).drop 24).drop 24).drop 24).take 24).all (fun c => isCode c || c.before args0 about1) = true := by decide +kernel
set_option maxRecDepth 65536 in
theorem w_t8 : ((((((((words1.drop 24).drop 24).drop 24).drop 24).drop 24).drop 24).drop 24).take 24).all (fun c => isCode c || c.before args0 about1) = true := by decide +kernel
set_option maxRecDepth 65536 in
theorem w_t9 : (((((((((words1.drop 24).drop 24).drop 24).drop 24).drop 24).drop 24).drop 24).drop 24).take 24).all (fun c => isCode c || c.before args0 about1) = true := by decide +kernel
set_option maxRecDepth 65536 in
theorem w_t10 : ((((((((((words1.drop 24).drop 24).drop 24).drop 24).drop 24).drop 24).drop 24).drop 24).drop 24).take 24).all (fun c => isCode c || c.before args0 about1) = true := by decide +kernel
set_option maxRecDepth 65536 in
theorem w_t11 : (((((((((((words1.drop 24).drop 24).drop 24).drop 24).drop 24).drop 24).drop 24).drop 24).drop 24).drop 24).take 24).all (fun c => isCode c || c.before args0 about1) = true := by decide +kernel
set_option maxRecDepth 65536 in
theorem w_t12 : ((((((((((((words1.drop 24).drop 24).drop 24).drop 24).drop 24).drop 24).drop 24).drop 24).drop 24).drop 24).drop 24).take 24).all (fun c => isCode c || c.before args0 about1) = true := by decide +kernel
set_option maxRecDepth 65536 in
theorem w_t13 : (((((((((((((words1.drop 24).drop 24).drop 24).drop 24).drop 24).drop 24).drop 24).drop 24).drop 24).drop 24).drop 24).drop 24).take 24).all (fun c => isCode c || c.before args0 about1) = true := by decide +kernel
set_option maxRecDepth 65536 in
theorem w_t14 : ((((((((((((((words1.drop 24).drop 24).drop 24).drop 24).drop 24).drop 24).drop 24).drop 24).drop 24).drop 24).drop 24).drop 24).drop 24).take 24).all (fun c => isCode c || c.before args0 about1) = true := by decide +kernel
set_option maxRecDepth 65536 in
theorem w_t15 : (((((((((((((((words1.drop 24).drop 24).drop 24).drop 24).drop 24).drop 24).drop 24).drop 24).drop 24).drop 24).drop 24).drop 24).drop 24).drop 24).take 24).all (fun c => isCode c || c.before args0 about1) = true := by decide +kernel
set_option maxRecDepth 65536 in
theorem w_t16 : ((((((((((((((((words1.drop 24).drop 24).drop 24).drop 24).drop 24).drop 24).drop 24).drop 24).drop 24).drop 24).drop 24).drop 24).drop 24).drop 24).drop 24).take 24).all (fun c => isCode c || c.before args0 about1) = true := by decide +kernel
set_option maxRecDepth 65536 in
theorem w_t17 : (((((((((((((((((words1.drop 24).drop 24).drop 24).drop 24).drop 24).drop 24).drop 24).drop 24).drop 24).drop 24).drop 24).drop 24).drop 24).drop 24).drop 24).drop 24).take 24).all (fun c => isCode c || c.before args0 about1) = true := by decide +kernel
set_option maxRecDepth 65536 in
theorem w_t18 : ((((((((((((((((((words1.drop 24).drop 24).drop 24).drop 24).drop 24).drop 24).drop 24).drop 24).drop 24).drop 24).drop 24).drop 24).drop 24).drop 24).drop 24).drop 24).drop 24).take 24).all (fun c => isCode c || c.before args0 about1) = true := by decide +kernel
set_option maxRecDepth 65536 in
theorem w_t19 : (((((((((((((((((((words1.drop 24).drop 24).drop 24).drop 24).drop 24).drop 24).drop 24).drop 24).drop 24).drop 24).drop 24).drop 24).drop 24).drop 24).drop 24).drop 24).drop 24).drop 24).take 24).all (fun c => isCode c || c.before args0 about1) = true := by decide +kernel
set_option maxRecDepth 65536 in
theorem w_t20 : ((((((((((((((((((((words1.drop 24).drop 24).drop 24).drop 24).drop 24).drop 24).drop 24).drop 24).drop 24).drop 24).drop 24).drop 24).drop 24).drop 24).drop 24).drop 24).drop 24).drop 24).drop 24).take 24).all (fun c => isCode c || c.before args0 about1) = true := by decide +kernel
set_option maxRecDepth 65536 in
theorem w_t21 : ((((((((((((((((((((words1.drop 24).drop 24).drop 24).drop 24).drop 24).drop 24).drop 24).drop 24).drop 24).drop 24).drop 24).drop 24).drop 24).drop 24).drop 24).drop 24).drop 24).drop 24).drop 24).drop 24).all (fun c => isCode c || c.before args0 about1) = true := by decide +kernel
theorem w_tables : (allAtoms (Jvm.Cond.code x code maxLocals ret :: tables_1)).before args0 about1 = true := by
  rw [allAtoms_all]
  show words1.all (fun c => c.before args0 about1) = true
  refine all_split ?_ w_codes
  rw [← List.take_append_drop 24 words1, List.all_append, w_t1, ← List.take_append_drop 24 (words1.drop 24), List.all_append, w_t2, ← List.take_append_drop 24 ((words1.drop 24).drop 24), List.all_append, w_t3, ← List.take_append_drop 24 (((words1.drop 24).drop 24).drop 24), List.all_append, w_t4, ← List.take_append_drop 24 ((((words1.drop 24).drop 24).drop 24).drop 24), List.all_append, w_t5, ← List.take_append_drop 24 (((((words1.drop 24).drop 24).drop 24).drop 24).drop 24), List.all_append, w_t6, ← List.take_append_drop 24 ((((((words1.drop 24).drop 24).drop 24).drop 24).drop 24).drop 24), List.all_append, w_t7, ← List.take_append_drop 24 (((((((words1.drop 24).drop 24).drop 24).drop 24).drop 24).drop 24).drop 24), List.all_append, w_t8, ← List.take_append_drop 24 ((((((((words1.drop 24).drop 24).drop 24).drop 24).drop 24).drop 24).drop 24).drop 24), List.all_append, w_t9, ← List.take_append_drop 24 (((((((((words1.drop 24).drop 24).drop 24).drop 24).drop 24).drop 24).drop 24).drop 24).drop 24), List.all_append, w_t10, ← List.take_append_drop 24 ((((((((((words1.drop 24).drop 24).drop 24).drop 24).drop 24).drop 24).drop 24).drop 24).drop 24).drop 24), List.all_append, w_t11, ← List.take_append_drop 24 (((((((((((words1.drop 24).drop 24).drop 24).drop 24).drop 24).drop 24).drop 24).drop 24).drop 24).drop 24).drop 24), List.all_append, w_t12, ← List.take_append_drop 24 ((((((((((((words1.drop 24).drop 24).drop 24).drop 24).drop 24).drop 24).drop 24).drop 24).drop 24).drop 24).drop 24).drop 24), List.all_append, w_t13, ← List.take_append_drop 24 (((((((((((((words1.drop 24).drop 24).drop 24).drop 24).drop 24).drop 24).drop 24).drop 24).drop 24).drop 24).drop 24).drop 24).drop 24), List.all_append, w_t14, ← List.take_append_drop 24 ((((((((((((((words1.drop 24).drop 24).drop 24).drop 24).drop 24).drop 24).drop 24).drop 24).drop 24).drop 24).drop 24).drop 24).drop 24).drop 24), List.all_append, w_t15, ← List.take_append_drop 24 (((((((((((((((words1.drop 24).drop 24).drop 24).drop 24).drop 24).drop 24).drop 24).drop 24).drop 24).drop 24).drop 24).drop 24).drop 24).drop 24).drop 24), List.all_append, w_t16, ← List.take_append_drop 24 ((((((((((((((((words1.drop 24).drop 24).drop 24).drop 24).drop 24).drop 24).drop 24).drop 24).drop 24).drop 24).drop 24).drop 24).drop 24).drop 24).drop 24).drop 24), List.all_append, w_t17, ← List.take_append_drop 24 (((((((((((((((((words1.drop 24).drop 24).drop 24).drop 24).drop 24).drop 24).drop 24).drop 24).drop 24).drop 24).drop 24).drop 24).drop 24).drop 24).drop 24).drop 24).drop 24), List.all_append, w_t18, ← List.take_append_drop 24 ((((((((((((((((((words1.drop 24).drop 24).drop 24).drop 24).drop 24).drop 24).drop 24).drop 24).drop 24).drop 24).drop 24).drop 24).drop 24).drop 24).drop 24).drop 24).drop 24).drop 24), List.all_append, w_t19, ← List.take_append_drop 24 (((((((((((((((((((words1.drop 24).drop 24).drop 24).drop 24).drop 24).drop 24).drop 24).drop 24).drop 24).drop 24).drop 24).drop 24).drop 24).drop 24).drop 24).drop 24).drop 24).drop 24).drop 24), List.all_append, w_t20, w_t21]
  rfl
set_option maxRecDepth 65536 in
theorem w_rest : rest_1_c.before args0 about1 = true := by decide +kernel
set_option maxRecDepth 65536 in
theorem w_case : (Jvm.Cond.and given_1 narrow_1).before args0 about1 = true := by decide +kernel
set_option maxRecDepth 65536 in
theorem w_consts : constsHeld consts_1 about1 := Jvm.Lit.constsHeldB_iff.mp (by decide +kernel)
theorem w_applies : (headSpec (Jvm.Cond.code x code maxLocals ret :: tables_1) room_1).applies x e0.platform about1 = true :=
  (Spec.applies_iff w_frames).mpr ⟨w_running, w_runnable, w_alone, w_named, w_hears, w_ripe, w_room, w_tables⟩
theorem atStart : AtStart classFile x code maxLocals ret World_1 tables_1 room_1 Calls_1 rest_1 Pre_1 launch0 p0 e0 about1 theMethod args0 below0 :=
  ⟨lists_1, trivial, launch0.admits_env _ _ _, launch0.least_env, fairChoices_fair.cas, fairChoices_fair.clock, w_frames, w_args, w_heap, w_applies, ⟨⟨45, k45, 4, by decide +kernel, rfl, rfl, _, rfl, rfl⟩, ⟨w_consts, trivial⟩⟩, w_rest, w_case⟩
end start1
theorem witness_1 : WitnessClaimed_1 := ⟨start1.p0, start1.e0, start1.about1, start1.theMethod, start1.args0, start1.below0, start1.atStart⟩
end Jvm.Pilot.@@N@@
