import JvmDerived
import JvmDerived.Pilot.@@N@@Statement
import JvmDerived.Pilot.@@N@@Code
set_option linter.unusedVariables false
set_option linter.unusedSimpArgs false
namespace Jvm.OwnW
open Sem ClassFile Op Lib Jvm.Stand Jvm.Free Jvm.LawKit Jvm.RoadKit
/-- what a walk knows of its method and of the run -/
def Cx (p : Program) (s : State) (m : MethodId) (meth : Method) (c : Code) (Z : State) (y : MethodName) (bs : ByteArray) (ml : Nat) (ret : Option FieldType) : Prop :=
  p.tables.exec = Jvm.exec ∧ c.code = bs ∧ c.maxLocals = ml ∧ s.vm.findClass y.cls = some m.cls ∧ meth.name = y.name ∧ meth.sig.returnType = ret ∧ meth.locks = false ∧ Z.Warmed39 s.vm
/-- from the state u the body comes to its end, returns v and leaves the heap as Q says; it wrote cells from n0 on alone -/
def Runs (p : Program) (e : Env) (below : List Frame) (s : State) (R : Room) (n0 : Nat) (Q : Option Value → Heap → Prop) (u : State) : Prop :=
  ∃ s₂ o, Steps p.tables e below u s₂ ∧ s₂.status = .running ∧ Ended s₂ below o ∧ ∃ v Ls, o = .returned v ∧ (Q v s₂.heap ∧ Fr n0 Ls) ∧ FrameEnd s o s₂ Ls R.cells R.slots
/-- from pc with these locals and this stack, the heap being h, k cells and n slots made so far: the body ends as Q says -/
def Go (l : Launch) (Z : State) (R : Room) (y : MethodName) (bs : ByteArray) (ml : Nat) (ret : Option FieldType) (n0 : Nat) (Q : Option Value → Heap → Prop) (h : Heap) (k n : Nat) (pc : Nat) (L : Array Slot) (St : List Value) : Prop :=
  ∀ (p : Program) (e : Env) (s : State) (m : MethodId) (args : Array Value) (below : List Frame) (meth : Method) (c : Code) (T : State) (locs : List Loc),
    Cx p s m meth c Z y bs ml ret → Stand p l e R s m args below meth c T locs k n → Fr n0 locs → T.heap = h → Runs p e below s R n0 Q (T.setTop (mkF m pc L St))
/-- it returns r, the heap as it was -/
def Ret (r : Option Value) (h0 : Heap) : Option Value → Heap → Prop := fun v h => v = r ∧ h0 = h
/-- the law says 1 -/
def One1 : Option Value → Heap → Prop := fun v _ => v = some (.int 1)
/-- the body's contract -/
def Con (l : Launch) (Z : State) (R : Room) (y : MethodName) (bs : ByteArray) (ml : Nat) (ret : Option FieldType) (n0 : Nat) (as' : Array Value) (h : Heap) (Q : Option Value → Heap → Prop) : Prop :=
  ∀ ws, MetFree l y (head1 (Jvm.Cond.code y bs ml ret :: ws) R) (fun a U => a = as' ∧ Z.Warmed39 U.vm ∧ U.heap = h) (fun _ _ _ _ _ => True) (fun _ U o U' => ∃ v Ls, o = .returned v ∧ (Q v U'.heap ∧ Fr n0 Ls) ∧ FrameEnd U o U' Ls R.cells R.slots)
theorem Runs.thru {p : Program} {e : Env} {below : List Frame} {s : State} {R : Room} {n0 : Nat} {Q : Option Value → Heap → Prop} {u u' : State} (q : Runs p e below s R n0 Q u') (st : ∀ t, Steps p.tables e below u' t → Steps p.tables e below u t) : Runs p e below s R n0 Q u := by
  obtain ⟨s₂, o, h1, r⟩ := q
  exact ⟨s₂, o, st _ h1, r⟩
/-- what stood in h0 stands in h -/
theorem ext_refl (h : Heap) : Ext h h := ⟨Nat.le_refl _, fun _ _ q => q⟩
theorem ext_trans {h0 h h' : Heap} (X : Ext h0 h) (E : Ext h h') : Ext h0 h' := ⟨Nat.le_trans X.1 E.1, fun a c q => E.2 a c (X.2 a c q)⟩
theorem ext_keep {h0 h h' : Heap} {ws : List Addr} (X : Ext h0 h) (K : Keep h h' ws) (q : ∀ x ∈ ws, h0.size ≤ x) : Ext h0 h' :=
  ⟨Nat.le_trans X.1 K.1, fun a c r => K.2.1 a c (X.2 a c r) fun z => absurd (Array.getElem?_eq_some_iff.mp r).1 (Nat.not_lt.mpr (q a z))⟩
theorem ext_wr {h0 h h' : Heap} {a : Addr} {sl : Nat} {v : Value} (X : Ext h0 h) (W : Wr h h' a sl v) (q : h0.size ≤ a) : Ext h0 h' := ext_keep X (Keep.of_wr W) (allS q all0)
theorem exa_ns {Z : State} {h : Heap} {a : Addr} {C : String} (E : Exa Z h a C) : ∀ c : Cell, h[a]? = some c → c.vm.isStatics = false := fun c q => by
  obtain ⟨cell, k, h1, -, -, h4, -⟩ := E
  cases h1.symm.trans q
  exact h4
theorem sta_keep {Z : State} {h h' : Heap} {C n d : String} {w : Value} {ws : List Addr} (F : Sta Z h C n d w) (K : Keep h h' ws) (q : ∀ x ∈ ws, ∀ c : Cell, h[x]? = some c → c.vm.isStatics = false) : Sta Z h' C n d w := by
  obtain ⟨cf, i, k, f, st, cell, h1, h2, h3, h4, h5, h6, h7⟩ := F
  exact ⟨cf, i, k, f, st, cell, h1, h2, h3, h4, K.2.1 st cell h5 (fun m => by have r := q st m cell h5; rw [h6] at r; cases r), h6, h7⟩
theorem eqI {args : Array Value} {first s : State} {o : Option Outcome} {idx : List Nat} {a b : Term} {k : Int32} (h : (Cond.eq a b).value args first o s idx = some true) (hb : b.eval args first o idx s = some (.int k)) : a.eval args first o idx s = some (.int k) := by
  obtain ⟨x, z, e1, e2, k1, k2⟩ := cmp_v (Or.inl h)
  cases hb.symm.trans e2
  obtain ⟨w, rfl⟩ := k2
  have h' := h
  simp only [Cond.value, e1, hb, Option.some.injEq, decide_eq_true_eq] at h'
  rw [e1, h']
theorem eqJ {args : Array Value} {first s : State} {o : Option Outcome} {idx : List Nat} {a b : Term} {k : Int64} (h : (Cond.eq a b).value args first o s idx = some true) (hb : b.eval args first o idx s = some (.long k)) : a.eval args first o idx s = some (.long k) := by
  obtain ⟨x, z, e1, e2, k1, k2⟩ := cmp_v (Or.inl h)
  cases hb.symm.trans e2
  obtain ⟨w, rfl⟩ := k2
  have h' := h
  simp only [Cond.value, e1, hb, Option.some.injEq, decide_eq_true_eq] at h'
  rw [e1, h']
theorem arrClass {Z : State} {a0 : Array Value} {C : String} (w : (Cond.arrayOver (.object C)).before a0 Z = true) : (Cond.arrayClass (.object C)).before a0 Z = true := by
  obtain ⟨comp, c, k, -, -, h3, h4, h5⟩ := Cond.arrayOver_spec w
  simp [Cond.before, Cond.holds, Cond.value, h5, h3, h4]
theorem ovrOf {Z : State} {a0 : Array Value} {C : String} {cI : ClassId} (w : (Cond.arrayOver (.object C)).before a0 Z = true) (h : Z.vm.findClass (FieldType.array (.object C)).toString = some cI) : Ovr Z cI C := by
  obtain ⟨comp, c, k, h1, -, h3, h4, h5⟩ := Cond.arrayOver_spec w
  have e : (FieldType.array (.object C)).toString = "[" ++ (FieldType.object C).toString := rfl
  rw [e, h5] at h
  cases h
  exact ⟨k, comp, h3, h4, h1⟩
section Laws
variable {l : Launch} {Z : State} {R : Room} {y : MethodName} {bs : ByteArray} {ml : Nat} {ret : Option FieldType} {n0 : Nat} {Q : Option Value → Heap → Prop} {h : Heap} {k n : Nat} {k' n' : Nat} {pc pc' : Nat} {L L' : Array Slot} {St : List Value} {a0 : Array Value}
theorem Con.of {as' : Array Value} (pn : plainFor y = true) (ef : ∀ m, entryFrame m as' ml = mkF m 0 L []) (b : Go l Z R y bs ml ret n0 Q h 0 0 0 L []) : Con l Z R y bs ml ret n0 as' h Q := by
  intro ws
  refine MetFree.of_bodySF pn hisR ?_
  intro p e s m args below meth c s₁ Bd hml0 hP hK
  obtain ⟨rfl, hZ, hh⟩ := hP
  have X0 : Stand p l e R s m args below meth c s₁ [] 0 0 := Stand.of_body Bd
  have e0 : s₁.heap = h := by rw [← hh, Bd.state]; rfl
  have q := b p e s m args below meth c s₁ [] ⟨Bd.exec, Bd.bytes, hml0, findClass_of_methodNamed Bd.named, (name_of_methodNamed Bd.named Bd.method).1, Bd.returns, Bd.notSynchronized, hZ⟩ X0 (Fr.nil n0) e0
  rw [← ef m] at q
  exact q
theorem Con.mono {as' : Array Value} {Q' : Option Value → Heap → Prop} (q : Con l Z R y bs ml ret n0 as' h Q) (i : ∀ v h', Q v h' → Q' v h') : Con l Z R y bs ml ret n0 as' h Q' := by
  intro ws p e ha hc hk s m args below hf happ hP hK
  obtain ⟨s₂, o, h1, h2, h3, v, Ls, h4, ⟨h5, h6⟩, h7⟩ := q ws p e ha hc hk s m args below hf happ hP hK
  exact ⟨s₂, o, h1, h2, h3, v, Ls, h4, ⟨i _ _ h5, h6⟩, h7⟩
/-- the same, the heap's name turned -/
theorem Go.cast {h' : Heap} (e : h' = h) (q : Go l Z R y bs ml ret n0 Q h' k n pc L St) : Go l Z R y bs ml ret n0 Q h k n pc L St := e ▸ q
theorem Go.more {k' n' : Nat} (hk : k ≤ k') (hn : n ≤ n') (q : Go l Z R y bs ml ret n0 Q h k' n' pc L St) : Go l Z R y bs ml ret n0 Q h k n pc L St := fun p e s m args below meth c T locs C X N eT => q p e s m args below meth c T locs C (X.mono hk hn) N eT
theorem Go.frm {St' : List Value} (q : Go l Z R y bs ml ret n0 Q h k n pc L' St') (e1 : L = L') (e2 : St = St') : Go l Z R y bs ml ret n0 Q h k n pc L St := by subst e1 e2; exact q

theorem iload {i : Nat} {v : Int32} (hd : decode bs pc = .ok (.iload i, 2)) (hl : L[i]? = some (.val (.int v))) (hp : pc + 2 = pc') (kt : Go l Z R y bs ml ret n0 Q h k n pc' L (.int v :: St)) : Go l Z R y bs ml ret n0 Q h k n pc L St := by
  subst hp
  intro p e s m args below meth c T locs C X N eT
  exact (kt p e s m args below meth c T locs C X N eT).thru fun t q => XS.iload X.here C.1 rfl (hb C.2.1 hd) hl q
theorem iloadN {i : Fin 4} {v : Int32} (hd : decode bs pc = .ok (.iload_n i, 1)) (hl : L[i.val]? = some (.val (.int v))) (hp : pc + 1 = pc') (kt : Go l Z R y bs ml ret n0 Q h k n pc' L (.int v :: St)) : Go l Z R y bs ml ret n0 Q h k n pc L St := by
  subst hp
  intro p e s m args below meth c T locs C X N eT
  exact (kt p e s m args below meth c T locs C X N eT).thru fun t q => XS.iloadN X.here C.1 rfl (hb C.2.1 hd) hl q
theorem istore {i : Nat} {v : Int32} (hd : decode bs pc = .ok (.istore i, 2)) (hl : storeLocals L i (.int v) = some L') (hp : pc + 2 = pc') (kt : Go l Z R y bs ml ret n0 Q h k n pc' L' St) : Go l Z R y bs ml ret n0 Q h k n pc L (.int v :: St) := by
  subst hp
  intro p e s m args below meth c T locs C X N eT
  exact (kt p e s m args below meth c T locs C X N eT).thru fun t q => XS.istore X.here C.1 rfl (hb C.2.1 hd) rfl hl q
theorem istoreN {i : Fin 4} {v : Int32} (hd : decode bs pc = .ok (.istore_n i, 1)) (hl : storeLocals L i.val (.int v) = some L') (hp : pc + 1 = pc') (kt : Go l Z R y bs ml ret n0 Q h k n pc' L' St) : Go l Z R y bs ml ret n0 Q h k n pc L (.int v :: St) := by
  subst hp
  intro p e s m args below meth c T locs C X N eT
  exact (kt p e s m args below meth c T locs C X N eT).thru fun t q => XS.istoreN X.here C.1 rfl (hb C.2.1 hd) rfl hl q
theorem lload {i : Nat} {v : Int64} (hd : decode bs pc = .ok (.lload i, 2)) (hl : L[i]? = some (.val (.long v))) (hp : pc + 2 = pc') (kt : Go l Z R y bs ml ret n0 Q h k n pc' L (.long v :: St)) : Go l Z R y bs ml ret n0 Q h k n pc L St := by
  subst hp
  intro p e s m args below meth c T locs C X N eT
  exact (kt p e s m args below meth c T locs C X N eT).thru fun t q => XS.lload X.here C.1 rfl (hb C.2.1 hd) hl q
theorem lloadN {i : Fin 4} {v : Int64} (hd : decode bs pc = .ok (.lload_n i, 1)) (hl : L[i.val]? = some (.val (.long v))) (hp : pc + 1 = pc') (kt : Go l Z R y bs ml ret n0 Q h k n pc' L (.long v :: St)) : Go l Z R y bs ml ret n0 Q h k n pc L St := by
  subst hp
  intro p e s m args below meth c T locs C X N eT
  exact (kt p e s m args below meth c T locs C X N eT).thru fun t q => XS.lloadN X.here C.1 rfl (hb C.2.1 hd) hl q
theorem lstore {i : Nat} {v : Int64} (hd : decode bs pc = .ok (.lstore i, 2)) (hl : storeLocals L i (.long v) = some L') (hp : pc + 2 = pc') (kt : Go l Z R y bs ml ret n0 Q h k n pc' L' St) : Go l Z R y bs ml ret n0 Q h k n pc L (.long v :: St) := by
  subst hp
  intro p e s m args below meth c T locs C X N eT
  exact (kt p e s m args below meth c T locs C X N eT).thru fun t q => XS.lstore X.here C.1 rfl (hb C.2.1 hd) rfl hl q
theorem lstoreN {i : Fin 4} {v : Int64} (hd : decode bs pc = .ok (.lstore_n i, 1)) (hl : storeLocals L i.val (.long v) = some L') (hp : pc + 1 = pc') (kt : Go l Z R y bs ml ret n0 Q h k n pc' L' St) : Go l Z R y bs ml ret n0 Q h k n pc L (.long v :: St) := by
  subst hp
  intro p e s m args below meth c T locs C X N eT
  exact (kt p e s m args below meth c T locs C X N eT).thru fun t q => XS.lstoreN X.here C.1 rfl (hb C.2.1 hd) rfl hl q
theorem aload {i : Nat} {v : Value} (hd : decode bs pc = .ok (.aload i, 2)) (hl : L[i]? = some (.val v)) (hv : v.isRef = true) (hp : pc + 2 = pc') (kt : Go l Z R y bs ml ret n0 Q h k n pc' L (v :: St)) : Go l Z R y bs ml ret n0 Q h k n pc L St := by
  subst hp
  intro p e s m args below meth c T locs C X N eT
  exact (kt p e s m args below meth c T locs C X N eT).thru fun t q => XS.aload X.here C.1 rfl (hb C.2.1 hd) hl hv q
theorem aloadN {i : Fin 4} {v : Value} (hd : decode bs pc = .ok (.aload_n i, 1)) (hl : L[i.val]? = some (.val v)) (hv : v.isRef = true) (hp : pc + 1 = pc') (kt : Go l Z R y bs ml ret n0 Q h k n pc' L (v :: St)) : Go l Z R y bs ml ret n0 Q h k n pc L St := by
  subst hp
  intro p e s m args below meth c T locs C X N eT
  exact (kt p e s m args below meth c T locs C X N eT).thru fun t q => XS.aloadN X.here C.1 rfl (hb C.2.1 hd) hl hv q
theorem astore {i : Nat} {v : Value} (hd : decode bs pc = .ok (.astore i, 2)) (hv : v.isRef = true) (hl : storeLocals L i v = some L') (hp : pc + 2 = pc') (kt : Go l Z R y bs ml ret n0 Q h k n pc' L' St) : Go l Z R y bs ml ret n0 Q h k n pc L (v :: St) := by
  subst hp
  intro p e s m args below meth c T locs C X N eT
  exact (kt p e s m args below meth c T locs C X N eT).thru fun t q => XS.astore X.here C.1 rfl (hb C.2.1 hd) rfl hv hl q
theorem astoreN {i : Fin 4} {v : Value} (hd : decode bs pc = .ok (.astore_n i, 1)) (hv : v.isRef = true) (hl : storeLocals L i.val v = some L') (hp : pc + 1 = pc') (kt : Go l Z R y bs ml ret n0 Q h k n pc' L' St) : Go l Z R y bs ml ret n0 Q h k n pc L (v :: St) := by
  subst hp
  intro p e s m args below meth c T locs C X N eT
  exact (kt p e s m args below meth c T locs C X N eT).thru fun t q => XS.astoreN X.here C.1 rfl (hb C.2.1 hd) rfl hv hl q
theorem iconst {i : Int} {v : Int32} (hd : decode bs pc = .ok (.iconst i, 1)) (hv : Int32.ofInt i = v) (hp : pc + 1 = pc') (kt : Go l Z R y bs ml ret n0 Q h k n pc' L (.int v :: St)) : Go l Z R y bs ml ret n0 Q h k n pc L St := by
  subst hp hv
  intro p e s m args below meth c T locs C X N eT
  exact (kt p e s m args below meth c T locs C X N eT).thru fun t q => XS.iconst X.here C.1 rfl (hb C.2.1 hd) q
theorem bipush {i : Int} {v : Int32} (hd : decode bs pc = .ok (.bipush i, 2)) (hv : (Int8.ofInt i).toInt32 = v) (hp : pc + 2 = pc') (kt : Go l Z R y bs ml ret n0 Q h k n pc' L (.int v :: St)) : Go l Z R y bs ml ret n0 Q h k n pc L St := by
  subst hp hv
  intro p e s m args below meth c T locs C X N eT
  exact (kt p e s m args below meth c T locs C X N eT).thru fun t q => XS.bipush X.here C.1 rfl (hb C.2.1 hd) q
theorem sipush {i : Int} {v : Int32} (hd : decode bs pc = .ok (.sipush i, 3)) (hv : (Int16.ofInt i).toInt32 = v) (hp : pc + 3 = pc') (kt : Go l Z R y bs ml ret n0 Q h k n pc' L (.int v :: St)) : Go l Z R y bs ml ret n0 Q h k n pc L St := by
  subst hp hv
  intro p e s m args below meth c T locs C X N eT
  exact (kt p e s m args below meth c T locs C X N eT).thru fun t q => XS.sipush X.here C.1 rfl (hb C.2.1 hd) q
theorem aconstNull  (hd : decode bs pc = .ok (.aconst_null, 1)) (hp : pc + 1 = pc') (kt : Go l Z R y bs ml ret n0 Q h k n pc' L (.null :: St)) : Go l Z R y bs ml ret n0 Q h k n pc L St := by
  subst hp
  intro p e s m args below meth c T locs C X N eT
  exact (kt p e s m args below meth c T locs C X N eT).thru fun t q => XS.aconstNull X.here C.1 rfl (hb C.2.1 hd) q
theorem iadd {x z : Int32} (hd : decode bs pc = .ok (.iadd, 1)) (hp : pc + 1 = pc') (kt : Go l Z R y bs ml ret n0 Q h k n pc' L (.int (x + z) :: St)) : Go l Z R y bs ml ret n0 Q h k n pc L (.int z :: .int x :: St) := by
  subst hp
  intro p e s m args below meth c T locs C X N eT
  exact (kt p e s m args below meth c T locs C X N eT).thru fun t q => XS.iadd X.here C.1 rfl (hb C.2.1 hd) rfl q
theorem isub {x z : Int32} (hd : decode bs pc = .ok (.isub, 1)) (hp : pc + 1 = pc') (kt : Go l Z R y bs ml ret n0 Q h k n pc' L (.int (x - z) :: St)) : Go l Z R y bs ml ret n0 Q h k n pc L (.int z :: .int x :: St) := by
  subst hp
  intro p e s m args below meth c T locs C X N eT
  exact (kt p e s m args below meth c T locs C X N eT).thru fun t q => XS.isub X.here C.1 rfl (hb C.2.1 hd) rfl q
theorem imul {x z : Int32} (hd : decode bs pc = .ok (.imul, 1)) (hp : pc + 1 = pc') (kt : Go l Z R y bs ml ret n0 Q h k n pc' L (.int (x * z) :: St)) : Go l Z R y bs ml ret n0 Q h k n pc L (.int z :: .int x :: St) := by
  subst hp
  intro p e s m args below meth c T locs C X N eT
  exact (kt p e s m args below meth c T locs C X N eT).thru fun t q => XS.imul X.here C.1 rfl (hb C.2.1 hd) rfl q
theorem iand {x z : Int32} (hd : decode bs pc = .ok (.iand, 1)) (hp : pc + 1 = pc') (kt : Go l Z R y bs ml ret n0 Q h k n pc' L (.int (x &&& z) :: St)) : Go l Z R y bs ml ret n0 Q h k n pc L (.int z :: .int x :: St) := by
  subst hp
  intro p e s m args below meth c T locs C X N eT
  exact (kt p e s m args below meth c T locs C X N eT).thru fun t q => XS.iand X.here C.1 rfl (hb C.2.1 hd) rfl q
theorem ior {x z : Int32} (hd : decode bs pc = .ok (.ior, 1)) (hp : pc + 1 = pc') (kt : Go l Z R y bs ml ret n0 Q h k n pc' L (.int (x ||| z) :: St)) : Go l Z R y bs ml ret n0 Q h k n pc L (.int z :: .int x :: St) := by
  subst hp
  intro p e s m args below meth c T locs C X N eT
  exact (kt p e s m args below meth c T locs C X N eT).thru fun t q => XS.ior X.here C.1 rfl (hb C.2.1 hd) rfl q
theorem ixor {x z : Int32} (hd : decode bs pc = .ok (.ixor, 1)) (hp : pc + 1 = pc') (kt : Go l Z R y bs ml ret n0 Q h k n pc' L (.int (x ^^^ z) :: St)) : Go l Z R y bs ml ret n0 Q h k n pc L (.int z :: .int x :: St) := by
  subst hp
  intro p e s m args below meth c T locs C X N eT
  exact (kt p e s m args below meth c T locs C X N eT).thru fun t q => XS.ixor X.here C.1 rfl (hb C.2.1 hd) rfl q
theorem ishl {x z : Int32} (hd : decode bs pc = .ok (.ishl, 1)) (hp : pc + 1 = pc') (kt : Go l Z R y bs ml ret n0 Q h k n pc' L (.int (x <<< (z &&& 31)) :: St)) : Go l Z R y bs ml ret n0 Q h k n pc L (.int z :: .int x :: St) := by
  subst hp
  intro p e s m args below meth c T locs C X N eT
  exact (kt p e s m args below meth c T locs C X N eT).thru fun t q => XS.ishl X.here C.1 rfl (hb C.2.1 hd) rfl q
theorem ishr {x z : Int32} (hd : decode bs pc = .ok (.ishr, 1)) (hp : pc + 1 = pc') (kt : Go l Z R y bs ml ret n0 Q h k n pc' L (.int (x >>> (z &&& 31)) :: St)) : Go l Z R y bs ml ret n0 Q h k n pc L (.int z :: .int x :: St) := by
  subst hp
  intro p e s m args below meth c T locs C X N eT
  exact (kt p e s m args below meth c T locs C X N eT).thru fun t q => XS.ishr X.here C.1 rfl (hb C.2.1 hd) rfl q
theorem iushr {x z : Int32} (hd : decode bs pc = .ok (.iushr, 1)) (hp : pc + 1 = pc') (kt : Go l Z R y bs ml ret n0 Q h k n pc' L (.int ((x.toUInt32 >>> (z &&& 31).toUInt32).toInt32) :: St)) : Go l Z R y bs ml ret n0 Q h k n pc L (.int z :: .int x :: St) := by
  subst hp
  intro p e s m args below meth c T locs C X N eT
  exact (kt p e s m args below meth c T locs C X N eT).thru fun t q => XS.iushr X.here C.1 rfl (hb C.2.1 hd) rfl q
theorem ladd {x z : Int64} (hd : decode bs pc = .ok (.ladd, 1)) (hp : pc + 1 = pc') (kt : Go l Z R y bs ml ret n0 Q h k n pc' L (.long (x + z) :: St)) : Go l Z R y bs ml ret n0 Q h k n pc L (.long z :: .long x :: St) := by
  subst hp
  intro p e s m args below meth c T locs C X N eT
  exact (kt p e s m args below meth c T locs C X N eT).thru fun t q => XS.ladd X.here C.1 rfl (hb C.2.1 hd) rfl q
theorem lsub {x z : Int64} (hd : decode bs pc = .ok (.lsub, 1)) (hp : pc + 1 = pc') (kt : Go l Z R y bs ml ret n0 Q h k n pc' L (.long (x - z) :: St)) : Go l Z R y bs ml ret n0 Q h k n pc L (.long z :: .long x :: St) := by
  subst hp
  intro p e s m args below meth c T locs C X N eT
  exact (kt p e s m args below meth c T locs C X N eT).thru fun t q => XS.lsub X.here C.1 rfl (hb C.2.1 hd) rfl q
theorem lmul {x z : Int64} (hd : decode bs pc = .ok (.lmul, 1)) (hp : pc + 1 = pc') (kt : Go l Z R y bs ml ret n0 Q h k n pc' L (.long (x * z) :: St)) : Go l Z R y bs ml ret n0 Q h k n pc L (.long z :: .long x :: St) := by
  subst hp
  intro p e s m args below meth c T locs C X N eT
  exact (kt p e s m args below meth c T locs C X N eT).thru fun t q => XS.lmul X.here C.1 rfl (hb C.2.1 hd) rfl q
theorem land {x z : Int64} (hd : decode bs pc = .ok (.land, 1)) (hp : pc + 1 = pc') (kt : Go l Z R y bs ml ret n0 Q h k n pc' L (.long (x &&& z) :: St)) : Go l Z R y bs ml ret n0 Q h k n pc L (.long z :: .long x :: St) := by
  subst hp
  intro p e s m args below meth c T locs C X N eT
  exact (kt p e s m args below meth c T locs C X N eT).thru fun t q => XS.land X.here C.1 rfl (hb C.2.1 hd) rfl q
theorem lor {x z : Int64} (hd : decode bs pc = .ok (.lor, 1)) (hp : pc + 1 = pc') (kt : Go l Z R y bs ml ret n0 Q h k n pc' L (.long (x ||| z) :: St)) : Go l Z R y bs ml ret n0 Q h k n pc L (.long z :: .long x :: St) := by
  subst hp
  intro p e s m args below meth c T locs C X N eT
  exact (kt p e s m args below meth c T locs C X N eT).thru fun t q => XS.lor X.here C.1 rfl (hb C.2.1 hd) rfl q
theorem lxor {x z : Int64} (hd : decode bs pc = .ok (.lxor, 1)) (hp : pc + 1 = pc') (kt : Go l Z R y bs ml ret n0 Q h k n pc' L (.long (x ^^^ z) :: St)) : Go l Z R y bs ml ret n0 Q h k n pc L (.long z :: .long x :: St) := by
  subst hp
  intro p e s m args below meth c T locs C X N eT
  exact (kt p e s m args below meth c T locs C X N eT).thru fun t q => XS.lxor X.here C.1 rfl (hb C.2.1 hd) rfl q
theorem lshl {x : Int64} {z : Int32} (hd : decode bs pc = .ok (.lshl, 1)) (hp : pc + 1 = pc') (kt : Go l Z R y bs ml ret n0 Q h k n pc' L (.long (x <<< (z &&& 0x3f).toInt64) :: St)) : Go l Z R y bs ml ret n0 Q h k n pc L (.int z :: .long x :: St) := by
  subst hp
  intro p e s m args below meth c T locs C X N eT
  exact (kt p e s m args below meth c T locs C X N eT).thru fun t q => XS.lshl X.here C.1 rfl (hb C.2.1 hd) rfl q
theorem lshr {x : Int64} {z : Int32} (hd : decode bs pc = .ok (.lshr, 1)) (hp : pc + 1 = pc') (kt : Go l Z R y bs ml ret n0 Q h k n pc' L (.long (x >>> (z &&& 0x3f).toInt64) :: St)) : Go l Z R y bs ml ret n0 Q h k n pc L (.int z :: .long x :: St) := by
  subst hp
  intro p e s m args below meth c T locs C X N eT
  exact (kt p e s m args below meth c T locs C X N eT).thru fun t q => XS.lshr X.here C.1 rfl (hb C.2.1 hd) rfl q
theorem lushr {x : Int64} {z : Int32} (hd : decode bs pc = .ok (.lushr, 1)) (hp : pc + 1 = pc') (kt : Go l Z R y bs ml ret n0 Q h k n pc' L (.long ((x.toUInt64 >>> (z &&& 0x3f).toInt64.toUInt64).toInt64) :: St)) : Go l Z R y bs ml ret n0 Q h k n pc L (.int z :: .long x :: St) := by
  subst hp
  intro p e s m args below meth c T locs C X N eT
  exact (kt p e s m args below meth c T locs C X N eT).thru fun t q => XS.lushr X.here C.1 rfl (hb C.2.1 hd) rfl q
theorem ineg {x : Int32} (hd : decode bs pc = .ok (.ineg, 1)) (hp : pc + 1 = pc') (kt : Go l Z R y bs ml ret n0 Q h k n pc' L (.int (-x) :: St)) : Go l Z R y bs ml ret n0 Q h k n pc L (.int x :: St) := by
  subst hp
  intro p e s m args below meth c T locs C X N eT
  exact (kt p e s m args below meth c T locs C X N eT).thru fun t q => XS.ineg X.here C.1 rfl (hb C.2.1 hd) rfl q
theorem lneg {x : Int64} (hd : decode bs pc = .ok (.lneg, 1)) (hp : pc + 1 = pc') (kt : Go l Z R y bs ml ret n0 Q h k n pc' L (.long (-x) :: St)) : Go l Z R y bs ml ret n0 Q h k n pc L (.long x :: St) := by
  subst hp
  intro p e s m args below meth c T locs C X N eT
  exact (kt p e s m args below meth c T locs C X N eT).thru fun t q => XS.lneg X.here C.1 rfl (hb C.2.1 hd) rfl q
theorem i2l {x : Int32} (hd : decode bs pc = .ok (.i2l, 1)) (hp : pc + 1 = pc') (kt : Go l Z R y bs ml ret n0 Q h k n pc' L (.long (x.toInt64) :: St)) : Go l Z R y bs ml ret n0 Q h k n pc L (.int x :: St) := by
  subst hp
  intro p e s m args below meth c T locs C X N eT
  exact (kt p e s m args below meth c T locs C X N eT).thru fun t q => XS.i2l X.here C.1 rfl (hb C.2.1 hd) rfl q
theorem l2i {x : Int64} (hd : decode bs pc = .ok (.l2i, 1)) (hp : pc + 1 = pc') (kt : Go l Z R y bs ml ret n0 Q h k n pc' L (.int (x.toInt32) :: St)) : Go l Z R y bs ml ret n0 Q h k n pc L (.long x :: St) := by
  subst hp
  intro p e s m args below meth c T locs C X N eT
  exact (kt p e s m args below meth c T locs C X N eT).thru fun t q => XS.l2i X.here C.1 rfl (hb C.2.1 hd) rfl q
theorem i2b {x : Int32} (hd : decode bs pc = .ok (.i2b, 1)) (hp : pc + 1 = pc') (kt : Go l Z R y bs ml ret n0 Q h k n pc' L (.int (x.toInt8.toInt32) :: St)) : Go l Z R y bs ml ret n0 Q h k n pc L (.int x :: St) := by
  subst hp
  intro p e s m args below meth c T locs C X N eT
  exact (kt p e s m args below meth c T locs C X N eT).thru fun t q => XS.i2b X.here C.1 rfl (hb C.2.1 hd) rfl q
theorem i2s {x : Int32} (hd : decode bs pc = .ok (.i2s, 1)) (hp : pc + 1 = pc') (kt : Go l Z R y bs ml ret n0 Q h k n pc' L (.int (x.toInt16.toInt32) :: St)) : Go l Z R y bs ml ret n0 Q h k n pc L (.int x :: St) := by
  subst hp
  intro p e s m args below meth c T locs C X N eT
  exact (kt p e s m args below meth c T locs C X N eT).thru fun t q => XS.i2s X.here C.1 rfl (hb C.2.1 hd) rfl q
theorem i2c {x : Int32} (hd : decode bs pc = .ok (.i2c, 1)) (hp : pc + 1 = pc') (kt : Go l Z R y bs ml ret n0 Q h k n pc' L (.int (x.toUInt32.toUInt16.toUInt32.toInt32) :: St)) : Go l Z R y bs ml ret n0 Q h k n pc L (.int x :: St) := by
  subst hp
  intro p e s m args below meth c T locs C X N eT
  exact (kt p e s m args below meth c T locs C X N eT).thru fun t q => XS.i2c X.here C.1 rfl (hb C.2.1 hd) rfl q
theorem lcmp {x z : Int64} (hd : decode bs pc = .ok (.lcmp, 1)) (hp : pc + 1 = pc') (kt : Go l Z R y bs ml ret n0 Q h k n pc' L (.int (lcmpW x z) :: St)) : Go l Z R y bs ml ret n0 Q h k n pc L (.long z :: .long x :: St) := by
  subst hp
  intro p e s m args below meth c T locs C X N eT
  exact (kt p e s m args below meth c T locs C X N eT).thru fun t q => XS.lcmp X.here C.1 rfl (hb C.2.1 hd) rfl q
theorem idiv {x z : Int32} (hd : decode bs pc = .ok (.idiv, 1)) (hz : z ≠ 0) (hp : pc + 1 = pc') (kt : Go l Z R y bs ml ret n0 Q h k n pc' L (.int (x / z) :: St)) : Go l Z R y bs ml ret n0 Q h k n pc L (.int z :: .int x :: St) := by
  subst hp
  intro p e s m args below meth c T locs C X N eT
  exact (kt p e s m args below meth c T locs C X N eT).thru fun t q => XS.idiv X.here C.1 rfl (hb C.2.1 hd) rfl hz q
theorem irem {x z : Int32} (hd : decode bs pc = .ok (.irem, 1)) (hz : z ≠ 0) (hp : pc + 1 = pc') (kt : Go l Z R y bs ml ret n0 Q h k n pc' L (.int (x % z) :: St)) : Go l Z R y bs ml ret n0 Q h k n pc L (.int z :: .int x :: St) := by
  subst hp
  intro p e s m args below meth c T locs C X N eT
  exact (kt p e s m args below meth c T locs C X N eT).thru fun t q => iremM X C.1 rfl (hb C.2.1 hd) rfl hz q
theorem lrem {x z : Int64} (hd : decode bs pc = .ok (.lrem, 1)) (hz : z ≠ 0) (hp : pc + 1 = pc') (kt : Go l Z R y bs ml ret n0 Q h k n pc' L (.long (x % z) :: St)) : Go l Z R y bs ml ret n0 Q h k n pc L (.long z :: .long x :: St) := by
  subst hp
  rw [← lrem_mod] at kt
  intro p e s m args below meth c T locs C X N eT
  exact (kt p e s m args below meth c T locs C X N eT).thru fun t q => XS.lrem X.here C.1 rfl (hb C.2.1 hd) rfl hz q
theorem ldiv {x z : Int64} (hd : decode bs pc = .ok (.ldiv, 1)) (hz : z ≠ 0) (hp : pc + 1 = pc') (kt : Go l Z R y bs ml ret n0 Q h k n pc' L (.long (x / z) :: St)) : Go l Z R y bs ml ret n0 Q h k n pc L (.long z :: .long x :: St) := by
  subst hp
  intro p e s m args below meth c T locs C X N eT
  exact (kt p e s m args below meth c T locs C X N eT).thru fun t q => XS.ldiv X.here C.1 rfl (hb C.2.1 hd) rfl hz q
theorem dup {v : Value} (hd : decode bs pc = .ok (.dup, 1)) (hc : v.category = 1) (hp : pc + 1 = pc') (kt : Go l Z R y bs ml ret n0 Q h k n pc' L (v :: v :: St)) : Go l Z R y bs ml ret n0 Q h k n pc L (v :: St) := by
  subst hp
  intro p e s m args below meth c T locs C X N eT
  exact (kt p e s m args below meth c T locs C X N eT).thru fun t q => XS.dup X.here C.1 rfl (hb C.2.1 hd) rfl hc q
theorem pop {v : Value} (hd : decode bs pc = .ok (.pop, 1)) (hc : v.category = 1) (hp : pc + 1 = pc') (kt : Go l Z R y bs ml ret n0 Q h k n pc' L St) : Go l Z R y bs ml ret n0 Q h k n pc L (v :: St) := by
  subst hp
  intro p e s m args below meth c T locs C X N eT
  exact (kt p e s m args below meth c T locs C X N eT).thru fun t q => XS.pop X.here C.1 rfl (hb C.2.1 hd) rfl hc q
theorem dupX1 {v w : Value} (hd : decode bs pc = .ok (.dup_x1, 1)) (hc : v.category = 1) (hw : w.category = 1) (hp : pc + 1 = pc') (kt : Go l Z R y bs ml ret n0 Q h k n pc' L (v :: w :: v :: St)) : Go l Z R y bs ml ret n0 Q h k n pc L (v :: w :: St) := by
  subst hp
  intro p e s m args below meth c T locs C X N eT
  exact (kt p e s m args below meth c T locs C X N eT).thru fun t q => XS.dupX1 X.here C.1 rfl (hb C.2.1 hd) rfl hc hw q
theorem dup2 {v w : Value} (hd : decode bs pc = .ok (.dup2, 1)) (hc : v.category = 1) (hw : w.category = 1) (hp : pc + 1 = pc') (kt : Go l Z R y bs ml ret n0 Q h k n pc' L (v :: w :: v :: w :: St)) : Go l Z R y bs ml ret n0 Q h k n pc L (v :: w :: St) := by
  subst hp
  intro p e s m args below meth c T locs C X N eT
  exact (kt p e s m args below meth c T locs C X N eT).thru fun t q => XT.dup2 X.here C.1 rfl (hb C.2.1 hd) rfl hc hw q
theorem dup2L {x : Int64} (hd : decode bs pc = .ok (.dup2, 1)) (hp : pc + 1 = pc') (kt : Go l Z R y bs ml ret n0 Q h k n pc' L (.long x :: .long x :: St)) : Go l Z R y bs ml ret n0 Q h k n pc L (.long x :: St) := by
  subst hp
  intro p e s m args below meth c T locs C X N eT
  exact (kt p e s m args below meth c T locs C X N eT).thru fun t q => XT.dup2L X.here C.1 rfl (hb C.2.1 hd) rfl q
theorem lconst {i : Fin 2} {v : Int64} (hd : decode bs pc = .ok (.lconst i, 1)) (hv : Int64.ofNat i.val = v) (hp : pc + 1 = pc') (kt : Go l Z R y bs ml ret n0 Q h k n pc' L (.long v :: St)) : Go l Z R y bs ml ret n0 Q h k n pc L St := by
  subst hp hv
  intro p e s m args below meth c T locs C X N eT
  exact (kt p e s m args below meth c T locs C X N eT).thru fun t q => XS.lconst X.here C.1 rfl (hb C.2.1 hd) q
theorem iinc {i : Nat} {cst : Int} {x d : Int32} (hd : decode bs pc = .ok (.iinc i cst, 3)) (hl : L[i]? = some (.val (.int x))) (hv : Int32.ofInt cst = d) (hs : storeLocals L i (.int (x + d)) = some L') (hp : pc + 3 = pc') (kt : Go l Z R y bs ml ret n0 Q h k n pc' L' St) : Go l Z R y bs ml ret n0 Q h k n pc L St := by
  subst hp hv
  intro p e s m args below meth c T locs C X N eT
  exact (kt p e s m args below meth c T locs C X N eT).thru fun t q => XS.iinc X.here C.1 rfl (hb C.2.1 hd) hl hs q
theorem goto {o : Int} (hd : decode bs pc = .ok (.goto o, 3)) (ho : 0 ≤ (pc : Int) + o) (hp : ((pc : Int) + o).toNat = pc') (kt : Go l Z R y bs ml ret n0 Q h k n pc' L St) : Go l Z R y bs ml ret n0 Q h k n pc L St := by
  intro p e s m args below meth c T locs C X N eT
  exact (kt p e s m args below meth c T locs C X N eT).thru fun t q => XS.goto X.here C.1 rfl rfl (hb C.2.1 hd) ho hp q
theorem icmpY {cd : ClassFile.Cond} {o : Int} {x z : Int32} (hd : decode bs pc = .ok (.if_icmp cd o, 3)) (hc : if_icmp.holds cd x z = true) (ho : 0 ≤ (pc : Int) + o) (hp : ((pc : Int) + o).toNat = pc') (kt : Go l Z R y bs ml ret n0 Q h k n pc' L St) : Go l Z R y bs ml ret n0 Q h k n pc L (.int z :: .int x :: St) := by
  intro p e s m args below meth c T locs C X N eT
  exact (kt p e s m args below meth c T locs C X N eT).thru fun t q => XS.icmpYes X.here C.1 rfl rfl (hb C.2.1 hd) rfl hc ho hp q
theorem icmpN {cd : ClassFile.Cond} {o : Int} {x z : Int32} (hd : decode bs pc = .ok (.if_icmp cd o, 3)) (hc : if_icmp.holds cd x z = false) (hp : pc + 3 = pc') (kt : Go l Z R y bs ml ret n0 Q h k n pc' L St) : Go l Z R y bs ml ret n0 Q h k n pc L (.int z :: .int x :: St) := by
  subst hp
  intro p e s m args below meth c T locs C X N eT
  exact (kt p e s m args below meth c T locs C X N eT).thru fun t q => XS.icmpNo X.here C.1 rfl (hb C.2.1 hd) rfl hc q
theorem ifcY {cd : ClassFile.Cond} {o : Int} {x : Int32} (hd : decode bs pc = .ok (.ifCond cd o, 3)) (hc : ifCond.holds cd x = true) (ho : 0 ≤ (pc : Int) + o) (hp : ((pc : Int) + o).toNat = pc') (kt : Go l Z R y bs ml ret n0 Q h k n pc' L St) : Go l Z R y bs ml ret n0 Q h k n pc L (.int x :: St) := by
  intro p e s m args below meth c T locs C X N eT
  exact (kt p e s m args below meth c T locs C X N eT).thru fun t q => XS.ifYes X.here C.1 rfl rfl (hb C.2.1 hd) rfl hc ho hp q
theorem ifcN {cd : ClassFile.Cond} {o : Int} {x : Int32} (hd : decode bs pc = .ok (.ifCond cd o, 3)) (hc : ifCond.holds cd x = false) (hp : pc + 3 = pc') (kt : Go l Z R y bs ml ret n0 Q h k n pc' L St) : Go l Z R y bs ml ret n0 Q h k n pc L (.int x :: St) := by
  subst hp
  intro p e s m args below meth c T locs C X N eT
  exact (kt p e s m args below meth c T locs C X N eT).thru fun t q => XS.ifNo X.here C.1 rfl (hb C.2.1 hd) rfl hc q
theorem ifnullY {o : Int}  (hd : decode bs pc = .ok (.ifnull o, 3)) (ho : 0 ≤ (pc : Int) + o) (hp : ((pc : Int) + o).toNat = pc') (kt : Go l Z R y bs ml ret n0 Q h k n pc' L St) : Go l Z R y bs ml ret n0 Q h k n pc L (.null :: St) := by
  intro p e s m args below meth c T locs C X N eT
  exact (kt p e s m args below meth c T locs C X N eT).thru fun t q => XS.ifnullYes X.here C.1 rfl rfl (hb C.2.1 hd) rfl ho hp q
theorem ifnullN {o : Int} {b : Addr} (hd : decode bs pc = .ok (.ifnull o, 3)) (hp : pc + 3 = pc') (kt : Go l Z R y bs ml ret n0 Q h k n pc' L St) : Go l Z R y bs ml ret n0 Q h k n pc L (.ref b :: St) := by
  subst hp
  intro p e s m args below meth c T locs C X N eT
  exact (kt p e s m args below meth c T locs C X N eT).thru fun t q => XS.ifnullNo X.here C.1 rfl (hb C.2.1 hd) rfl q
theorem ifnonnullY {o : Int} {b : Addr} (hd : decode bs pc = .ok (.ifnonnull o, 3)) (ho : 0 ≤ (pc : Int) + o) (hp : ((pc : Int) + o).toNat = pc') (kt : Go l Z R y bs ml ret n0 Q h k n pc' L St) : Go l Z R y bs ml ret n0 Q h k n pc L (.ref b :: St) := by
  intro p e s m args below meth c T locs C X N eT
  exact (kt p e s m args below meth c T locs C X N eT).thru fun t q => XS.ifnonnullYes X.here C.1 rfl rfl (hb C.2.1 hd) rfl ho hp q
theorem ifnonnullN {o : Int}  (hd : decode bs pc = .ok (.ifnonnull o, 3)) (hp : pc + 3 = pc') (kt : Go l Z R y bs ml ret n0 Q h k n pc' L St) : Go l Z R y bs ml ret n0 Q h k n pc L (.null :: St) := by
  subst hp
  intro p e s m args below meth c T locs C X N eT
  exact (kt p e s m args below meth c T locs C X N eT).thru fun t q => XS.ifnonnullNo X.here C.1 rfl (hb C.2.1 hd) rfl q
theorem acmp {cd : ACond} {o : Int} {x z : Value} {same : Bool} (hd : decode bs pc = .ok (.if_acmp cd o, 3)) (h1 : x.isRef = true) (h2 : z.isRef = true) (hq : decide (x = z) = same) (ho : 0 ≤ (pc : Int) + o) (hp : pc' = if acV cd same = true then ((pc : Int) + o).toNat else pc + 3) (kt : Go l Z R y bs ml ret n0 Q h k n pc' L St) : Go l Z R y bs ml ret n0 Q h k n pc L (z :: x :: St) := by
  intro p e s m args below meth c T locs C X N eT
  exact (kt p e s m args below meth c T locs C X N eT).thru fun t q => Jvm.RoadKit.acmp (g := mkF m pc L (z :: x :: St)) X C.1 rfl h1 h2 rfl (hb C.2.1 hd) rfl hq ho hp q
theorem pop2J {x : Int64} (hd : decode bs pc = .ok (.pop2, 1)) (hp : pc + 1 = pc') (kt : Go l Z R y bs ml ret n0 Q h k n pc' L St) : Go l Z R y bs ml ret n0 Q h k n pc L (.long x :: St) := by
  subst hp
  intro p e s m args below meth c T locs C X N eT
  have hx := C.1
  have hd' := hb C.2.1 hd
  refine (kt p e s m args below meth c T locs C X N eT).thru fun t q => ?_
  show Steps p.tables e below (T.setTop { method := m, pc := pc, locals := L, stack := .long x :: St, locked := none }) t
  jvm_step X.here [X.here.top, hx, hd', Value.category]
  exact q
theorem tswIn {dflt low high : Int} {offs : Array Int} {len : Nat} {o : Int} {i : Int32} (hd : decode bs pc = .ok (.tableswitch dflt low high offs, len)) (hin : ¬ (i.toInt < low ∨ i.toInt > high)) (hoff : offs[(i.toInt - low).toNat]? = some o) (ho : 0 ≤ (pc : Int) + o) (hp : ((pc : Int) + o).toNat = pc') (kt : Go l Z R y bs ml ret n0 Q h k n pc' L St) : Go l Z R y bs ml ret n0 Q h k n pc L (.int i :: St) := by
  intro p e s m args below meth c T locs C X N eT
  exact (kt p e s m args below meth c T locs C X N eT).thru fun t q => XS.tswIn X.here C.1 rfl rfl (hb C.2.1 hd) rfl hin hoff ho hp q
theorem tswOut {dflt low high : Int} {offs : Array Int} {len : Nat} {i : Int32} (hd : decode bs pc = .ok (.tableswitch dflt low high offs, len)) (hout : i.toInt < low ∨ i.toInt > high) (ho : 0 ≤ (pc : Int) + dflt) (hp : ((pc : Int) + dflt).toNat = pc') (kt : Go l Z R y bs ml ret n0 Q h k n pc' L St) : Go l Z R y bs ml ret n0 Q h k n pc L (.int i :: St) := by
  intro p e s m args below meth c T locs C X N eT
  exact (kt p e s m args below meth c T locs C X N eT).thru fun t q => XS.tswOut X.here C.1 rfl rfl (hb C.2.1 hd) rfl hout ho hp q
theorem ret0 (hd : decode bs pc = .ok (.return_, 1)) (hr : ret = none) (hk : k ≤ R.cells) (hn : n ≤ R.slots) (hQ : Q none h) : Go l Z R y bs ml ret n0 Q h k n pc L [] := by
  intro p e s m args below meth c T locs C X N eT
  have hret := C.2.2.2.2.2.1.trans hr
  obtain ⟨fs, hl, hrun, hended, hW, hsame⟩ := X.leave (v := none) (fun _ => rfl) C.2.2.2.2.2.2.1
  exact ⟨_, _, X.returnOut C.1 hret (hb C.2.1 hd) hl, hrun, hended, _, _, rfl, ⟨by show Q none T.heap; rw [eT]; exact hQ, N⟩, ⟨_, rfl⟩, hW, hsame.mono hk hn⟩
theorem retN {t : FieldType} {x x' : Int32} (hd : decode bs pc = .ok (.ireturn, 1)) (hr : ret = some t) (ht : t = .boolean ∨ t = .byte ∨ t = .char ∨ t = .short) (hx : nar t x = x') (hk : k ≤ R.cells) (hn : n ≤ R.slots) (hQ : Q (some (.int x')) h) : Go l Z R y bs ml ret n0 Q h k n pc L (.int x :: St) := by
  intro p e s m args below meth c T locs C X N eT
  have hret := C.2.2.2.2.2.1.trans hr
  subst hx
  obtain ⟨fs, hl, hrun, hended, hW, hsame⟩ := X.leave (v := some (.int (nar t x))) (fun q => by rw [hret] at q; cases q) C.2.2.2.2.2.2.1
  exact ⟨_, _, Jvm.RoadKit.retN X C.1 hret ht (hb C.2.1 hd) hl, hrun, hended, _, _, rfl, ⟨by show Q _ T.heap; rw [eT]; exact hQ, N⟩, ⟨_, rfl⟩, hW, hsame.mono hk hn⟩
theorem retI {x : Int32} (hd : decode bs pc = .ok (.ireturn, 1)) (hr : ret = some .int) (hk : k ≤ R.cells) (hn : n ≤ R.slots) (hQ : Q (some (.int x)) h) : Go l Z R y bs ml ret n0 Q h k n pc L (.int x :: St) := by
  intro p e s m args below meth c T locs C X N eT
  have hret := C.2.2.2.2.2.1.trans hr
  obtain ⟨fs, hl, hrun, hended, hW, hsame⟩ := X.leave (v := some (.int x)) (fun q => by rw [hret] at q; cases q) C.2.2.2.2.2.2.1
  exact ⟨_, _, Jvm.RoadKit.retOut X C.1 hret rfl (Or.inl ⟨rfl, Or.inl rfl, _, rfl⟩) (hb C.2.1 hd) hl, hrun, hended, _, _, rfl, ⟨by show Q _ T.heap; rw [eT]; exact hQ, N⟩, ⟨_, rfl⟩, hW, hsame.mono hk hn⟩
theorem retJ {x : Int64} (hd : decode bs pc = .ok (.lreturn, 1)) (hr : ret = some .long) (hk : k ≤ R.cells) (hn : n ≤ R.slots) (hQ : Q (some (.long x)) h) : Go l Z R y bs ml ret n0 Q h k n pc L (.long x :: St) := by
  intro p e s m args below meth c T locs C X N eT
  have hret := C.2.2.2.2.2.1.trans hr
  obtain ⟨fs, hl, hrun, hended, hW, hsame⟩ := X.leave (v := some (.long x)) (fun q => by rw [hret] at q; cases q) C.2.2.2.2.2.2.1
  exact ⟨_, _, Jvm.RoadKit.retOut X C.1 hret rfl (Or.inr (Or.inl ⟨rfl, rfl, _, rfl⟩)) (hb C.2.1 hd) hl, hrun, hended, _, _, rfl, ⟨by show Q _ T.heap; rw [eT]; exact hQ, N⟩, ⟨_, rfl⟩, hW, hsame.mono hk hn⟩
theorem retD {x : UInt64} (hd : decode bs pc = .ok (.dreturn, 1)) (hr : ret = some .double) (hk : k ≤ R.cells) (hn : n ≤ R.slots) (hQ : Q (some (.double x)) h) : Go l Z R y bs ml ret n0 Q h k n pc L (.double x :: St) := by
  intro p e s m args below meth c T locs C X N eT
  have hret := C.2.2.2.2.2.1.trans hr
  obtain ⟨fs, hl, hrun, hended, hW, hsame⟩ := X.leave (v := some (.double x)) (fun q => by rw [hret] at q; cases q) C.2.2.2.2.2.2.1
  exact ⟨_, _, Jvm.RoadKit.retOut X C.1 hret rfl (Or.inr (Or.inr (Or.inl ⟨rfl, rfl, _, rfl⟩))) (hb C.2.1 hd) hl, hrun, hended, _, _, rfl, ⟨by show Q _ T.heap; rw [eT]; exact hQ, N⟩, ⟨_, rfl⟩, hW, hsame.mono hk hn⟩
theorem retA {t : FieldType} {v : Value} (hd : decode bs pc = .ok (.areturn, 1)) (hr : ret = some t) (ht : t.isReference = true) (hv : v.isRef = true) (hk : k ≤ R.cells) (hn : n ≤ R.slots) (hQ : Q (some v) h) : Go l Z R y bs ml ret n0 Q h k n pc L (v :: St) := by
  intro p e s m args below meth c T locs C X N eT
  have hret := C.2.2.2.2.2.1.trans hr
  obtain ⟨fs, hl, hrun, hended, hW, hsame⟩ := X.leave (v := some v) (fun q => by rw [hret] at q; cases q) C.2.2.2.2.2.2.1
  have hna : narrow t v = v := by rcases ref_cases hv with rfl | ⟨a, rfl⟩ <;> cases t <;> first | rfl | (cases ht)
  exact ⟨_, _, Jvm.RoadKit.retOut X C.1 hret hna (Or.inr (Or.inr (Or.inr (Or.inr ⟨rfl, ht, hv⟩)))) (hb C.2.1 hd) hl, hrun, hended, _, _, rfl, ⟨by show Q _ T.heap; rw [eT]; exact hQ, N⟩, ⟨_, rfl⟩, hW, hsame.mono hk hn⟩
theorem ldcI {index : Nat} {v : Int32} (hd : decode bs pc = .ok (.ldc index, 2)) (w : (Cond.constant y.cls index v).before a0 Z = true) (hp : pc + 2 = pc') (kt : Go l Z R y bs ml ret n0 Q h k n pc' L (.int v :: St)) : Go l Z R y bs ml ret n0 Q h k n pc L St := by
  subst hp
  intro p e s m args below meth c T locs C X N eT
  exact (kt p e s m args below meth c T locs C X N eT).thru (X.ldcInt C.1 C.2.2.2.1 (mvT C.2.2.2.2.2.2.2 w) (g := mkF m pc L St) rfl (hb C.2.1 hd))
theorem ldcwI {index : Nat} {v : Int32} (hd : decode bs pc = .ok (.ldc_w index, 3)) (w : (Cond.constant y.cls index v).before a0 Z = true) (hp : pc + 3 = pc') (kt : Go l Z R y bs ml ret n0 Q h k n pc' L (.int v :: St)) : Go l Z R y bs ml ret n0 Q h k n pc L St := by
  subst hp
  intro p e s m args below meth c T locs C X N eT
  exact (kt p e s m args below meth c T locs C X N eT).thru (X.ldcwInt C.1 C.2.2.2.1 (mvT C.2.2.2.2.2.2.2 w) (g := mkF m pc L St) rfl (hb C.2.1 hd))
theorem ldc2J {index : Nat} {v : Int64} (hd : decode bs pc = .ok (.ldc2_w index, 3)) (w : (Cond.constantLong y.cls index v).before a0 Z = true) (hp : pc + 3 = pc') (kt : Go l Z R y bs ml ret n0 Q h k n pc' L (.long v :: St)) : Go l Z R y bs ml ret n0 Q h k n pc L St := by
  subst hp
  intro p e s m args below meth c T locs C X N eT
  exact (kt p e s m args below meth c T locs C X N eT).thru (X.ldc2Long C.1 C.2.2.2.1 (mvT C.2.2.2.2.2.2.2 w) (g := mkF m pc L St) rfl (hb C.2.1 hd))
theorem getF {R0 O nm d host : String} {index : Nat} {a : Addr} {v : Value} (hd : decode bs pc = .ok (.getfield index, 3)) (w : (Cond.fieldLink y.cls index R0 nm d).before a0 Z = true ∨ (Cond.fieldLinkNest y.cls index R0 nm d host).before a0 Z = true) (via : Via Z R0 O nm d) (F : Fld Z h a O nm d v) (hp : pc + 3 = pc') (kt : Go l Z R y bs ml ret n0 Q h k n pc' L (v :: St)) : Go l Z R y bs ml ret n0 Q h k n pc L (.ref a :: St) := by
  subst hp
  intro p e s m args below meth c T locs C X N eT
  obtain ⟨T', X', e', st⟩ := Jvm.RoadKit.getF X C.1 C.2.2.2.2.2.2.2 C.2.2.2.1 w via eT F (g := mkF m pc L (.ref a :: St)) rfl rfl (hb C.2.1 hd)
  exact (kt p e s m args below meth c T' locs C X' N e').thru st
theorem getS {R0 O nm d host : String} {index : Nat} {v : Value} (hd : decode bs pc = .ok (.getstatic index, 3)) (w : (Cond.fieldLink y.cls index R0 nm d).before a0 Z = true ∨ (Cond.fieldLinkNest y.cls index R0 nm d host).before a0 Z = true) (via : Via Z R0 O nm d) (F : Sta Z h O nm d v) (hp : pc + 3 = pc') (kt : Go l Z R y bs ml ret n0 Q h k n pc' L (v :: St)) : Go l Z R y bs ml ret n0 Q h k n pc L St := by
  subst hp
  intro p e s m args below meth c T locs C X N eT
  obtain ⟨T', X', e', st⟩ := getS2 X C.1 C.2.2.2.2.2.2.2 C.2.2.2.1 w via eT F (g := mkF m pc L St) rfl (hb C.2.1 hd)
  exact (kt p e s m args below meth c T' locs C X' N e').thru st
theorem putF {R0 O nm d host CC : String} {index kk : Nat} {ty : FieldType} {a : Addr} {v old : Value} (hd : decode bs pc = .ok (.putfield index, 3)) (w : (Cond.fieldLink y.cls index R0 nm d).before a0 Z = true ∨ (Cond.fieldLinkNest y.cls index R0 nm d host).before a0 Z = true) (via : Via Z R0 O nm d) (F : Fld Z h a O nm d old) (E : Exa Z h a CC)
    (Ly : (Cond.lays CC O nm d).before a0 Z = true ∨ ((Cond.laysFinal CC O nm d).before a0 Z = true ∧ y.cls = O ∧ y.name = "<init>")) (wi : (Cond.instantiable CC kk).before a0 Z = true) (hty : parseFieldDescriptor d = some ty) (hn : narrow ty v = v) (hf : fits ty v = true) (g : n0 ≤ a) (hp : pc + 3 = pc')
    (kt : ∀ h', Wr h h' a (Jvm.RoadKit.slotOf Z O nm d) v → Go l Z R y bs ml ret n0 Q h' k n pc' L St) : Go l Z R y bs ml ret n0 Q h k n pc L (v :: .ref a :: St) := by
  subst hp
  intro p e s m args below meth c T locs C X N eT
  obtain ⟨T', h', X', e', W', st⟩ := Jvm.RoadKit.putF X C.1 C.2.2.2.2.2.2.2 C.2.2.2.1 w via eT F E (Ly.imp id fun q => ⟨q.1, q.2.1, C.2.2.2.2.1.trans q.2.2⟩) wi hty hn hf (g := mkF m pc L (v :: .ref a :: St)) rfl rfl (hb C.2.1 hd)
  exact (kt h' W' p e s m args below meth c T' _ C X' (Fr.snoc X' N g) e').thru st
theorem putFN {R0 O nm d CC : String} {index kk : Nat} {ty : FieldType} {a : Addr} {v v' old : Value} (hd : decode bs pc = .ok (.putfield index, 3)) (w : (Cond.fieldLink y.cls index R0 nm d).before a0 Z = true) (via : Via Z R0 O nm d) (F : Fld Z h a O nm d old) (E : Exa Z h a CC)
    (Ly : (Cond.lays CC O nm d).before a0 Z = true ∨ ((Cond.laysFinal CC O nm d).before a0 Z = true ∧ y.cls = O ∧ y.name = "<init>")) (wi : (Cond.instantiable CC kk).before a0 Z = true) (hty : parseFieldDescriptor d = some ty) (hn : narrow ty v = v') (hf : fits ty v' = true) (g : n0 ≤ a) (hp : pc + 3 = pc')
    (kt : ∀ h', Wr h h' a (Jvm.RoadKit.slotOf Z O nm d) v' → Go l Z R y bs ml ret n0 Q h' k n pc' L St) : Go l Z R y bs ml ret n0 Q h k n pc L (v :: .ref a :: St) := by
  subst hp
  intro p e s m args below meth c T locs C X N eT
  obtain ⟨T', h', X', e', W', st⟩ := Jvm.RoadKit.putFN X C.1 C.2.2.2.2.2.2.2 C.2.2.2.1 w via eT F E (Ly.imp id fun q => ⟨q.1, q.2.1, C.2.2.2.2.1.trans q.2.2⟩) wi hty hn hf (g := mkF m pc L (v :: .ref a :: St)) rfl rfl (hb C.2.1 hd)
  exact (kt h' W' p e s m args below meth c T' _ C X' (Fr.snoc X' N g) e').thru st
theorem newO {CC : String} {index nn : Nat} (hd : decode bs pc = .ok (.new index, 3)) (w : (Cond.classLink y.cls index CC).before a0 Z = true) (wi : (Cond.instantiable CC nn).before a0 Z = true) (wz : (Cond.initialized CC).before a0 Z = true) (ek : k + 1 = k') (en : n + nn = n') (hc : k' ≤ R.cells) (hl : n' ≤ R.slots) (hp : pc + 3 = pc')
    (kt : ∀ h' a, a = h.size → Ext h h' → Exa Z h' a CC → (∀ {O nm d : String} {ty : FieldType}, Laid Z a0 CC O nm d → parseFieldDescriptor d = some ty → Fld Z h' a O nm d (defaultValue ty)) → Go l Z R y bs ml ret n0 Q h' k' n' pc' L (.ref a :: St)) : Go l Z R y bs ml ret n0 Q h k n pc L St := by
  subst hp ek en
  intro p e s m args below meth c T locs C X N eT
  obtain ⟨T', h', X', e', E, A, D, -, st⟩ := Jvm.RoadKit.newO X C.1 C.2.2.2.2.2.2.2 C.2.2.2.1 w wi wz eT (g := mkF m pc L St) rfl (hb C.2.1 hd) hc hl
  exact (kt h' _ rfl E A D p e s m args below meth c T' _ C X' N e').thru st
theorem newP {aty : ArrayType} {x : Int32} {cap : Nat} (hd : decode bs pc = .ok (.newarray aty, 2)) (w : (Cond.arrayClass (newarray.typeOf aty)).before a0 Z = true) (hn : ¬ x < 0) (hcap : x.toNatClampNeg ≤ cap) (hb' : cap * 8 ≤ 536870912) (ek : k + 1 = k') (en : n + cap = n') (hc : k' ≤ R.cells) (hl : n' ≤ R.slots) (hp : pc + 2 = pc')
    (kt : ∀ h' cA a, a = h.size → Ext h h' → Arr Z h' a (newA cA (newarray.typeOf aty) x) (newarray.typeOf aty) → Go l Z R y bs ml ret n0 Q h' k' n' pc' L (.ref a :: St)) : Go l Z R y bs ml ret n0 Q h k n pc L (.int x :: St) := by
  subst hp ek en
  intro p e s m args below meth c T locs C X N eT
  obtain ⟨T', h', cA, X', e', E, A, st⟩ := Jvm.RoadKit.newP X C.1 C.2.2.2.2.2.2.2 w eT (g := mkF m pc L (.int x :: St)) rfl (hb C.2.1 hd) rfl hn hcap hb' hc hl
  exact (kt h' cA _ rfl E A p e s m args below meth c T' _ C X' N e').thru st
theorem newR {CC : String} {index : Nat} {x : Int32} {cap : Nat} (hd : decode bs pc = .ok (.anewarray index, 3)) (w1 : (Cond.classLink y.cls index CC).before a0 Z = true) (w2 : (Cond.arrayOver (.object CC)).before a0 Z = true) (hn : ¬ x < 0) (hcap : x.toNatClampNeg ≤ cap) (hb' : cap * 8 ≤ 536870912) (ek : k + 1 = k') (en : n + cap = n') (hc : k' ≤ R.cells) (hl : n' ≤ R.slots) (hp : pc + 3 = pc')
    (kt : ∀ h' cA a, a = h.size → Ext h h' → Arr Z h' a (newA cA (.object CC) x) (.object CC) → Ovr Z cA CC → Go l Z R y bs ml ret n0 Q h' k' n' pc' L (.ref a :: St)) : Go l Z R y bs ml ret n0 Q h k n pc L (.int x :: St) := by
  subst hp ek en
  intro p e s m args below meth c T locs C X N eT
  obtain ⟨T', h', cA, X', e', E, A, O, st⟩ := Jvm.RoadKit.newR X C.1 C.2.2.2.2.2.2.2 C.2.2.2.1 w1 w2 eT (g := mkF m pc L (.int x :: St)) rfl (hb C.2.1 hd) rfl hn hcap hb' hc hl
  exact (kt h' cA _ rfl E A O p e s m args below meth c T' _ C X' N e').thru st
theorem stI {a : Addr} {cl : Cell} {j : Int32} {x : Int32} (hd : decode bs pc = .ok (.iastore, 1)) (A : Arr Z h a cl .int) (hj : ¬ (j < 0 ∨ cl.slots.size ≤ j.toNatClampNeg)) (g : n0 ≤ a) (hp : pc + 1 = pc') (kt : ∀ h', Wr h h' a j.toNatClampNeg (.int x) → Go l Z R y bs ml ret n0 Q h' k n pc' L St) : Go l Z R y bs ml ret n0 Q h k n pc L (.int x :: .int j :: .ref a :: St) := by
  subst hp
  intro p e s m args below meth c T locs C X N eT
  obtain ⟨T', h', X', e', W', st⟩ := Jvm.RoadKit.stI X C.1 C.2.2.2.2.2.2.2 eT A hj (g := mkF m pc L (.int x :: .int j :: .ref a :: St)) rfl rfl (hb C.2.1 hd)
  exact (kt h' W' p e s m args below meth c T' _ C X' (Fr.snoc X' N g) e').thru st
theorem stJ {a : Addr} {cl : Cell} {j : Int32} {x : Int64} (hd : decode bs pc = .ok (.lastore, 1)) (A : Arr Z h a cl .long) (hj : ¬ (j < 0 ∨ cl.slots.size ≤ j.toNatClampNeg)) (g : n0 ≤ a) (hp : pc + 1 = pc') (kt : ∀ h', Wr h h' a j.toNatClampNeg (.long x) → Go l Z R y bs ml ret n0 Q h' k n pc' L St) : Go l Z R y bs ml ret n0 Q h k n pc L (.long x :: .int j :: .ref a :: St) := by
  subst hp
  intro p e s m args below meth c T locs C X N eT
  obtain ⟨T', h', X', e', W', st⟩ := Jvm.RoadKit.stJ X C.1 C.2.2.2.2.2.2.2 eT A hj (g := mkF m pc L (.long x :: .int j :: .ref a :: St)) rfl rfl (hb C.2.1 hd)
  exact (kt h' W' p e s m args below meth c T' _ C X' (Fr.snoc X' N g) e').thru st
theorem stB {a : Addr} {cl : Cell} {j : Int32} {x : Int32} (hd : decode bs pc = .ok (.bastore, 1)) (A : Arr Z h a cl .byte) (hj : ¬ (j < 0 ∨ cl.slots.size ≤ j.toNatClampNeg)) (g : n0 ≤ a) (hp : pc + 1 = pc') (kt : ∀ h', Wr h h' a j.toNatClampNeg (.int (nar .byte x)) → Go l Z R y bs ml ret n0 Q h' k n pc' L St) : Go l Z R y bs ml ret n0 Q h k n pc L (.int x :: .int j :: .ref a :: St) := by
  subst hp
  intro p e s m args below meth c T locs C X N eT
  obtain ⟨T', h', X', e', W', st⟩ := Jvm.RoadKit.stB X C.1 C.2.2.2.2.2.2.2 eT A hj (g := mkF m pc L (.int x :: .int j :: .ref a :: St)) rfl rfl (hb C.2.1 hd)
  exact (kt h' W' p e s m args below meth c T' _ C X' (Fr.snoc X' N g) e').thru st
theorem stC {a : Addr} {cl : Cell} {j : Int32} {x : Int32} (hd : decode bs pc = .ok (.castore, 1)) (A : Arr Z h a cl .char) (hj : ¬ (j < 0 ∨ cl.slots.size ≤ j.toNatClampNeg)) (g : n0 ≤ a) (hp : pc + 1 = pc') (kt : ∀ h', Wr h h' a j.toNatClampNeg (.int (nar .char x)) → Go l Z R y bs ml ret n0 Q h' k n pc' L St) : Go l Z R y bs ml ret n0 Q h k n pc L (.int x :: .int j :: .ref a :: St) := by
  subst hp
  intro p e s m args below meth c T locs C X N eT
  obtain ⟨T', h', X', e', W', st⟩ := Jvm.RoadKit.stC X C.1 C.2.2.2.2.2.2.2 eT A hj (g := mkF m pc L (.int x :: .int j :: .ref a :: St)) rfl rfl (hb C.2.1 hd)
  exact (kt h' W' p e s m args below meth c T' _ C X' (Fr.snoc X' N g) e').thru st
theorem stZ {a : Addr} {cl : Cell} {j : Int32} {x : Int32} (hd : decode bs pc = .ok (.bastore, 1)) (A : Arr Z h a cl .boolean) (hj : ¬ (j < 0 ∨ cl.slots.size ≤ j.toNatClampNeg)) (g : n0 ≤ a) (hp : pc + 1 = pc') (kt : ∀ h', Wr h h' a j.toNatClampNeg (.int (nar .boolean x)) → Go l Z R y bs ml ret n0 Q h' k n pc' L St) : Go l Z R y bs ml ret n0 Q h k n pc L (.int x :: .int j :: .ref a :: St) := by
  subst hp
  intro p e s m args below meth c T locs C X N eT
  obtain ⟨T', h', X', e', W', st⟩ := Jvm.RoadKit.stZ X C.1 C.2.2.2.2.2.2.2 eT A hj (g := mkF m pc L (.int x :: .int j :: .ref a :: St)) rfl rfl (hb C.2.1 hd)
  exact (kt h' W' p e s m args below meth c T' _ C X' (Fr.snoc X' N g) e').thru st
theorem stR {a : Addr} {cl : Cell} {ty : FieldType} {j : Int32} {v : Value} (hd : decode bs pc = .ok (.aastore, 1)) (A : Arr Z h a cl ty) (hj : ¬ (j < 0 ∨ cl.slots.size ≤ j.toNatClampNeg)) (hty : ty.isReference = true) (F : Sto Z h a v) (g : n0 ≤ a) (hp : pc + 1 = pc') (kt : ∀ h', Wr h h' a j.toNatClampNeg v → Go l Z R y bs ml ret n0 Q h' k n pc' L St) : Go l Z R y bs ml ret n0 Q h k n pc L (v :: .int j :: .ref a :: St) := by
  subst hp
  intro p e s m args below meth c T locs C X N eT
  obtain ⟨T', h', X', e', W', st⟩ := Jvm.RoadKit.stR X C.1 C.2.2.2.2.2.2.2 eT A hj hty F (g := mkF m pc L (v :: .int j :: .ref a :: St)) rfl rfl (hb C.2.1 hd)
  exact (kt h' W' p e s m args below meth c T' _ C X' (Fr.snoc X' N g) e').thru st
theorem iaload {a : Addr} {cl : Cell} {j : Int32} {v : Value} (hd : decode bs pc = .ok (.iaload, 1)) (A : Arr Z h a cl .int) (hj : ¬ (j < 0 ∨ cl.slots.size ≤ j.toNatClampNeg)) (hv : cl.slots[j.toNatClampNeg]? = some v) (hp : pc + 1 = pc') (kt : Go l Z R y bs ml ret n0 Q h k n pc' L (v :: St)) : Go l Z R y bs ml ret n0 Q h k n pc L (.int j :: .ref a :: St) := by
  subst hp
  intro p e s m args below meth c T locs C X N eT
  exact (kt p e s m args below meth c T locs C X N eT).thru fun t q => X.iaload C.1 (by rw [eT]; exact A.1) (State.isArrayOf_alike C.2.2.2.2.2.2.2.alike A.2.1) A.2.2 hj hv (g := mkF m pc L (.int j :: .ref a :: St)) rfl rfl (hb C.2.1 hd) _ q
theorem laload {a : Addr} {cl : Cell} {j : Int32} {v : Value} (hd : decode bs pc = .ok (.laload, 1)) (A : Arr Z h a cl .long) (hj : ¬ (j < 0 ∨ cl.slots.size ≤ j.toNatClampNeg)) (hv : cl.slots[j.toNatClampNeg]? = some v) (hp : pc + 1 = pc') (kt : Go l Z R y bs ml ret n0 Q h k n pc' L (v :: St)) : Go l Z R y bs ml ret n0 Q h k n pc L (.int j :: .ref a :: St) := by
  subst hp
  intro p e s m args below meth c T locs C X N eT
  exact (kt p e s m args below meth c T locs C X N eT).thru fun t q => X.laload C.1 (by rw [eT]; exact A.1) (State.isArrayOf_alike C.2.2.2.2.2.2.2.alike A.2.1) A.2.2 hj hv (g := mkF m pc L (.int j :: .ref a :: St)) rfl rfl (hb C.2.1 hd) _ q
theorem caload {a : Addr} {cl : Cell} {j : Int32} {v : Value} (hd : decode bs pc = .ok (.caload, 1)) (A : Arr Z h a cl .char) (hj : ¬ (j < 0 ∨ cl.slots.size ≤ j.toNatClampNeg)) (hv : cl.slots[j.toNatClampNeg]? = some v) (hp : pc + 1 = pc') (kt : Go l Z R y bs ml ret n0 Q h k n pc' L (v :: St)) : Go l Z R y bs ml ret n0 Q h k n pc L (.int j :: .ref a :: St) := by
  subst hp
  intro p e s m args below meth c T locs C X N eT
  exact (kt p e s m args below meth c T locs C X N eT).thru fun t q => X.caload C.1 (by rw [eT]; exact A.1) (State.isArrayOf_alike C.2.2.2.2.2.2.2.alike A.2.1) A.2.2 hj hv (g := mkF m pc L (.int j :: .ref a :: St)) rfl rfl (hb C.2.1 hd) _ q
theorem baload {a : Addr} {cl : Cell} {j : Int32} {v : Value} (hd : decode bs pc = .ok (.baload, 1)) (A : Arr Z h a cl .byte) (hj : ¬ (j < 0 ∨ cl.slots.size ≤ j.toNatClampNeg)) (hv : cl.slots[j.toNatClampNeg]? = some v) (hp : pc + 1 = pc') (kt : Go l Z R y bs ml ret n0 Q h k n pc' L (v :: St)) : Go l Z R y bs ml ret n0 Q h k n pc L (.int j :: .ref a :: St) := by
  subst hp
  intro p e s m args below meth c T locs C X N eT
  exact (kt p e s m args below meth c T locs C X N eT).thru fun t q => X.baloadBytes C.1 (by rw [eT]; exact A.1) (State.isArrayOf_alike C.2.2.2.2.2.2.2.alike A.2.1) A.2.2 hj hv (g := mkF m pc L (.int j :: .ref a :: St)) rfl rfl (hb C.2.1 hd) _ q
theorem aaload {a : Addr} {cl : Cell} {ty : FieldType} {j : Int32} {v : Value} (hd : decode bs pc = .ok (.aaload, 1)) (A : Arr Z h a cl ty) (hty : ty.isReference = true) (hj : ¬ (j < 0 ∨ cl.slots.size ≤ j.toNatClampNeg)) (hv : cl.slots[j.toNatClampNeg]? = some v) (hp : pc + 1 = pc') (kt : Go l Z R y bs ml ret n0 Q h k n pc' L (v :: St)) : Go l Z R y bs ml ret n0 Q h k n pc L (.int j :: .ref a :: St) := by
  subst hp
  intro p e s m args below meth c T locs C X N eT
  exact (kt p e s m args below meth c T locs C X N eT).thru fun t q => X.aaload C.1 (by rw [eT]; exact A.1) (State.isArrayOf_alike C.2.2.2.2.2.2.2.alike A.2.1) hty A.2.2 hj hv (g := mkF m pc L (.int j :: .ref a :: St)) rfl rfl (hb C.2.1 hd) _ q
theorem alen {a : Addr} {cl : Cell} {ty : FieldType} {x : Int32} (hd : decode bs pc = .ok (.arraylength, 1)) (A : Arr Z h a cl ty) (hx : cl.slots.size.toInt32 = x) (hp : pc + 1 = pc') (kt : Go l Z R y bs ml ret n0 Q h k n pc' L (.int x :: St)) : Go l Z R y bs ml ret n0 Q h k n pc L (.ref a :: St) := by
  subst hp hx
  intro p e s m args below meth c T locs C X N eT
  exact (kt p e s m args below meth c T locs C X N eT).thru fun t q => X.arraylength C.1 (by rw [eT]; exact A.1) (State.isArrayOf_alike C.2.2.2.2.2.2.2.alike A.2.1) (g := mkF m pc L (.ref a :: St)) rfl rfl (hb C.2.1 hd) _ q
theorem multi22 {index : Nat} {ty : FieldType} {cn : String} (hd : decode bs pc = .ok (.multianewarray index 2, 4)) (w1 : (Cond.classLink y.cls index cn).before a0 Z = true) (hcn : "[" ++ (FieldType.array ty).toString = cn) (w2 : (Cond.arrayOver (.array ty)).before a0 Z = true) (w3 : (Cond.arrayClass ty).before a0 Z = true) (hcb : componentBytes ty ≤ 8) (hdf : fits ty (defaultValue ty) = true) (hdd : (defaultValue ty).isDefault = true) (ek : k + 3 = k') (en : n + 6 = n') (hc : k' ≤ R.cells) (hl : n' ≤ R.slots) (hp : pc + 4 = pc')
    (kt : ∀ h' cA cI a, a = h.size → h'.size = h.size + 3 → Ext h h' → Arv Z h' a cA (.array ty) (2 : Int32) [.ref (a + 1), .ref (a + 2)] .null → Arv Z h' (a + 1) cI ty (2 : Int32) [defaultValue ty, defaultValue ty] (defaultValue ty) → Arv Z h' (a + 2) cI ty (2 : Int32) [defaultValue ty, defaultValue ty] (defaultValue ty) → Z.vm.findClass (FieldType.array ty).toString = some cI → Go l Z R y bs ml ret n0 Q h' k' n' pc' L (.ref a :: St)) : Go l Z R y bs ml ret n0 Q h k n pc L (.int (2 : Int32) :: .int (2 : Int32) :: St) := by
  subst hp ek en hcn
  intro p e s m args below meth c T locs C X N eT
  have hZ := C.2.2.2.2.2.2.2
  have hc2 : (2 : Int32).toNatClampNeg = 2 := by decide
  obtain ⟨vm₁, cA, cI, hW, hfA, hfC, hO, hI, X', st⟩ := X.multianewarray2F C.1 C.2.2.2.1 (mvT hZ w1) ((Cond.arrayOver_setVmC (args := a0) (s := Z) hZ.alike (.array ty)).trans w2) (mvA hZ w3) (g := mkF m pc L (.int (2 : Int32) :: .int (2 : Int32) :: St)) rfl (hb C.2.1 hd) (n := (2 : Int32)) (k := (2 : Int32)) (rest := St) rfl (by decide) (by decide) (by decide) (by rw [hc2]; omega) (by decide) hdf hdd (by rw [hc2]; omega) (by rw [hc2]; omega)
  rw [hc2] at X' st
  subst eT
  obtain ⟨f1, f2, -, -⟩ := Jvm.Free.Multi.fill_facts (T.setVm vm₁) cA cI 2 2 (defaultValue ty) 2
  obtain ⟨o1, o2, o3⟩ := Jvm.Free.Multi.outerC_facts cA 2 (T.setVm vm₁).heap.size 2
  have hsz : (T.setVm vm₁).heap.size = T.heap.size := rfl
  have al : s.vm.Alike Z.vm := hZ.alike.symm
  have EE : Ext T.heap (Jvm.Free.Multi.fill (T.setVm vm₁) cA cI 2 2 (defaultValue ty) 2).heap := ext_of fun a q => Jvm.Free.Multi.fill_old (T.setVm vm₁) cA cI 2 2 (defaultValue ty) q 2
  have inn : ∀ j, j < 2 → Arv Z (Jvm.Free.Multi.fill (T.setVm vm₁) cA cI 2 2 (defaultValue ty) 2).heap (T.heap.size + 1 + j) cI ty (2 : Int32) [defaultValue ty, defaultValue ty] (defaultValue ty) := fun j hj => by
    have hget := Jvm.Free.Multi.fill_inner (T.setVm vm₁) cA cI 2 2 (defaultValue ty) 2 j hj
    refine ⟨_, ⟨hget, State.isArrayOf_alike al (hI 2 (defaultValue ty)).1, (hI 2 (defaultValue ty)).2⟩, rfl, by simp [Jvm.Free.Multi.innerC, hc2], by decide, fun i hi => ?_, fun i hi => ?_⟩
    · simp only [Jvm.Free.Multi.innerC, Array.size_replicate] at hi ⊢
      match i, hi with
      | 0, _ => rfl
      | 1, _ => rfl
    · simp only [Jvm.Free.Multi.innerC, Array.size_replicate] at hi
      match i, hi with
      | 0, _ => exact hdf
      | 1, _ => exact hdf
  have hZc : Z.vm.findClass (FieldType.array ty).toString = some cI := by rw [← hZ.alike.findClass]; exact hfC
  refine (kt _ cA cI T.heap.size rfl f1 EE ?_ (inn 0 (by decide)) (inn 1 (by decide)) hZc p e s m args below meth c _ _ C X' N rfl).thru st
  refine ⟨_, ⟨f2, State.isArrayOf_alike al (hO 2 _ 2).1, (hO 2 _ 2).2⟩, o1, by rw [o3, hc2], by decide, fun i hi => ?_, fun i hi => ?_⟩
  · rw [o3] at hi
    rw [Jvm.Free.Multi.outerC_slot cA 2 _ 2 i hi, if_pos hi]
    match i, hi with
    | 0, _ => rfl
    | 1, _ => rfl
  · rw [o3] at hi
    match i, hi with
    | 0, _ => rfl
    | 1, _ => rfl
theorem castY {KK : String} {index : Nat} {a : Addr} (hd : decode bs pc = .ok (.checkcast index, 3)) (w : (Cond.classLink y.cls index KK).before a0 Z = true) (F : Ins Z h a KK true) (hp : pc + 3 = pc') (kt : Go l Z R y bs ml ret n0 Q h k n pc' L (.ref a :: St)) : Go l Z R y bs ml ret n0 Q h k n pc L (.ref a :: St) := by
  subst hp
  intro p e s m args below meth c T locs C X N eT
  obtain ⟨T', X', e', st⟩ := Jvm.RoadKit.castY X C.1 C.2.2.2.2.2.2.2 C.2.2.2.1 w eT F (g := mkF m pc L (.ref a :: St)) rfl rfl (hb C.2.1 hd)
  exact (kt p e s m args below meth c T' locs C X' N e').thru st
theorem instY {KK : String} {index : Nat} {a : Addr} (hd : decode bs pc = .ok (.instanceof index, 3)) (w : (Cond.classLink y.cls index KK).before a0 Z = true) (F : Ins Z h a KK true) (hp : pc + 3 = pc') (kt : Go l Z R y bs ml ret n0 Q h k n pc' L (.int 1 :: St)) : Go l Z R y bs ml ret n0 Q h k n pc L (.ref a :: St) := by
  subst hp
  intro p e s m args below meth c T locs C X N eT
  obtain ⟨T', X', e', st⟩ := Jvm.RoadKit.instY X C.1 C.2.2.2.2.2.2.2 C.2.2.2.1 w eT F (g := mkF m pc L (.ref a :: St)) rfl rfl (hb C.2.1 hd)
  exact (kt p e s m args below meth c T' locs C X' N e').thru st
theorem instNo {KK CC : String} {index : Nat} {a : Addr} (hd : decode bs pc = .ok (.instanceof index, 3)) (w : (Cond.classLink y.cls index KK).before a0 Z = true) (E : Exa Z h a CC) (F : ∃ c t, Z.vm.findClass CC = some c ∧ Z.vm.findClass KK = some t ∧ Z.vm.assignable c t = false) (hp : pc + 3 = pc') (kt : Go l Z R y bs ml ret n0 Q h k n pc' L (.int 0 :: St)) : Go l Z R y bs ml ret n0 Q h k n pc L (.ref a :: St) := by
  subst hp
  intro p e s m args below meth c T locs C X N eT
  obtain ⟨T', X', e', st⟩ := Jvm.RoadKit.instNo X C.1 C.2.2.2.2.2.2.2 C.2.2.2.1 w eT E F (g := mkF m pc L (.ref a :: St)) rfl rfl (hb C.2.1 hd)
  exact (kt p e s m args below meth c T' locs C X' N e').thru st
theorem instNull {index : Nat} (hd : decode bs pc = .ok (.instanceof index, 3)) (hp : pc + 3 = pc') (kt : Go l Z R y bs ml ret n0 Q h k n pc' L (.int 0 :: St)) : Go l Z R y bs ml ret n0 Q h k n pc L (.null :: St) := by
  subst hp
  intro p e s m args below meth c T locs C X N eT
  exact (kt p e s m args below meth c T locs C X N eT).thru (X.instanceofNull C.1 (g := mkF m pc L (.null :: St)) rfl rfl (hb C.2.1 hd))
theorem castNull {index : Nat} (hd : decode bs pc = .ok (.checkcast index, 3)) (hp : pc + 3 = pc') (kt : Go l Z R y bs ml ret n0 Q h k n pc' L (.null :: St)) : Go l Z R y bs ml ret n0 Q h k n pc L (.null :: St) := by
  subst hp
  intro p e s m args below meth c T locs C X N eT
  exact (kt p e s m args below meth c T locs C X N eT).thru (X.checkcastNull C.1 (g := mkF m pc L (.null :: St)) rfl rfl (hb C.2.1 hd))
theorem initO {index : Nat} {a : Addr} {W : Nat} (hd : decode bs pc = .ok (.invokespecial index, 3)) (w1 : (Cond.methodLink y.cls index Lib.objectInit).before a0 Z = true) (w2 : (Cond.instanceMethod Lib.objectInit).before a0 Z = true) (w3 : (Cond.code Lib.objectInit ⟨#[0xb1]⟩ 1 none).before a0 Z = true) (hsz : L.size = ml) (hf : 1 ≤ R.frames) (hW : (St.map fun v => v.category).sum ≤ W) (hl : W + 12 ≤ R.locals) (hp : pc + 3 = pc') (kt : Go l Z R y bs ml ret n0 Q h k n pc' L St) : Go l Z R y bs ml ret n0 Q h k n pc L (.ref a :: St) := by
  subst hp
  intro p e s m args below meth c T locs C X N eT
  obtain ⟨T', X', e', st⟩ := Jvm.RoadKit.initO X C.1 C.2.2.2.2.2.2.2 C.2.2.2.1 w1 w2 w3 eT (g := mkF m pc L (.ref a :: St)) rfl (by rw [C.2.2.1]; exact hsz) rfl (hb C.2.1 hd) hf (W := W) (by show 2 * 0 + _ ≤ _; omega) hl
  exact (kt p e s m args below meth c T' locs C X' N e').thru st
theorem callS {z : MethodName} {bz : ByteArray} {mz : Nat} {rz : Option FieldType} {rm : Room} {as' : Array Value} {Q' : Option Value → Heap → Prop} {W : Nat} {argsL rest : List Value} {ps : List FieldType} {rt : Option FieldType} {index : Nat} (hd : decode bs pc = .ok (.invokestatic index, 3)) (w1 : (Cond.methodLink y.cls index z).before a0 Z = true) (w2 : (Cond.static z).before a0 Z = true) (w3 : (Cond.initialized z.cls).before a0 Z = true) (w4 : (Cond.code z bz mz rz).before a0 Z = true) (hy : z.cls ≠ "java/lang/invoke/MethodHandle" ∧ z.cls ≠ "java/lang/invoke/VarHandle")
    (con : Con l Z rm z bz mz rz n0 as' h Q') (hf : rm.frames + 1 ≤ R.frames) (hl : W + (mz + 11) + rm.locals ≤ R.locals) (ek : k + rm.cells = k') (en : n + rm.slots = n') (hc : k' ≤ R.cells) (hn : n' ≤ R.slots) (hsz : L.size = ml) (pd : parseMethodDescriptor z.desc = some ⟨ps, rt⟩) (hlen : argsL.length = ps.length) (hst : St = argsL.reverse ++ rest) (has : as' = argsL.toArray) (hW : (rest.map fun v => v.category).sum ≤ W) (hp : pc + 3 = pc')
    (kt : ∀ h' v, Q' v h' → Go l Z R y bs ml ret n0 Q h' k' n' pc' L (v.toList ++ rest)) : Go l Z R y bs ml ret n0 Q h k n pc L St := by
  subst hp has ek en
  intro p e s m args below meth c T locs C X N eT
  have hZ := C.2.2.2.2.2.2.2
  obtain ⟨v, _, ⟨T', Lp, kp, np⟩, -, X', ⟨Lc, ⟨hQ, N'⟩, e1, e2, e3⟩, st⟩ := Jvm.LawKit.callS X C.1 (y := z) C.2.2.2.1 (mvT hZ w1) (mvT hZ w2) (mvT hZ w3) (mvT hZ w4) hy (backOf (W := W) (Q := fun v h' L => Q' v h' ∧ Fr n0 L) (con []) hZ w4 w3 hf hl) (g := mkF m pc L St) rfl (by rw [C.2.2.1]; exact hsz) (argsL := argsL) (rest := rest) (lenOf pd hlen) hst (by show 2 * 0 + _ ≤ _; omega) (hb C.2.1 hd) (fun _ _ => ⟨rfl, eT, hc, hn⟩)
  dsimp only [Pt.U, Pt.locs, Pt.cells, Pt.slots] at X' e1 e2 e3 st hQ
  subst e1 e2 e3
  exact (kt T'.heap v hQ p e s m args below meth c T' _ C X' (Fr.app N N') rfl).thru st
theorem callI {z : MethodName} {bz : ByteArray} {mz : Nat} {rm : Room} {as' : Array Value} {Q' : Option Value → Heap → Prop} {W : Nat} {argsL rest : List Value} {ps : List FieldType} {rt : Option FieldType} {index : Nat} {a : Addr} (hd : decode bs pc = .ok (.invokespecial index, 3)) (hi : z.name = "<init>") (w1 : (Cond.methodLink y.cls index z).before a0 Z = true) (w2 : (Cond.instanceMethod z).before a0 Z = true) (w3 : (Cond.initialized z.cls).before a0 Z = true) (w4 : (Cond.code z bz mz none).before a0 Z = true) (hy : z.cls ≠ "java/lang/invoke/MethodHandle" ∧ z.cls ≠ "java/lang/invoke/VarHandle")
    (con : Con l Z rm z bz mz none n0 as' h Q') (hf : rm.frames + 1 ≤ R.frames) (hl : W + (mz + 11) + rm.locals ≤ R.locals) (ek : k + rm.cells = k') (en : n + rm.slots = n') (hc : k' ≤ R.cells) (hn : n' ≤ R.slots) (hsz : L.size = ml) (pd : parseMethodDescriptor z.desc = some ⟨ps, rt⟩) (hlen : argsL.length = ps.length) (hst : St = argsL.reverse ++ .ref a :: rest) (has : as' = (.ref a :: argsL).toArray) (hW : (rest.map fun v => v.category).sum ≤ W) (hp : pc + 3 = pc')
    (kt : ∀ h' v, Q' v h' → Go l Z R y bs ml ret n0 Q h' k' n' pc' L (v.toList ++ rest)) : Go l Z R y bs ml ret n0 Q h k n pc L St := by
  subst hp has ek en
  intro p e s m args below meth c T locs C X N eT
  have hZ := C.2.2.2.2.2.2.2
  obtain ⟨v, _, ⟨T', Lp, kp, np⟩, -, X', ⟨Lc, ⟨hQ, N'⟩, e1, e2, e3⟩, st⟩ := X.specialBack C.1 (y := z) hi C.2.2.2.1 (mvT hZ w1) (mvT hZ w2) (mvT hZ w4) hy (backOf (W := W) (Q := fun v h' L => Q' v h' ∧ Fr n0 L) (con []) hZ w4 w3 hf hl) (g := mkF m pc L St) rfl (by rw [C.2.2.1]; exact hsz) (Steps.refl _) (a := a) (argsL := argsL) (rest := rest) (lenOf pd hlen) hst (by show 2 * 0 + _ ≤ _; omega) (hb C.2.1 hd) (fun _ _ => ⟨rfl, eT, hc, hn⟩)
  dsimp only [Pt.U, Pt.locs, Pt.cells, Pt.slots] at X' e1 e2 e3 st hQ
  subst e1 e2 e3
  exact (kt T'.heap v hQ p e s m args below meth c T' _ C X' (Fr.app N N') rfl).thru fun t q => st.trans q
theorem callV {z : MethodName} {bz : ByteArray} {mz : Nat} {rz : Option FieldType} {rm : Room} {as' : Array Value} {Q' : Option Value → Heap → Prop} {W : Nat} {argsL rest : List Value} {ps : List FieldType} {rt : Option FieldType} {index : Nat} {CC : String} {a : Addr} (hd : decode bs pc = .ok (.invokevirtual index, 3)) (w1 : (Cond.methodLink y.cls index z).before a0 Z = true) (w2 : (Cond.declares z).before a0 Z = true) (ws : (Cond.selects CC z z).before a0 Z = true) (wi : (Cond.instanceMethod z).before a0 Z = true) (w3 : (Cond.initialized z.cls).before a0 Z = true) (w4 : (Cond.code z bz mz rz).before a0 Z = true) (hy : z.cls ≠ "java/lang/invoke/MethodHandle" ∧ z.cls ≠ "java/lang/invoke/VarHandle") (E : Exa Z h a CC)
    (con : Con l Z rm z bz mz rz n0 as' h Q') (hf : rm.frames + 1 ≤ R.frames) (hl : W + (mz + 11) + rm.locals ≤ R.locals) (ek : k + rm.cells = k') (en : n + rm.slots = n') (hc : k' ≤ R.cells) (hn : n' ≤ R.slots) (hsz : L.size = ml) (pd : parseMethodDescriptor z.desc = some ⟨ps, rt⟩) (hlen : argsL.length = ps.length) (hst : St = argsL.reverse ++ .ref a :: rest) (has : as' = (.ref a :: argsL).toArray) (hW : (rest.map fun v => v.category).sum ≤ W) (hp : pc + 3 = pc')
    (kt : ∀ h' v, Q' v h' → Go l Z R y bs ml ret n0 Q h' k' n' pc' L (v.toList ++ rest)) : Go l Z R y bs ml ret n0 Q h k n pc L St := by
  subst hp has ek en
  intro p e s m args below meth c T locs C X N eT
  have hZ := C.2.2.2.2.2.2.2
  obtain ⟨cq, kq, qa, qb, qc⟩ := isOf hZ eT E
  obtain ⟨v, _, ⟨T', Lp, kp, np⟩, -, X', ⟨Lc, ⟨hQ, N'⟩, e1, e2, e3⟩, st⟩ := X.virtualBack C.1 (y := z) (z := z) C.2.2.2.1 (mvT hZ w1) (mvT hZ w2) (notFace_of_selects (args := #[]) (mvT hZ ws)) (mvT hZ ws) (mvT hZ wi) hy (backOf (W := W) (Q := fun v h' L => Q' v h' ∧ Fr n0 L) (con []) hZ w4 w3 hf hl) qa qc (g := mkF m pc L St) rfl (by rw [C.2.2.1]; exact hsz) (Steps.refl _) (argsL := argsL) (rest := rest) (lenOf pd hlen) hst (by show 2 * 0 + _ ≤ _; omega) (hb C.2.1 hd) (fun _ _ => ⟨rfl, eT, hc, hn⟩)
  dsimp only [Pt.U, Pt.locs, Pt.cells, Pt.slots] at X' e1 e2 e3 st hQ
  subst e1 e2 e3
  exact (kt T'.heap v hQ p e s m args below meth c T' _ C X' (Fr.app N N') rfl).thru fun t q => st.trans q
theorem callVF {z : MethodName} {bz : ByteArray} {mz : Nat} {rz : Option FieldType} {rm : Room} {as' : Array Value} {Q' : Option Value → Heap → Prop} {W : Nat} {argsL rest : List Value} {ps : List FieldType} {rt : Option FieldType} {index cnt : Nat} {x' : MethodName} {CC : String} {a : Addr} (hd : decode bs pc = .ok (.invokeinterface index cnt, 5)) (w1 : (Cond.methodLink y.cls index x').before a0 Z = true) (w2 : (Cond.declares x').before a0 Z = true) (wf : (Cond.interfaceMethod x'.cls x'.cls x'.name x'.desc).before a0 Z = true) (ws : (Cond.selects CC x' z).before a0 Z = true) (wi : (Cond.instanceMethod z).before a0 Z = true) (wp : (Cond.publicMethod z).before a0 Z = true) (wu : (Cond.unhidden CC x'.name x'.desc).before a0 Z = true) (wc : (Cond.castable CC x'.cls).before a0 Z = true) (w3 : (Cond.initialized z.cls).before a0 Z = true) (w4 : (Cond.code z bz mz rz).before a0 Z = true) (hy : x'.cls ≠ "java/lang/invoke/MethodHandle" ∧ x'.cls ≠ "java/lang/invoke/VarHandle") (E : Exa Z h a CC)
    (con : Con l Z rm z bz mz rz n0 as' h Q') (hf : rm.frames + 1 ≤ R.frames) (hl : W + (mz + 11) + rm.locals ≤ R.locals) (ek : k + rm.cells = k') (en : n + rm.slots = n') (hc : k' ≤ R.cells) (hn : n' ≤ R.slots) (hsz : L.size = ml) (pd : parseMethodDescriptor x'.desc = some ⟨ps, rt⟩) (hlen : argsL.length = ps.length) (hst : St = argsL.reverse ++ .ref a :: rest) (has : as' = (.ref a :: argsL).toArray) (hW : (rest.map fun v => v.category).sum ≤ W) (hp : pc + 5 = pc')
    (kt : ∀ h' v, Q' v h' → Go l Z R y bs ml ret n0 Q h' k' n' pc' L (v.toList ++ rest)) : Go l Z R y bs ml ret n0 Q h k n pc L St := by
  subst hp has ek en
  intro p e s m args below meth c T locs C X N eT
  have hZ := C.2.2.2.2.2.2.2
  obtain ⟨cq, kq, qa, qb, qc⟩ := isOf hZ eT E
  obtain ⟨v, _, ⟨T', Lp, kp, np⟩, -, X', ⟨Lc, ⟨hQ, N'⟩, e1, e2, e3⟩, st⟩ := X.interfaceBack C.1 (xi := x') (y := z) C.2.2.2.1 (mvT hZ w1) (mvT hZ w2) (mvT hZ wf (by have g1 := hy.1; have g2 := hy.2; simp [Cond.onTables, Cond.keepsFace, Cond.keeps, Cond.steady, Cond.faceAtom, g1, g2])) (mvT hZ ws) (mvT hZ wi) (mvT hZ wp) (mvT hZ wu) (mvT hZ wc) hy (backOf (W := W) (Q := fun v h' L => Q' v h' ∧ Fr n0 L) (con []) hZ w4 w3 hf hl) qa qb qc (g := mkF m pc L St) rfl (by rw [C.2.2.1]; exact hsz) (Steps.refl _) (argsL := argsL) (rest := rest) (lenOf pd hlen) hst (by show 2 * 0 + _ ≤ _; omega) (hb C.2.1 hd) (fun _ _ => ⟨rfl, eT, hc, hn⟩)
  dsimp only [Pt.U, Pt.locs, Pt.cells, Pt.slots] at X' e1 e2 e3 st hQ
  subst e1 e2 e3
  exact (kt T'.heap v hQ p e s m args below meth c T' _ C X' (Fr.app N N') rfl).thru fun t q => st.trans q
theorem callP {z : MethodName} {bz : ByteArray} {mz : Nat} {rz : Option FieldType} {rm : Room} {as' : Array Value} {Q' : Option Value → Heap → Prop} {W : Nat} {argsL rest : List Value} {ps : List FieldType} {rt : Option FieldType} {index : Nat} {a : Addr} {CC : String} (hd : decode bs pc = .ok (.invokevirtual index, 3)) (w1 : (Cond.methodLink y.cls index z).before a0 Z = true) (wi : (Cond.instanceMethod z).before a0 Z = true) {nn : Nat} (win : (Cond.instantiable z.cls nn).before a0 Z = true) (wp : (Cond.privateMethod z).before a0 Z = true) (w3 : (Cond.initialized z.cls).before a0 Z = true) (w4 : (Cond.code z bz mz rz).before a0 Z = true) (hy : z.cls ≠ "java/lang/invoke/MethodHandle" ∧ z.cls ≠ "java/lang/invoke/VarHandle") (E : Exa Z h a CC)
    (con : Con l Z rm z bz mz rz n0 as' h Q') (hf : rm.frames + 1 ≤ R.frames) (hl : W + (mz + 11) + rm.locals ≤ R.locals) (ek : k + rm.cells = k') (en : n + rm.slots = n') (hc : k' ≤ R.cells) (hn : n' ≤ R.slots) (hsz : L.size = ml) (pd : parseMethodDescriptor z.desc = some ⟨ps, rt⟩) (hlen : argsL.length = ps.length) (hst : St = argsL.reverse ++ .ref a :: rest) (has : as' = (.ref a :: argsL).toArray) (hW : (rest.map fun v => v.category).sum ≤ W) (hp : pc + 3 = pc')
    (kt : ∀ h' v, Q' v h' → Go l Z R y bs ml ret n0 Q h' k' n' pc' L (v.toList ++ rest)) : Go l Z R y bs ml ret n0 Q h k n pc L St := by
  subst hp has ek en
  intro p e s m args below meth c T locs C X N eT
  have hZ := C.2.2.2.2.2.2.2
  have ws : (Cond.selects z.cls z z).before a0 Z = true := by
    obtain ⟨t, kt, g1, g2, g3, g4, -, -⟩ := Cond.instantiable_spec win
    exact selects_self_of_private g1 g2 (Bool.or_eq_false_iff.mp g4).1 (Cond.privateMethod_at wp) wi hy
  obtain ⟨cq, qa, qb⟩ := E.cell
  obtain ⟨v, _, ⟨T', Lp, kp, np⟩, -, X', ⟨Lc, ⟨hQ, N'⟩, e1, e2, e3⟩, st⟩ := X.privateBack C.1 (y := z) C.2.2.2.1 (mvT hZ w1) (mvT hZ wi) (mvT hZ ws) (Cond.privateMethod_at (mvP hZ wp (args := #[]))) (mvT hZ w4) hy (backOf (W := W) (Q := fun v h' L => Q' v h' ∧ Fr n0 L) (con []) hZ w4 w3 hf hl) (g := mkF m pc L St) rfl (by rw [C.2.2.1]; exact hsz) (Steps.refl _) (a := a) (by rw [eT]; exact qa) qb (argsL := argsL) (rest := rest) (lenOf pd hlen) hst (by show 2 * 0 + _ ≤ _; omega) (hb C.2.1 hd) (fun _ _ => ⟨rfl, eT, hc, hn⟩)
  dsimp only [Pt.U, Pt.locs, Pt.cells, Pt.slots] at X' e1 e2 e3 st hQ
  subst e1 e2 e3
  exact (kt T'.heap v hQ p e s m args below meth c T' _ C X' (Fr.app N N') rfl).thru fun t q => st.trans q
theorem callS0 {z : MethodName} {bz : ByteArray} {mz : Nat} {rz : Option FieldType} {rm : Room} {as' : Array Value} {r : Option Value} {St' : List Value} {W : Nat} {argsL rest : List Value} {ps : List FieldType} {rt : Option FieldType} {index : Nat} (hd : decode bs pc = .ok (.invokestatic index, 3)) (w1 : (Cond.methodLink y.cls index z).before a0 Z = true) (w2 : (Cond.static z).before a0 Z = true) (w3 : (Cond.initialized z.cls).before a0 Z = true) (w4 : (Cond.code z bz mz rz).before a0 Z = true) (hy : z.cls ≠ "java/lang/invoke/MethodHandle" ∧ z.cls ≠ "java/lang/invoke/VarHandle")
    (con : Con l Z rm z bz mz rz n0 as' h (Ret r h)) (hf : rm.frames + 1 ≤ R.frames) (hl : W + (mz + 11) + rm.locals ≤ R.locals) (ek : k + rm.cells = k') (en : n + rm.slots = n') (hc : k' ≤ R.cells) (hn : n' ≤ R.slots) (hsz : L.size = ml) (pd : parseMethodDescriptor z.desc = some ⟨ps, rt⟩) (hlen : argsL.length = ps.length) (hst : St = argsL.reverse ++ rest) (has : as' = argsL.toArray) (hW : (rest.map fun v => v.category).sum ≤ W) (hs : r.toList ++ rest = St') (hp : pc + 3 = pc')
    (kt : Go l Z R y bs ml ret n0 Q h k' n' pc' L St') : Go l Z R y bs ml ret n0 Q h k n pc L St := by
  subst hs
  refine callS hd w1 w2 w3 w4 hy con hf hl ek en hc hn hsz pd hlen hst has hW hp ?_
  rintro h' v ⟨rfl, rfl⟩
  exact kt
theorem callI0 {z : MethodName} {bz : ByteArray} {mz : Nat} {rm : Room} {as' : Array Value} {r : Option Value} {St' : List Value} {W : Nat} {argsL rest : List Value} {ps : List FieldType} {rt : Option FieldType} {index : Nat} {a : Addr} (hd : decode bs pc = .ok (.invokespecial index, 3)) (hi : z.name = "<init>") (w1 : (Cond.methodLink y.cls index z).before a0 Z = true) (w2 : (Cond.instanceMethod z).before a0 Z = true) (w3 : (Cond.initialized z.cls).before a0 Z = true) (w4 : (Cond.code z bz mz none).before a0 Z = true) (hy : z.cls ≠ "java/lang/invoke/MethodHandle" ∧ z.cls ≠ "java/lang/invoke/VarHandle")
    (con : Con l Z rm z bz mz none n0 as' h (Ret r h)) (hf : rm.frames + 1 ≤ R.frames) (hl : W + (mz + 11) + rm.locals ≤ R.locals) (ek : k + rm.cells = k') (en : n + rm.slots = n') (hc : k' ≤ R.cells) (hn : n' ≤ R.slots) (hsz : L.size = ml) (pd : parseMethodDescriptor z.desc = some ⟨ps, rt⟩) (hlen : argsL.length = ps.length) (hst : St = argsL.reverse ++ .ref a :: rest) (has : as' = (.ref a :: argsL).toArray) (hW : (rest.map fun v => v.category).sum ≤ W) (hs : r.toList ++ rest = St') (hp : pc + 3 = pc')
    (kt : Go l Z R y bs ml ret n0 Q h k' n' pc' L St') : Go l Z R y bs ml ret n0 Q h k n pc L St := by
  subst hs
  refine callI hd hi w1 w2 w3 w4 hy con hf hl ek en hc hn hsz pd hlen hst has hW hp ?_
  rintro h' v ⟨rfl, rfl⟩
  exact kt
theorem callV0 {z : MethodName} {bz : ByteArray} {mz : Nat} {rz : Option FieldType} {rm : Room} {as' : Array Value} {r : Option Value} {St' : List Value} {W : Nat} {argsL rest : List Value} {ps : List FieldType} {rt : Option FieldType} {index : Nat} {CC : String} {a : Addr} (hd : decode bs pc = .ok (.invokevirtual index, 3)) (w1 : (Cond.methodLink y.cls index z).before a0 Z = true) (w2 : (Cond.declares z).before a0 Z = true) (ws : (Cond.selects CC z z).before a0 Z = true) (wi : (Cond.instanceMethod z).before a0 Z = true) (w3 : (Cond.initialized z.cls).before a0 Z = true) (w4 : (Cond.code z bz mz rz).before a0 Z = true) (hy : z.cls ≠ "java/lang/invoke/MethodHandle" ∧ z.cls ≠ "java/lang/invoke/VarHandle") (E : Exa Z h a CC)
    (con : Con l Z rm z bz mz rz n0 as' h (Ret r h)) (hf : rm.frames + 1 ≤ R.frames) (hl : W + (mz + 11) + rm.locals ≤ R.locals) (ek : k + rm.cells = k') (en : n + rm.slots = n') (hc : k' ≤ R.cells) (hn : n' ≤ R.slots) (hsz : L.size = ml) (pd : parseMethodDescriptor z.desc = some ⟨ps, rt⟩) (hlen : argsL.length = ps.length) (hst : St = argsL.reverse ++ .ref a :: rest) (has : as' = (.ref a :: argsL).toArray) (hW : (rest.map fun v => v.category).sum ≤ W) (hs : r.toList ++ rest = St') (hp : pc + 3 = pc')
    (kt : Go l Z R y bs ml ret n0 Q h k' n' pc' L St') : Go l Z R y bs ml ret n0 Q h k n pc L St := by
  subst hs
  refine callV hd w1 w2 ws wi w3 w4 hy E con hf hl ek en hc hn hsz pd hlen hst has hW hp ?_
  rintro h' v ⟨rfl, rfl⟩
  exact kt
theorem callVF0 {z : MethodName} {bz : ByteArray} {mz : Nat} {rz : Option FieldType} {rm : Room} {as' : Array Value} {r : Option Value} {St' : List Value} {W : Nat} {argsL rest : List Value} {ps : List FieldType} {rt : Option FieldType} {index cnt : Nat} {x' : MethodName} {CC : String} {a : Addr} (hd : decode bs pc = .ok (.invokeinterface index cnt, 5)) (w1 : (Cond.methodLink y.cls index x').before a0 Z = true) (w2 : (Cond.declares x').before a0 Z = true) (wf : (Cond.interfaceMethod x'.cls x'.cls x'.name x'.desc).before a0 Z = true) (ws : (Cond.selects CC x' z).before a0 Z = true) (wi : (Cond.instanceMethod z).before a0 Z = true) (wp : (Cond.publicMethod z).before a0 Z = true) (wu : (Cond.unhidden CC x'.name x'.desc).before a0 Z = true) (wc : (Cond.castable CC x'.cls).before a0 Z = true) (w3 : (Cond.initialized z.cls).before a0 Z = true) (w4 : (Cond.code z bz mz rz).before a0 Z = true) (hy : x'.cls ≠ "java/lang/invoke/MethodHandle" ∧ x'.cls ≠ "java/lang/invoke/VarHandle") (E : Exa Z h a CC)
    (con : Con l Z rm z bz mz rz n0 as' h (Ret r h)) (hf : rm.frames + 1 ≤ R.frames) (hl : W + (mz + 11) + rm.locals ≤ R.locals) (ek : k + rm.cells = k') (en : n + rm.slots = n') (hc : k' ≤ R.cells) (hn : n' ≤ R.slots) (hsz : L.size = ml) (pd : parseMethodDescriptor x'.desc = some ⟨ps, rt⟩) (hlen : argsL.length = ps.length) (hst : St = argsL.reverse ++ .ref a :: rest) (has : as' = (.ref a :: argsL).toArray) (hW : (rest.map fun v => v.category).sum ≤ W) (hs : r.toList ++ rest = St') (hp : pc + 5 = pc')
    (kt : Go l Z R y bs ml ret n0 Q h k' n' pc' L St') : Go l Z R y bs ml ret n0 Q h k n pc L St := by
  subst hs
  refine callVF hd w1 w2 wf ws wi wp wu wc w3 w4 hy E con hf hl ek en hc hn hsz pd hlen hst has hW hp ?_
  rintro h' v ⟨rfl, rfl⟩
  exact kt
end Laws
end Jvm.OwnW
namespace Jvm.Pilot.@@N@@
open Jvm Jvm.ClassFile Sem Op Lib Jvm.Free Jvm.Stand Jvm.LawKit Jvm.RoadKit Bundle Jvm.OwnW Jvm.Pilot.@@N@@.Jvm.D
theorem pd_2829V : parseMethodDescriptor "()V" = some ⟨[], none⟩ := by decide +kernel
theorem pd_28I29V : parseMethodDescriptor "(I)V" = some ⟨[.int], none⟩ := by decide +kernel
theorem pd_28II29I : parseMethodDescriptor "(II)I" = some ⟨[.int, .int], some .int⟩ := by decide +kernel
theorem pd_28II29V : parseMethodDescriptor "(II)V" = some ⟨[.int, .int], none⟩ := by decide +kernel
theorem pd_28Ljava2flang2fObject3b29Z : parseMethodDescriptor "(Ljava/lang/Object;)Z" = some ⟨[(.object "java/lang/Object")], some .boolean⟩ := by decide +kernel
theorem pd_28I29Ljava2flang2fInteger3b : parseMethodDescriptor "(I)Ljava/lang/Integer;" = some ⟨[.int], some (.object "java/lang/Integer")⟩ := by decide +kernel
theorem d1_0 : decode jdk_29_method_65_code 0 = .ok (.iload_n 0, 1) := by decide +kernel
theorem d1_1 : decode jdk_29_method_65_code 1 = .ok (.iload_n 1, 1) := by decide +kernel
theorem d1_2 : decode jdk_29_method_65_code 2 = .ok (.if_icmp .lt 7, 3) := by decide +kernel
theorem d1_5 : decode jdk_29_method_65_code 5 = .ok (.iload_n 0, 1) := by decide +kernel
theorem d1_6 : decode jdk_29_method_65_code 6 = .ok (.goto 4, 3) := by decide +kernel
theorem d1_9 : decode jdk_29_method_65_code 9 = .ok (.iload_n 1, 1) := by decide +kernel
theorem d1_10 : decode jdk_29_method_65_code 10 = .ok (.ireturn, 1) := by decide +kernel
def f1 (q0 : Int32) (q1 : Int32) : Int32 := (if q0 < q1 then q1 else q0)
abbrev GoB1 (l : Launch) (Z : State) (n0 : Nat) (Q : Option Value → Heap → Prop) := Go l Z ({ frames := 0, cells := 0, slots := 0, locals := 0 } : Room) (⟨"java/lang/Math", "max", "(II)I"⟩ : MethodName) jdk_29_method_65_code 2 (some .int) n0 Q
theorem ef1 (m : MethodId) (q0 : Int32) (q1 : Int32) : entryFrame m #[(.int q0), (.int q1)] 2 = mkF m 0 #[.val (.int q0), .val (.int q1)] [] := by first | (simp [entryFrame, mkF, argsToLocals, Value.category]; done) | rfl
set_option maxRecDepth 65536 in
set_option maxHeartbeats 40000000 in
theorem rm1 (l : Launch) (Z : State) (a0 : Array Value) (hw : ∀ d ∈ tables_1, d.before a0 Z = true) (q0 : Int32) (q1 : Int32) (h0 : Heap) (n0 : Nat) :
    Con l Z ({ frames := 0, cells := 0, slots := 0, locals := 0 } : Room) (⟨"java/lang/Math", "max", "(II)I"⟩ : MethodName) jdk_29_method_65_code 2 (some .int) n0 #[(.int q0), (.int q1)] h0 (OwnW.Ret (some (.int (f1 q0 q1))) h0) := by
  refine OwnW.Con.of (by first | decide +kernel | exact plainFor_of_name (by simp [plainName, overriddenIn])) (fun m => ef1 m q0 q1) ?_
  show GoB1 l Z n0 (OwnW.Ret (some (.int (f1 q0 q1))) h0) h0 0 0 0 #[.val (.int q0), .val (.int q1)] []
  refine OwnW.iloadN (pc' := 1) d1_0 rfl rfl ?_
  refine OwnW.iloadN (pc' := 2) d1_1 rfl rfl ?_
  by_cases hc2 : q0 < q1
  ·
    refine OwnW.icmpY (pc' := 9) d1_2 (tlt hc2).1 (by decide) (by decide) ?_
    refine OwnW.iloadN (pc' := 10) d1_9 rfl rfl ?_
    exact OwnW.retI d1_10 rfl (by decide) (by decide) (⟨by first | (simp only [f1, if_pos hc2]; done) | (simp only [f1, if_pos hc2]; rfl), rfl⟩)
  ·
    refine OwnW.icmpN (pc' := 5) d1_2 (flt hc2).1 rfl ?_
    refine OwnW.iloadN (pc' := 6) d1_5 rfl rfl ?_
    refine OwnW.goto (pc' := 10) d1_6 (by decide) (by decide) ?_
    exact OwnW.retI d1_10 rfl (by decide) (by decide) (⟨by first | (simp only [f1, if_neg hc2]; done) | (simp only [f1, if_neg hc2]; rfl), rfl⟩)
theorem d3_0 : decode jdk_30_method_1_code 0 = .ok (.aload_n 0, 1) := by decide +kernel
theorem d3_1 : decode jdk_30_method_1_code 1 = .ok (.invokespecial 1, 3) := by decide +kernel
theorem d3_4 : decode jdk_30_method_1_code 4 = .ok (.return_, 1) := by decide +kernel
abbrev GoB3 (l : Launch) (Z : State) (n0 : Nat) (Q : Option Value → Heap → Prop) := Go l Z ({ frames := 1, cells := 0, slots := 0, locals := 12 } : Room) (⟨"java/lang/Record", "<init>", "()V"⟩ : MethodName) jdk_30_method_1_code 1 none n0 Q
theorem ef3 (m : MethodId) (o : Addr) : entryFrame m #[(.ref o)] 1 = mkF m 0 #[.val (.ref o)] [] := by first | (simp [entryFrame, mkF, argsToLocals, Value.category]; done) | rfl
set_option maxRecDepth 65536 in
set_option maxHeartbeats 40000000 in
theorem rm3 (l : Launch) (Z : State) (a0 : Array Value) (hw : ∀ d ∈ tables_1, d.before a0 Z = true) (o : Addr) (h0 : Heap) (n0 : Nat) :
    Con l Z ({ frames := 1, cells := 0, slots := 0, locals := 12 } : Room) (⟨"java/lang/Record", "<init>", "()V"⟩ : MethodName) jdk_30_method_1_code 1 none n0 #[(.ref o)] h0 (OwnW.Ret none h0) := by
  refine OwnW.Con.of (by first | decide +kernel | exact plainFor_of_name (by simp [plainName, overriddenIn])) (fun m => ef3 m o) ?_
  show GoB3 l Z n0 (OwnW.Ret none h0) h0 0 0 0 #[.val (.ref o)] []
  refine OwnW.aloadN (pc' := 1) d3_0 rfl (rfl) rfl ?_
  refine OwnW.initO (a0 := a0) (pc' := 4) (W := 0) d3_1 (hw _ (List.mem_of_getElem? (i := 16) rfl)) (hw _ (List.mem_of_getElem? (i := 17) rfl)) (hw _ (List.mem_of_getElem? (i := 18) rfl)) rfl (by decide) (Nat.le_of_ble_eq_true rfl) (by decide) rfl ?_
  exact OwnW.ret0 d3_4 rfl (by decide) (by decide) (⟨rfl, rfl⟩)
theorem d8_0 : decode jdk_18_method_1_code 0 = .ok (.aload_n 0, 1) := by decide +kernel
theorem d8_1 : decode jdk_18_method_1_code 1 = .ok (.invokespecial 1, 3) := by decide +kernel
theorem d8_4 : decode jdk_18_method_1_code 4 = .ok (.return_, 1) := by decide +kernel
abbrev GoB8 (l : Launch) (Z : State) (n0 : Nat) (Q : Option Value → Heap → Prop) := Go l Z ({ frames := 1, cells := 0, slots := 0, locals := 12 } : Room) (⟨"java/lang/Number", "<init>", "()V"⟩ : MethodName) jdk_18_method_1_code 1 none n0 Q
theorem ef8 (m : MethodId) (o : Addr) : entryFrame m #[(.ref o)] 1 = mkF m 0 #[.val (.ref o)] [] := by first | (simp [entryFrame, mkF, argsToLocals, Value.category]; done) | rfl
set_option maxRecDepth 65536 in
set_option maxHeartbeats 40000000 in
theorem rm8 (l : Launch) (Z : State) (a0 : Array Value) (hw : ∀ d ∈ tables_1, d.before a0 Z = true) (o : Addr) (h0 : Heap) (n0 : Nat) :
    Con l Z ({ frames := 1, cells := 0, slots := 0, locals := 12 } : Room) (⟨"java/lang/Number", "<init>", "()V"⟩ : MethodName) jdk_18_method_1_code 1 none n0 #[(.ref o)] h0 (OwnW.Ret none h0) := by
  refine OwnW.Con.of (by first | decide +kernel | exact plainFor_of_name (by simp [plainName, overriddenIn])) (fun m => ef8 m o) ?_
  show GoB8 l Z n0 (OwnW.Ret none h0) h0 0 0 0 #[.val (.ref o)] []
  refine OwnW.aloadN (pc' := 1) d8_0 rfl (rfl) rfl ?_
  refine OwnW.initO (a0 := a0) (pc' := 4) (W := 0) d8_1 (hw _ (List.mem_of_getElem? (i := 52) rfl)) (hw _ (List.mem_of_getElem? (i := 17) rfl)) (hw _ (List.mem_of_getElem? (i := 18) rfl)) rfl (by decide) (Nat.le_of_ble_eq_true rfl) (by decide) rfl ?_
  exact OwnW.ret0 d8_4 rfl (by decide) (by decide) (⟨rfl, rfl⟩)
theorem d2_0 : decode prog_30_method_1_code 0 = .ok (.aload_n 0, 1) := by decide +kernel
theorem d2_1 : decode prog_30_method_1_code 1 = .ok (.invokespecial 1, 3) := by decide +kernel
theorem d2_4 : decode prog_30_method_1_code 4 = .ok (.iload_n 1, 1) := by decide +kernel
theorem d2_5 : decode prog_30_method_1_code 5 = .ok (.iconst 1, 1) := by decide +kernel
theorem d2_6 : decode prog_30_method_1_code 6 = .ok (.if_icmp .lt 8, 3) := by decide +kernel
theorem d2_9 : decode prog_30_method_1_code 9 = .ok (.iload_n 2, 1) := by decide +kernel
theorem d2_10 : decode prog_30_method_1_code 10 = .ok (.iload_n 1, 1) := by decide +kernel
theorem d2_11 : decode prog_30_method_1_code 11 = .ok (.if_icmp .ge 18, 3) := by decide +kernel
theorem d2_29 : decode prog_30_method_1_code 29 = .ok (.aload_n 0, 1) := by decide +kernel
theorem d2_30 : decode prog_30_method_1_code 30 = .ok (.iload_n 1, 1) := by decide +kernel
theorem d2_31 : decode prog_30_method_1_code 31 = .ok (.putfield 16, 3) := by decide +kernel
theorem d2_34 : decode prog_30_method_1_code 34 = .ok (.aload_n 0, 1) := by decide +kernel
theorem d2_35 : decode prog_30_method_1_code 35 = .ok (.iload_n 2, 1) := by decide +kernel
theorem d2_36 : decode prog_30_method_1_code 36 = .ok (.putfield 22, 3) := by decide +kernel
theorem d2_39 : decode prog_30_method_1_code 39 = .ok (.return_, 1) := by decide +kernel
def Q2 (Z : State) (o : Addr) (q0 : Int32) (q1 : Int32) (h0 : Heap) (v : Option Value) (h : Heap) : Prop := v = none ∧ Keep h0 h [o] ∧ Exa Z h o "com/example/paystage/paystage/Fraction" ∧ Fld Z h o "com/example/paystage/paystage/Fraction" "numerator" "I" (.int q0) ∧ Fld Z h o "com/example/paystage/paystage/Fraction" "denominator" "I" (.int q1)
abbrev GoB2 (l : Launch) (Z : State) (n0 : Nat) (Q : Option Value → Heap → Prop) := Go l Z ({ frames := 2, cells := 0, slots := 0, locals := 24 } : Room) (⟨"com/example/paystage/paystage/Fraction", "<init>", "(II)V"⟩ : MethodName) prog_30_method_1_code 3 none n0 Q
theorem ef2 (m : MethodId) (o : Addr) (q0 : Int32) (q1 : Int32) : entryFrame m #[(.ref o), (.int q0), (.int q1)] 3 = mkF m 0 #[.val (.ref o), .val (.int q0), .val (.int q1)] [] := by first | (simp [entryFrame, mkF, argsToLocals, Value.category]; done) | rfl
set_option maxRecDepth 65536 in
set_option maxHeartbeats 40000000 in
theorem rm2 (l : Launch) (Z : State) (a0 : Array Value) (hw : ∀ d ∈ tables_1, d.before a0 Z = true) (o : Addr) (q0 : Int32) (q1 : Int32) (h0 : Heap) (n0 : Nat) (Z0 : n0 ≤ h0.size) (g_o : n0 ≤ o) (E_o : Exa Z h0 o "com/example/paystage/paystage/Fraction") (F_numerator : Fld Z h0 o "com/example/paystage/paystage/Fraction" "numerator" "I" (.int (0 : Int32))) (F_denominator : Fld Z h0 o "com/example/paystage/paystage/Fraction" "denominator" "I" (.int (0 : Int32))) (hq0 : ¬ q0 < (1 : Int32)) (hq1 : ¬ q1 < q0) :
    Con l Z ({ frames := 2, cells := 0, slots := 0, locals := 24 } : Room) (⟨"com/example/paystage/paystage/Fraction", "<init>", "(II)V"⟩ : MethodName) prog_30_method_1_code 3 none n0 #[(.ref o), (.int q0), (.int q1)] h0 (Q2 Z o q0 q1 h0) := by
  refine OwnW.Con.of (by first | decide +kernel | exact plainFor_of_name (by simp [plainName, overriddenIn])) (fun m => ef2 m o q0 q1) ?_
  show GoB2 l Z n0 (Q2 Z o q0 q1 h0) h0 0 0 0 #[.val (.ref o), .val (.int q0), .val (.int q1)] []
  refine OwnW.aloadN (pc' := 1) d2_0 rfl (rfl) rfl ?_
  refine OwnW.callI0 (a0 := a0) (pc' := 4) (W := 0) (k' := 0) (n' := 0) (argsL := []) (rest := []) (St' := []) d2_1 rfl (hw _ (List.mem_of_getElem? (i := 11) rfl)) (hw _ (List.mem_of_getElem? (i := 12) rfl)) (hw _ (List.mem_of_getElem? (i := 14) rfl)) (hw _ (List.mem_of_getElem? (i := 15) rfl)) (by decide) (rm3 l Z a0 hw o h0 n0) (by decide) (by decide) rfl rfl (by decide) (by decide) rfl pd_2829V rfl rfl rfl (Nat.le_of_ble_eq_true rfl) rfl rfl ?_
  refine OwnW.iloadN (pc' := 5) d2_4 rfl rfl ?_
  refine OwnW.iconst (pc' := 6) (v := (1 : Int32)) d2_5 rfl rfl ?_
  refine OwnW.icmpN (pc' := 9) d2_6 (flt hq0).1 rfl ?_
  refine OwnW.iloadN (pc' := 10) d2_9 rfl rfl ?_
  refine OwnW.iloadN (pc' := 11) d2_10 rfl rfl ?_
  refine OwnW.icmpY (pc' := 29) d2_11 (flt hq1).2.1 (by decide) (by decide) ?_
  refine OwnW.aloadN (pc' := 30) d2_29 rfl (rfl) rfl ?_
  refine OwnW.iloadN (pc' := 31) d2_30 rfl rfl ?_
  refine OwnW.putF (a0 := a0) (pc' := 34) d2_31 (host := "") (Or.inl (hw _ (List.mem_of_getElem? (i := 19) rfl))) Via.refl F_numerator E_o (Or.inr ⟨(hw _ (List.mem_of_getElem? (i := 20) rfl)), rfl, rfl⟩) (hw _ (List.mem_of_getElem? (i := 6) rfl)) (ty := .int) (by decide) rfl rfl g_o rfl ?_
  intro h1 W1
  have sz2 : n0 ≤ h1.size := (by rw [W1.size]; exact Z0)
  have F3 := F_numerator.same W1
  refine OwnW.aloadN (pc' := 35) d2_34 rfl (rfl) rfl ?_
  refine OwnW.iloadN (pc' := 36) d2_35 rfl rfl ?_
  have F5 := (F_denominator.other W1 (Or.inr (slot_ne (a0 := a0) (C := "com/example/paystage/paystage/Fraction") (Or.inr (hw _ (List.mem_of_getElem? (i := 22) rfl))) (Or.inr (hw _ (List.mem_of_getElem? (i := 20) rfl))) (by decide) (t := .int) (t' := .int) (by decide) (by decide))))
  have F6 := (E_o.wr W1)
  refine OwnW.putF (a0 := a0) (pc' := 39) d2_36 (host := "") (Or.inl (hw _ (List.mem_of_getElem? (i := 21) rfl))) Via.refl F5 F6 (Or.inr ⟨(hw _ (List.mem_of_getElem? (i := 22) rfl)), rfl, rfl⟩) (hw _ (List.mem_of_getElem? (i := 6) rfl)) (ty := .int) (by decide) rfl rfl g_o rfl ?_
  intro h4 W4
  have sz7 : n0 ≤ h4.size := (by rw [W4.size]; exact sz2)
  have F8 := F5.same W4
  exact OwnW.ret0 d2_39 rfl (by decide) (by decide) (⟨rfl, (((Keep.refl h0 [o]).wr W1 (Or.inl (List.mem_of_getElem? (i := 0) rfl))).wr W4 (Or.inl (List.mem_of_getElem? (i := 0) rfl))), (F6.wr W4), (F3.other W4 (Or.inr (slot_ne (a0 := a0) (C := "com/example/paystage/paystage/Fraction") (Or.inr (hw _ (List.mem_of_getElem? (i := 20) rfl))) (Or.inr (hw _ (List.mem_of_getElem? (i := 22) rfl))) (by decide) (t := .int) (t' := .int) (by decide) (by decide)))), F8⟩)
theorem d7_0 : decode jdk_33_method_23_code 0 = .ok (.aload_n 0, 1) := by decide +kernel
theorem d7_1 : decode jdk_33_method_23_code 1 = .ok (.invokespecial 202, 3) := by decide +kernel
theorem d7_4 : decode jdk_33_method_23_code 4 = .ok (.aload_n 0, 1) := by decide +kernel
theorem d7_5 : decode jdk_33_method_23_code 5 = .ok (.iload_n 1, 1) := by decide +kernel
theorem d7_6 : decode jdk_33_method_23_code 6 = .ok (.putfield 205, 3) := by decide +kernel
theorem d7_9 : decode jdk_33_method_23_code 9 = .ok (.return_, 1) := by decide +kernel
def Q7 (Z : State) (o : Addr) (q0 : Int32) (h0 : Heap) (v : Option Value) (h : Heap) : Prop := v = none ∧ Keep h0 h [o] ∧ Exa Z h o "java/lang/Integer" ∧ Fld Z h o "java/lang/Integer" "value" "I" (.int q0)
abbrev GoB7 (l : Launch) (Z : State) (n0 : Nat) (Q : Option Value → Heap → Prop) := Go l Z ({ frames := 2, cells := 0, slots := 0, locals := 24 } : Room) (⟨"java/lang/Integer", "<init>", "(I)V"⟩ : MethodName) jdk_33_method_23_code 2 none n0 Q
theorem ef7 (m : MethodId) (o : Addr) (q0 : Int32) : entryFrame m #[(.ref o), (.int q0)] 2 = mkF m 0 #[.val (.ref o), .val (.int q0)] [] := by first | (simp [entryFrame, mkF, argsToLocals, Value.category]; done) | rfl
set_option maxRecDepth 65536 in
set_option maxHeartbeats 40000000 in
theorem rm7 (l : Launch) (Z : State) (a0 : Array Value) (hw : ∀ d ∈ tables_1, d.before a0 Z = true) (o : Addr) (q0 : Int32) (h0 : Heap) (n0 : Nat) (Z0 : n0 ≤ h0.size) (g_o : n0 ≤ o) (E_o : Exa Z h0 o "java/lang/Integer") (F_value : Fld Z h0 o "java/lang/Integer" "value" "I" (.int (0 : Int32))) :
    Con l Z ({ frames := 2, cells := 0, slots := 0, locals := 24 } : Room) (⟨"java/lang/Integer", "<init>", "(I)V"⟩ : MethodName) jdk_33_method_23_code 2 none n0 #[(.ref o), (.int q0)] h0 (Q7 Z o q0 h0) := by
  refine OwnW.Con.of (by first | decide +kernel | exact plainFor_of_name (by simp [plainName, overriddenIn])) (fun m => ef7 m o q0) ?_
  show GoB7 l Z n0 (Q7 Z o q0 h0) h0 0 0 0 #[.val (.ref o), .val (.int q0)] []
  refine OwnW.aloadN (pc' := 1) d7_0 rfl (rfl) rfl ?_
  refine OwnW.callI0 (a0 := a0) (pc' := 4) (W := 0) (k' := 0) (n' := 0) (argsL := []) (rest := []) (St' := []) d7_1 rfl (hw _ (List.mem_of_getElem? (i := 46) rfl)) (hw _ (List.mem_of_getElem? (i := 47) rfl)) (hw _ (List.mem_of_getElem? (i := 50) rfl)) (hw _ (List.mem_of_getElem? (i := 51) rfl)) (by decide) (rm8 l Z a0 hw o h0 n0) (by decide) (by decide) rfl rfl (by decide) (by decide) rfl pd_2829V rfl rfl rfl (Nat.le_of_ble_eq_true rfl) rfl rfl ?_
  refine OwnW.aloadN (pc' := 5) d7_4 rfl (rfl) rfl ?_
  refine OwnW.iloadN (pc' := 6) d7_5 rfl rfl ?_
  refine OwnW.putF (a0 := a0) (pc' := 9) d7_6 (host := "") (Or.inl (hw _ (List.mem_of_getElem? (i := 53) rfl))) Via.refl F_value E_o (Or.inr ⟨(hw _ (List.mem_of_getElem? (i := 54) rfl)), rfl, rfl⟩) (hw _ (List.mem_of_getElem? (i := 41) rfl)) (ty := .int) (by decide) rfl rfl g_o rfl ?_
  intro h1 W1
  have sz2 : n0 ≤ h1.size := (by rw [W1.size]; exact Z0)
  have F3 := F_value.same W1
  exact OwnW.ret0 d7_9 rfl (by decide) (by decide) (⟨rfl, ((Keep.refl h0 [o]).wr W1 (Or.inl (List.mem_of_getElem? (i := 0) rfl))), (E_o.wr W1), F3⟩)
theorem d6_0 : decode jdk_33_method_22_code 0 = .ok (.iload_n 0, 1) := by decide +kernel
theorem d6_1 : decode jdk_33_method_22_code 1 = .ok (.bipush (-128), 2) := by decide +kernel
theorem d6_3 : decode jdk_33_method_22_code 3 = .ok (.if_icmp .lt 20, 3) := by decide +kernel
theorem d6_6 : decode jdk_33_method_22_code 6 = .ok (.iload_n 0, 1) := by decide +kernel
theorem d6_7 : decode jdk_33_method_22_code 7 = .ok (.getstatic 191, 3) := by decide +kernel
theorem d6_10 : decode jdk_33_method_22_code 10 = .ok (.if_icmp .gt 13, 3) := by decide +kernel
theorem d6_13 : decode jdk_33_method_22_code 13 = .ok (.getstatic 195, 3) := by decide +kernel
theorem d6_16 : decode jdk_33_method_22_code 16 = .ok (.iload_n 0, 1) := by decide +kernel
theorem d6_17 : decode jdk_33_method_22_code 17 = .ok (.sipush 128, 3) := by decide +kernel
theorem d6_20 : decode jdk_33_method_22_code 20 = .ok (.iadd, 1) := by decide +kernel
theorem d6_21 : decode jdk_33_method_22_code 21 = .ok (.aaload, 1) := by decide +kernel
theorem d6_22 : decode jdk_33_method_22_code 22 = .ok (.areturn, 1) := by decide +kernel
theorem d6_23 : decode jdk_33_method_22_code 23 = .ok (.new 1, 3) := by decide +kernel
theorem d6_26 : decode jdk_33_method_22_code 26 = .ok (.dup, 1) := by decide +kernel
theorem d6_27 : decode jdk_33_method_22_code 27 = .ok (.iload_n 0, 1) := by decide +kernel
theorem d6_28 : decode jdk_33_method_22_code 28 = .ok (.invokespecial 199, 3) := by decide +kernel
theorem d6_31 : decode jdk_33_method_22_code 31 = .ok (.areturn, 1) := by decide +kernel
def Q6 (Z : State) (q0 : Int32) (ca : Addr) (h0 : Heap) (v : Option Value) (h : Heap) : Prop := ∃ (x0 : Addr), v = some (.ref x0) ∧ Keep h0 h [] ∧ Exa Z h x0 "java/lang/Integer"
abbrev GoB6 (l : Launch) (Z : State) (n0 : Nat) (Q : Option Value → Heap → Prop) := Go l Z ({ frames := 3, cells := 1, slots := 1, locals := 38 } : Room) (⟨"java/lang/Integer", "valueOf", "(I)Ljava/lang/Integer;"⟩ : MethodName) jdk_33_method_22_code 1 (some (.object "java/lang/Integer")) n0 Q
theorem ef6 (m : MethodId) (q0 : Int32) : entryFrame m #[(.int q0)] 1 = mkF m 0 #[.val (.int q0)] [] := by first | (simp [entryFrame, mkF, argsToLocals, Value.category]; done) | rfl
set_option maxRecDepth 65536 in
set_option maxHeartbeats 40000000 in
theorem rm6 (l : Launch) (Z : State) (a0 : Array Value) (hw : ∀ d ∈ tables_1, d.before a0 Z = true) (q0 : Int32) (ca : Addr) (h0 : Heap) (n0 : Nat) (Z0 : n0 ≤ h0.size) (S_high : Sta Z h0 "java/lang/Integer$IntegerCache" "high" "I" (.int (127 : Int32))) (S_cache : Sta Z h0 "java/lang/Integer$IntegerCache" "cache" "[Ljava/lang/Integer;" (.ref ca)) (hq : ¬ q0 < (-128 : Int32)) (HC : ∀ w : Int32, ¬ w < (-128 : Int32) → ¬ (127 : Int32) < w → ∃ (cl : Cell) (r : Addr), Arr Z h0 ca cl (.object "java/lang/Integer") ∧ ¬ ((w + (128 : Int32)) < 0 ∨ cl.slots.size ≤ (w + (128 : Int32)).toNatClampNeg) ∧ cl.slots[(w + (128 : Int32)).toNatClampNeg]? = some (.ref r) ∧ Exa Z h0 r "java/lang/Integer") :
    Con l Z ({ frames := 3, cells := 1, slots := 1, locals := 38 } : Room) (⟨"java/lang/Integer", "valueOf", "(I)Ljava/lang/Integer;"⟩ : MethodName) jdk_33_method_22_code 1 (some (.object "java/lang/Integer")) n0 #[(.int q0)] h0 (Q6 Z q0 ca h0) := by
  refine OwnW.Con.of (by first | decide +kernel | exact plainFor_of_name (by simp [plainName, overriddenIn])) (fun m => ef6 m q0) ?_
  show GoB6 l Z n0 (Q6 Z q0 ca h0) h0 0 0 0 #[.val (.int q0)] []
  refine OwnW.iloadN (pc' := 1) d6_0 rfl rfl ?_
  refine OwnW.bipush (pc' := 3) (v := (-128 : Int32)) d6_1 rfl rfl ?_
  refine OwnW.icmpN (pc' := 6) d6_3 (flt hq).1 rfl ?_
  refine OwnW.iloadN (pc' := 7) d6_6 rfl rfl ?_
  refine OwnW.getS (a0 := a0) (pc' := 10) d6_7 (host := "") (Or.inl (hw _ (List.mem_of_getElem? (i := 34) rfl))) Via.refl S_high rfl ?_
  by_cases hc10 : (127 : Int32) < q0
  ·
    refine OwnW.icmpY (pc' := 23) d6_10 (tlt hc10).2.2.1 (by decide) (by decide) ?_
    refine OwnW.newO (a0 := a0) (pc' := 26) (k' := 1) (n' := 1) d6_23 (hw _ (List.mem_of_getElem? (i := 40) rfl)) (hw _ (List.mem_of_getElem? (i := 41) rfl)) (hw _ (List.mem_of_getElem? (i := 32) rfl)) rfl rfl (by decide) (by decide) rfl ?_
    intro h1 ad1 g1 E1 A1 D1
    have ge_ad1 : n0 ≤ ad1 := Nat.le_trans Z0 (Nat.le_of_eq g1.symm)
    have sz_ad1 : n0 ≤ h1.size := Nat.le_trans Z0 E1.1
    have F1_value : Fld Z h1 ad1 "java/lang/Integer" "value" "I" (.int (0 : Int32)) := D1 (Or.inr (hw _ (List.mem_of_getElem? (i := 54) rfl))) (ty := .int) (by decide)
    refine OwnW.dup (pc' := 27) d6_26 rfl rfl ?_
    refine OwnW.iloadN (pc' := 28) d6_27 rfl rfl ?_
    refine OwnW.callI (a0 := a0) (pc' := 31) (W := 1) (k' := 1) (n' := 1) (argsL := [(.int q0)]) (rest := [(.ref ad1)]) d6_28 rfl (hw _ (List.mem_of_getElem? (i := 42) rfl)) (hw _ (List.mem_of_getElem? (i := 43) rfl)) (hw _ (List.mem_of_getElem? (i := 32) rfl)) (hw _ (List.mem_of_getElem? (i := 45) rfl)) (by decide) (rm7 l Z a0 hw ad1 q0 h1 n0 sz_ad1 ge_ad1 A1 F1_value) (by decide) (by decide) rfl rfl (by decide) (by decide) rfl pd_28I29V rfl rfl rfl (Nat.le_of_ble_eq_true rfl) rfl ?_
    rintro h2 v2 ⟨rfl, K2, E2, F2_value⟩
    have F3 := (S_high.ext E1)
    have S4 := OwnW.sta_keep F3 K2 (allS (OwnW.exa_ns A1) all0)
    have F5 := (S_cache.ext E1)
    have S6 := OwnW.sta_keep F5 K2 (allS (OwnW.exa_ns A1) all0)
    have sz7 : n0 ≤ h2.size := Nat.le_trans sz_ad1 K2.1
    show GoB6 l Z n0 (Q6 Z q0 ca h0) h2 1 1 31 #[.val (.int q0)] [(.ref ad1)]
    exact OwnW.retA d6_31 rfl rfl rfl (by decide) (by decide) (⟨ad1, rfl, (((Keep.refl h0 []).ext E1).trans K2 (allS (Or.inr (Nat.le_trans (Nat.le_refl _) (Nat.le_of_eq g1.symm))) all0)), E2⟩)
  ·
    refine OwnW.icmpN (pc' := 13) d6_10 (flt hc10).2.2.1 rfl ?_
    refine OwnW.getS (a0 := a0) (pc' := 16) d6_13 (host := "") (Or.inl (hw _ (List.mem_of_getElem? (i := 36) rfl))) Via.refl S_cache rfl ?_
    refine OwnW.iloadN (pc' := 17) d6_16 rfl rfl ?_
    refine OwnW.sipush (pc' := 20) (v := (128 : Int32)) d6_17 rfl rfl ?_
    refine OwnW.iadd (pc' := 21) d6_20 rfl ?_
    obtain ⟨clc, rc, Ac, jc, vc, Ec⟩ := HC q0 hq hc10
    refine OwnW.aaload (pc' := 22) (v := .ref rc) d6_21 Ac rfl jc vc rfl ?_
    exact OwnW.retA d6_22 rfl rfl rfl (by decide) (by decide) (⟨rc, rfl, (Keep.refl h0 []), Ec⟩)
theorem d5_0 : decode prog_30_method_4_code 0 = .ok (.aload_n 1, 1) := by decide +kernel
theorem d5_1 : decode prog_30_method_4_code 1 = .ok (.instanceof 17, 3) := by decide +kernel
theorem d5_4 : decode prog_30_method_4_code 4 = .ok (.ifCond .eq 34, 3) := by decide +kernel
theorem d5_7 : decode prog_30_method_4_code 7 = .ok (.aload_n 1, 1) := by decide +kernel
theorem d5_8 : decode prog_30_method_4_code 8 = .ok (.checkcast 17, 3) := by decide +kernel
theorem d5_11 : decode prog_30_method_4_code 11 = .ok (.astore_n 2, 1) := by decide +kernel
theorem d5_12 : decode prog_30_method_4_code 12 = .ok (.aload_n 2, 1) := by decide +kernel
theorem d5_13 : decode prog_30_method_4_code 13 = .ok (.getfield 16, 3) := by decide +kernel
theorem d5_16 : decode prog_30_method_4_code 16 = .ok (.aload_n 0, 1) := by decide +kernel
theorem d5_17 : decode prog_30_method_4_code 17 = .ok (.getfield 16, 3) := by decide +kernel
theorem d5_20 : decode prog_30_method_4_code 20 = .ok (.if_icmp .ne 18, 3) := by decide +kernel
theorem d5_23 : decode prog_30_method_4_code 23 = .ok (.aload_n 2, 1) := by decide +kernel
theorem d5_24 : decode prog_30_method_4_code 24 = .ok (.getfield 22, 3) := by decide +kernel
theorem d5_27 : decode prog_30_method_4_code 27 = .ok (.aload_n 0, 1) := by decide +kernel
theorem d5_28 : decode prog_30_method_4_code 28 = .ok (.getfield 22, 3) := by decide +kernel
theorem d5_31 : decode prog_30_method_4_code 31 = .ok (.if_icmp .ne 7, 3) := by decide +kernel
theorem d5_34 : decode prog_30_method_4_code 34 = .ok (.iconst 1, 1) := by decide +kernel
theorem d5_35 : decode prog_30_method_4_code 35 = .ok (.goto 4, 3) := by decide +kernel
theorem d5_38 : decode prog_30_method_4_code 38 = .ok (.iconst 0, 1) := by decide +kernel
theorem d5_39 : decode prog_30_method_4_code 39 = .ok (.ireturn, 1) := by decide +kernel
def f5 (o : Addr) (q0 : Addr) (c0 : Int32) (c1 : Int32) (c2 : Int32) (c3 : Int32) : Int32 := (if c2 = c0 then (if c3 = c1 then (1 : Int32) else (0 : Int32)) else (0 : Int32))
abbrev GoB5 (l : Launch) (Z : State) (n0 : Nat) (Q : Option Value → Heap → Prop) := Go l Z ({ frames := 0, cells := 0, slots := 0, locals := 0 } : Room) (⟨"com/example/paystage/paystage/Fraction", "equals", "(Ljava/lang/Object;)Z"⟩ : MethodName) prog_30_method_4_code 3 (some .boolean) n0 Q
theorem ef5 (m : MethodId) (o : Addr) (q0 : Addr) : entryFrame m #[(.ref o), (.ref q0)] 3 = mkF m 0 #[.val (.ref o), .val (.ref q0), .unset] [] := by first | (simp [entryFrame, mkF, argsToLocals, Value.category]; done) | rfl
set_option maxRecDepth 65536 in
set_option maxHeartbeats 40000000 in
theorem rm5 (l : Launch) (Z : State) (a0 : Array Value) (hw : ∀ d ∈ tables_1, d.before a0 Z = true) (o : Addr) (q0 : Addr) (c0 : Int32) (c1 : Int32) (c2 : Int32) (c3 : Int32) (h0 : Heap) (n0 : Nat) (F_n : Fld Z h0 o "com/example/paystage/paystage/Fraction" "numerator" "I" (.int c0)) (F_d : Fld Z h0 o "com/example/paystage/paystage/Fraction" "denominator" "I" (.int c1)) (G_n : Fld Z h0 q0 "com/example/paystage/paystage/Fraction" "numerator" "I" (.int c2)) (G_d : Fld Z h0 q0 "com/example/paystage/paystage/Fraction" "denominator" "I" (.int c3)) (E_q : Exa Z h0 q0 "com/example/paystage/paystage/Fraction") :
    Con l Z ({ frames := 0, cells := 0, slots := 0, locals := 0 } : Room) (⟨"com/example/paystage/paystage/Fraction", "equals", "(Ljava/lang/Object;)Z"⟩ : MethodName) prog_30_method_4_code 3 (some .boolean) n0 #[(.ref o), (.ref q0)] h0 (OwnW.Ret (some (.int (f5 o q0 c0 c1 c2 c3))) h0) := by
  refine OwnW.Con.of (by first | decide +kernel | exact plainFor_of_name (by simp [plainName, overriddenIn])) (fun m => ef5 m o q0) ?_
  show GoB5 l Z n0 (OwnW.Ret (some (.int (f5 o q0 c0 c1 c2 c3))) h0) h0 0 0 0 #[.val (.ref o), .val (.ref q0), .unset] []
  refine OwnW.aloadN (pc' := 1) d5_0 rfl (rfl) rfl ?_
  refine OwnW.instY (a0 := a0) (pc' := 4) d5_1 (hw _ (List.mem_of_getElem? (i := 28) rfl)) (Ins.self E_q) rfl ?_
  refine OwnW.ifcN (pc' := 7) d5_4 ((if0 _ _).trans (feq (by decide)).1) rfl ?_
  refine OwnW.aloadN (pc' := 8) d5_7 rfl (rfl) rfl ?_
  refine OwnW.castY (a0 := a0) (pc' := 11) d5_8 (hw _ (List.mem_of_getElem? (i := 28) rfl)) (Ins.self E_q) rfl ?_
  refine OwnW.astoreN (pc' := 12) (L' := #[.val (.ref o), .val (.ref q0), .val (.ref q0)]) d5_11 (rfl) rfl rfl ?_
  refine OwnW.aloadN (pc' := 13) d5_12 rfl (rfl) rfl ?_
  refine OwnW.getF (a0 := a0) (pc' := 16) d5_13 (host := "") (Or.inl (hw _ (List.mem_of_getElem? (i := 19) rfl))) Via.refl G_n rfl ?_
  refine OwnW.aloadN (pc' := 17) d5_16 rfl (rfl) rfl ?_
  refine OwnW.getF (a0 := a0) (pc' := 20) d5_17 (host := "") (Or.inl (hw _ (List.mem_of_getElem? (i := 19) rfl))) Via.refl F_n rfl ?_
  by_cases hc20 : c2 = c0
  ·
    refine OwnW.icmpN (pc' := 23) d5_20 (teq hc20).2 rfl ?_
    refine OwnW.aloadN (pc' := 24) d5_23 rfl (rfl) rfl ?_
    refine OwnW.getF (a0 := a0) (pc' := 27) d5_24 (host := "") (Or.inl (hw _ (List.mem_of_getElem? (i := 21) rfl))) Via.refl G_d rfl ?_
    refine OwnW.aloadN (pc' := 28) d5_27 rfl (rfl) rfl ?_
    refine OwnW.getF (a0 := a0) (pc' := 31) d5_28 (host := "") (Or.inl (hw _ (List.mem_of_getElem? (i := 21) rfl))) Via.refl F_d rfl ?_
    by_cases hc31 : c3 = c1
    ·
      refine OwnW.icmpN (pc' := 34) d5_31 (teq hc31).2 rfl ?_
      refine OwnW.iconst (pc' := 35) (v := (1 : Int32)) d5_34 rfl rfl ?_
      refine OwnW.goto (pc' := 39) d5_35 (by decide) (by decide) ?_
      exact OwnW.retN (t := .boolean) d5_39 rfl (by simp) rfl (by decide) (by decide) (⟨by first | (simp only [f5, if_pos hc20, if_pos hc31]; done) | (simp only [f5, if_pos hc20, if_pos hc31]; rfl), rfl⟩)
    ·
      refine OwnW.icmpY (pc' := 38) d5_31 (feq hc31).2 (by decide) (by decide) ?_
      refine OwnW.iconst (pc' := 39) (v := (0 : Int32)) d5_38 rfl rfl ?_
      exact OwnW.retN (t := .boolean) d5_39 rfl (by simp) rfl (by decide) (by decide) (⟨by first | (simp only [f5, if_pos hc20, if_neg hc31]; done) | (simp only [f5, if_pos hc20, if_neg hc31]; rfl), rfl⟩)
  ·
    refine OwnW.icmpY (pc' := 38) d5_20 (feq hc20).2 (by decide) (by decide) ?_
    refine OwnW.iconst (pc' := 39) (v := (0 : Int32)) d5_38 rfl rfl ?_
    exact OwnW.retN (t := .boolean) d5_39 rfl (by simp) rfl (by decide) (by decide) (⟨by first | (simp only [f5, if_neg hc20]; done) | (simp only [f5, if_neg hc20]; rfl), rfl⟩)
def f5_n (o : Addr) : Int32 := (0 : Int32)
abbrev GoB5_n (l : Launch) (Z : State) (n0 : Nat) (Q : Option Value → Heap → Prop) := Go l Z ({ frames := 0, cells := 0, slots := 0, locals := 0 } : Room) (⟨"com/example/paystage/paystage/Fraction", "equals", "(Ljava/lang/Object;)Z"⟩ : MethodName) prog_30_method_4_code 3 (some .boolean) n0 Q
theorem ef5_n (m : MethodId) (o : Addr) : entryFrame m #[(.ref o), .null] 3 = mkF m 0 #[.val (.ref o), .val .null, .unset] [] := by first | (simp [entryFrame, mkF, argsToLocals, Value.category]; done) | rfl
set_option maxRecDepth 65536 in
set_option maxHeartbeats 40000000 in
theorem rm5_n (l : Launch) (Z : State) (a0 : Array Value) (hw : ∀ d ∈ tables_1, d.before a0 Z = true) (o : Addr) (h0 : Heap) (n0 : Nat) :
    Con l Z ({ frames := 0, cells := 0, slots := 0, locals := 0 } : Room) (⟨"com/example/paystage/paystage/Fraction", "equals", "(Ljava/lang/Object;)Z"⟩ : MethodName) prog_30_method_4_code 3 (some .boolean) n0 #[(.ref o), .null] h0 (OwnW.Ret (some (.int (f5_n o))) h0) := by
  refine OwnW.Con.of (by first | decide +kernel | exact plainFor_of_name (by simp [plainName, overriddenIn])) (fun m => ef5_n m o) ?_
  show GoB5_n l Z n0 (OwnW.Ret (some (.int (f5_n o))) h0) h0 0 0 0 #[.val (.ref o), .val .null, .unset] []
  refine OwnW.aloadN (pc' := 1) d5_0 rfl (rfl) rfl ?_
  refine OwnW.instNull (pc' := 4) d5_1 rfl ?_
  refine OwnW.ifcY (pc' := 38) d5_4 ((if0 _ _).trans (teq (by decide)).1) (by decide) (by decide) ?_
  refine OwnW.iconst (pc' := 39) (v := (0 : Int32)) d5_38 rfl rfl ?_
  exact OwnW.retN (t := .boolean) d5_39 rfl (by simp) rfl (by decide) (by decide) (⟨by first | (simp only [f5_n]; done) | (simp only [f5_n]; rfl), rfl⟩)

theorem own_ni {Z : State} {a0 : Array Value} (hw : ∀ d ∈ tables_1, d.before a0 Z = true) : ∃ c t, Z.vm.findClass "java/lang/Integer" = some c ∧ Z.vm.findClass "com/example/paystage/paystage/Fraction" = some t ∧ Z.vm.assignable c t = false := by
  obtain ⟨t, kt, g1, g2, g3, g4, -, -⟩ := Cond.instantiable_spec (hw _ (List.mem_of_getElem? (i := 6) rfl))
  obtain ⟨c0, k0, h1, h2, h3, -, -⟩ := Cond.noSuperclass_spec (hw _ (List.mem_of_getElem? (i := 39) rfl))
  have n0 : NS Z "java/lang/Object" "com/example/paystage/paystage/Fraction" := ⟨c0, t, h1, g1, fun fuel => by
    have ne := ids_ne h1 g1 (by decide)
    cases fuel with
    | zero => rfl
    | succ f => simp [Vm.isSubclassAux, ne, h2, h3]⟩
  have n1 : NS Z "java/lang/Number" "com/example/paystage/paystage/Fraction" := NS.step (hw _ (List.mem_of_getElem? (i := 38) rfl)) n0 (by decide)
  have n2 : NS Z "java/lang/Integer" "com/example/paystage/paystage/Fraction" := NS.step (hw _ (List.mem_of_getElem? (i := 37) rfl)) n1 (by decide)
  obtain ⟨c, t', a1, a2, a3⟩ := n2
  obtain rfl : t' = t := Option.some.inj (a2.symm.trans g1)
  obtain ⟨p, k, kp, q1, q2, q3, q4, q5, -, q7⟩ := Cond.superclass_spec a1 (hw _ (List.mem_of_getElem? (i := 37) rfl))
  have ne := ids_ne a1 a2 (by decide)
  have g5 : kt.isInterface = false := (Bool.or_eq_false_iff.mp g4).1
  refine ⟨c, t', a1, a2, ?_⟩
  show Z.vm.assignableAux (255 + 1) c t' = false
  unfold Vm.assignableAux
  simp [ne, q2, g2, q5, g3, g5, Vm.isSubclass, a3]

def f5_i (o : Addr) (q0 : Addr) : Int32 := (0 : Int32)
abbrev GoB5_i (l : Launch) (Z : State) (n0 : Nat) (Q : Option Value → Heap → Prop) := Go l Z ({ frames := 0, cells := 0, slots := 0, locals := 0 } : Room) (⟨"com/example/paystage/paystage/Fraction", "equals", "(Ljava/lang/Object;)Z"⟩ : MethodName) prog_30_method_4_code 3 (some .boolean) n0 Q
theorem ef5_i (m : MethodId) (o : Addr) (q0 : Addr) : entryFrame m #[(.ref o), (.ref q0)] 3 = mkF m 0 #[.val (.ref o), .val (.ref q0), .unset] [] := by first | (simp [entryFrame, mkF, argsToLocals, Value.category]; done) | rfl
set_option maxRecDepth 65536 in
set_option maxHeartbeats 40000000 in
theorem rm5_i (l : Launch) (Z : State) (a0 : Array Value) (hw : ∀ d ∈ tables_1, d.before a0 Z = true) (o : Addr) (q0 : Addr) (h0 : Heap) (n0 : Nat) (E_q : Exa Z h0 q0 "java/lang/Integer") :
    Con l Z ({ frames := 0, cells := 0, slots := 0, locals := 0 } : Room) (⟨"com/example/paystage/paystage/Fraction", "equals", "(Ljava/lang/Object;)Z"⟩ : MethodName) prog_30_method_4_code 3 (some .boolean) n0 #[(.ref o), (.ref q0)] h0 (OwnW.Ret (some (.int (f5_i o q0))) h0) := by
  refine OwnW.Con.of (by first | decide +kernel | exact plainFor_of_name (by simp [plainName, overriddenIn])) (fun m => ef5_i m o q0) ?_
  show GoB5_i l Z n0 (OwnW.Ret (some (.int (f5_i o q0))) h0) h0 0 0 0 #[.val (.ref o), .val (.ref q0), .unset] []
  refine OwnW.aloadN (pc' := 1) d5_0 rfl (rfl) rfl ?_
  refine OwnW.instNo (a0 := a0) (pc' := 4) d5_1 (hw _ (List.mem_of_getElem? (i := 28) rfl)) E_q (own_ni hw) rfl ?_
  refine OwnW.ifcY (pc' := 38) d5_4 ((if0 _ _).trans (teq (by decide)).1) (by decide) (by decide) ?_
  refine OwnW.iconst (pc' := 39) (v := (0 : Int32)) d5_38 rfl rfl ?_
  exact OwnW.retN (t := .boolean) d5_39 rfl (by simp) rfl (by decide) (by decide) (⟨by first | (simp only [f5_i]; done) | (simp only [f5_i]; rfl), rfl⟩)

theorem own_hc {Z : State} {h0 h : Heap} {ca : Addr} (HC : ∀ w : Int32, ¬ w < (-128 : Int32) → ¬ (127 : Int32) < w → ∃ (cl : Cell) (r : Addr), Arr Z h0 ca cl (.object "java/lang/Integer") ∧ ¬ ((w + (128 : Int32)) < 0 ∨ cl.slots.size ≤ (w + (128 : Int32)).toNatClampNeg) ∧ cl.slots[(w + (128 : Int32)).toNatClampNeg]? = some (.ref r) ∧ Exa Z h0 r "java/lang/Integer") (X : Ext h0 h) : ∀ w : Int32, ¬ w < (-128 : Int32) → ¬ (127 : Int32) < w → ∃ (cl : Cell) (r : Addr), Arr Z h ca cl (.object "java/lang/Integer") ∧ ¬ ((w + (128 : Int32)) < 0 ∨ cl.slots.size ≤ (w + (128 : Int32)).toNatClampNeg) ∧ cl.slots[(w + (128 : Int32)).toNatClampNeg]? = some (.ref r) ∧ Exa Z h r "java/lang/Integer" := by
  intro w h1 h2
  obtain ⟨cl, r, A, j, v, E⟩ := HC w h1 h2
  exact ⟨cl, r, A.ext X, j, v, E.ext X⟩
theorem own_mode {f mo : Int32} (hmo : mo = (f &&& (7 : Int32))) : mo = (0 : Int32) ∨ mo = (1 : Int32) ∨ mo = (2 : Int32) ∨ mo = (3 : Int32) ∨ mo = (4 : Int32) ∨ mo = (5 : Int32) ∨ mo = (6 : Int32) ∨ mo = (7 : Int32) := by
  have e := c_mask f 7 3 (by decide) (by decide)
  rw [← hmo] at e
  have b : mo.toInt = 0 ∨ mo.toInt = 1 ∨ mo.toInt = 2 ∨ mo.toInt = 3 ∨ mo.toInt = 4 ∨ mo.toInt = 5 ∨ mo.toInt = 6 ∨ mo.toInt = 7 := by omega
  simpa [← Int32.toInt_inj] using b
theorem own_n {x n : Int32} (hn : n = (f1 (1 : Int32) (x &&& (2147483647 : Int32)))) : 1 ≤ n.toInt ∧ n.toInt ≤ 2147483647 := by
  have e := c_mask x 2147483647 31 (by decide) (by decide)
  have o : (1 : Int32).toInt = 1 := by decide
  unfold f1 at hn
  split at hn <;> subst hn <;> simp only [Int32.lt_iff_toInt_lt] at * <;> omega
theorem own_m {x n : Int32} (hn : n = (f1 (1 : Int32) (x &&& (2147483647 : Int32)))) : (((2147483647 : Int32) - n) + (1 : Int32)).toInt = 2147483648 - n.toInt := by
  have b := own_n hn
  have s := c_isub 2147483647 n
  have t := c_iadd ((2147483647 : Int32) - n) 1
  have r := rng32 ((2147483647 : Int32) - n)
  have r' := rng32 (((2147483647 : Int32) - n) + (1 : Int32))
  have o : (1 : Int32).toInt = 1 := by decide
  have o2 : (2147483647 : Int32).toInt = 2147483647 := by decide
  omega
theorem own_dv {x n : Int32} (hn : n = (f1 (1 : Int32) (x &&& (2147483647 : Int32)))) : (((2147483647 : Int32) - n) + (1 : Int32)) ≠ 0 := fun q => by
  have a := own_n hn
  have b := own_m hn
  rw [q] at b
  have o : (0 : Int32).toInt = 0 := by decide
  omega
theorem own_d {x z n d : Int32} (hn : n = (f1 (1 : Int32) (x &&& (2147483647 : Int32)))) (hd : d = (n + ((z &&& (2147483647 : Int32)) % (((2147483647 : Int32) - n) + (1 : Int32))))) : n.toInt ≤ d.toInt := by
  have a := own_n hn
  have b := own_m hn
  have e := c_mask z 2147483647 31 (by decide) (by decide)
  have k := (c_iremV (z &&& 2147483647) (((2147483647 : Int32) - n) + (1 : Int32))).1 (by omega) (by omega)
  have t := c_iadd n ((z &&& (2147483647 : Int32)) % (((2147483647 : Int32) - n) + (1 : Int32)))
  have r := rng32 d
  rw [← hd] at t
  omega
theorem own_ok {x z n d : Int32} (hn : n = (f1 (1 : Int32) (x &&& (2147483647 : Int32)))) (hd : d = (n + ((z &&& (2147483647 : Int32)) % (((2147483647 : Int32) - n) + (1 : Int32))))) : ¬ n < (1 : Int32) ∧ ¬ d < n := by
  have a := own_n hn
  have b := own_d hn hd
  have o : (1 : Int32).toInt = 1 := by decide
  simp only [Int32.lt_iff_toInt_lt]
  omega
theorem own_d0 {x z n d : Int32} (hn : n = (f1 (1 : Int32) (x &&& (2147483647 : Int32)))) (hd : d = (n + ((z &&& (2147483647 : Int32)) % (((2147483647 : Int32) - n) + (1 : Int32))))) : d ≠ 0 := fun q => by
  have a := own_n hn
  have b := own_d hn hd
  rw [q] at b
  have o : (0 : Int32).toInt = 0 := by decide
  omega
theorem own_oknn {x z c n d nn : Int32} (hn : n = (f1 (1 : Int32) (x &&& (2147483647 : Int32)))) (hd : d = (n + ((z &&& (2147483647 : Int32)) % (((2147483647 : Int32) - n) + (1 : Int32))))) (hnn : nn = (((c &&& (2147483647 : Int32)) % d) + (1 : Int32))) : ¬ nn < (1 : Int32) ∧ ¬ d < nn := by
  have a := own_n hn
  have b := own_d hn hd
  have e := c_mask c 2147483647 31 (by decide) (by decide)
  have k := (c_iremV (c &&& 2147483647) d).1 (by omega) (by omega)
  have t := c_iadd ((c &&& (2147483647 : Int32)) % d) 1
  have r := rng32 nn
  have rd := rng32 d
  rw [← hnn] at t
  have o : (1 : Int32).toInt = 1 := by decide
  simp only [Int32.lt_iff_toInt_lt]
  omega
theorem own_128 {x n : Int32} (hn : n = (f1 (1 : Int32) (x &&& (2147483647 : Int32)))) : ¬ n < (-128 : Int32) := by
  have a := own_n hn
  have o : (-128 : Int32).toInt = -128 := by decide
  rw [Int32.lt_iff_toInt_lt]
  omega
theorem own_cache {s : State} {args : Array Value} {ca : Addr} (ev : (Term.static "java/lang/Integer$IntegerCache" "cache" "[Ljava/lang/Integer;").eval args s none [] s = some (.ref ca))
    (h4 : (Cond.arrayOf (Term.static "java/lang/Integer$IntegerCache" "cache" "[Ljava/lang/Integer;") (.object "java/lang/Integer")).before args s = true) (h6 : (Cond.eq (.length (Term.static "java/lang/Integer$IntegerCache" "cache" "[Ljava/lang/Integer;")) (.int 256)).before args s = true)
    (h7 : (Jvm.Cond.all (Jvm.Term.static "java/lang/Integer$IntegerCache" "cache" "[Ljava/lang/Integer;") (Jvm.Cond.and (Jvm.Cond.exactly (Jvm.Term.elem (Jvm.Term.static "java/lang/Integer$IntegerCache" "cache" "[Ljava/lang/Integer;") (Jvm.Term.index (0 : Nat))) "java/lang/Integer") (Jvm.Cond.eq (Jvm.Term.field (Jvm.Term.elem (Jvm.Term.static "java/lang/Integer$IntegerCache" "cache" "[Ljava/lang/Integer;") (Jvm.Term.index (0 : Nat))) "java/lang/Integer" "value" "I") (Jvm.Term.sub (Jvm.Term.index (0 : Nat)) (Jvm.Term.int (128 : Int32)))))).before args s = true) : ∀ w : Int32, ¬ w < (-128 : Int32) → ¬ (127 : Int32) < w → ∃ (cl : Cell) (r : Addr), Arr s s.heap ca cl (.object "java/lang/Integer") ∧ ¬ ((w + (128 : Int32)) < 0 ∨ cl.slots.size ≤ (w + (128 : Int32)).toNatClampNeg) ∧ cl.slots[(w + (128 : Int32)).toNatClampNeg]? = some (.ref r) ∧ Exa s s.heap r "java/lang/Integer" := by
  obtain ⟨a, cell, e1, hc, harr, hvm⟩ := Jvm.Free.IntBox.arrayOf_fwd h4 ev
  cases e1
  have hat := Jvm.Free.IntBox.arrayAt_of hc harr hvm
  obtain ⟨l1, l2⟩ := Jvm.Free.IntBox.length_fwd h6 ev hc harr hvm
  have hsz : cell.slots.size = 256 := by
    have q := len_toInt l1
    rw [l2] at q
    have o : (256 : Int32).toInt = 256 := by decide
    omega
  have hall := Cond.all_elim ev hat (Cond.before_iff.mp h7)
  intro w h1 h2
  obtain ⟨p1, p2⟩ := Jvm.Free.IntBox.place_ok w h1 h2
  obtain ⟨x1, x2⟩ := and_e (hall (w + 128).toNatClampNeg (by rw [hsz]; exact p2))
  have hn : ¬ (w + 128) < 0 := fun q => p1 (Or.inl q)
  obtain ⟨r, er⟩ := exa_v x1
  have E := exa_at er x1
  have ev' : (Term.static "java/lang/Integer$IntegerCache" "cache" "[Ljava/lang/Integer;").eval args s none [(w + 128).toNatClampNeg] s = some (.ref ca) := ev
  rw [elem_f ev' (idx_at hn) hat hn] at er
  exact ⟨cell, r, ⟨hc, harr, hvm⟩, by rw [hsz]; exact p1, er, E⟩

abbrev GoB0 (l : Launch) (Z : State) (n0 : Nat) (Q : Option Value → Heap → Prop) := Go l Z room_1 x code maxLocals ret n0 Q
theorem ef0 (m : MethodId) (a : Int32) (b : Int32) (c : Int32) (e : Int32) (f : Int32) : entryFrame m #[(.int a), (.int b), (.int c), (.int e), (.int f)] maxLocals = mkF m 0 #[.val (.int a), .val (.int b), .val (.int c), .val (.int e), .val (.int f), .unset, .unset, .unset, .unset, .unset, .unset, .unset, .unset, .unset, .unset] [] := by first | (simp [entryFrame, mkF, argsToLocals, Value.category, maxLocals]; done) | rfl
set_option maxRecDepth 65536 in
set_option maxHeartbeats 400000000 in
theorem rm0 (l : Launch) (Z : State) (a0 : Array Value) (hw : ∀ d ∈ tables_1, d.before a0 Z = true) (a : Int32) (b : Int32) (c : Int32) (e : Int32) (f : Int32) (ca : Addr) (h0 : Heap) (n0 : Nat) (Z0 : n0 ≤ h0.size) (S_high : Sta Z h0 "java/lang/Integer$IntegerCache" "high" "I" (.int (127 : Int32))) (S_cache : Sta Z h0 "java/lang/Integer$IntegerCache" "cache" "[Ljava/lang/Integer;" (.ref ca)) (HC : ∀ w : Int32, ¬ w < (-128 : Int32) → ¬ (127 : Int32) < w → ∃ (cl : Cell) (r : Addr), Arr Z h0 ca cl (.object "java/lang/Integer") ∧ ¬ ((w + (128 : Int32)) < 0 ∨ cl.slots.size ≤ (w + (128 : Int32)).toNatClampNeg) ∧ cl.slots[(w + (128 : Int32)).toNatClampNeg]? = some (.ref r) ∧ Exa Z h0 r "java/lang/Integer") :
    Con l Z room_1 x code maxLocals ret n0 #[(.int a), (.int b), (.int c), (.int e), (.int f)] h0 OwnW.One1 := by
  refine OwnW.Con.of (by first | decide +kernel | exact plainFor_of_name (by simp [x, plainName, overriddenIn])) (fun m => ef0 m a b c e f) ?_
  show GoB0 l Z n0 OwnW.One1 h0 0 0 0 #[.val (.int a), .val (.int b), .val (.int c), .val (.int e), .val (.int f), .unset, .unset, .unset, .unset, .unset, .unset, .unset, .unset, .unset, .unset] []
  refine OwnW.iconst (pc' := 1) (v := (1 : Int32)) at_0 rfl rfl ?_
  refine OwnW.iloadN (pc' := 2) at_1 rfl rfl ?_
  refine OwnW.ldcI (a0 := a0) (pc' := 4) (v := (2147483647 : Int32)) at_2 (hw _ (List.mem_of_getElem? (i := 0) rfl)) rfl ?_
  refine OwnW.iand (pc' := 5) at_4 rfl ?_
  refine OwnW.callS0 (a0 := a0) (pc' := 8) (W := 0) (k' := 0) (n' := 0) (argsL := [(.int (1 : Int32)), (.int (a &&& (2147483647 : Int32)))]) (rest := []) (St' := [(.int (f1 (1 : Int32) (a &&& (2147483647 : Int32))))]) at_5 (hw _ (List.mem_of_getElem? (i := 1) rfl)) (hw _ (List.mem_of_getElem? (i := 2) rfl)) (hw _ (List.mem_of_getElem? (i := 3) rfl)) (hw _ (List.mem_of_getElem? (i := 4) rfl)) (by decide) (rm1 l Z a0 hw (1 : Int32) (a &&& (2147483647 : Int32)) h0 n0) (by decide) (by decide) rfl rfl (by decide) (by decide) rfl pd_28II29I rfl rfl rfl (Nat.le_of_ble_eq_true rfl) rfl rfl ?_
  obtain ⟨n1, hn1⟩ : ∃ z, z = (f1 (1 : Int32) (a &&& (2147483647 : Int32))) := ⟨_, rfl⟩
  rw [← hn1]
  show GoB0 l Z n0 OwnW.One1 h0 0 0 8 #[.val (.int a), .val (.int b), .val (.int c), .val (.int e), .val (.int f), .unset, .unset, .unset, .unset, .unset, .unset, .unset, .unset, .unset, .unset] [(.int n1)]
  refine OwnW.istore (pc' := 10) (L' := #[.val (.int a), .val (.int b), .val (.int c), .val (.int e), .val (.int f), .val (.int n1), .unset, .unset, .unset, .unset, .unset, .unset, .unset, .unset, .unset]) at_8 rfl rfl ?_
  refine OwnW.iload (pc' := 12) at_10 rfl rfl ?_
  refine OwnW.iloadN (pc' := 13) at_12 rfl rfl ?_
  refine OwnW.ldcI (a0 := a0) (pc' := 15) (v := (2147483647 : Int32)) at_13 (hw _ (List.mem_of_getElem? (i := 0) rfl)) rfl ?_
  refine OwnW.iand (pc' := 16) at_15 rfl ?_
  refine OwnW.ldcI (a0 := a0) (pc' := 18) (v := (2147483647 : Int32)) at_16 (hw _ (List.mem_of_getElem? (i := 0) rfl)) rfl ?_
  refine OwnW.iload (pc' := 20) at_18 rfl rfl ?_
  refine OwnW.isub (pc' := 21) at_20 rfl ?_
  refine OwnW.iconst (pc' := 22) (v := (1 : Int32)) at_21 rfl rfl ?_
  refine OwnW.iadd (pc' := 23) at_22 rfl ?_
  refine OwnW.irem (pc' := 24) at_23 (own_dv hn1) rfl ?_
  refine OwnW.iadd (pc' := 25) at_24 rfl ?_
  obtain ⟨d1, hd1⟩ : ∃ z, z = (n1 + ((b &&& (2147483647 : Int32)) % (((2147483647 : Int32) - n1) + (1 : Int32)))) := ⟨_, rfl⟩
  rw [← hd1]
  show GoB0 l Z n0 OwnW.One1 h0 0 0 25 #[.val (.int a), .val (.int b), .val (.int c), .val (.int e), .val (.int f), .val (.int n1), .unset, .unset, .unset, .unset, .unset, .unset, .unset, .unset, .unset] [(.int d1)]
  refine OwnW.istore (pc' := 27) (L' := #[.val (.int a), .val (.int b), .val (.int c), .val (.int e), .val (.int f), .val (.int n1), .val (.int d1), .unset, .unset, .unset, .unset, .unset, .unset, .unset, .unset]) at_25 rfl rfl ?_
  refine OwnW.iconst (pc' := 28) (v := (1 : Int32)) at_27 rfl rfl ?_
  refine OwnW.iloadN (pc' := 29) at_28 rfl rfl ?_
  refine OwnW.ldcI (a0 := a0) (pc' := 31) (v := (2147483647 : Int32)) at_29 (hw _ (List.mem_of_getElem? (i := 0) rfl)) rfl ?_
  refine OwnW.iand (pc' := 32) at_31 rfl ?_
  refine OwnW.callS0 (a0 := a0) (pc' := 35) (W := 0) (k' := 0) (n' := 0) (argsL := [(.int (1 : Int32)), (.int (c &&& (2147483647 : Int32)))]) (rest := []) (St' := [(.int (f1 (1 : Int32) (c &&& (2147483647 : Int32))))]) at_32 (hw _ (List.mem_of_getElem? (i := 1) rfl)) (hw _ (List.mem_of_getElem? (i := 2) rfl)) (hw _ (List.mem_of_getElem? (i := 3) rfl)) (hw _ (List.mem_of_getElem? (i := 4) rfl)) (by decide) (rm1 l Z a0 hw (1 : Int32) (c &&& (2147483647 : Int32)) h0 n0) (by decide) (by decide) rfl rfl (by decide) (by decide) rfl pd_28II29I rfl rfl rfl (Nat.le_of_ble_eq_true rfl) rfl rfl ?_
  obtain ⟨n2, hn2⟩ : ∃ z, z = (f1 (1 : Int32) (c &&& (2147483647 : Int32))) := ⟨_, rfl⟩
  rw [← hn2]
  show GoB0 l Z n0 OwnW.One1 h0 0 0 35 #[.val (.int a), .val (.int b), .val (.int c), .val (.int e), .val (.int f), .val (.int n1), .val (.int d1), .unset, .unset, .unset, .unset, .unset, .unset, .unset, .unset] [(.int n2)]
  refine OwnW.istore (pc' := 37) (L' := #[.val (.int a), .val (.int b), .val (.int c), .val (.int e), .val (.int f), .val (.int n1), .val (.int d1), .val (.int n2), .unset, .unset, .unset, .unset, .unset, .unset, .unset]) at_35 rfl rfl ?_
  refine OwnW.iload (pc' := 39) at_37 rfl rfl ?_
  refine OwnW.iloadN (pc' := 40) at_39 rfl rfl ?_
  refine OwnW.ldcI (a0 := a0) (pc' := 42) (v := (2147483647 : Int32)) at_40 (hw _ (List.mem_of_getElem? (i := 0) rfl)) rfl ?_
  refine OwnW.iand (pc' := 43) at_42 rfl ?_
  refine OwnW.ldcI (a0 := a0) (pc' := 45) (v := (2147483647 : Int32)) at_43 (hw _ (List.mem_of_getElem? (i := 0) rfl)) rfl ?_
  refine OwnW.iload (pc' := 47) at_45 rfl rfl ?_
  refine OwnW.isub (pc' := 48) at_47 rfl ?_
  refine OwnW.iconst (pc' := 49) (v := (1 : Int32)) at_48 rfl rfl ?_
  refine OwnW.iadd (pc' := 50) at_49 rfl ?_
  refine OwnW.irem (pc' := 51) at_50 (own_dv hn2) rfl ?_
  refine OwnW.iadd (pc' := 52) at_51 rfl ?_
  obtain ⟨d2, hd2⟩ : ∃ z, z = (n2 + ((e &&& (2147483647 : Int32)) % (((2147483647 : Int32) - n2) + (1 : Int32)))) := ⟨_, rfl⟩
  rw [← hd2]
  show GoB0 l Z n0 OwnW.One1 h0 0 0 52 #[.val (.int a), .val (.int b), .val (.int c), .val (.int e), .val (.int f), .val (.int n1), .val (.int d1), .val (.int n2), .unset, .unset, .unset, .unset, .unset, .unset, .unset] [(.int d2)]
  refine OwnW.istore (pc' := 54) (L' := #[.val (.int a), .val (.int b), .val (.int c), .val (.int e), .val (.int f), .val (.int n1), .val (.int d1), .val (.int n2), .val (.int d2), .unset, .unset, .unset, .unset, .unset, .unset]) at_52 rfl rfl ?_
  refine OwnW.iload (pc' := 56) at_54 rfl rfl ?_
  refine OwnW.bipush (pc' := 58) (v := (7 : Int32)) at_56 rfl rfl ?_
  refine OwnW.iand (pc' := 59) at_58 rfl ?_
  obtain ⟨mo, hmo⟩ : ∃ z, z = (f &&& (7 : Int32)) := ⟨_, rfl⟩
  rw [← hmo]
  show GoB0 l Z n0 OwnW.One1 h0 0 0 59 #[.val (.int a), .val (.int b), .val (.int c), .val (.int e), .val (.int f), .val (.int n1), .val (.int d1), .val (.int n2), .val (.int d2), .unset, .unset, .unset, .unset, .unset, .unset] [(.int mo)]
  refine OwnW.istore (pc' := 61) (L' := #[.val (.int a), .val (.int b), .val (.int c), .val (.int e), .val (.int f), .val (.int n1), .val (.int d1), .val (.int n2), .val (.int d2), .val (.int mo), .unset, .unset, .unset, .unset, .unset]) at_59 rfl rfl ?_
  refine OwnW.newO (a0 := a0) (pc' := 64) (k' := 1) (n' := 2) at_61 (hw _ (List.mem_of_getElem? (i := 5) rfl)) (hw _ (List.mem_of_getElem? (i := 6) rfl)) (hw _ (List.mem_of_getElem? (i := 7) rfl)) rfl rfl (by decide) (by decide) rfl ?_
  intro h1 ad1 g1 E1 A1 D1
  have ge_ad1 : n0 ≤ ad1 := Nat.le_trans Z0 (Nat.le_of_eq g1.symm)
  have X2 : Ext h0 h1 := OwnW.ext_trans (OwnW.ext_refl h0) E1
  have sz_ad1 : n0 ≤ h1.size := Nat.le_trans Z0 E1.1
  have F1_numerator : Fld Z h1 ad1 "com/example/paystage/paystage/Fraction" "numerator" "I" (.int (0 : Int32)) := D1 (Or.inr (hw _ (List.mem_of_getElem? (i := 20) rfl))) (ty := .int) (by decide)
  have F1_denominator : Fld Z h1 ad1 "com/example/paystage/paystage/Fraction" "denominator" "I" (.int (0 : Int32)) := D1 (Or.inr (hw _ (List.mem_of_getElem? (i := 22) rfl))) (ty := .int) (by decide)
  refine OwnW.dup (pc' := 65) at_64 rfl rfl ?_
  refine OwnW.iload (pc' := 67) at_65 rfl rfl ?_
  refine OwnW.iload (pc' := 69) at_67 rfl rfl ?_
  refine OwnW.callI (a0 := a0) (pc' := 72) (W := 1) (k' := 1) (n' := 2) (argsL := [(.int n1), (.int d1)]) (rest := [(.ref ad1)]) at_69 rfl (hw _ (List.mem_of_getElem? (i := 8) rfl)) (hw _ (List.mem_of_getElem? (i := 9) rfl)) (hw _ (List.mem_of_getElem? (i := 7) rfl)) (hw _ (List.mem_of_getElem? (i := 10) rfl)) (by decide) (rm2 l Z a0 hw ad1 n1 d1 h1 n0 sz_ad1 ge_ad1 A1 F1_numerator F1_denominator (own_ok hn1 hd1).1 (own_ok hn1 hd1).2) (by decide) (by decide) rfl rfl (by decide) (by decide) rfl pd_28II29V rfl rfl rfl (Nat.le_of_ble_eq_true rfl) rfl ?_
  rintro h3 v3 ⟨rfl, K3, E3, F3_numerator, F3_denominator⟩
  have X4 : Ext h0 h3 := OwnW.ext_keep X2 K3 (allS (Nat.le_trans (Nat.le_refl _) (Nat.le_of_eq g1.symm)) all0)
  have sz5 : n0 ≤ h3.size := Nat.le_trans sz_ad1 K3.1
  show GoB0 l Z n0 OwnW.One1 h3 1 2 72 #[.val (.int a), .val (.int b), .val (.int c), .val (.int e), .val (.int f), .val (.int n1), .val (.int d1), .val (.int n2), .val (.int d2), .val (.int mo), .unset, .unset, .unset, .unset, .unset] [(.ref ad1)]
  refine OwnW.astore (pc' := 74) (L' := #[.val (.int a), .val (.int b), .val (.int c), .val (.int e), .val (.int f), .val (.int n1), .val (.int d1), .val (.int n2), .val (.int d2), .val (.int mo), .val (.ref ad1), .unset, .unset, .unset, .unset]) at_72 (rfl) rfl rfl ?_
  refine OwnW.aconstNull (pc' := 75) at_74 rfl ?_
  refine OwnW.astore (pc' := 77) (L' := #[.val (.int a), .val (.int b), .val (.int c), .val (.int e), .val (.int f), .val (.int n1), .val (.int d1), .val (.int n2), .val (.int d2), .val (.int mo), .val (.ref ad1), .unset, .val .null, .unset, .unset]) at_75 (rfl) rfl rfl ?_
  rcases (own_mode hmo) with rfl | rfl | rfl | rfl | rfl | rfl | rfl | rfl
  ·
    show GoB0 l Z n0 OwnW.One1 h3 1 2 77 #[.val (.int a), .val (.int b), .val (.int c), .val (.int e), .val (.int f), .val (.int n1), .val (.int d1), .val (.int n2), .val (.int d2), .val (.int (0 : Int32)), .val (.ref ad1), .unset, .val .null, .unset, .unset] []
    refine OwnW.iload (pc' := 79) at_77 rfl rfl ?_
    refine OwnW.ifcN (pc' := 82) at_79 ((if0 _ _).trans (teq (by decide)).2) rfl ?_
    refine OwnW.newO (a0 := a0) (pc' := 85) (k' := 2) (n' := 4) at_82 (hw _ (List.mem_of_getElem? (i := 5) rfl)) (hw _ (List.mem_of_getElem? (i := 6) rfl)) (hw _ (List.mem_of_getElem? (i := 7) rfl)) rfl rfl (by decide) (by decide) rfl ?_
    intro h6 ad6 g6 E6 A6 D6
    have lt_ad1_ad6 : ad1 < ad6 := Nat.lt_of_lt_of_le (E3).lt (Nat.le_of_eq g6.symm)
    have ge_ad6 : n0 ≤ ad6 := Nat.le_trans sz5 (Nat.le_of_eq g6.symm)
    have X7 : Ext h0 h6 := OwnW.ext_trans X4 E6
    have sz_ad6 : n0 ≤ h6.size := Nat.le_trans sz5 E6.1
    have F6_numerator : Fld Z h6 ad6 "com/example/paystage/paystage/Fraction" "numerator" "I" (.int (0 : Int32)) := D6 (Or.inr (hw _ (List.mem_of_getElem? (i := 20) rfl))) (ty := .int) (by decide)
    have F6_denominator : Fld Z h6 ad6 "com/example/paystage/paystage/Fraction" "denominator" "I" (.int (0 : Int32)) := D6 (Or.inr (hw _ (List.mem_of_getElem? (i := 22) rfl))) (ty := .int) (by decide)
    refine OwnW.dup (pc' := 86) at_85 rfl rfl ?_
    refine OwnW.iload (pc' := 88) at_86 rfl rfl ?_
    refine OwnW.iload (pc' := 90) at_88 rfl rfl ?_
    refine OwnW.callI (a0 := a0) (pc' := 93) (W := 1) (k' := 2) (n' := 4) (argsL := [(.int n1), (.int d1)]) (rest := [(.ref ad6)]) at_90 rfl (hw _ (List.mem_of_getElem? (i := 8) rfl)) (hw _ (List.mem_of_getElem? (i := 9) rfl)) (hw _ (List.mem_of_getElem? (i := 7) rfl)) (hw _ (List.mem_of_getElem? (i := 10) rfl)) (by decide) (rm2 l Z a0 hw ad6 n1 d1 h6 n0 sz_ad6 ge_ad6 A6 F6_numerator F6_denominator (own_ok hn1 hd1).1 (own_ok hn1 hd1).2) (by decide) (by decide) rfl rfl (by decide) (by decide) rfl pd_28II29V rfl rfl rfl (Nat.le_of_ble_eq_true rfl) rfl ?_
    rintro h8 v8 ⟨rfl, K8, E8, F8_numerator, F8_denominator⟩
    have X9 : Ext h0 h8 := OwnW.ext_keep X7 K8 (allS (Nat.le_trans (Nat.le_trans (Nat.le_trans (Nat.le_refl _) E1.1) K3.1) (Nat.le_of_eq g6.symm)) all0)
    have sz10 : n0 ≤ h8.size := Nat.le_trans sz_ad6 K8.1
    show GoB0 l Z n0 OwnW.One1 h8 2 4 93 #[.val (.int a), .val (.int b), .val (.int c), .val (.int e), .val (.int f), .val (.int n1), .val (.int d1), .val (.int n2), .val (.int d2), .val (.int (0 : Int32)), .val (.ref ad1), .unset, .val .null, .unset, .unset] [(.ref ad6)]
    refine OwnW.astore (pc' := 95) (L' := #[.val (.int a), .val (.int b), .val (.int c), .val (.int e), .val (.int f), .val (.int n1), .val (.int d1), .val (.int n2), .val (.int d2), .val (.int (0 : Int32)), .val (.ref ad1), .unset, .val (.ref ad6), .unset, .unset]) at_93 (rfl) rfl rfl ?_
    refine OwnW.aload (pc' := 97) at_95 rfl (rfl) rfl ?_
    refine OwnW.astore (pc' := 99) (L' := #[.val (.int a), .val (.int b), .val (.int c), .val (.int e), .val (.int f), .val (.int n1), .val (.int d1), .val (.int n2), .val (.int d2), .val (.int (0 : Int32)), .val (.ref ad1), .val (.ref ad6), .val (.ref ad6), .unset, .unset]) at_97 (rfl) rfl rfl ?_
    refine OwnW.iconst (pc' := 100) (v := (1 : Int32)) at_99 rfl rfl ?_
    refine OwnW.istore (pc' := 102) (L' := #[.val (.int a), .val (.int b), .val (.int c), .val (.int e), .val (.int f), .val (.int n1), .val (.int d1), .val (.int n2), .val (.int d2), .val (.int (0 : Int32)), .val (.ref ad1), .val (.ref ad6), .val (.ref ad6), .val (.int (1 : Int32)), .unset]) at_100 rfl rfl ?_
    refine OwnW.goto (pc' := 312) at_102 (by decide) (by decide) ?_
    refine OwnW.aload (pc' := 314) at_312 rfl (rfl) rfl ?_
    refine OwnW.aload (pc' := 316) at_314 rfl (rfl) rfl ?_
    have F11 := ((F3_numerator.ext E6).keep K8 (ninS (Nat.ne_of_lt lt_ad1_ad6) nin0))
    have F12 := ((F3_denominator.ext E6).keep K8 (ninS (Nat.ne_of_lt lt_ad1_ad6) nin0))
    have F13 := ((E3.ext E6).keep K8)
    refine OwnW.callV0 (a0 := a0) (pc' := 319) (W := 0) (k' := 2) (n' := 4) (argsL := [(.ref ad6)]) (rest := []) (St' := [(.int (f5 ad1 ad6 n1 d1 n1 d1))]) at_316 (hw _ (List.mem_of_getElem? (i := 23) rfl)) (hw _ (List.mem_of_getElem? (i := 24) rfl)) (hw _ (List.mem_of_getElem? (i := 26) rfl)) (hw _ (List.mem_of_getElem? (i := 25) rfl)) (hw _ (List.mem_of_getElem? (i := 7) rfl)) (hw _ (List.mem_of_getElem? (i := 27) rfl)) (by decide) F13 (rm5 l Z a0 hw ad1 ad6 n1 d1 n1 d1 h8 n0 F11 F12 F8_numerator F8_denominator E8) (by decide) (by decide) rfl rfl (by decide) (by decide) rfl pd_28Ljava2flang2fObject3b29Z rfl rfl rfl (Nat.le_of_ble_eq_true rfl) rfl rfl ?_
    rw [show (f5 ad1 ad6 n1 d1 n1 d1) = (1 : Int32) from (if_pos rfl).trans (if_pos rfl)]
    show GoB0 l Z n0 OwnW.One1 h8 2 4 319 #[.val (.int a), .val (.int b), .val (.int c), .val (.int e), .val (.int f), .val (.int n1), .val (.int d1), .val (.int n2), .val (.int d2), .val (.int (0 : Int32)), .val (.ref ad1), .val (.ref ad6), .val (.ref ad6), .val (.int (1 : Int32)), .unset] [(.int (1 : Int32))]
    refine OwnW.istore (pc' := 321) (L' := #[.val (.int a), .val (.int b), .val (.int c), .val (.int e), .val (.int f), .val (.int n1), .val (.int d1), .val (.int n2), .val (.int d2), .val (.int (0 : Int32)), .val (.ref ad1), .val (.ref ad6), .val (.ref ad6), .val (.int (1 : Int32)), .val (.int (1 : Int32))]) at_319 rfl rfl ?_
    refine OwnW.iload (pc' := 323) at_321 rfl rfl ?_
    refine OwnW.iload (pc' := 325) at_323 rfl rfl ?_
    refine OwnW.icmpY (pc' := 330) at_325 (teq (by decide)).1 (by decide) (by decide) ?_
    refine OwnW.aload (pc' := 332) at_330 rfl (rfl) rfl ?_
    refine OwnW.ifnullN (pc' := 335) at_332 rfl ?_
    refine OwnW.aload (pc' := 337) at_335 rfl (rfl) rfl ?_
    refine OwnW.aload (pc' := 339) at_337 rfl (rfl) rfl ?_
    refine OwnW.callV0 (a0 := a0) (pc' := 342) (W := 0) (k' := 2) (n' := 4) (argsL := [(.ref ad1)]) (rest := []) (St' := [(.int (f5 ad6 ad1 n1 d1 n1 d1))]) at_339 (hw _ (List.mem_of_getElem? (i := 23) rfl)) (hw _ (List.mem_of_getElem? (i := 24) rfl)) (hw _ (List.mem_of_getElem? (i := 26) rfl)) (hw _ (List.mem_of_getElem? (i := 25) rfl)) (hw _ (List.mem_of_getElem? (i := 7) rfl)) (hw _ (List.mem_of_getElem? (i := 27) rfl)) (by decide) E8 (rm5 l Z a0 hw ad6 ad1 n1 d1 n1 d1 h8 n0 F8_numerator F8_denominator F11 F12 F13) (by decide) (by decide) rfl rfl (by decide) (by decide) rfl pd_28Ljava2flang2fObject3b29Z rfl rfl rfl (Nat.le_of_ble_eq_true rfl) rfl rfl ?_
    rw [show (f5 ad6 ad1 n1 d1 n1 d1) = (1 : Int32) from (if_pos rfl).trans (if_pos rfl)]
    show GoB0 l Z n0 OwnW.One1 h8 2 4 342 #[.val (.int a), .val (.int b), .val (.int c), .val (.int e), .val (.int f), .val (.int n1), .val (.int d1), .val (.int n2), .val (.int d2), .val (.int (0 : Int32)), .val (.ref ad1), .val (.ref ad6), .val (.ref ad6), .val (.int (1 : Int32)), .val (.int (1 : Int32))] [(.int (1 : Int32))]
    refine OwnW.iload (pc' := 344) at_342 rfl rfl ?_
    refine OwnW.icmpN (pc' := 347) at_344 (teq (by decide)).2 rfl ?_
    refine OwnW.iconst (pc' := 348) (v := (1 : Int32)) at_347 rfl rfl ?_
    refine OwnW.goto (pc' := 352) at_348 (by decide) (by decide) ?_
    exact OwnW.retN (t := .boolean) at_352 rfl (by simp) rfl (by decide) (by decide) (rfl)
  ·
    show GoB0 l Z n0 OwnW.One1 h3 1 2 77 #[.val (.int a), .val (.int b), .val (.int c), .val (.int e), .val (.int f), .val (.int n1), .val (.int d1), .val (.int n2), .val (.int d2), .val (.int (1 : Int32)), .val (.ref ad1), .unset, .val .null, .unset, .unset] []
    refine OwnW.iload (pc' := 79) at_77 rfl rfl ?_
    refine OwnW.ifcY (pc' := 105) at_79 ((if0 _ _).trans (feq (by decide)).2) (by decide) (by decide) ?_
    refine OwnW.iload (pc' := 107) at_105 rfl rfl ?_
    refine OwnW.iconst (pc' := 108) (v := (1 : Int32)) at_107 rfl rfl ?_
    refine OwnW.icmpY (pc' := 118) at_108 (teq (by decide)).1 (by decide) (by decide) ?_
    refine OwnW.newO (a0 := a0) (pc' := 121) (k' := 2) (n' := 4) at_118 (hw _ (List.mem_of_getElem? (i := 5) rfl)) (hw _ (List.mem_of_getElem? (i := 6) rfl)) (hw _ (List.mem_of_getElem? (i := 7) rfl)) rfl rfl (by decide) (by decide) rfl ?_
    intro h14 ad14 g14 E14 A14 D14
    have lt_ad1_ad14 : ad1 < ad14 := Nat.lt_of_lt_of_le (E3).lt (Nat.le_of_eq g14.symm)
    have ge_ad14 : n0 ≤ ad14 := Nat.le_trans sz5 (Nat.le_of_eq g14.symm)
    have X15 : Ext h0 h14 := OwnW.ext_trans X4 E14
    have sz_ad14 : n0 ≤ h14.size := Nat.le_trans sz5 E14.1
    have F14_numerator : Fld Z h14 ad14 "com/example/paystage/paystage/Fraction" "numerator" "I" (.int (0 : Int32)) := D14 (Or.inr (hw _ (List.mem_of_getElem? (i := 20) rfl))) (ty := .int) (by decide)
    have F14_denominator : Fld Z h14 ad14 "com/example/paystage/paystage/Fraction" "denominator" "I" (.int (0 : Int32)) := D14 (Or.inr (hw _ (List.mem_of_getElem? (i := 22) rfl))) (ty := .int) (by decide)
    refine OwnW.dup (pc' := 122) at_121 rfl rfl ?_
    refine OwnW.iload (pc' := 124) at_122 rfl rfl ?_
    refine OwnW.iload (pc' := 126) at_124 rfl rfl ?_
    refine OwnW.callI (a0 := a0) (pc' := 129) (W := 1) (k' := 2) (n' := 4) (argsL := [(.int n2), (.int d2)]) (rest := [(.ref ad14)]) at_126 rfl (hw _ (List.mem_of_getElem? (i := 8) rfl)) (hw _ (List.mem_of_getElem? (i := 9) rfl)) (hw _ (List.mem_of_getElem? (i := 7) rfl)) (hw _ (List.mem_of_getElem? (i := 10) rfl)) (by decide) (rm2 l Z a0 hw ad14 n2 d2 h14 n0 sz_ad14 ge_ad14 A14 F14_numerator F14_denominator (own_ok hn2 hd2).1 (own_ok hn2 hd2).2) (by decide) (by decide) rfl rfl (by decide) (by decide) rfl pd_28II29V rfl rfl rfl (Nat.le_of_ble_eq_true rfl) rfl ?_
    rintro h16 v16 ⟨rfl, K16, E16, F16_numerator, F16_denominator⟩
    have X17 : Ext h0 h16 := OwnW.ext_keep X15 K16 (allS (Nat.le_trans (Nat.le_trans (Nat.le_trans (Nat.le_refl _) E1.1) K3.1) (Nat.le_of_eq g14.symm)) all0)
    have sz18 : n0 ≤ h16.size := Nat.le_trans sz_ad14 K16.1
    show GoB0 l Z n0 OwnW.One1 h16 2 4 129 #[.val (.int a), .val (.int b), .val (.int c), .val (.int e), .val (.int f), .val (.int n1), .val (.int d1), .val (.int n2), .val (.int d2), .val (.int (1 : Int32)), .val (.ref ad1), .unset, .val .null, .unset, .unset] [(.ref ad14)]
    refine OwnW.astore (pc' := 131) (L' := #[.val (.int a), .val (.int b), .val (.int c), .val (.int e), .val (.int f), .val (.int n1), .val (.int d1), .val (.int n2), .val (.int d2), .val (.int (1 : Int32)), .val (.ref ad1), .unset, .val (.ref ad14), .unset, .unset]) at_129 (rfl) rfl rfl ?_
    refine OwnW.aload (pc' := 133) at_131 rfl (rfl) rfl ?_
    refine OwnW.astore (pc' := 135) (L' := #[.val (.int a), .val (.int b), .val (.int c), .val (.int e), .val (.int f), .val (.int n1), .val (.int d1), .val (.int n2), .val (.int d2), .val (.int (1 : Int32)), .val (.ref ad1), .val (.ref ad14), .val (.ref ad14), .unset, .unset]) at_133 (rfl) rfl rfl ?_
    refine OwnW.iload (pc' := 137) at_135 rfl rfl ?_
    refine OwnW.iload (pc' := 139) at_137 rfl rfl ?_
    by_cases hc139 : n1 = n2
    ·
      refine OwnW.icmpN (pc' := 142) at_139 (teq hc139).2 rfl ?_
      refine OwnW.iload (pc' := 144) at_142 rfl rfl ?_
      refine OwnW.iload (pc' := 146) at_144 rfl rfl ?_
      by_cases hc146 : d1 = d2
      ·
        refine OwnW.icmpN (pc' := 149) at_146 (teq hc146).2 rfl ?_
        refine OwnW.iconst (pc' := 150) (v := (1 : Int32)) at_149 rfl rfl ?_
        refine OwnW.goto (pc' := 154) at_150 (by decide) (by decide) ?_
        refine OwnW.istore (pc' := 156) (L' := #[.val (.int a), .val (.int b), .val (.int c), .val (.int e), .val (.int f), .val (.int n1), .val (.int d1), .val (.int n2), .val (.int d2), .val (.int (1 : Int32)), .val (.ref ad1), .val (.ref ad14), .val (.ref ad14), .val (.int (1 : Int32)), .unset]) at_154 rfl rfl ?_
        refine OwnW.goto (pc' := 312) at_156 (by decide) (by decide) ?_
        refine OwnW.aload (pc' := 314) at_312 rfl (rfl) rfl ?_
        refine OwnW.aload (pc' := 316) at_314 rfl (rfl) rfl ?_
        have F19 := ((F3_numerator.ext E14).keep K16 (ninS (Nat.ne_of_lt lt_ad1_ad14) nin0))
        have F20 := ((F3_denominator.ext E14).keep K16 (ninS (Nat.ne_of_lt lt_ad1_ad14) nin0))
        have F21 := ((E3.ext E14).keep K16)
        refine OwnW.callV0 (a0 := a0) (pc' := 319) (W := 0) (k' := 2) (n' := 4) (argsL := [(.ref ad14)]) (rest := []) (St' := [(.int (f5 ad1 ad14 n1 d1 n2 d2))]) at_316 (hw _ (List.mem_of_getElem? (i := 23) rfl)) (hw _ (List.mem_of_getElem? (i := 24) rfl)) (hw _ (List.mem_of_getElem? (i := 26) rfl)) (hw _ (List.mem_of_getElem? (i := 25) rfl)) (hw _ (List.mem_of_getElem? (i := 7) rfl)) (hw _ (List.mem_of_getElem? (i := 27) rfl)) (by decide) F21 (rm5 l Z a0 hw ad1 ad14 n1 d1 n2 d2 h16 n0 F19 F20 F16_numerator F16_denominator E16) (by decide) (by decide) rfl rfl (by decide) (by decide) rfl pd_28Ljava2flang2fObject3b29Z rfl rfl rfl (Nat.le_of_ble_eq_true rfl) rfl rfl ?_
        rw [show (f5 ad1 ad14 n1 d1 n2 d2) = (1 : Int32) from (if_pos hc139.symm).trans (if_pos hc146.symm)]
        show GoB0 l Z n0 OwnW.One1 h16 2 4 319 #[.val (.int a), .val (.int b), .val (.int c), .val (.int e), .val (.int f), .val (.int n1), .val (.int d1), .val (.int n2), .val (.int d2), .val (.int (1 : Int32)), .val (.ref ad1), .val (.ref ad14), .val (.ref ad14), .val (.int (1 : Int32)), .unset] [(.int (1 : Int32))]
        refine OwnW.istore (pc' := 321) (L' := #[.val (.int a), .val (.int b), .val (.int c), .val (.int e), .val (.int f), .val (.int n1), .val (.int d1), .val (.int n2), .val (.int d2), .val (.int (1 : Int32)), .val (.ref ad1), .val (.ref ad14), .val (.ref ad14), .val (.int (1 : Int32)), .val (.int (1 : Int32))]) at_319 rfl rfl ?_
        refine OwnW.iload (pc' := 323) at_321 rfl rfl ?_
        refine OwnW.iload (pc' := 325) at_323 rfl rfl ?_
        refine OwnW.icmpY (pc' := 330) at_325 (teq (by decide)).1 (by decide) (by decide) ?_
        refine OwnW.aload (pc' := 332) at_330 rfl (rfl) rfl ?_
        refine OwnW.ifnullN (pc' := 335) at_332 rfl ?_
        refine OwnW.aload (pc' := 337) at_335 rfl (rfl) rfl ?_
        refine OwnW.aload (pc' := 339) at_337 rfl (rfl) rfl ?_
        refine OwnW.callV0 (a0 := a0) (pc' := 342) (W := 0) (k' := 2) (n' := 4) (argsL := [(.ref ad1)]) (rest := []) (St' := [(.int (f5 ad14 ad1 n2 d2 n1 d1))]) at_339 (hw _ (List.mem_of_getElem? (i := 23) rfl)) (hw _ (List.mem_of_getElem? (i := 24) rfl)) (hw _ (List.mem_of_getElem? (i := 26) rfl)) (hw _ (List.mem_of_getElem? (i := 25) rfl)) (hw _ (List.mem_of_getElem? (i := 7) rfl)) (hw _ (List.mem_of_getElem? (i := 27) rfl)) (by decide) E16 (rm5 l Z a0 hw ad14 ad1 n2 d2 n1 d1 h16 n0 F16_numerator F16_denominator F19 F20 F21) (by decide) (by decide) rfl rfl (by decide) (by decide) rfl pd_28Ljava2flang2fObject3b29Z rfl rfl rfl (Nat.le_of_ble_eq_true rfl) rfl rfl ?_
        rw [show (f5 ad14 ad1 n2 d2 n1 d1) = (1 : Int32) from (if_pos hc139).trans (if_pos hc146)]
        show GoB0 l Z n0 OwnW.One1 h16 2 4 342 #[.val (.int a), .val (.int b), .val (.int c), .val (.int e), .val (.int f), .val (.int n1), .val (.int d1), .val (.int n2), .val (.int d2), .val (.int (1 : Int32)), .val (.ref ad1), .val (.ref ad14), .val (.ref ad14), .val (.int (1 : Int32)), .val (.int (1 : Int32))] [(.int (1 : Int32))]
        refine OwnW.iload (pc' := 344) at_342 rfl rfl ?_
        refine OwnW.icmpN (pc' := 347) at_344 (teq (by decide)).2 rfl ?_
        refine OwnW.iconst (pc' := 348) (v := (1 : Int32)) at_347 rfl rfl ?_
        refine OwnW.goto (pc' := 352) at_348 (by decide) (by decide) ?_
        exact OwnW.retN (t := .boolean) at_352 rfl (by simp) rfl (by decide) (by decide) (rfl)
      ·
        refine OwnW.icmpY (pc' := 153) at_146 (feq hc146).2 (by decide) (by decide) ?_
        refine OwnW.iconst (pc' := 154) (v := (0 : Int32)) at_153 rfl rfl ?_
        refine OwnW.istore (pc' := 156) (L' := #[.val (.int a), .val (.int b), .val (.int c), .val (.int e), .val (.int f), .val (.int n1), .val (.int d1), .val (.int n2), .val (.int d2), .val (.int (1 : Int32)), .val (.ref ad1), .val (.ref ad14), .val (.ref ad14), .val (.int (0 : Int32)), .unset]) at_154 rfl rfl ?_
        refine OwnW.goto (pc' := 312) at_156 (by decide) (by decide) ?_
        refine OwnW.aload (pc' := 314) at_312 rfl (rfl) rfl ?_
        refine OwnW.aload (pc' := 316) at_314 rfl (rfl) rfl ?_
        have F22 := ((F3_numerator.ext E14).keep K16 (ninS (Nat.ne_of_lt lt_ad1_ad14) nin0))
        have F23 := ((F3_denominator.ext E14).keep K16 (ninS (Nat.ne_of_lt lt_ad1_ad14) nin0))
        have F24 := ((E3.ext E14).keep K16)
        refine OwnW.callV0 (a0 := a0) (pc' := 319) (W := 0) (k' := 2) (n' := 4) (argsL := [(.ref ad14)]) (rest := []) (St' := [(.int (f5 ad1 ad14 n1 d1 n2 d2))]) at_316 (hw _ (List.mem_of_getElem? (i := 23) rfl)) (hw _ (List.mem_of_getElem? (i := 24) rfl)) (hw _ (List.mem_of_getElem? (i := 26) rfl)) (hw _ (List.mem_of_getElem? (i := 25) rfl)) (hw _ (List.mem_of_getElem? (i := 7) rfl)) (hw _ (List.mem_of_getElem? (i := 27) rfl)) (by decide) F24 (rm5 l Z a0 hw ad1 ad14 n1 d1 n2 d2 h16 n0 F22 F23 F16_numerator F16_denominator E16) (by decide) (by decide) rfl rfl (by decide) (by decide) rfl pd_28Ljava2flang2fObject3b29Z rfl rfl rfl (Nat.le_of_ble_eq_true rfl) rfl rfl ?_
        rw [show (f5 ad1 ad14 n1 d1 n2 d2) = (0 : Int32) from (if_pos hc139.symm).trans (if_neg (fun q => hc146 q.symm))]
        show GoB0 l Z n0 OwnW.One1 h16 2 4 319 #[.val (.int a), .val (.int b), .val (.int c), .val (.int e), .val (.int f), .val (.int n1), .val (.int d1), .val (.int n2), .val (.int d2), .val (.int (1 : Int32)), .val (.ref ad1), .val (.ref ad14), .val (.ref ad14), .val (.int (0 : Int32)), .unset] [(.int (0 : Int32))]
        refine OwnW.istore (pc' := 321) (L' := #[.val (.int a), .val (.int b), .val (.int c), .val (.int e), .val (.int f), .val (.int n1), .val (.int d1), .val (.int n2), .val (.int d2), .val (.int (1 : Int32)), .val (.ref ad1), .val (.ref ad14), .val (.ref ad14), .val (.int (0 : Int32)), .val (.int (0 : Int32))]) at_319 rfl rfl ?_
        refine OwnW.iload (pc' := 323) at_321 rfl rfl ?_
        refine OwnW.iload (pc' := 325) at_323 rfl rfl ?_
        refine OwnW.icmpY (pc' := 330) at_325 (teq (by decide)).1 (by decide) (by decide) ?_
        refine OwnW.aload (pc' := 332) at_330 rfl (rfl) rfl ?_
        refine OwnW.ifnullN (pc' := 335) at_332 rfl ?_
        refine OwnW.aload (pc' := 337) at_335 rfl (rfl) rfl ?_
        refine OwnW.aload (pc' := 339) at_337 rfl (rfl) rfl ?_
        refine OwnW.callV0 (a0 := a0) (pc' := 342) (W := 0) (k' := 2) (n' := 4) (argsL := [(.ref ad1)]) (rest := []) (St' := [(.int (f5 ad14 ad1 n2 d2 n1 d1))]) at_339 (hw _ (List.mem_of_getElem? (i := 23) rfl)) (hw _ (List.mem_of_getElem? (i := 24) rfl)) (hw _ (List.mem_of_getElem? (i := 26) rfl)) (hw _ (List.mem_of_getElem? (i := 25) rfl)) (hw _ (List.mem_of_getElem? (i := 7) rfl)) (hw _ (List.mem_of_getElem? (i := 27) rfl)) (by decide) E16 (rm5 l Z a0 hw ad14 ad1 n2 d2 n1 d1 h16 n0 F16_numerator F16_denominator F22 F23 F24) (by decide) (by decide) rfl rfl (by decide) (by decide) rfl pd_28Ljava2flang2fObject3b29Z rfl rfl rfl (Nat.le_of_ble_eq_true rfl) rfl rfl ?_
        rw [show (f5 ad14 ad1 n2 d2 n1 d1) = (0 : Int32) from (if_pos hc139).trans (if_neg hc146)]
        show GoB0 l Z n0 OwnW.One1 h16 2 4 342 #[.val (.int a), .val (.int b), .val (.int c), .val (.int e), .val (.int f), .val (.int n1), .val (.int d1), .val (.int n2), .val (.int d2), .val (.int (1 : Int32)), .val (.ref ad1), .val (.ref ad14), .val (.ref ad14), .val (.int (0 : Int32)), .val (.int (0 : Int32))] [(.int (0 : Int32))]
        refine OwnW.iload (pc' := 344) at_342 rfl rfl ?_
        refine OwnW.icmpN (pc' := 347) at_344 (teq (by decide)).2 rfl ?_
        refine OwnW.iconst (pc' := 348) (v := (1 : Int32)) at_347 rfl rfl ?_
        refine OwnW.goto (pc' := 352) at_348 (by decide) (by decide) ?_
        exact OwnW.retN (t := .boolean) at_352 rfl (by simp) rfl (by decide) (by decide) (rfl)
    ·
      refine OwnW.icmpY (pc' := 153) at_139 (feq hc139).2 (by decide) (by decide) ?_
      refine OwnW.iconst (pc' := 154) (v := (0 : Int32)) at_153 rfl rfl ?_
      refine OwnW.istore (pc' := 156) (L' := #[.val (.int a), .val (.int b), .val (.int c), .val (.int e), .val (.int f), .val (.int n1), .val (.int d1), .val (.int n2), .val (.int d2), .val (.int (1 : Int32)), .val (.ref ad1), .val (.ref ad14), .val (.ref ad14), .val (.int (0 : Int32)), .unset]) at_154 rfl rfl ?_
      refine OwnW.goto (pc' := 312) at_156 (by decide) (by decide) ?_
      refine OwnW.aload (pc' := 314) at_312 rfl (rfl) rfl ?_
      refine OwnW.aload (pc' := 316) at_314 rfl (rfl) rfl ?_
      have F25 := ((F3_numerator.ext E14).keep K16 (ninS (Nat.ne_of_lt lt_ad1_ad14) nin0))
      have F26 := ((F3_denominator.ext E14).keep K16 (ninS (Nat.ne_of_lt lt_ad1_ad14) nin0))
      have F27 := ((E3.ext E14).keep K16)
      refine OwnW.callV0 (a0 := a0) (pc' := 319) (W := 0) (k' := 2) (n' := 4) (argsL := [(.ref ad14)]) (rest := []) (St' := [(.int (f5 ad1 ad14 n1 d1 n2 d2))]) at_316 (hw _ (List.mem_of_getElem? (i := 23) rfl)) (hw _ (List.mem_of_getElem? (i := 24) rfl)) (hw _ (List.mem_of_getElem? (i := 26) rfl)) (hw _ (List.mem_of_getElem? (i := 25) rfl)) (hw _ (List.mem_of_getElem? (i := 7) rfl)) (hw _ (List.mem_of_getElem? (i := 27) rfl)) (by decide) F27 (rm5 l Z a0 hw ad1 ad14 n1 d1 n2 d2 h16 n0 F25 F26 F16_numerator F16_denominator E16) (by decide) (by decide) rfl rfl (by decide) (by decide) rfl pd_28Ljava2flang2fObject3b29Z rfl rfl rfl (Nat.le_of_ble_eq_true rfl) rfl rfl ?_
      rw [show (f5 ad1 ad14 n1 d1 n2 d2) = (0 : Int32) from (if_neg (fun q => hc139 q.symm))]
      show GoB0 l Z n0 OwnW.One1 h16 2 4 319 #[.val (.int a), .val (.int b), .val (.int c), .val (.int e), .val (.int f), .val (.int n1), .val (.int d1), .val (.int n2), .val (.int d2), .val (.int (1 : Int32)), .val (.ref ad1), .val (.ref ad14), .val (.ref ad14), .val (.int (0 : Int32)), .unset] [(.int (0 : Int32))]
      refine OwnW.istore (pc' := 321) (L' := #[.val (.int a), .val (.int b), .val (.int c), .val (.int e), .val (.int f), .val (.int n1), .val (.int d1), .val (.int n2), .val (.int d2), .val (.int (1 : Int32)), .val (.ref ad1), .val (.ref ad14), .val (.ref ad14), .val (.int (0 : Int32)), .val (.int (0 : Int32))]) at_319 rfl rfl ?_
      refine OwnW.iload (pc' := 323) at_321 rfl rfl ?_
      refine OwnW.iload (pc' := 325) at_323 rfl rfl ?_
      refine OwnW.icmpY (pc' := 330) at_325 (teq (by decide)).1 (by decide) (by decide) ?_
      refine OwnW.aload (pc' := 332) at_330 rfl (rfl) rfl ?_
      refine OwnW.ifnullN (pc' := 335) at_332 rfl ?_
      refine OwnW.aload (pc' := 337) at_335 rfl (rfl) rfl ?_
      refine OwnW.aload (pc' := 339) at_337 rfl (rfl) rfl ?_
      refine OwnW.callV0 (a0 := a0) (pc' := 342) (W := 0) (k' := 2) (n' := 4) (argsL := [(.ref ad1)]) (rest := []) (St' := [(.int (f5 ad14 ad1 n2 d2 n1 d1))]) at_339 (hw _ (List.mem_of_getElem? (i := 23) rfl)) (hw _ (List.mem_of_getElem? (i := 24) rfl)) (hw _ (List.mem_of_getElem? (i := 26) rfl)) (hw _ (List.mem_of_getElem? (i := 25) rfl)) (hw _ (List.mem_of_getElem? (i := 7) rfl)) (hw _ (List.mem_of_getElem? (i := 27) rfl)) (by decide) E16 (rm5 l Z a0 hw ad14 ad1 n2 d2 n1 d1 h16 n0 F16_numerator F16_denominator F25 F26 F27) (by decide) (by decide) rfl rfl (by decide) (by decide) rfl pd_28Ljava2flang2fObject3b29Z rfl rfl rfl (Nat.le_of_ble_eq_true rfl) rfl rfl ?_
      rw [show (f5 ad14 ad1 n2 d2 n1 d1) = (0 : Int32) from (if_neg hc139)]
      show GoB0 l Z n0 OwnW.One1 h16 2 4 342 #[.val (.int a), .val (.int b), .val (.int c), .val (.int e), .val (.int f), .val (.int n1), .val (.int d1), .val (.int n2), .val (.int d2), .val (.int (1 : Int32)), .val (.ref ad1), .val (.ref ad14), .val (.ref ad14), .val (.int (0 : Int32)), .val (.int (0 : Int32))] [(.int (0 : Int32))]
      refine OwnW.iload (pc' := 344) at_342 rfl rfl ?_
      refine OwnW.icmpN (pc' := 347) at_344 (teq (by decide)).2 rfl ?_
      refine OwnW.iconst (pc' := 348) (v := (1 : Int32)) at_347 rfl rfl ?_
      refine OwnW.goto (pc' := 352) at_348 (by decide) (by decide) ?_
      exact OwnW.retN (t := .boolean) at_352 rfl (by simp) rfl (by decide) (by decide) (rfl)
  ·
    show GoB0 l Z n0 OwnW.One1 h3 1 2 77 #[.val (.int a), .val (.int b), .val (.int c), .val (.int e), .val (.int f), .val (.int n1), .val (.int d1), .val (.int n2), .val (.int d2), .val (.int (2 : Int32)), .val (.ref ad1), .unset, .val .null, .unset, .unset] []
    refine OwnW.iload (pc' := 79) at_77 rfl rfl ?_
    refine OwnW.ifcY (pc' := 105) at_79 ((if0 _ _).trans (feq (by decide)).2) (by decide) (by decide) ?_
    refine OwnW.iload (pc' := 107) at_105 rfl rfl ?_
    refine OwnW.iconst (pc' := 108) (v := (1 : Int32)) at_107 rfl rfl ?_
    refine OwnW.icmpN (pc' := 111) at_108 (feq (by decide)).1 rfl ?_
    refine OwnW.iload (pc' := 113) at_111 rfl rfl ?_
    refine OwnW.bipush (pc' := 115) (v := (7 : Int32)) at_113 rfl rfl ?_
    refine OwnW.icmpY (pc' := 159) at_115 (feq (by decide)).2 (by decide) (by decide) ?_
    refine OwnW.iload (pc' := 161) at_159 rfl rfl ?_
    refine OwnW.iconst (pc' := 162) (v := (2 : Int32)) at_161 rfl rfl ?_
    refine OwnW.icmpN (pc' := 165) at_162 (teq (by decide)).2 rfl ?_
    refine OwnW.iload (pc' := 167) at_165 rfl rfl ?_
    refine OwnW.iloadN (pc' := 168) at_167 rfl rfl ?_
    refine OwnW.ldcI (a0 := a0) (pc' := 170) (v := (2147483647 : Int32)) at_168 (hw _ (List.mem_of_getElem? (i := 0) rfl)) rfl ?_
    refine OwnW.iand (pc' := 171) at_170 rfl ?_
    refine OwnW.ldcI (a0 := a0) (pc' := 173) (v := (2147483647 : Int32)) at_171 (hw _ (List.mem_of_getElem? (i := 0) rfl)) rfl ?_
    refine OwnW.iload (pc' := 175) at_173 rfl rfl ?_
    refine OwnW.isub (pc' := 176) at_175 rfl ?_
    refine OwnW.iconst (pc' := 177) (v := (1 : Int32)) at_176 rfl rfl ?_
    refine OwnW.iadd (pc' := 178) at_177 rfl ?_
    refine OwnW.irem (pc' := 179) at_178 (own_dv hn1) rfl ?_
    refine OwnW.iadd (pc' := 180) at_179 rfl ?_
    obtain ⟨dd, hdd⟩ : ∃ z, z = (n1 + ((e &&& (2147483647 : Int32)) % (((2147483647 : Int32) - n1) + (1 : Int32)))) := ⟨_, rfl⟩
    rw [← hdd]
    show GoB0 l Z n0 OwnW.One1 h3 1 2 180 #[.val (.int a), .val (.int b), .val (.int c), .val (.int e), .val (.int f), .val (.int n1), .val (.int d1), .val (.int n2), .val (.int d2), .val (.int (2 : Int32)), .val (.ref ad1), .unset, .val .null, .unset, .unset] [(.int dd)]
    refine OwnW.istore (pc' := 182) (L' := #[.val (.int a), .val (.int b), .val (.int c), .val (.int e), .val (.int f), .val (.int n1), .val (.int d1), .val (.int n2), .val (.int d2), .val (.int (2 : Int32)), .val (.ref ad1), .unset, .val .null, .unset, .val (.int dd)]) at_180 rfl rfl ?_
    refine OwnW.newO (a0 := a0) (pc' := 185) (k' := 2) (n' := 4) at_182 (hw _ (List.mem_of_getElem? (i := 5) rfl)) (hw _ (List.mem_of_getElem? (i := 6) rfl)) (hw _ (List.mem_of_getElem? (i := 7) rfl)) rfl rfl (by decide) (by decide) rfl ?_
    intro h28 ad28 g28 E28 A28 D28
    have lt_ad1_ad28 : ad1 < ad28 := Nat.lt_of_lt_of_le (E3).lt (Nat.le_of_eq g28.symm)
    have ge_ad28 : n0 ≤ ad28 := Nat.le_trans sz5 (Nat.le_of_eq g28.symm)
    have X29 : Ext h0 h28 := OwnW.ext_trans X4 E28
    have sz_ad28 : n0 ≤ h28.size := Nat.le_trans sz5 E28.1
    have F28_numerator : Fld Z h28 ad28 "com/example/paystage/paystage/Fraction" "numerator" "I" (.int (0 : Int32)) := D28 (Or.inr (hw _ (List.mem_of_getElem? (i := 20) rfl))) (ty := .int) (by decide)
    have F28_denominator : Fld Z h28 ad28 "com/example/paystage/paystage/Fraction" "denominator" "I" (.int (0 : Int32)) := D28 (Or.inr (hw _ (List.mem_of_getElem? (i := 22) rfl))) (ty := .int) (by decide)
    refine OwnW.dup (pc' := 186) at_185 rfl rfl ?_
    refine OwnW.iload (pc' := 188) at_186 rfl rfl ?_
    refine OwnW.iload (pc' := 190) at_188 rfl rfl ?_
    refine OwnW.callI (a0 := a0) (pc' := 193) (W := 1) (k' := 2) (n' := 4) (argsL := [(.int n1), (.int dd)]) (rest := [(.ref ad28)]) at_190 rfl (hw _ (List.mem_of_getElem? (i := 8) rfl)) (hw _ (List.mem_of_getElem? (i := 9) rfl)) (hw _ (List.mem_of_getElem? (i := 7) rfl)) (hw _ (List.mem_of_getElem? (i := 10) rfl)) (by decide) (rm2 l Z a0 hw ad28 n1 dd h28 n0 sz_ad28 ge_ad28 A28 F28_numerator F28_denominator (own_ok hn1 hdd).1 (own_ok hn1 hdd).2) (by decide) (by decide) rfl rfl (by decide) (by decide) rfl pd_28II29V rfl rfl rfl (Nat.le_of_ble_eq_true rfl) rfl ?_
    rintro h30 v30 ⟨rfl, K30, E30, F30_numerator, F30_denominator⟩
    have X31 : Ext h0 h30 := OwnW.ext_keep X29 K30 (allS (Nat.le_trans (Nat.le_trans (Nat.le_trans (Nat.le_refl _) E1.1) K3.1) (Nat.le_of_eq g28.symm)) all0)
    have sz32 : n0 ≤ h30.size := Nat.le_trans sz_ad28 K30.1
    show GoB0 l Z n0 OwnW.One1 h30 2 4 193 #[.val (.int a), .val (.int b), .val (.int c), .val (.int e), .val (.int f), .val (.int n1), .val (.int d1), .val (.int n2), .val (.int d2), .val (.int (2 : Int32)), .val (.ref ad1), .unset, .val .null, .unset, .val (.int dd)] [(.ref ad28)]
    refine OwnW.astore (pc' := 195) (L' := #[.val (.int a), .val (.int b), .val (.int c), .val (.int e), .val (.int f), .val (.int n1), .val (.int d1), .val (.int n2), .val (.int d2), .val (.int (2 : Int32)), .val (.ref ad1), .unset, .val (.ref ad28), .unset, .val (.int dd)]) at_193 (rfl) rfl rfl ?_
    refine OwnW.aload (pc' := 197) at_195 rfl (rfl) rfl ?_
    refine OwnW.astore (pc' := 199) (L' := #[.val (.int a), .val (.int b), .val (.int c), .val (.int e), .val (.int f), .val (.int n1), .val (.int d1), .val (.int n2), .val (.int d2), .val (.int (2 : Int32)), .val (.ref ad1), .val (.ref ad28), .val (.ref ad28), .unset, .val (.int dd)]) at_197 (rfl) rfl rfl ?_
    refine OwnW.iload (pc' := 201) at_199 rfl rfl ?_
    refine OwnW.iload (pc' := 203) at_201 rfl rfl ?_
    by_cases hc203 : dd = d1
    ·
      refine OwnW.icmpN (pc' := 206) at_203 (teq hc203).2 rfl ?_
      refine OwnW.iconst (pc' := 207) (v := (1 : Int32)) at_206 rfl rfl ?_
      refine OwnW.goto (pc' := 211) at_207 (by decide) (by decide) ?_
      refine OwnW.istore (pc' := 213) (L' := #[.val (.int a), .val (.int b), .val (.int c), .val (.int e), .val (.int f), .val (.int n1), .val (.int d1), .val (.int n2), .val (.int d2), .val (.int (2 : Int32)), .val (.ref ad1), .val (.ref ad28), .val (.ref ad28), .val (.int (1 : Int32)), .val (.int dd)]) at_211 rfl rfl ?_
      refine OwnW.goto (pc' := 312) at_213 (by decide) (by decide) ?_
      refine OwnW.aload (pc' := 314) at_312 rfl (rfl) rfl ?_
      refine OwnW.aload (pc' := 316) at_314 rfl (rfl) rfl ?_
      have F33 := ((F3_numerator.ext E28).keep K30 (ninS (Nat.ne_of_lt lt_ad1_ad28) nin0))
      have F34 := ((F3_denominator.ext E28).keep K30 (ninS (Nat.ne_of_lt lt_ad1_ad28) nin0))
      have F35 := ((E3.ext E28).keep K30)
      refine OwnW.callV0 (a0 := a0) (pc' := 319) (W := 0) (k' := 2) (n' := 4) (argsL := [(.ref ad28)]) (rest := []) (St' := [(.int (f5 ad1 ad28 n1 d1 n1 dd))]) at_316 (hw _ (List.mem_of_getElem? (i := 23) rfl)) (hw _ (List.mem_of_getElem? (i := 24) rfl)) (hw _ (List.mem_of_getElem? (i := 26) rfl)) (hw _ (List.mem_of_getElem? (i := 25) rfl)) (hw _ (List.mem_of_getElem? (i := 7) rfl)) (hw _ (List.mem_of_getElem? (i := 27) rfl)) (by decide) F35 (rm5 l Z a0 hw ad1 ad28 n1 d1 n1 dd h30 n0 F33 F34 F30_numerator F30_denominator E30) (by decide) (by decide) rfl rfl (by decide) (by decide) rfl pd_28Ljava2flang2fObject3b29Z rfl rfl rfl (Nat.le_of_ble_eq_true rfl) rfl rfl ?_
      rw [show (f5 ad1 ad28 n1 d1 n1 dd) = (1 : Int32) from (if_pos rfl).trans (if_pos hc203)]
      show GoB0 l Z n0 OwnW.One1 h30 2 4 319 #[.val (.int a), .val (.int b), .val (.int c), .val (.int e), .val (.int f), .val (.int n1), .val (.int d1), .val (.int n2), .val (.int d2), .val (.int (2 : Int32)), .val (.ref ad1), .val (.ref ad28), .val (.ref ad28), .val (.int (1 : Int32)), .val (.int dd)] [(.int (1 : Int32))]
      refine OwnW.istore (pc' := 321) (L' := #[.val (.int a), .val (.int b), .val (.int c), .val (.int e), .val (.int f), .val (.int n1), .val (.int d1), .val (.int n2), .val (.int d2), .val (.int (2 : Int32)), .val (.ref ad1), .val (.ref ad28), .val (.ref ad28), .val (.int (1 : Int32)), .val (.int (1 : Int32))]) at_319 rfl rfl ?_
      refine OwnW.iload (pc' := 323) at_321 rfl rfl ?_
      refine OwnW.iload (pc' := 325) at_323 rfl rfl ?_
      refine OwnW.icmpY (pc' := 330) at_325 (teq (by decide)).1 (by decide) (by decide) ?_
      refine OwnW.aload (pc' := 332) at_330 rfl (rfl) rfl ?_
      refine OwnW.ifnullN (pc' := 335) at_332 rfl ?_
      refine OwnW.aload (pc' := 337) at_335 rfl (rfl) rfl ?_
      refine OwnW.aload (pc' := 339) at_337 rfl (rfl) rfl ?_
      refine OwnW.callV0 (a0 := a0) (pc' := 342) (W := 0) (k' := 2) (n' := 4) (argsL := [(.ref ad1)]) (rest := []) (St' := [(.int (f5 ad28 ad1 n1 dd n1 d1))]) at_339 (hw _ (List.mem_of_getElem? (i := 23) rfl)) (hw _ (List.mem_of_getElem? (i := 24) rfl)) (hw _ (List.mem_of_getElem? (i := 26) rfl)) (hw _ (List.mem_of_getElem? (i := 25) rfl)) (hw _ (List.mem_of_getElem? (i := 7) rfl)) (hw _ (List.mem_of_getElem? (i := 27) rfl)) (by decide) E30 (rm5 l Z a0 hw ad28 ad1 n1 dd n1 d1 h30 n0 F30_numerator F30_denominator F33 F34 F35) (by decide) (by decide) rfl rfl (by decide) (by decide) rfl pd_28Ljava2flang2fObject3b29Z rfl rfl rfl (Nat.le_of_ble_eq_true rfl) rfl rfl ?_
      rw [show (f5 ad28 ad1 n1 dd n1 d1) = (1 : Int32) from (if_pos rfl).trans (if_pos hc203.symm)]
      show GoB0 l Z n0 OwnW.One1 h30 2 4 342 #[.val (.int a), .val (.int b), .val (.int c), .val (.int e), .val (.int f), .val (.int n1), .val (.int d1), .val (.int n2), .val (.int d2), .val (.int (2 : Int32)), .val (.ref ad1), .val (.ref ad28), .val (.ref ad28), .val (.int (1 : Int32)), .val (.int (1 : Int32))] [(.int (1 : Int32))]
      refine OwnW.iload (pc' := 344) at_342 rfl rfl ?_
      refine OwnW.icmpN (pc' := 347) at_344 (teq (by decide)).2 rfl ?_
      refine OwnW.iconst (pc' := 348) (v := (1 : Int32)) at_347 rfl rfl ?_
      refine OwnW.goto (pc' := 352) at_348 (by decide) (by decide) ?_
      exact OwnW.retN (t := .boolean) at_352 rfl (by simp) rfl (by decide) (by decide) (rfl)
    ·
      refine OwnW.icmpY (pc' := 210) at_203 (feq hc203).2 (by decide) (by decide) ?_
      refine OwnW.iconst (pc' := 211) (v := (0 : Int32)) at_210 rfl rfl ?_
      refine OwnW.istore (pc' := 213) (L' := #[.val (.int a), .val (.int b), .val (.int c), .val (.int e), .val (.int f), .val (.int n1), .val (.int d1), .val (.int n2), .val (.int d2), .val (.int (2 : Int32)), .val (.ref ad1), .val (.ref ad28), .val (.ref ad28), .val (.int (0 : Int32)), .val (.int dd)]) at_211 rfl rfl ?_
      refine OwnW.goto (pc' := 312) at_213 (by decide) (by decide) ?_
      refine OwnW.aload (pc' := 314) at_312 rfl (rfl) rfl ?_
      refine OwnW.aload (pc' := 316) at_314 rfl (rfl) rfl ?_
      have F36 := ((F3_numerator.ext E28).keep K30 (ninS (Nat.ne_of_lt lt_ad1_ad28) nin0))
      have F37 := ((F3_denominator.ext E28).keep K30 (ninS (Nat.ne_of_lt lt_ad1_ad28) nin0))
      have F38 := ((E3.ext E28).keep K30)
      refine OwnW.callV0 (a0 := a0) (pc' := 319) (W := 0) (k' := 2) (n' := 4) (argsL := [(.ref ad28)]) (rest := []) (St' := [(.int (f5 ad1 ad28 n1 d1 n1 dd))]) at_316 (hw _ (List.mem_of_getElem? (i := 23) rfl)) (hw _ (List.mem_of_getElem? (i := 24) rfl)) (hw _ (List.mem_of_getElem? (i := 26) rfl)) (hw _ (List.mem_of_getElem? (i := 25) rfl)) (hw _ (List.mem_of_getElem? (i := 7) rfl)) (hw _ (List.mem_of_getElem? (i := 27) rfl)) (by decide) F38 (rm5 l Z a0 hw ad1 ad28 n1 d1 n1 dd h30 n0 F36 F37 F30_numerator F30_denominator E30) (by decide) (by decide) rfl rfl (by decide) (by decide) rfl pd_28Ljava2flang2fObject3b29Z rfl rfl rfl (Nat.le_of_ble_eq_true rfl) rfl rfl ?_
      rw [show (f5 ad1 ad28 n1 d1 n1 dd) = (0 : Int32) from (if_pos rfl).trans (if_neg hc203)]
      show GoB0 l Z n0 OwnW.One1 h30 2 4 319 #[.val (.int a), .val (.int b), .val (.int c), .val (.int e), .val (.int f), .val (.int n1), .val (.int d1), .val (.int n2), .val (.int d2), .val (.int (2 : Int32)), .val (.ref ad1), .val (.ref ad28), .val (.ref ad28), .val (.int (0 : Int32)), .val (.int dd)] [(.int (0 : Int32))]
      refine OwnW.istore (pc' := 321) (L' := #[.val (.int a), .val (.int b), .val (.int c), .val (.int e), .val (.int f), .val (.int n1), .val (.int d1), .val (.int n2), .val (.int d2), .val (.int (2 : Int32)), .val (.ref ad1), .val (.ref ad28), .val (.ref ad28), .val (.int (0 : Int32)), .val (.int (0 : Int32))]) at_319 rfl rfl ?_
      refine OwnW.iload (pc' := 323) at_321 rfl rfl ?_
      refine OwnW.iload (pc' := 325) at_323 rfl rfl ?_
      refine OwnW.icmpY (pc' := 330) at_325 (teq (by decide)).1 (by decide) (by decide) ?_
      refine OwnW.aload (pc' := 332) at_330 rfl (rfl) rfl ?_
      refine OwnW.ifnullN (pc' := 335) at_332 rfl ?_
      refine OwnW.aload (pc' := 337) at_335 rfl (rfl) rfl ?_
      refine OwnW.aload (pc' := 339) at_337 rfl (rfl) rfl ?_
      refine OwnW.callV0 (a0 := a0) (pc' := 342) (W := 0) (k' := 2) (n' := 4) (argsL := [(.ref ad1)]) (rest := []) (St' := [(.int (f5 ad28 ad1 n1 dd n1 d1))]) at_339 (hw _ (List.mem_of_getElem? (i := 23) rfl)) (hw _ (List.mem_of_getElem? (i := 24) rfl)) (hw _ (List.mem_of_getElem? (i := 26) rfl)) (hw _ (List.mem_of_getElem? (i := 25) rfl)) (hw _ (List.mem_of_getElem? (i := 7) rfl)) (hw _ (List.mem_of_getElem? (i := 27) rfl)) (by decide) E30 (rm5 l Z a0 hw ad28 ad1 n1 dd n1 d1 h30 n0 F30_numerator F30_denominator F36 F37 F38) (by decide) (by decide) rfl rfl (by decide) (by decide) rfl pd_28Ljava2flang2fObject3b29Z rfl rfl rfl (Nat.le_of_ble_eq_true rfl) rfl rfl ?_
      rw [show (f5 ad28 ad1 n1 dd n1 d1) = (0 : Int32) from (if_pos rfl).trans (if_neg (fun q => hc203 q.symm))]
      show GoB0 l Z n0 OwnW.One1 h30 2 4 342 #[.val (.int a), .val (.int b), .val (.int c), .val (.int e), .val (.int f), .val (.int n1), .val (.int d1), .val (.int n2), .val (.int d2), .val (.int (2 : Int32)), .val (.ref ad1), .val (.ref ad28), .val (.ref ad28), .val (.int (0 : Int32)), .val (.int (0 : Int32))] [(.int (0 : Int32))]
      refine OwnW.iload (pc' := 344) at_342 rfl rfl ?_
      refine OwnW.icmpN (pc' := 347) at_344 (teq (by decide)).2 rfl ?_
      refine OwnW.iconst (pc' := 348) (v := (1 : Int32)) at_347 rfl rfl ?_
      refine OwnW.goto (pc' := 352) at_348 (by decide) (by decide) ?_
      exact OwnW.retN (t := .boolean) at_352 rfl (by simp) rfl (by decide) (by decide) (rfl)
  ·
    show GoB0 l Z n0 OwnW.One1 h3 1 2 77 #[.val (.int a), .val (.int b), .val (.int c), .val (.int e), .val (.int f), .val (.int n1), .val (.int d1), .val (.int n2), .val (.int d2), .val (.int (3 : Int32)), .val (.ref ad1), .unset, .val .null, .unset, .unset] []
    refine OwnW.iload (pc' := 79) at_77 rfl rfl ?_
    refine OwnW.ifcY (pc' := 105) at_79 ((if0 _ _).trans (feq (by decide)).2) (by decide) (by decide) ?_
    refine OwnW.iload (pc' := 107) at_105 rfl rfl ?_
    refine OwnW.iconst (pc' := 108) (v := (1 : Int32)) at_107 rfl rfl ?_
    refine OwnW.icmpN (pc' := 111) at_108 (feq (by decide)).1 rfl ?_
    refine OwnW.iload (pc' := 113) at_111 rfl rfl ?_
    refine OwnW.bipush (pc' := 115) (v := (7 : Int32)) at_113 rfl rfl ?_
    refine OwnW.icmpY (pc' := 159) at_115 (feq (by decide)).2 (by decide) (by decide) ?_
    refine OwnW.iload (pc' := 161) at_159 rfl rfl ?_
    refine OwnW.iconst (pc' := 162) (v := (2 : Int32)) at_161 rfl rfl ?_
    refine OwnW.icmpY (pc' := 216) at_162 (feq (by decide)).2 (by decide) (by decide) ?_
    refine OwnW.iload (pc' := 218) at_216 rfl rfl ?_
    refine OwnW.iconst (pc' := 219) (v := (3 : Int32)) at_218 rfl rfl ?_
    refine OwnW.icmpN (pc' := 222) at_219 (teq (by decide)).2 rfl ?_
    refine OwnW.iloadN (pc' := 223) at_222 rfl rfl ?_
    refine OwnW.ldcI (a0 := a0) (pc' := 225) (v := (2147483647 : Int32)) at_223 (hw _ (List.mem_of_getElem? (i := 0) rfl)) rfl ?_
    refine OwnW.iand (pc' := 226) at_225 rfl ?_
    refine OwnW.iload (pc' := 228) at_226 rfl rfl ?_
    refine OwnW.irem (pc' := 229) at_228 (own_d0 hn1 hd1) rfl ?_
    refine OwnW.iconst (pc' := 230) (v := (1 : Int32)) at_229 rfl rfl ?_
    refine OwnW.iadd (pc' := 231) at_230 rfl ?_
    obtain ⟨nn, hnn⟩ : ∃ z, z = (((c &&& (2147483647 : Int32)) % d1) + (1 : Int32)) := ⟨_, rfl⟩
    rw [← hnn]
    show GoB0 l Z n0 OwnW.One1 h3 1 2 231 #[.val (.int a), .val (.int b), .val (.int c), .val (.int e), .val (.int f), .val (.int n1), .val (.int d1), .val (.int n2), .val (.int d2), .val (.int (3 : Int32)), .val (.ref ad1), .unset, .val .null, .unset, .unset] [(.int nn)]
    refine OwnW.istore (pc' := 233) (L' := #[.val (.int a), .val (.int b), .val (.int c), .val (.int e), .val (.int f), .val (.int n1), .val (.int d1), .val (.int n2), .val (.int d2), .val (.int (3 : Int32)), .val (.ref ad1), .unset, .val .null, .unset, .val (.int nn)]) at_231 rfl rfl ?_
    refine OwnW.newO (a0 := a0) (pc' := 236) (k' := 2) (n' := 4) at_233 (hw _ (List.mem_of_getElem? (i := 5) rfl)) (hw _ (List.mem_of_getElem? (i := 6) rfl)) (hw _ (List.mem_of_getElem? (i := 7) rfl)) rfl rfl (by decide) (by decide) rfl ?_
    intro h39 ad39 g39 E39 A39 D39
    have lt_ad1_ad39 : ad1 < ad39 := Nat.lt_of_lt_of_le (E3).lt (Nat.le_of_eq g39.symm)
    have ge_ad39 : n0 ≤ ad39 := Nat.le_trans sz5 (Nat.le_of_eq g39.symm)
    have X40 : Ext h0 h39 := OwnW.ext_trans X4 E39
    have sz_ad39 : n0 ≤ h39.size := Nat.le_trans sz5 E39.1
    have F39_numerator : Fld Z h39 ad39 "com/example/paystage/paystage/Fraction" "numerator" "I" (.int (0 : Int32)) := D39 (Or.inr (hw _ (List.mem_of_getElem? (i := 20) rfl))) (ty := .int) (by decide)
    have F39_denominator : Fld Z h39 ad39 "com/example/paystage/paystage/Fraction" "denominator" "I" (.int (0 : Int32)) := D39 (Or.inr (hw _ (List.mem_of_getElem? (i := 22) rfl))) (ty := .int) (by decide)
    refine OwnW.dup (pc' := 237) at_236 rfl rfl ?_
    refine OwnW.iload (pc' := 239) at_237 rfl rfl ?_
    refine OwnW.iload (pc' := 241) at_239 rfl rfl ?_
    refine OwnW.callI (a0 := a0) (pc' := 244) (W := 1) (k' := 2) (n' := 4) (argsL := [(.int nn), (.int d1)]) (rest := [(.ref ad39)]) at_241 rfl (hw _ (List.mem_of_getElem? (i := 8) rfl)) (hw _ (List.mem_of_getElem? (i := 9) rfl)) (hw _ (List.mem_of_getElem? (i := 7) rfl)) (hw _ (List.mem_of_getElem? (i := 10) rfl)) (by decide) (rm2 l Z a0 hw ad39 nn d1 h39 n0 sz_ad39 ge_ad39 A39 F39_numerator F39_denominator (own_oknn hn1 hd1 hnn).1 (own_oknn hn1 hd1 hnn).2) (by decide) (by decide) rfl rfl (by decide) (by decide) rfl pd_28II29V rfl rfl rfl (Nat.le_of_ble_eq_true rfl) rfl ?_
    rintro h41 v41 ⟨rfl, K41, E41, F41_numerator, F41_denominator⟩
    have X42 : Ext h0 h41 := OwnW.ext_keep X40 K41 (allS (Nat.le_trans (Nat.le_trans (Nat.le_trans (Nat.le_refl _) E1.1) K3.1) (Nat.le_of_eq g39.symm)) all0)
    have sz43 : n0 ≤ h41.size := Nat.le_trans sz_ad39 K41.1
    show GoB0 l Z n0 OwnW.One1 h41 2 4 244 #[.val (.int a), .val (.int b), .val (.int c), .val (.int e), .val (.int f), .val (.int n1), .val (.int d1), .val (.int n2), .val (.int d2), .val (.int (3 : Int32)), .val (.ref ad1), .unset, .val .null, .unset, .val (.int nn)] [(.ref ad39)]
    refine OwnW.astore (pc' := 246) (L' := #[.val (.int a), .val (.int b), .val (.int c), .val (.int e), .val (.int f), .val (.int n1), .val (.int d1), .val (.int n2), .val (.int d2), .val (.int (3 : Int32)), .val (.ref ad1), .unset, .val (.ref ad39), .unset, .val (.int nn)]) at_244 (rfl) rfl rfl ?_
    refine OwnW.aload (pc' := 248) at_246 rfl (rfl) rfl ?_
    refine OwnW.astore (pc' := 250) (L' := #[.val (.int a), .val (.int b), .val (.int c), .val (.int e), .val (.int f), .val (.int n1), .val (.int d1), .val (.int n2), .val (.int d2), .val (.int (3 : Int32)), .val (.ref ad1), .val (.ref ad39), .val (.ref ad39), .unset, .val (.int nn)]) at_248 (rfl) rfl rfl ?_
    refine OwnW.iload (pc' := 252) at_250 rfl rfl ?_
    refine OwnW.iload (pc' := 254) at_252 rfl rfl ?_
    by_cases hc254 : nn = n1
    ·
      refine OwnW.icmpN (pc' := 257) at_254 (teq hc254).2 rfl ?_
      refine OwnW.iconst (pc' := 258) (v := (1 : Int32)) at_257 rfl rfl ?_
      refine OwnW.goto (pc' := 262) at_258 (by decide) (by decide) ?_
      refine OwnW.istore (pc' := 264) (L' := #[.val (.int a), .val (.int b), .val (.int c), .val (.int e), .val (.int f), .val (.int n1), .val (.int d1), .val (.int n2), .val (.int d2), .val (.int (3 : Int32)), .val (.ref ad1), .val (.ref ad39), .val (.ref ad39), .val (.int (1 : Int32)), .val (.int nn)]) at_262 rfl rfl ?_
      refine OwnW.goto (pc' := 312) at_264 (by decide) (by decide) ?_
      refine OwnW.aload (pc' := 314) at_312 rfl (rfl) rfl ?_
      refine OwnW.aload (pc' := 316) at_314 rfl (rfl) rfl ?_
      have F44 := ((F3_numerator.ext E39).keep K41 (ninS (Nat.ne_of_lt lt_ad1_ad39) nin0))
      have F45 := ((F3_denominator.ext E39).keep K41 (ninS (Nat.ne_of_lt lt_ad1_ad39) nin0))
      have F46 := ((E3.ext E39).keep K41)
      refine OwnW.callV0 (a0 := a0) (pc' := 319) (W := 0) (k' := 2) (n' := 4) (argsL := [(.ref ad39)]) (rest := []) (St' := [(.int (f5 ad1 ad39 n1 d1 nn d1))]) at_316 (hw _ (List.mem_of_getElem? (i := 23) rfl)) (hw _ (List.mem_of_getElem? (i := 24) rfl)) (hw _ (List.mem_of_getElem? (i := 26) rfl)) (hw _ (List.mem_of_getElem? (i := 25) rfl)) (hw _ (List.mem_of_getElem? (i := 7) rfl)) (hw _ (List.mem_of_getElem? (i := 27) rfl)) (by decide) F46 (rm5 l Z a0 hw ad1 ad39 n1 d1 nn d1 h41 n0 F44 F45 F41_numerator F41_denominator E41) (by decide) (by decide) rfl rfl (by decide) (by decide) rfl pd_28Ljava2flang2fObject3b29Z rfl rfl rfl (Nat.le_of_ble_eq_true rfl) rfl rfl ?_
      rw [show (f5 ad1 ad39 n1 d1 nn d1) = (1 : Int32) from (if_pos hc254).trans (if_pos rfl)]
      show GoB0 l Z n0 OwnW.One1 h41 2 4 319 #[.val (.int a), .val (.int b), .val (.int c), .val (.int e), .val (.int f), .val (.int n1), .val (.int d1), .val (.int n2), .val (.int d2), .val (.int (3 : Int32)), .val (.ref ad1), .val (.ref ad39), .val (.ref ad39), .val (.int (1 : Int32)), .val (.int nn)] [(.int (1 : Int32))]
      refine OwnW.istore (pc' := 321) (L' := #[.val (.int a), .val (.int b), .val (.int c), .val (.int e), .val (.int f), .val (.int n1), .val (.int d1), .val (.int n2), .val (.int d2), .val (.int (3 : Int32)), .val (.ref ad1), .val (.ref ad39), .val (.ref ad39), .val (.int (1 : Int32)), .val (.int (1 : Int32))]) at_319 rfl rfl ?_
      refine OwnW.iload (pc' := 323) at_321 rfl rfl ?_
      refine OwnW.iload (pc' := 325) at_323 rfl rfl ?_
      refine OwnW.icmpY (pc' := 330) at_325 (teq (by decide)).1 (by decide) (by decide) ?_
      refine OwnW.aload (pc' := 332) at_330 rfl (rfl) rfl ?_
      refine OwnW.ifnullN (pc' := 335) at_332 rfl ?_
      refine OwnW.aload (pc' := 337) at_335 rfl (rfl) rfl ?_
      refine OwnW.aload (pc' := 339) at_337 rfl (rfl) rfl ?_
      refine OwnW.callV0 (a0 := a0) (pc' := 342) (W := 0) (k' := 2) (n' := 4) (argsL := [(.ref ad1)]) (rest := []) (St' := [(.int (f5 ad39 ad1 nn d1 n1 d1))]) at_339 (hw _ (List.mem_of_getElem? (i := 23) rfl)) (hw _ (List.mem_of_getElem? (i := 24) rfl)) (hw _ (List.mem_of_getElem? (i := 26) rfl)) (hw _ (List.mem_of_getElem? (i := 25) rfl)) (hw _ (List.mem_of_getElem? (i := 7) rfl)) (hw _ (List.mem_of_getElem? (i := 27) rfl)) (by decide) E41 (rm5 l Z a0 hw ad39 ad1 nn d1 n1 d1 h41 n0 F41_numerator F41_denominator F44 F45 F46) (by decide) (by decide) rfl rfl (by decide) (by decide) rfl pd_28Ljava2flang2fObject3b29Z rfl rfl rfl (Nat.le_of_ble_eq_true rfl) rfl rfl ?_
      rw [show (f5 ad39 ad1 nn d1 n1 d1) = (1 : Int32) from (if_pos hc254.symm).trans (if_pos rfl)]
      show GoB0 l Z n0 OwnW.One1 h41 2 4 342 #[.val (.int a), .val (.int b), .val (.int c), .val (.int e), .val (.int f), .val (.int n1), .val (.int d1), .val (.int n2), .val (.int d2), .val (.int (3 : Int32)), .val (.ref ad1), .val (.ref ad39), .val (.ref ad39), .val (.int (1 : Int32)), .val (.int (1 : Int32))] [(.int (1 : Int32))]
      refine OwnW.iload (pc' := 344) at_342 rfl rfl ?_
      refine OwnW.icmpN (pc' := 347) at_344 (teq (by decide)).2 rfl ?_
      refine OwnW.iconst (pc' := 348) (v := (1 : Int32)) at_347 rfl rfl ?_
      refine OwnW.goto (pc' := 352) at_348 (by decide) (by decide) ?_
      exact OwnW.retN (t := .boolean) at_352 rfl (by simp) rfl (by decide) (by decide) (rfl)
    ·
      refine OwnW.icmpY (pc' := 261) at_254 (feq hc254).2 (by decide) (by decide) ?_
      refine OwnW.iconst (pc' := 262) (v := (0 : Int32)) at_261 rfl rfl ?_
      refine OwnW.istore (pc' := 264) (L' := #[.val (.int a), .val (.int b), .val (.int c), .val (.int e), .val (.int f), .val (.int n1), .val (.int d1), .val (.int n2), .val (.int d2), .val (.int (3 : Int32)), .val (.ref ad1), .val (.ref ad39), .val (.ref ad39), .val (.int (0 : Int32)), .val (.int nn)]) at_262 rfl rfl ?_
      refine OwnW.goto (pc' := 312) at_264 (by decide) (by decide) ?_
      refine OwnW.aload (pc' := 314) at_312 rfl (rfl) rfl ?_
      refine OwnW.aload (pc' := 316) at_314 rfl (rfl) rfl ?_
      have F47 := ((F3_numerator.ext E39).keep K41 (ninS (Nat.ne_of_lt lt_ad1_ad39) nin0))
      have F48 := ((F3_denominator.ext E39).keep K41 (ninS (Nat.ne_of_lt lt_ad1_ad39) nin0))
      have F49 := ((E3.ext E39).keep K41)
      refine OwnW.callV0 (a0 := a0) (pc' := 319) (W := 0) (k' := 2) (n' := 4) (argsL := [(.ref ad39)]) (rest := []) (St' := [(.int (f5 ad1 ad39 n1 d1 nn d1))]) at_316 (hw _ (List.mem_of_getElem? (i := 23) rfl)) (hw _ (List.mem_of_getElem? (i := 24) rfl)) (hw _ (List.mem_of_getElem? (i := 26) rfl)) (hw _ (List.mem_of_getElem? (i := 25) rfl)) (hw _ (List.mem_of_getElem? (i := 7) rfl)) (hw _ (List.mem_of_getElem? (i := 27) rfl)) (by decide) F49 (rm5 l Z a0 hw ad1 ad39 n1 d1 nn d1 h41 n0 F47 F48 F41_numerator F41_denominator E41) (by decide) (by decide) rfl rfl (by decide) (by decide) rfl pd_28Ljava2flang2fObject3b29Z rfl rfl rfl (Nat.le_of_ble_eq_true rfl) rfl rfl ?_
      rw [show (f5 ad1 ad39 n1 d1 nn d1) = (0 : Int32) from (if_neg hc254)]
      show GoB0 l Z n0 OwnW.One1 h41 2 4 319 #[.val (.int a), .val (.int b), .val (.int c), .val (.int e), .val (.int f), .val (.int n1), .val (.int d1), .val (.int n2), .val (.int d2), .val (.int (3 : Int32)), .val (.ref ad1), .val (.ref ad39), .val (.ref ad39), .val (.int (0 : Int32)), .val (.int nn)] [(.int (0 : Int32))]
      refine OwnW.istore (pc' := 321) (L' := #[.val (.int a), .val (.int b), .val (.int c), .val (.int e), .val (.int f), .val (.int n1), .val (.int d1), .val (.int n2), .val (.int d2), .val (.int (3 : Int32)), .val (.ref ad1), .val (.ref ad39), .val (.ref ad39), .val (.int (0 : Int32)), .val (.int (0 : Int32))]) at_319 rfl rfl ?_
      refine OwnW.iload (pc' := 323) at_321 rfl rfl ?_
      refine OwnW.iload (pc' := 325) at_323 rfl rfl ?_
      refine OwnW.icmpY (pc' := 330) at_325 (teq (by decide)).1 (by decide) (by decide) ?_
      refine OwnW.aload (pc' := 332) at_330 rfl (rfl) rfl ?_
      refine OwnW.ifnullN (pc' := 335) at_332 rfl ?_
      refine OwnW.aload (pc' := 337) at_335 rfl (rfl) rfl ?_
      refine OwnW.aload (pc' := 339) at_337 rfl (rfl) rfl ?_
      refine OwnW.callV0 (a0 := a0) (pc' := 342) (W := 0) (k' := 2) (n' := 4) (argsL := [(.ref ad1)]) (rest := []) (St' := [(.int (f5 ad39 ad1 nn d1 n1 d1))]) at_339 (hw _ (List.mem_of_getElem? (i := 23) rfl)) (hw _ (List.mem_of_getElem? (i := 24) rfl)) (hw _ (List.mem_of_getElem? (i := 26) rfl)) (hw _ (List.mem_of_getElem? (i := 25) rfl)) (hw _ (List.mem_of_getElem? (i := 7) rfl)) (hw _ (List.mem_of_getElem? (i := 27) rfl)) (by decide) E41 (rm5 l Z a0 hw ad39 ad1 nn d1 n1 d1 h41 n0 F41_numerator F41_denominator F47 F48 F49) (by decide) (by decide) rfl rfl (by decide) (by decide) rfl pd_28Ljava2flang2fObject3b29Z rfl rfl rfl (Nat.le_of_ble_eq_true rfl) rfl rfl ?_
      rw [show (f5 ad39 ad1 nn d1 n1 d1) = (0 : Int32) from (if_neg (fun q => hc254 q.symm))]
      show GoB0 l Z n0 OwnW.One1 h41 2 4 342 #[.val (.int a), .val (.int b), .val (.int c), .val (.int e), .val (.int f), .val (.int n1), .val (.int d1), .val (.int n2), .val (.int d2), .val (.int (3 : Int32)), .val (.ref ad1), .val (.ref ad39), .val (.ref ad39), .val (.int (0 : Int32)), .val (.int (0 : Int32))] [(.int (0 : Int32))]
      refine OwnW.iload (pc' := 344) at_342 rfl rfl ?_
      refine OwnW.icmpN (pc' := 347) at_344 (teq (by decide)).2 rfl ?_
      refine OwnW.iconst (pc' := 348) (v := (1 : Int32)) at_347 rfl rfl ?_
      refine OwnW.goto (pc' := 352) at_348 (by decide) (by decide) ?_
      exact OwnW.retN (t := .boolean) at_352 rfl (by simp) rfl (by decide) (by decide) (rfl)
  ·
    show GoB0 l Z n0 OwnW.One1 h3 1 2 77 #[.val (.int a), .val (.int b), .val (.int c), .val (.int e), .val (.int f), .val (.int n1), .val (.int d1), .val (.int n2), .val (.int d2), .val (.int (4 : Int32)), .val (.ref ad1), .unset, .val .null, .unset, .unset] []
    refine OwnW.iload (pc' := 79) at_77 rfl rfl ?_
    refine OwnW.ifcY (pc' := 105) at_79 ((if0 _ _).trans (feq (by decide)).2) (by decide) (by decide) ?_
    refine OwnW.iload (pc' := 107) at_105 rfl rfl ?_
    refine OwnW.iconst (pc' := 108) (v := (1 : Int32)) at_107 rfl rfl ?_
    refine OwnW.icmpN (pc' := 111) at_108 (feq (by decide)).1 rfl ?_
    refine OwnW.iload (pc' := 113) at_111 rfl rfl ?_
    refine OwnW.bipush (pc' := 115) (v := (7 : Int32)) at_113 rfl rfl ?_
    refine OwnW.icmpY (pc' := 159) at_115 (feq (by decide)).2 (by decide) (by decide) ?_
    refine OwnW.iload (pc' := 161) at_159 rfl rfl ?_
    refine OwnW.iconst (pc' := 162) (v := (2 : Int32)) at_161 rfl rfl ?_
    refine OwnW.icmpY (pc' := 216) at_162 (feq (by decide)).2 (by decide) (by decide) ?_
    refine OwnW.iload (pc' := 218) at_216 rfl rfl ?_
    refine OwnW.iconst (pc' := 219) (v := (3 : Int32)) at_218 rfl rfl ?_
    refine OwnW.icmpY (pc' := 267) at_219 (feq (by decide)).2 (by decide) (by decide) ?_
    refine OwnW.iload (pc' := 269) at_267 rfl rfl ?_
    refine OwnW.iconst (pc' := 270) (v := (4 : Int32)) at_269 rfl rfl ?_
    refine OwnW.icmpN (pc' := 273) at_270 (teq (by decide)).2 rfl ?_
    refine OwnW.aconstNull (pc' := 274) at_273 rfl ?_
    refine OwnW.astore (pc' := 276) (L' := #[.val (.int a), .val (.int b), .val (.int c), .val (.int e), .val (.int f), .val (.int n1), .val (.int d1), .val (.int n2), .val (.int d2), .val (.int (4 : Int32)), .val (.ref ad1), .val .null, .val .null, .unset, .unset]) at_274 (rfl) rfl rfl ?_
    refine OwnW.iconst (pc' := 277) (v := (0 : Int32)) at_276 rfl rfl ?_
    refine OwnW.istore (pc' := 279) (L' := #[.val (.int a), .val (.int b), .val (.int c), .val (.int e), .val (.int f), .val (.int n1), .val (.int d1), .val (.int n2), .val (.int d2), .val (.int (4 : Int32)), .val (.ref ad1), .val .null, .val .null, .val (.int (0 : Int32)), .unset]) at_277 rfl rfl ?_
    refine OwnW.goto (pc' := 312) at_279 (by decide) (by decide) ?_
    refine OwnW.aload (pc' := 314) at_312 rfl (rfl) rfl ?_
    refine OwnW.aload (pc' := 316) at_314 rfl (rfl) rfl ?_
    refine OwnW.callV0 (a0 := a0) (pc' := 319) (W := 0) (k' := 1) (n' := 2) (argsL := [.null]) (rest := []) (St' := [(.int (f5_n ad1))]) at_316 (hw _ (List.mem_of_getElem? (i := 23) rfl)) (hw _ (List.mem_of_getElem? (i := 24) rfl)) (hw _ (List.mem_of_getElem? (i := 26) rfl)) (hw _ (List.mem_of_getElem? (i := 25) rfl)) (hw _ (List.mem_of_getElem? (i := 7) rfl)) (hw _ (List.mem_of_getElem? (i := 27) rfl)) (by decide) E3 (rm5_n l Z a0 hw ad1 h3 n0) (by decide) (by decide) rfl rfl (by decide) (by decide) rfl pd_28Ljava2flang2fObject3b29Z rfl rfl rfl (Nat.le_of_ble_eq_true rfl) rfl rfl ?_
    rw [show (f5_n ad1) = (0 : Int32) from rfl]
    show GoB0 l Z n0 OwnW.One1 h3 1 2 319 #[.val (.int a), .val (.int b), .val (.int c), .val (.int e), .val (.int f), .val (.int n1), .val (.int d1), .val (.int n2), .val (.int d2), .val (.int (4 : Int32)), .val (.ref ad1), .val .null, .val .null, .val (.int (0 : Int32)), .unset] [(.int (0 : Int32))]
    refine OwnW.istore (pc' := 321) (L' := #[.val (.int a), .val (.int b), .val (.int c), .val (.int e), .val (.int f), .val (.int n1), .val (.int d1), .val (.int n2), .val (.int d2), .val (.int (4 : Int32)), .val (.ref ad1), .val .null, .val .null, .val (.int (0 : Int32)), .val (.int (0 : Int32))]) at_319 rfl rfl ?_
    refine OwnW.iload (pc' := 323) at_321 rfl rfl ?_
    refine OwnW.iload (pc' := 325) at_323 rfl rfl ?_
    refine OwnW.icmpY (pc' := 330) at_325 (teq (by decide)).1 (by decide) (by decide) ?_
    refine OwnW.aload (pc' := 332) at_330 rfl (rfl) rfl ?_
    refine OwnW.ifnullY (pc' := 353) at_332 (by decide) (by decide) ?_
    refine OwnW.iconst (pc' := 354) (v := (1 : Int32)) at_353 rfl rfl ?_
    exact OwnW.retN (t := .boolean) at_354 rfl (by simp) rfl (by decide) (by decide) (rfl)
  ·
    show GoB0 l Z n0 OwnW.One1 h3 1 2 77 #[.val (.int a), .val (.int b), .val (.int c), .val (.int e), .val (.int f), .val (.int n1), .val (.int d1), .val (.int n2), .val (.int d2), .val (.int (5 : Int32)), .val (.ref ad1), .unset, .val .null, .unset, .unset] []
    refine OwnW.iload (pc' := 79) at_77 rfl rfl ?_
    refine OwnW.ifcY (pc' := 105) at_79 ((if0 _ _).trans (feq (by decide)).2) (by decide) (by decide) ?_
    refine OwnW.iload (pc' := 107) at_105 rfl rfl ?_
    refine OwnW.iconst (pc' := 108) (v := (1 : Int32)) at_107 rfl rfl ?_
    refine OwnW.icmpN (pc' := 111) at_108 (feq (by decide)).1 rfl ?_
    refine OwnW.iload (pc' := 113) at_111 rfl rfl ?_
    refine OwnW.bipush (pc' := 115) (v := (7 : Int32)) at_113 rfl rfl ?_
    refine OwnW.icmpY (pc' := 159) at_115 (feq (by decide)).2 (by decide) (by decide) ?_
    refine OwnW.iload (pc' := 161) at_159 rfl rfl ?_
    refine OwnW.iconst (pc' := 162) (v := (2 : Int32)) at_161 rfl rfl ?_
    refine OwnW.icmpY (pc' := 216) at_162 (feq (by decide)).2 (by decide) (by decide) ?_
    refine OwnW.iload (pc' := 218) at_216 rfl rfl ?_
    refine OwnW.iconst (pc' := 219) (v := (3 : Int32)) at_218 rfl rfl ?_
    refine OwnW.icmpY (pc' := 267) at_219 (feq (by decide)).2 (by decide) (by decide) ?_
    refine OwnW.iload (pc' := 269) at_267 rfl rfl ?_
    refine OwnW.iconst (pc' := 270) (v := (4 : Int32)) at_269 rfl rfl ?_
    refine OwnW.icmpY (pc' := 282) at_270 (feq (by decide)).2 (by decide) (by decide) ?_
    refine OwnW.iload (pc' := 284) at_282 rfl rfl ?_
    refine OwnW.iconst (pc' := 285) (v := (5 : Int32)) at_284 rfl rfl ?_
    refine OwnW.icmpN (pc' := 288) at_285 (teq (by decide)).2 rfl ?_
    refine OwnW.iload (pc' := 290) at_288 rfl rfl ?_
    refine OwnW.callS (a0 := a0) (pc' := 293) (W := 0) (k' := 2) (n' := 3) (argsL := [(.int n1)]) (rest := []) at_290 (hw _ (List.mem_of_getElem? (i := 30) rfl)) (hw _ (List.mem_of_getElem? (i := 31) rfl)) (hw _ (List.mem_of_getElem? (i := 32) rfl)) (hw _ (List.mem_of_getElem? (i := 33) rfl)) (by decide) (rm6 l Z a0 hw n1 ca h3 n0 sz5 (S_high.ext X4) (S_cache.ext X4) (own_128 hn1) (own_hc HC X4)) (by decide) (by decide) rfl rfl (by decide) (by decide) rfl pd_28I29Ljava2flang2fInteger3b rfl rfl rfl (Nat.le_of_ble_eq_true rfl) rfl ?_
    rintro h50 v50 ⟨ad50_0, rfl, K50, Fc50_0⟩
    have X51 : Ext h0 h50 := OwnW.ext_keep X4 K50 all0
    have sz52 : n0 ≤ h50.size := Nat.le_trans sz5 K50.1
    show GoB0 l Z n0 OwnW.One1 h50 2 3 293 #[.val (.int a), .val (.int b), .val (.int c), .val (.int e), .val (.int f), .val (.int n1), .val (.int d1), .val (.int n2), .val (.int d2), .val (.int (5 : Int32)), .val (.ref ad1), .unset, .val .null, .unset, .unset] [(.ref ad50_0)]
    refine OwnW.astore (pc' := 295) (L' := #[.val (.int a), .val (.int b), .val (.int c), .val (.int e), .val (.int f), .val (.int n1), .val (.int d1), .val (.int n2), .val (.int d2), .val (.int (5 : Int32)), .val (.ref ad1), .val (.ref ad50_0), .val .null, .unset, .unset]) at_293 (rfl) rfl rfl ?_
    refine OwnW.iconst (pc' := 296) (v := (0 : Int32)) at_295 rfl rfl ?_
    refine OwnW.istore (pc' := 298) (L' := #[.val (.int a), .val (.int b), .val (.int c), .val (.int e), .val (.int f), .val (.int n1), .val (.int d1), .val (.int n2), .val (.int d2), .val (.int (5 : Int32)), .val (.ref ad1), .val (.ref ad50_0), .val .null, .val (.int (0 : Int32)), .unset]) at_296 rfl rfl ?_
    refine OwnW.goto (pc' := 312) at_298 (by decide) (by decide) ?_
    refine OwnW.aload (pc' := 314) at_312 rfl (rfl) rfl ?_
    refine OwnW.aload (pc' := 316) at_314 rfl (rfl) rfl ?_
    have F53 := (E3.keep K50)
    refine OwnW.callV0 (a0 := a0) (pc' := 319) (W := 0) (k' := 2) (n' := 3) (argsL := [(.ref ad50_0)]) (rest := []) (St' := [(.int (f5_i ad1 ad50_0))]) at_316 (hw _ (List.mem_of_getElem? (i := 23) rfl)) (hw _ (List.mem_of_getElem? (i := 24) rfl)) (hw _ (List.mem_of_getElem? (i := 26) rfl)) (hw _ (List.mem_of_getElem? (i := 25) rfl)) (hw _ (List.mem_of_getElem? (i := 7) rfl)) (hw _ (List.mem_of_getElem? (i := 27) rfl)) (by decide) F53 (rm5_i l Z a0 hw ad1 ad50_0 h50 n0 Fc50_0) (by decide) (by decide) rfl rfl (by decide) (by decide) rfl pd_28Ljava2flang2fObject3b29Z rfl rfl rfl (Nat.le_of_ble_eq_true rfl) rfl rfl ?_
    rw [show (f5_i ad1 ad50_0) = (0 : Int32) from rfl]
    show GoB0 l Z n0 OwnW.One1 h50 2 3 319 #[.val (.int a), .val (.int b), .val (.int c), .val (.int e), .val (.int f), .val (.int n1), .val (.int d1), .val (.int n2), .val (.int d2), .val (.int (5 : Int32)), .val (.ref ad1), .val (.ref ad50_0), .val .null, .val (.int (0 : Int32)), .unset] [(.int (0 : Int32))]
    refine OwnW.istore (pc' := 321) (L' := #[.val (.int a), .val (.int b), .val (.int c), .val (.int e), .val (.int f), .val (.int n1), .val (.int d1), .val (.int n2), .val (.int d2), .val (.int (5 : Int32)), .val (.ref ad1), .val (.ref ad50_0), .val .null, .val (.int (0 : Int32)), .val (.int (0 : Int32))]) at_319 rfl rfl ?_
    refine OwnW.iload (pc' := 323) at_321 rfl rfl ?_
    refine OwnW.iload (pc' := 325) at_323 rfl rfl ?_
    refine OwnW.icmpY (pc' := 330) at_325 (teq (by decide)).1 (by decide) (by decide) ?_
    refine OwnW.aload (pc' := 332) at_330 rfl (rfl) rfl ?_
    refine OwnW.ifnullY (pc' := 353) at_332 (by decide) (by decide) ?_
    refine OwnW.iconst (pc' := 354) (v := (1 : Int32)) at_353 rfl rfl ?_
    exact OwnW.retN (t := .boolean) at_354 rfl (by simp) rfl (by decide) (by decide) (rfl)
  ·
    show GoB0 l Z n0 OwnW.One1 h3 1 2 77 #[.val (.int a), .val (.int b), .val (.int c), .val (.int e), .val (.int f), .val (.int n1), .val (.int d1), .val (.int n2), .val (.int d2), .val (.int (6 : Int32)), .val (.ref ad1), .unset, .val .null, .unset, .unset] []
    refine OwnW.iload (pc' := 79) at_77 rfl rfl ?_
    refine OwnW.ifcY (pc' := 105) at_79 ((if0 _ _).trans (feq (by decide)).2) (by decide) (by decide) ?_
    refine OwnW.iload (pc' := 107) at_105 rfl rfl ?_
    refine OwnW.iconst (pc' := 108) (v := (1 : Int32)) at_107 rfl rfl ?_
    refine OwnW.icmpN (pc' := 111) at_108 (feq (by decide)).1 rfl ?_
    refine OwnW.iload (pc' := 113) at_111 rfl rfl ?_
    refine OwnW.bipush (pc' := 115) (v := (7 : Int32)) at_113 rfl rfl ?_
    refine OwnW.icmpY (pc' := 159) at_115 (feq (by decide)).2 (by decide) (by decide) ?_
    refine OwnW.iload (pc' := 161) at_159 rfl rfl ?_
    refine OwnW.iconst (pc' := 162) (v := (2 : Int32)) at_161 rfl rfl ?_
    refine OwnW.icmpY (pc' := 216) at_162 (feq (by decide)).2 (by decide) (by decide) ?_
    refine OwnW.iload (pc' := 218) at_216 rfl rfl ?_
    refine OwnW.iconst (pc' := 219) (v := (3 : Int32)) at_218 rfl rfl ?_
    refine OwnW.icmpY (pc' := 267) at_219 (feq (by decide)).2 (by decide) (by decide) ?_
    refine OwnW.iload (pc' := 269) at_267 rfl rfl ?_
    refine OwnW.iconst (pc' := 270) (v := (4 : Int32)) at_269 rfl rfl ?_
    refine OwnW.icmpY (pc' := 282) at_270 (feq (by decide)).2 (by decide) (by decide) ?_
    refine OwnW.iload (pc' := 284) at_282 rfl rfl ?_
    refine OwnW.iconst (pc' := 285) (v := (5 : Int32)) at_284 rfl rfl ?_
    refine OwnW.icmpY (pc' := 301) at_285 (feq (by decide)).2 (by decide) (by decide) ?_
    refine OwnW.aload (pc' := 303) at_301 rfl (rfl) rfl ?_
    refine OwnW.astore (pc' := 305) (L' := #[.val (.int a), .val (.int b), .val (.int c), .val (.int e), .val (.int f), .val (.int n1), .val (.int d1), .val (.int n2), .val (.int d2), .val (.int (6 : Int32)), .val (.ref ad1), .unset, .val (.ref ad1), .unset, .unset]) at_303 (rfl) rfl rfl ?_
    refine OwnW.aload (pc' := 307) at_305 rfl (rfl) rfl ?_
    refine OwnW.astore (pc' := 309) (L' := #[.val (.int a), .val (.int b), .val (.int c), .val (.int e), .val (.int f), .val (.int n1), .val (.int d1), .val (.int n2), .val (.int d2), .val (.int (6 : Int32)), .val (.ref ad1), .val (.ref ad1), .val (.ref ad1), .unset, .unset]) at_307 (rfl) rfl rfl ?_
    refine OwnW.iconst (pc' := 310) (v := (1 : Int32)) at_309 rfl rfl ?_
    refine OwnW.istore (pc' := 312) (L' := #[.val (.int a), .val (.int b), .val (.int c), .val (.int e), .val (.int f), .val (.int n1), .val (.int d1), .val (.int n2), .val (.int d2), .val (.int (6 : Int32)), .val (.ref ad1), .val (.ref ad1), .val (.ref ad1), .val (.int (1 : Int32)), .unset]) at_310 rfl rfl ?_
    refine OwnW.aload (pc' := 314) at_312 rfl (rfl) rfl ?_
    refine OwnW.aload (pc' := 316) at_314 rfl (rfl) rfl ?_
    refine OwnW.callV0 (a0 := a0) (pc' := 319) (W := 0) (k' := 1) (n' := 2) (argsL := [(.ref ad1)]) (rest := []) (St' := [(.int (f5 ad1 ad1 n1 d1 n1 d1))]) at_316 (hw _ (List.mem_of_getElem? (i := 23) rfl)) (hw _ (List.mem_of_getElem? (i := 24) rfl)) (hw _ (List.mem_of_getElem? (i := 26) rfl)) (hw _ (List.mem_of_getElem? (i := 25) rfl)) (hw _ (List.mem_of_getElem? (i := 7) rfl)) (hw _ (List.mem_of_getElem? (i := 27) rfl)) (by decide) E3 (rm5 l Z a0 hw ad1 ad1 n1 d1 n1 d1 h3 n0 F3_numerator F3_denominator F3_numerator F3_denominator E3) (by decide) (by decide) rfl rfl (by decide) (by decide) rfl pd_28Ljava2flang2fObject3b29Z rfl rfl rfl (Nat.le_of_ble_eq_true rfl) rfl rfl ?_
    rw [show (f5 ad1 ad1 n1 d1 n1 d1) = (1 : Int32) from (if_pos rfl).trans (if_pos rfl)]
    show GoB0 l Z n0 OwnW.One1 h3 1 2 319 #[.val (.int a), .val (.int b), .val (.int c), .val (.int e), .val (.int f), .val (.int n1), .val (.int d1), .val (.int n2), .val (.int d2), .val (.int (6 : Int32)), .val (.ref ad1), .val (.ref ad1), .val (.ref ad1), .val (.int (1 : Int32)), .unset] [(.int (1 : Int32))]
    refine OwnW.istore (pc' := 321) (L' := #[.val (.int a), .val (.int b), .val (.int c), .val (.int e), .val (.int f), .val (.int n1), .val (.int d1), .val (.int n2), .val (.int d2), .val (.int (6 : Int32)), .val (.ref ad1), .val (.ref ad1), .val (.ref ad1), .val (.int (1 : Int32)), .val (.int (1 : Int32))]) at_319 rfl rfl ?_
    refine OwnW.iload (pc' := 323) at_321 rfl rfl ?_
    refine OwnW.iload (pc' := 325) at_323 rfl rfl ?_
    refine OwnW.icmpY (pc' := 330) at_325 (teq (by decide)).1 (by decide) (by decide) ?_
    refine OwnW.aload (pc' := 332) at_330 rfl (rfl) rfl ?_
    refine OwnW.ifnullN (pc' := 335) at_332 rfl ?_
    refine OwnW.aload (pc' := 337) at_335 rfl (rfl) rfl ?_
    refine OwnW.aload (pc' := 339) at_337 rfl (rfl) rfl ?_
    refine OwnW.callV0 (a0 := a0) (pc' := 342) (W := 0) (k' := 1) (n' := 2) (argsL := [(.ref ad1)]) (rest := []) (St' := [(.int (f5 ad1 ad1 n1 d1 n1 d1))]) at_339 (hw _ (List.mem_of_getElem? (i := 23) rfl)) (hw _ (List.mem_of_getElem? (i := 24) rfl)) (hw _ (List.mem_of_getElem? (i := 26) rfl)) (hw _ (List.mem_of_getElem? (i := 25) rfl)) (hw _ (List.mem_of_getElem? (i := 7) rfl)) (hw _ (List.mem_of_getElem? (i := 27) rfl)) (by decide) E3 (rm5 l Z a0 hw ad1 ad1 n1 d1 n1 d1 h3 n0 F3_numerator F3_denominator F3_numerator F3_denominator E3) (by decide) (by decide) rfl rfl (by decide) (by decide) rfl pd_28Ljava2flang2fObject3b29Z rfl rfl rfl (Nat.le_of_ble_eq_true rfl) rfl rfl ?_
    rw [show (f5 ad1 ad1 n1 d1 n1 d1) = (1 : Int32) from (if_pos rfl).trans (if_pos rfl)]
    show GoB0 l Z n0 OwnW.One1 h3 1 2 342 #[.val (.int a), .val (.int b), .val (.int c), .val (.int e), .val (.int f), .val (.int n1), .val (.int d1), .val (.int n2), .val (.int d2), .val (.int (6 : Int32)), .val (.ref ad1), .val (.ref ad1), .val (.ref ad1), .val (.int (1 : Int32)), .val (.int (1 : Int32))] [(.int (1 : Int32))]
    refine OwnW.iload (pc' := 344) at_342 rfl rfl ?_
    refine OwnW.icmpN (pc' := 347) at_344 (teq (by decide)).2 rfl ?_
    refine OwnW.iconst (pc' := 348) (v := (1 : Int32)) at_347 rfl rfl ?_
    refine OwnW.goto (pc' := 352) at_348 (by decide) (by decide) ?_
    exact OwnW.retN (t := .boolean) at_352 rfl (by simp) rfl (by decide) (by decide) (rfl)
  ·
    show GoB0 l Z n0 OwnW.One1 h3 1 2 77 #[.val (.int a), .val (.int b), .val (.int c), .val (.int e), .val (.int f), .val (.int n1), .val (.int d1), .val (.int n2), .val (.int d2), .val (.int (7 : Int32)), .val (.ref ad1), .unset, .val .null, .unset, .unset] []
    refine OwnW.iload (pc' := 79) at_77 rfl rfl ?_
    refine OwnW.ifcY (pc' := 105) at_79 ((if0 _ _).trans (feq (by decide)).2) (by decide) (by decide) ?_
    refine OwnW.iload (pc' := 107) at_105 rfl rfl ?_
    refine OwnW.iconst (pc' := 108) (v := (1 : Int32)) at_107 rfl rfl ?_
    refine OwnW.icmpN (pc' := 111) at_108 (feq (by decide)).1 rfl ?_
    refine OwnW.iload (pc' := 113) at_111 rfl rfl ?_
    refine OwnW.bipush (pc' := 115) (v := (7 : Int32)) at_113 rfl rfl ?_
    refine OwnW.icmpN (pc' := 118) at_115 (teq (by decide)).2 rfl ?_
    refine OwnW.newO (a0 := a0) (pc' := 121) (k' := 2) (n' := 4) at_118 (hw _ (List.mem_of_getElem? (i := 5) rfl)) (hw _ (List.mem_of_getElem? (i := 6) rfl)) (hw _ (List.mem_of_getElem? (i := 7) rfl)) rfl rfl (by decide) (by decide) rfl ?_
    intro h54 ad54 g54 E54 A54 D54
    have lt_ad1_ad54 : ad1 < ad54 := Nat.lt_of_lt_of_le (E3).lt (Nat.le_of_eq g54.symm)
    have ge_ad54 : n0 ≤ ad54 := Nat.le_trans sz5 (Nat.le_of_eq g54.symm)
    have X55 : Ext h0 h54 := OwnW.ext_trans X4 E54
    have sz_ad54 : n0 ≤ h54.size := Nat.le_trans sz5 E54.1
    have F54_numerator : Fld Z h54 ad54 "com/example/paystage/paystage/Fraction" "numerator" "I" (.int (0 : Int32)) := D54 (Or.inr (hw _ (List.mem_of_getElem? (i := 20) rfl))) (ty := .int) (by decide)
    have F54_denominator : Fld Z h54 ad54 "com/example/paystage/paystage/Fraction" "denominator" "I" (.int (0 : Int32)) := D54 (Or.inr (hw _ (List.mem_of_getElem? (i := 22) rfl))) (ty := .int) (by decide)
    refine OwnW.dup (pc' := 122) at_121 rfl rfl ?_
    refine OwnW.iload (pc' := 124) at_122 rfl rfl ?_
    refine OwnW.iload (pc' := 126) at_124 rfl rfl ?_
    refine OwnW.callI (a0 := a0) (pc' := 129) (W := 1) (k' := 2) (n' := 4) (argsL := [(.int n2), (.int d2)]) (rest := [(.ref ad54)]) at_126 rfl (hw _ (List.mem_of_getElem? (i := 8) rfl)) (hw _ (List.mem_of_getElem? (i := 9) rfl)) (hw _ (List.mem_of_getElem? (i := 7) rfl)) (hw _ (List.mem_of_getElem? (i := 10) rfl)) (by decide) (rm2 l Z a0 hw ad54 n2 d2 h54 n0 sz_ad54 ge_ad54 A54 F54_numerator F54_denominator (own_ok hn2 hd2).1 (own_ok hn2 hd2).2) (by decide) (by decide) rfl rfl (by decide) (by decide) rfl pd_28II29V rfl rfl rfl (Nat.le_of_ble_eq_true rfl) rfl ?_
    rintro h56 v56 ⟨rfl, K56, E56, F56_numerator, F56_denominator⟩
    have X57 : Ext h0 h56 := OwnW.ext_keep X55 K56 (allS (Nat.le_trans (Nat.le_trans (Nat.le_trans (Nat.le_refl _) E1.1) K3.1) (Nat.le_of_eq g54.symm)) all0)
    have sz58 : n0 ≤ h56.size := Nat.le_trans sz_ad54 K56.1
    show GoB0 l Z n0 OwnW.One1 h56 2 4 129 #[.val (.int a), .val (.int b), .val (.int c), .val (.int e), .val (.int f), .val (.int n1), .val (.int d1), .val (.int n2), .val (.int d2), .val (.int (7 : Int32)), .val (.ref ad1), .unset, .val .null, .unset, .unset] [(.ref ad54)]
    refine OwnW.astore (pc' := 131) (L' := #[.val (.int a), .val (.int b), .val (.int c), .val (.int e), .val (.int f), .val (.int n1), .val (.int d1), .val (.int n2), .val (.int d2), .val (.int (7 : Int32)), .val (.ref ad1), .unset, .val (.ref ad54), .unset, .unset]) at_129 (rfl) rfl rfl ?_
    refine OwnW.aload (pc' := 133) at_131 rfl (rfl) rfl ?_
    refine OwnW.astore (pc' := 135) (L' := #[.val (.int a), .val (.int b), .val (.int c), .val (.int e), .val (.int f), .val (.int n1), .val (.int d1), .val (.int n2), .val (.int d2), .val (.int (7 : Int32)), .val (.ref ad1), .val (.ref ad54), .val (.ref ad54), .unset, .unset]) at_133 (rfl) rfl rfl ?_
    refine OwnW.iload (pc' := 137) at_135 rfl rfl ?_
    refine OwnW.iload (pc' := 139) at_137 rfl rfl ?_
    by_cases hc139 : n1 = n2
    ·
      refine OwnW.icmpN (pc' := 142) at_139 (teq hc139).2 rfl ?_
      refine OwnW.iload (pc' := 144) at_142 rfl rfl ?_
      refine OwnW.iload (pc' := 146) at_144 rfl rfl ?_
      by_cases hc146 : d1 = d2
      ·
        refine OwnW.icmpN (pc' := 149) at_146 (teq hc146).2 rfl ?_
        refine OwnW.iconst (pc' := 150) (v := (1 : Int32)) at_149 rfl rfl ?_
        refine OwnW.goto (pc' := 154) at_150 (by decide) (by decide) ?_
        refine OwnW.istore (pc' := 156) (L' := #[.val (.int a), .val (.int b), .val (.int c), .val (.int e), .val (.int f), .val (.int n1), .val (.int d1), .val (.int n2), .val (.int d2), .val (.int (7 : Int32)), .val (.ref ad1), .val (.ref ad54), .val (.ref ad54), .val (.int (1 : Int32)), .unset]) at_154 rfl rfl ?_
        refine OwnW.goto (pc' := 312) at_156 (by decide) (by decide) ?_
        refine OwnW.aload (pc' := 314) at_312 rfl (rfl) rfl ?_
        refine OwnW.aload (pc' := 316) at_314 rfl (rfl) rfl ?_
        have F59 := ((F3_numerator.ext E54).keep K56 (ninS (Nat.ne_of_lt lt_ad1_ad54) nin0))
        have F60 := ((F3_denominator.ext E54).keep K56 (ninS (Nat.ne_of_lt lt_ad1_ad54) nin0))
        have F61 := ((E3.ext E54).keep K56)
        refine OwnW.callV0 (a0 := a0) (pc' := 319) (W := 0) (k' := 2) (n' := 4) (argsL := [(.ref ad54)]) (rest := []) (St' := [(.int (f5 ad1 ad54 n1 d1 n2 d2))]) at_316 (hw _ (List.mem_of_getElem? (i := 23) rfl)) (hw _ (List.mem_of_getElem? (i := 24) rfl)) (hw _ (List.mem_of_getElem? (i := 26) rfl)) (hw _ (List.mem_of_getElem? (i := 25) rfl)) (hw _ (List.mem_of_getElem? (i := 7) rfl)) (hw _ (List.mem_of_getElem? (i := 27) rfl)) (by decide) F61 (rm5 l Z a0 hw ad1 ad54 n1 d1 n2 d2 h56 n0 F59 F60 F56_numerator F56_denominator E56) (by decide) (by decide) rfl rfl (by decide) (by decide) rfl pd_28Ljava2flang2fObject3b29Z rfl rfl rfl (Nat.le_of_ble_eq_true rfl) rfl rfl ?_
        rw [show (f5 ad1 ad54 n1 d1 n2 d2) = (1 : Int32) from (if_pos hc139.symm).trans (if_pos hc146.symm)]
        show GoB0 l Z n0 OwnW.One1 h56 2 4 319 #[.val (.int a), .val (.int b), .val (.int c), .val (.int e), .val (.int f), .val (.int n1), .val (.int d1), .val (.int n2), .val (.int d2), .val (.int (7 : Int32)), .val (.ref ad1), .val (.ref ad54), .val (.ref ad54), .val (.int (1 : Int32)), .unset] [(.int (1 : Int32))]
        refine OwnW.istore (pc' := 321) (L' := #[.val (.int a), .val (.int b), .val (.int c), .val (.int e), .val (.int f), .val (.int n1), .val (.int d1), .val (.int n2), .val (.int d2), .val (.int (7 : Int32)), .val (.ref ad1), .val (.ref ad54), .val (.ref ad54), .val (.int (1 : Int32)), .val (.int (1 : Int32))]) at_319 rfl rfl ?_
        refine OwnW.iload (pc' := 323) at_321 rfl rfl ?_
        refine OwnW.iload (pc' := 325) at_323 rfl rfl ?_
        refine OwnW.icmpY (pc' := 330) at_325 (teq (by decide)).1 (by decide) (by decide) ?_
        refine OwnW.aload (pc' := 332) at_330 rfl (rfl) rfl ?_
        refine OwnW.ifnullN (pc' := 335) at_332 rfl ?_
        refine OwnW.aload (pc' := 337) at_335 rfl (rfl) rfl ?_
        refine OwnW.aload (pc' := 339) at_337 rfl (rfl) rfl ?_
        refine OwnW.callV0 (a0 := a0) (pc' := 342) (W := 0) (k' := 2) (n' := 4) (argsL := [(.ref ad1)]) (rest := []) (St' := [(.int (f5 ad54 ad1 n2 d2 n1 d1))]) at_339 (hw _ (List.mem_of_getElem? (i := 23) rfl)) (hw _ (List.mem_of_getElem? (i := 24) rfl)) (hw _ (List.mem_of_getElem? (i := 26) rfl)) (hw _ (List.mem_of_getElem? (i := 25) rfl)) (hw _ (List.mem_of_getElem? (i := 7) rfl)) (hw _ (List.mem_of_getElem? (i := 27) rfl)) (by decide) E56 (rm5 l Z a0 hw ad54 ad1 n2 d2 n1 d1 h56 n0 F56_numerator F56_denominator F59 F60 F61) (by decide) (by decide) rfl rfl (by decide) (by decide) rfl pd_28Ljava2flang2fObject3b29Z rfl rfl rfl (Nat.le_of_ble_eq_true rfl) rfl rfl ?_
        rw [show (f5 ad54 ad1 n2 d2 n1 d1) = (1 : Int32) from (if_pos hc139).trans (if_pos hc146)]
        show GoB0 l Z n0 OwnW.One1 h56 2 4 342 #[.val (.int a), .val (.int b), .val (.int c), .val (.int e), .val (.int f), .val (.int n1), .val (.int d1), .val (.int n2), .val (.int d2), .val (.int (7 : Int32)), .val (.ref ad1), .val (.ref ad54), .val (.ref ad54), .val (.int (1 : Int32)), .val (.int (1 : Int32))] [(.int (1 : Int32))]
        refine OwnW.iload (pc' := 344) at_342 rfl rfl ?_
        refine OwnW.icmpN (pc' := 347) at_344 (teq (by decide)).2 rfl ?_
        refine OwnW.iconst (pc' := 348) (v := (1 : Int32)) at_347 rfl rfl ?_
        refine OwnW.goto (pc' := 352) at_348 (by decide) (by decide) ?_
        exact OwnW.retN (t := .boolean) at_352 rfl (by simp) rfl (by decide) (by decide) (rfl)
      ·
        refine OwnW.icmpY (pc' := 153) at_146 (feq hc146).2 (by decide) (by decide) ?_
        refine OwnW.iconst (pc' := 154) (v := (0 : Int32)) at_153 rfl rfl ?_
        refine OwnW.istore (pc' := 156) (L' := #[.val (.int a), .val (.int b), .val (.int c), .val (.int e), .val (.int f), .val (.int n1), .val (.int d1), .val (.int n2), .val (.int d2), .val (.int (7 : Int32)), .val (.ref ad1), .val (.ref ad54), .val (.ref ad54), .val (.int (0 : Int32)), .unset]) at_154 rfl rfl ?_
        refine OwnW.goto (pc' := 312) at_156 (by decide) (by decide) ?_
        refine OwnW.aload (pc' := 314) at_312 rfl (rfl) rfl ?_
        refine OwnW.aload (pc' := 316) at_314 rfl (rfl) rfl ?_
        have F62 := ((F3_numerator.ext E54).keep K56 (ninS (Nat.ne_of_lt lt_ad1_ad54) nin0))
        have F63 := ((F3_denominator.ext E54).keep K56 (ninS (Nat.ne_of_lt lt_ad1_ad54) nin0))
        have F64 := ((E3.ext E54).keep K56)
        refine OwnW.callV0 (a0 := a0) (pc' := 319) (W := 0) (k' := 2) (n' := 4) (argsL := [(.ref ad54)]) (rest := []) (St' := [(.int (f5 ad1 ad54 n1 d1 n2 d2))]) at_316 (hw _ (List.mem_of_getElem? (i := 23) rfl)) (hw _ (List.mem_of_getElem? (i := 24) rfl)) (hw _ (List.mem_of_getElem? (i := 26) rfl)) (hw _ (List.mem_of_getElem? (i := 25) rfl)) (hw _ (List.mem_of_getElem? (i := 7) rfl)) (hw _ (List.mem_of_getElem? (i := 27) rfl)) (by decide) F64 (rm5 l Z a0 hw ad1 ad54 n1 d1 n2 d2 h56 n0 F62 F63 F56_numerator F56_denominator E56) (by decide) (by decide) rfl rfl (by decide) (by decide) rfl pd_28Ljava2flang2fObject3b29Z rfl rfl rfl (Nat.le_of_ble_eq_true rfl) rfl rfl ?_
        rw [show (f5 ad1 ad54 n1 d1 n2 d2) = (0 : Int32) from (if_pos hc139.symm).trans (if_neg (fun q => hc146 q.symm))]
        show GoB0 l Z n0 OwnW.One1 h56 2 4 319 #[.val (.int a), .val (.int b), .val (.int c), .val (.int e), .val (.int f), .val (.int n1), .val (.int d1), .val (.int n2), .val (.int d2), .val (.int (7 : Int32)), .val (.ref ad1), .val (.ref ad54), .val (.ref ad54), .val (.int (0 : Int32)), .unset] [(.int (0 : Int32))]
        refine OwnW.istore (pc' := 321) (L' := #[.val (.int a), .val (.int b), .val (.int c), .val (.int e), .val (.int f), .val (.int n1), .val (.int d1), .val (.int n2), .val (.int d2), .val (.int (7 : Int32)), .val (.ref ad1), .val (.ref ad54), .val (.ref ad54), .val (.int (0 : Int32)), .val (.int (0 : Int32))]) at_319 rfl rfl ?_
        refine OwnW.iload (pc' := 323) at_321 rfl rfl ?_
        refine OwnW.iload (pc' := 325) at_323 rfl rfl ?_
        refine OwnW.icmpY (pc' := 330) at_325 (teq (by decide)).1 (by decide) (by decide) ?_
        refine OwnW.aload (pc' := 332) at_330 rfl (rfl) rfl ?_
        refine OwnW.ifnullN (pc' := 335) at_332 rfl ?_
        refine OwnW.aload (pc' := 337) at_335 rfl (rfl) rfl ?_
        refine OwnW.aload (pc' := 339) at_337 rfl (rfl) rfl ?_
        refine OwnW.callV0 (a0 := a0) (pc' := 342) (W := 0) (k' := 2) (n' := 4) (argsL := [(.ref ad1)]) (rest := []) (St' := [(.int (f5 ad54 ad1 n2 d2 n1 d1))]) at_339 (hw _ (List.mem_of_getElem? (i := 23) rfl)) (hw _ (List.mem_of_getElem? (i := 24) rfl)) (hw _ (List.mem_of_getElem? (i := 26) rfl)) (hw _ (List.mem_of_getElem? (i := 25) rfl)) (hw _ (List.mem_of_getElem? (i := 7) rfl)) (hw _ (List.mem_of_getElem? (i := 27) rfl)) (by decide) E56 (rm5 l Z a0 hw ad54 ad1 n2 d2 n1 d1 h56 n0 F56_numerator F56_denominator F62 F63 F64) (by decide) (by decide) rfl rfl (by decide) (by decide) rfl pd_28Ljava2flang2fObject3b29Z rfl rfl rfl (Nat.le_of_ble_eq_true rfl) rfl rfl ?_
        rw [show (f5 ad54 ad1 n2 d2 n1 d1) = (0 : Int32) from (if_pos hc139).trans (if_neg hc146)]
        show GoB0 l Z n0 OwnW.One1 h56 2 4 342 #[.val (.int a), .val (.int b), .val (.int c), .val (.int e), .val (.int f), .val (.int n1), .val (.int d1), .val (.int n2), .val (.int d2), .val (.int (7 : Int32)), .val (.ref ad1), .val (.ref ad54), .val (.ref ad54), .val (.int (0 : Int32)), .val (.int (0 : Int32))] [(.int (0 : Int32))]
        refine OwnW.iload (pc' := 344) at_342 rfl rfl ?_
        refine OwnW.icmpN (pc' := 347) at_344 (teq (by decide)).2 rfl ?_
        refine OwnW.iconst (pc' := 348) (v := (1 : Int32)) at_347 rfl rfl ?_
        refine OwnW.goto (pc' := 352) at_348 (by decide) (by decide) ?_
        exact OwnW.retN (t := .boolean) at_352 rfl (by simp) rfl (by decide) (by decide) (rfl)
    ·
      refine OwnW.icmpY (pc' := 153) at_139 (feq hc139).2 (by decide) (by decide) ?_
      refine OwnW.iconst (pc' := 154) (v := (0 : Int32)) at_153 rfl rfl ?_
      refine OwnW.istore (pc' := 156) (L' := #[.val (.int a), .val (.int b), .val (.int c), .val (.int e), .val (.int f), .val (.int n1), .val (.int d1), .val (.int n2), .val (.int d2), .val (.int (7 : Int32)), .val (.ref ad1), .val (.ref ad54), .val (.ref ad54), .val (.int (0 : Int32)), .unset]) at_154 rfl rfl ?_
      refine OwnW.goto (pc' := 312) at_156 (by decide) (by decide) ?_
      refine OwnW.aload (pc' := 314) at_312 rfl (rfl) rfl ?_
      refine OwnW.aload (pc' := 316) at_314 rfl (rfl) rfl ?_
      have F65 := ((F3_numerator.ext E54).keep K56 (ninS (Nat.ne_of_lt lt_ad1_ad54) nin0))
      have F66 := ((F3_denominator.ext E54).keep K56 (ninS (Nat.ne_of_lt lt_ad1_ad54) nin0))
      have F67 := ((E3.ext E54).keep K56)
      refine OwnW.callV0 (a0 := a0) (pc' := 319) (W := 0) (k' := 2) (n' := 4) (argsL := [(.ref ad54)]) (rest := []) (St' := [(.int (f5 ad1 ad54 n1 d1 n2 d2))]) at_316 (hw _ (List.mem_of_getElem? (i := 23) rfl)) (hw _ (List.mem_of_getElem? (i := 24) rfl)) (hw _ (List.mem_of_getElem? (i := 26) rfl)) (hw _ (List.mem_of_getElem? (i := 25) rfl)) (hw _ (List.mem_of_getElem? (i := 7) rfl)) (hw _ (List.mem_of_getElem? (i := 27) rfl)) (by decide) F67 (rm5 l Z a0 hw ad1 ad54 n1 d1 n2 d2 h56 n0 F65 F66 F56_numerator F56_denominator E56) (by decide) (by decide) rfl rfl (by decide) (by decide) rfl pd_28Ljava2flang2fObject3b29Z rfl rfl rfl (Nat.le_of_ble_eq_true rfl) rfl rfl ?_
      rw [show (f5 ad1 ad54 n1 d1 n2 d2) = (0 : Int32) from (if_neg (fun q => hc139 q.symm))]
      show GoB0 l Z n0 OwnW.One1 h56 2 4 319 #[.val (.int a), .val (.int b), .val (.int c), .val (.int e), .val (.int f), .val (.int n1), .val (.int d1), .val (.int n2), .val (.int d2), .val (.int (7 : Int32)), .val (.ref ad1), .val (.ref ad54), .val (.ref ad54), .val (.int (0 : Int32)), .unset] [(.int (0 : Int32))]
      refine OwnW.istore (pc' := 321) (L' := #[.val (.int a), .val (.int b), .val (.int c), .val (.int e), .val (.int f), .val (.int n1), .val (.int d1), .val (.int n2), .val (.int d2), .val (.int (7 : Int32)), .val (.ref ad1), .val (.ref ad54), .val (.ref ad54), .val (.int (0 : Int32)), .val (.int (0 : Int32))]) at_319 rfl rfl ?_
      refine OwnW.iload (pc' := 323) at_321 rfl rfl ?_
      refine OwnW.iload (pc' := 325) at_323 rfl rfl ?_
      refine OwnW.icmpY (pc' := 330) at_325 (teq (by decide)).1 (by decide) (by decide) ?_
      refine OwnW.aload (pc' := 332) at_330 rfl (rfl) rfl ?_
      refine OwnW.ifnullN (pc' := 335) at_332 rfl ?_
      refine OwnW.aload (pc' := 337) at_335 rfl (rfl) rfl ?_
      refine OwnW.aload (pc' := 339) at_337 rfl (rfl) rfl ?_
      refine OwnW.callV0 (a0 := a0) (pc' := 342) (W := 0) (k' := 2) (n' := 4) (argsL := [(.ref ad1)]) (rest := []) (St' := [(.int (f5 ad54 ad1 n2 d2 n1 d1))]) at_339 (hw _ (List.mem_of_getElem? (i := 23) rfl)) (hw _ (List.mem_of_getElem? (i := 24) rfl)) (hw _ (List.mem_of_getElem? (i := 26) rfl)) (hw _ (List.mem_of_getElem? (i := 25) rfl)) (hw _ (List.mem_of_getElem? (i := 7) rfl)) (hw _ (List.mem_of_getElem? (i := 27) rfl)) (by decide) E56 (rm5 l Z a0 hw ad54 ad1 n2 d2 n1 d1 h56 n0 F56_numerator F56_denominator F65 F66 F67) (by decide) (by decide) rfl rfl (by decide) (by decide) rfl pd_28Ljava2flang2fObject3b29Z rfl rfl rfl (Nat.le_of_ble_eq_true rfl) rfl rfl ?_
      rw [show (f5 ad54 ad1 n2 d2 n1 d1) = (0 : Int32) from (if_neg hc139)]
      show GoB0 l Z n0 OwnW.One1 h56 2 4 342 #[.val (.int a), .val (.int b), .val (.int c), .val (.int e), .val (.int f), .val (.int n1), .val (.int d1), .val (.int n2), .val (.int d2), .val (.int (7 : Int32)), .val (.ref ad1), .val (.ref ad54), .val (.ref ad54), .val (.int (0 : Int32)), .val (.int (0 : Int32))] [(.int (0 : Int32))]
      refine OwnW.iload (pc' := 344) at_342 rfl rfl ?_
      refine OwnW.icmpN (pc' := 347) at_344 (teq (by decide)).2 rfl ?_
      refine OwnW.iconst (pc' := 348) (v := (1 : Int32)) at_347 rfl rfl ?_
      refine OwnW.goto (pc' := 352) at_348 (by decide) (by decide) ?_
      exact OwnW.retN (t := .boolean) at_352 rfl (by simp) rfl (by decide) (by decide) (rfl)
set_option maxRecDepth 65536 in
set_option maxHeartbeats 400000000 in
theorem comes_1 {Post : Tables → Env → Array Value → State → Outcome → State → Prop} (hpost : ∀ tb e args s v u, (limb_1_1.after args s (.returned v) u = true ∧ limb_1_2.after args s (.returned v) u = true ∧ True) → FrameEnd s (.returned v) u (Jvm.fieldLocs frame_1_writes args s ++ Jvm.arrayLocs frame_1_arrays args s ++ Jvm.staticLocs frame_1_statics s) 16 128 → Post tb e args s (.returned v) u) :
    ArmFor flags0 classFile x code maxLocals ret World_1 tables_1 room_1 Calls_1 rest_1 Pre_1 Post := by
  intro l hfl _ _ p e ha hc hk s m args below hf hA hF happ hP
  obtain ⟨hcalls, hrest, hpre⟩ := hP
  obtain ⟨-, -, -, hnamed, -, -, -, hat⟩ := (Spec.applies_iff hf).mp happ
  obtain ⟨hg, hn⟩ := and_e (Cond.before_iff.mp (show (Jvm.Cond.and given_1 narrow_1).before args s = true from hpre))
  obtain ⟨hcount, hr0⟩ := and_e hg
  obtain ⟨w0, w1, w2, w3, w4, rfl⟩ : ∃ w0 w1 w2 w3 w4 : Value, args = #[w0, w1, w2, w3, w4] := by
    have hs : args.size = 5 := by simpa [Cond.value, given_1] using hcount
    obtain ⟨L⟩ := args
    match L, hs with
    | [w0, w1, w2, w3, w4], _ => exact ⟨w0, w1, w2, w3, w4, rfl⟩
  have hw := fun d (hd : d ∈ tables_1) => atoms_spec (ws := Jvm.Cond.code x code maxLocals ret :: tables_1) hat d (List.mem_cons_of_mem _ hd)
  have hfit : Fit s := fun {y c} hc i hi => by
    obtain ⟨ha, rfl⟩ := Array.getElem?_eq_some_iff.mp hc
    have q := List.all_eq_true.mp ((Array.all_eq_true_iff_forall_mem.mp hF) _ (Array.getElem_mem ha)) i (List.mem_range.mpr hi)
    simpa [Array.getElem?_eq_getElem hi] using q
  obtain ⟨hq0, hr1⟩ := and_e hr0
  obtain ⟨i0, ei0⟩ := is_v hq0
  obtain rfl : w0 = (.int i0) := Option.some.inj ei0
  obtain ⟨hq1, hr2⟩ := and_e hr1
  obtain ⟨i1, ei1⟩ := is_v hq1
  obtain rfl : w1 = (.int i1) := Option.some.inj ei1
  obtain ⟨hq2, hr3⟩ := and_e hr2
  obtain ⟨i2, ei2⟩ := is_v hq2
  obtain rfl : w2 = (.int i2) := Option.some.inj ei2
  obtain ⟨hq3, hr4⟩ := and_e hr3
  obtain ⟨i3, ei3⟩ := is_v hq3
  obtain rfl : w3 = (.int i3) := Option.some.inj ei3
  obtain ⟨i4, ei4⟩ := is_v hr4
  obtain rfl : w4 = (.int i4) := Option.some.inj ei4
  obtain ⟨hsets, hown0⟩ := atoms_of _ (rest_1_c_eq ▸ (show rest_1_c.before _ s = true from hrest))
  have S_high : Sta s s.heap "java/lang/Integer$IntegerCache" "high" "I" (.int (127 : Int32)) := Sta.start (OwnW.eqI (Cond.before_iff.mp (hsets _ (List.mem_of_getElem? (i := 3) rfl))) (Term.int_eval (127 : Int32))) (Or.inl (hsets _ (List.mem_of_getElem? (i := 1) rfl)))
  obtain ⟨ca, evc⟩ := exa_v (Cond.before_iff.mp (hsets _ (List.mem_of_getElem? (i := 5) rfl)))
  have S_cache : Sta s s.heap "java/lang/Integer$IntegerCache" "cache" "[Ljava/lang/Integer;" (.ref ca) := Sta.start evc (Or.inr ⟨(hw _ (List.mem_of_getElem? (i := 35) rfl)), (hsets _ (List.mem_of_getElem? (i := 2) rfl))⟩)
  have HC := own_cache evc (hsets _ (List.mem_of_getElem? (i := 4) rfl)) (hsets _ (List.mem_of_getElem? (i := 6) rfl)) (hsets _ (List.mem_of_getElem? (i := 7) rfl))
  obtain ⟨n, o, h1, h2, h3, _, L, rfl, ⟨rfl, N⟩, hq⟩ := rm0 l s _ hw i0 i1 i2 i3 i4 ca s.heap s.heap.size (Nat.le_refl _) S_high S_cache HC tables_1 p e ha hc hk s m _ below hf ((Spec.applies_iff_loose hf).mp happ).1 ⟨rfl, State.Warmed39.refl s, rfl⟩ trivial
  refine ⟨n, _, h1, h2, h3, hpost _ _ _ _ _ _ ⟨Cond.after_iff.mpr rfl, Cond.after_iff.mpr (eq_i res_at (Term.int_eval (1)) rfl), trivial⟩ ⟨hq.1, hq.2.1, (hq.2.2.sift fun y hy => Or.inr (N y hy)).mono (by decide) (by decide)⟩⟩
theorem main_1_1 : Claimed_1_1 := comes_1 fun _ _ _ _ _ _ h hF => ⟨h.1, hF⟩
theorem main_1_2 : Claimed_1_2 := comes_1 fun _ _ _ _ _ _ h hF => ⟨h.2.1, hF⟩
end Jvm.Pilot.@@N@@
namespace Jvm.Pilot.@@N@@
open Jvm Jvm.ClassFile Sem Op Lib Jvm.Free Jvm.Stand Jvm.Pilot.@@N@@.Jvm.D
/-! MADE BY PROGRAM (witnessworld.py) out of the Statement's table words and the real class files: 18 classes; the members and pool entries that the words name. The judged class is class 1, her method 1. -/
namespace start1
open Jvm.ClassFile
def u (s : String) : CpInfo := .utf8 (stringToUtf16 s)
/-- a pool by its gaps: so many unusable entries, then the entry; so many at the end -/
def gap : Nat → List CpInfo → List CpInfo
  | 0, r => r
  | n + 1, r => .unusable :: gap n r
def poolList (es : List (Nat × CpInfo)) (last : Nat) : List CpInfo := es.foldr (fun e r => gap e.1 (e.2 :: r)) (gap last [])
def pool (es : List (Nat × CpInfo)) (last : Nat) : Array CpInfo := ⟨poolList es last⟩
def fileOf (pool : Array CpInfo) (this : Nat) (attrs : Array Attribute := #[]) (ms : Array MethodInfo := #[]) (fl : Nat := 33) (sup : Nat := 0) (ifs : Array Nat := #[]) (fds : Array FieldInfo := #[]) : ClassFile where
  minorVersion := 0
  majorVersion := 65
  constantPool := pool
  accessFlags := fl
  thisClass := this
  superClass := sup
  interfaces := ifs
  fields := fds
  methods := ms
  attributes := attrs
def plain (name : String) (sup : Option ClassId) : Class where
  name := name
  kind := .ordinary
  loader := none
  accessFlags := 33
  super := sup
  interfaces := #[]
  cf := none
  fields := #[]
  methods := #[]
  instanceTypes := #[]
  staticTypes := #[]
  resolved := #[]
  callSites := []
  init := .initialized
  statics := none
  mirror := none

def pool0 : Array CpInfo := pool [(5, u "<init>"), (0, u "()V"), (1, .class_ 10), (1, u "java/lang/Object")] 113

def k0c0 : Code := { maxStack := 0, maxLocals := 1, code := object_method_1_code, exceptionTable := #[], attributes := #[] }
def k0m0 : Method := { name := "<init>", desc := "()V", sig := { parameters := [], returnType := none }, accessFlags := 1, code := some k0c0 }
/-- java/lang/Object -/
def k0 : Class := { plain "java/lang/Object" none with
  accessFlags := 33
  interfaces := #[]
  cf := some (fileOf pool0 8 #[] #[{ accessFlags := 1, nameIndex := 5, descriptorIndex := 6, attributes := #[] }] 33 0 #[] #[])
  fields := #[]
  methods := #[k0m0]
  instanceTypes := #[]
  staticTypes := #[]
  resolved := Array.replicate 124 none
  statics := none }

def pool1 : Array CpInfo := pool [(1, .class_ 2), (0, u "java/lang/Integer"), (1, .class_ 6), (1, u "java/lang/Object"), (0, u "<init>"), (0, u "()V"), (0, .integer 2147483647), (0, .methodref 11 12), (0, .class_ 13), (0, .nameAndType 14 15), (0, u "java/lang/Math"), (0, u "max"), (0, u "(II)I"), (0, .class_ 17), (0, u "com/example/paystage/paystage/FractionEqualsPinLaw"), (0, .class_ 19), (0, u "com/example/paystage/paystage/Fraction"), (0, .methodref 18 21), (0, .nameAndType 7 22), (0, u "(II)V"), (0, .methodref 1 24), (0, .nameAndType 25 26), (0, u "valueOf"), (0, u "(I)Ljava/lang/Integer;"), (0, .methodref 18 28), (0, .nameAndType 29 30), (0, u "equals"), (0, u "(Ljava/lang/Object;)Z"), (0, u "MAX"), (0, u "I"), (3, u "law"), (0, u "(IIIII)Z")] 3

def k1m0 : Method := { name := "<init>", desc := "()V", sig := { parameters := [], returnType := none }, accessFlags := 1, code := none }
def k1c1 : Code := { maxStack := 4, maxLocals := 15, code := code, exceptionTable := #[], attributes := #[] }
def k1m1 : Method := { name := "law", desc := "(IIIII)Z", sig := { parameters := [.int, .int, .int, .int, .int], returnType := some .boolean }, accessFlags := 9, code := some k1c1 }
/-- com/example/paystage/paystage/FractionEqualsPinLaw -/
def k1 : Class := { plain "com/example/paystage/paystage/FractionEqualsPinLaw" (some 0) with
  accessFlags := 49
  interfaces := #[]
  cf := some (fileOf pool1 16 #[] #[{ accessFlags := 1, nameIndex := 7, descriptorIndex := 8, attributes := #[] }, { accessFlags := 9, nameIndex := 36, descriptorIndex := 37, attributes := #[] }] 49 4 #[] #[{ accessFlags := 26, nameIndex := 31, descriptorIndex := 32, attributes := #[] }])
  fields := #[{ name := "MAX", type := .int, accessFlags := 26, slot := 0, constantValue := 0 }]
  methods := #[k1m0, k1m1]
  instanceTypes := #[]
  staticTypes := #[.int]
  resolved := Array.replicate 41 none
  statics := none }

def pool2 : Array CpInfo := pool [(1, .class_ 2), (0, u "java/lang/Math"), (1, .class_ 6), (1, u "java/lang/Object"), (0, u "<init>"), (0, u "()V"), (89, .class_ 100), (1, u "java/lang/Math$RandomNumberGeneratorHolder"), (71, u "negativeZeroFloatBits"), (0, u "J"), (2, u "negativeZeroDoubleBits"), (21, u "max"), (46, u "$assertionsDisabled"), (0, u "Z"), (88, u "(II)I"), (2, u "twoToTheDoubleScaleDown"), (0, u "D"), (4, u "twoToTheDoubleScaleUp"), (9, u "E"), (3, u "PI"), (2, u "TAU"), (2, u "DEGREES_TO_RADIANS"), (0, u "RADIANS_TO_DEGREES")] 94

def k2m0 : Method := { name := "<init>", desc := "()V", sig := { parameters := [], returnType := none }, accessFlags := 2, code := none }
def k2c1 : Code := { maxStack := 2, maxLocals := 2, code := jdk_29_method_65_code, exceptionTable := #[], attributes := #[] }
def k2m1 : Method := { name := "max", desc := "(II)I", sig := { parameters := [.int, .int], returnType := some .int }, accessFlags := 9, code := some k2c1 }
/-- java/lang/Math -/
def k2 : Class := { plain "java/lang/Math" (some 0) with
  accessFlags := 49
  interfaces := #[]
  cf := some (fileOf pool2 1 #[.nestMembers #[98]] #[{ accessFlags := 2, nameIndex := 7, descriptorIndex := 8, attributes := #[] }, { accessFlags := 9, nameIndex := 198, descriptorIndex := 335, attributes := #[] }] 49 4 #[] #[{ accessFlags := 25, nameIndex := 354, descriptorIndex := 339, attributes := #[] }, { accessFlags := 25, nameIndex := 358, descriptorIndex := 339, attributes := #[] }, { accessFlags := 25, nameIndex := 361, descriptorIndex := 339, attributes := #[] }, { accessFlags := 26, nameIndex := 364, descriptorIndex := 339, attributes := #[] }, { accessFlags := 26, nameIndex := 365, descriptorIndex := 339, attributes := #[] }, { accessFlags := 26, nameIndex := 172, descriptorIndex := 173, attributes := #[] }, { accessFlags := 26, nameIndex := 176, descriptorIndex := 173, attributes := #[] }, { accessFlags := 8, nameIndex := 344, descriptorIndex := 339, attributes := #[] }, { accessFlags := 8, nameIndex := 338, descriptorIndex := 339, attributes := #[] }, { accessFlags := 4120, nameIndex := 245, descriptorIndex := 246, attributes := #[] }])
  fields := #[{ name := "E", type := .double, accessFlags := 25, slot := 0, constantValue := 0 }, { name := "PI", type := .double, accessFlags := 25, slot := 1, constantValue := 0 }, { name := "TAU", type := .double, accessFlags := 25, slot := 2, constantValue := 0 }, { name := "DEGREES_TO_RADIANS", type := .double, accessFlags := 26, slot := 3, constantValue := 0 }, { name := "RADIANS_TO_DEGREES", type := .double, accessFlags := 26, slot := 4, constantValue := 0 }, { name := "negativeZeroFloatBits", type := .long, accessFlags := 26, slot := 5, constantValue := 0 }, { name := "negativeZeroDoubleBits", type := .long, accessFlags := 26, slot := 6, constantValue := 0 }, { name := "twoToTheDoubleScaleUp", type := .double, accessFlags := 8, slot := 7, constantValue := 0 }, { name := "twoToTheDoubleScaleDown", type := .double, accessFlags := 8, slot := 8, constantValue := 0 }, { name := "$assertionsDisabled", type := .boolean, accessFlags := 4120, slot := 9, constantValue := 0 }]
  methods := #[k2m0, k2m1]
  instanceTypes := #[]
  staticTypes := #[.double, .double, .double, .double, .double, .long, .long, .double, .double, .boolean]
  resolved := Array.replicate 460 none
  statics := none }

def pool3 : Array CpInfo := pool [(1, .methodref 2 3), (0, .class_ 4), (0, .nameAndType 5 6), (0, u "java/lang/Object"), (0, u "<init>"), (0, u "()V"), (0, .class_ 8), (0, u "java/lang/Record")] 13

def k3c0 : Code := { maxStack := 1, maxLocals := 1, code := jdk_30_method_1_code, exceptionTable := #[], attributes := #[] }
def k3m0 : Method := { name := "<init>", desc := "()V", sig := { parameters := [], returnType := none }, accessFlags := 4, code := some k3c0 }
/-- java/lang/Record -/
def k3 : Class := { plain "java/lang/Record" (some 0) with
  accessFlags := 1057
  interfaces := #[]
  cf := some (fileOf pool3 7 #[] #[{ accessFlags := 4, nameIndex := 5, descriptorIndex := 6, attributes := #[] }] 1057 2 #[] #[])
  fields := #[]
  methods := #[k3m0]
  instanceTypes := #[]
  staticTypes := #[]
  resolved := Array.replicate 22 none
  statics := none }

def pool4 : Array CpInfo := pool [(1, .methodref 2 3), (0, .class_ 4), (0, .nameAndType 5 6), (0, u "java/lang/Record"), (0, u "<init>"), (0, u "()V"), (9, .fieldref 17 18), (0, .class_ 19), (0, .nameAndType 20 21), (0, u "com/example/paystage/paystage/Fraction"), (0, u "numerator"), (0, u "I"), (0, .fieldref 17 23), (0, .nameAndType 24 21), (0, u "denominator"), (2, u "WRITTEN"), (0, u "Ljava/util/regex/Pattern;"), (27, u "(II)V"), (27, u "PLACES"), (9, u "equals"), (0, u "(Ljava/lang/Object;)Z")] 27

def k4c0 : Code := { maxStack := 4, maxLocals := 3, code := prog_30_method_1_code, exceptionTable := #[], attributes := #[] }
def k4m0 : Method := { name := "<init>", desc := "(II)V", sig := { parameters := [.int, .int], returnType := none }, accessFlags := 1, code := some k4c0 }
def k4c1 : Code := { maxStack := 2, maxLocals := 3, code := prog_30_method_4_code, exceptionTable := #[], attributes := #[] }
def k4m1 : Method := { name := "equals", desc := "(Ljava/lang/Object;)Z", sig := { parameters := [(.object "java/lang/Object")], returnType := some .boolean }, accessFlags := 1, code := some k4c1 }
/-- com/example/paystage/paystage/Fraction -/
def k4 : Class := { plain "com/example/paystage/paystage/Fraction" (some 3) with
  accessFlags := 49
  interfaces := #[]
  cf := some (fileOf pool4 17 #[] #[{ accessFlags := 1, nameIndex := 5, descriptorIndex := 56, attributes := #[] }, { accessFlags := 1, nameIndex := 94, descriptorIndex := 95, attributes := #[] }] 49 2 #[] #[{ accessFlags := 18, nameIndex := 20, descriptorIndex := 21, attributes := #[] }, { accessFlags := 18, nameIndex := 24, descriptorIndex := 21, attributes := #[] }, { accessFlags := 26, nameIndex := 84, descriptorIndex := 21, attributes := #[] }, { accessFlags := 26, nameIndex := 27, descriptorIndex := 28, attributes := #[] }])
  fields := #[{ name := "numerator", type := .int, accessFlags := 18, slot := 0, constantValue := 0 }, { name := "denominator", type := .int, accessFlags := 18, slot := 1, constantValue := 0 }, { name := "PLACES", type := .int, accessFlags := 26, slot := 0, constantValue := 0 }, { name := "WRITTEN", type := (.object "java/util/regex/Pattern"), accessFlags := 26, slot := 1, constantValue := 0 }]
  methods := #[k4m0, k4m1]
  instanceTypes := #[.int, .int]
  staticTypes := #[.int, (.object "java/util/regex/Pattern")]
  resolved := Array.replicate 123 none
  statics := none }

def pool5 : Array CpInfo := pool [(1, .class_ 2), (0, u "java/io/Serializable"), (0, .class_ 4), (0, u "java/lang/Object")] 2

/-- java/io/Serializable -/
def k5 : Class := { plain "java/io/Serializable" (some 0) with
  accessFlags := 1537
  interfaces := #[]
  cf := some (fileOf pool5 1 #[] #[] 1537 3 #[] #[])
  fields := #[]
  methods := #[]
  instanceTypes := #[]
  staticTypes := #[]
  resolved := Array.replicate 7 none
  statics := none }

def pool6 : Array CpInfo := pool [(1, .methodref 2 3), (0, .class_ 4), (0, .nameAndType 5 6), (0, u "java/lang/Object"), (0, u "<init>"), (0, u "()V"), (1, .class_ 10), (1, u "java/lang/Number"), (2, .class_ 14), (0, u "java/io/Serializable"), (0, u "serialVersionUID"), (0, u "J")] 20

def k6c0 : Code := { maxStack := 1, maxLocals := 1, code := jdk_18_method_1_code, exceptionTable := #[], attributes := #[] }
def k6m0 : Method := { name := "<init>", desc := "()V", sig := { parameters := [], returnType := none }, accessFlags := 1, code := some k6c0 }
/-- java/lang/Number -/
def k6 : Class := { plain "java/lang/Number" (some 0) with
  accessFlags := 1057
  interfaces := #[5]
  cf := some (fileOf pool6 8 #[] #[{ accessFlags := 1, nameIndex := 5, descriptorIndex := 6, attributes := #[] }] 1057 2 #[13] #[{ accessFlags := 26, nameIndex := 15, descriptorIndex := 16, attributes := #[] }])
  fields := #[{ name := "serialVersionUID", type := .long, accessFlags := 26, slot := 0, constantValue := 0 }]
  methods := #[k6m0]
  instanceTypes := #[]
  staticTypes := #[.long]
  resolved := Array.replicate 37 none
  statics := none }

def pool7 : Array CpInfo := pool [(1, .class_ 2), (0, u "java/lang/Comparable"), (0, .class_ 4), (0, u "java/lang/Object")] 7

/-- java/lang/Comparable -/
def k7 : Class := { plain "java/lang/Comparable" (some 0) with
  accessFlags := 1537
  interfaces := #[]
  cf := some (fileOf pool7 1 #[] #[] 1537 3 #[] #[])
  fields := #[]
  methods := #[]
  instanceTypes := #[]
  staticTypes := #[]
  resolved := Array.replicate 12 none
  statics := none }

def pool8 : Array CpInfo := pool [(1, .class_ 2), (0, u "java/lang/constant/Constable"), (0, .class_ 4), (0, u "java/lang/Object")] 6

/-- java/lang/constant/Constable -/
def k8 : Class := { plain "java/lang/constant/Constable" (some 0) with
  accessFlags := 1537
  interfaces := #[]
  cf := some (fileOf pool8 1 #[] #[] 1537 3 #[] #[])
  fields := #[]
  methods := #[]
  instanceTypes := #[]
  staticTypes := #[]
  resolved := Array.replicate 11 none
  statics := none }

def pool9 : Array CpInfo := pool [(1, .class_ 2), (0, u "java/lang/constant/ConstantDesc"), (0, .class_ 4), (0, u "java/lang/Object")] 32

/-- java/lang/constant/ConstantDesc -/
def k9 : Class := { plain "java/lang/constant/ConstantDesc" (some 0) with
  accessFlags := 1537
  interfaces := #[]
  cf := some (fileOf pool9 1 #[] #[] 1537 3 #[] #[])
  fields := #[]
  methods := #[]
  instanceTypes := #[]
  staticTypes := #[]
  resolved := Array.replicate 37 none
  statics := none }

def pool10 : Array CpInfo := pool [(1, .class_ 2), (0, u "java/lang/Integer"), (16, u "digits"), (0, u "[C"), (46, u "<init>"), (17, u "DigitOnes"), (0, u "[B"), (2, u "DigitTens"), (10, .nameAndType 67 101), (0, u "()V"), (85, u "valueOf"), (0, u "(I)Ljava/lang/Integer;"), (0, .class_ 190), (0, u "java/lang/Integer$IntegerCache"), (0, .fieldref 189 192), (0, .nameAndType 193 194), (0, u "high"), (0, u "I"), (0, .fieldref 189 196), (0, .nameAndType 197 198), (0, u "cache"), (0, u "[Ljava/lang/Integer;"), (0, .methodref 1 200), (0, .nameAndType 67 201), (0, u "(I)V"), (0, .methodref 203 100), (0, .class_ 204), (0, u "java/lang/Number"), (0, .fieldref 1 206), (0, .nameAndType 207 194), (0, u "value"), (94, u "TYPE"), (0, u "Ljava/lang/Class;"), (0, .class_ 305), (0, u "java/lang/Comparable"), (0, .class_ 307), (0, u "java/lang/constant/Constable"), (0, .class_ 309), (0, u "java/lang/constant/ConstantDesc"), (0, u "MIN_VALUE"), (1, u "MAX_VALUE"), (3, u "SIZE"), (1, u "BYTES"), (1, u "serialVersionUID"), (0, u "J")] 131

def k10c0 : Code := { maxStack := 3, maxLocals := 1, code := jdk_33_method_22_code, exceptionTable := #[], attributes := #[] }
def k10m0 : Method := { name := "valueOf", desc := "(I)Ljava/lang/Integer;", sig := { parameters := [.int], returnType := some (.object "java/lang/Integer") }, accessFlags := 9, code := some k10c0 }
def k10c1 : Code := { maxStack := 2, maxLocals := 2, code := jdk_33_method_23_code, exceptionTable := #[], attributes := #[] }
def k10m1 : Method := { name := "<init>", desc := "(I)V", sig := { parameters := [.int], returnType := none }, accessFlags := 1, code := some k10c1 }
/-- java/lang/Integer -/
def k10 : Class := { plain "java/lang/Integer" (some 6) with
  accessFlags := 49
  interfaces := #[7, 8, 9]
  cf := some (fileOf pool10 1 #[.nestMembers #[189]] #[{ accessFlags := 9, nameIndex := 187, descriptorIndex := 188, attributes := #[] }, { accessFlags := 1, nameIndex := 67, descriptorIndex := 201, attributes := #[] }] 49 203 #[304, 306, 308] #[{ accessFlags := 25, nameIndex := 310, descriptorIndex := 194, attributes := #[] }, { accessFlags := 25, nameIndex := 312, descriptorIndex := 194, attributes := #[] }, { accessFlags := 25, nameIndex := 302, descriptorIndex := 303, attributes := #[] }, { accessFlags := 24, nameIndex := 19, descriptorIndex := 20, attributes := #[] }, { accessFlags := 24, nameIndex := 89, descriptorIndex := 86, attributes := #[] }, { accessFlags := 24, nameIndex := 85, descriptorIndex := 86, attributes := #[] }, { accessFlags := 18, nameIndex := 207, descriptorIndex := 194, attributes := #[] }, { accessFlags := 25, nameIndex := 316, descriptorIndex := 194, attributes := #[] }, { accessFlags := 25, nameIndex := 318, descriptorIndex := 194, attributes := #[] }, { accessFlags := 26, nameIndex := 320, descriptorIndex := 321, attributes := #[] }])
  fields := #[{ name := "MIN_VALUE", type := .int, accessFlags := 25, slot := 0, constantValue := 0 }, { name := "MAX_VALUE", type := .int, accessFlags := 25, slot := 1, constantValue := 0 }, { name := "TYPE", type := (.object "java/lang/Class"), accessFlags := 25, slot := 2, constantValue := 0 }, { name := "digits", type := (.array .char), accessFlags := 24, slot := 3, constantValue := 0 }, { name := "DigitTens", type := (.array .byte), accessFlags := 24, slot := 4, constantValue := 0 }, { name := "DigitOnes", type := (.array .byte), accessFlags := 24, slot := 5, constantValue := 0 }, { name := "value", type := .int, accessFlags := 18, slot := 0, constantValue := 0 }, { name := "SIZE", type := .int, accessFlags := 25, slot := 6, constantValue := 0 }, { name := "BYTES", type := .int, accessFlags := 25, slot := 7, constantValue := 0 }, { name := "serialVersionUID", type := .long, accessFlags := 26, slot := 8, constantValue := 0 }]
  methods := #[k10m0, k10m1]
  instanceTypes := #[.int]
  staticTypes := #[.int, .int, (.object "java/lang/Class"), (.array .char), (.array .byte), (.array .byte), .int, .int, .long]
  resolved := Array.replicate 453 none
  statics := none }

def pool11 : Array CpInfo := pool [(2, .class_ 4), (1, u "java/lang/Object"), (0, u "<init>"), (0, u "()V"), (0, .class_ 8), (0, u "java/lang/Integer"), (7, .class_ 18), (1, u "java/lang/Integer$IntegerCache"), (0, u "$assertionsDisabled"), (0, u "Z"), (26, u "high"), (0, u "I"), (8, u "archivedCache"), (0, u "[Ljava/lang/Integer;"), (12, u "cache"), (0, u "low")] 27

def k11m0 : Method := { name := "<init>", desc := "()V", sig := { parameters := [], returnType := none }, accessFlags := 2, code := none }
/-- java/lang/Integer$IntegerCache -/
def k11 : Class := { plain "java/lang/Integer$IntegerCache" (some 0) with
  accessFlags := 48
  interfaces := #[]
  cf := some (fileOf pool11 16 #[.nestHost 7] #[{ accessFlags := 2, nameIndex := 5, descriptorIndex := 6, attributes := #[] }] 48 2 #[] #[{ accessFlags := 24, nameIndex := 72, descriptorIndex := 48, attributes := #[] }, { accessFlags := 24, nameIndex := 47, descriptorIndex := 48, attributes := #[] }, { accessFlags := 24, nameIndex := 71, descriptorIndex := 58, attributes := #[] }, { accessFlags := 8, nameIndex := 57, descriptorIndex := 58, attributes := #[] }, { accessFlags := 4120, nameIndex := 19, descriptorIndex := 20, attributes := #[] }])
  fields := #[{ name := "low", type := .int, accessFlags := 24, slot := 0, constantValue := 0 }, { name := "high", type := .int, accessFlags := 24, slot := 1, constantValue := 0 }, { name := "cache", type := (.array (.object "java/lang/Integer")), accessFlags := 24, slot := 2, constantValue := 0 }, { name := "archivedCache", type := (.array (.object "java/lang/Integer")), accessFlags := 8, slot := 3, constantValue := 0 }, { name := "$assertionsDisabled", type := .boolean, accessFlags := 4120, slot := 4, constantValue := 0 }]
  methods := #[k11m0]
  instanceTypes := #[]
  staticTypes := #[.int, .int, (.array (.object "java/lang/Integer")), (.array (.object "java/lang/Integer")), .boolean]
  resolved := Array.replicate 100 none
  statics := some 0 }

def pool12 : Array CpInfo := pool [(1, u "java/lang/Cloneable"), (0, .class_ 1), (0, u "java/lang/Object"), (0, .class_ 3)] 3

/-- java/lang/Cloneable -/
def k12 : Class := { plain "java/lang/Cloneable" (some 0) with
  accessFlags := 1537
  interfaces := #[]
  cf := some (fileOf pool12 2 #[] #[] 1537 4 #[] #[])
  fields := #[]
  methods := #[]
  instanceTypes := #[]
  staticTypes := #[]
  resolved := Array.replicate 8 none
  statics := none }

/-- the primitive byte -/
def k13 : Class := { plain "byte" none with kind := .primitive 'B', accessFlags := 0x411 }
/-- [B -/
def k14 : Class := { plain "[B" (some 0) with kind := .array 13 .byte, interfaces := #[12, 5], accessFlags := 1041 }

/-- the primitive int -/
def k15 : Class := { plain "int" none with kind := .primitive 'I', accessFlags := 0x411 }
/-- [I -/
def k16 : Class := { plain "[I" (some 0) with kind := .array 15 .int, interfaces := #[12, 5], accessFlags := 1041 }

/-- [Ljava/lang/Integer; -/
def k17 : Class := { plain "[Ljava/lang/Integer;" (some 0) with kind := .array 10 (.object "java/lang/Integer"), interfaces := #[12, 5], accessFlags := 1041 }

def heap : Heap := #[{ cls := 11, slots := #[.int 0, .int 127, .ref 1, .null, .int 0], vm := .statics 11 },
  { cls := 17, slots := #[.ref 2, .ref 3, .ref 4, .ref 5, .ref 6, .ref 7, .ref 8, .ref 9, .ref 10, .ref 11, .ref 12, .ref 13, .ref 14, .ref 15, .ref 16, .ref 17, .ref 18, .ref 19, .ref 20, .ref 21, .ref 22, .ref 23, .ref 24, .ref 25, .ref 26, .ref 27, .ref 28, .ref 29, .ref 30, .ref 31, .ref 32, .ref 33, .ref 34, .ref 35, .ref 36, .ref 37, .ref 38, .ref 39, .ref 40, .ref 41, .ref 42, .ref 43, .ref 44, .ref 45, .ref 46, .ref 47, .ref 48, .ref 49, .ref 50, .ref 51, .ref 52, .ref 53, .ref 54, .ref 55, .ref 56, .ref 57, .ref 58, .ref 59, .ref 60, .ref 61, .ref 62, .ref 63, .ref 64, .ref 65, .ref 66, .ref 67, .ref 68, .ref 69, .ref 70, .ref 71, .ref 72, .ref 73, .ref 74, .ref 75, .ref 76, .ref 77, .ref 78, .ref 79, .ref 80, .ref 81, .ref 82, .ref 83, .ref 84, .ref 85, .ref 86, .ref 87, .ref 88, .ref 89, .ref 90, .ref 91, .ref 92, .ref 93, .ref 94, .ref 95, .ref 96, .ref 97, .ref 98, .ref 99, .ref 100, .ref 101, .ref 102, .ref 103, .ref 104, .ref 105, .ref 106, .ref 107, .ref 108, .ref 109, .ref 110, .ref 111, .ref 112, .ref 113, .ref 114, .ref 115, .ref 116, .ref 117, .ref 118, .ref 119, .ref 120, .ref 121, .ref 122, .ref 123, .ref 124, .ref 125, .ref 126, .ref 127, .ref 128, .ref 129, .ref 130, .ref 131, .ref 132, .ref 133, .ref 134, .ref 135, .ref 136, .ref 137, .ref 138, .ref 139, .ref 140, .ref 141, .ref 142, .ref 143, .ref 144, .ref 145, .ref 146, .ref 147, .ref 148, .ref 149, .ref 150, .ref 151, .ref 152, .ref 153, .ref 154, .ref 155, .ref 156, .ref 157, .ref 158, .ref 159, .ref 160, .ref 161, .ref 162, .ref 163, .ref 164, .ref 165, .ref 166, .ref 167, .ref 168, .ref 169, .ref 170, .ref 171, .ref 172, .ref 173, .ref 174, .ref 175, .ref 176, .ref 177, .ref 178, .ref 179, .ref 180, .ref 181, .ref 182, .ref 183, .ref 184, .ref 185, .ref 186, .ref 187, .ref 188, .ref 189, .ref 190, .ref 191, .ref 192, .ref 193, .ref 194, .ref 195, .ref 196, .ref 197, .ref 198, .ref 199, .ref 200, .ref 201, .ref 202, .ref 203, .ref 204, .ref 205, .ref 206, .ref 207, .ref 208, .ref 209, .ref 210, .ref 211, .ref 212, .ref 213, .ref 214, .ref 215, .ref 216, .ref 217, .ref 218, .ref 219, .ref 220, .ref 221, .ref 222, .ref 223, .ref 224, .ref 225, .ref 226, .ref 227, .ref 228, .ref 229, .ref 230, .ref 231, .ref 232, .ref 233, .ref 234, .ref 235, .ref 236, .ref 237, .ref 238, .ref 239, .ref 240, .ref 241, .ref 242, .ref 243, .ref 244, .ref 245, .ref 246, .ref 247, .ref 248, .ref 249, .ref 250, .ref 251, .ref 252, .ref 253, .ref 254, .ref 255, .ref 256, .ref 257], vm := .none },
  { cls := 10, slots := #[.int (-128)], vm := .none },
  { cls := 10, slots := #[.int (-127)], vm := .none },
  { cls := 10, slots := #[.int (-126)], vm := .none },
  { cls := 10, slots := #[.int (-125)], vm := .none },
  { cls := 10, slots := #[.int (-124)], vm := .none },
  { cls := 10, slots := #[.int (-123)], vm := .none },
  { cls := 10, slots := #[.int (-122)], vm := .none },
  { cls := 10, slots := #[.int (-121)], vm := .none },
  { cls := 10, slots := #[.int (-120)], vm := .none },
  { cls := 10, slots := #[.int (-119)], vm := .none },
  { cls := 10, slots := #[.int (-118)], vm := .none },
  { cls := 10, slots := #[.int (-117)], vm := .none },
  { cls := 10, slots := #[.int (-116)], vm := .none },
  { cls := 10, slots := #[.int (-115)], vm := .none },
  { cls := 10, slots := #[.int (-114)], vm := .none },
  { cls := 10, slots := #[.int (-113)], vm := .none },
  { cls := 10, slots := #[.int (-112)], vm := .none },
  { cls := 10, slots := #[.int (-111)], vm := .none },
  { cls := 10, slots := #[.int (-110)], vm := .none },
  { cls := 10, slots := #[.int (-109)], vm := .none },
  { cls := 10, slots := #[.int (-108)], vm := .none },
  { cls := 10, slots := #[.int (-107)], vm := .none },
  { cls := 10, slots := #[.int (-106)], vm := .none },
  { cls := 10, slots := #[.int (-105)], vm := .none },
  { cls := 10, slots := #[.int (-104)], vm := .none },
  { cls := 10, slots := #[.int (-103)], vm := .none },
  { cls := 10, slots := #[.int (-102)], vm := .none },
  { cls := 10, slots := #[.int (-101)], vm := .none },
  { cls := 10, slots := #[.int (-100)], vm := .none },
  { cls := 10, slots := #[.int (-99)], vm := .none },
  { cls := 10, slots := #[.int (-98)], vm := .none },
  { cls := 10, slots := #[.int (-97)], vm := .none },
  { cls := 10, slots := #[.int (-96)], vm := .none },
  { cls := 10, slots := #[.int (-95)], vm := .none },
  { cls := 10, slots := #[.int (-94)], vm := .none },
  { cls := 10, slots := #[.int (-93)], vm := .none },
  { cls := 10, slots := #[.int (-92)], vm := .none },
  { cls := 10, slots := #[.int (-91)], vm := .none },
  { cls := 10, slots := #[.int (-90)], vm := .none },
  { cls := 10, slots := #[.int (-89)], vm := .none },
  { cls := 10, slots := #[.int (-88)], vm := .none },
  { cls := 10, slots := #[.int (-87)], vm := .none },
  { cls := 10, slots := #[.int (-86)], vm := .none },
  { cls := 10, slots := #[.int (-85)], vm := .none },
  { cls := 10, slots := #[.int (-84)], vm := .none },
  { cls := 10, slots := #[.int (-83)], vm := .none },
  { cls := 10, slots := #[.int (-82)], vm := .none },
  { cls := 10, slots := #[.int (-81)], vm := .none },
  { cls := 10, slots := #[.int (-80)], vm := .none },
  { cls := 10, slots := #[.int (-79)], vm := .none },
  { cls := 10, slots := #[.int (-78)], vm := .none },
  { cls := 10, slots := #[.int (-77)], vm := .none },
  { cls := 10, slots := #[.int (-76)], vm := .none },
  { cls := 10, slots := #[.int (-75)], vm := .none },
  { cls := 10, slots := #[.int (-74)], vm := .none },
  { cls := 10, slots := #[.int (-73)], vm := .none },
  { cls := 10, slots := #[.int (-72)], vm := .none },
  { cls := 10, slots := #[.int (-71)], vm := .none },
  { cls := 10, slots := #[.int (-70)], vm := .none },
  { cls := 10, slots := #[.int (-69)], vm := .none },
  { cls := 10, slots := #[.int (-68)], vm := .none },
  { cls := 10, slots := #[.int (-67)], vm := .none },
  { cls := 10, slots := #[.int (-66)], vm := .none },
  { cls := 10, slots := #[.int (-65)], vm := .none },
  { cls := 10, slots := #[.int (-64)], vm := .none },
  { cls := 10, slots := #[.int (-63)], vm := .none },
  { cls := 10, slots := #[.int (-62)], vm := .none },
  { cls := 10, slots := #[.int (-61)], vm := .none },
  { cls := 10, slots := #[.int (-60)], vm := .none },
  { cls := 10, slots := #[.int (-59)], vm := .none },
  { cls := 10, slots := #[.int (-58)], vm := .none },
  { cls := 10, slots := #[.int (-57)], vm := .none },
  { cls := 10, slots := #[.int (-56)], vm := .none },
  { cls := 10, slots := #[.int (-55)], vm := .none },
  { cls := 10, slots := #[.int (-54)], vm := .none },
  { cls := 10, slots := #[.int (-53)], vm := .none },
  { cls := 10, slots := #[.int (-52)], vm := .none },
  { cls := 10, slots := #[.int (-51)], vm := .none },
  { cls := 10, slots := #[.int (-50)], vm := .none },
  { cls := 10, slots := #[.int (-49)], vm := .none },
  { cls := 10, slots := #[.int (-48)], vm := .none },
  { cls := 10, slots := #[.int (-47)], vm := .none },
  { cls := 10, slots := #[.int (-46)], vm := .none },
  { cls := 10, slots := #[.int (-45)], vm := .none },
  { cls := 10, slots := #[.int (-44)], vm := .none },
  { cls := 10, slots := #[.int (-43)], vm := .none },
  { cls := 10, slots := #[.int (-42)], vm := .none },
  { cls := 10, slots := #[.int (-41)], vm := .none },
  { cls := 10, slots := #[.int (-40)], vm := .none },
  { cls := 10, slots := #[.int (-39)], vm := .none },
  { cls := 10, slots := #[.int (-38)], vm := .none },
  { cls := 10, slots := #[.int (-37)], vm := .none },
  { cls := 10, slots := #[.int (-36)], vm := .none },
  { cls := 10, slots := #[.int (-35)], vm := .none },
  { cls := 10, slots := #[.int (-34)], vm := .none },
  { cls := 10, slots := #[.int (-33)], vm := .none },
  { cls := 10, slots := #[.int (-32)], vm := .none },
  { cls := 10, slots := #[.int (-31)], vm := .none },
  { cls := 10, slots := #[.int (-30)], vm := .none },
  { cls := 10, slots := #[.int (-29)], vm := .none },
  { cls := 10, slots := #[.int (-28)], vm := .none },
  { cls := 10, slots := #[.int (-27)], vm := .none },
  { cls := 10, slots := #[.int (-26)], vm := .none },
  { cls := 10, slots := #[.int (-25)], vm := .none },
  { cls := 10, slots := #[.int (-24)], vm := .none },
  { cls := 10, slots := #[.int (-23)], vm := .none },
  { cls := 10, slots := #[.int (-22)], vm := .none },
  { cls := 10, slots := #[.int (-21)], vm := .none },
  { cls := 10, slots := #[.int (-20)], vm := .none },
  { cls := 10, slots := #[.int (-19)], vm := .none },
  { cls := 10, slots := #[.int (-18)], vm := .none },
  { cls := 10, slots := #[.int (-17)], vm := .none },
  { cls := 10, slots := #[.int (-16)], vm := .none },
  { cls := 10, slots := #[.int (-15)], vm := .none },
  { cls := 10, slots := #[.int (-14)], vm := .none },
  { cls := 10, slots := #[.int (-13)], vm := .none },
  { cls := 10, slots := #[.int (-12)], vm := .none },
  { cls := 10, slots := #[.int (-11)], vm := .none },
  { cls := 10, slots := #[.int (-10)], vm := .none },
  { cls := 10, slots := #[.int (-9)], vm := .none },
  { cls := 10, slots := #[.int (-8)], vm := .none },
  { cls := 10, slots := #[.int (-7)], vm := .none },
  { cls := 10, slots := #[.int (-6)], vm := .none },
  { cls := 10, slots := #[.int (-5)], vm := .none },
  { cls := 10, slots := #[.int (-4)], vm := .none },
  { cls := 10, slots := #[.int (-3)], vm := .none },
  { cls := 10, slots := #[.int (-2)], vm := .none },
  { cls := 10, slots := #[.int (-1)], vm := .none },
  { cls := 10, slots := #[.int (0)], vm := .none },
  { cls := 10, slots := #[.int (1)], vm := .none },
  { cls := 10, slots := #[.int (2)], vm := .none },
  { cls := 10, slots := #[.int (3)], vm := .none },
  { cls := 10, slots := #[.int (4)], vm := .none },
  { cls := 10, slots := #[.int (5)], vm := .none },
  { cls := 10, slots := #[.int (6)], vm := .none },
  { cls := 10, slots := #[.int (7)], vm := .none },
  { cls := 10, slots := #[.int (8)], vm := .none },
  { cls := 10, slots := #[.int (9)], vm := .none },
  { cls := 10, slots := #[.int (10)], vm := .none },
  { cls := 10, slots := #[.int (11)], vm := .none },
  { cls := 10, slots := #[.int (12)], vm := .none },
  { cls := 10, slots := #[.int (13)], vm := .none },
  { cls := 10, slots := #[.int (14)], vm := .none },
  { cls := 10, slots := #[.int (15)], vm := .none },
  { cls := 10, slots := #[.int (16)], vm := .none },
  { cls := 10, slots := #[.int (17)], vm := .none },
  { cls := 10, slots := #[.int (18)], vm := .none },
  { cls := 10, slots := #[.int (19)], vm := .none },
  { cls := 10, slots := #[.int (20)], vm := .none },
  { cls := 10, slots := #[.int (21)], vm := .none },
  { cls := 10, slots := #[.int (22)], vm := .none },
  { cls := 10, slots := #[.int (23)], vm := .none },
  { cls := 10, slots := #[.int (24)], vm := .none },
  { cls := 10, slots := #[.int (25)], vm := .none },
  { cls := 10, slots := #[.int (26)], vm := .none },
  { cls := 10, slots := #[.int (27)], vm := .none },
  { cls := 10, slots := #[.int (28)], vm := .none },
  { cls := 10, slots := #[.int (29)], vm := .none },
  { cls := 10, slots := #[.int (30)], vm := .none },
  { cls := 10, slots := #[.int (31)], vm := .none },
  { cls := 10, slots := #[.int (32)], vm := .none },
  { cls := 10, slots := #[.int (33)], vm := .none },
  { cls := 10, slots := #[.int (34)], vm := .none },
  { cls := 10, slots := #[.int (35)], vm := .none },
  { cls := 10, slots := #[.int (36)], vm := .none },
  { cls := 10, slots := #[.int (37)], vm := .none },
  { cls := 10, slots := #[.int (38)], vm := .none },
  { cls := 10, slots := #[.int (39)], vm := .none },
  { cls := 10, slots := #[.int (40)], vm := .none },
  { cls := 10, slots := #[.int (41)], vm := .none },
  { cls := 10, slots := #[.int (42)], vm := .none },
  { cls := 10, slots := #[.int (43)], vm := .none },
  { cls := 10, slots := #[.int (44)], vm := .none },
  { cls := 10, slots := #[.int (45)], vm := .none },
  { cls := 10, slots := #[.int (46)], vm := .none },
  { cls := 10, slots := #[.int (47)], vm := .none },
  { cls := 10, slots := #[.int (48)], vm := .none },
  { cls := 10, slots := #[.int (49)], vm := .none },
  { cls := 10, slots := #[.int (50)], vm := .none },
  { cls := 10, slots := #[.int (51)], vm := .none },
  { cls := 10, slots := #[.int (52)], vm := .none },
  { cls := 10, slots := #[.int (53)], vm := .none },
  { cls := 10, slots := #[.int (54)], vm := .none },
  { cls := 10, slots := #[.int (55)], vm := .none },
  { cls := 10, slots := #[.int (56)], vm := .none },
  { cls := 10, slots := #[.int (57)], vm := .none },
  { cls := 10, slots := #[.int (58)], vm := .none },
  { cls := 10, slots := #[.int (59)], vm := .none },
  { cls := 10, slots := #[.int (60)], vm := .none },
  { cls := 10, slots := #[.int (61)], vm := .none },
  { cls := 10, slots := #[.int (62)], vm := .none },
  { cls := 10, slots := #[.int (63)], vm := .none },
  { cls := 10, slots := #[.int (64)], vm := .none },
  { cls := 10, slots := #[.int (65)], vm := .none },
  { cls := 10, slots := #[.int (66)], vm := .none },
  { cls := 10, slots := #[.int (67)], vm := .none },
  { cls := 10, slots := #[.int (68)], vm := .none },
  { cls := 10, slots := #[.int (69)], vm := .none },
  { cls := 10, slots := #[.int (70)], vm := .none },
  { cls := 10, slots := #[.int (71)], vm := .none },
  { cls := 10, slots := #[.int (72)], vm := .none },
  { cls := 10, slots := #[.int (73)], vm := .none },
  { cls := 10, slots := #[.int (74)], vm := .none },
  { cls := 10, slots := #[.int (75)], vm := .none },
  { cls := 10, slots := #[.int (76)], vm := .none },
  { cls := 10, slots := #[.int (77)], vm := .none },
  { cls := 10, slots := #[.int (78)], vm := .none },
  { cls := 10, slots := #[.int (79)], vm := .none },
  { cls := 10, slots := #[.int (80)], vm := .none },
  { cls := 10, slots := #[.int (81)], vm := .none },
  { cls := 10, slots := #[.int (82)], vm := .none },
  { cls := 10, slots := #[.int (83)], vm := .none },
  { cls := 10, slots := #[.int (84)], vm := .none },
  { cls := 10, slots := #[.int (85)], vm := .none },
  { cls := 10, slots := #[.int (86)], vm := .none },
  { cls := 10, slots := #[.int (87)], vm := .none },
  { cls := 10, slots := #[.int (88)], vm := .none },
  { cls := 10, slots := #[.int (89)], vm := .none },
  { cls := 10, slots := #[.int (90)], vm := .none },
  { cls := 10, slots := #[.int (91)], vm := .none },
  { cls := 10, slots := #[.int (92)], vm := .none },
  { cls := 10, slots := #[.int (93)], vm := .none },
  { cls := 10, slots := #[.int (94)], vm := .none },
  { cls := 10, slots := #[.int (95)], vm := .none },
  { cls := 10, slots := #[.int (96)], vm := .none },
  { cls := 10, slots := #[.int (97)], vm := .none },
  { cls := 10, slots := #[.int (98)], vm := .none },
  { cls := 10, slots := #[.int (99)], vm := .none },
  { cls := 10, slots := #[.int (100)], vm := .none },
  { cls := 10, slots := #[.int (101)], vm := .none },
  { cls := 10, slots := #[.int (102)], vm := .none },
  { cls := 10, slots := #[.int (103)], vm := .none },
  { cls := 10, slots := #[.int (104)], vm := .none },
  { cls := 10, slots := #[.int (105)], vm := .none },
  { cls := 10, slots := #[.int (106)], vm := .none },
  { cls := 10, slots := #[.int (107)], vm := .none },
  { cls := 10, slots := #[.int (108)], vm := .none },
  { cls := 10, slots := #[.int (109)], vm := .none },
  { cls := 10, slots := #[.int (110)], vm := .none },
  { cls := 10, slots := #[.int (111)], vm := .none },
  { cls := 10, slots := #[.int (112)], vm := .none },
  { cls := 10, slots := #[.int (113)], vm := .none },
  { cls := 10, slots := #[.int (114)], vm := .none },
  { cls := 10, slots := #[.int (115)], vm := .none },
  { cls := 10, slots := #[.int (116)], vm := .none },
  { cls := 10, slots := #[.int (117)], vm := .none },
  { cls := 10, slots := #[.int (118)], vm := .none },
  { cls := 10, slots := #[.int (119)], vm := .none },
  { cls := 10, slots := #[.int (120)], vm := .none },
  { cls := 10, slots := #[.int (121)], vm := .none },
  { cls := 10, slots := #[.int (122)], vm := .none },
  { cls := 10, slots := #[.int (123)], vm := .none },
  { cls := 10, slots := #[.int (124)], vm := .none },
  { cls := 10, slots := #[.int (125)], vm := .none },
  { cls := 10, slots := #[.int (126)], vm := .none },
  { cls := 10, slots := #[.int (127)], vm := .none }]
def classes : Array Class := #[k0, k1, k2, k3, k4, k5, k6, k7, k8, k9, k10, k11, k12, k13, k14, k15, k16, k17]
def interned : List (Array UInt16 × Addr) := []
def slotsUsed : Nat := 517
def theMethod : MethodId := ⟨1, 1⟩
def args0 : Array Value := #[.int 5, .int 5, .int 5, .int 5, .int 5]
def aboutOver (below : List Frame) : State where
  vm := { classes := classes, interned := interned.toArray }
  heap := heap
  slotsUsed := slotsUsed
  threads := #[{ frames := .invoking theMethod args0 :: below }]
def below0 : List Frame := [.native { method := ⟨0, 0⟩, args := #[] }]
def about1 : State := aboutOver below0
def p0 : Program := .bare "" "" ""
def e0 : Env := launch0.env 0 0 0
theorem w_frames : about1.frames = Frame.invoking theMethod args0 :: below0 := rfl
set_option maxRecDepth 65536 in
theorem w_args : argsFit about1.vm theMethod args0 = true := by decide +kernel
set_option maxRecDepth 65536 in
theorem w_heap : heapFits about1 = true := by decide +kernel
set_option maxRecDepth 65536 in
theorem w_runnable : about1.curStatus? = some .runnable := by decide +kernel
set_option maxRecDepth 65536 in
theorem w_alone : about1.alone = true := by decide +kernel
set_option maxRecDepth 65536 in
theorem w_named : about1.methodNamed? x = some theMethod := by decide +kernel
set_option maxRecDepth 65536 in
theorem w_hears : about1.hears theMethod below0 = true := by decide +kernel
set_option maxRecDepth 65536 in
theorem w_ripe : about1.ripe theMethod args0 below0 = true := by decide +kernel
theorem w_running : about1.status = .running := rfl
set_option maxRecDepth 65536 in
theorem w_room : about1.hasRoom e0.platform room_1 = true :=
  launch0.hasRoom_least _ room_1 (by decide +kernel) (by decide +kernel) (by decide +kernel) (by decide +kernel) (by decide +kernel) (by decide +kernel)
theorem allAtoms_all (ts : List Jvm.Cond) (a : Array Jvm.Value) (st : Jvm.State) : (allAtoms ts).before a st = ts.all (fun c => c.before a st) := by
  induction ts with
  | nil => rfl
  | cons c t ih =>
    show (Jvm.Cond.and c (allAtoms t)).before a st = _
    rw [Jvm.Cond.before_and, ih, List.all_cons]
def words1 : List Jvm.Cond := Jvm.Cond.code x code maxLocals ret :: tables_1
/-- a 'code' word, met by the world's own term for the bytes: nothing is compared byte by byte -/
theorem code_word {y : MethodName} {bytes : ByteArray} {mx : Nat} {rt : Option FieldType} {a : Array Value} {s : State} {m : MethodId} {meth : Method} {c : Code} (h1 : s.methodNamed? y = some m) (h2 : s.vm.method? m = some meth) (h3 : meth.code = some c) (h4 : c.code = bytes)
    (h5 : (c.maxLocals == mx && c.exceptionTable.isEmpty && decide (c.maxStack ≤ mostOperands) && decide (meth.sig.returnType = rt) && !meth.locks && decide (parseMethodDescriptor y.desc = some meth.sig)) = true) : (Jvm.Cond.code y bytes mx rt).before a s = true := by
  simp only [Bool.and_eq_true, beq_iff_eq, Bool.not_eq_true', decide_eq_true_eq] at h5
  obtain ⟨⟨⟨⟨⟨g1, g2⟩, g3⟩, g4⟩, g5⟩, g6⟩ := h5
  simp [Cond.before, Cond.holds, Cond.value, h1, h2, h3, h4, g1, g2, g3, g4, g5, g6]
def isCode : Jvm.Cond → Bool
  | .code _ _ _ _ => true
  | _ => false
theorem all_split {L : List Jvm.Cond} {P : Jvm.Cond → Bool} (h1 : L.all (fun c => isCode c || P c) = true) (h2 : ∀ c ∈ L.filter isCode, P c = true) : L.all P = true := by
  refine List.all_eq_true.mpr fun c hc => ?_
  have h := List.all_eq_true.mp h1 c hc
  rcases Bool.eq_false_or_eq_true (isCode c) with hi | hi
  · exact h2 c (List.mem_filter.mpr ⟨hc, hi⟩)
  · simpa [hi] using h
set_option maxRecDepth 65536 in
theorem w_c0 : (Jvm.Cond.code x code maxLocals ret).before args0 about1 = true := code_word (m := ⟨1, 1⟩) (meth := k1m1) (c := k1c1) (by decide +kernel) rfl rfl rfl (by decide +kernel)
set_option maxRecDepth 65536 in
theorem w_c1 : (Jvm.Cond.code ({ cls := "java/lang/Math", name := "max", desc := "(II)I" } : Jvm.MethodName) jdk_29_method_65_code (2 : Nat) (Option.some Jvm.ClassFile.FieldType.int)).before args0 about1 = true := code_word (m := ⟨2, 1⟩) (meth := k2m1) (c := k2c1) (by decide +kernel) rfl rfl rfl (by decide +kernel)
set_option maxRecDepth 65536 in
theorem w_c2 : (Jvm.Cond.code ({ cls := "com/example/paystage/paystage/Fraction", name := "<init>", desc := "(II)V" } : Jvm.MethodName) prog_30_method_1_code (3 : Nat) (Option.none : Option Jvm.ClassFile.FieldType)).before args0 about1 = true := code_word (m := ⟨4, 0⟩) (meth := k4m0) (c := k4c0) (by decide +kernel) rfl rfl rfl (by decide +kernel)
set_option maxRecDepth 65536 in
theorem w_c3 : (Jvm.Cond.code ({ cls := "java/lang/Record", name := "<init>", desc := "()V" } : Jvm.MethodName) jdk_30_method_1_code (1 : Nat) (Option.none : Option Jvm.ClassFile.FieldType)).before args0 about1 = true := code_word (m := ⟨3, 0⟩) (meth := k3m0) (c := k3c0) (by decide +kernel) rfl rfl rfl (by decide +kernel)
set_option maxRecDepth 65536 in
theorem w_c4 : (Jvm.Cond.code ({ cls := "java/lang/Object", name := "<init>", desc := "()V" } : Jvm.MethodName) object_method_1_code (1 : Nat) (Option.none : Option Jvm.ClassFile.FieldType)).before args0 about1 = true := code_word (m := ⟨0, 0⟩) (meth := k0m0) (c := k0c0) (by decide +kernel) rfl rfl rfl (by decide +kernel)
set_option maxRecDepth 65536 in
theorem w_c5 : (Jvm.Cond.code ({ cls := "com/example/paystage/paystage/Fraction", name := "equals", desc := "(Ljava/lang/Object;)Z" } : Jvm.MethodName) prog_30_method_4_code (3 : Nat) (Option.some Jvm.ClassFile.FieldType.boolean)).before args0 about1 = true := code_word (m := ⟨4, 1⟩) (meth := k4m1) (c := k4c1) (by decide +kernel) rfl rfl rfl (by decide +kernel)
set_option maxRecDepth 65536 in
theorem w_c6 : (Jvm.Cond.code ({ cls := "java/lang/Integer", name := "valueOf", desc := "(I)Ljava/lang/Integer;" } : Jvm.MethodName) jdk_33_method_22_code (1 : Nat) (Option.some (Jvm.ClassFile.FieldType.object "java/lang/Integer"))).before args0 about1 = true := code_word (m := ⟨10, 0⟩) (meth := k10m0) (c := k10c0) (by decide +kernel) rfl rfl rfl (by decide +kernel)
set_option maxRecDepth 65536 in
theorem w_c7 : (Jvm.Cond.code ({ cls := "java/lang/Integer", name := "<init>", desc := "(I)V" } : Jvm.MethodName) jdk_33_method_23_code (2 : Nat) (Option.none : Option Jvm.ClassFile.FieldType)).before args0 about1 = true := code_word (m := ⟨10, 1⟩) (meth := k10m1) (c := k10c1) (by decide +kernel) rfl rfl rfl (by decide +kernel)
set_option maxRecDepth 65536 in
theorem w_c8 : (Jvm.Cond.code ({ cls := "java/lang/Number", name := "<init>", desc := "()V" } : Jvm.MethodName) jdk_18_method_1_code (1 : Nat) (Option.none : Option Jvm.ClassFile.FieldType)).before args0 about1 = true := code_word (m := ⟨6, 0⟩) (meth := k6m0) (c := k6c0) (by decide +kernel) rfl rfl rfl (by decide +kernel)
def codes1 : List Jvm.Cond := [Jvm.Cond.code x code maxLocals ret, Jvm.Cond.code ({ cls := "java/lang/Math", name := "max", desc := "(II)I" } : Jvm.MethodName) jdk_29_method_65_code (2 : Nat) (Option.some Jvm.ClassFile.FieldType.int), Jvm.Cond.code ({ cls := "com/example/paystage/paystage/Fraction", name := "<init>", desc := "(II)V" } : Jvm.MethodName) prog_30_method_1_code (3 : Nat) (Option.none : Option Jvm.ClassFile.FieldType), Jvm.Cond.code ({ cls := "java/lang/Record", name := "<init>", desc := "()V" } : Jvm.MethodName) jdk_30_method_1_code (1 : Nat) (Option.none : Option Jvm.ClassFile.FieldType), Jvm.Cond.code ({ cls := "java/lang/Object", name := "<init>", desc := "()V" } : Jvm.MethodName) object_method_1_code (1 : Nat) (Option.none : Option Jvm.ClassFile.FieldType), Jvm.Cond.code ({ cls := "com/example/paystage/paystage/Fraction", name := "equals", desc := "(Ljava/lang/Object;)Z" } : Jvm.MethodName) prog_30_method_4_code (3 : Nat) (Option.some Jvm.ClassFile.FieldType.boolean), Jvm.Cond.code ({ cls := "java/lang/Integer", name := "valueOf", desc := "(I)Ljava/lang/Integer;" } : Jvm.MethodName) jdk_33_method_22_code (1 : Nat) (Option.some (Jvm.ClassFile.FieldType.object "java/lang/Integer")), Jvm.Cond.code ({ cls := "java/lang/Integer", name := "<init>", desc := "(I)V" } : Jvm.MethodName) jdk_33_method_23_code (2 : Nat) (Option.none : Option Jvm.ClassFile.FieldType), Jvm.Cond.code ({ cls := "java/lang/Number", name := "<init>", desc := "()V" } : Jvm.MethodName) jdk_18_method_1_code (1 : Nat) (Option.none : Option Jvm.ClassFile.FieldType)]
set_option maxRecDepth 65536 in
theorem codes_eq : words1.filter isCode = codes1 := rfl
theorem w_codes : ∀ c ∈ words1.filter isCode, c.before args0 about1 = true := by
  rw [codes_eq]
  intro c hc
  simp only [codes1, List.mem_cons, List.not_mem_nil, or_false] at hc
  rcases hc with rfl | rfl | rfl | rfl | rfl | rfl | rfl | rfl | rfl
  · exact w_c0
  · exact w_c1
  · exact w_c2
  · exact w_c3
  · exact w_c4
  · exact w_c5
  · exact w_c6
  · exact w_c7
  · exact w_c8
set_option maxRecDepth 65536 in
theorem w_t1 : (words1.take 24).all (fun c => isCode c || c.before args0 about1) = true := by decide +kernel
set_option maxRecDepth 65536 in
theorem w_t2 : ((words1.drop 24).take 24).all (fun c => isCode c || c.before args0 about1) = true := by decide +kernel
set_option maxRecDepth 65536 in
theorem w_t3 : ((words1.drop 24).drop 24).all (fun c => isCode c || c.before args0 about1) = true := by decide +kernel
theorem w_tables : (allAtoms (Jvm.Cond.code x code maxLocals ret :: tables_1)).before args0 about1 = true := by
  rw [allAtoms_all]
  show words1.all (fun c => c.before args0 about1) = true
  refine all_split ?_ w_codes
  rw [← List.take_append_drop 24 words1, List.all_append, w_t1, ← List.take_append_drop 24 (words1.drop 24), List.all_append, w_t2, w_t3]
  rfl
set_option maxRecDepth 65536 in
theorem w_rest : rest_1_c.before args0 about1 = true := by decide +kernel
set_option maxRecDepth 65536 in
theorem w_case : (Jvm.Cond.and given_1 narrow_1).before args0 about1 = true := by decide +kernel
theorem w_applies : (headSpec (Jvm.Cond.code x code maxLocals ret :: tables_1) room_1).applies x e0.platform about1 = true :=
  (Spec.applies_iff w_frames).mpr ⟨w_running, w_runnable, w_alone, w_named, w_hears, w_ripe, w_room, w_tables⟩
theorem atStart : AtStart classFile x code maxLocals ret World_1 tables_1 room_1 Calls_1 rest_1 Pre_1 launch0 p0 e0 about1 theMethod args0 below0 :=
  ⟨lists_1, trivial, launch0.admits_env _ _ _, launch0.least_env, fairChoices_fair.cas, fairChoices_fair.clock, w_frames, w_args, w_heap, w_applies, trivial, w_rest, w_case⟩
end start1
theorem witness_1 : WitnessClaimed_1 := ⟨start1.p0, start1.e0, start1.about1, start1.theMethod, start1.args0, start1.below0, start1.atStart⟩
end Jvm.Pilot.@@N@@
