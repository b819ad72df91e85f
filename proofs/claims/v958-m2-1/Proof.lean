import JvmDerived
import JvmDerived.Pilot.@@N@@Statement
import JvmDerived.Pilot.@@N@@Code
set_option linter.unusedVariables false
set_option linter.unusedSimpArgs false
namespace Jvm.OwnW
open Sem ClassFile Op Lib Jvm.Stand Jvm.Free Jvm.LawKit Jvm.RoadKit
/-- what a walk knows of its method and of the run -/
def Cx (p : Program) (s : State) (m : MethodId) (meth : Method) (c : Code) (Z : State) (y : MethodName) (bs : ByteArray) (ml : Nat) (ret : Option FieldType) : Prop :=
  p.tables.exec = Jvm.exec ∧ c.code = bs ∧ c.maxLocals = ml ∧ s.vm.findClass y.cls = some m.cls ∧ meth.name = y.name ∧ meth.sig.returnType = ret ∧ meth.locks = false ∧ Z.Warmed39 s.vm
/-- from the state u the body comes to its end, returns v and leaves the heap as Q says; it wrote cells from n0 on alone -/
def Runs (p : Program) (e : Env) (below : List Frame) (s : State) (R : Room) (n0 : Nat) (Q : Option Value → Heap → Prop) (u : State) : Prop :=
  ∃ s₂ o, Steps p.tables e below u s₂ ∧ s₂.status = .running ∧ Ended s₂ below o ∧ ∃ v Ls, o = .returned v ∧ (Q v s₂.heap ∧ Fr n0 Ls) ∧ FrameEnd s o s₂ Ls R.cells R.slots
/-- from pc with these locals and this stack, the heap being h, k cells and n slots made so far: the body ends as Q says -/
def Go (l : Launch) (Z : State) (R : Room) (y : MethodName) (bs : ByteArray) (ml : Nat) (ret : Option FieldType) (n0 : Nat) (Q : Option Value → Heap → Prop) (h : Heap) (k n : Nat) (pc : Nat) (L : Array Slot) (St : List Value) : Prop :=
  ∀ (p : Program) (e : Env) (s : State) (m : MethodId) (args : Array Value) (below : List Frame) (meth : Method) (c : Code) (T : State) (locs : List Loc),
    Cx p s m meth c Z y bs ml ret → Stand p l e R s m args below meth c T locs k n → Fr n0 locs → T.heap = h → Runs p e below s R n0 Q (T.setTop (mkF m pc L St))
/-- it returns r, the heap as it was -/
def Ret (r : Option Value) (h0 : Heap) : Option Value → Heap → Prop := fun v h => v = r ∧ h0 = h
/-- the law says 1 -/
def One1 : Option Value → Heap → Prop := fun v _ => v = some (.int 1)
/-- the body's contract -/
def Con (l : Launch) (Z : State) (R : Room) (y : MethodName) (bs : ByteArray) (ml : Nat) (ret : Option FieldType) (n0 : Nat) (as' : Array Value) (h : Heap) (Q : Option Value → Heap → Prop) : Prop :=
  ∀ ws, MetFree l y (head1 (Jvm.Cond.code y bs ml ret :: ws) R) (fun a U => a = as' ∧ Z.Warmed39 U.vm ∧ U.heap = h) (fun _ _ _ _ _ => True) (fun _ U o U' => ∃ v Ls, o = .returned v ∧ (Q v U'.heap ∧ Fr n0 Ls) ∧ FrameEnd U o U' Ls R.cells R.slots)
theorem Runs.thru {p : Program} {e : Env} {below : List Frame} {s : State} {R : Room} {n0 : Nat} {Q : Option Value → Heap → Prop} {u u' : State} (q : Runs p e below s R n0 Q u') (st : ∀ t, Steps p.tables e below u' t → Steps p.tables e below u t) : Runs p e below s R n0 Q u := by
  obtain ⟨s₂, o, h1, r⟩ := q
  exact ⟨s₂, o, st _ h1, r⟩
/-- what stood in h0 stands in h -/
theorem ext_refl (h : Heap) : Ext h h := ⟨Nat.le_refl _, fun _ _ q => q⟩
theorem ext_trans {h0 h h' : Heap} (X : Ext h0 h) (E : Ext h h') : Ext h0 h' := ⟨Nat.le_trans X.1 E.1, fun a c q => E.2 a c (X.2 a c q)⟩
theorem ext_keep {h0 h h' : Heap} {ws : List Addr} (X : Ext h0 h) (K : Keep h h' ws) (q : ∀ x ∈ ws, h0.size ≤ x) : Ext h0 h' :=
  ⟨Nat.le_trans X.1 K.1, fun a c r => K.2.1 a c (X.2 a c r) fun z => absurd (Array.getElem?_eq_some_iff.mp r).1 (Nat.not_lt.mpr (q a z))⟩
theorem ext_wr {h0 h h' : Heap} {a : Addr} {sl : Nat} {v : Value} (X : Ext h0 h) (W : Wr h h' a sl v) (q : h0.size ≤ a) : Ext h0 h' := ext_keep X (Keep.of_wr W) (allS q all0)
theorem exa_ns {Z : State} {h : Heap} {a : Addr} {C : String} (E : Exa Z h a C) : ∀ c : Cell, h[a]? = some c → c.vm.isStatics = false := fun c q => by
  obtain ⟨cell, k, h1, -, -, h4, -⟩ := E
  cases h1.symm.trans q
  exact h4
theorem sta_keep {Z : State} {h h' : Heap} {C n d : String} {w : Value} {ws : List Addr} (F : Sta Z h C n d w) (K : Keep h h' ws) (q : ∀ x ∈ ws, ∀ c : Cell, h[x]? = some c → c.vm.isStatics = false) : Sta Z h' C n d w := by
  obtain ⟨cf, i, k, f, st, cell, h1, h2, h3, h4, h5, h6, h7⟩ := F
  exact ⟨cf, i, k, f, st, cell, h1, h2, h3, h4, K.2.1 st cell h5 (fun m => by have r := q st m cell h5; rw [h6] at r; cases r), h6, h7⟩
theorem eqI {args : Array Value} {first s : State} {o : Option Outcome} {idx : List Nat} {a b : Term} {k : Int32} (h : (Cond.eq a b).value args first o s idx = some true) (hb : b.eval args first o idx s = some (.int k)) : a.eval args first o idx s = some (.int k) := by
  obtain ⟨x, z, e1, e2, k1, k2⟩ := cmp_v (Or.inl h)
  cases hb.symm.trans e2
  obtain ⟨w, rfl⟩ := k2
  have h' := h
  simp only [Cond.value, e1, hb, Option.some.injEq, decide_eq_true_eq] at h'
  rw [e1, h']
theorem eqJ {args : Array Value} {first s : State} {o : Option Outcome} {idx : List Nat} {a b : Term} {k : Int64} (h : (Cond.eq a b).value args first o s idx = some true) (hb : b.eval args first o idx s = some (.long k)) : a.eval args first o idx s = some (.long k) := by
  obtain ⟨x, z, e1, e2, k1, k2⟩ := cmp_v (Or.inl h)
  cases hb.symm.trans e2
  obtain ⟨w, rfl⟩ := k2
  have h' := h
  simp only [Cond.value, e1, hb, Option.some.injEq, decide_eq_true_eq] at h'
  rw [e1, h']
theorem arrClass {Z : State} {a0 : Array Value} {C : String} (w : (Cond.arrayOver (.object C)).before a0 Z = true) : (Cond.arrayClass (.object C)).before a0 Z = true := by
  obtain ⟨comp, c, k, -, -, h3, h4, h5⟩ := Cond.arrayOver_spec w
  simp [Cond.before, Cond.holds, Cond.value, h5, h3, h4]
theorem ovrOf {Z : State} {a0 : Array Value} {C : String} {cI : ClassId} (w : (Cond.arrayOver (.object C)).before a0 Z = true) (h : Z.vm.findClass (FieldType.array (.object C)).toString = some cI) : Ovr Z cI C := by
  obtain ⟨comp, c, k, h1, -, h3, h4, h5⟩ := Cond.arrayOver_spec w
  have e : (FieldType.array (.object C)).toString = "[" ++ (FieldType.object C).toString := rfl
  rw [e, h5] at h
  cases h
  exact ⟨k, comp, h3, h4, h1⟩
section Laws
variable {l : Launch} {Z : State} {R : Room} {y : MethodName} {bs : ByteArray} {ml : Nat} {ret : Option FieldType} {n0 : Nat} {Q : Option Value → Heap → Prop} {h : Heap} {k n : Nat} {k' n' : Nat} {pc pc' : Nat} {L L' : Array Slot} {St : List Value} {a0 : Array Value}
theorem Con.of {as' : Array Value} (pn : plainFor y = true) (ef : ∀ m, entryFrame m as' ml = mkF m 0 L []) (b : Go l Z R y bs ml ret n0 Q h 0 0 0 L []) : Con l Z R y bs ml ret n0 as' h Q := by
  intro ws
  refine MetFree.of_bodySF pn hisR ?_
  intro p e s m args below meth c s₁ Bd hml0 hP hK
  obtain ⟨rfl, hZ, hh⟩ := hP
  have X0 : Stand p l e R s m args below meth c s₁ [] 0 0 := Stand.of_body Bd
  have e0 : s₁.heap = h := by rw [← hh, Bd.state]; rfl
  have q := b p e s m args below meth c s₁ [] ⟨Bd.exec, Bd.bytes, hml0, findClass_of_methodNamed Bd.named, (name_of_methodNamed Bd.named Bd.method).1, Bd.returns, Bd.notSynchronized, hZ⟩ X0 (Fr.nil n0) e0
  rw [← ef m] at q
  exact q
theorem Con.mono {as' : Array Value} {Q' : Option Value → Heap → Prop} (q : Con l Z R y bs ml ret n0 as' h Q) (i : ∀ v h', Q v h' → Q' v h') : Con l Z R y bs ml ret n0 as' h Q' := by
  intro ws p e ha hc hk s m args below hf happ hP hK
  obtain ⟨s₂, o, h1, h2, h3, v, Ls, h4, ⟨h5, h6⟩, h7⟩ := q ws p e ha hc hk s m args below hf happ hP hK
  exact ⟨s₂, o, h1, h2, h3, v, Ls, h4, ⟨i _ _ h5, h6⟩, h7⟩
/-- the same, the heap's name turned -/
theorem Go.cast {h' : Heap} (e : h' = h) (q : Go l Z R y bs ml ret n0 Q h' k n pc L St) : Go l Z R y bs ml ret n0 Q h k n pc L St := e ▸ q
theorem Go.more {k' n' : Nat} (hk : k ≤ k') (hn : n ≤ n') (q : Go l Z R y bs ml ret n0 Q h k' n' pc L St) : Go l Z R y bs ml ret n0 Q h k n pc L St := fun p e s m args below meth c T locs C X N eT => q p e s m args below meth c T locs C (X.mono hk hn) N eT
theorem Go.frm {St' : List Value} (q : Go l Z R y bs ml ret n0 Q h k n pc L' St') (e1 : L = L') (e2 : St = St') : Go l Z R y bs ml ret n0 Q h k n pc L St := by subst e1 e2; exact q

theorem iload {i : Nat} {v : Int32} (hd : decode bs pc = .ok (.iload i, 2)) (hl : L[i]? = some (.val (.int v))) (hp : pc + 2 = pc') (kt : Go l Z R y bs ml ret n0 Q h k n pc' L (.int v :: St)) : Go l Z R y bs ml ret n0 Q h k n pc L St := by
  subst hp
  intro p e s m args below meth c T locs C X N eT
  exact (kt p e s m args below meth c T locs C X N eT).thru fun t q => XS.iload X.here C.1 rfl (hb C.2.1 hd) hl q
theorem iloadN {i : Fin 4} {v : Int32} (hd : decode bs pc = .ok (.iload_n i, 1)) (hl : L[i.val]? = some (.val (.int v))) (hp : pc + 1 = pc') (kt : Go l Z R y bs ml ret n0 Q h k n pc' L (.int v :: St)) : Go l Z R y bs ml ret n0 Q h k n pc L St := by
  subst hp
  intro p e s m args below meth c T locs C X N eT
  exact (kt p e s m args below meth c T locs C X N eT).thru fun t q => XS.iloadN X.here C.1 rfl (hb C.2.1 hd) hl q
theorem istore {i : Nat} {v : Int32} (hd : decode bs pc = .ok (.istore i, 2)) (hl : storeLocals L i (.int v) = some L') (hp : pc + 2 = pc') (kt : Go l Z R y bs ml ret n0 Q h k n pc' L' St) : Go l Z R y bs ml ret n0 Q h k n pc L (.int v :: St) := by
  subst hp
  intro p e s m args below meth c T locs C X N eT
  exact (kt p e s m args below meth c T locs C X N eT).thru fun t q => XS.istore X.here C.1 rfl (hb C.2.1 hd) rfl hl q
theorem istoreN {i : Fin 4} {v : Int32} (hd : decode bs pc = .ok (.istore_n i, 1)) (hl : storeLocals L i.val (.int v) = some L') (hp : pc + 1 = pc') (kt : Go l Z R y bs ml ret n0 Q h k n pc' L' St) : Go l Z R y bs ml ret n0 Q h k n pc L (.int v :: St) := by
  subst hp
  intro p e s m args below meth c T locs C X N eT
  exact (kt p e s m args below meth c T locs C X N eT).thru fun t q => XS.istoreN X.here C.1 rfl (hb C.2.1 hd) rfl hl q
theorem lload {i : Nat} {v : Int64} (hd : decode bs pc = .ok (.lload i, 2)) (hl : L[i]? = some (.val (.long v))) (hp : pc + 2 = pc') (kt : Go l Z R y bs ml ret n0 Q h k n pc' L (.long v :: St)) : Go l Z R y bs ml ret n0 Q h k n pc L St := by
  subst hp
  intro p e s m args below meth c T locs C X N eT
  exact (kt p e s m args below meth c T locs C X N eT).thru fun t q => XS.lload X.here C.1 rfl (hb C.2.1 hd) hl q
theorem lloadN {i : Fin 4} {v : Int64} (hd : decode bs pc = .ok (.lload_n i, 1)) (hl : L[i.val]? = some (.val (.long v))) (hp : pc + 1 = pc') (kt : Go l Z R y bs ml ret n0 Q h k n pc' L (.long v :: St)) : Go l Z R y bs ml ret n0 Q h k n pc L St := by
  subst hp
  intro p e s m args below meth c T locs C X N eT
  exact (kt p e s m args below meth c T locs C X N eT).thru fun t q => XS.lloadN X.here C.1 rfl (hb C.2.1 hd) hl q
theorem lstore {i : Nat} {v : Int64} (hd : decode bs pc = .ok (.lstore i, 2)) (hl : storeLocals L i (.long v) = some L') (hp : pc + 2 = pc') (kt : Go l Z R y bs ml ret n0 Q h k n pc' L' St) : Go l Z R y bs ml ret n0 Q h k n pc L (.long v :: St) := by
  subst hp
  intro p e s m args below meth c T locs C X N eT
  exact (kt p e s m args below meth c T locs C X N eT).thru fun t q => XS.lstore X.here C.1 rfl (hb C.2.1 hd) rfl hl q
theorem lstoreN {i : Fin 4} {v : Int64} (hd : decode bs pc = .ok (.lstore_n i, 1)) (hl : storeLocals L i.val (.long v) = some L') (hp : pc + 1 = pc') (kt : Go l Z R y bs ml ret n0 Q h k n pc' L' St) : Go l Z R y bs ml ret n0 Q h k n pc L (.long v :: St) := by
  subst hp
  intro p e s m args below meth c T locs C X N eT
  exact (kt p e s m args below meth c T locs C X N eT).thru fun t q => XS.lstoreN X.here C.1 rfl (hb C.2.1 hd) rfl hl q
theorem aload {i : Nat} {v : Value} (hd : decode bs pc = .ok (.aload i, 2)) (hl : L[i]? = some (.val v)) (hv : v.isRef = true) (hp : pc + 2 = pc') (kt : Go l Z R y bs ml ret n0 Q h k n pc' L (v :: St)) : Go l Z R y bs ml ret n0 Q h k n pc L St := by
  subst hp
  intro p e s m args below meth c T locs C X N eT
  exact (kt p e s m args below meth c T locs C X N eT).thru fun t q => XS.aload X.here C.1 rfl (hb C.2.1 hd) hl hv q
theorem aloadN {i : Fin 4} {v : Value} (hd : decode bs pc = .ok (.aload_n i, 1)) (hl : L[i.val]? = some (.val v)) (hv : v.isRef = true) (hp : pc + 1 = pc') (kt : Go l Z R y bs ml ret n0 Q h k n pc' L (v :: St)) : Go l Z R y bs ml ret n0 Q h k n pc L St := by
  subst hp
  intro p e s m args below meth c T locs C X N eT
  exact (kt p e s m args below meth c T locs C X N eT).thru fun t q => XS.aloadN X.here C.1 rfl (hb C.2.1 hd) hl hv q
theorem astore {i : Nat} {v : Value} (hd : decode bs pc = .ok (.astore i, 2)) (hv : v.isRef = true) (hl : storeLocals L i v = some L') (hp : pc + 2 = pc') (kt : Go l Z R y bs ml ret n0 Q h k n pc' L' St) : Go l Z R y bs ml ret n0 Q h k n pc L (v :: St) := by
  subst hp
  intro p e s m args below meth c T locs C X N eT
  exact (kt p e s m args below meth c T locs C X N eT).thru fun t q => XS.astore X.here C.1 rfl (hb C.2.1 hd) rfl hv hl q
theorem astoreN {i : Fin 4} {v : Value} (hd : decode bs pc = .ok (.astore_n i, 1)) (hv : v.isRef = true) (hl : storeLocals L i.val v = some L') (hp : pc + 1 = pc') (kt : Go l Z R y bs ml ret n0 Q h k n pc' L' St) : Go l Z R y bs ml ret n0 Q h k n pc L (v :: St) := by
  subst hp
  intro p e s m args below meth c T locs C X N eT
  exact (kt p e s m args below meth c T locs C X N eT).thru fun t q => XS.astoreN X.here C.1 rfl (hb C.2.1 hd) rfl hv hl q
theorem iconst {i : Int} {v : Int32} (hd : decode bs pc = .ok (.iconst i, 1)) (hv : Int32.ofInt i = v) (hp : pc + 1 = pc') (kt : Go l Z R y bs ml ret n0 Q h k n pc' L (.int v :: St)) : Go l Z R y bs ml ret n0 Q h k n pc L St := by
  subst hp hv
  intro p e s m args below meth c T locs C X N eT
  exact (kt p e s m args below meth c T locs C X N eT).thru fun t q => XS.iconst X.here C.1 rfl (hb C.2.1 hd) q
theorem bipush {i : Int} {v : Int32} (hd : decode bs pc = .ok (.bipush i, 2)) (hv : (Int8.ofInt i).toInt32 = v) (hp : pc + 2 = pc') (kt : Go l Z R y bs ml ret n0 Q h k n pc' L (.int v :: St)) : Go l Z R y bs ml ret n0 Q h k n pc L St := by
  subst hp hv
  intro p e s m args below meth c T locs C X N eT
  exact (kt p e s m args below meth c T locs C X N eT).thru fun t q => XS.bipush X.here C.1 rfl (hb C.2.1 hd) q
theorem sipush {i : Int} {v : Int32} (hd : decode bs pc = .ok (.sipush i, 3)) (hv : (Int16.ofInt i).toInt32 = v) (hp : pc + 3 = pc') (kt : Go l Z R y bs ml ret n0 Q h k n pc' L (.int v :: St)) : Go l Z R y bs ml ret n0 Q h k n pc L St := by
  subst hp hv
  intro p e s m args below meth c T locs C X N eT
  exact (kt p e s m args below meth c T locs C X N eT).thru fun t q => XS.sipush X.here C.1 rfl (hb C.2.1 hd) q
theorem aconstNull  (hd : decode bs pc = .ok (.aconst_null, 1)) (hp : pc + 1 = pc') (kt : Go l Z R y bs ml ret n0 Q h k n pc' L (.null :: St)) : Go l Z R y bs ml ret n0 Q h k n pc L St := by
  subst hp
  intro p e s m args below meth c T locs C X N eT
  exact (kt p e s m args below meth c T locs C X N eT).thru fun t q => XS.aconstNull X.here C.1 rfl (hb C.2.1 hd) q
theorem iadd {x z : Int32} (hd : decode bs pc = .ok (.iadd, 1)) (hp : pc + 1 = pc') (kt : Go l Z R y bs ml ret n0 Q h k n pc' L (.int (x + z) :: St)) : Go l Z R y bs ml ret n0 Q h k n pc L (.int z :: .int x :: St) := by
  subst hp
  intro p e s m args below meth c T locs C X N eT
  exact (kt p e s m args below meth c T locs C X N eT).thru fun t q => XS.iadd X.here C.1 rfl (hb C.2.1 hd) rfl q
theorem isub {x z : Int32} (hd : decode bs pc = .ok (.isub, 1)) (hp : pc + 1 = pc') (kt : Go l Z R y bs ml ret n0 Q h k n pc' L (.int (x - z) :: St)) : Go l Z R y bs ml ret n0 Q h k n pc L (.int z :: .int x :: St) := by
  subst hp
  intro p e s m args below meth c T locs C X N eT
  exact (kt p e s m args below meth c T locs C X N eT).thru fun t q => XS.isub X.here C.1 rfl (hb C.2.1 hd) rfl q
theorem imul {x z : Int32} (hd : decode bs pc = .ok (.imul, 1)) (hp : pc + 1 = pc') (kt : Go l Z R y bs ml ret n0 Q h k n pc' L (.int (x * z) :: St)) : Go l Z R y bs ml ret n0 Q h k n pc L (.int z :: .int x :: St) := by
  subst hp
  intro p e s m args below meth c T locs C X N eT
  exact (kt p e s m args below meth c T locs C X N eT).thru fun t q => XS.imul X.here C.1 rfl (hb C.2.1 hd) rfl q
theorem iand {x z : Int32} (hd : decode bs pc = .ok (.iand, 1)) (hp : pc + 1 = pc') (kt : Go l Z R y bs ml ret n0 Q h k n pc' L (.int (x &&& z) :: St)) : Go l Z R y bs ml ret n0 Q h k n pc L (.int z :: .int x :: St) := by
  subst hp
  intro p e s m args below meth c T locs C X N eT
  exact (kt p e s m args below meth c T locs C X N eT).thru fun t q => XS.iand X.here C.1 rfl (hb C.2.1 hd) rfl q
theorem ior {x z : Int32} (hd : decode bs pc = .ok (.ior, 1)) (hp : pc + 1 = pc') (kt : Go l Z R y bs ml ret n0 Q h k n pc' L (.int (x ||| z) :: St)) : Go l Z R y bs ml ret n0 Q h k n pc L (.int z :: .int x :: St) := by
  subst hp
  intro p e s m args below meth c T locs C X N eT
  exact (kt p e s m args below meth c T locs C X N eT).thru fun t q => XS.ior X.here C.1 rfl (hb C.2.1 hd) rfl q
theorem ixor {x z : Int32} (hd : decode bs pc = .ok (.ixor, 1)) (hp : pc + 1 = pc') (kt : Go l Z R y bs ml ret n0 Q h k n pc' L (.int (x ^^^ z) :: St)) : Go l Z R y bs ml ret n0 Q h k n pc L (.int z :: .int x :: St) := by
  subst hp
  intro p e s m args below meth c T locs C X N eT
  exact (kt p e s m args below meth c T locs C X N eT).thru fun t q => XS.ixor X.here C.1 rfl (hb C.2.1 hd) rfl q
theorem ishl {x z : Int32} (hd : decode bs pc = .ok (.ishl, 1)) (hp : pc + 1 = pc') (kt : Go l Z R y bs ml ret n0 Q h k n pc' L (.int (x <<< (z &&& 31)) :: St)) : Go l Z R y bs ml ret n0 Q h k n pc L (.int z :: .int x :: St) := by
  subst hp
  intro p e s m args below meth c T locs C X N eT
  exact (kt p e s m args below meth c T locs C X N eT).thru fun t q => XS.ishl X.here C.1 rfl (hb C.2.1 hd) rfl q
theorem ishr {x z : Int32} (hd : decode bs pc = .ok (.ishr, 1)) (hp : pc + 1 = pc') (kt : Go l Z R y bs ml ret n0 Q h k n pc' L (.int (x >>> (z &&& 31)) :: St)) : Go l Z R y bs ml ret n0 Q h k n pc L (.int z :: .int x :: St) := by
  subst hp
  intro p e s m args below meth c T locs C X N eT
  exact (kt p e s m args below meth c T locs C X N eT).thru fun t q => XS.ishr X.here C.1 rfl (hb C.2.1 hd) rfl q
theorem iushr {x z : Int32} (hd : decode bs pc = .ok (.iushr, 1)) (hp : pc + 1 = pc') (kt : Go l Z R y bs ml ret n0 Q h k n pc' L (.int ((x.toUInt32 >>> (z &&& 31).toUInt32).toInt32) :: St)) : Go l Z R y bs ml ret n0 Q h k n pc L (.int z :: .int x :: St) := by
  subst hp
  intro p e s m args below meth c T locs C X N eT
  exact (kt p e s m args below meth c T locs C X N eT).thru fun t q => XS.iushr X.here C.1 rfl (hb C.2.1 hd) rfl q
theorem ladd {x z : Int64} (hd : decode bs pc = .ok (.ladd, 1)) (hp : pc + 1 = pc') (kt : Go l Z R y bs ml ret n0 Q h k n pc' L (.long (x + z) :: St)) : Go l Z R y bs ml ret n0 Q h k n pc L (.long z :: .long x :: St) := by
  subst hp
  intro p e s m args below meth c T locs C X N eT
  exact (kt p e s m args below meth c T locs C X N eT).thru fun t q => XS.ladd X.here C.1 rfl (hb C.2.1 hd) rfl q
theorem lsub {x z : Int64} (hd : decode bs pc = .ok (.lsub, 1)) (hp : pc + 1 = pc') (kt : Go l Z R y bs ml ret n0 Q h k n pc' L (.long (x - z) :: St)) : Go l Z R y bs ml ret n0 Q h k n pc L (.long z :: .long x :: St) := by
  subst hp
  intro p e s m args below meth c T locs C X N eT
  exact (kt p e s m args below meth c T locs C X N eT).thru fun t q => XS.lsub X.here C.1 rfl (hb C.2.1 hd) rfl q
theorem lmul {x z : Int64} (hd : decode bs pc = .ok (.lmul, 1)) (hp : pc + 1 = pc') (kt : Go l Z R y bs ml ret n0 Q h k n pc' L (.long (x * z) :: St)) : Go l Z R y bs ml ret n0 Q h k n pc L (.long z :: .long x :: St) := by
  subst hp
  intro p e s m args below meth c T locs C X N eT
  exact (kt p e s m args below meth c T locs C X N eT).thru fun t q => XS.lmul X.here C.1 rfl (hb C.2.1 hd) rfl q
theorem land {x z : Int64} (hd : decode bs pc = .ok (.land, 1)) (hp : pc + 1 = pc') (kt : Go l Z R y bs ml ret n0 Q h k n pc' L (.long (x &&& z) :: St)) : Go l Z R y bs ml ret n0 Q h k n pc L (.long z :: .long x :: St) := by
  subst hp
  intro p e s m args below meth c T locs C X N eT
  exact (kt p e s m args below meth c T locs C X N eT).thru fun t q => XS.land X.here C.1 rfl (hb C.2.1 hd) rfl q
theorem lor {x z : Int64} (hd : decode bs pc = .ok (.lor, 1)) (hp : pc + 1 = pc') (kt : Go l Z R y bs ml ret n0 Q h k n pc' L (.long (x ||| z) :: St)) : Go l Z R y bs ml ret n0 Q h k n pc L (.long z :: .long x :: St) := by
  subst hp
  intro p e s m args below meth c T locs C X N eT
  exact (kt p e s m args below meth c T locs C X N eT).thru fun t q => XS.lor X.here C.1 rfl (hb C.2.1 hd) rfl q
theorem lxor {x z : Int64} (hd : decode bs pc = .ok (.lxor, 1)) (hp : pc + 1 = pc') (kt : Go l Z R y bs ml ret n0 Q h k n pc' L (.long (x ^^^ z) :: St)) : Go l Z R y bs ml ret n0 Q h k n pc L (.long z :: .long x :: St) := by
  subst hp
  intro p e s m args below meth c T locs C X N eT
  exact (kt p e s m args below meth c T locs C X N eT).thru fun t q => XS.lxor X.here C.1 rfl (hb C.2.1 hd) rfl q
theorem lshl {x : Int64} {z : Int32} (hd : decode bs pc = .ok (.lshl, 1)) (hp : pc + 1 = pc') (kt : Go l Z R y bs ml ret n0 Q h k n pc' L (.long (x <<< (z &&& 0x3f).toInt64) :: St)) : Go l Z R y bs ml ret n0 Q h k n pc L (.int z :: .long x :: St) := by
  subst hp
  intro p e s m args below meth c T locs C X N eT
  exact (kt p e s m args below meth c T locs C X N eT).thru fun t q => XS.lshl X.here C.1 rfl (hb C.2.1 hd) rfl q
theorem lshr {x : Int64} {z : Int32} (hd : decode bs pc = .ok (.lshr, 1)) (hp : pc + 1 = pc') (kt : Go l Z R y bs ml ret n0 Q h k n pc' L (.long (x >>> (z &&& 0x3f).toInt64) :: St)) : Go l Z R y bs ml ret n0 Q h k n pc L (.int z :: .long x :: St) := by
  subst hp
  intro p e s m args below meth c T locs C X N eT
  exact (kt p e s m args below meth c T locs C X N eT).thru fun t q => XS.lshr X.here C.1 rfl (hb C.2.1 hd) rfl q
theorem lushr {x : Int64} {z : Int32} (hd : decode bs pc = .ok (.lushr, 1)) (hp : pc + 1 = pc') (kt : Go l Z R y bs ml ret n0 Q h k n pc' L (.long ((x.toUInt64 >>> (z &&& 0x3f).toInt64.toUInt64).toInt64) :: St)) : Go l Z R y bs ml ret n0 Q h k n pc L (.int z :: .long x :: St) := by
  subst hp
  intro p e s m args below meth c T locs C X N eT
  exact (kt p e s m args below meth c T locs C X N eT).thru fun t q => XS.lushr X.here C.1 rfl (hb C.2.1 hd) rfl q
theorem ineg {x : Int32} (hd : decode bs pc = .ok (.ineg, 1)) (hp : pc + 1 = pc') (kt : Go l Z R y bs ml ret n0 Q h k n pc' L (.int (-x) :: St)) : Go l Z R y bs ml ret n0 Q h k n pc L (.int x :: St) := by
  subst hp
  intro p e s m args below meth c T locs C X N eT
  exact (kt p e s m args below meth c T locs C X N eT).thru fun t q => XS.ineg X.here C.1 rfl (hb C.2.1 hd) rfl q
theorem lneg {x : Int64} (hd : decode bs pc = .ok (.lneg, 1)) (hp : pc + 1 = pc') (kt : Go l Z R y bs ml ret n0 Q h k n pc' L (.long (-x) :: St)) : Go l Z R y bs ml ret n0 Q h k n pc L (.long x :: St) := by
  subst hp
  intro p e s m args below meth c T locs C X N eT
  exact (kt p e s m args below meth c T locs C X N eT).thru fun t q => XS.lneg X.here C.1 rfl (hb C.2.1 hd) rfl q
theorem i2l {x : Int32} (hd : decode bs pc = .ok (.i2l, 1)) (hp : pc + 1 = pc') (kt : Go l Z R y bs ml ret n0 Q h k n pc' L (.long (x.toInt64) :: St)) : Go l Z R y bs ml ret n0 Q h k n pc L (.int x :: St) := by
  subst hp
  intro p e s m args below meth c T locs C X N eT
  exact (kt p e s m args below meth c T locs C X N eT).thru fun t q => XS.i2l X.here C.1 rfl (hb C.2.1 hd) rfl q
theorem l2i {x : Int64} (hd : decode bs pc = .ok (.l2i, 1)) (hp : pc + 1 = pc') (kt : Go l Z R y bs ml ret n0 Q h k n pc' L (.int (x.toInt32) :: St)) : Go l Z R y bs ml ret n0 Q h k n pc L (.long x :: St) := by
  subst hp
  intro p e s m args below meth c T locs C X N eT
  exact (kt p e s m args below meth c T locs C X N eT).thru fun t q => XS.l2i X.here C.1 rfl (hb C.2.1 hd) rfl q
theorem i2b {x : Int32} (hd : decode bs pc = .ok (.i2b, 1)) (hp : pc + 1 = pc') (kt : Go l Z R y bs ml ret n0 Q h k n pc' L (.int (x.toInt8.toInt32) :: St)) : Go l Z R y bs ml ret n0 Q h k n pc L (.int x :: St) := by
  subst hp
  intro p e s m args below meth c T locs C X N eT
  exact (kt p e s m args below meth c T locs C X N eT).thru fun t q => XS.i2b X.here C.1 rfl (hb C.2.1 hd) rfl q
theorem i2s {x : Int32} (hd : decode bs pc = .ok (.i2s, 1)) (hp : pc + 1 = pc') (kt : Go l Z R y bs ml ret n0 Q h k n pc' L (.int (x.toInt16.toInt32) :: St)) : Go l Z R y bs ml ret n0 Q h k n pc L (.int x :: St) := by
  subst hp
  intro p e s m args below meth c T locs C X N eT
  exact (kt p e s m args below meth c T locs C X N eT).thru fun t q => XS.i2s X.here C.1 rfl (hb C.2.1 hd) rfl q
theorem i2c {x : Int32} (hd : decode bs pc = .ok (.i2c, 1)) (hp : pc + 1 = pc') (kt : Go l Z R y bs ml ret n0 Q h k n pc' L (.int (x.toUInt32.toUInt16.toUInt32.toInt32) :: St)) : Go l Z R y bs ml ret n0 Q h k n pc L (.int x :: St) := by
  subst hp
  intro p e s m args below meth c T locs C X N eT
  exact (kt p e s m args below meth c T locs C X N eT).thru fun t q => XS.i2c X.here C.1 rfl (hb C.2.1 hd) rfl q
theorem lcmp {x z : Int64} (hd : decode bs pc = .ok (.lcmp, 1)) (hp : pc + 1 = pc') (kt : Go l Z R y bs ml ret n0 Q h k n pc' L (.int (lcmpW x z) :: St)) : Go l Z R y bs ml ret n0 Q h k n pc L (.long z :: .long x :: St) := by
  subst hp
  intro p e s m args below meth c T locs C X N eT
  exact (kt p e s m args below meth c T locs C X N eT).thru fun t q => XS.lcmp X.here C.1 rfl (hb C.2.1 hd) rfl q
theorem idiv {x z : Int32} (hd : decode bs pc = .ok (.idiv, 1)) (hz : z ≠ 0) (hp : pc + 1 = pc') (kt : Go l Z R y bs ml ret n0 Q h k n pc' L (.int (x / z) :: St)) : Go l Z R y bs ml ret n0 Q h k n pc L (.int z :: .int x :: St) := by
  subst hp
  intro p e s m args below meth c T locs C X N eT
  exact (kt p e s m args below meth c T locs C X N eT).thru fun t q => XS.idiv X.here C.1 rfl (hb C.2.1 hd) rfl hz q
theorem irem {x z : Int32} (hd : decode bs pc = .ok (.irem, 1)) (hz : z ≠ 0) (hp : pc + 1 = pc') (kt : Go l Z R y bs ml ret n0 Q h k n pc' L (.int (x % z) :: St)) : Go l Z R y bs ml ret n0 Q h k n pc L (.int z :: .int x :: St) := by
  subst hp
  intro p e s m args below meth c T locs C X N eT
  exact (kt p e s m args below meth c T locs C X N eT).thru fun t q => iremM X C.1 rfl (hb C.2.1 hd) rfl hz q
theorem lrem {x z : Int64} (hd : decode bs pc = .ok (.lrem, 1)) (hz : z ≠ 0) (hp : pc + 1 = pc') (kt : Go l Z R y bs ml ret n0 Q h k n pc' L (.long (x % z) :: St)) : Go l Z R y bs ml ret n0 Q h k n pc L (.long z :: .long x :: St) := by
  subst hp
  rw [← lrem_mod] at kt
  intro p e s m args below meth c T locs C X N eT
  exact (kt p e s m args below meth c T locs C X N eT).thru fun t q => XS.lrem X.here C.1 rfl (hb C.2.1 hd) rfl hz q
theorem ldiv {x z : Int64} (hd : decode bs pc = .ok (.ldiv, 1)) (hz : z ≠ 0) (hp : pc + 1 = pc') (kt : Go l Z R y bs ml ret n0 Q h k n pc' L (.long (x / z) :: St)) : Go l Z R y bs ml ret n0 Q h k n pc L (.long z :: .long x :: St) := by
  subst hp
  intro p e s m args below meth c T locs C X N eT
  exact (kt p e s m args below meth c T locs C X N eT).thru fun t q => XS.ldiv X.here C.1 rfl (hb C.2.1 hd) rfl hz q
theorem dup {v : Value} (hd : decode bs pc = .ok (.dup, 1)) (hc : v.category = 1) (hp : pc + 1 = pc') (kt : Go l Z R y bs ml ret n0 Q h k n pc' L (v :: v :: St)) : Go l Z R y bs ml ret n0 Q h k n pc L (v :: St) := by
  subst hp
  intro p e s m args below meth c T locs C X N eT
  exact (kt p e s m args below meth c T locs C X N eT).thru fun t q => XS.dup X.here C.1 rfl (hb C.2.1 hd) rfl hc q
theorem pop {v : Value} (hd : decode bs pc = .ok (.pop, 1)) (hc : v.category = 1) (hp : pc + 1 = pc') (kt : Go l Z R y bs ml ret n0 Q h k n pc' L St) : Go l Z R y bs ml ret n0 Q h k n pc L (v :: St) := by
  subst hp
  intro p e s m args below meth c T locs C X N eT
  exact (kt p e s m args below meth c T locs C X N eT).thru fun t q => XS.pop X.here C.1 rfl (hb C.2.1 hd) rfl hc q
theorem dupX1 {v w : Value} (hd : decode bs pc = .ok (.dup_x1, 1)) (hc : v.category = 1) (hw : w.category = 1) (hp : pc + 1 = pc') (kt : Go l Z R y bs ml ret n0 Q h k n pc' L (v :: w :: v :: St)) : Go l Z R y bs ml ret n0 Q h k n pc L (v :: w :: St) := by
  subst hp
  intro p e s m args below meth c T locs C X N eT
  exact (kt p e s m args below meth c T locs C X N eT).thru fun t q => XS.dupX1 X.here C.1 rfl (hb C.2.1 hd) rfl hc hw q
theorem dup2 {v w : Value} (hd : decode bs pc = .ok (.dup2, 1)) (hc : v.category = 1) (hw : w.category = 1) (hp : pc + 1 = pc') (kt : Go l Z R y bs ml ret n0 Q h k n pc' L (v :: w :: v :: w :: St)) : Go l Z R y bs ml ret n0 Q h k n pc L (v :: w :: St) := by
  subst hp
  intro p e s m args below meth c T locs C X N eT
  exact (kt p e s m args below meth c T locs C X N eT).thru fun t q => XT.dup2 X.here C.1 rfl (hb C.2.1 hd) rfl hc hw q
theorem dup2L {x : Int64} (hd : decode bs pc = .ok (.dup2, 1)) (hp : pc + 1 = pc') (kt : Go l Z R y bs ml ret n0 Q h k n pc' L (.long x :: .long x :: St)) : Go l Z R y bs ml ret n0 Q h k n pc L (.long x :: St) := by
  subst hp
  intro p e s m args below meth c T locs C X N eT
  exact (kt p e s m args below meth c T locs C X N eT).thru fun t q => XT.dup2L X.here C.1 rfl (hb C.2.1 hd) rfl q
theorem lconst {i : Fin 2} {v : Int64} (hd : decode bs pc = .ok (.lconst i, 1)) (hv : Int64.ofNat i.val = v) (hp : pc + 1 = pc') (kt : Go l Z R y bs ml ret n0 Q h k n pc' L (.long v :: St)) : Go l Z R y bs ml ret n0 Q h k n pc L St := by
  subst hp hv
  intro p e s m args below meth c T locs C X N eT
  exact (kt p e s m args below meth c T locs C X N eT).thru fun t q => XS.lconst X.here C.1 rfl (hb C.2.1 hd) q
theorem iinc {i : Nat} {cst : Int} {x d : Int32} (hd : decode bs pc = .ok (.iinc i cst, 3)) (hl : L[i]? = some (.val (.int x))) (hv : Int32.ofInt cst = d) (hs : storeLocals L i (.int (x + d)) = some L') (hp : pc + 3 = pc') (kt : Go l Z R y bs ml ret n0 Q h k n pc' L' St) : Go l Z R y bs ml ret n0 Q h k n pc L St := by
  subst hp hv
  intro p e s m args below meth c T locs C X N eT
  exact (kt p e s m args below meth c T locs C X N eT).thru fun t q => XS.iinc X.here C.1 rfl (hb C.2.1 hd) hl hs q
theorem goto {o : Int} (hd : decode bs pc = .ok (.goto o, 3)) (ho : 0 ≤ (pc : Int) + o) (hp : ((pc : Int) + o).toNat = pc') (kt : Go l Z R y bs ml ret n0 Q h k n pc' L St) : Go l Z R y bs ml ret n0 Q h k n pc L St := by
  intro p e s m args below meth c T locs C X N eT
  exact (kt p e s m args below meth c T locs C X N eT).thru fun t q => XS.goto X.here C.1 rfl rfl (hb C.2.1 hd) ho hp q
theorem icmpY {cd : ClassFile.Cond} {o : Int} {x z : Int32} (hd : decode bs pc = .ok (.if_icmp cd o, 3)) (hc : if_icmp.holds cd x z = true) (ho : 0 ≤ (pc : Int) + o) (hp : ((pc : Int) + o).toNat = pc') (kt : Go l Z R y bs ml ret n0 Q h k n pc' L St) : Go l Z R y bs ml ret n0 Q h k n pc L (.int z :: .int x :: St) := by
  intro p e s m args below meth c T locs C X N eT
  exact (kt p e s m args below meth c T locs C X N eT).thru fun t q => XS.icmpYes X.here C.1 rfl rfl (hb C.2.1 hd) rfl hc ho hp q
theorem icmpN {cd : ClassFile.Cond} {o : Int} {x z : Int32} (hd : decode bs pc = .ok (.if_icmp cd o, 3)) (hc : if_icmp.holds cd x z = false) (hp : pc + 3 = pc') (kt : Go l Z R y bs ml ret n0 Q h k n pc' L St) : Go l Z R y bs ml ret n0 Q h k n pc L (.int z :: .int x :: St) := by
  subst hp
  intro p e s m args below meth c T locs C X N eT
  exact (kt p e s m args below meth c T locs C X N eT).thru fun t q => XS.icmpNo X.here C.1 rfl (hb C.2.1 hd) rfl hc q
theorem ifcY {cd : ClassFile.Cond} {o : Int} {x : Int32} (hd : decode bs pc = .ok (.ifCond cd o, 3)) (hc : ifCond.holds cd x = true) (ho : 0 ≤ (pc : Int) + o) (hp : ((pc : Int) + o).toNat = pc') (kt : Go l Z R y bs ml ret n0 Q h k n pc' L St) : Go l Z R y bs ml ret n0 Q h k n pc L (.int x :: St) := by
  intro p e s m args below meth c T locs C X N eT
  exact (kt p e s m args below meth c T locs C X N eT).thru fun t q => XS.ifYes X.here C.1 rfl rfl (hb C.2.1 hd) rfl hc ho hp q
theorem ifcN {cd : ClassFile.Cond} {o : Int} {x : Int32} (hd : decode bs pc = .ok (.ifCond cd o, 3)) (hc : ifCond.holds cd x = false) (hp : pc + 3 = pc') (kt : Go l Z R y bs ml ret n0 Q h k n pc' L St) : Go l Z R y bs ml ret n0 Q h k n pc L (.int x :: St) := by
  subst hp
  intro p e s m args below meth c T locs C X N eT
  exact (kt p e s m args below meth c T locs C X N eT).thru fun t q => XS.ifNo X.here C.1 rfl (hb C.2.1 hd) rfl hc q
theorem ifnullY {o : Int}  (hd : decode bs pc = .ok (.ifnull o, 3)) (ho : 0 ≤ (pc : Int) + o) (hp : ((pc : Int) + o).toNat = pc') (kt : Go l Z R y bs ml ret n0 Q h k n pc' L St) : Go l Z R y bs ml ret n0 Q h k n pc L (.null :: St) := by
  intro p e s m args below meth c T locs C X N eT
  exact (kt p e s m args below meth c T locs C X N eT).thru fun t q => XS.ifnullYes X.here C.1 rfl rfl (hb C.2.1 hd) rfl ho hp q
theorem ifnullN {o : Int} {b : Addr} (hd : decode bs pc = .ok (.ifnull o, 3)) (hp : pc + 3 = pc') (kt : Go l Z R y bs ml ret n0 Q h k n pc' L St) : Go l Z R y bs ml ret n0 Q h k n pc L (.ref b :: St) := by
  subst hp
  intro p e s m args below meth c T locs C X N eT
  exact (kt p e s m args below meth c T locs C X N eT).thru fun t q => XS.ifnullNo X.here C.1 rfl (hb C.2.1 hd) rfl q
theorem ifnonnullY {o : Int} {b : Addr} (hd : decode bs pc = .ok (.ifnonnull o, 3)) (ho : 0 ≤ (pc : Int) + o) (hp : ((pc : Int) + o).toNat = pc') (kt : Go l Z R y bs ml ret n0 Q h k n pc' L St) : Go l Z R y bs ml ret n0 Q h k n pc L (.ref b :: St) := by
  intro p e s m args below meth c T locs C X N eT
  exact (kt p e s m args below meth c T locs C X N eT).thru fun t q => XS.ifnonnullYes X.here C.1 rfl rfl (hb C.2.1 hd) rfl ho hp q
theorem ifnonnullN {o : Int}  (hd : decode bs pc = .ok (.ifnonnull o, 3)) (hp : pc + 3 = pc') (kt : Go l Z R y bs ml ret n0 Q h k n pc' L St) : Go l Z R y bs ml ret n0 Q h k n pc L (.null :: St) := by
  subst hp
  intro p e s m args below meth c T locs C X N eT
  exact (kt p e s m args below meth c T locs C X N eT).thru fun t q => XS.ifnonnullNo X.here C.1 rfl (hb C.2.1 hd) rfl q
theorem acmp {cd : ACond} {o : Int} {x z : Value} {same : Bool} (hd : decode bs pc = .ok (.if_acmp cd o, 3)) (h1 : x.isRef = true) (h2 : z.isRef = true) (hq : decide (x = z) = same) (ho : 0 ≤ (pc : Int) + o) (hp : pc' = if acV cd same = true then ((pc : Int) + o).toNat else pc + 3) (kt : Go l Z R y bs ml ret n0 Q h k n pc' L St) : Go l Z R y bs ml ret n0 Q h k n pc L (z :: x :: St) := by
  intro p e s m args below meth c T locs C X N eT
  exact (kt p e s m args below meth c T locs C X N eT).thru fun t q => Jvm.RoadKit.acmp (g := mkF m pc L (z :: x :: St)) X C.1 rfl h1 h2 rfl (hb C.2.1 hd) rfl hq ho hp q
theorem pop2J {x : Int64} (hd : decode bs pc = .ok (.pop2, 1)) (hp : pc + 1 = pc') (kt : Go l Z R y bs ml ret n0 Q h k n pc' L St) : Go l Z R y bs ml ret n0 Q h k n pc L (.long x :: St) := by
  subst hp
  intro p e s m args below meth c T locs C X N eT
  have hx := C.1
  have hd' := hb C.2.1 hd
  refine (kt p e s m args below meth c T locs C X N eT).thru fun t q => ?_
  show Steps p.tables e below (T.setTop { method := m, pc := pc, locals := L, stack := .long x :: St, locked := none }) t
  jvm_step X.here [X.here.top, hx, hd', Value.category]
  exact q
theorem tswIn {dflt low high : Int} {offs : Array Int} {len : Nat} {o : Int} {i : Int32} (hd : decode bs pc = .ok (.tableswitch dflt low high offs, len)) (hin : ¬ (i.toInt < low ∨ i.toInt > high)) (hoff : offs[(i.toInt - low).toNat]? = some o) (ho : 0 ≤ (pc : Int) + o) (hp : ((pc : Int) + o).toNat = pc') (kt : Go l Z R y bs ml ret n0 Q h k n pc' L St) : Go l Z R y bs ml ret n0 Q h k n pc L (.int i :: St) := by
  intro p e s m args below meth c T locs C X N eT
  exact (kt p e s m args below meth c T locs C X N eT).thru fun t q => XS.tswIn X.here C.1 rfl rfl (hb C.2.1 hd) rfl hin hoff ho hp q
theorem tswOut {dflt low high : Int} {offs : Array Int} {len : Nat} {i : Int32} (hd : decode bs pc = .ok (.tableswitch dflt low high offs, len)) (hout : i.toInt < low ∨ i.toInt > high) (ho : 0 ≤ (pc : Int) + dflt) (hp : ((pc : Int) + dflt).toNat = pc') (kt : Go l Z R y bs ml ret n0 Q h k n pc' L St) : Go l Z R y bs ml ret n0 Q h k n pc L (.int i :: St) := by
  intro p e s m args below meth c T locs C X N eT
  exact (kt p e s m args below meth c T locs C X N eT).thru fun t q => XS.tswOut X.here C.1 rfl rfl (hb C.2.1 hd) rfl hout ho hp q
theorem ret0 (hd : decode bs pc = .ok (.return_, 1)) (hr : ret = none) (hk : k ≤ R.cells) (hn : n ≤ R.slots) (hQ : Q none h) : Go l Z R y bs ml ret n0 Q h k n pc L [] := by
  intro p e s m args below meth c T locs C X N eT
  have hret := C.2.2.2.2.2.1.trans hr
  obtain ⟨fs, hl, hrun, hended, hW, hsame⟩ := X.leave (v := none) (fun _ => rfl) C.2.2.2.2.2.2.1
  exact ⟨_, _, X.returnOut C.1 hret (hb C.2.1 hd) hl, hrun, hended, _, _, rfl, ⟨by show Q none T.heap; rw [eT]; exact hQ, N⟩, ⟨_, rfl⟩, hW, hsame.mono hk hn⟩
theorem retN {t : FieldType} {x x' : Int32} (hd : decode bs pc = .ok (.ireturn, 1)) (hr : ret = some t) (ht : t = .boolean ∨ t = .byte ∨ t = .char ∨ t = .short) (hx : nar t x = x') (hk : k ≤ R.cells) (hn : n ≤ R.slots) (hQ : Q (some (.int x')) h) : Go l Z R y bs ml ret n0 Q h k n pc L (.int x :: St) := by
  intro p e s m args below meth c T locs C X N eT
  have hret := C.2.2.2.2.2.1.trans hr
  subst hx
  obtain ⟨fs, hl, hrun, hended, hW, hsame⟩ := X.leave (v := some (.int (nar t x))) (fun q => by rw [hret] at q; cases q) C.2.2.2.2.2.2.1
  exact ⟨_, _, Jvm.RoadKit.retN X C.1 hret ht (hb C.2.1 hd) hl, hrun, hended, _, _, rfl, ⟨by show Q _ T.heap; rw [eT]; exact hQ, N⟩, ⟨_, rfl⟩, hW, hsame.mono hk hn⟩
theorem retI {x : Int32} (hd : decode bs pc = .ok (.ireturn, 1)) (hr : ret = some .int) (hk : k ≤ R.cells) (hn : n ≤ R.slots) (hQ : Q (some (.int x)) h) : Go l Z R y bs ml ret n0 Q h k n pc L (.int x :: St) := by
  intro p e s m args below meth c T locs C X N eT
  have hret := C.2.2.2.2.2.1.trans hr
  obtain ⟨fs, hl, hrun, hended, hW, hsame⟩ := X.leave (v := some (.int x)) (fun q => by rw [hret] at q; cases q) C.2.2.2.2.2.2.1
  exact ⟨_, _, Jvm.RoadKit.retOut X C.1 hret rfl (Or.inl ⟨rfl, Or.inl rfl, _, rfl⟩) (hb C.2.1 hd) hl, hrun, hended, _, _, rfl, ⟨by show Q _ T.heap; rw [eT]; exact hQ, N⟩, ⟨_, rfl⟩, hW, hsame.mono hk hn⟩
theorem retJ {x : Int64} (hd : decode bs pc = .ok (.lreturn, 1)) (hr : ret = some .long) (hk : k ≤ R.cells) (hn : n ≤ R.slots) (hQ : Q (some (.long x)) h) : Go l Z R y bs ml ret n0 Q h k n pc L (.long x :: St) := by
  intro p e s m args below meth c T locs C X N eT
  have hret := C.2.2.2.2.2.1.trans hr
  obtain ⟨fs, hl, hrun, hended, hW, hsame⟩ := X.leave (v := some (.long x)) (fun q => by rw [hret] at q; cases q) C.2.2.2.2.2.2.1
  exact ⟨_, _, Jvm.RoadKit.retOut X C.1 hret rfl (Or.inr (Or.inl ⟨rfl, rfl, _, rfl⟩)) (hb C.2.1 hd) hl, hrun, hended, _, _, rfl, ⟨by show Q _ T.heap; rw [eT]; exact hQ, N⟩, ⟨_, rfl⟩, hW, hsame.mono hk hn⟩
theorem retD {x : UInt64} (hd : decode bs pc = .ok (.dreturn, 1)) (hr : ret = some .double) (hk : k ≤ R.cells) (hn : n ≤ R.slots) (hQ : Q (some (.double x)) h) : Go l Z R y bs ml ret n0 Q h k n pc L (.double x :: St) := by
  intro p e s m args below meth c T locs C X N eT
  have hret := C.2.2.2.2.2.1.trans hr
  obtain ⟨fs, hl, hrun, hended, hW, hsame⟩ := X.leave (v := some (.double x)) (fun q => by rw [hret] at q; cases q) C.2.2.2.2.2.2.1
  exact ⟨_, _, Jvm.RoadKit.retOut X C.1 hret rfl (Or.inr (Or.inr (Or.inl ⟨rfl, rfl, _, rfl⟩))) (hb C.2.1 hd) hl, hrun, hended, _, _, rfl, ⟨by show Q _ T.heap; rw [eT]; exact hQ, N⟩, ⟨_, rfl⟩, hW, hsame.mono hk hn⟩
theorem retA {t : FieldType} {v : Value} (hd : decode bs pc = .ok (.areturn, 1)) (hr : ret = some t) (ht : t.isReference = true) (hv : v.isRef = true) (hk : k ≤ R.cells) (hn : n ≤ R.slots) (hQ : Q (some v) h) : Go l Z R y bs ml ret n0 Q h k n pc L (v :: St) := by
  intro p e s m args below meth c T locs C X N eT
  have hret := C.2.2.2.2.2.1.trans hr
  obtain ⟨fs, hl, hrun, hended, hW, hsame⟩ := X.leave (v := some v) (fun q => by rw [hret] at q; cases q) C.2.2.2.2.2.2.1
  have hna : narrow t v = v := by rcases ref_cases hv with rfl | ⟨a, rfl⟩ <;> cases t <;> first | rfl | (cases ht)
  exact ⟨_, _, Jvm.RoadKit.retOut X C.1 hret hna (Or.inr (Or.inr (Or.inr (Or.inr ⟨rfl, ht, hv⟩)))) (hb C.2.1 hd) hl, hrun, hended, _, _, rfl, ⟨by show Q _ T.heap; rw [eT]; exact hQ, N⟩, ⟨_, rfl⟩, hW, hsame.mono hk hn⟩
theorem ldcI {index : Nat} {v : Int32} (hd : decode bs pc = .ok (.ldc index, 2)) (w : (Cond.constant y.cls index v).before a0 Z = true) (hp : pc + 2 = pc') (kt : Go l Z R y bs ml ret n0 Q h k n pc' L (.int v :: St)) : Go l Z R y bs ml ret n0 Q h k n pc L St := by
  subst hp
  intro p e s m args below meth c T locs C X N eT
  exact (kt p e s m args below meth c T locs C X N eT).thru (X.ldcInt C.1 C.2.2.2.1 (mvT C.2.2.2.2.2.2.2 w) (g := mkF m pc L St) rfl (hb C.2.1 hd))
theorem ldcwI {index : Nat} {v : Int32} (hd : decode bs pc = .ok (.ldc_w index, 3)) (w : (Cond.constant y.cls index v).before a0 Z = true) (hp : pc + 3 = pc') (kt : Go l Z R y bs ml ret n0 Q h k n pc' L (.int v :: St)) : Go l Z R y bs ml ret n0 Q h k n pc L St := by
  subst hp
  intro p e s m args below meth c T locs C X N eT
  exact (kt p e s m args below meth c T locs C X N eT).thru (X.ldcwInt C.1 C.2.2.2.1 (mvT C.2.2.2.2.2.2.2 w) (g := mkF m pc L St) rfl (hb C.2.1 hd))
theorem ldc2J {index : Nat} {v : Int64} (hd : decode bs pc = .ok (.ldc2_w index, 3)) (w : (Cond.constantLong y.cls index v).before a0 Z = true) (hp : pc + 3 = pc') (kt : Go l Z R y bs ml ret n0 Q h k n pc' L (.long v :: St)) : Go l Z R y bs ml ret n0 Q h k n pc L St := by
  subst hp
  intro p e s m args below meth c T locs C X N eT
  exact (kt p e s m args below meth c T locs C X N eT).thru (X.ldc2Long C.1 C.2.2.2.1 (mvT C.2.2.2.2.2.2.2 w) (g := mkF m pc L St) rfl (hb C.2.1 hd))
theorem getF {R0 O nm d host : String} {index : Nat} {a : Addr} {v : Value} (hd : decode bs pc = .ok (.getfield index, 3)) (w : (Cond.fieldLink y.cls index R0 nm d).before a0 Z = true ∨ (Cond.fieldLinkNest y.cls index R0 nm d host).before a0 Z = true) (via : Via Z R0 O nm d) (F : Fld Z h a O nm d v) (hp : pc + 3 = pc') (kt : Go l Z R y bs ml ret n0 Q h k n pc' L (v :: St)) : Go l Z R y bs ml ret n0 Q h k n pc L (.ref a :: St) := by
  subst hp
  intro p e s m args below meth c T locs C X N eT
  obtain ⟨T', X', e', st⟩ := Jvm.RoadKit.getF X C.1 C.2.2.2.2.2.2.2 C.2.2.2.1 w via eT F (g := mkF m pc L (.ref a :: St)) rfl rfl (hb C.2.1 hd)
  exact (kt p e s m args below meth c T' locs C X' N e').thru st
theorem getS {R0 O nm d host : String} {index : Nat} {v : Value} (hd : decode bs pc = .ok (.getstatic index, 3)) (w : (Cond.fieldLink y.cls index R0 nm d).before a0 Z = true ∨ (Cond.fieldLinkNest y.cls index R0 nm d host).before a0 Z = true) (via : Via Z R0 O nm d) (F : Sta Z h O nm d v) (hp : pc + 3 = pc') (kt : Go l Z R y bs ml ret n0 Q h k n pc' L (v :: St)) : Go l Z R y bs ml ret n0 Q h k n pc L St := by
  subst hp
  intro p e s m args below meth c T locs C X N eT
  obtain ⟨T', X', e', st⟩ := getS2 X C.1 C.2.2.2.2.2.2.2 C.2.2.2.1 w via eT F (g := mkF m pc L St) rfl (hb C.2.1 hd)
  exact (kt p e s m args below meth c T' locs C X' N e').thru st
theorem putF {R0 O nm d host CC : String} {index kk : Nat} {ty : FieldType} {a : Addr} {v old : Value} (hd : decode bs pc = .ok (.putfield index, 3)) (w : (Cond.fieldLink y.cls index R0 nm d).before a0 Z = true ∨ (Cond.fieldLinkNest y.cls index R0 nm d host).before a0 Z = true) (via : Via Z R0 O nm d) (F : Fld Z h a O nm d old) (E : Exa Z h a CC)
    (Ly : (Cond.lays CC O nm d).before a0 Z = true ∨ ((Cond.laysFinal CC O nm d).before a0 Z = true ∧ y.cls = O ∧ y.name = "<init>")) (wi : (Cond.instantiable CC kk).before a0 Z = true) (hty : parseFieldDescriptor d = some ty) (hn : narrow ty v = v) (hf : fits ty v = true) (g : n0 ≤ a) (hp : pc + 3 = pc')
    (kt : ∀ h', Wr h h' a (Jvm.RoadKit.slotOf Z O nm d) v → Go l Z R y bs ml ret n0 Q h' k n pc' L St) : Go l Z R y bs ml ret n0 Q h k n pc L (v :: .ref a :: St) := by
  subst hp
  intro p e s m args below meth c T locs C X N eT
  obtain ⟨T', h', X', e', W', st⟩ := Jvm.RoadKit.putF X C.1 C.2.2.2.2.2.2.2 C.2.2.2.1 w via eT F E (Ly.imp id fun q => ⟨q.1, q.2.1, C.2.2.2.2.1.trans q.2.2⟩) wi hty hn hf (g := mkF m pc L (v :: .ref a :: St)) rfl rfl (hb C.2.1 hd)
  exact (kt h' W' p e s m args below meth c T' _ C X' (Fr.snoc X' N g) e').thru st
theorem putFN {R0 O nm d CC : String} {index kk : Nat} {ty : FieldType} {a : Addr} {v v' old : Value} (hd : decode bs pc = .ok (.putfield index, 3)) (w : (Cond.fieldLink y.cls index R0 nm d).before a0 Z = true) (via : Via Z R0 O nm d) (F : Fld Z h a O nm d old) (E : Exa Z h a CC)
    (Ly : (Cond.lays CC O nm d).before a0 Z = true ∨ ((Cond.laysFinal CC O nm d).before a0 Z = true ∧ y.cls = O ∧ y.name = "<init>")) (wi : (Cond.instantiable CC kk).before a0 Z = true) (hty : parseFieldDescriptor d = some ty) (hn : narrow ty v = v') (hf : fits ty v' = true) (g : n0 ≤ a) (hp : pc + 3 = pc')
    (kt : ∀ h', Wr h h' a (Jvm.RoadKit.slotOf Z O nm d) v' → Go l Z R y bs ml ret n0 Q h' k n pc' L St) : Go l Z R y bs ml ret n0 Q h k n pc L (v :: .ref a :: St) := by
  subst hp
  intro p e s m args below meth c T locs C X N eT
  obtain ⟨T', h', X', e', W', st⟩ := Jvm.RoadKit.putFN X C.1 C.2.2.2.2.2.2.2 C.2.2.2.1 w via eT F E (Ly.imp id fun q => ⟨q.1, q.2.1, C.2.2.2.2.1.trans q.2.2⟩) wi hty hn hf (g := mkF m pc L (v :: .ref a :: St)) rfl rfl (hb C.2.1 hd)
  exact (kt h' W' p e s m args below meth c T' _ C X' (Fr.snoc X' N g) e').thru st
theorem newO {CC : String} {index nn : Nat} (hd : decode bs pc = .ok (.new index, 3)) (w : (Cond.classLink y.cls index CC).before a0 Z = true) (wi : (Cond.instantiable CC nn).before a0 Z = true) (wz : (Cond.initialized CC).before a0 Z = true) (ek : k + 1 = k') (en : n + nn = n') (hc : k' ≤ R.cells) (hl : n' ≤ R.slots) (hp : pc + 3 = pc')
    (kt : ∀ h' a, a = h.size → Ext h h' → Exa Z h' a CC → (∀ {O nm d : String} {ty : FieldType}, Laid Z a0 CC O nm d → parseFieldDescriptor d = some ty → Fld Z h' a O nm d (defaultValue ty)) → Go l Z R y bs ml ret n0 Q h' k' n' pc' L (.ref a :: St)) : Go l Z R y bs ml ret n0 Q h k n pc L St := by
  subst hp ek en
  intro p e s m args below meth c T locs C X N eT
  obtain ⟨T', h', X', e', E, A, D, -, st⟩ := Jvm.RoadKit.newO X C.1 C.2.2.2.2.2.2.2 C.2.2.2.1 w wi wz eT (g := mkF m pc L St) rfl (hb C.2.1 hd) hc hl
  exact (kt h' _ rfl E A D p e s m args below meth c T' _ C X' N e').thru st
theorem newP {aty : ArrayType} {x : Int32} {cap : Nat} (hd : decode bs pc = .ok (.newarray aty, 2)) (w : (Cond.arrayClass (newarray.typeOf aty)).before a0 Z = true) (hn : ¬ x < 0) (hcap : x.toNatClampNeg ≤ cap) (hb' : cap * 8 ≤ 536870912) (ek : k + 1 = k') (en : n + cap = n') (hc : k' ≤ R.cells) (hl : n' ≤ R.slots) (hp : pc + 2 = pc')
    (kt : ∀ h' cA a, a = h.size → Ext h h' → Arr Z h' a (newA cA (newarray.typeOf aty) x) (newarray.typeOf aty) → Go l Z R y bs ml ret n0 Q h' k' n' pc' L (.ref a :: St)) : Go l Z R y bs ml ret n0 Q h k n pc L (.int x :: St) := by
  subst hp ek en
  intro p e s m args below meth c T locs C X N eT
  obtain ⟨T', h', cA, X', e', E, A, st⟩ := Jvm.RoadKit.newP X C.1 C.2.2.2.2.2.2.2 w eT (g := mkF m pc L (.int x :: St)) rfl (hb C.2.1 hd) rfl hn hcap hb' hc hl
  exact (kt h' cA _ rfl E A p e s m args below meth c T' _ C X' N e').thru st
theorem newR {CC : String} {index : Nat} {x : Int32} {cap : Nat} (hd : decode bs pc = .ok (.anewarray index, 3)) (w1 : (Cond.classLink y.cls index CC).before a0 Z = true) (w2 : (Cond.arrayOver (.object CC)).before a0 Z = true) (hn : ¬ x < 0) (hcap : x.toNatClampNeg ≤ cap) (hb' : cap * 8 ≤ 536870912) (ek : k + 1 = k') (en : n + cap = n') (hc : k' ≤ R.cells) (hl : n' ≤ R.slots) (hp : pc + 3 = pc')
    (kt : ∀ h' cA a, a = h.size → Ext h h' → Arr Z h' a (newA cA (.object CC) x) (.object CC) → Ovr Z cA CC → Go l Z R y bs ml ret n0 Q h' k' n' pc' L (.ref a :: St)) : Go l Z R y bs ml ret n0 Q h k n pc L (.int x :: St) := by
  subst hp ek en
  intro p e s m args below meth c T locs C X N eT
  obtain ⟨T', h', cA, X', e', E, A, O, st⟩ := Jvm.RoadKit.newR X C.1 C.2.2.2.2.2.2.2 C.2.2.2.1 w1 w2 eT (g := mkF m pc L (.int x :: St)) rfl (hb C.2.1 hd) rfl hn hcap hb' hc hl
  exact (kt h' cA _ rfl E A O p e s m args below meth c T' _ C X' N e').thru st
theorem stI {a : Addr} {cl : Cell} {j : Int32} {x : Int32} (hd : decode bs pc = .ok (.iastore, 1)) (A : Arr Z h a cl .int) (hj : ¬ (j < 0 ∨ cl.slots.size ≤ j.toNatClampNeg)) (g : n0 ≤ a) (hp : pc + 1 = pc') (kt : ∀ h', Wr h h' a j.toNatClampNeg (.int x) → Go l Z R y bs ml ret n0 Q h' k n pc' L St) : Go l Z R y bs ml ret n0 Q h k n pc L (.int x :: .int j :: .ref a :: St) := by
  subst hp
  intro p e s m args below meth c T locs C X N eT
  obtain ⟨T', h', X', e', W', st⟩ := Jvm.RoadKit.stI X C.1 C.2.2.2.2.2.2.2 eT A hj (g := mkF m pc L (.int x :: .int j :: .ref a :: St)) rfl rfl (hb C.2.1 hd)
  exact (kt h' W' p e s m args below meth c T' _ C X' (Fr.snoc X' N g) e').thru st
theorem stJ {a : Addr} {cl : Cell} {j : Int32} {x : Int64} (hd : decode bs pc = .ok (.lastore, 1)) (A : Arr Z h a cl .long) (hj : ¬ (j < 0 ∨ cl.slots.size ≤ j.toNatClampNeg)) (g : n0 ≤ a) (hp : pc + 1 = pc') (kt : ∀ h', Wr h h' a j.toNatClampNeg (.long x) → Go l Z R y bs ml ret n0 Q h' k n pc' L St) : Go l Z R y bs ml ret n0 Q h k n pc L (.long x :: .int j :: .ref a :: St) := by
  subst hp
  intro p e s m args below meth c T locs C X N eT
  obtain ⟨T', h', X', e', W', st⟩ := Jvm.RoadKit.stJ X C.1 C.2.2.2.2.2.2.2 eT A hj (g := mkF m pc L (.long x :: .int j :: .ref a :: St)) rfl rfl (hb C.2.1 hd)
  exact (kt h' W' p e s m args below meth c T' _ C X' (Fr.snoc X' N g) e').thru st
theorem stB {a : Addr} {cl : Cell} {j : Int32} {x : Int32} (hd : decode bs pc = .ok (.bastore, 1)) (A : Arr Z h a cl .byte) (hj : ¬ (j < 0 ∨ cl.slots.size ≤ j.toNatClampNeg)) (g : n0 ≤ a) (hp : pc + 1 = pc') (kt : ∀ h', Wr h h' a j.toNatClampNeg (.int (nar .byte x)) → Go l Z R y bs ml ret n0 Q h' k n pc' L St) : Go l Z R y bs ml ret n0 Q h k n pc L (.int x :: .int j :: .ref a :: St) := by
  subst hp
  intro p e s m args below meth c T locs C X N eT
  obtain ⟨T', h', X', e', W', st⟩ := Jvm.RoadKit.stB X C.1 C.2.2.2.2.2.2.2 eT A hj (g := mkF m pc L (.int x :: .int j :: .ref a :: St)) rfl rfl (hb C.2.1 hd)
  exact (kt h' W' p e s m args below meth c T' _ C X' (Fr.snoc X' N g) e').thru st
theorem stC {a : Addr} {cl : Cell} {j : Int32} {x : Int32} (hd : decode bs pc = .ok (.castore, 1)) (A : Arr Z h a cl .char) (hj : ¬ (j < 0 ∨ cl.slots.size ≤ j.toNatClampNeg)) (g : n0 ≤ a) (hp : pc + 1 = pc') (kt : ∀ h', Wr h h' a j.toNatClampNeg (.int (nar .char x)) → Go l Z R y bs ml ret n0 Q h' k n pc' L St) : Go l Z R y bs ml ret n0 Q h k n pc L (.int x :: .int j :: .ref a :: St) := by
  subst hp
  intro p e s m args below meth c T locs C X N eT
  obtain ⟨T', h', X', e', W', st⟩ := Jvm.RoadKit.stC X C.1 C.2.2.2.2.2.2.2 eT A hj (g := mkF m pc L (.int x :: .int j :: .ref a :: St)) rfl rfl (hb C.2.1 hd)
  exact (kt h' W' p e s m args below meth c T' _ C X' (Fr.snoc X' N g) e').thru st
theorem stZ {a : Addr} {cl : Cell} {j : Int32} {x : Int32} (hd : decode bs pc = .ok (.bastore, 1)) (A : Arr Z h a cl .boolean) (hj : ¬ (j < 0 ∨ cl.slots.size ≤ j.toNatClampNeg)) (g : n0 ≤ a) (hp : pc + 1 = pc') (kt : ∀ h', Wr h h' a j.toNatClampNeg (.int (nar .boolean x)) → Go l Z R y bs ml ret n0 Q h' k n pc' L St) : Go l Z R y bs ml ret n0 Q h k n pc L (.int x :: .int j :: .ref a :: St) := by
  subst hp
  intro p e s m args below meth c T locs C X N eT
  obtain ⟨T', h', X', e', W', st⟩ := Jvm.RoadKit.stZ X C.1 C.2.2.2.2.2.2.2 eT A hj (g := mkF m pc L (.int x :: .int j :: .ref a :: St)) rfl rfl (hb C.2.1 hd)
  exact (kt h' W' p e s m args below meth c T' _ C X' (Fr.snoc X' N g) e').thru st
theorem stR {a : Addr} {cl : Cell} {ty : FieldType} {j : Int32} {v : Value} (hd : decode bs pc = .ok (.aastore, 1)) (A : Arr Z h a cl ty) (hj : ¬ (j < 0 ∨ cl.slots.size ≤ j.toNatClampNeg)) (hty : ty.isReference = true) (F : Sto Z h a v) (g : n0 ≤ a) (hp : pc + 1 = pc') (kt : ∀ h', Wr h h' a j.toNatClampNeg v → Go l Z R y bs ml ret n0 Q h' k n pc' L St) : Go l Z R y bs ml ret n0 Q h k n pc L (v :: .int j :: .ref a :: St) := by
  subst hp
  intro p e s m args below meth c T locs C X N eT
  obtain ⟨T', h', X', e', W', st⟩ := Jvm.RoadKit.stR X C.1 C.2.2.2.2.2.2.2 eT A hj hty F (g := mkF m pc L (v :: .int j :: .ref a :: St)) rfl rfl (hb C.2.1 hd)
  exact (kt h' W' p e s m args below meth c T' _ C X' (Fr.snoc X' N g) e').thru st
theorem iaload {a : Addr} {cl : Cell} {j : Int32} {v : Value} (hd : decode bs pc = .ok (.iaload, 1)) (A : Arr Z h a cl .int) (hj : ¬ (j < 0 ∨ cl.slots.size ≤ j.toNatClampNeg)) (hv : cl.slots[j.toNatClampNeg]? = some v) (hp : pc + 1 = pc') (kt : Go l Z R y bs ml ret n0 Q h k n pc' L (v :: St)) : Go l Z R y bs ml ret n0 Q h k n pc L (.int j :: .ref a :: St) := by
  subst hp
  intro p e s m args below meth c T locs C X N eT
  exact (kt p e s m args below meth c T locs C X N eT).thru fun t q => X.iaload C.1 (by rw [eT]; exact A.1) (State.isArrayOf_alike C.2.2.2.2.2.2.2.alike A.2.1) A.2.2 hj hv (g := mkF m pc L (.int j :: .ref a :: St)) rfl rfl (hb C.2.1 hd) _ q
theorem laload {a : Addr} {cl : Cell} {j : Int32} {v : Value} (hd : decode bs pc = .ok (.laload, 1)) (A : Arr Z h a cl .long) (hj : ¬ (j < 0 ∨ cl.slots.size ≤ j.toNatClampNeg)) (hv : cl.slots[j.toNatClampNeg]? = some v) (hp : pc + 1 = pc') (kt : Go l Z R y bs ml ret n0 Q h k n pc' L (v :: St)) : Go l Z R y bs ml ret n0 Q h k n pc L (.int j :: .ref a :: St) := by
  subst hp
  intro p e s m args below meth c T locs C X N eT
  exact (kt p e s m args below meth c T locs C X N eT).thru fun t q => X.laload C.1 (by rw [eT]; exact A.1) (State.isArrayOf_alike C.2.2.2.2.2.2.2.alike A.2.1) A.2.2 hj hv (g := mkF m pc L (.int j :: .ref a :: St)) rfl rfl (hb C.2.1 hd) _ q
theorem caload {a : Addr} {cl : Cell} {j : Int32} {v : Value} (hd : decode bs pc = .ok (.caload, 1)) (A : Arr Z h a cl .char) (hj : ¬ (j < 0 ∨ cl.slots.size ≤ j.toNatClampNeg)) (hv : cl.slots[j.toNatClampNeg]? = some v) (hp : pc + 1 = pc') (kt : Go l Z R y bs ml ret n0 Q h k n pc' L (v :: St)) : Go l Z R y bs ml ret n0 Q h k n pc L (.int j :: .ref a :: St) := by
  subst hp
  intro p e s m args below meth c T locs C X N eT
  exact (kt p e s m args below meth c T locs C X N eT).thru fun t q => X.caload C.1 (by rw [eT]; exact A.1) (State.isArrayOf_alike C.2.2.2.2.2.2.2.alike A.2.1) A.2.2 hj hv (g := mkF m pc L (.int j :: .ref a :: St)) rfl rfl (hb C.2.1 hd) _ q
theorem baload {a : Addr} {cl : Cell} {j : Int32} {v : Value} (hd : decode bs pc = .ok (.baload, 1)) (A : Arr Z h a cl .byte) (hj : ¬ (j < 0 ∨ cl.slots.size ≤ j.toNatClampNeg)) (hv : cl.slots[j.toNatClampNeg]? = some v) (hp : pc + 1 = pc') (kt : Go l Z R y bs ml ret n0 Q h k n pc' L (v :: St)) : Go l Z R y bs ml ret n0 Q h k n pc L (.int j :: .ref a :: St) := by
  subst hp
  intro p e s m args below meth c T locs C X N eT
  exact (kt p e s m args below meth c T locs C X N eT).thru fun t q => X.baloadBytes C.1 (by rw [eT]; exact A.1) (State.isArrayOf_alike C.2.2.2.2.2.2.2.alike A.2.1) A.2.2 hj hv (g := mkF m pc L (.int j :: .ref a :: St)) rfl rfl (hb C.2.1 hd) _ q
theorem aaload {a : Addr} {cl : Cell} {ty : FieldType} {j : Int32} {v : Value} (hd : decode bs pc = .ok (.aaload, 1)) (A : Arr Z h a cl ty) (hty : ty.isReference = true) (hj : ¬ (j < 0 ∨ cl.slots.size ≤ j.toNatClampNeg)) (hv : cl.slots[j.toNatClampNeg]? = some v) (hp : pc + 1 = pc') (kt : Go l Z R y bs ml ret n0 Q h k n pc' L (v :: St)) : Go l Z R y bs ml ret n0 Q h k n pc L (.int j :: .ref a :: St) := by
  subst hp
  intro p e s m args below meth c T locs C X N eT
  exact (kt p e s m args below meth c T locs C X N eT).thru fun t q => X.aaload C.1 (by rw [eT]; exact A.1) (State.isArrayOf_alike C.2.2.2.2.2.2.2.alike A.2.1) hty A.2.2 hj hv (g := mkF m pc L (.int j :: .ref a :: St)) rfl rfl (hb C.2.1 hd) _ q
theorem alen {a : Addr} {cl : Cell} {ty : FieldType} {x : Int32} (hd : decode bs pc = .ok (.arraylength, 1)) (A : Arr Z h a cl ty) (hx : cl.slots.size.toInt32 = x) (hp : pc + 1 = pc') (kt : Go l Z R y bs ml ret n0 Q h k n pc' L (.int x :: St)) : Go l Z R y bs ml ret n0 Q h k n pc L (.ref a :: St) := by
  subst hp hx
  intro p e s m args below meth c T locs C X N eT
  exact (kt p e s m args below meth c T locs C X N eT).thru fun t q => X.arraylength C.1 (by rw [eT]; exact A.1) (State.isArrayOf_alike C.2.2.2.2.2.2.2.alike A.2.1) (g := mkF m pc L (.ref a :: St)) rfl rfl (hb C.2.1 hd) _ q
theorem multi22 {index : Nat} {ty : FieldType} {cn : String} (hd : decode bs pc = .ok (.multianewarray index 2, 4)) (w1 : (Cond.classLink y.cls index cn).before a0 Z = true) (hcn : "[" ++ (FieldType.array ty).toString = cn) (w2 : (Cond.arrayOver (.array ty)).before a0 Z = true) (w3 : (Cond.arrayClass ty).before a0 Z = true) (hcb : componentBytes ty ≤ 8) (hdf : fits ty (defaultValue ty) = true) (hdd : (defaultValue ty).isDefault = true) (ek : k + 3 = k') (en : n + 6 = n') (hc : k' ≤ R.cells) (hl : n' ≤ R.slots) (hp : pc + 4 = pc')
    (kt : ∀ h' cA cI a, a = h.size → h'.size = h.size + 3 → Ext h h' → Arv Z h' a cA (.array ty) (2 : Int32) [.ref (a + 1), .ref (a + 2)] .null → Arv Z h' (a + 1) cI ty (2 : Int32) [defaultValue ty, defaultValue ty] (defaultValue ty) → Arv Z h' (a + 2) cI ty (2 : Int32) [defaultValue ty, defaultValue ty] (defaultValue ty) → Z.vm.findClass (FieldType.array ty).toString = some cI → Go l Z R y bs ml ret n0 Q h' k' n' pc' L (.ref a :: St)) : Go l Z R y bs ml ret n0 Q h k n pc L (.int (2 : Int32) :: .int (2 : Int32) :: St) := by
  subst hp ek en hcn
  intro p e s m args below meth c T locs C X N eT
  have hZ := C.2.2.2.2.2.2.2
  have hc2 : (2 : Int32).toNatClampNeg = 2 := by decide
  obtain ⟨vm₁, cA, cI, hW, hfA, hfC, hO, hI, X', st⟩ := X.multianewarray2F C.1 C.2.2.2.1 (mvT hZ w1) ((Cond.arrayOver_setVmC (args := a0) (s := Z) hZ.alike (.array ty)).trans w2) (mvA hZ w3) (g := mkF m pc L (.int (2 : Int32) :: .int (2 : Int32) :: St)) rfl (hb C.2.1 hd) (n := (2 : Int32)) (k := (2 : Int32)) (rest := St) rfl (by decide) (by decide) (by decide) (by rw [hc2]; omega) (by decide) hdf hdd (by rw [hc2]; omega) (by rw [hc2]; omega)
  rw [hc2] at X' st
  subst eT
  obtain ⟨f1, f2, -, -⟩ := Jvm.Free.Multi.fill_facts (T.setVm vm₁) cA cI 2 2 (defaultValue ty) 2
  obtain ⟨o1, o2, o3⟩ := Jvm.Free.Multi.outerC_facts cA 2 (T.setVm vm₁).heap.size 2
  have hsz : (T.setVm vm₁).heap.size = T.heap.size := rfl
  have al : s.vm.Alike Z.vm := hZ.alike.symm
  have EE : Ext T.heap (Jvm.Free.Multi.fill (T.setVm vm₁) cA cI 2 2 (defaultValue ty) 2).heap := ext_of fun a q => Jvm.Free.Multi.fill_old (T.setVm vm₁) cA cI 2 2 (defaultValue ty) q 2
  have inn : ∀ j, j < 2 → Arv Z (Jvm.Free.Multi.fill (T.setVm vm₁) cA cI 2 2 (defaultValue ty) 2).heap (T.heap.size + 1 + j) cI ty (2 : Int32) [defaultValue ty, defaultValue ty] (defaultValue ty) := fun j hj => by
    have hget := Jvm.Free.Multi.fill_inner (T.setVm vm₁) cA cI 2 2 (defaultValue ty) 2 j hj
    refine ⟨_, ⟨hget, State.isArrayOf_alike al (hI 2 (defaultValue ty)).1, (hI 2 (defaultValue ty)).2⟩, rfl, by simp [Jvm.Free.Multi.innerC, hc2], by decide, fun i hi => ?_, fun i hi => ?_⟩
    · simp only [Jvm.Free.Multi.innerC, Array.size_replicate] at hi ⊢
      match i, hi with
      | 0, _ => rfl
      | 1, _ => rfl
    · simp only [Jvm.Free.Multi.innerC, Array.size_replicate] at hi
      match i, hi with
      | 0, _ => exact hdf
      | 1, _ => exact hdf
  have hZc : Z.vm.findClass (FieldType.array ty).toString = some cI := by rw [← hZ.alike.findClass]; exact hfC
  refine (kt _ cA cI T.heap.size rfl f1 EE ?_ (inn 0 (by decide)) (inn 1 (by decide)) hZc p e s m args below meth c _ _ C X' N rfl).thru st
  refine ⟨_, ⟨f2, State.isArrayOf_alike al (hO 2 _ 2).1, (hO 2 _ 2).2⟩, o1, by rw [o3, hc2], by decide, fun i hi => ?_, fun i hi => ?_⟩
  · rw [o3] at hi
    rw [Jvm.Free.Multi.outerC_slot cA 2 _ 2 i hi, if_pos hi]
    match i, hi with
    | 0, _ => rfl
    | 1, _ => rfl
  · rw [o3] at hi
    match i, hi with
    | 0, _ => rfl
    | 1, _ => rfl
theorem castY {KK : String} {index : Nat} {a : Addr} (hd : decode bs pc = .ok (.checkcast index, 3)) (w : (Cond.classLink y.cls index KK).before a0 Z = true) (F : Ins Z h a KK true) (hp : pc + 3 = pc') (kt : Go l Z R y bs ml ret n0 Q h k n pc' L (.ref a :: St)) : Go l Z R y bs ml ret n0 Q h k n pc L (.ref a :: St) := by
  subst hp
  intro p e s m args below meth c T locs C X N eT
  obtain ⟨T', X', e', st⟩ := Jvm.RoadKit.castY X C.1 C.2.2.2.2.2.2.2 C.2.2.2.1 w eT F (g := mkF m pc L (.ref a :: St)) rfl rfl (hb C.2.1 hd)
  exact (kt p e s m args below meth c T' locs C X' N e').thru st
theorem instY {KK : String} {index : Nat} {a : Addr} (hd : decode bs pc = .ok (.instanceof index, 3)) (w : (Cond.classLink y.cls index KK).before a0 Z = true) (F : Ins Z h a KK true) (hp : pc + 3 = pc') (kt : Go l Z R y bs ml ret n0 Q h k n pc' L (.int 1 :: St)) : Go l Z R y bs ml ret n0 Q h k n pc L (.ref a :: St) := by
  subst hp
  intro p e s m args below meth c T locs C X N eT
  obtain ⟨T', X', e', st⟩ := Jvm.RoadKit.instY X C.1 C.2.2.2.2.2.2.2 C.2.2.2.1 w eT F (g := mkF m pc L (.ref a :: St)) rfl rfl (hb C.2.1 hd)
  exact (kt p e s m args below meth c T' locs C X' N e').thru st
theorem instNo {KK CC : String} {index : Nat} {a : Addr} (hd : decode bs pc = .ok (.instanceof index, 3)) (w : (Cond.classLink y.cls index KK).before a0 Z = true) (E : Exa Z h a CC) (F : ∃ c t, Z.vm.findClass CC = some c ∧ Z.vm.findClass KK = some t ∧ Z.vm.assignable c t = false) (hp : pc + 3 = pc') (kt : Go l Z R y bs ml ret n0 Q h k n pc' L (.int 0 :: St)) : Go l Z R y bs ml ret n0 Q h k n pc L (.ref a :: St) := by
  subst hp
  intro p e s m args below meth c T locs C X N eT
  obtain ⟨T', X', e', st⟩ := Jvm.RoadKit.instNo X C.1 C.2.2.2.2.2.2.2 C.2.2.2.1 w eT E F (g := mkF m pc L (.ref a :: St)) rfl rfl (hb C.2.1 hd)
  exact (kt p e s m args below meth c T' locs C X' N e').thru st
theorem instNull {index : Nat} (hd : decode bs pc = .ok (.instanceof index, 3)) (hp : pc + 3 = pc') (kt : Go l Z R y bs ml ret n0 Q h k n pc' L (.int 0 :: St)) : Go l Z R y bs ml ret n0 Q h k n pc L (.null :: St) := by
  subst hp
  intro p e s m args below meth c T locs C X N eT
  exact (kt p e s m args below meth c T locs C X N eT).thru (X.instanceofNull C.1 (g := mkF m pc L (.null :: St)) rfl rfl (hb C.2.1 hd))
theorem castNull {index : Nat} (hd : decode bs pc = .ok (.checkcast index, 3)) (hp : pc + 3 = pc') (kt : Go l Z R y bs ml ret n0 Q h k n pc' L (.null :: St)) : Go l Z R y bs ml ret n0 Q h k n pc L (.null :: St) := by
  subst hp
  intro p e s m args below meth c T locs C X N eT
  exact (kt p e s m args below meth c T locs C X N eT).thru (X.checkcastNull C.1 (g := mkF m pc L (.null :: St)) rfl rfl (hb C.2.1 hd))
theorem initO {index : Nat} {a : Addr} {W : Nat} (hd : decode bs pc = .ok (.invokespecial index, 3)) (w1 : (Cond.methodLink y.cls index Lib.objectInit).before a0 Z = true) (w2 : (Cond.instanceMethod Lib.objectInit).before a0 Z = true) (w3 : (Cond.code Lib.objectInit ⟨#[0xb1]⟩ 1 none).before a0 Z = true) (hsz : L.size = ml) (hf : 1 ≤ R.frames) (hW : (St.map fun v => v.category).sum ≤ W) (hl : W + 12 ≤ R.locals) (hp : pc + 3 = pc') (kt : Go l Z R y bs ml ret n0 Q h k n pc' L St) : Go l Z R y bs ml ret n0 Q h k n pc L (.ref a :: St) := by
  subst hp
  intro p e s m args below meth c T locs C X N eT
  obtain ⟨T', X', e', st⟩ := Jvm.RoadKit.initO X C.1 C.2.2.2.2.2.2.2 C.2.2.2.1 w1 w2 w3 eT (g := mkF m pc L (.ref a :: St)) rfl (by rw [C.2.2.1]; exact hsz) rfl (hb C.2.1 hd) hf (W := W) (by show 2 * 0 + _ ≤ _; omega) hl
  exact (kt p e s m args below meth c T' locs C X' N e').thru st
theorem callS {z : MethodName} {bz : ByteArray} {mz : Nat} {rz : Option FieldType} {rm : Room} {as' : Array Value} {Q' : Option Value → Heap → Prop} {W : Nat} {argsL rest : List Value} {ps : List FieldType} {rt : Option FieldType} {index : Nat} (hd : decode bs pc = .ok (.invokestatic index, 3)) (w1 : (Cond.methodLink y.cls index z).before a0 Z = true) (w2 : (Cond.static z).before a0 Z = true) (w3 : (Cond.initialized z.cls).before a0 Z = true) (w4 : (Cond.code z bz mz rz).before a0 Z = true) (hy : z.cls ≠ "java/lang/invoke/MethodHandle" ∧ z.cls ≠ "java/lang/invoke/VarHandle")
    (con : Con l Z rm z bz mz rz n0 as' h Q') (hf : rm.frames + 1 ≤ R.frames) (hl : W + (mz + 11) + rm.locals ≤ R.locals) (ek : k + rm.cells = k') (en : n + rm.slots = n') (hc : k' ≤ R.cells) (hn : n' ≤ R.slots) (hsz : L.size = ml) (pd : parseMethodDescriptor z.desc = some ⟨ps, rt⟩) (hlen : argsL.length = ps.length) (hst : St = argsL.reverse ++ rest) (has : as' = argsL.toArray) (hW : (rest.map fun v => v.category).sum ≤ W) (hp : pc + 3 = pc')
    (kt : ∀ h' v, Q' v h' → Go l Z R y bs ml ret n0 Q h' k' n' pc' L (v.toList ++ rest)) : Go l Z R y bs ml ret n0 Q h k n pc L St := by
  subst hp has ek en
  intro p e s m args below meth c T locs C X N eT
  have hZ := C.2.2.2.2.2.2.2
  obtain ⟨v, _, ⟨T', Lp, kp, np⟩, -, X', ⟨Lc, ⟨hQ, N'⟩, e1, e2, e3⟩, st⟩ := Jvm.LawKit.callS X C.1 (y := z) C.2.2.2.1 (mvT hZ w1) (mvT hZ w2) (mvT hZ w3) (mvT hZ w4) hy (backOf (W := W) (Q := fun v h' L => Q' v h' ∧ Fr n0 L) (con []) hZ w4 w3 hf hl) (g := mkF m pc L St) rfl (by rw [C.2.2.1]; exact hsz) (argsL := argsL) (rest := rest) (lenOf pd hlen) hst (by show 2 * 0 + _ ≤ _; omega) (hb C.2.1 hd) (fun _ _ => ⟨rfl, eT, hc, hn⟩)
  dsimp only [Pt.U, Pt.locs, Pt.cells, Pt.slots] at X' e1 e2 e3 st hQ
  subst e1 e2 e3
  exact (kt T'.heap v hQ p e s m args below meth c T' _ C X' (Fr.app N N') rfl).thru st
theorem callI {z : MethodName} {bz : ByteArray} {mz : Nat} {rm : Room} {as' : Array Value} {Q' : Option Value → Heap → Prop} {W : Nat} {argsL rest : List Value} {ps : List FieldType} {rt : Option FieldType} {index : Nat} {a : Addr} (hd : decode bs pc = .ok (.invokespecial index, 3)) (hi : z.name = "<init>") (w1 : (Cond.methodLink y.cls index z).before a0 Z = true) (w2 : (Cond.instanceMethod z).before a0 Z = true) (w3 : (Cond.initialized z.cls).before a0 Z = true) (w4 : (Cond.code z bz mz none).before a0 Z = true) (hy : z.cls ≠ "java/lang/invoke/MethodHandle" ∧ z.cls ≠ "java/lang/invoke/VarHandle")
    (con : Con l Z rm z bz mz none n0 as' h Q') (hf : rm.frames + 1 ≤ R.frames) (hl : W + (mz + 11) + rm.locals ≤ R.locals) (ek : k + rm.cells = k') (en : n + rm.slots = n') (hc : k' ≤ R.cells) (hn : n' ≤ R.slots) (hsz : L.size = ml) (pd : parseMethodDescriptor z.desc = some ⟨ps, rt⟩) (hlen : argsL.length = ps.length) (hst : St = argsL.reverse ++ .ref a :: rest) (has : as' = (.ref a :: argsL).toArray) (hW : (rest.map fun v => v.category).sum ≤ W) (hp : pc + 3 = pc')
    (kt : ∀ h' v, Q' v h' → Go l Z R y bs ml ret n0 Q h' k' n' pc' L (v.toList ++ rest)) : Go l Z R y bs ml ret n0 Q h k n pc L St := by
  subst hp has ek en
  intro p e s m args below meth c T locs C X N eT
  have hZ := C.2.2.2.2.2.2.2
  obtain ⟨v, _, ⟨T', Lp, kp, np⟩, -, X', ⟨Lc, ⟨hQ, N'⟩, e1, e2, e3⟩, st⟩ := X.specialBack C.1 (y := z) hi C.2.2.2.1 (mvT hZ w1) (mvT hZ w2) (mvT hZ w4) hy (backOf (W := W) (Q := fun v h' L => Q' v h' ∧ Fr n0 L) (con []) hZ w4 w3 hf hl) (g := mkF m pc L St) rfl (by rw [C.2.2.1]; exact hsz) (Steps.refl _) (a := a) (argsL := argsL) (rest := rest) (lenOf pd hlen) hst (by show 2 * 0 + _ ≤ _; omega) (hb C.2.1 hd) (fun _ _ => ⟨rfl, eT, hc, hn⟩)
  dsimp only [Pt.U, Pt.locs, Pt.cells, Pt.slots] at X' e1 e2 e3 st hQ
  subst e1 e2 e3
  exact (kt T'.heap v hQ p e s m args below meth c T' _ C X' (Fr.app N N') rfl).thru fun t q => st.trans q
theorem callV {z : MethodName} {bz : ByteArray} {mz : Nat} {rz : Option FieldType} {rm : Room} {as' : Array Value} {Q' : Option Value → Heap → Prop} {W : Nat} {argsL rest : List Value} {ps : List FieldType} {rt : Option FieldType} {index : Nat} {CC : String} {a : Addr} (hd : decode bs pc = .ok (.invokevirtual index, 3)) (w1 : (Cond.methodLink y.cls index z).before a0 Z = true) (w2 : (Cond.declares z).before a0 Z = true) (ws : (Cond.selects CC z z).before a0 Z = true) (wi : (Cond.instanceMethod z).before a0 Z = true) (w3 : (Cond.initialized z.cls).before a0 Z = true) (w4 : (Cond.code z bz mz rz).before a0 Z = true) (hy : z.cls ≠ "java/lang/invoke/MethodHandle" ∧ z.cls ≠ "java/lang/invoke/VarHandle") (E : Exa Z h a CC)
    (con : Con l Z rm z bz mz rz n0 as' h Q') (hf : rm.frames + 1 ≤ R.frames) (hl : W + (mz + 11) + rm.locals ≤ R.locals) (ek : k + rm.cells = k') (en : n + rm.slots = n') (hc : k' ≤ R.cells) (hn : n' ≤ R.slots) (hsz : L.size = ml) (pd : parseMethodDescriptor z.desc = some ⟨ps, rt⟩) (hlen : argsL.length = ps.length) (hst : St = argsL.reverse ++ .ref a :: rest) (has : as' = (.ref a :: argsL).toArray) (hW : (rest.map fun v => v.category).sum ≤ W) (hp : pc + 3 = pc')
    (kt : ∀ h' v, Q' v h' → Go l Z R y bs ml ret n0 Q h' k' n' pc' L (v.toList ++ rest)) : Go l Z R y bs ml ret n0 Q h k n pc L St := by
  subst hp has ek en
  intro p e s m args below meth c T locs C X N eT
  have hZ := C.2.2.2.2.2.2.2
  obtain ⟨cq, kq, qa, qb, qc⟩ := isOf hZ eT E
  obtain ⟨v, _, ⟨T', Lp, kp, np⟩, -, X', ⟨Lc, ⟨hQ, N'⟩, e1, e2, e3⟩, st⟩ := X.virtualBack C.1 (y := z) (z := z) C.2.2.2.1 (mvT hZ w1) (mvT hZ w2) (notFace_of_selects (args := #[]) (mvT hZ ws)) (mvT hZ ws) (mvT hZ wi) hy (backOf (W := W) (Q := fun v h' L => Q' v h' ∧ Fr n0 L) (con []) hZ w4 w3 hf hl) qa qc (g := mkF m pc L St) rfl (by rw [C.2.2.1]; exact hsz) (Steps.refl _) (argsL := argsL) (rest := rest) (lenOf pd hlen) hst (by show 2 * 0 + _ ≤ _; omega) (hb C.2.1 hd) (fun _ _ => ⟨rfl, eT, hc, hn⟩)
  dsimp only [Pt.U, Pt.locs, Pt.cells, Pt.slots] at X' e1 e2 e3 st hQ
  subst e1 e2 e3
  exact (kt T'.heap v hQ p e s m args below meth c T' _ C X' (Fr.app N N') rfl).thru fun t q => st.trans q
theorem callVF {z : MethodName} {bz : ByteArray} {mz : Nat} {rz : Option FieldType} {rm : Room} {as' : Array Value} {Q' : Option Value → Heap → Prop} {W : Nat} {argsL rest : List Value} {ps : List FieldType} {rt : Option FieldType} {index cnt : Nat} {x' : MethodName} {CC : String} {a : Addr} (hd : decode bs pc = .ok (.invokeinterface index cnt, 5)) (w1 : (Cond.methodLink y.cls index x').before a0 Z = true) (w2 : (Cond.declares x').before a0 Z = true) (wf : (Cond.interfaceMethod x'.cls x'.cls x'.name x'.desc).before a0 Z = true) (ws : (Cond.selects CC x' z).before a0 Z = true) (wi : (Cond.instanceMethod z).before a0 Z = true) (wp : (Cond.publicMethod z).before a0 Z = true) (wu : (Cond.unhidden CC x'.name x'.desc).before a0 Z = true) (wc : (Cond.castable CC x'.cls).before a0 Z = true) (w3 : (Cond.initialized z.cls).before a0 Z = true) (w4 : (Cond.code z bz mz rz).before a0 Z = true) (hy : x'.cls ≠ "java/lang/invoke/MethodHandle" ∧ x'.cls ≠ "java/lang/invoke/VarHandle") (E : Exa Z h a CC)
    (con : Con l Z rm z bz mz rz n0 as' h Q') (hf : rm.frames + 1 ≤ R.frames) (hl : W + (mz + 11) + rm.locals ≤ R.locals) (ek : k + rm.cells = k') (en : n + rm.slots = n') (hc : k' ≤ R.cells) (hn : n' ≤ R.slots) (hsz : L.size = ml) (pd : parseMethodDescriptor x'.desc = some ⟨ps, rt⟩) (hlen : argsL.length = ps.length) (hst : St = argsL.reverse ++ .ref a :: rest) (has : as' = (.ref a :: argsL).toArray) (hW : (rest.map fun v => v.category).sum ≤ W) (hp : pc + 5 = pc')
    (kt : ∀ h' v, Q' v h' → Go l Z R y bs ml ret n0 Q h' k' n' pc' L (v.toList ++ rest)) : Go l Z R y bs ml ret n0 Q h k n pc L St := by
  subst hp has ek en
  intro p e s m args below meth c T locs C X N eT
  have hZ := C.2.2.2.2.2.2.2
  obtain ⟨cq, kq, qa, qb, qc⟩ := isOf hZ eT E
  obtain ⟨v, _, ⟨T', Lp, kp, np⟩, -, X', ⟨Lc, ⟨hQ, N'⟩, e1, e2, e3⟩, st⟩ := X.interfaceBack C.1 (xi := x') (y := z) C.2.2.2.1 (mvT hZ w1) (mvT hZ w2) (mvT hZ wf (by have g1 := hy.1; have g2 := hy.2; simp [Cond.onTables, Cond.keepsFace, Cond.keeps, Cond.steady, Cond.faceAtom, g1, g2])) (mvT hZ ws) (mvT hZ wi) (mvT hZ wp) (mvT hZ wu) (mvT hZ wc) hy (backOf (W := W) (Q := fun v h' L => Q' v h' ∧ Fr n0 L) (con []) hZ w4 w3 hf hl) qa qb qc (g := mkF m pc L St) rfl (by rw [C.2.2.1]; exact hsz) (Steps.refl _) (argsL := argsL) (rest := rest) (lenOf pd hlen) hst (by show 2 * 0 + _ ≤ _; omega) (hb C.2.1 hd) (fun _ _ => ⟨rfl, eT, hc, hn⟩)
  dsimp only [Pt.U, Pt.locs, Pt.cells, Pt.slots] at X' e1 e2 e3 st hQ
  subst e1 e2 e3
  exact (kt T'.heap v hQ p e s m args below meth c T' _ C X' (Fr.app N N') rfl).thru fun t q => st.trans q
theorem callP {z : MethodName} {bz : ByteArray} {mz : Nat} {rz : Option FieldType} {rm : Room} {as' : Array Value} {Q' : Option Value → Heap → Prop} {W : Nat} {argsL rest : List Value} {ps : List FieldType} {rt : Option FieldType} {index : Nat} {a : Addr} {CC : String} (hd : decode bs pc = .ok (.invokevirtual index, 3)) (w1 : (Cond.methodLink y.cls index z).before a0 Z = true) (wi : (Cond.instanceMethod z).before a0 Z = true) {nn : Nat} (win : (Cond.instantiable z.cls nn).before a0 Z = true) (wp : (Cond.privateMethod z).before a0 Z = true) (w3 : (Cond.initialized z.cls).before a0 Z = true) (w4 : (Cond.code z bz mz rz).before a0 Z = true) (hy : z.cls ≠ "java/lang/invoke/MethodHandle" ∧ z.cls ≠ "java/lang/invoke/VarHandle") (E : Exa Z h a CC)
    (con : Con l Z rm z bz mz rz n0 as' h Q') (hf : rm.frames + 1 ≤ R.frames) (hl : W + (mz + 11) + rm.locals ≤ R.locals) (ek : k + rm.cells = k') (en : n + rm.slots = n') (hc : k' ≤ R.cells) (hn : n' ≤ R.slots) (hsz : L.size = ml) (pd : parseMethodDescriptor z.desc = some ⟨ps, rt⟩) (hlen : argsL.length = ps.length) (hst : St = argsL.reverse ++ .ref a :: rest) (has : as' = (.ref a :: argsL).toArray) (hW : (rest.map fun v => v.category).sum ≤ W) (hp : pc + 3 = pc')
    (kt : ∀ h' v, Q' v h' → Go l Z R y bs ml ret n0 Q h' k' n' pc' L (v.toList ++ rest)) : Go l Z R y bs ml ret n0 Q h k n pc L St := by
  subst hp has ek en
  intro p e s m args below meth c T locs C X N eT
  have hZ := C.2.2.2.2.2.2.2
  have ws : (Cond.selects z.cls z z).before a0 Z = true := by
    obtain ⟨t, kt, g1, g2, g3, g4, -, -⟩ := Cond.instantiable_spec win
    exact selects_self_of_private g1 g2 (Bool.or_eq_false_iff.mp g4).1 (Cond.privateMethod_at wp) wi hy
  obtain ⟨cq, qa, qb⟩ := E.cell
  obtain ⟨v, _, ⟨T', Lp, kp, np⟩, -, X', ⟨Lc, ⟨hQ, N'⟩, e1, e2, e3⟩, st⟩ := X.privateBack C.1 (y := z) C.2.2.2.1 (mvT hZ w1) (mvT hZ wi) (mvT hZ ws) (Cond.privateMethod_at (mvP hZ wp (args := #[]))) (mvT hZ w4) hy (backOf (W := W) (Q := fun v h' L => Q' v h' ∧ Fr n0 L) (con []) hZ w4 w3 hf hl) (g := mkF m pc L St) rfl (by rw [C.2.2.1]; exact hsz) (Steps.refl _) (a := a) (by rw [eT]; exact qa) qb (argsL := argsL) (rest := rest) (lenOf pd hlen) hst (by show 2 * 0 + _ ≤ _; omega) (hb C.2.1 hd) (fun _ _ => ⟨rfl, eT, hc, hn⟩)
  dsimp only [Pt.U, Pt.locs, Pt.cells, Pt.slots] at X' e1 e2 e3 st hQ
  subst e1 e2 e3
  exact (kt T'.heap v hQ p e s m args below meth c T' _ C X' (Fr.app N N') rfl).thru fun t q => st.trans q
theorem callS0 {z : MethodName} {bz : ByteArray} {mz : Nat} {rz : Option FieldType} {rm : Room} {as' : Array Value} {r : Option Value} {St' : List Value} {W : Nat} {argsL rest : List Value} {ps : List FieldType} {rt : Option FieldType} {index : Nat} (hd : decode bs pc = .ok (.invokestatic index, 3)) (w1 : (Cond.methodLink y.cls index z).before a0 Z = true) (w2 : (Cond.static z).before a0 Z = true) (w3 : (Cond.initialized z.cls).before a0 Z = true) (w4 : (Cond.code z bz mz rz).before a0 Z = true) (hy : z.cls ≠ "java/lang/invoke/MethodHandle" ∧ z.cls ≠ "java/lang/invoke/VarHandle")
    (con : Con l Z rm z bz mz rz n0 as' h (Ret r h)) (hf : rm.frames + 1 ≤ R.frames) (hl : W + (mz + 11) + rm.locals ≤ R.locals) (ek : k + rm.cells = k') (en : n + rm.slots = n') (hc : k' ≤ R.cells) (hn : n' ≤ R.slots) (hsz : L.size = ml) (pd : parseMethodDescriptor z.desc = some ⟨ps, rt⟩) (hlen : argsL.length = ps.length) (hst : St = argsL.reverse ++ rest) (has : as' = argsL.toArray) (hW : (rest.map fun v => v.category).sum ≤ W) (hs : r.toList ++ rest = St') (hp : pc + 3 = pc')
    (kt : Go l Z R y bs ml ret n0 Q h k' n' pc' L St') : Go l Z R y bs ml ret n0 Q h k n pc L St := by
  subst hs
  refine callS hd w1 w2 w3 w4 hy con hf hl ek en hc hn hsz pd hlen hst has hW hp ?_
  rintro h' v ⟨rfl, rfl⟩
  exact kt
theorem callI0 {z : MethodName} {bz : ByteArray} {mz : Nat} {rm : Room} {as' : Array Value} {r : Option Value} {St' : List Value} {W : Nat} {argsL rest : List Value} {ps : List FieldType} {rt : Option FieldType} {index : Nat} {a : Addr} (hd : decode bs pc = .ok (.invokespecial index, 3)) (hi : z.name = "<init>") (w1 : (Cond.methodLink y.cls index z).before a0 Z = true) (w2 : (Cond.instanceMethod z).before a0 Z = true) (w3 : (Cond.initialized z.cls).before a0 Z = true) (w4 : (Cond.code z bz mz none).before a0 Z = true) (hy : z.cls ≠ "java/lang/invoke/MethodHandle" ∧ z.cls ≠ "java/lang/invoke/VarHandle")
    (con : Con l Z rm z bz mz none n0 as' h (Ret r h)) (hf : rm.frames + 1 ≤ R.frames) (hl : W + (mz + 11) + rm.locals ≤ R.locals) (ek : k + rm.cells = k') (en : n + rm.slots = n') (hc : k' ≤ R.cells) (hn : n' ≤ R.slots) (hsz : L.size = ml) (pd : parseMethodDescriptor z.desc = some ⟨ps, rt⟩) (hlen : argsL.length = ps.length) (hst : St = argsL.reverse ++ .ref a :: rest) (has : as' = (.ref a :: argsL).toArray) (hW : (rest.map fun v => v.category).sum ≤ W) (hs : r.toList ++ rest = St') (hp : pc + 3 = pc')
    (kt : Go l Z R y bs ml ret n0 Q h k' n' pc' L St') : Go l Z R y bs ml ret n0 Q h k n pc L St := by
  subst hs
  refine callI hd hi w1 w2 w3 w4 hy con hf hl ek en hc hn hsz pd hlen hst has hW hp ?_
  rintro h' v ⟨rfl, rfl⟩
  exact kt
theorem callV0 {z : MethodName} {bz : ByteArray} {mz : Nat} {rz : Option FieldType} {rm : Room} {as' : Array Value} {r : Option Value} {St' : List Value} {W : Nat} {argsL rest : List Value} {ps : List FieldType} {rt : Option FieldType} {index : Nat} {CC : String} {a : Addr} (hd : decode bs pc = .ok (.invokevirtual index, 3)) (w1 : (Cond.methodLink y.cls index z).before a0 Z = true) (w2 : (Cond.declares z).before a0 Z = true) (ws : (Cond.selects CC z z).before a0 Z = true) (wi : (Cond.instanceMethod z).before a0 Z = true) (w3 : (Cond.initialized z.cls).before a0 Z = true) (w4 : (Cond.code z bz mz rz).before a0 Z = true) (hy : z.cls ≠ "java/lang/invoke/MethodHandle" ∧ z.cls ≠ "java/lang/invoke/VarHandle") (E : Exa Z h a CC)
    (con : Con l Z rm z bz mz rz n0 as' h (Ret r h)) (hf : rm.frames + 1 ≤ R.frames) (hl : W + (mz + 11) + rm.locals ≤ R.locals) (ek : k + rm.cells = k') (en : n + rm.slots = n') (hc : k' ≤ R.cells) (hn : n' ≤ R.slots) (hsz : L.size = ml) (pd : parseMethodDescriptor z.desc = some ⟨ps, rt⟩) (hlen : argsL.length = ps.length) (hst : St = argsL.reverse ++ .ref a :: rest) (has : as' = (.ref a :: argsL).toArray) (hW : (rest.map fun v => v.category).sum ≤ W) (hs : r.toList ++ rest = St') (hp : pc + 3 = pc')
    (kt : Go l Z R y bs ml ret n0 Q h k' n' pc' L St') : Go l Z R y bs ml ret n0 Q h k n pc L St := by
  subst hs
  refine callV hd w1 w2 ws wi w3 w4 hy E con hf hl ek en hc hn hsz pd hlen hst has hW hp ?_
  rintro h' v ⟨rfl, rfl⟩
  exact kt
theorem callVF0 {z : MethodName} {bz : ByteArray} {mz : Nat} {rz : Option FieldType} {rm : Room} {as' : Array Value} {r : Option Value} {St' : List Value} {W : Nat} {argsL rest : List Value} {ps : List FieldType} {rt : Option FieldType} {index cnt : Nat} {x' : MethodName} {CC : String} {a : Addr} (hd : decode bs pc = .ok (.invokeinterface index cnt, 5)) (w1 : (Cond.methodLink y.cls index x').before a0 Z = true) (w2 : (Cond.declares x').before a0 Z = true) (wf : (Cond.interfaceMethod x'.cls x'.cls x'.name x'.desc).before a0 Z = true) (ws : (Cond.selects CC x' z).before a0 Z = true) (wi : (Cond.instanceMethod z).before a0 Z = true) (wp : (Cond.publicMethod z).before a0 Z = true) (wu : (Cond.unhidden CC x'.name x'.desc).before a0 Z = true) (wc : (Cond.castable CC x'.cls).before a0 Z = true) (w3 : (Cond.initialized z.cls).before a0 Z = true) (w4 : (Cond.code z bz mz rz).before a0 Z = true) (hy : x'.cls ≠ "java/lang/invoke/MethodHandle" ∧ x'.cls ≠ "java/lang/invoke/VarHandle") (E : Exa Z h a CC)
    (con : Con l Z rm z bz mz rz n0 as' h (Ret r h)) (hf : rm.frames + 1 ≤ R.frames) (hl : W + (mz + 11) + rm.locals ≤ R.locals) (ek : k + rm.cells = k') (en : n + rm.slots = n') (hc : k' ≤ R.cells) (hn : n' ≤ R.slots) (hsz : L.size = ml) (pd : parseMethodDescriptor x'.desc = some ⟨ps, rt⟩) (hlen : argsL.length = ps.length) (hst : St = argsL.reverse ++ .ref a :: rest) (has : as' = (.ref a :: argsL).toArray) (hW : (rest.map fun v => v.category).sum ≤ W) (hs : r.toList ++ rest = St') (hp : pc + 5 = pc')
    (kt : Go l Z R y bs ml ret n0 Q h k' n' pc' L St') : Go l Z R y bs ml ret n0 Q h k n pc L St := by
  subst hs
  refine callVF hd w1 w2 wf ws wi wp wu wc w3 w4 hy E con hf hl ek en hc hn hsz pd hlen hst has hW hp ?_
  rintro h' v ⟨rfl, rfl⟩
  exact kt
end Laws
end Jvm.OwnW
namespace Jvm.Pilot.@@N@@
open Jvm Jvm.ClassFile Sem Op Lib Jvm.Free Jvm.Stand Jvm.LawKit Jvm.RoadKit Bundle Jvm.OwnW Jvm.Pilot.@@N@@.Jvm.D
theorem pd_2829V : parseMethodDescriptor "()V" = some ⟨[], none⟩ := by decide +kernel
theorem pd_2829J : parseMethodDescriptor "()J" = some ⟨[], some .long⟩ := by decide +kernel
theorem pd_28J29Z : parseMethodDescriptor "(J)Z" = some ⟨[.long], some .boolean⟩ := by decide +kernel
theorem pd_2829Ljava2ftime2ftemporal2fValueRange3b : parseMethodDescriptor "()Ljava/time/temporal/ValueRange;" = some ⟨[], some (.object "java/time/temporal/ValueRange")⟩ := by decide +kernel
theorem pd_28JLjava2ftime2ftemporal2fTemporalField3b29J : parseMethodDescriptor "(JLjava/time/temporal/TemporalField;)J" = some ⟨[.long, (.object "java/time/temporal/TemporalField")], some .long⟩ := by decide +kernel
theorem pd_28III29V : parseMethodDescriptor "(III)V" = some ⟨[.int, .int, .int], none⟩ := by decide +kernel
theorem pd_28J29J : parseMethodDescriptor "(J)J" = some ⟨[.long], some .long⟩ := by decide +kernel
theorem pd_28III29Ljava2ftime2fLocalDate3b : parseMethodDescriptor "(III)Ljava/time/LocalDate;" = some ⟨[.int, .int, .int], some (.object "java/time/LocalDate")⟩ := by decide +kernel
theorem pd_2829I : parseMethodDescriptor "()I" = some ⟨[], some .int⟩ := by decide +kernel
theorem pd_28JII29I : parseMethodDescriptor "(JII)I" = some ⟨[.long, .int, .int], some .int⟩ := by decide +kernel
theorem pd_28Ljava2ftime2fLocalDate3b29I : parseMethodDescriptor "(Ljava/time/LocalDate;)I" = some ⟨[(.object "java/time/LocalDate")], some .int⟩ := by decide +kernel
theorem pd_28I29Z : parseMethodDescriptor "(I)Z" = some ⟨[.int], some .boolean⟩ := by decide +kernel
theorem pd_28IILcom2fexample2fpaystage2fpaystage2fCourse24Changes3bLcom2fexample2fpaystage2fpaystage2fCourse24Days3bI29V : parseMethodDescriptor "(IILcom/example/paystage/paystage/Course$Changes;Lcom/example/paystage/paystage/Course$Days;I)V" = some ⟨[.int, .int, (.object "com/example/paystage/paystage/Course$Changes"), (.object "com/example/paystage/paystage/Course$Days"), .int], none⟩ := by decide +kernel
theorem pd_28Ljava2ftime2fLocalDate3b29Z : parseMethodDescriptor "(Ljava/time/LocalDate;)Z" = some ⟨[(.object "java/time/LocalDate")], some .boolean⟩ := by decide +kernel
theorem d2_0 : decode jdk_30_method_1_code 0 = .ok (.aload_n 0, 1) := by decide +kernel
theorem d2_1 : decode jdk_30_method_1_code 1 = .ok (.invokespecial 1, 3) := by decide +kernel
theorem d2_4 : decode jdk_30_method_1_code 4 = .ok (.return_, 1) := by decide +kernel
abbrev GoB2 (l : Launch) (Z : State) (n0 : Nat) (Q : Option Value → Heap → Prop) := Go l Z ({ frames := 1, cells := 0, slots := 0, locals := 12 } : Room) (⟨"java/lang/Record", "<init>", "()V"⟩ : MethodName) jdk_30_method_1_code 1 none n0 Q
theorem ef2 (m : MethodId) (o : Addr) : entryFrame m #[(.ref o)] 1 = mkF m 0 #[.val (.ref o)] [] := by first | (simp [entryFrame, mkF, argsToLocals, Value.category]; done) | rfl
set_option maxRecDepth 65536 in
set_option maxHeartbeats 40000000 in
theorem rm2 (l : Launch) (Z : State) (a0 : Array Value) (hw : ∀ d ∈ tables_1, d.before a0 Z = true) (o : Addr) (h0 : Heap) (n0 : Nat) :
    Con l Z ({ frames := 1, cells := 0, slots := 0, locals := 12 } : Room) (⟨"java/lang/Record", "<init>", "()V"⟩ : MethodName) jdk_30_method_1_code 1 none n0 #[(.ref o)] h0 (OwnW.Ret none h0) := by
  refine OwnW.Con.of (by first | decide +kernel | exact plainFor_of_name (by simp [plainName, overriddenIn])) (fun m => ef2 m o) ?_
  show GoB2 l Z n0 (OwnW.Ret none h0) h0 0 0 0 #[.val (.ref o)] []
  refine OwnW.aloadN (pc' := 1) d2_0 rfl (rfl) rfl ?_
  refine OwnW.initO (a0 := a0) (pc' := 4) (W := 0) d2_1 (hw _ (List.mem_of_getElem? (i := 14) rfl)) (hw _ (List.mem_of_getElem? (i := 15) rfl)) (hw _ (List.mem_of_getElem? (i := 16) rfl)) rfl (by decide) (Nat.le_of_ble_eq_true rfl) (by decide) rfl ?_
  exact OwnW.ret0 d2_4 rfl (by decide) (by decide) (⟨rfl, rfl⟩)
theorem d1_0 : decode prog_16_method_1_code 0 = .ok (.aload_n 0, 1) := by decide +kernel
theorem d1_1 : decode prog_16_method_1_code 1 = .ok (.invokespecial 1, 3) := by decide +kernel
theorem d1_4 : decode prog_16_method_1_code 4 = .ok (.aload_n 0, 1) := by decide +kernel
theorem d1_5 : decode prog_16_method_1_code 5 = .ok (.iload_n 1, 1) := by decide +kernel
theorem d1_6 : decode prog_16_method_1_code 6 = .ok (.putfield 7, 3) := by decide +kernel
theorem d1_9 : decode prog_16_method_1_code 9 = .ok (.aload_n 0, 1) := by decide +kernel
theorem d1_10 : decode prog_16_method_1_code 10 = .ok (.iload_n 2, 1) := by decide +kernel
theorem d1_11 : decode prog_16_method_1_code 11 = .ok (.putfield 13, 3) := by decide +kernel
theorem d1_14 : decode prog_16_method_1_code 14 = .ok (.aload_n 0, 1) := by decide +kernel
theorem d1_15 : decode prog_16_method_1_code 15 = .ok (.aload_n 3, 1) := by decide +kernel
theorem d1_16 : decode prog_16_method_1_code 16 = .ok (.putfield 16, 3) := by decide +kernel
theorem d1_19 : decode prog_16_method_1_code 19 = .ok (.aload_n 0, 1) := by decide +kernel
theorem d1_20 : decode prog_16_method_1_code 20 = .ok (.aload 4, 2) := by decide +kernel
theorem d1_22 : decode prog_16_method_1_code 22 = .ok (.putfield 20, 3) := by decide +kernel
theorem d1_25 : decode prog_16_method_1_code 25 = .ok (.aload_n 0, 1) := by decide +kernel
theorem d1_26 : decode prog_16_method_1_code 26 = .ok (.iload 5, 2) := by decide +kernel
theorem d1_28 : decode prog_16_method_1_code 28 = .ok (.putfield 24, 3) := by decide +kernel
theorem d1_31 : decode prog_16_method_1_code 31 = .ok (.return_, 1) := by decide +kernel
def Q1 (Z : State) (o : Addr) (q0 : Int32) (q1 : Int32) (h0 : Heap) (v : Option Value) (h : Heap) : Prop := v = none ∧ Keep h0 h [o] ∧ Exa Z h o "com/example/paystage/paystage/Course$Span" ∧ Fld Z h o "com/example/paystage/paystage/Course$Span" "from" "I" (.int q0) ∧ Fld Z h o "com/example/paystage/paystage/Course$Span" "until" "I" (.int q1)
abbrev GoB1 (l : Launch) (Z : State) (n0 : Nat) (Q : Option Value → Heap → Prop) := Go l Z ({ frames := 2, cells := 0, slots := 0, locals := 24 } : Room) (⟨"com/example/paystage/paystage/Course$Span", "<init>", "(IILcom/example/paystage/paystage/Course$Changes;Lcom/example/paystage/paystage/Course$Days;I)V"⟩ : MethodName) prog_16_method_1_code 6 none n0 Q
theorem ef1 (m : MethodId) (o : Addr) (q0 : Int32) (q1 : Int32) : entryFrame m #[(.ref o), (.int q0), (.int q1), .null, .null, (.int (0 : Int32))] 6 = mkF m 0 #[.val (.ref o), .val (.int q0), .val (.int q1), .val .null, .val .null, .val (.int (0 : Int32))] [] := by first | (simp [entryFrame, mkF, argsToLocals, Value.category]; done) | rfl
set_option maxRecDepth 65536 in
set_option maxHeartbeats 40000000 in
theorem rm1 (l : Launch) (Z : State) (a0 : Array Value) (hw : ∀ d ∈ tables_1, d.before a0 Z = true) (o : Addr) (q0 : Int32) (q1 : Int32) (h0 : Heap) (n0 : Nat) (Z0 : n0 ≤ h0.size) (g_o : n0 ≤ o) (E_o : Exa Z h0 o "com/example/paystage/paystage/Course$Span") (F_from : Fld Z h0 o "com/example/paystage/paystage/Course$Span" "from" "I" (.int (0 : Int32))) (F_until : Fld Z h0 o "com/example/paystage/paystage/Course$Span" "until" "I" (.int (0 : Int32))) (F_paid : Fld Z h0 o "com/example/paystage/paystage/Course$Span" "paid" "Lcom/example/paystage/paystage/Course$Changes;" .null) (F_releases : Fld Z h0 o "com/example/paystage/paystage/Course$Span" "releases" "Lcom/example/paystage/paystage/Course$Days;" .null) (F_released : Fld Z h0 o "com/example/paystage/paystage/Course$Span" "released" "I" (.int (0 : Int32))) :
    Con l Z ({ frames := 2, cells := 0, slots := 0, locals := 24 } : Room) (⟨"com/example/paystage/paystage/Course$Span", "<init>", "(IILcom/example/paystage/paystage/Course$Changes;Lcom/example/paystage/paystage/Course$Days;I)V"⟩ : MethodName) prog_16_method_1_code 6 none n0 #[(.ref o), (.int q0), (.int q1), .null, .null, (.int (0 : Int32))] h0 (Q1 Z o q0 q1 h0) := by
  refine OwnW.Con.of (by first | decide +kernel | exact plainFor_of_name (by simp [plainName, overriddenIn])) (fun m => ef1 m o q0 q1) ?_
  show GoB1 l Z n0 (Q1 Z o q0 q1 h0) h0 0 0 0 #[.val (.ref o), .val (.int q0), .val (.int q1), .val .null, .val .null, .val (.int (0 : Int32))] []
  refine OwnW.aloadN (pc' := 1) d1_0 rfl (rfl) rfl ?_
  refine OwnW.callI0 (a0 := a0) (pc' := 4) (W := 0) (k' := 0) (n' := 0) (argsL := []) (rest := []) (St' := []) d1_1 rfl (hw _ (List.mem_of_getElem? (i := 9) rfl)) (hw _ (List.mem_of_getElem? (i := 10) rfl)) (hw _ (List.mem_of_getElem? (i := 12) rfl)) (hw _ (List.mem_of_getElem? (i := 13) rfl)) (by decide) (rm2 l Z a0 hw o h0 n0) (by decide) (by decide) rfl rfl (by decide) (by decide) rfl pd_2829V rfl rfl rfl (Nat.le_of_ble_eq_true rfl) rfl rfl ?_
  refine OwnW.aloadN (pc' := 5) d1_4 rfl (rfl) rfl ?_
  refine OwnW.iloadN (pc' := 6) d1_5 rfl rfl ?_
  refine OwnW.putF (a0 := a0) (pc' := 9) d1_6 (host := "") (Or.inl (hw _ (List.mem_of_getElem? (i := 17) rfl))) Via.refl F_from E_o (Or.inr ⟨(hw _ (List.mem_of_getElem? (i := 18) rfl)), rfl, rfl⟩) (hw _ (List.mem_of_getElem? (i := 4) rfl)) (ty := .int) (by decide) rfl rfl g_o rfl ?_
  intro h1 W1
  have sz2 : n0 ≤ h1.size := (by rw [W1.size]; exact Z0)
  have F3 := F_from.same W1
  refine OwnW.aloadN (pc' := 10) d1_9 rfl (rfl) rfl ?_
  refine OwnW.iloadN (pc' := 11) d1_10 rfl rfl ?_
  have F5 := (F_until.other W1 (Or.inr (slot_ne (a0 := a0) (C := "com/example/paystage/paystage/Course$Span") (Or.inr (hw _ (List.mem_of_getElem? (i := 20) rfl))) (Or.inr (hw _ (List.mem_of_getElem? (i := 18) rfl))) (by decide) (t := .int) (t' := .int) (by decide) (by decide))))
  have F6 := (E_o.wr W1)
  refine OwnW.putF (a0 := a0) (pc' := 14) d1_11 (host := "") (Or.inl (hw _ (List.mem_of_getElem? (i := 19) rfl))) Via.refl F5 F6 (Or.inr ⟨(hw _ (List.mem_of_getElem? (i := 20) rfl)), rfl, rfl⟩) (hw _ (List.mem_of_getElem? (i := 4) rfl)) (ty := .int) (by decide) rfl rfl g_o rfl ?_
  intro h4 W4
  have sz7 : n0 ≤ h4.size := (by rw [W4.size]; exact sz2)
  have F8 := F5.same W4
  refine OwnW.aloadN (pc' := 15) d1_14 rfl (rfl) rfl ?_
  refine OwnW.aloadN (pc' := 16) d1_15 rfl (rfl) rfl ?_
  have F10 := ((F_paid.other W1 (Or.inr (slot_ne (a0 := a0) (C := "com/example/paystage/paystage/Course$Span") (Or.inr (hw _ (List.mem_of_getElem? (i := 22) rfl))) (Or.inr (hw _ (List.mem_of_getElem? (i := 18) rfl))) (by decide) (t := (.object "com/example/paystage/paystage/Course$Changes")) (t' := .int) (by decide) (by decide)))).other W4 (Or.inr (slot_ne (a0 := a0) (C := "com/example/paystage/paystage/Course$Span") (Or.inr (hw _ (List.mem_of_getElem? (i := 22) rfl))) (Or.inr (hw _ (List.mem_of_getElem? (i := 20) rfl))) (by decide) (t := (.object "com/example/paystage/paystage/Course$Changes")) (t' := .int) (by decide) (by decide))))
  have F11 := (F6.wr W4)
  refine OwnW.putF (a0 := a0) (pc' := 19) d1_16 (host := "") (Or.inl (hw _ (List.mem_of_getElem? (i := 21) rfl))) Via.refl F10 F11 (Or.inr ⟨(hw _ (List.mem_of_getElem? (i := 22) rfl)), rfl, rfl⟩) (hw _ (List.mem_of_getElem? (i := 4) rfl)) (ty := (.object "com/example/paystage/paystage/Course$Changes")) (by decide) rfl rfl g_o rfl ?_
  intro h9 W9
  have sz12 : n0 ≤ h9.size := (by rw [W9.size]; exact sz7)
  have F13 := F10.same W9
  refine OwnW.aloadN (pc' := 20) d1_19 rfl (rfl) rfl ?_
  refine OwnW.aload (pc' := 22) d1_20 rfl (rfl) rfl ?_
  have F15 := (((F_releases.other W1 (Or.inr (slot_ne (a0 := a0) (C := "com/example/paystage/paystage/Course$Span") (Or.inr (hw _ (List.mem_of_getElem? (i := 24) rfl))) (Or.inr (hw _ (List.mem_of_getElem? (i := 18) rfl))) (by decide) (t := (.object "com/example/paystage/paystage/Course$Days")) (t' := .int) (by decide) (by decide)))).other W4 (Or.inr (slot_ne (a0 := a0) (C := "com/example/paystage/paystage/Course$Span") (Or.inr (hw _ (List.mem_of_getElem? (i := 24) rfl))) (Or.inr (hw _ (List.mem_of_getElem? (i := 20) rfl))) (by decide) (t := (.object "com/example/paystage/paystage/Course$Days")) (t' := .int) (by decide) (by decide)))).other W9 (Or.inr (slot_ne (a0 := a0) (C := "com/example/paystage/paystage/Course$Span") (Or.inr (hw _ (List.mem_of_getElem? (i := 24) rfl))) (Or.inr (hw _ (List.mem_of_getElem? (i := 22) rfl))) (by decide) (t := (.object "com/example/paystage/paystage/Course$Days")) (t' := (.object "com/example/paystage/paystage/Course$Changes")) (by decide) (by decide))))
  have F16 := (F11.wr W9)
  refine OwnW.putF (a0 := a0) (pc' := 25) d1_22 (host := "") (Or.inl (hw _ (List.mem_of_getElem? (i := 23) rfl))) Via.refl F15 F16 (Or.inr ⟨(hw _ (List.mem_of_getElem? (i := 24) rfl)), rfl, rfl⟩) (hw _ (List.mem_of_getElem? (i := 4) rfl)) (ty := (.object "com/example/paystage/paystage/Course$Days")) (by decide) rfl rfl g_o rfl ?_
  intro h14 W14
  have sz17 : n0 ≤ h14.size := (by rw [W14.size]; exact sz12)
  have F18 := F15.same W14
  refine OwnW.aloadN (pc' := 26) d1_25 rfl (rfl) rfl ?_
  refine OwnW.iload (pc' := 28) d1_26 rfl rfl ?_
  have F20 := ((((F_released.other W1 (Or.inr (slot_ne (a0 := a0) (C := "com/example/paystage/paystage/Course$Span") (Or.inr (hw _ (List.mem_of_getElem? (i := 26) rfl))) (Or.inr (hw _ (List.mem_of_getElem? (i := 18) rfl))) (by decide) (t := .int) (t' := .int) (by decide) (by decide)))).other W4 (Or.inr (slot_ne (a0 := a0) (C := "com/example/paystage/paystage/Course$Span") (Or.inr (hw _ (List.mem_of_getElem? (i := 26) rfl))) (Or.inr (hw _ (List.mem_of_getElem? (i := 20) rfl))) (by decide) (t := .int) (t' := .int) (by decide) (by decide)))).other W9 (Or.inr (slot_ne (a0 := a0) (C := "com/example/paystage/paystage/Course$Span") (Or.inr (hw _ (List.mem_of_getElem? (i := 26) rfl))) (Or.inr (hw _ (List.mem_of_getElem? (i := 22) rfl))) (by decide) (t := .int) (t' := (.object "com/example/paystage/paystage/Course$Changes")) (by decide) (by decide)))).other W14 (Or.inr (slot_ne (a0 := a0) (C := "com/example/paystage/paystage/Course$Span") (Or.inr (hw _ (List.mem_of_getElem? (i := 26) rfl))) (Or.inr (hw _ (List.mem_of_getElem? (i := 24) rfl))) (by decide) (t := .int) (t' := (.object "com/example/paystage/paystage/Course$Days")) (by decide) (by decide))))
  have F21 := (F16.wr W14)
  refine OwnW.putF (a0 := a0) (pc' := 31) d1_28 (host := "") (Or.inl (hw _ (List.mem_of_getElem? (i := 25) rfl))) Via.refl F20 F21 (Or.inr ⟨(hw _ (List.mem_of_getElem? (i := 26) rfl)), rfl, rfl⟩) (hw _ (List.mem_of_getElem? (i := 4) rfl)) (ty := .int) (by decide) rfl rfl g_o rfl ?_
  intro h19 W19
  have sz22 : n0 ≤ h19.size := (by rw [W19.size]; exact sz17)
  have F23 := F20.same W19
  exact OwnW.ret0 d1_31 rfl (by decide) (by decide) (⟨rfl, ((((((Keep.refl h0 [o]).wr W1 (Or.inl (List.mem_of_getElem? (i := 0) rfl))).wr W4 (Or.inl (List.mem_of_getElem? (i := 0) rfl))).wr W9 (Or.inl (List.mem_of_getElem? (i := 0) rfl))).wr W14 (Or.inl (List.mem_of_getElem? (i := 0) rfl))).wr W19 (Or.inl (List.mem_of_getElem? (i := 0) rfl))), (F21.wr W19), ((((F3.other W4 (Or.inr (slot_ne (a0 := a0) (C := "com/example/paystage/paystage/Course$Span") (Or.inr (hw _ (List.mem_of_getElem? (i := 18) rfl))) (Or.inr (hw _ (List.mem_of_getElem? (i := 20) rfl))) (by decide) (t := .int) (t' := .int) (by decide) (by decide)))).other W9 (Or.inr (slot_ne (a0 := a0) (C := "com/example/paystage/paystage/Course$Span") (Or.inr (hw _ (List.mem_of_getElem? (i := 18) rfl))) (Or.inr (hw _ (List.mem_of_getElem? (i := 22) rfl))) (by decide) (t := .int) (t' := (.object "com/example/paystage/paystage/Course$Changes")) (by decide) (by decide)))).other W14 (Or.inr (slot_ne (a0 := a0) (C := "com/example/paystage/paystage/Course$Span") (Or.inr (hw _ (List.mem_of_getElem? (i := 18) rfl))) (Or.inr (hw _ (List.mem_of_getElem? (i := 24) rfl))) (by decide) (t := .int) (t' := (.object "com/example/paystage/paystage/Course$Days")) (by decide) (by decide)))).other W19 (Or.inr (slot_ne (a0 := a0) (C := "com/example/paystage/paystage/Course$Span") (Or.inr (hw _ (List.mem_of_getElem? (i := 18) rfl))) (Or.inr (hw _ (List.mem_of_getElem? (i := 26) rfl))) (by decide) (t := .int) (t' := .int) (by decide) (by decide)))), (((F8.other W9 (Or.inr (slot_ne (a0 := a0) (C := "com/example/paystage/paystage/Course$Span") (Or.inr (hw _ (List.mem_of_getElem? (i := 20) rfl))) (Or.inr (hw _ (List.mem_of_getElem? (i := 22) rfl))) (by decide) (t := .int) (t' := (.object "com/example/paystage/paystage/Course$Changes")) (by decide) (by decide)))).other W14 (Or.inr (slot_ne (a0 := a0) (C := "com/example/paystage/paystage/Course$Span") (Or.inr (hw _ (List.mem_of_getElem? (i := 20) rfl))) (Or.inr (hw _ (List.mem_of_getElem? (i := 24) rfl))) (by decide) (t := .int) (t' := (.object "com/example/paystage/paystage/Course$Days")) (by decide) (by decide)))).other W19 (Or.inr (slot_ne (a0 := a0) (C := "com/example/paystage/paystage/Course$Span") (Or.inr (hw _ (List.mem_of_getElem? (i := 20) rfl))) (Or.inr (hw _ (List.mem_of_getElem? (i := 26) rfl))) (by decide) (t := .int) (t' := .int) (by decide) (by decide))))⟩)
theorem d9_0 : decode jdk_2423_method_6_code 0 = .ok (.aload_n 0, 1) := by decide +kernel
theorem d9_1 : decode jdk_2423_method_6_code 1 = .ok (.getfield 33, 3) := by decide +kernel
theorem d9_4 : decode jdk_2423_method_6_code 4 = .ok (.lreturn, 1) := by decide +kernel
def f9 (o : Addr) (mn : Int64) : Int64 := mn
abbrev GoB9 (l : Launch) (Z : State) (n0 : Nat) (Q : Option Value → Heap → Prop) := Go l Z ({ frames := 0, cells := 0, slots := 0, locals := 0 } : Room) (⟨"java/time/temporal/ValueRange", "getMinimum", "()J"⟩ : MethodName) jdk_2423_method_6_code 1 (some .long) n0 Q
theorem ef9 (m : MethodId) (o : Addr) : entryFrame m #[(.ref o)] 1 = mkF m 0 #[.val (.ref o)] [] := by first | (simp [entryFrame, mkF, argsToLocals, Value.category]; done) | rfl
set_option maxRecDepth 65536 in
set_option maxHeartbeats 40000000 in
theorem rm9 (l : Launch) (Z : State) (a0 : Array Value) (hw : ∀ d ∈ tables_1, d.before a0 Z = true) (o : Addr) (mn : Int64) (h0 : Heap) (n0 : Nat) (F_minSmallest : Fld Z h0 o "java/time/temporal/ValueRange" "minSmallest" "J" (.long mn)) :
    Con l Z ({ frames := 0, cells := 0, slots := 0, locals := 0 } : Room) (⟨"java/time/temporal/ValueRange", "getMinimum", "()J"⟩ : MethodName) jdk_2423_method_6_code 1 (some .long) n0 #[(.ref o)] h0 (OwnW.Ret (some (.long (f9 o mn))) h0) := by
  refine OwnW.Con.of (by first | decide +kernel | exact plainFor_of_name (by simp [plainName, overriddenIn])) (fun m => ef9 m o) ?_
  show GoB9 l Z n0 (OwnW.Ret (some (.long (f9 o mn))) h0) h0 0 0 0 #[.val (.ref o)] []
  refine OwnW.aloadN (pc' := 1) d9_0 rfl (rfl) rfl ?_
  refine OwnW.getF (a0 := a0) (pc' := 4) d9_1 (host := "") (Or.inl (hw _ (List.mem_of_getElem? (i := 61) rfl))) Via.refl F_minSmallest rfl ?_
  exact OwnW.retJ d9_4 rfl (by decide) (by decide) (⟨by first | (simp only [f9]; done) | (simp only [f9]; rfl), rfl⟩)
theorem d10_0 : decode jdk_2423_method_9_code 0 = .ok (.aload_n 0, 1) := by decide +kernel
theorem d10_1 : decode jdk_2423_method_9_code 1 = .ok (.getfield 43, 3) := by decide +kernel
theorem d10_4 : decode jdk_2423_method_9_code 4 = .ok (.lreturn, 1) := by decide +kernel
def f10 (o : Addr) (mx : Int64) : Int64 := mx
abbrev GoB10 (l : Launch) (Z : State) (n0 : Nat) (Q : Option Value → Heap → Prop) := Go l Z ({ frames := 0, cells := 0, slots := 0, locals := 0 } : Room) (⟨"java/time/temporal/ValueRange", "getMaximum", "()J"⟩ : MethodName) jdk_2423_method_9_code 1 (some .long) n0 Q
theorem ef10 (m : MethodId) (o : Addr) : entryFrame m #[(.ref o)] 1 = mkF m 0 #[.val (.ref o)] [] := by first | (simp [entryFrame, mkF, argsToLocals, Value.category]; done) | rfl
set_option maxRecDepth 65536 in
set_option maxHeartbeats 40000000 in
theorem rm10 (l : Launch) (Z : State) (a0 : Array Value) (hw : ∀ d ∈ tables_1, d.before a0 Z = true) (o : Addr) (mx : Int64) (h0 : Heap) (n0 : Nat) (F_maxLargest : Fld Z h0 o "java/time/temporal/ValueRange" "maxLargest" "J" (.long mx)) :
    Con l Z ({ frames := 0, cells := 0, slots := 0, locals := 0 } : Room) (⟨"java/time/temporal/ValueRange", "getMaximum", "()J"⟩ : MethodName) jdk_2423_method_9_code 1 (some .long) n0 #[(.ref o)] h0 (OwnW.Ret (some (.long (f10 o mx))) h0) := by
  refine OwnW.Con.of (by first | decide +kernel | exact plainFor_of_name (by simp [plainName, overriddenIn])) (fun m => ef10 m o) ?_
  show GoB10 l Z n0 (OwnW.Ret (some (.long (f10 o mx))) h0) h0 0 0 0 #[.val (.ref o)] []
  refine OwnW.aloadN (pc' := 1) d10_0 rfl (rfl) rfl ?_
  refine OwnW.getF (a0 := a0) (pc' := 4) d10_1 (host := "") (Or.inl (hw _ (List.mem_of_getElem? (i := 68) rfl))) Via.refl F_maxLargest rfl ?_
  exact OwnW.retJ d10_4 rfl (by decide) (by decide) (⟨by first | (simp only [f10]; done) | (simp only [f10]; rfl), rfl⟩)
theorem d6_0 : decode jdk_2395_method_8_code 0 = .ok (.aload_n 0, 1) := by decide +kernel
theorem d6_1 : decode jdk_2395_method_8_code 1 = .ok (.getfield 124, 3) := by decide +kernel
theorem d6_4 : decode jdk_2395_method_8_code 4 = .ok (.areturn, 1) := by decide +kernel
def f6 (o : Addr) (rg : Addr) : Addr := rg
abbrev GoB6 (l : Launch) (Z : State) (n0 : Nat) (Q : Option Value → Heap → Prop) := Go l Z ({ frames := 0, cells := 0, slots := 0, locals := 0 } : Room) (⟨"java/time/temporal/ChronoField", "range", "()Ljava/time/temporal/ValueRange;"⟩ : MethodName) jdk_2395_method_8_code 1 (some (.object "java/time/temporal/ValueRange")) n0 Q
theorem ef6 (m : MethodId) (o : Addr) : entryFrame m #[(.ref o)] 1 = mkF m 0 #[.val (.ref o)] [] := by first | (simp [entryFrame, mkF, argsToLocals, Value.category]; done) | rfl
set_option maxRecDepth 65536 in
set_option maxHeartbeats 40000000 in
theorem rm6 (l : Launch) (Z : State) (a0 : Array Value) (hw : ∀ d ∈ tables_1, d.before a0 Z = true) (o : Addr) (rg : Addr) (h0 : Heap) (n0 : Nat) (F_range : Fld Z h0 o "java/time/temporal/ChronoField" "range" "Ljava/time/temporal/ValueRange;" (.ref rg)) :
    Con l Z ({ frames := 0, cells := 0, slots := 0, locals := 0 } : Room) (⟨"java/time/temporal/ChronoField", "range", "()Ljava/time/temporal/ValueRange;"⟩ : MethodName) jdk_2395_method_8_code 1 (some (.object "java/time/temporal/ValueRange")) n0 #[(.ref o)] h0 (OwnW.Ret (some (.ref (f6 o rg))) h0) := by
  refine OwnW.Con.of (by first | decide +kernel | exact plainFor_of_name (by simp [plainName, overriddenIn])) (fun m => ef6 m o) ?_
  show GoB6 l Z n0 (OwnW.Ret (some (.ref (f6 o rg))) h0) h0 0 0 0 #[.val (.ref o)] []
  refine OwnW.aloadN (pc' := 1) d6_0 rfl (rfl) rfl ?_
  refine OwnW.getF (a0 := a0) (pc' := 4) d6_1 (host := "") (Or.inl (hw _ (List.mem_of_getElem? (i := 43) rfl))) Via.refl F_range rfl ?_
  exact OwnW.retA d6_4 rfl rfl rfl (by decide) (by decide) (⟨by first | (simp only [f6]; done) | (simp only [f6]; rfl), rfl⟩)
theorem d8_0 : decode jdk_2423_method_11_code 0 = .ok (.lload_n 1, 1) := by decide +kernel
theorem d8_1 : decode jdk_2423_method_11_code 1 = .ok (.aload_n 0, 1) := by decide +kernel
theorem d8_2 : decode jdk_2423_method_11_code 2 = .ok (.invokevirtual 46, 3) := by decide +kernel
theorem d8_5 : decode jdk_2423_method_11_code 5 = .ok (.lcmp, 1) := by decide +kernel
theorem d8_6 : decode jdk_2423_method_11_code 6 = .ok (.ifCond .lt 16, 3) := by decide +kernel
theorem d8_9 : decode jdk_2423_method_11_code 9 = .ok (.lload_n 1, 1) := by decide +kernel
theorem d8_10 : decode jdk_2423_method_11_code 10 = .ok (.aload_n 0, 1) := by decide +kernel
theorem d8_11 : decode jdk_2423_method_11_code 11 = .ok (.invokevirtual 54, 3) := by decide +kernel
theorem d8_14 : decode jdk_2423_method_11_code 14 = .ok (.lcmp, 1) := by decide +kernel
theorem d8_15 : decode jdk_2423_method_11_code 15 = .ok (.ifCond .gt 7, 3) := by decide +kernel
theorem d8_18 : decode jdk_2423_method_11_code 18 = .ok (.iconst 1, 1) := by decide +kernel
theorem d8_19 : decode jdk_2423_method_11_code 19 = .ok (.goto 4, 3) := by decide +kernel
theorem d8_22 : decode jdk_2423_method_11_code 22 = .ok (.iconst 0, 1) := by decide +kernel
theorem d8_23 : decode jdk_2423_method_11_code 23 = .ok (.ireturn, 1) := by decide +kernel
def f8 (o : Addr) (q0 : Int64) (mn : Int64) (mx : Int64) : Int32 := (if (lcmpW q0 (f9 o mn)) < (0 : Int32) then (0 : Int32) else (if (0 : Int32) < (lcmpW q0 (f10 o mx)) then (0 : Int32) else (1 : Int32)))
abbrev GoB8 (l : Launch) (Z : State) (n0 : Nat) (Q : Option Value → Heap → Prop) := Go l Z ({ frames := 1, cells := 0, slots := 0, locals := 14 } : Room) (⟨"java/time/temporal/ValueRange", "isValidValue", "(J)Z"⟩ : MethodName) jdk_2423_method_11_code 3 (some .boolean) n0 Q
theorem ef8 (m : MethodId) (o : Addr) (q0 : Int64) : entryFrame m #[(.ref o), (.long q0)] 3 = mkF m 0 #[.val (.ref o), .val (.long q0), .second] [] := by first | (simp [entryFrame, mkF, argsToLocals, Value.category]; done) | rfl
set_option maxRecDepth 65536 in
set_option maxHeartbeats 40000000 in
theorem rm8 (l : Launch) (Z : State) (a0 : Array Value) (hw : ∀ d ∈ tables_1, d.before a0 Z = true) (o : Addr) (q0 : Int64) (mn : Int64) (mx : Int64) (h0 : Heap) (n0 : Nat) (E_o : Exa Z h0 o "java/time/temporal/ValueRange") (F_min : Fld Z h0 o "java/time/temporal/ValueRange" "minSmallest" "J" (.long mn)) (F_max : Fld Z h0 o "java/time/temporal/ValueRange" "maxLargest" "J" (.long mx)) :
    Con l Z ({ frames := 1, cells := 0, slots := 0, locals := 14 } : Room) (⟨"java/time/temporal/ValueRange", "isValidValue", "(J)Z"⟩ : MethodName) jdk_2423_method_11_code 3 (some .boolean) n0 #[(.ref o), (.long q0)] h0 (OwnW.Ret (some (.int (f8 o q0 mn mx))) h0) := by
  refine OwnW.Con.of (by first | decide +kernel | exact plainFor_of_name (by simp [plainName, overriddenIn])) (fun m => ef8 m o q0) ?_
  show GoB8 l Z n0 (OwnW.Ret (some (.int (f8 o q0 mn mx))) h0) h0 0 0 0 #[.val (.ref o), .val (.long q0), .second] []
  refine OwnW.lloadN (pc' := 1) d8_0 rfl rfl ?_
  refine OwnW.aloadN (pc' := 2) d8_1 rfl (rfl) rfl ?_
  refine OwnW.callV0 (a0 := a0) (pc' := 5) (W := 2) (k' := 0) (n' := 0) (argsL := []) (rest := [(.long q0)]) (St' := [(.long (f9 o mn)), (.long q0)]) d8_2 (hw _ (List.mem_of_getElem? (i := 56) rfl)) (hw _ (List.mem_of_getElem? (i := 57) rfl)) (hw _ (List.mem_of_getElem? (i := 59) rfl)) (hw _ (List.mem_of_getElem? (i := 58) rfl)) (hw _ (List.mem_of_getElem? (i := 49) rfl)) (hw _ (List.mem_of_getElem? (i := 60) rfl)) (by decide) E_o (rm9 l Z a0 hw o mn h0 n0 F_min) (by decide) (by decide) rfl rfl (by decide) (by decide) rfl pd_2829J rfl rfl rfl (Nat.le_of_ble_eq_true rfl) rfl rfl ?_
  refine OwnW.lcmp (pc' := 6) d8_5 rfl ?_
  by_cases hc6 : (lcmpW q0 (f9 o mn)) < (0 : Int32)
  ·
    refine OwnW.ifcY (pc' := 22) d8_6 ((if0 _ _).trans (tlt hc6).1) (by decide) (by decide) ?_
    refine OwnW.iconst (pc' := 23) (v := (0 : Int32)) d8_22 rfl rfl ?_
    exact OwnW.retN (t := .boolean) d8_23 rfl (by simp) rfl (by decide) (by decide) (⟨by first | (simp only [f8, if_pos hc6]; done) | (simp only [f8, if_pos hc6]; rfl), rfl⟩)
  ·
    refine OwnW.ifcN (pc' := 9) d8_6 ((if0 _ _).trans (flt hc6).1) rfl ?_
    refine OwnW.lloadN (pc' := 10) d8_9 rfl rfl ?_
    refine OwnW.aloadN (pc' := 11) d8_10 rfl (rfl) rfl ?_
    refine OwnW.callV0 (a0 := a0) (pc' := 14) (W := 2) (k' := 0) (n' := 0) (argsL := []) (rest := [(.long q0)]) (St' := [(.long (f10 o mx)), (.long q0)]) d8_11 (hw _ (List.mem_of_getElem? (i := 63) rfl)) (hw _ (List.mem_of_getElem? (i := 64) rfl)) (hw _ (List.mem_of_getElem? (i := 66) rfl)) (hw _ (List.mem_of_getElem? (i := 65) rfl)) (hw _ (List.mem_of_getElem? (i := 49) rfl)) (hw _ (List.mem_of_getElem? (i := 67) rfl)) (by decide) E_o (rm10 l Z a0 hw o mx h0 n0 F_max) (by decide) (by decide) rfl rfl (by decide) (by decide) rfl pd_2829J rfl rfl rfl (Nat.le_of_ble_eq_true rfl) rfl rfl ?_
    refine OwnW.lcmp (pc' := 15) d8_14 rfl ?_
    by_cases hc15 : (0 : Int32) < (lcmpW q0 (f10 o mx))
    ·
      refine OwnW.ifcY (pc' := 22) d8_15 ((if0 _ _).trans (tlt hc15).2.2.1) (by decide) (by decide) ?_
      refine OwnW.iconst (pc' := 23) (v := (0 : Int32)) d8_22 rfl rfl ?_
      exact OwnW.retN (t := .boolean) d8_23 rfl (by simp) rfl (by decide) (by decide) (⟨by first | (simp only [f8, if_neg hc6, if_pos hc15]; done) | (simp only [f8, if_neg hc6, if_pos hc15]; rfl), rfl⟩)
    ·
      refine OwnW.ifcN (pc' := 18) d8_15 ((if0 _ _).trans (flt hc15).2.2.1) rfl ?_
      refine OwnW.iconst (pc' := 19) (v := (1 : Int32)) d8_18 rfl rfl ?_
      refine OwnW.goto (pc' := 23) d8_19 (by decide) (by decide) ?_
      exact OwnW.retN (t := .boolean) d8_23 rfl (by simp) rfl (by decide) (by decide) (⟨by first | (simp only [f8, if_neg hc6, if_neg hc15]; done) | (simp only [f8, if_neg hc6, if_neg hc15]; rfl), rfl⟩)
theorem d7_0 : decode jdk_2423_method_13_code 0 = .ok (.aload_n 0, 1) := by decide +kernel
theorem d7_1 : decode jdk_2423_method_13_code 1 = .ok (.lload_n 1, 1) := by decide +kernel
theorem d7_2 : decode jdk_2423_method_13_code 2 = .ok (.invokevirtual 63, 3) := by decide +kernel
theorem d7_5 : decode jdk_2423_method_13_code 5 = .ok (.ifCond .ne 17, 3) := by decide +kernel
theorem d7_22 : decode jdk_2423_method_13_code 22 = .ok (.lload_n 1, 1) := by decide +kernel
theorem d7_23 : decode jdk_2423_method_13_code 23 = .ok (.lreturn, 1) := by decide +kernel
def f7 (o : Addr) (q0 : Int64) (q1 : Addr) (mn : Int64) (mx : Int64) : Int64 := q0
abbrev GoB7 (l : Launch) (Z : State) (n0 : Nat) (Q : Option Value → Heap → Prop) := Go l Z ({ frames := 2, cells := 0, slots := 0, locals := 28 } : Room) (⟨"java/time/temporal/ValueRange", "checkValidValue", "(JLjava/time/temporal/TemporalField;)J"⟩ : MethodName) jdk_2423_method_13_code 4 (some .long) n0 Q
theorem ef7 (m : MethodId) (o : Addr) (q0 : Int64) (q1 : Addr) : entryFrame m #[(.ref o), (.long q0), (.ref q1)] 4 = mkF m 0 #[.val (.ref o), .val (.long q0), .second, .val (.ref q1)] [] := by first | (simp [entryFrame, mkF, argsToLocals, Value.category]; done) | rfl
set_option maxRecDepth 65536 in
set_option maxHeartbeats 40000000 in
theorem rm7 (l : Launch) (Z : State) (a0 : Array Value) (hw : ∀ d ∈ tables_1, d.before a0 Z = true) (o : Addr) (q0 : Int64) (q1 : Addr) (mn : Int64) (mx : Int64) (h0 : Heap) (n0 : Nat) (E_o : Exa Z h0 o "java/time/temporal/ValueRange") (F_min : Fld Z h0 o "java/time/temporal/ValueRange" "minSmallest" "J" (.long mn)) (F_max : Fld Z h0 o "java/time/temporal/ValueRange" "maxLargest" "J" (.long mx)) (hlo : ¬ (lcmpW q0 mn) < (0 : Int32)) (hhi : ¬ (0 : Int32) < (lcmpW q0 mx)) :
    Con l Z ({ frames := 2, cells := 0, slots := 0, locals := 28 } : Room) (⟨"java/time/temporal/ValueRange", "checkValidValue", "(JLjava/time/temporal/TemporalField;)J"⟩ : MethodName) jdk_2423_method_13_code 4 (some .long) n0 #[(.ref o), (.long q0), (.ref q1)] h0 (OwnW.Ret (some (.long (f7 o q0 q1 mn mx))) h0) := by
  refine OwnW.Con.of (by first | decide +kernel | exact plainFor_of_name (by simp [plainName, overriddenIn])) (fun m => ef7 m o q0 q1) ?_
  show GoB7 l Z n0 (OwnW.Ret (some (.long (f7 o q0 q1 mn mx))) h0) h0 0 0 0 #[.val (.ref o), .val (.long q0), .second, .val (.ref q1)] []
  refine OwnW.aloadN (pc' := 1) d7_0 rfl (rfl) rfl ?_
  refine OwnW.lloadN (pc' := 2) d7_1 rfl rfl ?_
  refine OwnW.callV0 (a0 := a0) (pc' := 5) (W := 0) (k' := 0) (n' := 0) (argsL := [(.long q0)]) (rest := []) (St' := [(.int (f8 o q0 mn mx))]) d7_2 (hw _ (List.mem_of_getElem? (i := 51) rfl)) (hw _ (List.mem_of_getElem? (i := 52) rfl)) (hw _ (List.mem_of_getElem? (i := 54) rfl)) (hw _ (List.mem_of_getElem? (i := 53) rfl)) (hw _ (List.mem_of_getElem? (i := 49) rfl)) (hw _ (List.mem_of_getElem? (i := 55) rfl)) (by decide) E_o (rm8 l Z a0 hw o q0 mn mx h0 n0 E_o F_min F_max) (by decide) (by decide) rfl rfl (by decide) (by decide) rfl pd_28J29Z rfl rfl rfl (Nat.le_of_ble_eq_true rfl) rfl rfl ?_
  rw [show (f8 o q0 mn mx) = (1 : Int32) from (if_neg hlo).trans (if_neg hhi)]
  show GoB7 l Z n0 (OwnW.Ret (some (.long (f7 o q0 q1 mn mx))) h0) h0 0 0 5 #[.val (.ref o), .val (.long q0), .second, .val (.ref q1)] [(.int (1 : Int32))]
  refine OwnW.ifcY (pc' := 22) d7_5 ((if0 _ _).trans (feq (by decide)).2) (by decide) (by decide) ?_
  refine OwnW.lloadN (pc' := 23) d7_22 rfl rfl ?_
  exact OwnW.retJ d7_23 rfl (by decide) (by decide) (⟨by first | (simp only [f7]; done) | (simp only [f7]; rfl), rfl⟩)
theorem d5_0 : decode jdk_2395_method_11_code 0 = .ok (.aload_n 0, 1) := by decide +kernel
theorem d5_1 : decode jdk_2395_method_11_code 1 = .ok (.invokevirtual 190, 3) := by decide +kernel
theorem d5_4 : decode jdk_2395_method_11_code 4 = .ok (.lload_n 1, 1) := by decide +kernel
theorem d5_5 : decode jdk_2395_method_11_code 5 = .ok (.aload_n 0, 1) := by decide +kernel
theorem d5_6 : decode jdk_2395_method_11_code 6 = .ok (.invokevirtual 193, 3) := by decide +kernel
theorem d5_9 : decode jdk_2395_method_11_code 9 = .ok (.lreturn, 1) := by decide +kernel
def f5 (o : Addr) (q0 : Int64) (rg : Addr) (mn : Int64) (mx : Int64) : Int64 := (f7 rg q0 o mn mx)
abbrev GoB5 (l : Launch) (Z : State) (n0 : Nat) (Q : Option Value → Heap → Prop) := Go l Z ({ frames := 3, cells := 0, slots := 0, locals := 43 } : Room) (⟨"java/time/temporal/ChronoField", "checkValidValue", "(J)J"⟩ : MethodName) jdk_2395_method_11_code 3 (some .long) n0 Q
theorem ef5 (m : MethodId) (o : Addr) (q0 : Int64) : entryFrame m #[(.ref o), (.long q0)] 3 = mkF m 0 #[.val (.ref o), .val (.long q0), .second] [] := by first | (simp [entryFrame, mkF, argsToLocals, Value.category]; done) | rfl
set_option maxRecDepth 65536 in
set_option maxHeartbeats 40000000 in
theorem rm5 (l : Launch) (Z : State) (a0 : Array Value) (hw : ∀ d ∈ tables_1, d.before a0 Z = true) (o : Addr) (q0 : Int64) (rg : Addr) (mn : Int64) (mx : Int64) (h0 : Heap) (n0 : Nat) (E_o : Exa Z h0 o "java/time/temporal/ChronoField") (F_range : Fld Z h0 o "java/time/temporal/ChronoField" "range" "Ljava/time/temporal/ValueRange;" (.ref rg)) (E_rg : Exa Z h0 rg "java/time/temporal/ValueRange") (F_min : Fld Z h0 rg "java/time/temporal/ValueRange" "minSmallest" "J" (.long mn)) (F_max : Fld Z h0 rg "java/time/temporal/ValueRange" "maxLargest" "J" (.long mx)) (hlo : ¬ (lcmpW q0 mn) < (0 : Int32)) (hhi : ¬ (0 : Int32) < (lcmpW q0 mx)) :
    Con l Z ({ frames := 3, cells := 0, slots := 0, locals := 43 } : Room) (⟨"java/time/temporal/ChronoField", "checkValidValue", "(J)J"⟩ : MethodName) jdk_2395_method_11_code 3 (some .long) n0 #[(.ref o), (.long q0)] h0 (OwnW.Ret (some (.long (f5 o q0 rg mn mx))) h0) := by
  refine OwnW.Con.of (by first | decide +kernel | exact plainFor_of_name (by simp [plainName, overriddenIn])) (fun m => ef5 m o q0) ?_
  show GoB5 l Z n0 (OwnW.Ret (some (.long (f5 o q0 rg mn mx))) h0) h0 0 0 0 #[.val (.ref o), .val (.long q0), .second] []
  refine OwnW.aloadN (pc' := 1) d5_0 rfl (rfl) rfl ?_
  refine OwnW.callV0 (a0 := a0) (pc' := 4) (W := 0) (k' := 0) (n' := 0) (argsL := []) (rest := []) (St' := [(.ref (f6 o rg))]) d5_1 (hw _ (List.mem_of_getElem? (i := 38) rfl)) (hw _ (List.mem_of_getElem? (i := 39) rfl)) (hw _ (List.mem_of_getElem? (i := 41) rfl)) (hw _ (List.mem_of_getElem? (i := 40) rfl)) (hw _ (List.mem_of_getElem? (i := 32) rfl)) (hw _ (List.mem_of_getElem? (i := 42) rfl)) (by decide) E_o (rm6 l Z a0 hw o rg h0 n0 F_range) (by decide) (by decide) rfl rfl (by decide) (by decide) rfl pd_2829Ljava2ftime2ftemporal2fValueRange3b rfl rfl rfl (Nat.le_of_ble_eq_true rfl) rfl rfl ?_
  rw [show (f6 o rg) = rg from rfl]
  show GoB5 l Z n0 (OwnW.Ret (some (.long (f5 o q0 rg mn mx))) h0) h0 0 0 4 #[.val (.ref o), .val (.long q0), .second] [(.ref rg)]
  refine OwnW.lloadN (pc' := 5) d5_4 rfl rfl ?_
  refine OwnW.aloadN (pc' := 6) d5_5 rfl (rfl) rfl ?_
  refine OwnW.callV0 (a0 := a0) (pc' := 9) (W := 0) (k' := 0) (n' := 0) (argsL := [(.long q0), (.ref o)]) (rest := []) (St' := [(.long (f7 rg q0 o mn mx))]) d5_6 (hw _ (List.mem_of_getElem? (i := 45) rfl)) (hw _ (List.mem_of_getElem? (i := 46) rfl)) (hw _ (List.mem_of_getElem? (i := 48) rfl)) (hw _ (List.mem_of_getElem? (i := 47) rfl)) (hw _ (List.mem_of_getElem? (i := 49) rfl)) (hw _ (List.mem_of_getElem? (i := 50) rfl)) (by decide) E_rg (rm7 l Z a0 hw rg q0 o mn mx h0 n0 E_rg F_min F_max hlo hhi) (by decide) (by decide) rfl rfl (by decide) (by decide) rfl pd_28JLjava2ftime2ftemporal2fTemporalField3b29J rfl rfl rfl (Nat.le_of_ble_eq_true rfl) rfl rfl ?_
  exact OwnW.retJ d5_9 rfl (by decide) (by decide) (⟨by first | (simp only [f5]; done) | (simp only [f5]; rfl), rfl⟩)
theorem d12_0 : decode jdk_2323_method_14_code 0 = .ok (.aload_n 0, 1) := by decide +kernel
theorem d12_1 : decode jdk_2323_method_14_code 1 = .ok (.invokespecial 243, 3) := by decide +kernel
theorem d12_4 : decode jdk_2323_method_14_code 4 = .ok (.aload_n 0, 1) := by decide +kernel
theorem d12_5 : decode jdk_2323_method_14_code 5 = .ok (.iload_n 1, 1) := by decide +kernel
theorem d12_6 : decode jdk_2323_method_14_code 6 = .ok (.putfield 246, 3) := by decide +kernel
theorem d12_9 : decode jdk_2323_method_14_code 9 = .ok (.aload_n 0, 1) := by decide +kernel
theorem d12_10 : decode jdk_2323_method_14_code 10 = .ok (.iload_n 2, 1) := by decide +kernel
theorem d12_11 : decode jdk_2323_method_14_code 11 = .ok (.i2s, 1) := by decide +kernel
theorem d12_12 : decode jdk_2323_method_14_code 12 = .ok (.putfield 250, 3) := by decide +kernel
theorem d12_15 : decode jdk_2323_method_14_code 15 = .ok (.aload_n 0, 1) := by decide +kernel
theorem d12_16 : decode jdk_2323_method_14_code 16 = .ok (.iload_n 3, 1) := by decide +kernel
theorem d12_17 : decode jdk_2323_method_14_code 17 = .ok (.i2s, 1) := by decide +kernel
theorem d12_18 : decode jdk_2323_method_14_code 18 = .ok (.putfield 253, 3) := by decide +kernel
theorem d12_21 : decode jdk_2323_method_14_code 21 = .ok (.return_, 1) := by decide +kernel
def Q12 (Z : State) (o : Addr) (q0 : Int32) (q1 : Int32) (q2 : Int32) (h0 : Heap) (v : Option Value) (h : Heap) : Prop := v = none ∧ Keep h0 h [o] ∧ Exa Z h o "java/time/LocalDate" ∧ Fld Z h o "java/time/LocalDate" "year" "I" (.int q0) ∧ Fld Z h o "java/time/LocalDate" "month" "S" (.int (nar .short (q1.toInt16.toInt32))) ∧ Fld Z h o "java/time/LocalDate" "day" "S" (.int (nar .short (q2.toInt16.toInt32)))
abbrev GoB12 (l : Launch) (Z : State) (n0 : Nat) (Q : Option Value → Heap → Prop) := Go l Z ({ frames := 1, cells := 0, slots := 0, locals := 12 } : Room) (⟨"java/time/LocalDate", "<init>", "(III)V"⟩ : MethodName) jdk_2323_method_14_code 4 none n0 Q
theorem ef12 (m : MethodId) (o : Addr) (q0 : Int32) (q1 : Int32) (q2 : Int32) : entryFrame m #[(.ref o), (.int q0), (.int q1), (.int q2)] 4 = mkF m 0 #[.val (.ref o), .val (.int q0), .val (.int q1), .val (.int q2)] [] := by first | (simp [entryFrame, mkF, argsToLocals, Value.category]; done) | rfl
set_option maxRecDepth 65536 in
set_option maxHeartbeats 40000000 in
theorem rm12 (l : Launch) (Z : State) (a0 : Array Value) (hw : ∀ d ∈ tables_1, d.before a0 Z = true) (o : Addr) (q0 : Int32) (q1 : Int32) (q2 : Int32) (h0 : Heap) (n0 : Nat) (Z0 : n0 ≤ h0.size) (g_o : n0 ≤ o) (E_o : Exa Z h0 o "java/time/LocalDate") (F_year : Fld Z h0 o "java/time/LocalDate" "year" "I" (.int (0 : Int32))) (F_month : Fld Z h0 o "java/time/LocalDate" "month" "S" (.int (0 : Int32))) (F_day : Fld Z h0 o "java/time/LocalDate" "day" "S" (.int (0 : Int32))) :
    Con l Z ({ frames := 1, cells := 0, slots := 0, locals := 12 } : Room) (⟨"java/time/LocalDate", "<init>", "(III)V"⟩ : MethodName) jdk_2323_method_14_code 4 none n0 #[(.ref o), (.int q0), (.int q1), (.int q2)] h0 (Q12 Z o q0 q1 q2 h0) := by
  refine OwnW.Con.of (by first | decide +kernel | exact plainFor_of_name (by simp [plainName, overriddenIn])) (fun m => ef12 m o q0 q1 q2) ?_
  show GoB12 l Z n0 (Q12 Z o q0 q1 q2 h0) h0 0 0 0 #[.val (.ref o), .val (.int q0), .val (.int q1), .val (.int q2)] []
  refine OwnW.aloadN (pc' := 1) d12_0 rfl (rfl) rfl ?_
  refine OwnW.initO (a0 := a0) (pc' := 4) (W := 0) d12_1 (hw _ (List.mem_of_getElem? (i := 81) rfl)) (hw _ (List.mem_of_getElem? (i := 15) rfl)) (hw _ (List.mem_of_getElem? (i := 16) rfl)) rfl (by decide) (Nat.le_of_ble_eq_true rfl) (by decide) rfl ?_
  refine OwnW.aloadN (pc' := 5) d12_4 rfl (rfl) rfl ?_
  refine OwnW.iloadN (pc' := 6) d12_5 rfl rfl ?_
  refine OwnW.putF (a0 := a0) (pc' := 9) d12_6 (host := "") (Or.inl (hw _ (List.mem_of_getElem? (i := 82) rfl))) Via.refl F_year E_o (Or.inr ⟨(hw _ (List.mem_of_getElem? (i := 83) rfl)), rfl, rfl⟩) (hw _ (List.mem_of_getElem? (i := 76) rfl)) (ty := .int) (by decide) rfl rfl g_o rfl ?_
  intro h1 W1
  have sz2 : n0 ≤ h1.size := (by rw [W1.size]; exact Z0)
  have F3 := F_year.same W1
  refine OwnW.aloadN (pc' := 10) d12_9 rfl (rfl) rfl ?_
  refine OwnW.iloadN (pc' := 11) d12_10 rfl rfl ?_
  refine OwnW.i2s (pc' := 12) d12_11 rfl ?_
  have F5 := (F_month.other W1 (Or.inr (slot_ne (a0 := a0) (C := "java/time/LocalDate") (Or.inr (hw _ (List.mem_of_getElem? (i := 85) rfl))) (Or.inr (hw _ (List.mem_of_getElem? (i := 83) rfl))) (by decide) (t := .short) (t' := .int) (by decide) (by decide))))
  have F6 := (E_o.wr W1)
  refine OwnW.putFN (a0 := a0) (pc' := 15) (v' := (.int (nar .short (q1.toInt16.toInt32)))) d12_12 (hw _ (List.mem_of_getElem? (i := 84) rfl)) Via.refl F5 F6 (Or.inr ⟨(hw _ (List.mem_of_getElem? (i := 85) rfl)), rfl, rfl⟩) (hw _ (List.mem_of_getElem? (i := 76) rfl)) (ty := .short) (by decide) rfl (fits_nar_short _) g_o rfl ?_
  intro h4 W4
  have sz7 : n0 ≤ h4.size := (by rw [W4.size]; exact sz2)
  have F8 := F5.same W4
  refine OwnW.aloadN (pc' := 16) d12_15 rfl (rfl) rfl ?_
  refine OwnW.iloadN (pc' := 17) d12_16 rfl rfl ?_
  refine OwnW.i2s (pc' := 18) d12_17 rfl ?_
  have F10 := ((F_day.other W1 (Or.inr (slot_ne (a0 := a0) (C := "java/time/LocalDate") (Or.inr (hw _ (List.mem_of_getElem? (i := 87) rfl))) (Or.inr (hw _ (List.mem_of_getElem? (i := 83) rfl))) (by decide) (t := .short) (t' := .int) (by decide) (by decide)))).other W4 (Or.inr (slot_ne (a0 := a0) (C := "java/time/LocalDate") (Or.inr (hw _ (List.mem_of_getElem? (i := 87) rfl))) (Or.inr (hw _ (List.mem_of_getElem? (i := 85) rfl))) (by decide) (t := .short) (t' := .short) (by decide) (by decide))))
  have F11 := (F6.wr W4)
  refine OwnW.putFN (a0 := a0) (pc' := 21) (v' := (.int (nar .short (q2.toInt16.toInt32)))) d12_18 (hw _ (List.mem_of_getElem? (i := 86) rfl)) Via.refl F10 F11 (Or.inr ⟨(hw _ (List.mem_of_getElem? (i := 87) rfl)), rfl, rfl⟩) (hw _ (List.mem_of_getElem? (i := 76) rfl)) (ty := .short) (by decide) rfl (fits_nar_short _) g_o rfl ?_
  intro h9 W9
  have sz12 : n0 ≤ h9.size := (by rw [W9.size]; exact sz7)
  have F13 := F10.same W9
  exact OwnW.ret0 d12_21 rfl (by decide) (by decide) (⟨rfl, ((((Keep.refl h0 [o]).wr W1 (Or.inl (List.mem_of_getElem? (i := 0) rfl))).wr W4 (Or.inl (List.mem_of_getElem? (i := 0) rfl))).wr W9 (Or.inl (List.mem_of_getElem? (i := 0) rfl))), (F11.wr W9), ((F3.other W4 (Or.inr (slot_ne (a0 := a0) (C := "java/time/LocalDate") (Or.inr (hw _ (List.mem_of_getElem? (i := 83) rfl))) (Or.inr (hw _ (List.mem_of_getElem? (i := 85) rfl))) (by decide) (t := .int) (t' := .short) (by decide) (by decide)))).other W9 (Or.inr (slot_ne (a0 := a0) (C := "java/time/LocalDate") (Or.inr (hw _ (List.mem_of_getElem? (i := 83) rfl))) (Or.inr (hw _ (List.mem_of_getElem? (i := 87) rfl))) (by decide) (t := .int) (t' := .short) (by decide) (by decide)))), (F8.other W9 (Or.inr (slot_ne (a0 := a0) (C := "java/time/LocalDate") (Or.inr (hw _ (List.mem_of_getElem? (i := 85) rfl))) (Or.inr (hw _ (List.mem_of_getElem? (i := 87) rfl))) (by decide) (t := .short) (t' := .short) (by decide) (by decide)))), F13⟩)
theorem d11_0 : decode jdk_2323_method_12_code 0 = .ok (.iload_n 2, 1) := by decide +kernel
theorem d11_1 : decode jdk_2323_method_12_code 1 = .ok (.bipush 28, 2) := by decide +kernel
theorem d11_3 : decode jdk_2323_method_12_code 3 = .ok (.if_icmp .le 176, 3) := by decide +kernel
theorem d11_6 : decode jdk_2323_method_12_code 6 = .ok (.iload_n 1, 1) := by decide +kernel
theorem d11_7 : decode jdk_2323_method_12_code 7 = .ok (.tableswitch 79 2 11 #[53, 79, 74, 79, 74, 79, 79, 74, 79, 74], 53) := by decide +kernel
theorem d11_81 : decode jdk_2323_method_12_code 81 = .ok (.bipush 30, 2) := by decide +kernel
theorem d11_83 : decode jdk_2323_method_12_code 83 = .ok (.goto 5, 3) := by decide +kernel
theorem d11_86 : decode jdk_2323_method_12_code 86 = .ok (.bipush 31, 2) := by decide +kernel
theorem d11_88 : decode jdk_2323_method_12_code 88 = .ok (.istore_n 3, 1) := by decide +kernel
theorem d11_89 : decode jdk_2323_method_12_code 89 = .ok (.iload_n 2, 1) := by decide +kernel
theorem d11_90 : decode jdk_2323_method_12_code 90 = .ok (.iload_n 3, 1) := by decide +kernel
theorem d11_91 : decode jdk_2323_method_12_code 91 = .ok (.if_icmp .le 88, 3) := by decide +kernel
theorem d11_179 : decode jdk_2323_method_12_code 179 = .ok (.new 1, 3) := by decide +kernel
theorem d11_182 : decode jdk_2323_method_12_code 182 = .ok (.dup, 1) := by decide +kernel
theorem d11_183 : decode jdk_2323_method_12_code 183 = .ok (.iload_n 0, 1) := by decide +kernel
theorem d11_184 : decode jdk_2323_method_12_code 184 = .ok (.iload_n 1, 1) := by decide +kernel
theorem d11_185 : decode jdk_2323_method_12_code 185 = .ok (.iload_n 2, 1) := by decide +kernel
theorem d11_186 : decode jdk_2323_method_12_code 186 = .ok (.invokespecial 121, 3) := by decide +kernel
theorem d11_189 : decode jdk_2323_method_12_code 189 = .ok (.areturn, 1) := by decide +kernel
def Q11 (Z : State) (q0 : Int32) (q1 : Int32) (q2 : Int32) (h0 : Heap) (v : Option Value) (h : Heap) : Prop := ∃ (x0 : Addr), v = some (.ref x0) ∧ Keep h0 h [] ∧ h0.size ≤ x0 ∧ Exa Z h x0 "java/time/LocalDate" ∧ Fld Z h x0 "java/time/LocalDate" "year" "I" (.int q0) ∧ Fld Z h x0 "java/time/LocalDate" "month" "S" (.int (nar .short (q1.toInt16.toInt32))) ∧ Fld Z h x0 "java/time/LocalDate" "day" "S" (.int (nar .short (q2.toInt16.toInt32)))
abbrev GoB11 (l : Launch) (Z : State) (n0 : Nat) (Q : Option Value → Heap → Prop) := Go l Z ({ frames := 2, cells := 1, slots := 3, locals := 28 } : Room) (⟨"java/time/LocalDate", "create", "(III)Ljava/time/LocalDate;"⟩ : MethodName) jdk_2323_method_12_code 4 (some (.object "java/time/LocalDate")) n0 Q
theorem ef11 (m : MethodId) (q0 : Int32) (q1 : Int32) (q2 : Int32) : entryFrame m #[(.int q0), (.int q1), (.int q2)] 4 = mkF m 0 #[.val (.int q0), .val (.int q1), .val (.int q2), .unset] [] := by first | (simp [entryFrame, mkF, argsToLocals, Value.category]; done) | rfl
set_option maxRecDepth 65536 in
set_option maxHeartbeats 40000000 in
theorem rm11 (l : Launch) (Z : State) (a0 : Array Value) (hw : ∀ d ∈ tables_1, d.before a0 Z = true) (q0 : Int32) (q1 : Int32) (q2 : Int32) (h0 : Heap) (n0 : Nat) (Z0 : n0 ≤ h0.size) (hmo : q1.toInt = 1 ∨ q1.toInt = 2 ∨ q1.toInt = 3 ∨ q1.toInt = 4 ∨ q1.toInt = 5 ∨ q1.toInt = 6 ∨ q1.toInt = 7 ∨ q1.toInt = 8 ∨ q1.toInt = 9 ∨ q1.toInt = 10 ∨ q1.toInt = 11 ∨ q1.toInt = 12) (hd28 : q1.toInt = 2 → ¬ (28 : Int32) < q2) (hd30 : (q1.toInt = 4 ∨ q1.toInt = 6 ∨ q1.toInt = 9 ∨ q1.toInt = 11) → ¬ (30 : Int32) < q2) (hd31 : ¬ (31 : Int32) < q2) :
    Con l Z ({ frames := 2, cells := 1, slots := 3, locals := 28 } : Room) (⟨"java/time/LocalDate", "create", "(III)Ljava/time/LocalDate;"⟩ : MethodName) jdk_2323_method_12_code 4 (some (.object "java/time/LocalDate")) n0 #[(.int q0), (.int q1), (.int q2)] h0 (Q11 Z q0 q1 q2 h0) := by
  refine OwnW.Con.of (by first | decide +kernel | exact plainFor_of_name (by simp [plainName, overriddenIn])) (fun m => ef11 m q0 q1 q2) ?_
  show GoB11 l Z n0 (Q11 Z q0 q1 q2 h0) h0 0 0 0 #[.val (.int q0), .val (.int q1), .val (.int q2), .unset] []
  refine OwnW.iloadN (pc' := 1) d11_0 rfl rfl ?_
  refine OwnW.bipush (pc' := 3) (v := (28 : Int32)) d11_1 rfl rfl ?_
  by_cases hc3 : (28 : Int32) < q2
  ·
    refine OwnW.icmpN (pc' := 6) d11_3 (tlt hc3).2.2.2 rfl ?_
    refine OwnW.iloadN (pc' := 7) d11_6 rfl rfl ?_
    rcases hmo with hm | hm | hm | hm | hm | hm | hm | hm | hm | hm | hm | hm
    ·
      refine OwnW.tswOut (pc' := 86) d11_7 (by omega) (by decide) (by decide) ?_
      refine OwnW.bipush (pc' := 88) (v := (31 : Int32)) d11_86 rfl rfl ?_
      refine OwnW.istoreN (pc' := 89) (L' := #[.val (.int q0), .val (.int q1), .val (.int q2), .val (.int (31 : Int32))]) d11_88 rfl rfl ?_
      refine OwnW.iloadN (pc' := 90) d11_89 rfl rfl ?_
      refine OwnW.iloadN (pc' := 91) d11_90 rfl rfl ?_
      refine OwnW.icmpY (pc' := 179) d11_91 (flt hd31).2.2.2 (by decide) (by decide) ?_
      refine OwnW.newO (a0 := a0) (pc' := 182) (k' := 1) (n' := 3) d11_179 (hw _ (List.mem_of_getElem? (i := 75) rfl)) (hw _ (List.mem_of_getElem? (i := 76) rfl)) (hw _ (List.mem_of_getElem? (i := 29) rfl)) rfl rfl (by decide) (by decide) rfl ?_
      intro h1 ad1 g1 E1 A1 D1
      have ge_ad1 : n0 ≤ ad1 := Nat.le_trans Z0 (Nat.le_of_eq g1.symm)
      have sz_ad1 : n0 ≤ h1.size := Nat.le_trans Z0 E1.1
      have F1_year : Fld Z h1 ad1 "java/time/LocalDate" "year" "I" (.int (0 : Int32)) := D1 (Or.inr (hw _ (List.mem_of_getElem? (i := 83) rfl))) (ty := .int) (by decide)
      have F1_month : Fld Z h1 ad1 "java/time/LocalDate" "month" "S" (.int (0 : Int32)) := D1 (Or.inr (hw _ (List.mem_of_getElem? (i := 85) rfl))) (ty := .short) (by decide)
      have F1_day : Fld Z h1 ad1 "java/time/LocalDate" "day" "S" (.int (0 : Int32)) := D1 (Or.inr (hw _ (List.mem_of_getElem? (i := 87) rfl))) (ty := .short) (by decide)
      refine OwnW.dup (pc' := 183) d11_182 rfl rfl ?_
      refine OwnW.iloadN (pc' := 184) d11_183 rfl rfl ?_
      refine OwnW.iloadN (pc' := 185) d11_184 rfl rfl ?_
      refine OwnW.iloadN (pc' := 186) d11_185 rfl rfl ?_
      refine OwnW.callI (a0 := a0) (pc' := 189) (W := 1) (k' := 1) (n' := 3) (argsL := [(.int q0), (.int q1), (.int q2)]) (rest := [(.ref ad1)]) d11_186 rfl (hw _ (List.mem_of_getElem? (i := 77) rfl)) (hw _ (List.mem_of_getElem? (i := 78) rfl)) (hw _ (List.mem_of_getElem? (i := 29) rfl)) (hw _ (List.mem_of_getElem? (i := 80) rfl)) (by decide) (rm12 l Z a0 hw ad1 q0 q1 q2 h1 n0 sz_ad1 ge_ad1 A1 F1_year F1_month F1_day) (by decide) (by decide) rfl rfl (by decide) (by decide) rfl pd_28III29V rfl rfl rfl (Nat.le_of_ble_eq_true rfl) rfl ?_
      rintro h2 v2 ⟨rfl, K2, E2, F2_year, F2_month, F2_day⟩
      have sz3 : n0 ≤ h2.size := Nat.le_trans sz_ad1 K2.1
      show GoB11 l Z n0 (Q11 Z q0 q1 q2 h0) h2 1 3 189 #[.val (.int q0), .val (.int q1), .val (.int q2), .val (.int (31 : Int32))] [(.ref ad1)]
      exact OwnW.retA d11_189 rfl rfl rfl (by decide) (by decide) (⟨ad1, rfl, (((Keep.refl h0 []).ext E1).trans K2 (allS (Or.inr (Nat.le_trans (Nat.le_refl _) (Nat.le_of_eq g1.symm))) all0)), (Nat.le_trans (Nat.le_refl _) (Nat.le_of_eq g1.symm)), E2, F2_year, F2_month, F2_day⟩)
    ·
      exact absurd hc3 (hd28 hm)
    ·
      refine OwnW.tswIn (pc' := 86) (o := 79) d11_7 (by omega) (by rw [hm]; rfl) (by decide) (by decide) ?_
      refine OwnW.bipush (pc' := 88) (v := (31 : Int32)) d11_86 rfl rfl ?_
      refine OwnW.istoreN (pc' := 89) (L' := #[.val (.int q0), .val (.int q1), .val (.int q2), .val (.int (31 : Int32))]) d11_88 rfl rfl ?_
      refine OwnW.iloadN (pc' := 90) d11_89 rfl rfl ?_
      refine OwnW.iloadN (pc' := 91) d11_90 rfl rfl ?_
      refine OwnW.icmpY (pc' := 179) d11_91 (flt hd31).2.2.2 (by decide) (by decide) ?_
      refine OwnW.newO (a0 := a0) (pc' := 182) (k' := 1) (n' := 3) d11_179 (hw _ (List.mem_of_getElem? (i := 75) rfl)) (hw _ (List.mem_of_getElem? (i := 76) rfl)) (hw _ (List.mem_of_getElem? (i := 29) rfl)) rfl rfl (by decide) (by decide) rfl ?_
      intro h4 ad4 g4 E4 A4 D4
      have ge_ad4 : n0 ≤ ad4 := Nat.le_trans Z0 (Nat.le_of_eq g4.symm)
      have sz_ad4 : n0 ≤ h4.size := Nat.le_trans Z0 E4.1
      have F4_year : Fld Z h4 ad4 "java/time/LocalDate" "year" "I" (.int (0 : Int32)) := D4 (Or.inr (hw _ (List.mem_of_getElem? (i := 83) rfl))) (ty := .int) (by decide)
      have F4_month : Fld Z h4 ad4 "java/time/LocalDate" "month" "S" (.int (0 : Int32)) := D4 (Or.inr (hw _ (List.mem_of_getElem? (i := 85) rfl))) (ty := .short) (by decide)
      have F4_day : Fld Z h4 ad4 "java/time/LocalDate" "day" "S" (.int (0 : Int32)) := D4 (Or.inr (hw _ (List.mem_of_getElem? (i := 87) rfl))) (ty := .short) (by decide)
      refine OwnW.dup (pc' := 183) d11_182 rfl rfl ?_
      refine OwnW.iloadN (pc' := 184) d11_183 rfl rfl ?_
      refine OwnW.iloadN (pc' := 185) d11_184 rfl rfl ?_
      refine OwnW.iloadN (pc' := 186) d11_185 rfl rfl ?_
      refine OwnW.callI (a0 := a0) (pc' := 189) (W := 1) (k' := 1) (n' := 3) (argsL := [(.int q0), (.int q1), (.int q2)]) (rest := [(.ref ad4)]) d11_186 rfl (hw _ (List.mem_of_getElem? (i := 77) rfl)) (hw _ (List.mem_of_getElem? (i := 78) rfl)) (hw _ (List.mem_of_getElem? (i := 29) rfl)) (hw _ (List.mem_of_getElem? (i := 80) rfl)) (by decide) (rm12 l Z a0 hw ad4 q0 q1 q2 h4 n0 sz_ad4 ge_ad4 A4 F4_year F4_month F4_day) (by decide) (by decide) rfl rfl (by decide) (by decide) rfl pd_28III29V rfl rfl rfl (Nat.le_of_ble_eq_true rfl) rfl ?_
      rintro h5 v5 ⟨rfl, K5, E5, F5_year, F5_month, F5_day⟩
      have sz6 : n0 ≤ h5.size := Nat.le_trans sz_ad4 K5.1
      show GoB11 l Z n0 (Q11 Z q0 q1 q2 h0) h5 1 3 189 #[.val (.int q0), .val (.int q1), .val (.int q2), .val (.int (31 : Int32))] [(.ref ad4)]
      exact OwnW.retA d11_189 rfl rfl rfl (by decide) (by decide) (⟨ad4, rfl, (((Keep.refl h0 []).ext E4).trans K5 (allS (Or.inr (Nat.le_trans (Nat.le_refl _) (Nat.le_of_eq g4.symm))) all0)), (Nat.le_trans (Nat.le_refl _) (Nat.le_of_eq g4.symm)), E5, F5_year, F5_month, F5_day⟩)
    ·
      refine OwnW.tswIn (pc' := 81) (o := 74) d11_7 (by omega) (by rw [hm]; rfl) (by decide) (by decide) ?_
      refine OwnW.bipush (pc' := 83) (v := (30 : Int32)) d11_81 rfl rfl ?_
      refine OwnW.goto (pc' := 88) d11_83 (by decide) (by decide) ?_
      refine OwnW.istoreN (pc' := 89) (L' := #[.val (.int q0), .val (.int q1), .val (.int q2), .val (.int (30 : Int32))]) d11_88 rfl rfl ?_
      refine OwnW.iloadN (pc' := 90) d11_89 rfl rfl ?_
      refine OwnW.iloadN (pc' := 91) d11_90 rfl rfl ?_
      refine OwnW.icmpY (pc' := 179) d11_91 (flt (hd30 (by omega))).2.2.2 (by decide) (by decide) ?_
      refine OwnW.newO (a0 := a0) (pc' := 182) (k' := 1) (n' := 3) d11_179 (hw _ (List.mem_of_getElem? (i := 75) rfl)) (hw _ (List.mem_of_getElem? (i := 76) rfl)) (hw _ (List.mem_of_getElem? (i := 29) rfl)) rfl rfl (by decide) (by decide) rfl ?_
      intro h7 ad7 g7 E7 A7 D7
      have ge_ad7 : n0 ≤ ad7 := Nat.le_trans Z0 (Nat.le_of_eq g7.symm)
      have sz_ad7 : n0 ≤ h7.size := Nat.le_trans Z0 E7.1
      have F7_year : Fld Z h7 ad7 "java/time/LocalDate" "year" "I" (.int (0 : Int32)) := D7 (Or.inr (hw _ (List.mem_of_getElem? (i := 83) rfl))) (ty := .int) (by decide)
      have F7_month : Fld Z h7 ad7 "java/time/LocalDate" "month" "S" (.int (0 : Int32)) := D7 (Or.inr (hw _ (List.mem_of_getElem? (i := 85) rfl))) (ty := .short) (by decide)
      have F7_day : Fld Z h7 ad7 "java/time/LocalDate" "day" "S" (.int (0 : Int32)) := D7 (Or.inr (hw _ (List.mem_of_getElem? (i := 87) rfl))) (ty := .short) (by decide)
      refine OwnW.dup (pc' := 183) d11_182 rfl rfl ?_
      refine OwnW.iloadN (pc' := 184) d11_183 rfl rfl ?_
      refine OwnW.iloadN (pc' := 185) d11_184 rfl rfl ?_
      refine OwnW.iloadN (pc' := 186) d11_185 rfl rfl ?_
      refine OwnW.callI (a0 := a0) (pc' := 189) (W := 1) (k' := 1) (n' := 3) (argsL := [(.int q0), (.int q1), (.int q2)]) (rest := [(.ref ad7)]) d11_186 rfl (hw _ (List.mem_of_getElem? (i := 77) rfl)) (hw _ (List.mem_of_getElem? (i := 78) rfl)) (hw _ (List.mem_of_getElem? (i := 29) rfl)) (hw _ (List.mem_of_getElem? (i := 80) rfl)) (by decide) (rm12 l Z a0 hw ad7 q0 q1 q2 h7 n0 sz_ad7 ge_ad7 A7 F7_year F7_month F7_day) (by decide) (by decide) rfl rfl (by decide) (by decide) rfl pd_28III29V rfl rfl rfl (Nat.le_of_ble_eq_true rfl) rfl ?_
      rintro h8 v8 ⟨rfl, K8, E8, F8_year, F8_month, F8_day⟩
      have sz9 : n0 ≤ h8.size := Nat.le_trans sz_ad7 K8.1
      show GoB11 l Z n0 (Q11 Z q0 q1 q2 h0) h8 1 3 189 #[.val (.int q0), .val (.int q1), .val (.int q2), .val (.int (30 : Int32))] [(.ref ad7)]
      exact OwnW.retA d11_189 rfl rfl rfl (by decide) (by decide) (⟨ad7, rfl, (((Keep.refl h0 []).ext E7).trans K8 (allS (Or.inr (Nat.le_trans (Nat.le_refl _) (Nat.le_of_eq g7.symm))) all0)), (Nat.le_trans (Nat.le_refl _) (Nat.le_of_eq g7.symm)), E8, F8_year, F8_month, F8_day⟩)
    ·
      refine OwnW.tswIn (pc' := 86) (o := 79) d11_7 (by omega) (by rw [hm]; rfl) (by decide) (by decide) ?_
      refine OwnW.bipush (pc' := 88) (v := (31 : Int32)) d11_86 rfl rfl ?_
      refine OwnW.istoreN (pc' := 89) (L' := #[.val (.int q0), .val (.int q1), .val (.int q2), .val (.int (31 : Int32))]) d11_88 rfl rfl ?_
      refine OwnW.iloadN (pc' := 90) d11_89 rfl rfl ?_
      refine OwnW.iloadN (pc' := 91) d11_90 rfl rfl ?_
      refine OwnW.icmpY (pc' := 179) d11_91 (flt hd31).2.2.2 (by decide) (by decide) ?_
      refine OwnW.newO (a0 := a0) (pc' := 182) (k' := 1) (n' := 3) d11_179 (hw _ (List.mem_of_getElem? (i := 75) rfl)) (hw _ (List.mem_of_getElem? (i := 76) rfl)) (hw _ (List.mem_of_getElem? (i := 29) rfl)) rfl rfl (by decide) (by decide) rfl ?_
      intro h10 ad10 g10 E10 A10 D10
      have ge_ad10 : n0 ≤ ad10 := Nat.le_trans Z0 (Nat.le_of_eq g10.symm)
      have sz_ad10 : n0 ≤ h10.size := Nat.le_trans Z0 E10.1
      have F10_year : Fld Z h10 ad10 "java/time/LocalDate" "year" "I" (.int (0 : Int32)) := D10 (Or.inr (hw _ (List.mem_of_getElem? (i := 83) rfl))) (ty := .int) (by decide)
      have F10_month : Fld Z h10 ad10 "java/time/LocalDate" "month" "S" (.int (0 : Int32)) := D10 (Or.inr (hw _ (List.mem_of_getElem? (i := 85) rfl))) (ty := .short) (by decide)
      have F10_day : Fld Z h10 ad10 "java/time/LocalDate" "day" "S" (.int (0 : Int32)) := D10 (Or.inr (hw _ (List.mem_of_getElem? (i := 87) rfl))) (ty := .short) (by decide)
      refine OwnW.dup (pc' := 183) d11_182 rfl rfl ?_
      refine OwnW.iloadN (pc' := 184) d11_183 rfl rfl ?_
      refine OwnW.iloadN (pc' := 185) d11_184 rfl rfl ?_
      refine OwnW.iloadN (pc' := 186) d11_185 rfl rfl ?_
      refine OwnW.callI (a0 := a0) (pc' := 189) (W := 1) (k' := 1) (n' := 3) (argsL := [(.int q0), (.int q1), (.int q2)]) (rest := [(.ref ad10)]) d11_186 rfl (hw _ (List.mem_of_getElem? (i := 77) rfl)) (hw _ (List.mem_of_getElem? (i := 78) rfl)) (hw _ (List.mem_of_getElem? (i := 29) rfl)) (hw _ (List.mem_of_getElem? (i := 80) rfl)) (by decide) (rm12 l Z a0 hw ad10 q0 q1 q2 h10 n0 sz_ad10 ge_ad10 A10 F10_year F10_month F10_day) (by decide) (by decide) rfl rfl (by decide) (by decide) rfl pd_28III29V rfl rfl rfl (Nat.le_of_ble_eq_true rfl) rfl ?_
      rintro h11 v11 ⟨rfl, K11, E11, F11_year, F11_month, F11_day⟩
      have sz12 : n0 ≤ h11.size := Nat.le_trans sz_ad10 K11.1
      show GoB11 l Z n0 (Q11 Z q0 q1 q2 h0) h11 1 3 189 #[.val (.int q0), .val (.int q1), .val (.int q2), .val (.int (31 : Int32))] [(.ref ad10)]
      exact OwnW.retA d11_189 rfl rfl rfl (by decide) (by decide) (⟨ad10, rfl, (((Keep.refl h0 []).ext E10).trans K11 (allS (Or.inr (Nat.le_trans (Nat.le_refl _) (Nat.le_of_eq g10.symm))) all0)), (Nat.le_trans (Nat.le_refl _) (Nat.le_of_eq g10.symm)), E11, F11_year, F11_month, F11_day⟩)
    ·
      refine OwnW.tswIn (pc' := 81) (o := 74) d11_7 (by omega) (by rw [hm]; rfl) (by decide) (by decide) ?_
      refine OwnW.bipush (pc' := 83) (v := (30 : Int32)) d11_81 rfl rfl ?_
      refine OwnW.goto (pc' := 88) d11_83 (by decide) (by decide) ?_
      refine OwnW.istoreN (pc' := 89) (L' := #[.val (.int q0), .val (.int q1), .val (.int q2), .val (.int (30 : Int32))]) d11_88 rfl rfl ?_
      refine OwnW.iloadN (pc' := 90) d11_89 rfl rfl ?_
      refine OwnW.iloadN (pc' := 91) d11_90 rfl rfl ?_
      refine OwnW.icmpY (pc' := 179) d11_91 (flt (hd30 (by omega))).2.2.2 (by decide) (by decide) ?_
      refine OwnW.newO (a0 := a0) (pc' := 182) (k' := 1) (n' := 3) d11_179 (hw _ (List.mem_of_getElem? (i := 75) rfl)) (hw _ (List.mem_of_getElem? (i := 76) rfl)) (hw _ (List.mem_of_getElem? (i := 29) rfl)) rfl rfl (by decide) (by decide) rfl ?_
      intro h13 ad13 g13 E13 A13 D13
      have ge_ad13 : n0 ≤ ad13 := Nat.le_trans Z0 (Nat.le_of_eq g13.symm)
      have sz_ad13 : n0 ≤ h13.size := Nat.le_trans Z0 E13.1
      have F13_year : Fld Z h13 ad13 "java/time/LocalDate" "year" "I" (.int (0 : Int32)) := D13 (Or.inr (hw _ (List.mem_of_getElem? (i := 83) rfl))) (ty := .int) (by decide)
      have F13_month : Fld Z h13 ad13 "java/time/LocalDate" "month" "S" (.int (0 : Int32)) := D13 (Or.inr (hw _ (List.mem_of_getElem? (i := 85) rfl))) (ty := .short) (by decide)
      have F13_day : Fld Z h13 ad13 "java/time/LocalDate" "day" "S" (.int (0 : Int32)) := D13 (Or.inr (hw _ (List.mem_of_getElem? (i := 87) rfl))) (ty := .short) (by decide)
      refine OwnW.dup (pc' := 183) d11_182 rfl rfl ?_
      refine OwnW.iloadN (pc' := 184) d11_183 rfl rfl ?_
      refine OwnW.iloadN (pc' := 185) d11_184 rfl rfl ?_
      refine OwnW.iloadN (pc' := 186) d11_185 rfl rfl ?_
      refine OwnW.callI (a0 := a0) (pc' := 189) (W := 1) (k' := 1) (n' := 3) (argsL := [(.int q0), (.int q1), (.int q2)]) (rest := [(.ref ad13)]) d11_186 rfl (hw _ (List.mem_of_getElem? (i := 77) rfl)) (hw _ (List.mem_of_getElem? (i := 78) rfl)) (hw _ (List.mem_of_getElem? (i := 29) rfl)) (hw _ (List.mem_of_getElem? (i := 80) rfl)) (by decide) (rm12 l Z a0 hw ad13 q0 q1 q2 h13 n0 sz_ad13 ge_ad13 A13 F13_year F13_month F13_day) (by decide) (by decide) rfl rfl (by decide) (by decide) rfl pd_28III29V rfl rfl rfl (Nat.le_of_ble_eq_true rfl) rfl ?_
      rintro h14 v14 ⟨rfl, K14, E14, F14_year, F14_month, F14_day⟩
      have sz15 : n0 ≤ h14.size := Nat.le_trans sz_ad13 K14.1
      show GoB11 l Z n0 (Q11 Z q0 q1 q2 h0) h14 1 3 189 #[.val (.int q0), .val (.int q1), .val (.int q2), .val (.int (30 : Int32))] [(.ref ad13)]
      exact OwnW.retA d11_189 rfl rfl rfl (by decide) (by decide) (⟨ad13, rfl, (((Keep.refl h0 []).ext E13).trans K14 (allS (Or.inr (Nat.le_trans (Nat.le_refl _) (Nat.le_of_eq g13.symm))) all0)), (Nat.le_trans (Nat.le_refl _) (Nat.le_of_eq g13.symm)), E14, F14_year, F14_month, F14_day⟩)
    ·
      refine OwnW.tswIn (pc' := 86) (o := 79) d11_7 (by omega) (by rw [hm]; rfl) (by decide) (by decide) ?_
      refine OwnW.bipush (pc' := 88) (v := (31 : Int32)) d11_86 rfl rfl ?_
      refine OwnW.istoreN (pc' := 89) (L' := #[.val (.int q0), .val (.int q1), .val (.int q2), .val (.int (31 : Int32))]) d11_88 rfl rfl ?_
      refine OwnW.iloadN (pc' := 90) d11_89 rfl rfl ?_
      refine OwnW.iloadN (pc' := 91) d11_90 rfl rfl ?_
      refine OwnW.icmpY (pc' := 179) d11_91 (flt hd31).2.2.2 (by decide) (by decide) ?_
      refine OwnW.newO (a0 := a0) (pc' := 182) (k' := 1) (n' := 3) d11_179 (hw _ (List.mem_of_getElem? (i := 75) rfl)) (hw _ (List.mem_of_getElem? (i := 76) rfl)) (hw _ (List.mem_of_getElem? (i := 29) rfl)) rfl rfl (by decide) (by decide) rfl ?_
      intro h16 ad16 g16 E16 A16 D16
      have ge_ad16 : n0 ≤ ad16 := Nat.le_trans Z0 (Nat.le_of_eq g16.symm)
      have sz_ad16 : n0 ≤ h16.size := Nat.le_trans Z0 E16.1
      have F16_year : Fld Z h16 ad16 "java/time/LocalDate" "year" "I" (.int (0 : Int32)) := D16 (Or.inr (hw _ (List.mem_of_getElem? (i := 83) rfl))) (ty := .int) (by decide)
      have F16_month : Fld Z h16 ad16 "java/time/LocalDate" "month" "S" (.int (0 : Int32)) := D16 (Or.inr (hw _ (List.mem_of_getElem? (i := 85) rfl))) (ty := .short) (by decide)
      have F16_day : Fld Z h16 ad16 "java/time/LocalDate" "day" "S" (.int (0 : Int32)) := D16 (Or.inr (hw _ (List.mem_of_getElem? (i := 87) rfl))) (ty := .short) (by decide)
      refine OwnW.dup (pc' := 183) d11_182 rfl rfl ?_
      refine OwnW.iloadN (pc' := 184) d11_183 rfl rfl ?_
      refine OwnW.iloadN (pc' := 185) d11_184 rfl rfl ?_
      refine OwnW.iloadN (pc' := 186) d11_185 rfl rfl ?_
      refine OwnW.callI (a0 := a0) (pc' := 189) (W := 1) (k' := 1) (n' := 3) (argsL := [(.int q0), (.int q1), (.int q2)]) (rest := [(.ref ad16)]) d11_186 rfl (hw _ (List.mem_of_getElem? (i := 77) rfl)) (hw _ (List.mem_of_getElem? (i := 78) rfl)) (hw _ (List.mem_of_getElem? (i := 29) rfl)) (hw _ (List.mem_of_getElem? (i := 80) rfl)) (by decide) (rm12 l Z a0 hw ad16 q0 q1 q2 h16 n0 sz_ad16 ge_ad16 A16 F16_year F16_month F16_day) (by decide) (by decide) rfl rfl (by decide) (by decide) rfl pd_28III29V rfl rfl rfl (Nat.le_of_ble_eq_true rfl) rfl ?_
      rintro h17 v17 ⟨rfl, K17, E17, F17_year, F17_month, F17_day⟩
      have sz18 : n0 ≤ h17.size := Nat.le_trans sz_ad16 K17.1
      show GoB11 l Z n0 (Q11 Z q0 q1 q2 h0) h17 1 3 189 #[.val (.int q0), .val (.int q1), .val (.int q2), .val (.int (31 : Int32))] [(.ref ad16)]
      exact OwnW.retA d11_189 rfl rfl rfl (by decide) (by decide) (⟨ad16, rfl, (((Keep.refl h0 []).ext E16).trans K17 (allS (Or.inr (Nat.le_trans (Nat.le_refl _) (Nat.le_of_eq g16.symm))) all0)), (Nat.le_trans (Nat.le_refl _) (Nat.le_of_eq g16.symm)), E17, F17_year, F17_month, F17_day⟩)
    ·
      refine OwnW.tswIn (pc' := 86) (o := 79) d11_7 (by omega) (by rw [hm]; rfl) (by decide) (by decide) ?_
      refine OwnW.bipush (pc' := 88) (v := (31 : Int32)) d11_86 rfl rfl ?_
      refine OwnW.istoreN (pc' := 89) (L' := #[.val (.int q0), .val (.int q1), .val (.int q2), .val (.int (31 : Int32))]) d11_88 rfl rfl ?_
      refine OwnW.iloadN (pc' := 90) d11_89 rfl rfl ?_
      refine OwnW.iloadN (pc' := 91) d11_90 rfl rfl ?_
      refine OwnW.icmpY (pc' := 179) d11_91 (flt hd31).2.2.2 (by decide) (by decide) ?_
      refine OwnW.newO (a0 := a0) (pc' := 182) (k' := 1) (n' := 3) d11_179 (hw _ (List.mem_of_getElem? (i := 75) rfl)) (hw _ (List.mem_of_getElem? (i := 76) rfl)) (hw _ (List.mem_of_getElem? (i := 29) rfl)) rfl rfl (by decide) (by decide) rfl ?_
      intro h19 ad19 g19 E19 A19 D19
      have ge_ad19 : n0 ≤ ad19 := Nat.le_trans Z0 (Nat.le_of_eq g19.symm)
      have sz_ad19 : n0 ≤ h19.size := Nat.le_trans Z0 E19.1
      have F19_year : Fld Z h19 ad19 "java/time/LocalDate" "year" "I" (.int (0 : Int32)) := D19 (Or.inr (hw _ (List.mem_of_getElem? (i := 83) rfl))) (ty := .int) (by decide)
      have F19_month : Fld Z h19 ad19 "java/time/LocalDate" "month" "S" (.int (0 : Int32)) := D19 (Or.inr (hw _ (List.mem_of_getElem? (i := 85) rfl))) (ty := .short) (by decide)
      have F19_day : Fld Z h19 ad19 "java/time/LocalDate" "day" "S" (.int (0 : Int32)) := D19 (Or.inr (hw _ (List.mem_of_getElem? (i := 87) rfl))) (ty := .short) (by decide)
      refine OwnW.dup (pc' := 183) d11_182 rfl rfl ?_
      refine OwnW.iloadN (pc' := 184) d11_183 rfl rfl ?_
      refine OwnW.iloadN (pc' := 185) d11_184 rfl rfl ?_
      refine OwnW.iloadN (pc' := 186) d11_185 rfl rfl ?_
      refine OwnW.callI (a0 := a0) (pc' := 189) (W := 1) (k' := 1) (n' := 3) (argsL := [(.int q0), (.int q1), (.int q2)]) (rest := [(.ref ad19)]) d11_186 rfl (hw _ (List.mem_of_getElem? (i := 77) rfl)) (hw _ (List.mem_of_getElem? (i := 78) rfl)) (hw _ (List.mem_of_getElem? (i := 29) rfl)) (hw _ (List.mem_of_getElem? (i := 80) rfl)) (by decide) (rm12 l Z a0 hw ad19 q0 q1 q2 h19 n0 sz_ad19 ge_ad19 A19 F19_year F19_month F19_day) (by decide) (by decide) rfl rfl (by decide) (by decide) rfl pd_28III29V rfl rfl rfl (Nat.le_of_ble_eq_true rfl) rfl ?_
      rintro h20 v20 ⟨rfl, K20, E20, F20_year, F20_month, F20_day⟩
      have sz21 : n0 ≤ h20.size := Nat.le_trans sz_ad19 K20.1
      show GoB11 l Z n0 (Q11 Z q0 q1 q2 h0) h20 1 3 189 #[.val (.int q0), .val (.int q1), .val (.int q2), .val (.int (31 : Int32))] [(.ref ad19)]
      exact OwnW.retA d11_189 rfl rfl rfl (by decide) (by decide) (⟨ad19, rfl, (((Keep.refl h0 []).ext E19).trans K20 (allS (Or.inr (Nat.le_trans (Nat.le_refl _) (Nat.le_of_eq g19.symm))) all0)), (Nat.le_trans (Nat.le_refl _) (Nat.le_of_eq g19.symm)), E20, F20_year, F20_month, F20_day⟩)
    ·
      refine OwnW.tswIn (pc' := 81) (o := 74) d11_7 (by omega) (by rw [hm]; rfl) (by decide) (by decide) ?_
      refine OwnW.bipush (pc' := 83) (v := (30 : Int32)) d11_81 rfl rfl ?_
      refine OwnW.goto (pc' := 88) d11_83 (by decide) (by decide) ?_
      refine OwnW.istoreN (pc' := 89) (L' := #[.val (.int q0), .val (.int q1), .val (.int q2), .val (.int (30 : Int32))]) d11_88 rfl rfl ?_
      refine OwnW.iloadN (pc' := 90) d11_89 rfl rfl ?_
      refine OwnW.iloadN (pc' := 91) d11_90 rfl rfl ?_
      refine OwnW.icmpY (pc' := 179) d11_91 (flt (hd30 (by omega))).2.2.2 (by decide) (by decide) ?_
      refine OwnW.newO (a0 := a0) (pc' := 182) (k' := 1) (n' := 3) d11_179 (hw _ (List.mem_of_getElem? (i := 75) rfl)) (hw _ (List.mem_of_getElem? (i := 76) rfl)) (hw _ (List.mem_of_getElem? (i := 29) rfl)) rfl rfl (by decide) (by decide) rfl ?_
      intro h22 ad22 g22 E22 A22 D22
      have ge_ad22 : n0 ≤ ad22 := Nat.le_trans Z0 (Nat.le_of_eq g22.symm)
      have sz_ad22 : n0 ≤ h22.size := Nat.le_trans Z0 E22.1
      have F22_year : Fld Z h22 ad22 "java/time/LocalDate" "year" "I" (.int (0 : Int32)) := D22 (Or.inr (hw _ (List.mem_of_getElem? (i := 83) rfl))) (ty := .int) (by decide)
      have F22_month : Fld Z h22 ad22 "java/time/LocalDate" "month" "S" (.int (0 : Int32)) := D22 (Or.inr (hw _ (List.mem_of_getElem? (i := 85) rfl))) (ty := .short) (by decide)
      have F22_day : Fld Z h22 ad22 "java/time/LocalDate" "day" "S" (.int (0 : Int32)) := D22 (Or.inr (hw _ (List.mem_of_getElem? (i := 87) rfl))) (ty := .short) (by decide)
      refine OwnW.dup (pc' := 183) d11_182 rfl rfl ?_
      refine OwnW.iloadN (pc' := 184) d11_183 rfl rfl ?_
      refine OwnW.iloadN (pc' := 185) d11_184 rfl rfl ?_
      refine OwnW.iloadN (pc' := 186) d11_185 rfl rfl ?_
      refine OwnW.callI (a0 := a0) (pc' := 189) (W := 1) (k' := 1) (n' := 3) (argsL := [(.int q0), (.int q1), (.int q2)]) (rest := [(.ref ad22)]) d11_186 rfl (hw _ (List.mem_of_getElem? (i := 77) rfl)) (hw _ (List.mem_of_getElem? (i := 78) rfl)) (hw _ (List.mem_of_getElem? (i := 29) rfl)) (hw _ (List.mem_of_getElem? (i := 80) rfl)) (by decide) (rm12 l Z a0 hw ad22 q0 q1 q2 h22 n0 sz_ad22 ge_ad22 A22 F22_year F22_month F22_day) (by decide) (by decide) rfl rfl (by decide) (by decide) rfl pd_28III29V rfl rfl rfl (Nat.le_of_ble_eq_true rfl) rfl ?_
      rintro h23 v23 ⟨rfl, K23, E23, F23_year, F23_month, F23_day⟩
      have sz24 : n0 ≤ h23.size := Nat.le_trans sz_ad22 K23.1
      show GoB11 l Z n0 (Q11 Z q0 q1 q2 h0) h23 1 3 189 #[.val (.int q0), .val (.int q1), .val (.int q2), .val (.int (30 : Int32))] [(.ref ad22)]
      exact OwnW.retA d11_189 rfl rfl rfl (by decide) (by decide) (⟨ad22, rfl, (((Keep.refl h0 []).ext E22).trans K23 (allS (Or.inr (Nat.le_trans (Nat.le_refl _) (Nat.le_of_eq g22.symm))) all0)), (Nat.le_trans (Nat.le_refl _) (Nat.le_of_eq g22.symm)), E23, F23_year, F23_month, F23_day⟩)
    ·
      refine OwnW.tswIn (pc' := 86) (o := 79) d11_7 (by omega) (by rw [hm]; rfl) (by decide) (by decide) ?_
      refine OwnW.bipush (pc' := 88) (v := (31 : Int32)) d11_86 rfl rfl ?_
      refine OwnW.istoreN (pc' := 89) (L' := #[.val (.int q0), .val (.int q1), .val (.int q2), .val (.int (31 : Int32))]) d11_88 rfl rfl ?_
      refine OwnW.iloadN (pc' := 90) d11_89 rfl rfl ?_
      refine OwnW.iloadN (pc' := 91) d11_90 rfl rfl ?_
      refine OwnW.icmpY (pc' := 179) d11_91 (flt hd31).2.2.2 (by decide) (by decide) ?_
      refine OwnW.newO (a0 := a0) (pc' := 182) (k' := 1) (n' := 3) d11_179 (hw _ (List.mem_of_getElem? (i := 75) rfl)) (hw _ (List.mem_of_getElem? (i := 76) rfl)) (hw _ (List.mem_of_getElem? (i := 29) rfl)) rfl rfl (by decide) (by decide) rfl ?_
      intro h25 ad25 g25 E25 A25 D25
      have ge_ad25 : n0 ≤ ad25 := Nat.le_trans Z0 (Nat.le_of_eq g25.symm)
      have sz_ad25 : n0 ≤ h25.size := Nat.le_trans Z0 E25.1
      have F25_year : Fld Z h25 ad25 "java/time/LocalDate" "year" "I" (.int (0 : Int32)) := D25 (Or.inr (hw _ (List.mem_of_getElem? (i := 83) rfl))) (ty := .int) (by decide)
      have F25_month : Fld Z h25 ad25 "java/time/LocalDate" "month" "S" (.int (0 : Int32)) := D25 (Or.inr (hw _ (List.mem_of_getElem? (i := 85) rfl))) (ty := .short) (by decide)
      have F25_day : Fld Z h25 ad25 "java/time/LocalDate" "day" "S" (.int (0 : Int32)) := D25 (Or.inr (hw _ (List.mem_of_getElem? (i := 87) rfl))) (ty := .short) (by decide)
      refine OwnW.dup (pc' := 183) d11_182 rfl rfl ?_
      refine OwnW.iloadN (pc' := 184) d11_183 rfl rfl ?_
      refine OwnW.iloadN (pc' := 185) d11_184 rfl rfl ?_
      refine OwnW.iloadN (pc' := 186) d11_185 rfl rfl ?_
      refine OwnW.callI (a0 := a0) (pc' := 189) (W := 1) (k' := 1) (n' := 3) (argsL := [(.int q0), (.int q1), (.int q2)]) (rest := [(.ref ad25)]) d11_186 rfl (hw _ (List.mem_of_getElem? (i := 77) rfl)) (hw _ (List.mem_of_getElem? (i := 78) rfl)) (hw _ (List.mem_of_getElem? (i := 29) rfl)) (hw _ (List.mem_of_getElem? (i := 80) rfl)) (by decide) (rm12 l Z a0 hw ad25 q0 q1 q2 h25 n0 sz_ad25 ge_ad25 A25 F25_year F25_month F25_day) (by decide) (by decide) rfl rfl (by decide) (by decide) rfl pd_28III29V rfl rfl rfl (Nat.le_of_ble_eq_true rfl) rfl ?_
      rintro h26 v26 ⟨rfl, K26, E26, F26_year, F26_month, F26_day⟩
      have sz27 : n0 ≤ h26.size := Nat.le_trans sz_ad25 K26.1
      show GoB11 l Z n0 (Q11 Z q0 q1 q2 h0) h26 1 3 189 #[.val (.int q0), .val (.int q1), .val (.int q2), .val (.int (31 : Int32))] [(.ref ad25)]
      exact OwnW.retA d11_189 rfl rfl rfl (by decide) (by decide) (⟨ad25, rfl, (((Keep.refl h0 []).ext E25).trans K26 (allS (Or.inr (Nat.le_trans (Nat.le_refl _) (Nat.le_of_eq g25.symm))) all0)), (Nat.le_trans (Nat.le_refl _) (Nat.le_of_eq g25.symm)), E26, F26_year, F26_month, F26_day⟩)
    ·
      refine OwnW.tswIn (pc' := 81) (o := 74) d11_7 (by omega) (by rw [hm]; rfl) (by decide) (by decide) ?_
      refine OwnW.bipush (pc' := 83) (v := (30 : Int32)) d11_81 rfl rfl ?_
      refine OwnW.goto (pc' := 88) d11_83 (by decide) (by decide) ?_
      refine OwnW.istoreN (pc' := 89) (L' := #[.val (.int q0), .val (.int q1), .val (.int q2), .val (.int (30 : Int32))]) d11_88 rfl rfl ?_
      refine OwnW.iloadN (pc' := 90) d11_89 rfl rfl ?_
      refine OwnW.iloadN (pc' := 91) d11_90 rfl rfl ?_
      refine OwnW.icmpY (pc' := 179) d11_91 (flt (hd30 (by omega))).2.2.2 (by decide) (by decide) ?_
      refine OwnW.newO (a0 := a0) (pc' := 182) (k' := 1) (n' := 3) d11_179 (hw _ (List.mem_of_getElem? (i := 75) rfl)) (hw _ (List.mem_of_getElem? (i := 76) rfl)) (hw _ (List.mem_of_getElem? (i := 29) rfl)) rfl rfl (by decide) (by decide) rfl ?_
      intro h28 ad28 g28 E28 A28 D28
      have ge_ad28 : n0 ≤ ad28 := Nat.le_trans Z0 (Nat.le_of_eq g28.symm)
      have sz_ad28 : n0 ≤ h28.size := Nat.le_trans Z0 E28.1
      have F28_year : Fld Z h28 ad28 "java/time/LocalDate" "year" "I" (.int (0 : Int32)) := D28 (Or.inr (hw _ (List.mem_of_getElem? (i := 83) rfl))) (ty := .int) (by decide)
      have F28_month : Fld Z h28 ad28 "java/time/LocalDate" "month" "S" (.int (0 : Int32)) := D28 (Or.inr (hw _ (List.mem_of_getElem? (i := 85) rfl))) (ty := .short) (by decide)
      have F28_day : Fld Z h28 ad28 "java/time/LocalDate" "day" "S" (.int (0 : Int32)) := D28 (Or.inr (hw _ (List.mem_of_getElem? (i := 87) rfl))) (ty := .short) (by decide)
      refine OwnW.dup (pc' := 183) d11_182 rfl rfl ?_
      refine OwnW.iloadN (pc' := 184) d11_183 rfl rfl ?_
      refine OwnW.iloadN (pc' := 185) d11_184 rfl rfl ?_
      refine OwnW.iloadN (pc' := 186) d11_185 rfl rfl ?_
      refine OwnW.callI (a0 := a0) (pc' := 189) (W := 1) (k' := 1) (n' := 3) (argsL := [(.int q0), (.int q1), (.int q2)]) (rest := [(.ref ad28)]) d11_186 rfl (hw _ (List.mem_of_getElem? (i := 77) rfl)) (hw _ (List.mem_of_getElem? (i := 78) rfl)) (hw _ (List.mem_of_getElem? (i := 29) rfl)) (hw _ (List.mem_of_getElem? (i := 80) rfl)) (by decide) (rm12 l Z a0 hw ad28 q0 q1 q2 h28 n0 sz_ad28 ge_ad28 A28 F28_year F28_month F28_day) (by decide) (by decide) rfl rfl (by decide) (by decide) rfl pd_28III29V rfl rfl rfl (Nat.le_of_ble_eq_true rfl) rfl ?_
      rintro h29 v29 ⟨rfl, K29, E29, F29_year, F29_month, F29_day⟩
      have sz30 : n0 ≤ h29.size := Nat.le_trans sz_ad28 K29.1
      show GoB11 l Z n0 (Q11 Z q0 q1 q2 h0) h29 1 3 189 #[.val (.int q0), .val (.int q1), .val (.int q2), .val (.int (30 : Int32))] [(.ref ad28)]
      exact OwnW.retA d11_189 rfl rfl rfl (by decide) (by decide) (⟨ad28, rfl, (((Keep.refl h0 []).ext E28).trans K29 (allS (Or.inr (Nat.le_trans (Nat.le_refl _) (Nat.le_of_eq g28.symm))) all0)), (Nat.le_trans (Nat.le_refl _) (Nat.le_of_eq g28.symm)), E29, F29_year, F29_month, F29_day⟩)
    ·
      refine OwnW.tswOut (pc' := 86) d11_7 (by omega) (by decide) (by decide) ?_
      refine OwnW.bipush (pc' := 88) (v := (31 : Int32)) d11_86 rfl rfl ?_
      refine OwnW.istoreN (pc' := 89) (L' := #[.val (.int q0), .val (.int q1), .val (.int q2), .val (.int (31 : Int32))]) d11_88 rfl rfl ?_
      refine OwnW.iloadN (pc' := 90) d11_89 rfl rfl ?_
      refine OwnW.iloadN (pc' := 91) d11_90 rfl rfl ?_
      refine OwnW.icmpY (pc' := 179) d11_91 (flt hd31).2.2.2 (by decide) (by decide) ?_
      refine OwnW.newO (a0 := a0) (pc' := 182) (k' := 1) (n' := 3) d11_179 (hw _ (List.mem_of_getElem? (i := 75) rfl)) (hw _ (List.mem_of_getElem? (i := 76) rfl)) (hw _ (List.mem_of_getElem? (i := 29) rfl)) rfl rfl (by decide) (by decide) rfl ?_
      intro h31 ad31 g31 E31 A31 D31
      have ge_ad31 : n0 ≤ ad31 := Nat.le_trans Z0 (Nat.le_of_eq g31.symm)
      have sz_ad31 : n0 ≤ h31.size := Nat.le_trans Z0 E31.1
      have F31_year : Fld Z h31 ad31 "java/time/LocalDate" "year" "I" (.int (0 : Int32)) := D31 (Or.inr (hw _ (List.mem_of_getElem? (i := 83) rfl))) (ty := .int) (by decide)
      have F31_month : Fld Z h31 ad31 "java/time/LocalDate" "month" "S" (.int (0 : Int32)) := D31 (Or.inr (hw _ (List.mem_of_getElem? (i := 85) rfl))) (ty := .short) (by decide)
      have F31_day : Fld Z h31 ad31 "java/time/LocalDate" "day" "S" (.int (0 : Int32)) := D31 (Or.inr (hw _ (List.mem_of_getElem? (i := 87) rfl))) (ty := .short) (by decide)
      refine OwnW.dup (pc' := 183) d11_182 rfl rfl ?_
      refine OwnW.iloadN (pc' := 184) d11_183 rfl rfl ?_
      refine OwnW.iloadN (pc' := 185) d11_184 rfl rfl ?_
      refine OwnW.iloadN (pc' := 186) d11_185 rfl rfl ?_
      refine OwnW.callI (a0 := a0) (pc' := 189) (W := 1) (k' := 1) (n' := 3) (argsL := [(.int q0), (.int q1), (.int q2)]) (rest := [(.ref ad31)]) d11_186 rfl (hw _ (List.mem_of_getElem? (i := 77) rfl)) (hw _ (List.mem_of_getElem? (i := 78) rfl)) (hw _ (List.mem_of_getElem? (i := 29) rfl)) (hw _ (List.mem_of_getElem? (i := 80) rfl)) (by decide) (rm12 l Z a0 hw ad31 q0 q1 q2 h31 n0 sz_ad31 ge_ad31 A31 F31_year F31_month F31_day) (by decide) (by decide) rfl rfl (by decide) (by decide) rfl pd_28III29V rfl rfl rfl (Nat.le_of_ble_eq_true rfl) rfl ?_
      rintro h32 v32 ⟨rfl, K32, E32, F32_year, F32_month, F32_day⟩
      have sz33 : n0 ≤ h32.size := Nat.le_trans sz_ad31 K32.1
      show GoB11 l Z n0 (Q11 Z q0 q1 q2 h0) h32 1 3 189 #[.val (.int q0), .val (.int q1), .val (.int q2), .val (.int (31 : Int32))] [(.ref ad31)]
      exact OwnW.retA d11_189 rfl rfl rfl (by decide) (by decide) (⟨ad31, rfl, (((Keep.refl h0 []).ext E31).trans K32 (allS (Or.inr (Nat.le_trans (Nat.le_refl _) (Nat.le_of_eq g31.symm))) all0)), (Nat.le_trans (Nat.le_refl _) (Nat.le_of_eq g31.symm)), E32, F32_year, F32_month, F32_day⟩)
  ·
    refine OwnW.icmpY (pc' := 179) d11_3 (flt hc3).2.2.2 (by decide) (by decide) ?_
    refine OwnW.newO (a0 := a0) (pc' := 182) (k' := 1) (n' := 3) d11_179 (hw _ (List.mem_of_getElem? (i := 75) rfl)) (hw _ (List.mem_of_getElem? (i := 76) rfl)) (hw _ (List.mem_of_getElem? (i := 29) rfl)) rfl rfl (by decide) (by decide) rfl ?_
    intro h34 ad34 g34 E34 A34 D34
    have ge_ad34 : n0 ≤ ad34 := Nat.le_trans Z0 (Nat.le_of_eq g34.symm)
    have sz_ad34 : n0 ≤ h34.size := Nat.le_trans Z0 E34.1
    have F34_year : Fld Z h34 ad34 "java/time/LocalDate" "year" "I" (.int (0 : Int32)) := D34 (Or.inr (hw _ (List.mem_of_getElem? (i := 83) rfl))) (ty := .int) (by decide)
    have F34_month : Fld Z h34 ad34 "java/time/LocalDate" "month" "S" (.int (0 : Int32)) := D34 (Or.inr (hw _ (List.mem_of_getElem? (i := 85) rfl))) (ty := .short) (by decide)
    have F34_day : Fld Z h34 ad34 "java/time/LocalDate" "day" "S" (.int (0 : Int32)) := D34 (Or.inr (hw _ (List.mem_of_getElem? (i := 87) rfl))) (ty := .short) (by decide)
    refine OwnW.dup (pc' := 183) d11_182 rfl rfl ?_
    refine OwnW.iloadN (pc' := 184) d11_183 rfl rfl ?_
    refine OwnW.iloadN (pc' := 185) d11_184 rfl rfl ?_
    refine OwnW.iloadN (pc' := 186) d11_185 rfl rfl ?_
    refine OwnW.callI (a0 := a0) (pc' := 189) (W := 1) (k' := 1) (n' := 3) (argsL := [(.int q0), (.int q1), (.int q2)]) (rest := [(.ref ad34)]) d11_186 rfl (hw _ (List.mem_of_getElem? (i := 77) rfl)) (hw _ (List.mem_of_getElem? (i := 78) rfl)) (hw _ (List.mem_of_getElem? (i := 29) rfl)) (hw _ (List.mem_of_getElem? (i := 80) rfl)) (by decide) (rm12 l Z a0 hw ad34 q0 q1 q2 h34 n0 sz_ad34 ge_ad34 A34 F34_year F34_month F34_day) (by decide) (by decide) rfl rfl (by decide) (by decide) rfl pd_28III29V rfl rfl rfl (Nat.le_of_ble_eq_true rfl) rfl ?_
    rintro h35 v35 ⟨rfl, K35, E35, F35_year, F35_month, F35_day⟩
    have sz36 : n0 ≤ h35.size := Nat.le_trans sz_ad34 K35.1
    show GoB11 l Z n0 (Q11 Z q0 q1 q2 h0) h35 1 3 189 #[.val (.int q0), .val (.int q1), .val (.int q2), .unset] [(.ref ad34)]
    exact OwnW.retA d11_189 rfl rfl rfl (by decide) (by decide) (⟨ad34, rfl, (((Keep.refl h0 []).ext E34).trans K35 (allS (Or.inr (Nat.le_trans (Nat.le_refl _) (Nat.le_of_eq g34.symm))) all0)), (Nat.le_trans (Nat.le_refl _) (Nat.le_of_eq g34.symm)), E35, F35_year, F35_month, F35_day⟩)
theorem d4_0 : decode jdk_2323_method_5_code 0 = .ok (.getstatic 39, 3) := by decide +kernel
theorem d4_3 : decode jdk_2323_method_5_code 3 = .ok (.iload_n 0, 1) := by decide +kernel
theorem d4_4 : decode jdk_2323_method_5_code 4 = .ok (.i2l, 1) := by decide +kernel
theorem d4_5 : decode jdk_2323_method_5_code 5 = .ok (.invokevirtual 45, 3) := by decide +kernel
theorem d4_8 : decode jdk_2323_method_5_code 8 = .ok (.pop2, 1) := by decide +kernel
theorem d4_9 : decode jdk_2323_method_5_code 9 = .ok (.getstatic 64, 3) := by decide +kernel
theorem d4_12 : decode jdk_2323_method_5_code 12 = .ok (.iload_n 1, 1) := by decide +kernel
theorem d4_13 : decode jdk_2323_method_5_code 13 = .ok (.i2l, 1) := by decide +kernel
theorem d4_14 : decode jdk_2323_method_5_code 14 = .ok (.invokevirtual 45, 3) := by decide +kernel
theorem d4_17 : decode jdk_2323_method_5_code 17 = .ok (.pop2, 1) := by decide +kernel
theorem d4_18 : decode jdk_2323_method_5_code 18 = .ok (.getstatic 51, 3) := by decide +kernel
theorem d4_21 : decode jdk_2323_method_5_code 21 = .ok (.iload_n 2, 1) := by decide +kernel
theorem d4_22 : decode jdk_2323_method_5_code 22 = .ok (.i2l, 1) := by decide +kernel
theorem d4_23 : decode jdk_2323_method_5_code 23 = .ok (.invokevirtual 45, 3) := by decide +kernel
theorem d4_26 : decode jdk_2323_method_5_code 26 = .ok (.pop2, 1) := by decide +kernel
theorem d4_27 : decode jdk_2323_method_5_code 27 = .ok (.iload_n 0, 1) := by decide +kernel
theorem d4_28 : decode jdk_2323_method_5_code 28 = .ok (.iload_n 1, 1) := by decide +kernel
theorem d4_29 : decode jdk_2323_method_5_code 29 = .ok (.iload_n 2, 1) := by decide +kernel
theorem d4_30 : decode jdk_2323_method_5_code 30 = .ok (.invokestatic 60, 3) := by decide +kernel
theorem d4_33 : decode jdk_2323_method_5_code 33 = .ok (.areturn, 1) := by decide +kernel
def Q4 (Z : State) (q0 : Int32) (q1 : Int32) (q2 : Int32) (e_YEAR : Addr) (r_YEAR : Addr) (e_MONTH_OF_YEAR : Addr) (r_MONTH_OF_YEAR : Addr) (e_DAY_OF_MONTH : Addr) (r_DAY_OF_MONTH : Addr) (h0 : Heap) (v : Option Value) (h : Heap) : Prop := ∃ (x0 : Addr), v = some (.ref x0) ∧ Keep h0 h [] ∧ h0.size ≤ x0 ∧ Exa Z h x0 "java/time/LocalDate" ∧ Fld Z h x0 "java/time/LocalDate" "year" "I" (.int q0) ∧ Fld Z h x0 "java/time/LocalDate" "month" "S" (.int (nar .short (q1.toInt16.toInt32))) ∧ Fld Z h x0 "java/time/LocalDate" "day" "S" (.int (nar .short (q2.toInt16.toInt32)))
abbrev GoB4 (l : Launch) (Z : State) (n0 : Nat) (Q : Option Value → Heap → Prop) := Go l Z ({ frames := 4, cells := 1, slots := 3, locals := 57 } : Room) (⟨"java/time/LocalDate", "of", "(III)Ljava/time/LocalDate;"⟩ : MethodName) jdk_2323_method_5_code 3 (some (.object "java/time/LocalDate")) n0 Q
theorem ef4 (m : MethodId) (q0 : Int32) (q1 : Int32) (q2 : Int32) : entryFrame m #[(.int q0), (.int q1), (.int q2)] 3 = mkF m 0 #[.val (.int q0), .val (.int q1), .val (.int q2)] [] := by first | (simp [entryFrame, mkF, argsToLocals, Value.category]; done) | rfl
set_option maxRecDepth 65536 in
set_option maxHeartbeats 40000000 in
theorem rm4 (l : Launch) (Z : State) (a0 : Array Value) (hw : ∀ d ∈ tables_1, d.before a0 Z = true) (q0 : Int32) (q1 : Int32) (q2 : Int32) (e_YEAR : Addr) (r_YEAR : Addr) (e_MONTH_OF_YEAR : Addr) (r_MONTH_OF_YEAR : Addr) (e_DAY_OF_MONTH : Addr) (r_DAY_OF_MONTH : Addr) (h0 : Heap) (n0 : Nat) (Z0 : n0 ≤ h0.size) (S_YEAR : Sta Z h0 "java/time/temporal/ChronoField" "YEAR" "Ljava/time/temporal/ChronoField;" (.ref e_YEAR)) (E_e_YEAR : Exa Z h0 e_YEAR "java/time/temporal/ChronoField") (F_e_YEAR : Fld Z h0 e_YEAR "java/time/temporal/ChronoField" "range" "Ljava/time/temporal/ValueRange;" (.ref r_YEAR)) (E_r_YEAR : Exa Z h0 r_YEAR "java/time/temporal/ValueRange") (Fn_r_YEAR : Fld Z h0 r_YEAR "java/time/temporal/ValueRange" "minSmallest" "J" (.long (-999999999 : Int64))) (Fx_r_YEAR : Fld Z h0 r_YEAR "java/time/temporal/ValueRange" "maxLargest" "J" (.long (999999999 : Int64))) (S_MONTH_OF_YEAR : Sta Z h0 "java/time/temporal/ChronoField" "MONTH_OF_YEAR" "Ljava/time/temporal/ChronoField;" (.ref e_MONTH_OF_YEAR)) (E_e_MONTH_OF_YEAR : Exa Z h0 e_MONTH_OF_YEAR "java/time/temporal/ChronoField") (F_e_MONTH_OF_YEAR : Fld Z h0 e_MONTH_OF_YEAR "java/time/temporal/ChronoField" "range" "Ljava/time/temporal/ValueRange;" (.ref r_MONTH_OF_YEAR)) (E_r_MONTH_OF_YEAR : Exa Z h0 r_MONTH_OF_YEAR "java/time/temporal/ValueRange") (Fn_r_MONTH_OF_YEAR : Fld Z h0 r_MONTH_OF_YEAR "java/time/temporal/ValueRange" "minSmallest" "J" (.long (1 : Int64))) (Fx_r_MONTH_OF_YEAR : Fld Z h0 r_MONTH_OF_YEAR "java/time/temporal/ValueRange" "maxLargest" "J" (.long (12 : Int64))) (S_DAY_OF_MONTH : Sta Z h0 "java/time/temporal/ChronoField" "DAY_OF_MONTH" "Ljava/time/temporal/ChronoField;" (.ref e_DAY_OF_MONTH)) (E_e_DAY_OF_MONTH : Exa Z h0 e_DAY_OF_MONTH "java/time/temporal/ChronoField") (F_e_DAY_OF_MONTH : Fld Z h0 e_DAY_OF_MONTH "java/time/temporal/ChronoField" "range" "Ljava/time/temporal/ValueRange;" (.ref r_DAY_OF_MONTH)) (E_r_DAY_OF_MONTH : Exa Z h0 r_DAY_OF_MONTH "java/time/temporal/ValueRange") (Fn_r_DAY_OF_MONTH : Fld Z h0 r_DAY_OF_MONTH "java/time/temporal/ValueRange" "minSmallest" "J" (.long (1 : Int64))) (Fx_r_DAY_OF_MONTH : Fld Z h0 r_DAY_OF_MONTH "java/time/temporal/ValueRange" "maxLargest" "J" (.long (31 : Int64))) (hmo : q1.toInt = 1 ∨ q1.toInt = 2 ∨ q1.toInt = 3 ∨ q1.toInt = 4 ∨ q1.toInt = 5 ∨ q1.toInt = 6 ∨ q1.toInt = 7 ∨ q1.toInt = 8 ∨ q1.toInt = 9 ∨ q1.toInt = 10 ∨ q1.toInt = 11 ∨ q1.toInt = 12) (hd28 : q1.toInt = 2 → ¬ (28 : Int32) < q2) (hd30 : (q1.toInt = 4 ∨ q1.toInt = 6 ∨ q1.toInt = 9 ∨ q1.toInt = 11) → ¬ (30 : Int32) < q2) (hd31 : ¬ (31 : Int32) < q2) (hlo_q0 : ¬ (lcmpW (q0.toInt64) (-999999999 : Int64)) < (0 : Int32)) (hhi_q0 : ¬ (0 : Int32) < (lcmpW (q0.toInt64) (999999999 : Int64))) (hlo_q1 : ¬ (lcmpW (q1.toInt64) (1 : Int64)) < (0 : Int32)) (hhi_q1 : ¬ (0 : Int32) < (lcmpW (q1.toInt64) (12 : Int64))) (hlo_q2 : ¬ (lcmpW (q2.toInt64) (1 : Int64)) < (0 : Int32)) (hhi_q2 : ¬ (0 : Int32) < (lcmpW (q2.toInt64) (31 : Int64))) :
    Con l Z ({ frames := 4, cells := 1, slots := 3, locals := 57 } : Room) (⟨"java/time/LocalDate", "of", "(III)Ljava/time/LocalDate;"⟩ : MethodName) jdk_2323_method_5_code 3 (some (.object "java/time/LocalDate")) n0 #[(.int q0), (.int q1), (.int q2)] h0 (Q4 Z q0 q1 q2 e_YEAR r_YEAR e_MONTH_OF_YEAR r_MONTH_OF_YEAR e_DAY_OF_MONTH r_DAY_OF_MONTH h0) := by
  refine OwnW.Con.of (by first | decide +kernel | exact plainFor_of_name (by simp [plainName, overriddenIn])) (fun m => ef4 m q0 q1 q2) ?_
  show GoB4 l Z n0 (Q4 Z q0 q1 q2 e_YEAR r_YEAR e_MONTH_OF_YEAR r_MONTH_OF_YEAR e_DAY_OF_MONTH r_DAY_OF_MONTH h0) h0 0 0 0 #[.val (.int q0), .val (.int q1), .val (.int q2)] []
  refine OwnW.getS (a0 := a0) (pc' := 3) d4_0 (host := "") (Or.inl (hw _ (List.mem_of_getElem? (i := 31) rfl))) Via.refl S_YEAR rfl ?_
  refine OwnW.iloadN (pc' := 4) d4_3 rfl rfl ?_
  refine OwnW.i2l (pc' := 5) d4_4 rfl ?_
  refine OwnW.callV0 (a0 := a0) (pc' := 8) (W := 0) (k' := 0) (n' := 0) (argsL := [(.long (q0.toInt64))]) (rest := []) (St' := [(.long (f5 e_YEAR (q0.toInt64) r_YEAR (-999999999 : Int64) (999999999 : Int64)))]) d4_5 (hw _ (List.mem_of_getElem? (i := 33) rfl)) (hw _ (List.mem_of_getElem? (i := 34) rfl)) (hw _ (List.mem_of_getElem? (i := 36) rfl)) (hw _ (List.mem_of_getElem? (i := 35) rfl)) (hw _ (List.mem_of_getElem? (i := 32) rfl)) (hw _ (List.mem_of_getElem? (i := 37) rfl)) (by decide) E_e_YEAR (rm5 l Z a0 hw e_YEAR (q0.toInt64) r_YEAR (-999999999 : Int64) (999999999 : Int64) h0 n0 E_e_YEAR F_e_YEAR E_r_YEAR Fn_r_YEAR Fx_r_YEAR hlo_q0 hhi_q0) (by decide) (by decide) rfl rfl (by decide) (by decide) rfl pd_28J29J rfl rfl rfl (Nat.le_of_ble_eq_true rfl) rfl rfl ?_
  refine OwnW.pop2J (pc' := 9) d4_8 rfl ?_
  refine OwnW.getS (a0 := a0) (pc' := 12) d4_9 (host := "") (Or.inl (hw _ (List.mem_of_getElem? (i := 70) rfl))) Via.refl S_MONTH_OF_YEAR rfl ?_
  refine OwnW.iloadN (pc' := 13) d4_12 rfl rfl ?_
  refine OwnW.i2l (pc' := 14) d4_13 rfl ?_
  refine OwnW.callV0 (a0 := a0) (pc' := 17) (W := 0) (k' := 0) (n' := 0) (argsL := [(.long (q1.toInt64))]) (rest := []) (St' := [(.long (f5 e_MONTH_OF_YEAR (q1.toInt64) r_MONTH_OF_YEAR (1 : Int64) (12 : Int64)))]) d4_14 (hw _ (List.mem_of_getElem? (i := 33) rfl)) (hw _ (List.mem_of_getElem? (i := 34) rfl)) (hw _ (List.mem_of_getElem? (i := 36) rfl)) (hw _ (List.mem_of_getElem? (i := 35) rfl)) (hw _ (List.mem_of_getElem? (i := 32) rfl)) (hw _ (List.mem_of_getElem? (i := 37) rfl)) (by decide) E_e_MONTH_OF_YEAR (rm5 l Z a0 hw e_MONTH_OF_YEAR (q1.toInt64) r_MONTH_OF_YEAR (1 : Int64) (12 : Int64) h0 n0 E_e_MONTH_OF_YEAR F_e_MONTH_OF_YEAR E_r_MONTH_OF_YEAR Fn_r_MONTH_OF_YEAR Fx_r_MONTH_OF_YEAR hlo_q1 hhi_q1) (by decide) (by decide) rfl rfl (by decide) (by decide) rfl pd_28J29J rfl rfl rfl (Nat.le_of_ble_eq_true rfl) rfl rfl ?_
  refine OwnW.pop2J (pc' := 18) d4_17 rfl ?_
  refine OwnW.getS (a0 := a0) (pc' := 21) d4_18 (host := "") (Or.inl (hw _ (List.mem_of_getElem? (i := 71) rfl))) Via.refl S_DAY_OF_MONTH rfl ?_
  refine OwnW.iloadN (pc' := 22) d4_21 rfl rfl ?_
  refine OwnW.i2l (pc' := 23) d4_22 rfl ?_
  refine OwnW.callV0 (a0 := a0) (pc' := 26) (W := 0) (k' := 0) (n' := 0) (argsL := [(.long (q2.toInt64))]) (rest := []) (St' := [(.long (f5 e_DAY_OF_MONTH (q2.toInt64) r_DAY_OF_MONTH (1 : Int64) (31 : Int64)))]) d4_23 (hw _ (List.mem_of_getElem? (i := 33) rfl)) (hw _ (List.mem_of_getElem? (i := 34) rfl)) (hw _ (List.mem_of_getElem? (i := 36) rfl)) (hw _ (List.mem_of_getElem? (i := 35) rfl)) (hw _ (List.mem_of_getElem? (i := 32) rfl)) (hw _ (List.mem_of_getElem? (i := 37) rfl)) (by decide) E_e_DAY_OF_MONTH (rm5 l Z a0 hw e_DAY_OF_MONTH (q2.toInt64) r_DAY_OF_MONTH (1 : Int64) (31 : Int64) h0 n0 E_e_DAY_OF_MONTH F_e_DAY_OF_MONTH E_r_DAY_OF_MONTH Fn_r_DAY_OF_MONTH Fx_r_DAY_OF_MONTH hlo_q2 hhi_q2) (by decide) (by decide) rfl rfl (by decide) (by decide) rfl pd_28J29J rfl rfl rfl (Nat.le_of_ble_eq_true rfl) rfl rfl ?_
  refine OwnW.pop2J (pc' := 27) d4_26 rfl ?_
  refine OwnW.iloadN (pc' := 28) d4_27 rfl rfl ?_
  refine OwnW.iloadN (pc' := 29) d4_28 rfl rfl ?_
  refine OwnW.iloadN (pc' := 30) d4_29 rfl rfl ?_
  refine OwnW.callS (a0 := a0) (pc' := 33) (W := 0) (k' := 1) (n' := 3) (argsL := [(.int q0), (.int q1), (.int q2)]) (rest := []) d4_30 (hw _ (List.mem_of_getElem? (i := 72) rfl)) (hw _ (List.mem_of_getElem? (i := 73) rfl)) (hw _ (List.mem_of_getElem? (i := 29) rfl)) (hw _ (List.mem_of_getElem? (i := 74) rfl)) (by decide) (rm11 l Z a0 hw q0 q1 q2 h0 n0 Z0 hmo hd28 hd30 hd31) (by decide) (by decide) rfl rfl (by decide) (by decide) rfl pd_28III29Ljava2ftime2fLocalDate3b rfl rfl rfl (Nat.le_of_ble_eq_true rfl) rfl ?_
  rintro h1 v1 ⟨ad1_0, rfl, K1, gl1_0, Fc1_0, Fc1_1, Fc1_2, Fc1_3⟩
  have lt_e_YEAR_ad1_0 : @LT.lt Nat _ e_YEAR ad1_0 := Nat.lt_of_lt_of_le (E_e_YEAR).lt gl1_0
  have lt_r_YEAR_ad1_0 : @LT.lt Nat _ r_YEAR ad1_0 := Nat.lt_of_lt_of_le (E_r_YEAR).lt gl1_0
  have lt_e_MONTH_OF_YEAR_ad1_0 : @LT.lt Nat _ e_MONTH_OF_YEAR ad1_0 := Nat.lt_of_lt_of_le (E_e_MONTH_OF_YEAR).lt gl1_0
  have lt_r_MONTH_OF_YEAR_ad1_0 : @LT.lt Nat _ r_MONTH_OF_YEAR ad1_0 := Nat.lt_of_lt_of_le (E_r_MONTH_OF_YEAR).lt gl1_0
  have lt_e_DAY_OF_MONTH_ad1_0 : @LT.lt Nat _ e_DAY_OF_MONTH ad1_0 := Nat.lt_of_lt_of_le (E_e_DAY_OF_MONTH).lt gl1_0
  have lt_r_DAY_OF_MONTH_ad1_0 : @LT.lt Nat _ r_DAY_OF_MONTH ad1_0 := Nat.lt_of_lt_of_le (E_r_DAY_OF_MONTH).lt gl1_0
  have ge_ad1_0 : n0 ≤ ad1_0 := Nat.le_trans Z0 gl1_0
  have S2 := OwnW.sta_keep S_YEAR K1 all0
  have S3 := OwnW.sta_keep S_MONTH_OF_YEAR K1 all0
  have S4 := OwnW.sta_keep S_DAY_OF_MONTH K1 all0
  have sz5 : n0 ≤ h1.size := Nat.le_trans Z0 K1.1
  show GoB4 l Z n0 (Q4 Z q0 q1 q2 e_YEAR r_YEAR e_MONTH_OF_YEAR r_MONTH_OF_YEAR e_DAY_OF_MONTH r_DAY_OF_MONTH h0) h1 1 3 33 #[.val (.int q0), .val (.int q1), .val (.int q2)] [(.ref ad1_0)]
  exact OwnW.retA d4_33 rfl rfl rfl (by decide) (by decide) (⟨ad1_0, rfl, ((Keep.refl h0 []).trans K1 all0), (Nat.le_trans (Nat.le_refl _) gl1_0), Fc1_0, Fc1_1, Fc1_2, Fc1_3⟩)
theorem d15_0 : decode jdk_2323_method_24_code 0 = .ok (.aload_n 0, 1) := by decide +kernel
theorem d15_1 : decode jdk_2323_method_24_code 1 = .ok (.getfield 246, 3) := by decide +kernel
theorem d15_4 : decode jdk_2323_method_24_code 4 = .ok (.ireturn, 1) := by decide +kernel
def f15 (o : Addr) (yr : Int32) : Int32 := yr
abbrev GoB15 (l : Launch) (Z : State) (n0 : Nat) (Q : Option Value → Heap → Prop) := Go l Z ({ frames := 0, cells := 0, slots := 0, locals := 0 } : Room) (⟨"java/time/LocalDate", "getYear", "()I"⟩ : MethodName) jdk_2323_method_24_code 1 (some .int) n0 Q
theorem ef15 (m : MethodId) (o : Addr) : entryFrame m #[(.ref o)] 1 = mkF m 0 #[.val (.ref o)] [] := by first | (simp [entryFrame, mkF, argsToLocals, Value.category]; done) | rfl
set_option maxRecDepth 65536 in
set_option maxHeartbeats 40000000 in
theorem rm15 (l : Launch) (Z : State) (a0 : Array Value) (hw : ∀ d ∈ tables_1, d.before a0 Z = true) (o : Addr) (yr : Int32) (h0 : Heap) (n0 : Nat) (F_year : Fld Z h0 o "java/time/LocalDate" "year" "I" (.int yr)) :
    Con l Z ({ frames := 0, cells := 0, slots := 0, locals := 0 } : Room) (⟨"java/time/LocalDate", "getYear", "()I"⟩ : MethodName) jdk_2323_method_24_code 1 (some .int) n0 #[(.ref o)] h0 (OwnW.Ret (some (.int (f15 o yr))) h0) := by
  refine OwnW.Con.of (by first | decide +kernel | exact plainFor_of_name (by simp [plainName, overriddenIn])) (fun m => ef15 m o) ?_
  show GoB15 l Z n0 (OwnW.Ret (some (.int (f15 o yr))) h0) h0 0 0 0 #[.val (.ref o)] []
  refine OwnW.aloadN (pc' := 1) d15_0 rfl (rfl) rfl ?_
  refine OwnW.getF (a0 := a0) (pc' := 4) d15_1 (host := "") (Or.inl (hw _ (List.mem_of_getElem? (i := 82) rfl))) Via.refl F_year rfl ?_
  exact OwnW.retI d15_4 rfl (by decide) (by decide) (⟨by first | (simp only [f15]; done) | (simp only [f15]; rfl), rfl⟩)
theorem d17_0 : decode jdk_2323_method_25_code 0 = .ok (.aload_n 0, 1) := by decide +kernel
theorem d17_1 : decode jdk_2323_method_25_code 1 = .ok (.getfield 250, 3) := by decide +kernel
theorem d17_4 : decode jdk_2323_method_25_code 4 = .ok (.ireturn, 1) := by decide +kernel
def f17 (o : Addr) (mo : Int32) : Int32 := mo
abbrev GoB17 (l : Launch) (Z : State) (n0 : Nat) (Q : Option Value → Heap → Prop) := Go l Z ({ frames := 0, cells := 0, slots := 0, locals := 0 } : Room) (⟨"java/time/LocalDate", "getMonthValue", "()I"⟩ : MethodName) jdk_2323_method_25_code 1 (some .int) n0 Q
theorem ef17 (m : MethodId) (o : Addr) : entryFrame m #[(.ref o)] 1 = mkF m 0 #[.val (.ref o)] [] := by first | (simp [entryFrame, mkF, argsToLocals, Value.category]; done) | rfl
set_option maxRecDepth 65536 in
set_option maxHeartbeats 40000000 in
theorem rm17 (l : Launch) (Z : State) (a0 : Array Value) (hw : ∀ d ∈ tables_1, d.before a0 Z = true) (o : Addr) (mo : Int32) (h0 : Heap) (n0 : Nat) (F_month : Fld Z h0 o "java/time/LocalDate" "month" "S" (.int mo)) :
    Con l Z ({ frames := 0, cells := 0, slots := 0, locals := 0 } : Room) (⟨"java/time/LocalDate", "getMonthValue", "()I"⟩ : MethodName) jdk_2323_method_25_code 1 (some .int) n0 #[(.ref o)] h0 (OwnW.Ret (some (.int (f17 o mo))) h0) := by
  refine OwnW.Con.of (by first | decide +kernel | exact plainFor_of_name (by simp [plainName, overriddenIn])) (fun m => ef17 m o) ?_
  show GoB17 l Z n0 (OwnW.Ret (some (.int (f17 o mo))) h0) h0 0 0 0 #[.val (.ref o)] []
  refine OwnW.aloadN (pc' := 1) d17_0 rfl (rfl) rfl ?_
  refine OwnW.getF (a0 := a0) (pc' := 4) d17_1 (host := "") (Or.inl (hw _ (List.mem_of_getElem? (i := 84) rfl))) Via.refl F_month rfl ?_
  exact OwnW.retI d17_4 rfl (by decide) (by decide) (⟨by first | (simp only [f17]; done) | (simp only [f17]; rfl), rfl⟩)
theorem d18_0 : decode jdk_2323_method_27_code 0 = .ok (.aload_n 0, 1) := by decide +kernel
theorem d18_1 : decode jdk_2323_method_27_code 1 = .ok (.getfield 253, 3) := by decide +kernel
theorem d18_4 : decode jdk_2323_method_27_code 4 = .ok (.ireturn, 1) := by decide +kernel
def f18 (o : Addr) (dy : Int32) : Int32 := dy
abbrev GoB18 (l : Launch) (Z : State) (n0 : Nat) (Q : Option Value → Heap → Prop) := Go l Z ({ frames := 0, cells := 0, slots := 0, locals := 0 } : Room) (⟨"java/time/LocalDate", "getDayOfMonth", "()I"⟩ : MethodName) jdk_2323_method_27_code 1 (some .int) n0 Q
theorem ef18 (m : MethodId) (o : Addr) : entryFrame m #[(.ref o)] 1 = mkF m 0 #[.val (.ref o)] [] := by first | (simp [entryFrame, mkF, argsToLocals, Value.category]; done) | rfl
set_option maxRecDepth 65536 in
set_option maxHeartbeats 40000000 in
theorem rm18 (l : Launch) (Z : State) (a0 : Array Value) (hw : ∀ d ∈ tables_1, d.before a0 Z = true) (o : Addr) (dy : Int32) (h0 : Heap) (n0 : Nat) (F_day : Fld Z h0 o "java/time/LocalDate" "day" "S" (.int dy)) :
    Con l Z ({ frames := 0, cells := 0, slots := 0, locals := 0 } : Room) (⟨"java/time/LocalDate", "getDayOfMonth", "()I"⟩ : MethodName) jdk_2323_method_27_code 1 (some .int) n0 #[(.ref o)] h0 (OwnW.Ret (some (.int (f18 o dy))) h0) := by
  refine OwnW.Con.of (by first | decide +kernel | exact plainFor_of_name (by simp [plainName, overriddenIn])) (fun m => ef18 m o) ?_
  show GoB18 l Z n0 (OwnW.Ret (some (.int (f18 o dy))) h0) h0 0 0 0 #[.val (.ref o)] []
  refine OwnW.aloadN (pc' := 1) d18_0 rfl (rfl) rfl ?_
  refine OwnW.getF (a0 := a0) (pc' := 4) d18_1 (host := "") (Or.inl (hw _ (List.mem_of_getElem? (i := 86) rfl))) Via.refl F_day rfl ?_
  exact OwnW.retI d18_4 rfl (by decide) (by decide) (⟨by first | (simp only [f18]; done) | (simp only [f18]; rfl), rfl⟩)
theorem d19_0 : decode prog_23_method_9_code 0 = .ok (.lload_n 0, 1) := by decide +kernel
theorem d19_1 : decode prog_23_method_9_code 1 = .ok (.lconst 0, 1) := by decide +kernel
theorem d19_2 : decode prog_23_method_9_code 2 = .ok (.lcmp, 1) := by decide +kernel
theorem d19_3 : decode prog_23_method_9_code 3 = .ok (.ifCond .lt 11, 3) := by decide +kernel
theorem d19_6 : decode prog_23_method_9_code 6 = .ok (.lload_n 0, 1) := by decide +kernel
theorem d19_7 : decode prog_23_method_9_code 7 = .ok (.ldc2_w 65, 3) := by decide +kernel
theorem d19_10 : decode prog_23_method_9_code 10 = .ok (.lcmp, 1) := by decide +kernel
theorem d19_11 : decode prog_23_method_9_code 11 = .ok (.ifCond .le 17, 3) := by decide +kernel
theorem d19_28 : decode prog_23_method_9_code 28 = .ok (.lload_n 0, 1) := by decide +kernel
theorem d19_29 : decode prog_23_method_9_code 29 = .ok (.l2i, 1) := by decide +kernel
theorem d19_30 : decode prog_23_method_9_code 30 = .ok (.bipush 9, 2) := by decide +kernel
theorem d19_32 : decode prog_23_method_9_code 32 = .ok (.ishl, 1) := by decide +kernel
theorem d19_33 : decode prog_23_method_9_code 33 = .ok (.iload_n 2, 1) := by decide +kernel
theorem d19_34 : decode prog_23_method_9_code 34 = .ok (.iconst 5, 1) := by decide +kernel
theorem d19_35 : decode prog_23_method_9_code 35 = .ok (.ishl, 1) := by decide +kernel
theorem d19_36 : decode prog_23_method_9_code 36 = .ok (.ior, 1) := by decide +kernel
theorem d19_37 : decode prog_23_method_9_code 37 = .ok (.iload_n 3, 1) := by decide +kernel
theorem d19_38 : decode prog_23_method_9_code 38 = .ok (.ior, 1) := by decide +kernel
theorem d19_39 : decode prog_23_method_9_code 39 = .ok (.ireturn, 1) := by decide +kernel
def f19 (q0 : Int64) (q1 : Int32) (q2 : Int32) : Int32 := ((((q0.toInt32) <<< ((9 : Int32) &&& 31)) ||| (q1 <<< ((5 : Int32) &&& 31))) ||| q2)
abbrev GoB19 (l : Launch) (Z : State) (n0 : Nat) (Q : Option Value → Heap → Prop) := Go l Z ({ frames := 0, cells := 0, slots := 0, locals := 0 } : Room) (⟨"com/example/paystage/paystage/Dates", "of", "(JII)I"⟩ : MethodName) prog_23_method_9_code 4 (some .int) n0 Q
theorem ef19 (m : MethodId) (q0 : Int64) (q1 : Int32) (q2 : Int32) : entryFrame m #[(.long q0), (.int q1), (.int q2)] 4 = mkF m 0 #[.val (.long q0), .second, .val (.int q1), .val (.int q2)] [] := by first | (simp [entryFrame, mkF, argsToLocals, Value.category]; done) | rfl
set_option maxRecDepth 65536 in
set_option maxHeartbeats 40000000 in
theorem rm19 (l : Launch) (Z : State) (a0 : Array Value) (hw : ∀ d ∈ tables_1, d.before a0 Z = true) (q0 : Int64) (q1 : Int32) (q2 : Int32) (h0 : Heap) (n0 : Nat) (hz : ¬ (lcmpW q0 (0 : Int64)) < (0 : Int32)) (hb4 : ¬ (0 : Int32) < (lcmpW q0 (4194303 : Int64))) :
    Con l Z ({ frames := 0, cells := 0, slots := 0, locals := 0 } : Room) (⟨"com/example/paystage/paystage/Dates", "of", "(JII)I"⟩ : MethodName) prog_23_method_9_code 4 (some .int) n0 #[(.long q0), (.int q1), (.int q2)] h0 (OwnW.Ret (some (.int (f19 q0 q1 q2))) h0) := by
  refine OwnW.Con.of (by first | decide +kernel | exact plainFor_of_name (by simp [plainName, overriddenIn])) (fun m => ef19 m q0 q1 q2) ?_
  show GoB19 l Z n0 (OwnW.Ret (some (.int (f19 q0 q1 q2))) h0) h0 0 0 0 #[.val (.long q0), .second, .val (.int q1), .val (.int q2)] []
  refine OwnW.lloadN (pc' := 1) d19_0 rfl rfl ?_
  refine OwnW.lconst (pc' := 2) (v := (0 : Int64)) d19_1 rfl rfl ?_
  refine OwnW.lcmp (pc' := 3) d19_2 rfl ?_
  refine OwnW.ifcN (pc' := 6) d19_3 ((if0 _ _).trans (flt hz).1) rfl ?_
  refine OwnW.lloadN (pc' := 7) d19_6 rfl rfl ?_
  refine OwnW.ldc2J (a0 := a0) (pc' := 10) (v := (4194303 : Int64)) d19_7 (hw _ (List.mem_of_getElem? (i := 120) rfl)) rfl ?_
  refine OwnW.lcmp (pc' := 11) d19_10 rfl ?_
  refine OwnW.ifcY (pc' := 28) d19_11 ((if0 _ _).trans (flt hb4).2.2.2) (by decide) (by decide) ?_
  refine OwnW.lloadN (pc' := 29) d19_28 rfl rfl ?_
  refine OwnW.l2i (pc' := 30) d19_29 rfl ?_
  refine OwnW.bipush (pc' := 32) (v := (9 : Int32)) d19_30 rfl rfl ?_
  refine OwnW.ishl (pc' := 33) d19_32 rfl ?_
  refine OwnW.iloadN (pc' := 34) d19_33 rfl rfl ?_
  refine OwnW.iconst (pc' := 35) (v := (5 : Int32)) d19_34 rfl rfl ?_
  refine OwnW.ishl (pc' := 36) d19_35 rfl ?_
  refine OwnW.ior (pc' := 37) d19_36 rfl ?_
  refine OwnW.iloadN (pc' := 38) d19_37 rfl rfl ?_
  refine OwnW.ior (pc' := 39) d19_38 rfl ?_
  exact OwnW.retI d19_39 rfl (by decide) (by decide) (⟨by first | (simp only [f19]; done) | (simp only [f19]; rfl), rfl⟩)
theorem d16_0 : decode prog_23_method_2_code 0 = .ok (.aload_n 0, 1) := by decide +kernel
theorem d16_1 : decode prog_23_method_2_code 1 = .ok (.invokevirtual 11, 3) := by decide +kernel
theorem d16_4 : decode prog_23_method_2_code 4 = .ok (.i2l, 1) := by decide +kernel
theorem d16_5 : decode prog_23_method_2_code 5 = .ok (.aload_n 0, 1) := by decide +kernel
theorem d16_6 : decode prog_23_method_2_code 6 = .ok (.invokevirtual 17, 3) := by decide +kernel
theorem d16_9 : decode prog_23_method_2_code 9 = .ok (.aload_n 0, 1) := by decide +kernel
theorem d16_10 : decode prog_23_method_2_code 10 = .ok (.invokevirtual 20, 3) := by decide +kernel
theorem d16_13 : decode prog_23_method_2_code 13 = .ok (.invokestatic 23, 3) := by decide +kernel
theorem d16_16 : decode prog_23_method_2_code 16 = .ok (.ireturn, 1) := by decide +kernel
def f16 (q0 : Addr) (yr : Int32) (mo : Int32) (dy : Int32) : Int32 := (f19 (yr.toInt64) mo dy)
abbrev GoB16 (l : Launch) (Z : State) (n0 : Nat) (Q : Option Value → Heap → Prop) := Go l Z ({ frames := 1, cells := 0, slots := 0, locals := 15 } : Room) (⟨"com/example/paystage/paystage/Dates", "of", "(Ljava/time/LocalDate;)I"⟩ : MethodName) prog_23_method_2_code 1 (some .int) n0 Q
theorem ef16 (m : MethodId) (q0 : Addr) : entryFrame m #[(.ref q0)] 1 = mkF m 0 #[.val (.ref q0)] [] := by first | (simp [entryFrame, mkF, argsToLocals, Value.category]; done) | rfl
set_option maxRecDepth 65536 in
set_option maxHeartbeats 40000000 in
theorem rm16 (l : Launch) (Z : State) (a0 : Array Value) (hw : ∀ d ∈ tables_1, d.before a0 Z = true) (q0 : Addr) (yr : Int32) (mo : Int32) (dy : Int32) (h0 : Heap) (n0 : Nat) (E_q : Exa Z h0 q0 "java/time/LocalDate") (F_year : Fld Z h0 q0 "java/time/LocalDate" "year" "I" (.int yr)) (F_month : Fld Z h0 q0 "java/time/LocalDate" "month" "S" (.int mo)) (F_day : Fld Z h0 q0 "java/time/LocalDate" "day" "S" (.int dy)) (hz : ¬ (lcmpW (yr.toInt64) (0 : Int64)) < (0 : Int32)) (hb4 : ¬ (0 : Int32) < (lcmpW (yr.toInt64) (4194303 : Int64))) :
    Con l Z ({ frames := 1, cells := 0, slots := 0, locals := 15 } : Room) (⟨"com/example/paystage/paystage/Dates", "of", "(Ljava/time/LocalDate;)I"⟩ : MethodName) prog_23_method_2_code 1 (some .int) n0 #[(.ref q0)] h0 (OwnW.Ret (some (.int (f16 q0 yr mo dy))) h0) := by
  refine OwnW.Con.of (by first | decide +kernel | exact plainFor_of_name (by simp [plainName, overriddenIn])) (fun m => ef16 m q0) ?_
  show GoB16 l Z n0 (OwnW.Ret (some (.int (f16 q0 yr mo dy))) h0) h0 0 0 0 #[.val (.ref q0)] []
  refine OwnW.aloadN (pc' := 1) d16_0 rfl (rfl) rfl ?_
  refine OwnW.callV0 (a0 := a0) (pc' := 4) (W := 0) (k' := 0) (n' := 0) (argsL := []) (rest := []) (St' := [(.int (f15 q0 yr))]) d16_1 (hw _ (List.mem_of_getElem? (i := 98) rfl)) (hw _ (List.mem_of_getElem? (i := 99) rfl)) (hw _ (List.mem_of_getElem? (i := 101) rfl)) (hw _ (List.mem_of_getElem? (i := 100) rfl)) (hw _ (List.mem_of_getElem? (i := 29) rfl)) (hw _ (List.mem_of_getElem? (i := 102) rfl)) (by decide) E_q (rm15 l Z a0 hw q0 yr h0 n0 F_year) (by decide) (by decide) rfl rfl (by decide) (by decide) rfl pd_2829I rfl rfl rfl (Nat.le_of_ble_eq_true rfl) rfl rfl ?_
  rw [show (f15 q0 yr) = yr from rfl]
  show GoB16 l Z n0 (OwnW.Ret (some (.int (f16 q0 yr mo dy))) h0) h0 0 0 4 #[.val (.ref q0)] [(.int yr)]
  refine OwnW.i2l (pc' := 5) d16_4 rfl ?_
  refine OwnW.aloadN (pc' := 6) d16_5 rfl (rfl) rfl ?_
  refine OwnW.callV0 (a0 := a0) (pc' := 9) (W := 2) (k' := 0) (n' := 0) (argsL := []) (rest := [(.long (yr.toInt64))]) (St' := [(.int (f17 q0 mo)), (.long (yr.toInt64))]) d16_6 (hw _ (List.mem_of_getElem? (i := 107) rfl)) (hw _ (List.mem_of_getElem? (i := 108) rfl)) (hw _ (List.mem_of_getElem? (i := 110) rfl)) (hw _ (List.mem_of_getElem? (i := 109) rfl)) (hw _ (List.mem_of_getElem? (i := 29) rfl)) (hw _ (List.mem_of_getElem? (i := 111) rfl)) (by decide) E_q (rm17 l Z a0 hw q0 mo h0 n0 F_month) (by decide) (by decide) rfl rfl (by decide) (by decide) rfl pd_2829I rfl rfl rfl (Nat.le_of_ble_eq_true rfl) rfl rfl ?_
  refine OwnW.aloadN (pc' := 10) d16_9 rfl (rfl) rfl ?_
  refine OwnW.callV0 (a0 := a0) (pc' := 13) (W := 3) (k' := 0) (n' := 0) (argsL := []) (rest := [(.int (f17 q0 mo)), (.long (yr.toInt64))]) (St' := [(.int (f18 q0 dy)), (.int (f17 q0 mo)), (.long (yr.toInt64))]) d16_10 (hw _ (List.mem_of_getElem? (i := 112) rfl)) (hw _ (List.mem_of_getElem? (i := 113) rfl)) (hw _ (List.mem_of_getElem? (i := 115) rfl)) (hw _ (List.mem_of_getElem? (i := 114) rfl)) (hw _ (List.mem_of_getElem? (i := 29) rfl)) (hw _ (List.mem_of_getElem? (i := 116) rfl)) (by decide) E_q (rm18 l Z a0 hw q0 dy h0 n0 F_day) (by decide) (by decide) rfl rfl (by decide) (by decide) rfl pd_2829I rfl rfl rfl (Nat.le_of_ble_eq_true rfl) rfl rfl ?_
  rw [show (f18 q0 dy) = dy from rfl]
  show GoB16 l Z n0 (OwnW.Ret (some (.int (f16 q0 yr mo dy))) h0) h0 0 0 13 #[.val (.ref q0)] [(.int dy), (.int (f17 q0 mo)), (.long (yr.toInt64))]
  rw [show (f17 q0 mo) = mo from rfl]
  show GoB16 l Z n0 (OwnW.Ret (some (.int (f16 q0 yr mo dy))) h0) h0 0 0 13 #[.val (.ref q0)] [(.int dy), (.int mo), (.long (yr.toInt64))]
  refine OwnW.callS0 (a0 := a0) (pc' := 16) (W := 0) (k' := 0) (n' := 0) (argsL := [(.long (yr.toInt64)), (.int mo), (.int dy)]) (rest := []) (St' := [(.int (f19 (yr.toInt64) mo dy))]) d16_13 (hw _ (List.mem_of_getElem? (i := 117) rfl)) (hw _ (List.mem_of_getElem? (i := 118) rfl)) (hw _ (List.mem_of_getElem? (i := 95) rfl)) (hw _ (List.mem_of_getElem? (i := 119) rfl)) (by decide) (rm19 l Z a0 hw (yr.toInt64) mo dy h0 n0 hz hb4) (by decide) (by decide) rfl rfl (by decide) (by decide) rfl pd_28JII29I rfl rfl rfl (Nat.le_of_ble_eq_true rfl) rfl rfl ?_
  exact OwnW.retI d16_16 rfl (by decide) (by decide) (⟨by first | (simp only [f16]; done) | (simp only [f16]; rfl), rfl⟩)

theorem own_z {yr : Int32} (h : ¬ yr < (0 : Int32)) : ¬ (lcmpW (yr.toInt64) (0 : Int64)) < (0 : Int32) := by
  rw [lw_lt, Int64.lt_iff_toInt_lt, c_i2l]
  rw [Int32.lt_iff_toInt_lt] at h
  exact h
theorem own_b {yr : Int32} (h : ¬ (4194303 : Int32) < yr) : ¬ (0 : Int32) < (lcmpW (yr.toInt64) (4194303 : Int64)) := by
  rw [lw_gt, Int64.lt_iff_toInt_lt, c_i2l]
  rw [Int32.lt_iff_toInt_lt] at h
  exact h

theorem d14_0 : decode prog_23_method_3_code 0 = .ok (.ldc 27, 2) := by decide +kernel
theorem d14_2 : decode prog_23_method_3_code 2 = .ok (.istore_n 1, 1) := by decide +kernel
theorem d14_3 : decode prog_23_method_3_code 3 = .ok (.aload_n 0, 1) := by decide +kernel
theorem d14_4 : decode prog_23_method_3_code 4 = .ok (.invokevirtual 11, 3) := by decide +kernel
theorem d14_7 : decode prog_23_method_3_code 7 = .ok (.ldc 28, 2) := by decide +kernel
theorem d14_9 : decode prog_23_method_3_code 9 = .ok (.if_icmp .le 9, 3) := by decide +kernel
theorem d14_12 : decode prog_23_method_3_code 12 = .ok (.ldc 29, 2) := by decide +kernel
theorem d14_14 : decode prog_23_method_3_code 14 = .ok (.istore_n 1, 1) := by decide +kernel
theorem d14_15 : decode prog_23_method_3_code 15 = .ok (.goto 15, 3) := by decide +kernel
theorem d14_18 : decode prog_23_method_3_code 18 = .ok (.aload_n 0, 1) := by decide +kernel
theorem d14_19 : decode prog_23_method_3_code 19 = .ok (.invokevirtual 11, 3) := by decide +kernel
theorem d14_22 : decode prog_23_method_3_code 22 = .ok (.ifCond .lt 8, 3) := by decide +kernel
theorem d14_25 : decode prog_23_method_3_code 25 = .ok (.aload_n 0, 1) := by decide +kernel
theorem d14_26 : decode prog_23_method_3_code 26 = .ok (.invokestatic 30, 3) := by decide +kernel
theorem d14_29 : decode prog_23_method_3_code 29 = .ok (.istore_n 1, 1) := by decide +kernel
theorem d14_30 : decode prog_23_method_3_code 30 = .ok (.iload_n 1, 1) := by decide +kernel
theorem d14_31 : decode prog_23_method_3_code 31 = .ok (.ireturn, 1) := by decide +kernel
def f14 (q0 : Addr) (yr : Int32) (mo : Int32) (dy : Int32) : Int32 := (if (4194303 : Int32) < yr then (2147483647 : Int32) else (if yr < (0 : Int32) then (-2147483648 : Int32) else (f16 q0 yr mo dy)))
abbrev GoB14 (l : Launch) (Z : State) (n0 : Nat) (Q : Option Value → Heap → Prop) := Go l Z ({ frames := 2, cells := 0, slots := 0, locals := 27 } : Room) (⟨"com/example/paystage/paystage/Dates", "bounded", "(Ljava/time/LocalDate;)I"⟩ : MethodName) prog_23_method_3_code 2 (some .int) n0 Q
theorem ef14 (m : MethodId) (q0 : Addr) : entryFrame m #[(.ref q0)] 2 = mkF m 0 #[.val (.ref q0), .unset] [] := by first | (simp [entryFrame, mkF, argsToLocals, Value.category]; done) | rfl
set_option maxRecDepth 65536 in
set_option maxHeartbeats 40000000 in
theorem rm14 (l : Launch) (Z : State) (a0 : Array Value) (hw : ∀ d ∈ tables_1, d.before a0 Z = true) (q0 : Addr) (yr : Int32) (mo : Int32) (dy : Int32) (h0 : Heap) (n0 : Nat) (E_q : Exa Z h0 q0 "java/time/LocalDate") (F_year : Fld Z h0 q0 "java/time/LocalDate" "year" "I" (.int yr)) (F_month : Fld Z h0 q0 "java/time/LocalDate" "month" "S" (.int mo)) (F_day : Fld Z h0 q0 "java/time/LocalDate" "day" "S" (.int dy)) :
    Con l Z ({ frames := 2, cells := 0, slots := 0, locals := 27 } : Room) (⟨"com/example/paystage/paystage/Dates", "bounded", "(Ljava/time/LocalDate;)I"⟩ : MethodName) prog_23_method_3_code 2 (some .int) n0 #[(.ref q0)] h0 (OwnW.Ret (some (.int (f14 q0 yr mo dy))) h0) := by
  refine OwnW.Con.of (by first | decide +kernel | exact plainFor_of_name (by simp [plainName, overriddenIn])) (fun m => ef14 m q0) ?_
  show GoB14 l Z n0 (OwnW.Ret (some (.int (f14 q0 yr mo dy))) h0) h0 0 0 0 #[.val (.ref q0), .unset] []
  refine OwnW.ldcI (a0 := a0) (pc' := 2) (v := (-2147483648 : Int32)) d14_0 (hw _ (List.mem_of_getElem? (i := 97) rfl)) rfl ?_
  refine OwnW.istoreN (pc' := 3) (L' := #[.val (.ref q0), .val (.int (-2147483648 : Int32))]) d14_2 rfl rfl ?_
  refine OwnW.aloadN (pc' := 4) d14_3 rfl (rfl) rfl ?_
  refine OwnW.callV0 (a0 := a0) (pc' := 7) (W := 0) (k' := 0) (n' := 0) (argsL := []) (rest := []) (St' := [(.int (f15 q0 yr))]) d14_4 (hw _ (List.mem_of_getElem? (i := 98) rfl)) (hw _ (List.mem_of_getElem? (i := 99) rfl)) (hw _ (List.mem_of_getElem? (i := 101) rfl)) (hw _ (List.mem_of_getElem? (i := 100) rfl)) (hw _ (List.mem_of_getElem? (i := 29) rfl)) (hw _ (List.mem_of_getElem? (i := 102) rfl)) (by decide) E_q (rm15 l Z a0 hw q0 yr h0 n0 F_year) (by decide) (by decide) rfl rfl (by decide) (by decide) rfl pd_2829I rfl rfl rfl (Nat.le_of_ble_eq_true rfl) rfl rfl ?_
  rw [show (f15 q0 yr) = yr from rfl]
  show GoB14 l Z n0 (OwnW.Ret (some (.int (f14 q0 yr mo dy))) h0) h0 0 0 7 #[.val (.ref q0), .val (.int (-2147483648 : Int32))] [(.int yr)]
  refine OwnW.ldcI (a0 := a0) (pc' := 9) (v := (4194303 : Int32)) d14_7 (hw _ (List.mem_of_getElem? (i := 103) rfl)) rfl ?_
  by_cases hc9 : (4194303 : Int32) < yr
  ·
    refine OwnW.icmpN (pc' := 12) d14_9 (tlt hc9).2.2.2 rfl ?_
    refine OwnW.ldcI (a0 := a0) (pc' := 14) (v := (2147483647 : Int32)) d14_12 (hw _ (List.mem_of_getElem? (i := 128) rfl)) rfl ?_
    refine OwnW.istoreN (pc' := 15) (L' := #[.val (.ref q0), .val (.int (2147483647 : Int32))]) d14_14 rfl rfl ?_
    refine OwnW.goto (pc' := 30) d14_15 (by decide) (by decide) ?_
    refine OwnW.iloadN (pc' := 31) d14_30 rfl rfl ?_
    exact OwnW.retI d14_31 rfl (by decide) (by decide) (⟨by first | (simp only [f14, if_pos hc9]; done) | (simp only [f14, if_pos hc9]; rfl), rfl⟩)
  ·
    refine OwnW.icmpY (pc' := 18) d14_9 (flt hc9).2.2.2 (by decide) (by decide) ?_
    refine OwnW.aloadN (pc' := 19) d14_18 rfl (rfl) rfl ?_
    refine OwnW.callV0 (a0 := a0) (pc' := 22) (W := 0) (k' := 0) (n' := 0) (argsL := []) (rest := []) (St' := [(.int (f15 q0 yr))]) d14_19 (hw _ (List.mem_of_getElem? (i := 98) rfl)) (hw _ (List.mem_of_getElem? (i := 99) rfl)) (hw _ (List.mem_of_getElem? (i := 101) rfl)) (hw _ (List.mem_of_getElem? (i := 100) rfl)) (hw _ (List.mem_of_getElem? (i := 29) rfl)) (hw _ (List.mem_of_getElem? (i := 102) rfl)) (by decide) E_q (rm15 l Z a0 hw q0 yr h0 n0 F_year) (by decide) (by decide) rfl rfl (by decide) (by decide) rfl pd_2829I rfl rfl rfl (Nat.le_of_ble_eq_true rfl) rfl rfl ?_
    rw [show (f15 q0 yr) = yr from rfl]
    show GoB14 l Z n0 (OwnW.Ret (some (.int (f14 q0 yr mo dy))) h0) h0 0 0 22 #[.val (.ref q0), .val (.int (-2147483648 : Int32))] [(.int yr)]
    by_cases hc22 : yr < (0 : Int32)
    ·
      refine OwnW.ifcY (pc' := 30) d14_22 ((if0 _ _).trans (tlt hc22).1) (by decide) (by decide) ?_
      refine OwnW.iloadN (pc' := 31) d14_30 rfl rfl ?_
      exact OwnW.retI d14_31 rfl (by decide) (by decide) (⟨by first | (simp only [f14, if_neg hc9, if_pos hc22]; done) | (simp only [f14, if_neg hc9, if_pos hc22]; rfl), rfl⟩)
    ·
      refine OwnW.ifcN (pc' := 25) d14_22 ((if0 _ _).trans (flt hc22).1) rfl ?_
      refine OwnW.aloadN (pc' := 26) d14_25 rfl (rfl) rfl ?_
      refine OwnW.callS0 (a0 := a0) (pc' := 29) (W := 0) (k' := 0) (n' := 0) (argsL := [(.ref q0)]) (rest := []) (St' := [(.int (f16 q0 yr mo dy))]) d14_26 (hw _ (List.mem_of_getElem? (i := 104) rfl)) (hw _ (List.mem_of_getElem? (i := 105) rfl)) (hw _ (List.mem_of_getElem? (i := 95) rfl)) (hw _ (List.mem_of_getElem? (i := 106) rfl)) (by decide) (rm16 l Z a0 hw q0 yr mo dy h0 n0 E_q F_year F_month F_day (own_z hc22) (own_b hc9)) (by decide) (by decide) rfl rfl (by decide) (by decide) rfl pd_28Ljava2ftime2fLocalDate3b29I rfl rfl rfl (Nat.le_of_ble_eq_true rfl) rfl rfl ?_
      refine OwnW.istoreN (pc' := 30) (L' := #[.val (.ref q0), .val (.int (f16 q0 yr mo dy))]) d14_29 rfl rfl ?_
      refine OwnW.iloadN (pc' := 31) d14_30 rfl rfl ?_
      exact OwnW.retI d14_31 rfl (by decide) (by decide) (⟨by first | (simp only [f14, if_neg hc9, if_neg hc22]; done) | (simp only [f14, if_neg hc9, if_neg hc22]; rfl), rfl⟩)
theorem d20_0 : decode prog_16_method_3_code 0 = .ok (.aload_n 0, 1) := by decide +kernel
theorem d20_1 : decode prog_16_method_3_code 1 = .ok (.getfield 7, 3) := by decide +kernel
theorem d20_4 : decode prog_16_method_3_code 4 = .ok (.iload_n 1, 1) := by decide +kernel
theorem d20_5 : decode prog_16_method_3_code 5 = .ok (.if_icmp .gt 15, 3) := by decide +kernel
theorem d20_8 : decode prog_16_method_3_code 8 = .ok (.iload_n 1, 1) := by decide +kernel
theorem d20_9 : decode prog_16_method_3_code 9 = .ok (.aload_n 0, 1) := by decide +kernel
theorem d20_10 : decode prog_16_method_3_code 10 = .ok (.getfield 13, 3) := by decide +kernel
theorem d20_13 : decode prog_16_method_3_code 13 = .ok (.if_icmp .gt 7, 3) := by decide +kernel
theorem d20_16 : decode prog_16_method_3_code 16 = .ok (.iconst 1, 1) := by decide +kernel
theorem d20_17 : decode prog_16_method_3_code 17 = .ok (.goto 4, 3) := by decide +kernel
theorem d20_20 : decode prog_16_method_3_code 20 = .ok (.iconst 0, 1) := by decide +kernel
theorem d20_21 : decode prog_16_method_3_code 21 = .ok (.ireturn, 1) := by decide +kernel
def f20 (o : Addr) (q0 : Int32) (fr : Int32) (un : Int32) : Int32 := (if q0 < fr then (0 : Int32) else (if un < q0 then (0 : Int32) else (1 : Int32)))
abbrev GoB20 (l : Launch) (Z : State) (n0 : Nat) (Q : Option Value → Heap → Prop) := Go l Z ({ frames := 0, cells := 0, slots := 0, locals := 0 } : Room) (⟨"com/example/paystage/paystage/Course$Span", "covers", "(I)Z"⟩ : MethodName) prog_16_method_3_code 2 (some .boolean) n0 Q
theorem ef20 (m : MethodId) (o : Addr) (q0 : Int32) : entryFrame m #[(.ref o), (.int q0)] 2 = mkF m 0 #[.val (.ref o), .val (.int q0)] [] := by first | (simp [entryFrame, mkF, argsToLocals, Value.category]; done) | rfl
set_option maxRecDepth 65536 in
set_option maxHeartbeats 40000000 in
theorem rm20 (l : Launch) (Z : State) (a0 : Array Value) (hw : ∀ d ∈ tables_1, d.before a0 Z = true) (o : Addr) (q0 : Int32) (fr : Int32) (un : Int32) (h0 : Heap) (n0 : Nat) (F_from : Fld Z h0 o "com/example/paystage/paystage/Course$Span" "from" "I" (.int fr)) (F_until : Fld Z h0 o "com/example/paystage/paystage/Course$Span" "until" "I" (.int un)) :
    Con l Z ({ frames := 0, cells := 0, slots := 0, locals := 0 } : Room) (⟨"com/example/paystage/paystage/Course$Span", "covers", "(I)Z"⟩ : MethodName) prog_16_method_3_code 2 (some .boolean) n0 #[(.ref o), (.int q0)] h0 (OwnW.Ret (some (.int (f20 o q0 fr un))) h0) := by
  refine OwnW.Con.of (by first | decide +kernel | exact plainFor_of_name (by simp [plainName, overriddenIn])) (fun m => ef20 m o q0) ?_
  show GoB20 l Z n0 (OwnW.Ret (some (.int (f20 o q0 fr un))) h0) h0 0 0 0 #[.val (.ref o), .val (.int q0)] []
  refine OwnW.aloadN (pc' := 1) d20_0 rfl (rfl) rfl ?_
  refine OwnW.getF (a0 := a0) (pc' := 4) d20_1 (host := "") (Or.inl (hw _ (List.mem_of_getElem? (i := 17) rfl))) Via.refl F_from rfl ?_
  refine OwnW.iloadN (pc' := 5) d20_4 rfl rfl ?_
  by_cases hc5 : q0 < fr
  ·
    refine OwnW.icmpY (pc' := 20) d20_5 (tlt hc5).2.2.1 (by decide) (by decide) ?_
    refine OwnW.iconst (pc' := 21) (v := (0 : Int32)) d20_20 rfl rfl ?_
    exact OwnW.retN (t := .boolean) d20_21 rfl (by simp) rfl (by decide) (by decide) (⟨by first | (simp only [f20, if_pos hc5]; done) | (simp only [f20, if_pos hc5]; rfl), rfl⟩)
  ·
    refine OwnW.icmpN (pc' := 8) d20_5 (flt hc5).2.2.1 rfl ?_
    refine OwnW.iloadN (pc' := 9) d20_8 rfl rfl ?_
    refine OwnW.aloadN (pc' := 10) d20_9 rfl (rfl) rfl ?_
    refine OwnW.getF (a0 := a0) (pc' := 13) d20_10 (host := "") (Or.inl (hw _ (List.mem_of_getElem? (i := 19) rfl))) Via.refl F_until rfl ?_
    by_cases hc13 : un < q0
    ·
      refine OwnW.icmpY (pc' := 20) d20_13 (tlt hc13).2.2.1 (by decide) (by decide) ?_
      refine OwnW.iconst (pc' := 21) (v := (0 : Int32)) d20_20 rfl rfl ?_
      exact OwnW.retN (t := .boolean) d20_21 rfl (by simp) rfl (by decide) (by decide) (⟨by first | (simp only [f20, if_neg hc5, if_pos hc13]; done) | (simp only [f20, if_neg hc5, if_pos hc13]; rfl), rfl⟩)
    ·
      refine OwnW.icmpN (pc' := 16) d20_13 (flt hc13).2.2.1 rfl ?_
      refine OwnW.iconst (pc' := 17) (v := (1 : Int32)) d20_16 rfl rfl ?_
      refine OwnW.goto (pc' := 21) d20_17 (by decide) (by decide) ?_
      exact OwnW.retN (t := .boolean) d20_21 rfl (by simp) rfl (by decide) (by decide) (⟨by first | (simp only [f20, if_neg hc5, if_neg hc13]; done) | (simp only [f20, if_neg hc5, if_neg hc13]; rfl), rfl⟩)
theorem d13_0 : decode prog_16_method_2_code 0 = .ok (.aload_n 0, 1) := by decide +kernel
theorem d13_1 : decode prog_16_method_2_code 1 = .ok (.aload_n 1, 1) := by decide +kernel
theorem d13_2 : decode prog_16_method_2_code 2 = .ok (.invokestatic 27, 3) := by decide +kernel
theorem d13_5 : decode prog_16_method_2_code 5 = .ok (.invokevirtual 33, 3) := by decide +kernel
theorem d13_8 : decode prog_16_method_2_code 8 = .ok (.ireturn, 1) := by decide +kernel
def f13 (o : Addr) (q0 : Addr) (fr : Int32) (un : Int32) (yr : Int32) (mo : Int32) (dy : Int32) : Int32 := (nar .boolean (f20 o (f14 q0 yr mo dy) fr un))
abbrev GoB13 (l : Launch) (Z : State) (n0 : Nat) (Q : Option Value → Heap → Prop) := Go l Z ({ frames := 3, cells := 0, slots := 0, locals := 41 } : Room) (⟨"com/example/paystage/paystage/Course$Span", "covers", "(Ljava/time/LocalDate;)Z"⟩ : MethodName) prog_16_method_2_code 2 (some .boolean) n0 Q
theorem ef13 (m : MethodId) (o : Addr) (q0 : Addr) : entryFrame m #[(.ref o), (.ref q0)] 2 = mkF m 0 #[.val (.ref o), .val (.ref q0)] [] := by first | (simp [entryFrame, mkF, argsToLocals, Value.category]; done) | rfl
set_option maxRecDepth 65536 in
set_option maxHeartbeats 40000000 in
theorem rm13 (l : Launch) (Z : State) (a0 : Array Value) (hw : ∀ d ∈ tables_1, d.before a0 Z = true) (o : Addr) (q0 : Addr) (fr : Int32) (un : Int32) (yr : Int32) (mo : Int32) (dy : Int32) (h0 : Heap) (n0 : Nat) (F_from : Fld Z h0 o "com/example/paystage/paystage/Course$Span" "from" "I" (.int fr)) (F_until : Fld Z h0 o "com/example/paystage/paystage/Course$Span" "until" "I" (.int un)) (E_q : Exa Z h0 q0 "java/time/LocalDate") (F_year : Fld Z h0 q0 "java/time/LocalDate" "year" "I" (.int yr)) (F_month : Fld Z h0 q0 "java/time/LocalDate" "month" "S" (.int mo)) (F_day : Fld Z h0 q0 "java/time/LocalDate" "day" "S" (.int dy)) (E_o : Exa Z h0 o "com/example/paystage/paystage/Course$Span") :
    Con l Z ({ frames := 3, cells := 0, slots := 0, locals := 41 } : Room) (⟨"com/example/paystage/paystage/Course$Span", "covers", "(Ljava/time/LocalDate;)Z"⟩ : MethodName) prog_16_method_2_code 2 (some .boolean) n0 #[(.ref o), (.ref q0)] h0 (OwnW.Ret (some (.int (f13 o q0 fr un yr mo dy))) h0) := by
  refine OwnW.Con.of (by first | decide +kernel | exact plainFor_of_name (by simp [plainName, overriddenIn])) (fun m => ef13 m o q0) ?_
  show GoB13 l Z n0 (OwnW.Ret (some (.int (f13 o q0 fr un yr mo dy))) h0) h0 0 0 0 #[.val (.ref o), .val (.ref q0)] []
  refine OwnW.aloadN (pc' := 1) d13_0 rfl (rfl) rfl ?_
  refine OwnW.aloadN (pc' := 2) d13_1 rfl (rfl) rfl ?_
  refine OwnW.callS0 (a0 := a0) (pc' := 5) (W := 1) (k' := 0) (n' := 0) (argsL := [(.ref q0)]) (rest := [(.ref o)]) (St' := [(.int (f14 q0 yr mo dy)), (.ref o)]) d13_2 (hw _ (List.mem_of_getElem? (i := 93) rfl)) (hw _ (List.mem_of_getElem? (i := 94) rfl)) (hw _ (List.mem_of_getElem? (i := 95) rfl)) (hw _ (List.mem_of_getElem? (i := 96) rfl)) (by decide) (rm14 l Z a0 hw q0 yr mo dy h0 n0 E_q F_year F_month F_day) (by decide) (by decide) rfl rfl (by decide) (by decide) rfl pd_28Ljava2ftime2fLocalDate3b29I rfl rfl rfl (Nat.le_of_ble_eq_true rfl) rfl rfl ?_
  refine OwnW.callV0 (a0 := a0) (pc' := 8) (W := 0) (k' := 0) (n' := 0) (argsL := [(.int (f14 q0 yr mo dy))]) (rest := []) (St' := [(.int (f20 o (f14 q0 yr mo dy) fr un))]) d13_5 (hw _ (List.mem_of_getElem? (i := 121) rfl)) (hw _ (List.mem_of_getElem? (i := 122) rfl)) (hw _ (List.mem_of_getElem? (i := 124) rfl)) (hw _ (List.mem_of_getElem? (i := 123) rfl)) (hw _ (List.mem_of_getElem? (i := 5) rfl)) (hw _ (List.mem_of_getElem? (i := 125) rfl)) (by decide) E_o (rm20 l Z a0 hw o (f14 q0 yr mo dy) fr un h0 n0 F_from F_until) (by decide) (by decide) rfl rfl (by decide) (by decide) rfl pd_28I29Z rfl rfl rfl (Nat.le_of_ble_eq_true rfl) rfl rfl ?_
  exact OwnW.retN (t := .boolean) d13_8 rfl (by simp) rfl (by decide) (by decide) (⟨by first | (simp only [f13]; done) | (simp only [f13]; rfl), rfl⟩)
theorem own_len {mon len : Int32} (hlen : len = (if mon = (2 : Int32) then (28 : Int32) else (if mon = (4 : Int32) then (30 : Int32) else (if mon = (6 : Int32) then (30 : Int32) else (if mon = (9 : Int32) then (30 : Int32) else (if mon = (11 : Int32) then (30 : Int32) else (31 : Int32))))))) : len ≠ 0 := by
  subst hlen
  repeat' split
  all_goals decide
theorem own_mon {m mon : Int32} (hmon : mon = ((1 : Int32) + ((m &&& (2147483647 : Int32)) % (12 : Int32)))) : mon.toInt = 1 ∨ mon.toInt = 2 ∨ mon.toInt = 3 ∨ mon.toInt = 4 ∨ mon.toInt = 5 ∨ mon.toInt = 6 ∨ mon.toInt = 7 ∨ mon.toInt = 8 ∨ mon.toInt = 9 ∨ mon.toInt = 10 ∨ mon.toInt = 11 ∨ mon.toInt = 12 := by
  have e := c_mask m 2147483647 31 (by decide) (by decide)
  have r := (c_irem (m &&& 2147483647) 12 12 (by decide)).1 (by omega)
  have s := c_iadd 1 ((m &&& (2147483647 : Int32)) % (12 : Int32))
  have b := rng32 mon
  rw [← hmon] at s
  have o : (1 : Int32).toInt = 1 := by decide
  omega
theorem own_dayR {d len day : Int32} (n : Int) (hn : len.toInt = n) (h0 : 0 < n) (h1 : n ≤ 31) (hday : day = ((1 : Int32) + ((d &&& (2147483647 : Int32)) % len))) : 1 ≤ day.toInt ∧ day.toInt ≤ n := by
  have e := c_mask d 2147483647 31 (by decide) (by decide)
  have r := (c_irem (d &&& 2147483647) len n hn).1 (by omega)
  have s := c_iadd 1 ((d &&& (2147483647 : Int32)) % len)
  have b := rng32 day
  rw [← hday] at s
  have o : (1 : Int32).toInt = 1 := by decide
  have k : 0 ≤ (d &&& (2147483647 : Int32)).toInt % n ∧ (d &&& (2147483647 : Int32)).toInt % n < n := ⟨Int.emod_nonneg _ (by omega), Int.emod_lt_of_pos _ h0⟩
  omega
theorem own_lenI {mon len : Int32} (hlen : len = (if mon = (2 : Int32) then (28 : Int32) else (if mon = (4 : Int32) then (30 : Int32) else (if mon = (6 : Int32) then (30 : Int32) else (if mon = (9 : Int32) then (30 : Int32) else (if mon = (11 : Int32) then (30 : Int32) else (31 : Int32))))))) :
    (len.toInt = 28 ∨ len.toInt = 30 ∨ len.toInt = 31) ∧ (mon.toInt = 2 → len.toInt = 28) ∧ ((mon.toInt = 4 ∨ mon.toInt = 6 ∨ mon.toInt = 9 ∨ mon.toInt = 11) → len.toInt = 30) := by
  have a1 : (28 : Int32).toInt = 28 := by decide
  have a2 : (30 : Int32).toInt = 30 := by decide
  have a3 : (31 : Int32).toInt = 31 := by decide
  have b2 : (2 : Int32).toInt = 2 := by decide
  have b4 : (4 : Int32).toInt = 4 := by decide
  have b6 : (6 : Int32).toInt = 6 := by decide
  have b9 : (9 : Int32).toInt = 9 := by decide
  have b11 : (11 : Int32).toInt = 11 := by decide
  simp only [← Int32.toInt_inj (x := mon), b2, b4, b6, b9, b11] at hlen
  split at hlen
  · subst hlen; omega
  · split at hlen
    · subst hlen; omega
    · split at hlen
      · subst hlen; omega
      · split at hlen
        · subst hlen; omega
        · split at hlen <;> subst hlen <;> omega
theorem own_dayB {mon d len day : Int32} (hlen : len = (if mon = (2 : Int32) then (28 : Int32) else (if mon = (4 : Int32) then (30 : Int32) else (if mon = (6 : Int32) then (30 : Int32) else (if mon = (9 : Int32) then (30 : Int32) else (if mon = (11 : Int32) then (30 : Int32) else (31 : Int32))))))) (hday : day = ((1 : Int32) + ((d &&& (2147483647 : Int32)) % len))) : 1 ≤ day.toInt ∧ day.toInt ≤ len.toInt ∧ len.toInt ≤ 31 := by
  obtain ⟨h | h | h, -, -⟩ := own_lenI hlen
  · have := own_dayR 28 h (by omega) (by omega) hday; omega
  · have := own_dayR 30 h (by omega) (by omega) hday; omega
  · have := own_dayR 31 h (by omega) (by omega) hday; omega
theorem own_day {m mon d len day : Int32} (hmon : mon = ((1 : Int32) + ((m &&& (2147483647 : Int32)) % (12 : Int32)))) (hlen : len = (if mon = (2 : Int32) then (28 : Int32) else (if mon = (4 : Int32) then (30 : Int32) else (if mon = (6 : Int32) then (30 : Int32) else (if mon = (9 : Int32) then (30 : Int32) else (if mon = (11 : Int32) then (30 : Int32) else (31 : Int32))))))) (hday : day = ((1 : Int32) + ((d &&& (2147483647 : Int32)) % len))) :
    (mon.toInt = 2 → ¬ (28 : Int32) < day) ∧ ((mon.toInt = 4 ∨ mon.toInt = 6 ∨ mon.toInt = 9 ∨ mon.toInt = 11) → ¬ (30 : Int32) < day) ∧ ¬ (31 : Int32) < day := by
  obtain ⟨h1, h2, h3⟩ := own_lenI hlen
  have b := own_dayB hlen hday
  have a1 : (28 : Int32).toInt = 28 := by decide
  have a2 : (30 : Int32).toInt = 30 := by decide
  have a3 : (31 : Int32).toInt = 31 := by decide
  simp only [Int32.lt_iff_toInt_lt, a1, a2, a3]
  refine ⟨fun h => ?_, fun h => ?_, by omega⟩
  · have := h2 h; omega
  · have := h3 h; omega
theorem own_year {y year pick : Int32} (hyear : year = (if (pick &&& (4 : Int32)) = (0 : Int32) then (y % (1000000000 : Int32)) else (y % (4194306 : Int32)))) : -999999999 ≤ year.toInt ∧ year.toInt ≤ 999999999 := by
  have r1 := c_irem y 1000000000 1000000000 (by decide)
  have r2 := c_irem y 4194306 4194306 (by decide)
  rcases Int.lt_or_le y.toInt 0 with h | h
  · have q1 := r1.2 h
    have q2 := r2.2 h
    split at hyear <;> subst hyear <;> omega
  · have q1 := r1.1 h
    have q2 := r2.1 h
    split at hyear <;> subst hyear <;> omega
theorem own_rng {y year pick m mon d len day : Int32} (hyear : year = (if (pick &&& (4 : Int32)) = (0 : Int32) then (y % (1000000000 : Int32)) else (y % (4194306 : Int32)))) (hmon : mon = ((1 : Int32) + ((m &&& (2147483647 : Int32)) % (12 : Int32)))) (hday : day = ((1 : Int32) + ((d &&& (2147483647 : Int32)) % len))) (hlen : len = (if mon = (2 : Int32) then (28 : Int32) else (if mon = (4 : Int32) then (30 : Int32) else (if mon = (6 : Int32) then (30 : Int32) else (if mon = (9 : Int32) then (30 : Int32) else (if mon = (11 : Int32) then (30 : Int32) else (31 : Int32))))))) :
    ¬ (lcmpW (year.toInt64) (-999999999 : Int64)) < (0 : Int32) ∧ ¬ (0 : Int32) < (lcmpW (year.toInt64) (999999999 : Int64)) ∧ ¬ (lcmpW (mon.toInt64) (1 : Int64)) < (0 : Int32) ∧ ¬ (0 : Int32) < (lcmpW (mon.toInt64) (12 : Int64)) ∧ ¬ (lcmpW (day.toInt64) (1 : Int64)) < (0 : Int32) ∧ ¬ (0 : Int32) < (lcmpW (day.toInt64) (31 : Int64)) := by
  have a := own_year hyear
  have b := own_mon hmon
  have c := own_dayB hlen hday
  have o1 : (-999999999 : Int64).toInt = -999999999 := by decide
  have o2 : (999999999 : Int64).toInt = 999999999 := by decide
  have o3 : (1 : Int64).toInt = 1 := by decide
  have o4 : (12 : Int64).toInt = 12 := by decide
  have o5 : (31 : Int64).toInt = 31 := by decide
  simp only [lw_lt, lw_gt, Int64.lt_iff_toInt_lt, c_i2l, o1, o2, o3, o4, o5]
  omega
theorem own_short {x : Int32} (h0 : 0 ≤ x.toInt) (h1 : x.toInt ≤ 31) : nar .short (x.toInt16.toInt32) = x := by
  have a := c_i2s x
  have b := c_i2s (x.toInt16.toInt32)
  have e : nar .short (x.toInt16.toInt32) = (x.toInt16.toInt32).toInt16.toInt32 := rfl
  rw [e]
  apply Int32.toInt_inj.mp
  omega
theorem own_enc {q0 : Addr} {year mon day : Int32} (y0 : 0 ≤ year.toInt) (y1 : year.toInt ≤ 4194303) (m0 : 1 ≤ mon.toInt) (m1 : mon.toInt ≤ 12) (d0 : 1 ≤ day.toInt) (d1 : day.toInt ≤ 31) : f16 q0 year mon day = (((year * (512 : Int32)) + (mon * (32 : Int32))) + day) := by
  unfold f16 f19
  have e1 := c_i2l year
  have e2 := c_l2i year.toInt64
  have r0 := rng32 (year.toInt64.toInt32)
  have s1 := c_ishl (year.toInt64.toInt32) 9 9 (by decide)
  have s2 := c_ishl mon 5 5 (by decide)
  generalize (year.toInt64.toInt32) <<< ((9 : Int32) &&& 31) = x0 at *
  generalize mon <<< ((5 : Int32) &&& 31) = x1 at *
  have r1 := rng32 x0
  have r2 := rng32 x1
  have q0 : x0.toInt = year.toInt * 512 := by omega
  have q1 : x1.toInt = mon.toInt * 32 := by omega
  have o1 := c_or x0 x1 9 (by decide) 512 (by decide) (by omega) (by omega) (by omega)
  have r3 := rng32 (x0 ||| x1)
  have q2 : (x0 ||| x1).toInt = year.toInt * 512 + mon.toInt * 32 := by omega
  have o2 := c_or (x0 ||| x1) day 5 (by decide) 32 (by decide) (by omega) (by omega) (by omega)
  have r4 := rng32 (x0 ||| x1 ||| day)
  have m1 := c_imul year 512
  have m2 := c_imul mon 32
  have p1 : (512 : Int32).toInt = 512 := by decide
  have p2 : (32 : Int32).toInt = 32 := by decide
  rw [p1] at m1
  rw [p2] at m2
  have a1 := c_iadd (year * 512) (mon * 32)
  have a2 := c_iadd (year * 512 + mon * 32) day
  have r5 := rng32 (year * 512 + mon * 32 + day)
  apply Int32.toInt_inj.mp
  omega
theorem own_law {o q0 : Addr} {y year pick m mon d len day enc lo hi exp : Int32} (hyear : year = (if (pick &&& (4 : Int32)) = (0 : Int32) then (y % (1000000000 : Int32)) else (y % (4194306 : Int32)))) (hmon : mon = ((1 : Int32) + ((m &&& (2147483647 : Int32)) % (12 : Int32)))) (hday : day = ((1 : Int32) + ((d &&& (2147483647 : Int32)) % len))) (hlen : len = (if mon = (2 : Int32) then (28 : Int32) else (if mon = (4 : Int32) then (30 : Int32) else (if mon = (6 : Int32) then (30 : Int32) else (if mon = (9 : Int32) then (30 : Int32) else (if mon = (11 : Int32) then (30 : Int32) else (31 : Int32)))))))
    (henc : enc = (if (4194303 : Int32) < year then (2147483647 : Int32) else (if year < (0 : Int32) then (-2147483648 : Int32) else (((year * (512 : Int32)) + (mon * (32 : Int32))) + day)))) (hexp : exp = (if enc < lo then (0 : Int32) else (if hi < enc then (0 : Int32) else (1 : Int32)))) :
    f13 o q0 lo hi year (nar .short (mon.toInt16.toInt32)) (nar .short (day.toInt16.toInt32)) = exp := by
  have b := own_mon hmon
  have c := own_dayB hlen hday
  have c' := (own_lenI hlen).1
  rw [own_short (by omega) (by omega), own_short (by omega) (by omega)]
  have e : f14 q0 year mon day = enc := by
    subst henc
    unfold f14
    split
    · rfl
    · split
      · rfl
      · rename_i h1 h2
        have o1 : (4194303 : Int32).toInt = 4194303 := by decide
        have o2 : (0 : Int32).toInt = 0 := by decide
        rw [Int32.lt_iff_toInt_lt] at h1 h2
        exact own_enc (by omega) (by omega) (by omega) (by omega) (by omega) (by omega)
  unfold f13
  rw [e]
  subst hexp
  unfold f20
  repeat' split
  all_goals decide

abbrev GoB0 (l : Launch) (Z : State) (n0 : Nat) (Q : Option Value → Heap → Prop) := Go l Z room_1 x code maxLocals ret n0 Q
theorem ef0 (m : MethodId) (fro : Int32) (unt : Int32) (yy : Int32) (mm : Int32) (dd : Int32) (pick : Int32) : entryFrame m #[(.int fro), (.int unt), (.int yy), (.int mm), (.int dd), (.int pick)] maxLocals = mkF m 0 #[.val (.int fro), .val (.int unt), .val (.int yy), .val (.int mm), .val (.int dd), .val (.int pick), .unset, .unset, .unset, .unset, .unset, .unset, .unset, .unset, .unset, .unset] [] := by first | (simp [entryFrame, mkF, argsToLocals, Value.category, maxLocals]; done) | rfl
set_option maxRecDepth 65536 in
set_option maxHeartbeats 400000000 in
theorem rm0 (l : Launch) (Z : State) (a0 : Array Value) (hw : ∀ d ∈ tables_1, d.before a0 Z = true) (fro : Int32) (unt : Int32) (yy : Int32) (mm : Int32) (dd : Int32) (pick : Int32) (e_YEAR : Addr) (r_YEAR : Addr) (e_MONTH_OF_YEAR : Addr) (r_MONTH_OF_YEAR : Addr) (e_DAY_OF_MONTH : Addr) (r_DAY_OF_MONTH : Addr) (h0 : Heap) (n0 : Nat) (Z0 : n0 ≤ h0.size) (S_YEAR : Sta Z h0 "java/time/temporal/ChronoField" "YEAR" "Ljava/time/temporal/ChronoField;" (.ref e_YEAR)) (E_e_YEAR : Exa Z h0 e_YEAR "java/time/temporal/ChronoField") (F_e_YEAR : Fld Z h0 e_YEAR "java/time/temporal/ChronoField" "range" "Ljava/time/temporal/ValueRange;" (.ref r_YEAR)) (E_r_YEAR : Exa Z h0 r_YEAR "java/time/temporal/ValueRange") (Fn_r_YEAR : Fld Z h0 r_YEAR "java/time/temporal/ValueRange" "minSmallest" "J" (.long (-999999999 : Int64))) (Fx_r_YEAR : Fld Z h0 r_YEAR "java/time/temporal/ValueRange" "maxLargest" "J" (.long (999999999 : Int64))) (S_MONTH_OF_YEAR : Sta Z h0 "java/time/temporal/ChronoField" "MONTH_OF_YEAR" "Ljava/time/temporal/ChronoField;" (.ref e_MONTH_OF_YEAR)) (E_e_MONTH_OF_YEAR : Exa Z h0 e_MONTH_OF_YEAR "java/time/temporal/ChronoField") (F_e_MONTH_OF_YEAR : Fld Z h0 e_MONTH_OF_YEAR "java/time/temporal/ChronoField" "range" "Ljava/time/temporal/ValueRange;" (.ref r_MONTH_OF_YEAR)) (E_r_MONTH_OF_YEAR : Exa Z h0 r_MONTH_OF_YEAR "java/time/temporal/ValueRange") (Fn_r_MONTH_OF_YEAR : Fld Z h0 r_MONTH_OF_YEAR "java/time/temporal/ValueRange" "minSmallest" "J" (.long (1 : Int64))) (Fx_r_MONTH_OF_YEAR : Fld Z h0 r_MONTH_OF_YEAR "java/time/temporal/ValueRange" "maxLargest" "J" (.long (12 : Int64))) (S_DAY_OF_MONTH : Sta Z h0 "java/time/temporal/ChronoField" "DAY_OF_MONTH" "Ljava/time/temporal/ChronoField;" (.ref e_DAY_OF_MONTH)) (E_e_DAY_OF_MONTH : Exa Z h0 e_DAY_OF_MONTH "java/time/temporal/ChronoField") (F_e_DAY_OF_MONTH : Fld Z h0 e_DAY_OF_MONTH "java/time/temporal/ChronoField" "range" "Ljava/time/temporal/ValueRange;" (.ref r_DAY_OF_MONTH)) (E_r_DAY_OF_MONTH : Exa Z h0 r_DAY_OF_MONTH "java/time/temporal/ValueRange") (Fn_r_DAY_OF_MONTH : Fld Z h0 r_DAY_OF_MONTH "java/time/temporal/ValueRange" "minSmallest" "J" (.long (1 : Int64))) (Fx_r_DAY_OF_MONTH : Fld Z h0 r_DAY_OF_MONTH "java/time/temporal/ValueRange" "maxLargest" "J" (.long (31 : Int64))) :
    Con l Z room_1 x code maxLocals ret n0 #[(.int fro), (.int unt), (.int yy), (.int mm), (.int dd), (.int pick)] h0 OwnW.One1 := by
  refine OwnW.Con.of (by first | decide +kernel | exact plainFor_of_name (by simp [x, plainName, overriddenIn])) (fun m => ef0 m fro unt yy mm dd pick) ?_
  show GoB0 l Z n0 OwnW.One1 h0 0 0 0 #[.val (.int fro), .val (.int unt), .val (.int yy), .val (.int mm), .val (.int dd), .val (.int pick), .unset, .unset, .unset, .unset, .unset, .unset, .unset, .unset, .unset, .unset] []
  refine OwnW.iloadN (pc' := 1) at_0 rfl rfl ?_
  refine OwnW.ldcI (a0 := a0) (pc' := 3) (v := (1000000000 : Int32)) at_1 (hw _ (List.mem_of_getElem? (i := 0) rfl)) rfl ?_
  refine OwnW.irem (pc' := 4) at_3 (by decide) rfl ?_
  refine OwnW.istore (pc' := 6) (L' := #[.val (.int fro), .val (.int unt), .val (.int yy), .val (.int mm), .val (.int dd), .val (.int pick), .val (.int (yy % (1000000000 : Int32))), .unset, .unset, .unset, .unset, .unset, .unset, .unset, .unset, .unset]) at_4 rfl rfl ?_
  refine OwnW.iload (pc' := 8) at_6 rfl rfl ?_
  refine OwnW.iconst (pc' := 9) (v := (4 : Int32)) at_8 rfl rfl ?_
  refine OwnW.iand (pc' := 10) at_9 rfl ?_
  suffices J10_19 : ∀ (year : Int32), year = (if (pick &&& (4 : Int32)) = (0 : Int32) then (yy % (1000000000 : Int32)) else (yy % (4194306 : Int32))) → GoB0 l Z n0 OwnW.One1 h0 0 0 19 #[.val (.int fro), .val (.int unt), .val (.int yy), .val (.int mm), .val (.int dd), .val (.int pick), .val (.int year), .unset, .unset, .unset, .unset, .unset, .unset, .unset, .unset, .unset] [] by
    by_cases hc10 : (pick &&& (4 : Int32)) = (0 : Int32)
    ·
      refine OwnW.ifcY (pc' := 19) at_10 ((if0 _ _).trans (teq hc10).1) (by decide) (by decide) ?_
      exact J10_19 _ (by first | simp only [if_pos hc10] | rfl)
    ·
      refine OwnW.ifcN (pc' := 13) at_10 ((if0 _ _).trans (feq hc10).1) rfl ?_
      refine OwnW.iloadN (pc' := 14) at_13 rfl rfl ?_
      refine OwnW.ldcI (a0 := a0) (pc' := 16) (v := (4194306 : Int32)) at_14 (hw _ (List.mem_of_getElem? (i := 126) rfl)) rfl ?_
      refine OwnW.irem (pc' := 17) at_16 (by decide) rfl ?_
      refine OwnW.istore (pc' := 19) (L' := #[.val (.int fro), .val (.int unt), .val (.int yy), .val (.int mm), .val (.int dd), .val (.int pick), .val (.int (yy % (4194306 : Int32))), .unset, .unset, .unset, .unset, .unset, .unset, .unset, .unset, .unset]) at_17 rfl rfl ?_
      exact J10_19 _ (by first | simp only [if_neg hc10] | rfl)
  intro year hyear
  refine OwnW.iconst (pc' := 20) (v := (1 : Int32)) at_19 rfl rfl ?_
  refine OwnW.iloadN (pc' := 21) at_20 rfl rfl ?_
  refine OwnW.ldcI (a0 := a0) (pc' := 23) (v := (2147483647 : Int32)) at_21 (hw _ (List.mem_of_getElem? (i := 1) rfl)) rfl ?_
  refine OwnW.iand (pc' := 24) at_23 rfl ?_
  refine OwnW.bipush (pc' := 26) (v := (12 : Int32)) at_24 rfl rfl ?_
  refine OwnW.irem (pc' := 27) at_26 (by decide) rfl ?_
  refine OwnW.iadd (pc' := 28) at_27 rfl ?_
  obtain ⟨mon, hmon⟩ : ∃ z, z = ((1 : Int32) + ((mm &&& (2147483647 : Int32)) % (12 : Int32))) := ⟨_, rfl⟩
  rw [← hmon]
  show GoB0 l Z n0 OwnW.One1 h0 0 0 28 #[.val (.int fro), .val (.int unt), .val (.int yy), .val (.int mm), .val (.int dd), .val (.int pick), .val (.int year), .unset, .unset, .unset, .unset, .unset, .unset, .unset, .unset, .unset] [(.int mon)]
  refine OwnW.istore (pc' := 30) (L' := #[.val (.int fro), .val (.int unt), .val (.int yy), .val (.int mm), .val (.int dd), .val (.int pick), .val (.int year), .val (.int mon), .unset, .unset, .unset, .unset, .unset, .unset, .unset, .unset]) at_28 rfl rfl ?_
  refine OwnW.bipush (pc' := 32) (v := (31 : Int32)) at_30 rfl rfl ?_
  refine OwnW.istore (pc' := 34) (L' := #[.val (.int fro), .val (.int unt), .val (.int yy), .val (.int mm), .val (.int dd), .val (.int pick), .val (.int year), .val (.int mon), .val (.int (31 : Int32)), .unset, .unset, .unset, .unset, .unset, .unset, .unset]) at_32 rfl rfl ?_
  refine OwnW.iload (pc' := 36) at_34 rfl rfl ?_
  refine OwnW.iconst (pc' := 37) (v := (2 : Int32)) at_36 rfl rfl ?_
  suffices J37_78 : ∀ (len : Int32), len = (if mon = (2 : Int32) then (28 : Int32) else (if mon = (4 : Int32) then (30 : Int32) else (if mon = (6 : Int32) then (30 : Int32) else (if mon = (9 : Int32) then (30 : Int32) else (if mon = (11 : Int32) then (30 : Int32) else (31 : Int32)))))) → GoB0 l Z n0 OwnW.One1 h0 0 0 78 #[.val (.int fro), .val (.int unt), .val (.int yy), .val (.int mm), .val (.int dd), .val (.int pick), .val (.int year), .val (.int mon), .val (.int len), .unset, .unset, .unset, .unset, .unset, .unset, .unset] [] by
    by_cases hc37 : mon = (2 : Int32)
    ·
      refine OwnW.icmpN (pc' := 40) at_37 (teq hc37).2 rfl ?_
      refine OwnW.bipush (pc' := 42) (v := (28 : Int32)) at_40 rfl rfl ?_
      refine OwnW.istore (pc' := 44) (L' := #[.val (.int fro), .val (.int unt), .val (.int yy), .val (.int mm), .val (.int dd), .val (.int pick), .val (.int year), .val (.int mon), .val (.int (28 : Int32)), .unset, .unset, .unset, .unset, .unset, .unset, .unset]) at_42 rfl rfl ?_
      refine OwnW.goto (pc' := 78) at_44 (by decide) (by decide) ?_
      exact J37_78 _ (by first | simp only [if_pos hc37] | rfl)
    ·
      refine OwnW.icmpY (pc' := 47) at_37 (feq hc37).2 (by decide) (by decide) ?_
      refine OwnW.iload (pc' := 49) at_47 rfl rfl ?_
      refine OwnW.iconst (pc' := 50) (v := (4 : Int32)) at_49 rfl rfl ?_
      by_cases hc50 : mon = (4 : Int32)
      ·
        refine OwnW.icmpY (pc' := 74) at_50 (teq hc50).1 (by decide) (by decide) ?_
        refine OwnW.bipush (pc' := 76) (v := (30 : Int32)) at_74 rfl rfl ?_
        refine OwnW.istore (pc' := 78) (L' := #[.val (.int fro), .val (.int unt), .val (.int yy), .val (.int mm), .val (.int dd), .val (.int pick), .val (.int year), .val (.int mon), .val (.int (30 : Int32)), .unset, .unset, .unset, .unset, .unset, .unset, .unset]) at_76 rfl rfl ?_
        exact J37_78 _ (by first | simp only [if_neg hc37, if_pos hc50] | rfl)
      ·
        refine OwnW.icmpN (pc' := 53) at_50 (feq hc50).1 rfl ?_
        refine OwnW.iload (pc' := 55) at_53 rfl rfl ?_
        refine OwnW.bipush (pc' := 57) (v := (6 : Int32)) at_55 rfl rfl ?_
        by_cases hc57 : mon = (6 : Int32)
        ·
          refine OwnW.icmpY (pc' := 74) at_57 (teq hc57).1 (by decide) (by decide) ?_
          refine OwnW.bipush (pc' := 76) (v := (30 : Int32)) at_74 rfl rfl ?_
          refine OwnW.istore (pc' := 78) (L' := #[.val (.int fro), .val (.int unt), .val (.int yy), .val (.int mm), .val (.int dd), .val (.int pick), .val (.int year), .val (.int mon), .val (.int (30 : Int32)), .unset, .unset, .unset, .unset, .unset, .unset, .unset]) at_76 rfl rfl ?_
          exact J37_78 _ (by first | simp only [if_neg hc37, if_neg hc50, if_pos hc57] | rfl)
        ·
          refine OwnW.icmpN (pc' := 60) at_57 (feq hc57).1 rfl ?_
          refine OwnW.iload (pc' := 62) at_60 rfl rfl ?_
          refine OwnW.bipush (pc' := 64) (v := (9 : Int32)) at_62 rfl rfl ?_
          by_cases hc64 : mon = (9 : Int32)
          ·
            refine OwnW.icmpY (pc' := 74) at_64 (teq hc64).1 (by decide) (by decide) ?_
            refine OwnW.bipush (pc' := 76) (v := (30 : Int32)) at_74 rfl rfl ?_
            refine OwnW.istore (pc' := 78) (L' := #[.val (.int fro), .val (.int unt), .val (.int yy), .val (.int mm), .val (.int dd), .val (.int pick), .val (.int year), .val (.int mon), .val (.int (30 : Int32)), .unset, .unset, .unset, .unset, .unset, .unset, .unset]) at_76 rfl rfl ?_
            exact J37_78 _ (by first | simp only [if_neg hc37, if_neg hc50, if_neg hc57, if_pos hc64] | rfl)
          ·
            refine OwnW.icmpN (pc' := 67) at_64 (feq hc64).1 rfl ?_
            refine OwnW.iload (pc' := 69) at_67 rfl rfl ?_
            refine OwnW.bipush (pc' := 71) (v := (11 : Int32)) at_69 rfl rfl ?_
            by_cases hc71 : mon = (11 : Int32)
            ·
              refine OwnW.icmpN (pc' := 74) at_71 (teq hc71).2 rfl ?_
              refine OwnW.bipush (pc' := 76) (v := (30 : Int32)) at_74 rfl rfl ?_
              refine OwnW.istore (pc' := 78) (L' := #[.val (.int fro), .val (.int unt), .val (.int yy), .val (.int mm), .val (.int dd), .val (.int pick), .val (.int year), .val (.int mon), .val (.int (30 : Int32)), .unset, .unset, .unset, .unset, .unset, .unset, .unset]) at_76 rfl rfl ?_
              exact J37_78 _ (by first | simp only [if_neg hc37, if_neg hc50, if_neg hc57, if_neg hc64, if_pos hc71] | rfl)
            ·
              refine OwnW.icmpY (pc' := 78) at_71 (feq hc71).2 (by decide) (by decide) ?_
              exact J37_78 _ (by first | simp only [if_neg hc37, if_neg hc50, if_neg hc57, if_neg hc64, if_neg hc71] | rfl)
  intro len hlen
  refine OwnW.iconst (pc' := 79) (v := (1 : Int32)) at_78 rfl rfl ?_
  refine OwnW.iload (pc' := 81) at_79 rfl rfl ?_
  refine OwnW.ldcI (a0 := a0) (pc' := 83) (v := (2147483647 : Int32)) at_81 (hw _ (List.mem_of_getElem? (i := 1) rfl)) rfl ?_
  refine OwnW.iand (pc' := 84) at_83 rfl ?_
  refine OwnW.iload (pc' := 86) at_84 rfl rfl ?_
  refine OwnW.irem (pc' := 87) at_86 (own_len hlen) rfl ?_
  refine OwnW.iadd (pc' := 88) at_87 rfl ?_
  obtain ⟨day, hday⟩ : ∃ z, z = ((1 : Int32) + ((dd &&& (2147483647 : Int32)) % len)) := ⟨_, rfl⟩
  rw [← hday]
  show GoB0 l Z n0 OwnW.One1 h0 0 0 88 #[.val (.int fro), .val (.int unt), .val (.int yy), .val (.int mm), .val (.int dd), .val (.int pick), .val (.int year), .val (.int mon), .val (.int len), .unset, .unset, .unset, .unset, .unset, .unset, .unset] [(.int day)]
  refine OwnW.istore (pc' := 90) (L' := #[.val (.int fro), .val (.int unt), .val (.int yy), .val (.int mm), .val (.int dd), .val (.int pick), .val (.int year), .val (.int mon), .val (.int len), .val (.int day), .unset, .unset, .unset, .unset, .unset, .unset]) at_88 rfl rfl ?_
  refine OwnW.iload (pc' := 92) at_90 rfl rfl ?_
  refine OwnW.ldcI (a0 := a0) (pc' := 94) (v := (4194303 : Int32)) at_92 (hw _ (List.mem_of_getElem? (i := 2) rfl)) rfl ?_
  suffices J94_133 : ∀ (enc : Int32), enc = (if (4194303 : Int32) < year then (2147483647 : Int32) else (if year < (0 : Int32) then (-2147483648 : Int32) else (((year * (512 : Int32)) + (mon * (32 : Int32))) + day))) → GoB0 l Z n0 OwnW.One1 h0 0 0 133 #[.val (.int fro), .val (.int unt), .val (.int yy), .val (.int mm), .val (.int dd), .val (.int pick), .val (.int year), .val (.int mon), .val (.int len), .val (.int day), .val (.int enc), .unset, .unset, .unset, .unset, .unset] [] by
    by_cases hc94 : (4194303 : Int32) < year
    ·
      refine OwnW.icmpN (pc' := 97) at_94 (tlt hc94).2.2.2 rfl ?_
      refine OwnW.ldcI (a0 := a0) (pc' := 99) (v := (2147483647 : Int32)) at_97 (hw _ (List.mem_of_getElem? (i := 1) rfl)) rfl ?_
      refine OwnW.istore (pc' := 101) (L' := #[.val (.int fro), .val (.int unt), .val (.int yy), .val (.int mm), .val (.int dd), .val (.int pick), .val (.int year), .val (.int mon), .val (.int len), .val (.int day), .val (.int (2147483647 : Int32)), .unset, .unset, .unset, .unset, .unset]) at_99 rfl rfl ?_
      refine OwnW.goto (pc' := 133) at_101 (by decide) (by decide) ?_
      exact J94_133 _ (by first | simp only [if_pos hc94] | rfl)
    ·
      refine OwnW.icmpY (pc' := 104) at_94 (flt hc94).2.2.2 (by decide) (by decide) ?_
      refine OwnW.iload (pc' := 106) at_104 rfl rfl ?_
      by_cases hc106 : year < (0 : Int32)
      ·
        refine OwnW.ifcY (pc' := 129) at_106 ((if0 _ _).trans (tlt hc106).1) (by decide) (by decide) ?_
        refine OwnW.ldcI (a0 := a0) (pc' := 131) (v := (-2147483648 : Int32)) at_129 (hw _ (List.mem_of_getElem? (i := 127) rfl)) rfl ?_
        refine OwnW.istore (pc' := 133) (L' := #[.val (.int fro), .val (.int unt), .val (.int yy), .val (.int mm), .val (.int dd), .val (.int pick), .val (.int year), .val (.int mon), .val (.int len), .val (.int day), .val (.int (-2147483648 : Int32)), .unset, .unset, .unset, .unset, .unset]) at_131 rfl rfl ?_
        exact J94_133 _ (by first | simp only [if_neg hc94, if_pos hc106] | rfl)
      ·
        refine OwnW.ifcN (pc' := 109) at_106 ((if0 _ _).trans (flt hc106).1) rfl ?_
        refine OwnW.iload (pc' := 111) at_109 rfl rfl ?_
        refine OwnW.sipush (pc' := 114) (v := (512 : Int32)) at_111 rfl rfl ?_
        refine OwnW.imul (pc' := 115) at_114 rfl ?_
        refine OwnW.iload (pc' := 117) at_115 rfl rfl ?_
        refine OwnW.bipush (pc' := 119) (v := (32 : Int32)) at_117 rfl rfl ?_
        refine OwnW.imul (pc' := 120) at_119 rfl ?_
        refine OwnW.iadd (pc' := 121) at_120 rfl ?_
        refine OwnW.iload (pc' := 123) at_121 rfl rfl ?_
        refine OwnW.iadd (pc' := 124) at_123 rfl ?_
        refine OwnW.istore (pc' := 126) (L' := #[.val (.int fro), .val (.int unt), .val (.int yy), .val (.int mm), .val (.int dd), .val (.int pick), .val (.int year), .val (.int mon), .val (.int len), .val (.int day), .val (.int (((year * (512 : Int32)) + (mon * (32 : Int32))) + day)), .unset, .unset, .unset, .unset, .unset]) at_124 rfl rfl ?_
        refine OwnW.goto (pc' := 133) at_126 (by decide) (by decide) ?_
        exact J94_133 _ (by first | simp only [if_neg hc94, if_neg hc106] | rfl)
  intro enc henc
  refine OwnW.iloadN (pc' := 134) at_133 rfl rfl ?_
  refine OwnW.istore (pc' := 136) (L' := #[.val (.int fro), .val (.int unt), .val (.int yy), .val (.int mm), .val (.int dd), .val (.int pick), .val (.int year), .val (.int mon), .val (.int len), .val (.int day), .val (.int enc), .val (.int fro), .unset, .unset, .unset, .unset]) at_134 rfl rfl ?_
  refine OwnW.iloadN (pc' := 137) at_136 rfl rfl ?_
  refine OwnW.istore (pc' := 139) (L' := #[.val (.int fro), .val (.int unt), .val (.int yy), .val (.int mm), .val (.int dd), .val (.int pick), .val (.int year), .val (.int mon), .val (.int len), .val (.int day), .val (.int enc), .val (.int fro), .val (.int unt), .unset, .unset, .unset]) at_137 rfl rfl ?_
  refine OwnW.iload (pc' := 141) at_139 rfl rfl ?_
  refine OwnW.iconst (pc' := 142) (v := (3 : Int32)) at_141 rfl rfl ?_
  refine OwnW.iand (pc' := 143) at_142 rfl ?_
  refine OwnW.istore (pc' := 145) (L' := #[.val (.int fro), .val (.int unt), .val (.int yy), .val (.int mm), .val (.int dd), .val (.int pick), .val (.int year), .val (.int mon), .val (.int len), .val (.int day), .val (.int enc), .val (.int fro), .val (.int unt), .val (.int (pick &&& (3 : Int32))), .unset, .unset]) at_143 rfl rfl ?_
  refine OwnW.iload (pc' := 147) at_145 rfl rfl ?_
  refine OwnW.iconst (pc' := 148) (v := (1 : Int32)) at_147 rfl rfl ?_
  suffices J148_161 : ∀ (lo : Int32), lo = (if (pick &&& (3 : Int32)) = (1 : Int32) then enc else (if (pick &&& (3 : Int32)) = (3 : Int32) then enc else fro)) → GoB0 l Z n0 OwnW.One1 h0 0 0 161 #[.val (.int fro), .val (.int unt), .val (.int yy), .val (.int mm), .val (.int dd), .val (.int pick), .val (.int year), .val (.int mon), .val (.int len), .val (.int day), .val (.int enc), .val (.int lo), .val (.int unt), .val (.int (pick &&& (3 : Int32))), .unset, .unset] [] by
    by_cases hc148 : (pick &&& (3 : Int32)) = (1 : Int32)
    ·
      refine OwnW.icmpY (pc' := 157) at_148 (teq hc148).1 (by decide) (by decide) ?_
      refine OwnW.iload (pc' := 159) at_157 rfl rfl ?_
      refine OwnW.istore (pc' := 161) (L' := #[.val (.int fro), .val (.int unt), .val (.int yy), .val (.int mm), .val (.int dd), .val (.int pick), .val (.int year), .val (.int mon), .val (.int len), .val (.int day), .val (.int enc), .val (.int enc), .val (.int unt), .val (.int (pick &&& (3 : Int32))), .unset, .unset]) at_159 rfl rfl ?_
      exact J148_161 _ (by first | simp only [if_pos hc148] | rfl)
    ·
      refine OwnW.icmpN (pc' := 151) at_148 (feq hc148).1 rfl ?_
      refine OwnW.iload (pc' := 153) at_151 rfl rfl ?_
      refine OwnW.iconst (pc' := 154) (v := (3 : Int32)) at_153 rfl rfl ?_
      by_cases hc154 : (pick &&& (3 : Int32)) = (3 : Int32)
      ·
        refine OwnW.icmpN (pc' := 157) at_154 (teq hc154).2 rfl ?_
        refine OwnW.iload (pc' := 159) at_157 rfl rfl ?_
        refine OwnW.istore (pc' := 161) (L' := #[.val (.int fro), .val (.int unt), .val (.int yy), .val (.int mm), .val (.int dd), .val (.int pick), .val (.int year), .val (.int mon), .val (.int len), .val (.int day), .val (.int enc), .val (.int enc), .val (.int unt), .val (.int (pick &&& (3 : Int32))), .unset, .unset]) at_159 rfl rfl ?_
        exact J148_161 _ (by first | simp only [if_neg hc148, if_pos hc154] | rfl)
      ·
        refine OwnW.icmpY (pc' := 161) at_154 (feq hc154).2 (by decide) (by decide) ?_
        exact J148_161 _ (by first | simp only [if_neg hc148, if_neg hc154] | rfl)
  intro lo hlo
  refine OwnW.iload (pc' := 163) at_161 rfl rfl ?_
  refine OwnW.iconst (pc' := 164) (v := (2 : Int32)) at_163 rfl rfl ?_
  suffices J164_177 : ∀ (hi : Int32), hi = (if (pick &&& (3 : Int32)) = (2 : Int32) then enc else (if (pick &&& (3 : Int32)) = (3 : Int32) then enc else unt)) → GoB0 l Z n0 OwnW.One1 h0 0 0 177 #[.val (.int fro), .val (.int unt), .val (.int yy), .val (.int mm), .val (.int dd), .val (.int pick), .val (.int year), .val (.int mon), .val (.int len), .val (.int day), .val (.int enc), .val (.int lo), .val (.int hi), .val (.int (pick &&& (3 : Int32))), .unset, .unset] [] by
    by_cases hc164 : (pick &&& (3 : Int32)) = (2 : Int32)
    ·
      refine OwnW.icmpY (pc' := 173) at_164 (teq hc164).1 (by decide) (by decide) ?_
      refine OwnW.iload (pc' := 175) at_173 rfl rfl ?_
      refine OwnW.istore (pc' := 177) (L' := #[.val (.int fro), .val (.int unt), .val (.int yy), .val (.int mm), .val (.int dd), .val (.int pick), .val (.int year), .val (.int mon), .val (.int len), .val (.int day), .val (.int enc), .val (.int lo), .val (.int enc), .val (.int (pick &&& (3 : Int32))), .unset, .unset]) at_175 rfl rfl ?_
      exact J164_177 _ (by first | simp only [if_pos hc164] | rfl)
    ·
      refine OwnW.icmpN (pc' := 167) at_164 (feq hc164).1 rfl ?_
      refine OwnW.iload (pc' := 169) at_167 rfl rfl ?_
      refine OwnW.iconst (pc' := 170) (v := (3 : Int32)) at_169 rfl rfl ?_
      by_cases hc170 : (pick &&& (3 : Int32)) = (3 : Int32)
      ·
        refine OwnW.icmpN (pc' := 173) at_170 (teq hc170).2 rfl ?_
        refine OwnW.iload (pc' := 175) at_173 rfl rfl ?_
        refine OwnW.istore (pc' := 177) (L' := #[.val (.int fro), .val (.int unt), .val (.int yy), .val (.int mm), .val (.int dd), .val (.int pick), .val (.int year), .val (.int mon), .val (.int len), .val (.int day), .val (.int enc), .val (.int lo), .val (.int enc), .val (.int (pick &&& (3 : Int32))), .unset, .unset]) at_175 rfl rfl ?_
        exact J164_177 _ (by first | simp only [if_neg hc164, if_pos hc170] | rfl)
      ·
        refine OwnW.icmpY (pc' := 177) at_170 (feq hc170).2 (by decide) (by decide) ?_
        exact J164_177 _ (by first | simp only [if_neg hc164, if_neg hc170] | rfl)
  intro hi hhi
  refine OwnW.newO (a0 := a0) (pc' := 180) (k' := 1) (n' := 5) at_177 (hw _ (List.mem_of_getElem? (i := 3) rfl)) (hw _ (List.mem_of_getElem? (i := 4) rfl)) (hw _ (List.mem_of_getElem? (i := 5) rfl)) rfl rfl (by decide) (by decide) rfl ?_
  intro h1 ad1 g1 E1 A1 D1
  have ge_ad1 : n0 ≤ ad1 := Nat.le_trans Z0 (Nat.le_of_eq g1.symm)
  have X2 : Ext h0 h1 := OwnW.ext_trans (OwnW.ext_refl h0) E1
  have sz_ad1 : n0 ≤ h1.size := Nat.le_trans Z0 E1.1
  have F1_from : Fld Z h1 ad1 "com/example/paystage/paystage/Course$Span" "from" "I" (.int (0 : Int32)) := D1 (Or.inr (hw _ (List.mem_of_getElem? (i := 18) rfl))) (ty := .int) (by decide)
  have F1_until : Fld Z h1 ad1 "com/example/paystage/paystage/Course$Span" "until" "I" (.int (0 : Int32)) := D1 (Or.inr (hw _ (List.mem_of_getElem? (i := 20) rfl))) (ty := .int) (by decide)
  have F1_paid : Fld Z h1 ad1 "com/example/paystage/paystage/Course$Span" "paid" "Lcom/example/paystage/paystage/Course$Changes;" .null := D1 (Or.inr (hw _ (List.mem_of_getElem? (i := 22) rfl))) (ty := (.object "com/example/paystage/paystage/Course$Changes")) (by decide)
  have F1_releases : Fld Z h1 ad1 "com/example/paystage/paystage/Course$Span" "releases" "Lcom/example/paystage/paystage/Course$Days;" .null := D1 (Or.inr (hw _ (List.mem_of_getElem? (i := 24) rfl))) (ty := (.object "com/example/paystage/paystage/Course$Days")) (by decide)
  have F1_released : Fld Z h1 ad1 "com/example/paystage/paystage/Course$Span" "released" "I" (.int (0 : Int32)) := D1 (Or.inr (hw _ (List.mem_of_getElem? (i := 26) rfl))) (ty := .int) (by decide)
  refine OwnW.dup (pc' := 181) at_180 rfl rfl ?_
  refine OwnW.iload (pc' := 183) at_181 rfl rfl ?_
  refine OwnW.iload (pc' := 185) at_183 rfl rfl ?_
  refine OwnW.aconstNull (pc' := 186) at_185 rfl ?_
  refine OwnW.aconstNull (pc' := 187) at_186 rfl ?_
  refine OwnW.iconst (pc' := 188) (v := (0 : Int32)) at_187 rfl rfl ?_
  refine OwnW.callI (a0 := a0) (pc' := 191) (W := 1) (k' := 1) (n' := 5) (argsL := [(.int lo), (.int hi), .null, .null, (.int (0 : Int32))]) (rest := [(.ref ad1)]) at_188 rfl (hw _ (List.mem_of_getElem? (i := 6) rfl)) (hw _ (List.mem_of_getElem? (i := 7) rfl)) (hw _ (List.mem_of_getElem? (i := 5) rfl)) (hw _ (List.mem_of_getElem? (i := 8) rfl)) (by decide) (rm1 l Z a0 hw ad1 lo hi h1 n0 sz_ad1 ge_ad1 A1 F1_from F1_until F1_paid F1_releases F1_released) (by decide) (by decide) rfl rfl (by decide) (by decide) rfl pd_28IILcom2fexample2fpaystage2fpaystage2fCourse24Changes3bLcom2fexample2fpaystage2fpaystage2fCourse24Days3bI29V rfl rfl rfl (Nat.le_of_ble_eq_true rfl) rfl ?_
  rintro h3 v3 ⟨rfl, K3, Fc3_0, Fc3_1, Fc3_2⟩
  have X4 : Ext h0 h3 := OwnW.ext_keep X2 K3 (allS (Nat.le_trans (Nat.le_refl _) (Nat.le_of_eq g1.symm)) all0)
  have sz5 : n0 ≤ h3.size := Nat.le_trans sz_ad1 K3.1
  show GoB0 l Z n0 OwnW.One1 h3 1 5 191 #[.val (.int fro), .val (.int unt), .val (.int yy), .val (.int mm), .val (.int dd), .val (.int pick), .val (.int year), .val (.int mon), .val (.int len), .val (.int day), .val (.int enc), .val (.int lo), .val (.int hi), .val (.int (pick &&& (3 : Int32))), .unset, .unset] [(.ref ad1)]
  refine OwnW.astore (pc' := 193) (L' := #[.val (.int fro), .val (.int unt), .val (.int yy), .val (.int mm), .val (.int dd), .val (.int pick), .val (.int year), .val (.int mon), .val (.int len), .val (.int day), .val (.int enc), .val (.int lo), .val (.int hi), .val (.int (pick &&& (3 : Int32))), .val (.ref ad1), .unset]) at_191 (rfl) rfl rfl ?_
  refine OwnW.iload (pc' := 195) at_193 rfl rfl ?_
  refine OwnW.iload (pc' := 197) at_195 rfl rfl ?_
  suffices J197_212 : ∀ (exp : Int32), exp = (if enc < lo then (0 : Int32) else (if hi < enc then (0 : Int32) else (1 : Int32))) → GoB0 l Z n0 OwnW.One1 h3 1 5 212 #[.val (.int fro), .val (.int unt), .val (.int yy), .val (.int mm), .val (.int dd), .val (.int pick), .val (.int year), .val (.int mon), .val (.int len), .val (.int day), .val (.int enc), .val (.int lo), .val (.int hi), .val (.int (pick &&& (3 : Int32))), .val (.ref ad1), .unset] [(.int exp)] by
    by_cases hc197 : enc < lo
    ·
      refine OwnW.icmpY (pc' := 211) at_197 (tlt hc197).2.2.1 (by decide) (by decide) ?_
      refine OwnW.iconst (pc' := 212) (v := (0 : Int32)) at_211 rfl rfl ?_
      exact J197_212 _ (by first | simp only [if_pos hc197] | rfl)
    ·
      refine OwnW.icmpN (pc' := 200) at_197 (flt hc197).2.2.1 rfl ?_
      refine OwnW.iload (pc' := 202) at_200 rfl rfl ?_
      refine OwnW.iload (pc' := 204) at_202 rfl rfl ?_
      by_cases hc204 : hi < enc
      ·
        refine OwnW.icmpY (pc' := 211) at_204 (tlt hc204).2.2.1 (by decide) (by decide) ?_
        refine OwnW.iconst (pc' := 212) (v := (0 : Int32)) at_211 rfl rfl ?_
        exact J197_212 _ (by first | simp only [if_neg hc197, if_pos hc204] | rfl)
      ·
        refine OwnW.icmpN (pc' := 207) at_204 (flt hc204).2.2.1 rfl ?_
        refine OwnW.iconst (pc' := 208) (v := (1 : Int32)) at_207 rfl rfl ?_
        refine OwnW.goto (pc' := 212) at_208 (by decide) (by decide) ?_
        exact J197_212 _ (by first | simp only [if_neg hc197, if_neg hc204] | rfl)
  intro exp hexp
  refine OwnW.istore (pc' := 214) (L' := #[.val (.int fro), .val (.int unt), .val (.int yy), .val (.int mm), .val (.int dd), .val (.int pick), .val (.int year), .val (.int mon), .val (.int len), .val (.int day), .val (.int enc), .val (.int lo), .val (.int hi), .val (.int (pick &&& (3 : Int32))), .val (.ref ad1), .val (.int exp)]) at_212 rfl rfl ?_
  refine OwnW.aload (pc' := 216) at_214 rfl (rfl) rfl ?_
  refine OwnW.iload (pc' := 218) at_216 rfl rfl ?_
  refine OwnW.iload (pc' := 220) at_218 rfl rfl ?_
  refine OwnW.iload (pc' := 222) at_220 rfl rfl ?_
  have hmoI := own_mon hmon
  obtain ⟨hd28, hd30, hd31⟩ := own_day hmon hlen hday
  have HR := own_rng hyear hmon hday hlen
  refine OwnW.callS (a0 := a0) (pc' := 225) (W := 1) (k' := 2) (n' := 8) (argsL := [(.int year), (.int mon), (.int day)]) (rest := [(.ref ad1)]) at_222 (hw _ (List.mem_of_getElem? (i := 27) rfl)) (hw _ (List.mem_of_getElem? (i := 28) rfl)) (hw _ (List.mem_of_getElem? (i := 29) rfl)) (hw _ (List.mem_of_getElem? (i := 30) rfl)) (by decide) (rm4 l Z a0 hw year mon day e_YEAR r_YEAR e_MONTH_OF_YEAR r_MONTH_OF_YEAR e_DAY_OF_MONTH r_DAY_OF_MONTH h3 n0 sz5 (S_YEAR.ext X4) (E_e_YEAR.ext X4) (F_e_YEAR.ext X4) (E_r_YEAR.ext X4) (Fn_r_YEAR.ext X4) (Fx_r_YEAR.ext X4) (S_MONTH_OF_YEAR.ext X4) (E_e_MONTH_OF_YEAR.ext X4) (F_e_MONTH_OF_YEAR.ext X4) (E_r_MONTH_OF_YEAR.ext X4) (Fn_r_MONTH_OF_YEAR.ext X4) (Fx_r_MONTH_OF_YEAR.ext X4) (S_DAY_OF_MONTH.ext X4) (E_e_DAY_OF_MONTH.ext X4) (F_e_DAY_OF_MONTH.ext X4) (E_r_DAY_OF_MONTH.ext X4) (Fn_r_DAY_OF_MONTH.ext X4) (Fx_r_DAY_OF_MONTH.ext X4) hmoI hd28 hd30 hd31 HR.1 HR.2.1 HR.2.2.1 HR.2.2.2.1 HR.2.2.2.2.1 HR.2.2.2.2.2) (by decide) (by decide) rfl rfl (by decide) (by decide) rfl pd_28III29Ljava2ftime2fLocalDate3b rfl rfl rfl (Nat.le_of_ble_eq_true rfl) rfl ?_
  rintro h6 v6 ⟨ad6_0, rfl, K6, gl6_0, Fc6_0, Fc6_1, Fc6_2, Fc6_3⟩
  have lt_ad1_ad6_0 : @LT.lt Nat _ ad1 ad6_0 := Nat.lt_of_lt_of_le (Fc3_0).lt gl6_0
  have ge_ad6_0 : n0 ≤ ad6_0 := Nat.le_trans sz5 gl6_0
  have X7 : Ext h0 h6 := OwnW.ext_keep X4 K6 all0
  have sz8 : n0 ≤ h6.size := Nat.le_trans sz5 K6.1
  show GoB0 l Z n0 OwnW.One1 h6 2 8 225 #[.val (.int fro), .val (.int unt), .val (.int yy), .val (.int mm), .val (.int dd), .val (.int pick), .val (.int year), .val (.int mon), .val (.int len), .val (.int day), .val (.int enc), .val (.int lo), .val (.int hi), .val (.int (pick &&& (3 : Int32))), .val (.ref ad1), .val (.int exp)] [(.ref ad6_0), (.ref ad1)]
  have F9 := (Fc3_1.keep K6 nin0)
  have F10 := (Fc3_2.keep K6 nin0)
  have F11 := (Fc3_0.keep K6)
  refine OwnW.callV0 (a0 := a0) (pc' := 228) (W := 0) (k' := 2) (n' := 8) (argsL := [(.ref ad6_0)]) (rest := []) (St' := [(.int (f13 ad1 ad6_0 lo hi year (nar .short (mon.toInt16.toInt32)) (nar .short (day.toInt16.toInt32))))]) at_225 (hw _ (List.mem_of_getElem? (i := 88) rfl)) (hw _ (List.mem_of_getElem? (i := 89) rfl)) (hw _ (List.mem_of_getElem? (i := 91) rfl)) (hw _ (List.mem_of_getElem? (i := 90) rfl)) (hw _ (List.mem_of_getElem? (i := 5) rfl)) (hw _ (List.mem_of_getElem? (i := 92) rfl)) (by decide) F11 (rm13 l Z a0 hw ad1 ad6_0 lo hi year (nar .short (mon.toInt16.toInt32)) (nar .short (day.toInt16.toInt32)) h6 n0 F9 F10 Fc6_0 Fc6_1 Fc6_2 Fc6_3 F11) (by decide) (by decide) rfl rfl (by decide) (by decide) rfl pd_28Ljava2ftime2fLocalDate3b29Z rfl rfl rfl (Nat.le_of_ble_eq_true rfl) rfl rfl ?_
  refine OwnW.iload (pc' := 230) at_228 rfl rfl ?_
  by_cases hc230 : (f13 ad1 ad6_0 lo hi year (nar .short (mon.toInt16.toInt32)) (nar .short (day.toInt16.toInt32))) = exp
  ·
    refine OwnW.icmpN (pc' := 233) at_230 (teq hc230).2 rfl ?_
    refine OwnW.iconst (pc' := 234) (v := (1 : Int32)) at_233 rfl rfl ?_
    refine OwnW.goto (pc' := 238) at_234 (by decide) (by decide) ?_
    exact OwnW.retN (t := .boolean) at_238 rfl (by simp) rfl (by decide) (by decide) (rfl)
  ·
    refine OwnW.icmpY (pc' := 237) at_230 (feq hc230).2 (by decide) (by decide) ?_
    refine OwnW.iconst (pc' := 238) (v := (0 : Int32)) at_237 rfl rfl ?_
    exact OwnW.retN (t := .boolean) at_238 rfl (by simp) rfl (by decide) (by decide) (absurd (own_law hyear hmon hday hlen henc hexp) hc230)
set_option maxRecDepth 65536 in
set_option maxHeartbeats 400000000 in
theorem comes_1 {Post : Tables → Env → Array Value → State → Outcome → State → Prop} (hpost : ∀ tb e args s v u, (limb_1_1.after args s (.returned v) u = true ∧ limb_1_2.after args s (.returned v) u = true ∧ True) → FrameEnd s (.returned v) u (Jvm.fieldLocs frame_1_writes args s ++ Jvm.arrayLocs frame_1_arrays args s ++ Jvm.staticLocs frame_1_statics s) 16 128 → Post tb e args s (.returned v) u) :
    ArmFor flags0 classFile x code maxLocals ret World_1 tables_1 room_1 Calls_1 rest_1 Pre_1 Post := by
  intro l hfl _ _ p e ha hc hk s m args below hf hA hF happ hP
  obtain ⟨hcalls, hrest, hpre⟩ := hP
  obtain ⟨-, -, -, hnamed, -, -, -, hat⟩ := (Spec.applies_iff hf).mp happ
  obtain ⟨hg, hn⟩ := and_e (Cond.before_iff.mp (show (Jvm.Cond.and given_1 narrow_1).before args s = true from hpre))
  obtain ⟨hcount, hr0⟩ := and_e hg
  obtain ⟨w0, w1, w2, w3, w4, w5, rfl⟩ : ∃ w0 w1 w2 w3 w4 w5 : Value, args = #[w0, w1, w2, w3, w4, w5] := by
    have hs : args.size = 6 := by simpa [Cond.value, given_1] using hcount
    obtain ⟨L⟩ := args
    match L, hs with
    | [w0, w1, w2, w3, w4, w5], _ => exact ⟨w0, w1, w2, w3, w4, w5, rfl⟩
  have hw := fun d (hd : d ∈ tables_1) => atoms_spec (ws := Jvm.Cond.code x code maxLocals ret :: tables_1) hat d (List.mem_cons_of_mem _ hd)
  have hfit : Fit s := fun {y c} hc i hi => by
    obtain ⟨ha, rfl⟩ := Array.getElem?_eq_some_iff.mp hc
    have q := List.all_eq_true.mp ((Array.all_eq_true_iff_forall_mem.mp hF) _ (Array.getElem_mem ha)) i (List.mem_range.mpr hi)
    simpa [Array.getElem?_eq_getElem hi] using q
  obtain ⟨hq0, hr1⟩ := and_e hr0
  obtain ⟨i0, ei0⟩ := is_v hq0
  obtain rfl : w0 = (.int i0) := Option.some.inj ei0
  obtain ⟨hq1, hr2⟩ := and_e hr1
  obtain ⟨i1, ei1⟩ := is_v hq1
  obtain rfl : w1 = (.int i1) := Option.some.inj ei1
  obtain ⟨hq2, hr3⟩ := and_e hr2
  obtain ⟨i2, ei2⟩ := is_v hq2
  obtain rfl : w2 = (.int i2) := Option.some.inj ei2
  obtain ⟨hq3, hr4⟩ := and_e hr3
  obtain ⟨i3, ei3⟩ := is_v hq3
  obtain rfl : w3 = (.int i3) := Option.some.inj ei3
  obtain ⟨hq4, hr5⟩ := and_e hr4
  obtain ⟨i4, ei4⟩ := is_v hq4
  obtain rfl : w4 = (.int i4) := Option.some.inj ei4
  obtain ⟨i5, ei5⟩ := is_v hr5
  obtain rfl : w5 = (.int i5) := Option.some.inj ei5
  obtain ⟨hsets, hown0⟩ := atoms_of _ (rest_1_c_eq ▸ (show rest_1_c.before _ s = true from hrest))
  obtain ⟨e_YEAR, ev_YEAR⟩ := exa_v (Cond.before_iff.mp (hsets _ (List.mem_of_getElem? (i := 6) rfl)))
  have S_YEAR : Sta s s.heap "java/time/temporal/ChronoField" "YEAR" "Ljava/time/temporal/ChronoField;" (.ref e_YEAR) := Sta.start ev_YEAR (Or.inl (hsets _ (List.mem_of_getElem? (i := 1) rfl)))
  have E_e_YEAR := Exa.start ev_YEAR (Cond.before_iff.mp (hsets _ (List.mem_of_getElem? (i := 6) rfl)))
  obtain ⟨r_YEAR, ew_YEAR⟩ := exa_v (Cond.before_iff.mp (hsets _ (List.mem_of_getElem? (i := 22) rfl)))
  have F_e_YEAR : Fld s s.heap e_YEAR "java/time/temporal/ChronoField" "range" "Ljava/time/temporal/ValueRange;" (.ref r_YEAR) := Fld.start ((fld_at ev_YEAR).symm.trans ew_YEAR)
  have E_r_YEAR := Exa.start ew_YEAR (Cond.before_iff.mp (hsets _ (List.mem_of_getElem? (i := 22) rfl)))
  have Fn_r_YEAR : Fld s s.heap r_YEAR "java/time/temporal/ValueRange" "minSmallest" "J" (.long (-999999999 : Int64)) := Fld.start ((fld_at ew_YEAR).symm.trans (OwnW.eqJ (Cond.before_iff.mp (hsets _ (List.mem_of_getElem? (i := 23) rfl))) (long_at (-999999999 : Int64))))
  have Fx_r_YEAR : Fld s s.heap r_YEAR "java/time/temporal/ValueRange" "maxLargest" "J" (.long (999999999 : Int64)) := Fld.start ((fld_at ew_YEAR).symm.trans (OwnW.eqJ (Cond.before_iff.mp (hsets _ (List.mem_of_getElem? (i := 26) rfl))) (long_at (999999999 : Int64))))
  obtain ⟨e_MONTH_OF_YEAR, ev_MONTH_OF_YEAR⟩ := exa_v (Cond.before_iff.mp (hsets _ (List.mem_of_getElem? (i := 34) rfl)))
  have S_MONTH_OF_YEAR : Sta s s.heap "java/time/temporal/ChronoField" "MONTH_OF_YEAR" "Ljava/time/temporal/ChronoField;" (.ref e_MONTH_OF_YEAR) := Sta.start ev_MONTH_OF_YEAR (Or.inl (hsets _ (List.mem_of_getElem? (i := 29) rfl)))
  have E_e_MONTH_OF_YEAR := Exa.start ev_MONTH_OF_YEAR (Cond.before_iff.mp (hsets _ (List.mem_of_getElem? (i := 34) rfl)))
  obtain ⟨r_MONTH_OF_YEAR, ew_MONTH_OF_YEAR⟩ := exa_v (Cond.before_iff.mp (hsets _ (List.mem_of_getElem? (i := 50) rfl)))
  have F_e_MONTH_OF_YEAR : Fld s s.heap e_MONTH_OF_YEAR "java/time/temporal/ChronoField" "range" "Ljava/time/temporal/ValueRange;" (.ref r_MONTH_OF_YEAR) := Fld.start ((fld_at ev_MONTH_OF_YEAR).symm.trans ew_MONTH_OF_YEAR)
  have E_r_MONTH_OF_YEAR := Exa.start ew_MONTH_OF_YEAR (Cond.before_iff.mp (hsets _ (List.mem_of_getElem? (i := 50) rfl)))
  have Fn_r_MONTH_OF_YEAR : Fld s s.heap r_MONTH_OF_YEAR "java/time/temporal/ValueRange" "minSmallest" "J" (.long (1 : Int64)) := Fld.start ((fld_at ew_MONTH_OF_YEAR).symm.trans (OwnW.eqJ (Cond.before_iff.mp (hsets _ (List.mem_of_getElem? (i := 51) rfl))) (long_at (1 : Int64))))
  have Fx_r_MONTH_OF_YEAR : Fld s s.heap r_MONTH_OF_YEAR "java/time/temporal/ValueRange" "maxLargest" "J" (.long (12 : Int64)) := Fld.start ((fld_at ew_MONTH_OF_YEAR).symm.trans (OwnW.eqJ (Cond.before_iff.mp (hsets _ (List.mem_of_getElem? (i := 54) rfl))) (long_at (12 : Int64))))
  obtain ⟨e_DAY_OF_MONTH, ev_DAY_OF_MONTH⟩ := exa_v (Cond.before_iff.mp (hsets _ (List.mem_of_getElem? (i := 62) rfl)))
  have S_DAY_OF_MONTH : Sta s s.heap "java/time/temporal/ChronoField" "DAY_OF_MONTH" "Ljava/time/temporal/ChronoField;" (.ref e_DAY_OF_MONTH) := Sta.start ev_DAY_OF_MONTH (Or.inl (hsets _ (List.mem_of_getElem? (i := 57) rfl)))
  have E_e_DAY_OF_MONTH := Exa.start ev_DAY_OF_MONTH (Cond.before_iff.mp (hsets _ (List.mem_of_getElem? (i := 62) rfl)))
  obtain ⟨r_DAY_OF_MONTH, ew_DAY_OF_MONTH⟩ := exa_v (Cond.before_iff.mp (hsets _ (List.mem_of_getElem? (i := 78) rfl)))
  have F_e_DAY_OF_MONTH : Fld s s.heap e_DAY_OF_MONTH "java/time/temporal/ChronoField" "range" "Ljava/time/temporal/ValueRange;" (.ref r_DAY_OF_MONTH) := Fld.start ((fld_at ev_DAY_OF_MONTH).symm.trans ew_DAY_OF_MONTH)
  have E_r_DAY_OF_MONTH := Exa.start ew_DAY_OF_MONTH (Cond.before_iff.mp (hsets _ (List.mem_of_getElem? (i := 78) rfl)))
  have Fn_r_DAY_OF_MONTH : Fld s s.heap r_DAY_OF_MONTH "java/time/temporal/ValueRange" "minSmallest" "J" (.long (1 : Int64)) := Fld.start ((fld_at ew_DAY_OF_MONTH).symm.trans (OwnW.eqJ (Cond.before_iff.mp (hsets _ (List.mem_of_getElem? (i := 79) rfl))) (long_at (1 : Int64))))
  have Fx_r_DAY_OF_MONTH : Fld s s.heap r_DAY_OF_MONTH "java/time/temporal/ValueRange" "maxLargest" "J" (.long (31 : Int64)) := Fld.start ((fld_at ew_DAY_OF_MONTH).symm.trans (OwnW.eqJ (Cond.before_iff.mp (hsets _ (List.mem_of_getElem? (i := 82) rfl))) (long_at (31 : Int64))))
  obtain ⟨n, o, h1, h2, h3, _, L, rfl, ⟨rfl, N⟩, hq⟩ := rm0 l s _ hw i0 i1 i2 i3 i4 i5 e_YEAR r_YEAR e_MONTH_OF_YEAR r_MONTH_OF_YEAR e_DAY_OF_MONTH r_DAY_OF_MONTH s.heap s.heap.size (Nat.le_refl _) S_YEAR E_e_YEAR F_e_YEAR E_r_YEAR Fn_r_YEAR Fx_r_YEAR S_MONTH_OF_YEAR E_e_MONTH_OF_YEAR F_e_MONTH_OF_YEAR E_r_MONTH_OF_YEAR Fn_r_MONTH_OF_YEAR Fx_r_MONTH_OF_YEAR S_DAY_OF_MONTH E_e_DAY_OF_MONTH F_e_DAY_OF_MONTH E_r_DAY_OF_MONTH Fn_r_DAY_OF_MONTH Fx_r_DAY_OF_MONTH tables_1 p e ha hc hk s m _ below hf ((Spec.applies_iff_loose hf).mp happ).1 ⟨rfl, State.Warmed39.refl s, rfl⟩ trivial
  refine ⟨n, _, h1, h2, h3, hpost _ _ _ _ _ _ ⟨Cond.after_iff.mpr rfl, Cond.after_iff.mpr (eq_i res_at (Term.int_eval (1)) rfl), trivial⟩ ⟨hq.1, hq.2.1, (hq.2.2.sift fun y hy => Or.inr (N y hy)).mono (by decide) (by decide)⟩⟩
theorem main_1_1 : Claimed_1_1 := comes_1 fun _ _ _ _ _ _ h hF => ⟨h.1, hF⟩
theorem main_1_2 : Claimed_1_2 := comes_1 fun _ _ _ _ _ _ h hF => ⟨h.2.1, hF⟩
end Jvm.Pilot.@@N@@
namespace Jvm.Pilot.@@N@@
open Jvm Jvm.ClassFile Sem Op Lib Jvm.Free Jvm.Stand Jvm.Pilot.@@N@@.Jvm.D
/-! MADE BY PROGRAM (witnessworld.py) out of the Statement's table words and the real class files: 30 classes; the members and pool entries that the words name. The judged class is class 1, her method 1. -/
namespace start1
open Jvm.ClassFile
def u (s : String) : CpInfo := .utf8 (stringToUtf16 s)
/-- a pool by its gaps: so many unusable entries, then the entry; so many at the end -/
def gap : Nat → List CpInfo → List CpInfo
  | 0, r => r
  | n + 1, r => .unusable :: gap n r
def poolList (es : List (Nat × CpInfo)) (last : Nat) : List CpInfo := es.foldr (fun e r => gap e.1 (e.2 :: r)) (gap last [])
def pool (es : List (Nat × CpInfo)) (last : Nat) : Array CpInfo := ⟨poolList es last⟩
def fileOf (pool : Array CpInfo) (this : Nat) (attrs : Array Attribute := #[]) (ms : Array MethodInfo := #[]) (fl : Nat := 33) (sup : Nat := 0) (ifs : Array Nat := #[]) (fds : Array FieldInfo := #[]) : ClassFile where
  minorVersion := 0
  majorVersion := 65
  constantPool := pool
  accessFlags := fl
  thisClass := this
  superClass := sup
  interfaces := ifs
  fields := fds
  methods := ms
  attributes := attrs
def plain (name : String) (sup : Option ClassId) : Class where
  name := name
  kind := .ordinary
  loader := none
  accessFlags := 33
  super := sup
  interfaces := #[]
  cf := none
  fields := #[]
  methods := #[]
  instanceTypes := #[]
  staticTypes := #[]
  resolved := #[]
  callSites := []
  init := .initialized
  statics := none
  mirror := none

def pool0 : Array CpInfo := pool [(5, u "<init>"), (0, u "()V"), (1, .class_ 10), (1, u "java/lang/Object")] 113

def k0c0 : Code := { maxStack := 0, maxLocals := 1, code := object_method_1_code, exceptionTable := #[], attributes := #[] }
def k0m0 : Method := { name := "<init>", desc := "()V", sig := { parameters := [], returnType := none }, accessFlags := 1, code := some k0c0 }
/-- java/lang/Object -/
def k0 : Class := { plain "java/lang/Object" none with
  accessFlags := 33
  interfaces := #[]
  cf := some (fileOf pool0 8 #[] #[{ accessFlags := 1, nameIndex := 5, descriptorIndex := 6, attributes := #[] }] 33 0 #[] #[])
  fields := #[]
  methods := #[k0m0]
  instanceTypes := #[]
  staticTypes := #[]
  resolved := Array.replicate 124 none
  statics := none }

def pool1 : Array CpInfo := pool [(2, .class_ 4), (1, u "java/lang/Object"), (0, u "<init>"), (0, u "()V"), (0, .integer 1000000000), (0, .integer 4194306), (0, .integer 2147483647), (0, .integer 4194303), (2, .integer 2147483648), (0, .class_ 15), (0, u "com/example/paystage/paystage/Course$Span"), (0, .methodref 14 17), (0, .nameAndType 5 18), (0, u "(IILcom/example/paystage/paystage/Course$Changes;Lcom/example/paystage/paystage/Course$Days;I)V"), (0, .methodref 20 21), (0, .class_ 22), (0, .nameAndType 23 24), (0, u "java/time/LocalDate"), (0, u "of"), (0, u "(III)Ljava/time/LocalDate;"), (0, .methodref 14 26), (0, .nameAndType 27 28), (0, u "covers"), (0, u "(Ljava/time/LocalDate;)Z"), (0, .class_ 30), (0, u "com/example/paystage/paystage/SpanCoversPinLaw"), (2, u "law"), (0, u "(IIIIII)Z")] 13

def k1m0 : Method := { name := "<init>", desc := "()V", sig := { parameters := [], returnType := none }, accessFlags := 1, code := none }
def k1c1 : Code := { maxStack := 7, maxLocals := 16, code := code, exceptionTable := #[], attributes := #[] }
def k1m1 : Method := { name := "law", desc := "(IIIIII)Z", sig := { parameters := [.int, .int, .int, .int, .int, .int], returnType := some .boolean }, accessFlags := 9, code := some k1c1 }
/-- com/example/paystage/paystage/SpanCoversPinLaw -/
def k1 : Class := { plain "com/example/paystage/paystage/SpanCoversPinLaw" (some 0) with
  accessFlags := 49
  interfaces := #[]
  cf := some (fileOf pool1 29 #[] #[{ accessFlags := 1, nameIndex := 5, descriptorIndex := 6, attributes := #[] }, { accessFlags := 9, nameIndex := 33, descriptorIndex := 34, attributes := #[] }] 49 2 #[] #[])
  fields := #[]
  methods := #[k1m0, k1m1]
  instanceTypes := #[]
  staticTypes := #[]
  resolved := Array.replicate 48 none
  statics := none }

def pool2 : Array CpInfo := pool [(1, .methodref 2 3), (0, .class_ 4), (0, .nameAndType 5 6), (0, u "java/lang/Object"), (0, u "<init>"), (0, u "()V"), (0, .class_ 8), (0, u "java/lang/Record")] 13

def k2c0 : Code := { maxStack := 1, maxLocals := 1, code := jdk_30_method_1_code, exceptionTable := #[], attributes := #[] }
def k2m0 : Method := { name := "<init>", desc := "()V", sig := { parameters := [], returnType := none }, accessFlags := 4, code := some k2c0 }
/-- java/lang/Record -/
def k2 : Class := { plain "java/lang/Record" (some 0) with
  accessFlags := 1057
  interfaces := #[]
  cf := some (fileOf pool2 7 #[] #[{ accessFlags := 4, nameIndex := 5, descriptorIndex := 6, attributes := #[] }] 1057 2 #[] #[])
  fields := #[]
  methods := #[k2m0]
  instanceTypes := #[]
  staticTypes := #[]
  resolved := Array.replicate 22 none
  statics := none }

def pool3 : Array CpInfo := pool [(1, .class_ 2), (0, u "com/example/paystage/paystage/Course$Paid"), (0, .class_ 4), (0, u "java/lang/Object"), (10, .class_ 16), (0, u "com/example/paystage/paystage/Course")] 2

/-- com/example/paystage/paystage/Course$Paid -/
def k3 : Class := { plain "com/example/paystage/paystage/Course$Paid" (some 0) with
  accessFlags := 1536
  interfaces := #[]
  cf := some (fileOf pool3 1 #[.nestHost 15] #[] 1536 3 #[] #[])
  fields := #[]
  methods := #[]
  instanceTypes := #[]
  staticTypes := #[]
  resolved := Array.replicate 19 none
  statics := none }

def pool4 : Array CpInfo := pool [(1, .methodref 2 3), (0, .class_ 4), (0, .nameAndType 5 6), (0, u "java/lang/Record"), (0, u "<init>"), (0, u "()V"), (0, .fieldref 8 9), (0, .class_ 10), (0, .nameAndType 11 12), (0, u "com/example/paystage/paystage/Course$Span"), (0, u "from"), (0, u "I"), (0, .fieldref 8 14), (0, .nameAndType 15 12), (0, u "until"), (0, .fieldref 8 17), (0, .nameAndType 18 19), (0, u "paid"), (0, u "Lcom/example/paystage/paystage/Course$Changes;"), (0, .fieldref 8 21), (0, .nameAndType 22 23), (0, u "releases"), (0, u "Lcom/example/paystage/paystage/Course$Days;"), (0, .fieldref 8 25), (0, .nameAndType 26 12), (0, u "released"), (0, .methodref 28 29), (0, .class_ 30), (0, .nameAndType 31 32), (0, u "com/example/paystage/paystage/Dates"), (0, u "bounded"), (0, u "(Ljava/time/LocalDate;)I"), (0, .methodref 8 34), (0, .nameAndType 35 36), (0, u "covers"), (0, u "(I)Z"), (21, .class_ 60), (1, u "com/example/paystage/paystage/Course"), (19, .class_ 81), (0, u "com/example/paystage/paystage/Course$Paid"), (0, u "(IILcom/example/paystage/paystage/Course$Changes;Lcom/example/paystage/paystage/Course$Days;I)V"), (3, u "(Ljava/time/LocalDate;)Z")] 39

def k4c0 : Code := { maxStack := 2, maxLocals := 6, code := prog_16_method_1_code, exceptionTable := #[], attributes := #[] }
def k4m0 : Method := { name := "<init>", desc := "(IILcom/example/paystage/paystage/Course$Changes;Lcom/example/paystage/paystage/Course$Days;I)V", sig := { parameters := [.int, .int, (.object "com/example/paystage/paystage/Course$Changes"), (.object "com/example/paystage/paystage/Course$Days"), .int], returnType := none }, accessFlags := 0, code := some k4c0 }
def k4c1 : Code := { maxStack := 2, maxLocals := 2, code := prog_16_method_2_code, exceptionTable := #[], attributes := #[] }
def k4m1 : Method := { name := "covers", desc := "(Ljava/time/LocalDate;)Z", sig := { parameters := [(.object "java/time/LocalDate")], returnType := some .boolean }, accessFlags := 0, code := some k4c1 }
def k4c2 : Code := { maxStack := 2, maxLocals := 2, code := prog_16_method_3_code, exceptionTable := #[], attributes := #[] }
def k4m2 : Method := { name := "covers", desc := "(I)Z", sig := { parameters := [.int], returnType := some .boolean }, accessFlags := 0, code := some k4c2 }
/-- com/example/paystage/paystage/Course$Span -/
def k4 : Class := { plain "com/example/paystage/paystage/Course$Span" (some 2) with
  accessFlags := 48
  interfaces := #[3]
  cf := some (fileOf pool4 8 #[.nestHost 58] #[{ accessFlags := 0, nameIndex := 5, descriptorIndex := 82, attributes := #[] }, { accessFlags := 0, nameIndex := 35, descriptorIndex := 86, attributes := #[] }, { accessFlags := 0, nameIndex := 35, descriptorIndex := 36, attributes := #[] }] 48 2 #[80] #[{ accessFlags := 18, nameIndex := 11, descriptorIndex := 12, attributes := #[] }, { accessFlags := 18, nameIndex := 15, descriptorIndex := 12, attributes := #[] }, { accessFlags := 18, nameIndex := 18, descriptorIndex := 19, attributes := #[] }, { accessFlags := 18, nameIndex := 22, descriptorIndex := 23, attributes := #[] }, { accessFlags := 18, nameIndex := 26, descriptorIndex := 12, attributes := #[] }])
  fields := #[{ name := "from", type := .int, accessFlags := 18, slot := 0, constantValue := 0 }, { name := "until", type := .int, accessFlags := 18, slot := 1, constantValue := 0 }, { name := "paid", type := (.object "com/example/paystage/paystage/Course$Changes"), accessFlags := 18, slot := 2, constantValue := 0 }, { name := "releases", type := (.object "com/example/paystage/paystage/Course$Days"), accessFlags := 18, slot := 3, constantValue := 0 }, { name := "released", type := .int, accessFlags := 18, slot := 4, constantValue := 0 }]
  methods := #[k4m0, k4m1, k4m2]
  instanceTypes := #[.int, .int, (.object "com/example/paystage/paystage/Course$Changes"), (.object "com/example/paystage/paystage/Course$Days"), .int]
  staticTypes := #[]
  resolved := Array.replicate 126 none
  statics := none }

def pool5 : Array CpInfo := pool [(4, .class_ 6), (1, u "java/time/temporal/TemporalAccessor"), (95, .class_ 103), (0, u "java/lang/Object")] 21

/-- java/time/temporal/TemporalAccessor -/
def k5 : Class := { plain "java/time/temporal/TemporalAccessor" (some 0) with
  accessFlags := 1537
  interfaces := #[]
  cf := some (fileOf pool5 4 #[] #[] 1537 102 #[] #[])
  fields := #[]
  methods := #[]
  instanceTypes := #[]
  staticTypes := #[]
  resolved := Array.replicate 125 none
  statics := none }

def pool6 : Array CpInfo := pool [(22, .class_ 24), (1, u "java/time/temporal/Temporal"), (2, .class_ 28), (0, u "java/lang/Object"), (0, .class_ 30), (0, u "java/time/temporal/TemporalAccessor")] 25

/-- java/time/temporal/Temporal -/
def k6 : Class := { plain "java/time/temporal/Temporal" (some 0) with
  accessFlags := 1537
  interfaces := #[5]
  cf := some (fileOf pool6 22 #[] #[] 1537 27 #[29] #[])
  fields := #[]
  methods := #[]
  instanceTypes := #[]
  staticTypes := #[]
  resolved := Array.replicate 56 none
  statics := none }

def pool7 : Array CpInfo := pool [(1, .class_ 2), (0, u "java/time/temporal/TemporalAdjuster"), (0, .class_ 4), (0, u "java/lang/Object")] 6

/-- java/time/temporal/TemporalAdjuster -/
def k7 : Class := { plain "java/time/temporal/TemporalAdjuster" (some 0) with
  accessFlags := 1537
  interfaces := #[]
  cf := some (fileOf pool7 1 #[] #[] 1537 3 #[] #[])
  fields := #[]
  methods := #[]
  instanceTypes := #[]
  staticTypes := #[]
  resolved := Array.replicate 11 none
  statics := none }

def pool8 : Array CpInfo := pool [(1, .class_ 2), (0, u "java/lang/Comparable"), (0, .class_ 4), (0, u "java/lang/Object")] 7

/-- java/lang/Comparable -/
def k8 : Class := { plain "java/lang/Comparable" (some 0) with
  accessFlags := 1537
  interfaces := #[]
  cf := some (fileOf pool8 1 #[] #[] 1537 3 #[] #[])
  fields := #[]
  methods := #[]
  instanceTypes := #[]
  staticTypes := #[]
  resolved := Array.replicate 12 none
  statics := none }

def pool9 : Array CpInfo := pool [(9, .class_ 10), (0, u "java/time/chrono/ChronoLocalDate"), (104, .class_ 117), (1, u "java/time/temporal/Temporal"), (134, .class_ 253), (0, u "java/lang/Object"), (23, .class_ 278), (0, u "java/time/temporal/TemporalAdjuster"), (0, .class_ 280), (0, u "java/lang/Comparable")] 86

/-- java/time/chrono/ChronoLocalDate -/
def k9 : Class := { plain "java/time/chrono/ChronoLocalDate" (some 0) with
  accessFlags := 1537
  interfaces := #[6, 7, 8]
  cf := some (fileOf pool9 9 #[] #[] 1537 252 #[115, 277, 279] #[])
  fields := #[]
  methods := #[]
  instanceTypes := #[]
  staticTypes := #[]
  resolved := Array.replicate 367 none
  statics := none }

def pool10 : Array CpInfo := pool [(1, .class_ 2), (0, u "java/io/Serializable"), (0, .class_ 4), (0, u "java/lang/Object")] 2

/-- java/io/Serializable -/
def k10 : Class := { plain "java/io/Serializable" (some 0) with
  accessFlags := 1537
  interfaces := #[]
  cf := some (fileOf pool10 1 #[] #[] 1537 3 #[] #[])
  fields := #[]
  methods := #[]
  instanceTypes := #[]
  staticTypes := #[]
  resolved := Array.replicate 7 none
  statics := none }

def pool11 : Array CpInfo := pool [(1, .class_ 2), (0, u "java/time/LocalDate"), (36, .fieldref 40 41), (0, .class_ 42), (0, .nameAndType 43 44), (0, u "java/time/temporal/ChronoField"), (0, u "YEAR"), (0, u "Ljava/time/temporal/ChronoField;"), (0, .methodref 40 46), (0, .nameAndType 47 48), (0, u "checkValidValue"), (0, u "(J)J"), (1, u "month"), (0, .fieldref 40 52), (0, .nameAndType 53 44), (0, u "DAY_OF_MONTH"), (5, u "()I"), (0, .methodref 1 61), (0, .nameAndType 62 63), (0, u "create"), (0, u "(III)Ljava/time/LocalDate;"), (0, .fieldref 40 65), (0, .nameAndType 66 44), (0, u "MONTH_OF_YEAR"), (18, .nameAndType 86 87), (0, u "<init>"), (0, u "()V"), (20, u "of"), (12, .methodref 1 122), (0, .nameAndType 86 123), (0, u "(III)V"), (119, .methodref 244 85), (0, .class_ 245), (0, u "java/lang/Object"), (0, .fieldref 1 247), (0, .nameAndType 248 249), (0, u "year"), (0, u "I"), (0, .fieldref 1 251), (0, .nameAndType 50 252), (0, u "S"), (0, .fieldref 1 254), (0, .nameAndType 255 252), (0, u "day"), (1, .class_ 259), (1, u "java/time/chrono/ChronoLocalDate"), (10, .class_ 272), (1, u "java/time/LocalDate$1"), (30, u "getYear"), (76, .class_ 382), (1, u "java/time/temporal/TemporalAdjuster"), (153, u "getDayOfMonth"), (51, u "MAX"), (0, u "Ljava/time/LocalDate;"), (2, u "MIN"), (176, u "EPOCH"), (0, .class_ 771), (0, u "java/time/temporal/Temporal"), (0, .class_ 773), (0, u "java/io/Serializable"), (0, u "serialVersionUID"), (0, u "J"), (3, u "DAYS_PER_CYCLE"), (1, u "DAYS_0000_TO_1970"), (42, u "getMonthValue")] 163

def k11c0 : Code := { maxStack := 3, maxLocals := 3, code := jdk_2323_method_5_code, exceptionTable := #[], attributes := #[] }
def k11m0 : Method := { name := "of", desc := "(III)Ljava/time/LocalDate;", sig := { parameters := [.int, .int, .int], returnType := some (.object "java/time/LocalDate") }, accessFlags := 9, code := some k11c0 }
def k11c1 : Code := { maxStack := 5, maxLocals := 4, code := jdk_2323_method_12_code, exceptionTable := #[], attributes := #[] }
def k11m1 : Method := { name := "create", desc := "(III)Ljava/time/LocalDate;", sig := { parameters := [.int, .int, .int], returnType := some (.object "java/time/LocalDate") }, accessFlags := 10, code := some k11c1 }
def k11c2 : Code := { maxStack := 2, maxLocals := 4, code := jdk_2323_method_14_code, exceptionTable := #[], attributes := #[] }
def k11m2 : Method := { name := "<init>", desc := "(III)V", sig := { parameters := [.int, .int, .int], returnType := none }, accessFlags := 2, code := some k11c2 }
def k11c3 : Code := { maxStack := 1, maxLocals := 1, code := jdk_2323_method_24_code, exceptionTable := #[], attributes := #[] }
def k11m3 : Method := { name := "getYear", desc := "()I", sig := { parameters := [], returnType := some .int }, accessFlags := 1, code := some k11c3 }
def k11c4 : Code := { maxStack := 1, maxLocals := 1, code := jdk_2323_method_25_code, exceptionTable := #[], attributes := #[] }
def k11m4 : Method := { name := "getMonthValue", desc := "()I", sig := { parameters := [], returnType := some .int }, accessFlags := 1, code := some k11c4 }
def k11c5 : Code := { maxStack := 1, maxLocals := 1, code := jdk_2323_method_27_code, exceptionTable := #[], attributes := #[] }
def k11m5 : Method := { name := "getDayOfMonth", desc := "()I", sig := { parameters := [], returnType := some .int }, accessFlags := 1, code := some k11c5 }
/-- java/time/LocalDate -/
def k11 : Class := { plain "java/time/LocalDate" (some 0) with
  accessFlags := 49
  interfaces := #[6, 7, 9, 10]
  cf := some (fileOf pool11 1 #[.nestMembers #[270]] #[{ accessFlags := 9, nameIndex := 108, descriptorIndex := 63, attributes := #[] }, { accessFlags := 10, nameIndex := 62, descriptorIndex := 63, attributes := #[] }, { accessFlags := 2, nameIndex := 86, descriptorIndex := 123, attributes := #[] }, { accessFlags := 1, nameIndex := 303, descriptorIndex := 59, attributes := #[] }, { accessFlags := 1, nameIndex := 824, descriptorIndex := 59, attributes := #[] }, { accessFlags := 1, nameIndex := 536, descriptorIndex := 59, attributes := #[] }] 49 244 #[770, 380, 257, 772] #[{ accessFlags := 25, nameIndex := 592, descriptorIndex := 589, attributes := #[] }, { accessFlags := 25, nameIndex := 588, descriptorIndex := 589, attributes := #[] }, { accessFlags := 25, nameIndex := 769, descriptorIndex := 589, attributes := #[] }, { accessFlags := 26, nameIndex := 774, descriptorIndex := 775, attributes := #[] }, { accessFlags := 26, nameIndex := 779, descriptorIndex := 249, attributes := #[] }, { accessFlags := 24, nameIndex := 781, descriptorIndex := 775, attributes := #[] }, { accessFlags := 18, nameIndex := 248, descriptorIndex := 249, attributes := #[] }, { accessFlags := 18, nameIndex := 50, descriptorIndex := 252, attributes := #[] }, { accessFlags := 18, nameIndex := 255, descriptorIndex := 252, attributes := #[] }])
  fields := #[{ name := "MIN", type := (.object "java/time/LocalDate"), accessFlags := 25, slot := 0, constantValue := 0 }, { name := "MAX", type := (.object "java/time/LocalDate"), accessFlags := 25, slot := 1, constantValue := 0 }, { name := "EPOCH", type := (.object "java/time/LocalDate"), accessFlags := 25, slot := 2, constantValue := 0 }, { name := "serialVersionUID", type := .long, accessFlags := 26, slot := 3, constantValue := 0 }, { name := "DAYS_PER_CYCLE", type := .int, accessFlags := 26, slot := 4, constantValue := 0 }, { name := "DAYS_0000_TO_1970", type := .long, accessFlags := 24, slot := 5, constantValue := 0 }, { name := "year", type := .int, accessFlags := 18, slot := 0, constantValue := 0 }, { name := "month", type := .short, accessFlags := 18, slot := 1, constantValue := 0 }, { name := "day", type := .short, accessFlags := 18, slot := 2, constantValue := 0 }]
  methods := #[k11m0, k11m1, k11m2, k11m3, k11m4, k11m5]
  instanceTypes := #[.int, .short, .short]
  staticTypes := #[(.object "java/time/LocalDate"), (.object "java/time/LocalDate"), (.object "java/time/LocalDate"), .long, .int, .long]
  resolved := Array.replicate 988 none
  statics := none }

def pool12 : Array CpInfo := pool [(1, .class_ 2), (0, u "java/lang/constant/Constable"), (0, .class_ 4), (0, u "java/lang/Object")] 6

/-- java/lang/constant/Constable -/
def k12 : Class := { plain "java/lang/constant/Constable" (some 0) with
  accessFlags := 1537
  interfaces := #[]
  cf := some (fileOf pool12 1 #[] #[] 1537 3 #[] #[])
  fields := #[]
  methods := #[]
  instanceTypes := #[]
  staticTypes := #[]
  resolved := Array.replicate 11 none
  statics := none }

def pool13 : Array CpInfo := pool [(2, .class_ 4), (1, u "java/lang/Enum"), (0, u "name"), (0, u "Ljava/lang/String;"), (2, u "ordinal"), (0, u "I"), (1, .class_ 14), (1, u "java/lang/Object"), (4, u "hash"), (86, .class_ 108), (1, u "java/lang/Enum$EnumDesc"), (2, .class_ 112), (0, u "java/lang/constant/Constable"), (0, .class_ 114), (0, u "java/lang/Comparable"), (0, .class_ 116), (0, u "java/io/Serializable")] 87

/-- java/lang/Enum -/
def k13 : Class := { plain "java/lang/Enum" (some 0) with
  accessFlags := 1057
  interfaces := #[12, 8, 10]
  cf := some (fileOf pool13 2 #[.nestMembers #[106]] #[] 1057 12 #[111, 113, 115] #[{ accessFlags := 18, nameIndex := 5, descriptorIndex := 6, attributes := #[] }, { accessFlags := 18, nameIndex := 9, descriptorIndex := 10, attributes := #[] }, { accessFlags := 2, nameIndex := 19, descriptorIndex := 10, attributes := #[] }])
  fields := #[{ name := "name", type := (.object "java/lang/String"), accessFlags := 18, slot := 0, constantValue := 0 }, { name := "ordinal", type := .int, accessFlags := 18, slot := 1, constantValue := 0 }, { name := "hash", type := .int, accessFlags := 2, slot := 2, constantValue := 0 }]
  methods := #[]
  instanceTypes := #[(.object "java/lang/String"), .int, .int]
  staticTypes := #[]
  resolved := Array.replicate 204 none
  statics := none }

def pool14 : Array CpInfo := pool [(10, .class_ 12), (1, u "java/time/temporal/TemporalField"), (2, .class_ 16), (0, u "java/lang/Object")] 39

/-- java/time/temporal/TemporalField -/
def k14 : Class := { plain "java/time/temporal/TemporalField" (some 0) with
  accessFlags := 1537
  interfaces := #[]
  cf := some (fileOf pool14 10 #[] #[] 1537 15 #[] #[])
  fields := #[]
  methods := #[]
  instanceTypes := #[]
  staticTypes := #[]
  resolved := Array.replicate 56 none
  statics := none }

def pool15 : Array CpInfo := pool [(1, .class_ 2), (0, u "java/time/temporal/ChronoField"), (2, u "NANO_OF_SECOND"), (0, u "Ljava/time/temporal/ChronoField;"), (2, u "NANO_OF_DAY"), (2, u "MICRO_OF_SECOND"), (2, u "MICRO_OF_DAY"), (2, u "MILLI_OF_SECOND"), (2, u "MILLI_OF_DAY"), (2, u "SECOND_OF_MINUTE"), (2, u "SECOND_OF_DAY"), (2, u "MINUTE_OF_HOUR"), (2, u "MINUTE_OF_DAY"), (2, u "HOUR_OF_AMPM"), (2, u "CLOCK_HOUR_OF_AMPM"), (2, u "HOUR_OF_DAY"), (2, u "CLOCK_HOUR_OF_DAY"), (2, u "AMPM_OF_DAY"), (2, u "DAY_OF_WEEK"), (2, u "ALIGNED_DAY_OF_WEEK_IN_MONTH"), (2, u "ALIGNED_DAY_OF_WEEK_IN_YEAR"), (2, u "DAY_OF_MONTH"), (2, u "DAY_OF_YEAR"), (2, u "EPOCH_DAY"), (2, u "ALIGNED_WEEK_OF_MONTH"), (2, u "ALIGNED_WEEK_OF_YEAR"), (2, u "MONTH_OF_YEAR"), (2, u "PROLEPTIC_MONTH"), (2, u "YEAR_OF_ERA"), (2, u "YEAR"), (2, u "ERA"), (2, u "INSTANT_SECONDS"), (2, u "OFFSET_SECONDS"), (2, u "$VALUES"), (0, u "[Ljava/time/temporal/ChronoField;"), (6, .class_ 106), (1, u "java/lang/Enum"), (8, u "name"), (0, u "Ljava/lang/String;"), (2, u "baseUnit"), (0, u "Ljava/time/temporal/TemporalUnit;"), (2, u "rangeUnit"), (0, .fieldref 1 125), (0, .nameAndType 126 127), (0, u "range"), (0, u "Ljava/time/temporal/ValueRange;"), (2, u "displayNameKey"), (59, .methodref 1 191), (0, .nameAndType 126 192), (0, u "()Ljava/time/temporal/ValueRange;"), (0, .methodref 194 195), (0, .class_ 196), (0, .nameAndType 197 198), (0, u "java/time/temporal/ValueRange"), (0, u "checkValidValue"), (0, u "(JLjava/time/temporal/TemporalField;)J"), (256, .class_ 456), (0, u "java/time/temporal/TemporalField"), (27, u "(J)J")] 22

def k15c0 : Code := { maxStack := 1, maxLocals := 1, code := jdk_2395_method_8_code, exceptionTable := #[], attributes := #[] }
def k15m0 : Method := { name := "range", desc := "()Ljava/time/temporal/ValueRange;", sig := { parameters := [], returnType := some (.object "java/time/temporal/ValueRange") }, accessFlags := 1, code := some k15c0 }
def k15c1 : Code := { maxStack := 4, maxLocals := 3, code := jdk_2395_method_11_code, exceptionTable := #[], attributes := #[] }
def k15m1 : Method := { name := "checkValidValue", desc := "(J)J", sig := { parameters := [.long], returnType := some .long }, accessFlags := 1, code := some k15c1 }
/-- java/time/temporal/ChronoField -/
def k15 : Class := { plain "java/time/temporal/ChronoField" (some 13) with
  accessFlags := 16433
  interfaces := #[14]
  cf := some (fileOf pool15 1 #[] #[{ accessFlags := 1, nameIndex := 126, descriptorIndex := 192, attributes := #[] }, { accessFlags := 1, nameIndex := 197, descriptorIndex := 484, attributes := #[] }] 16433 104 #[455] #[{ accessFlags := 16409, nameIndex := 5, descriptorIndex := 6, attributes := #[] }, { accessFlags := 16409, nameIndex := 9, descriptorIndex := 6, attributes := #[] }, { accessFlags := 16409, nameIndex := 12, descriptorIndex := 6, attributes := #[] }, { accessFlags := 16409, nameIndex := 15, descriptorIndex := 6, attributes := #[] }, { accessFlags := 16409, nameIndex := 18, descriptorIndex := 6, attributes := #[] }, { accessFlags := 16409, nameIndex := 21, descriptorIndex := 6, attributes := #[] }, { accessFlags := 16409, nameIndex := 24, descriptorIndex := 6, attributes := #[] }, { accessFlags := 16409, nameIndex := 27, descriptorIndex := 6, attributes := #[] }, { accessFlags := 16409, nameIndex := 30, descriptorIndex := 6, attributes := #[] }, { accessFlags := 16409, nameIndex := 33, descriptorIndex := 6, attributes := #[] }, { accessFlags := 16409, nameIndex := 36, descriptorIndex := 6, attributes := #[] }, { accessFlags := 16409, nameIndex := 39, descriptorIndex := 6, attributes := #[] }, { accessFlags := 16409, nameIndex := 42, descriptorIndex := 6, attributes := #[] }, { accessFlags := 16409, nameIndex := 45, descriptorIndex := 6, attributes := #[] }, { accessFlags := 16409, nameIndex := 48, descriptorIndex := 6, attributes := #[] }, { accessFlags := 16409, nameIndex := 51, descriptorIndex := 6, attributes := #[] }, { accessFlags := 16409, nameIndex := 54, descriptorIndex := 6, attributes := #[] }, { accessFlags := 16409, nameIndex := 57, descriptorIndex := 6, attributes := #[] }, { accessFlags := 16409, nameIndex := 60, descriptorIndex := 6, attributes := #[] }, { accessFlags := 16409, nameIndex := 63, descriptorIndex := 6, attributes := #[] }, { accessFlags := 16409, nameIndex := 66, descriptorIndex := 6, attributes := #[] }, { accessFlags := 16409, nameIndex := 69, descriptorIndex := 6, attributes := #[] }, { accessFlags := 16409, nameIndex := 72, descriptorIndex := 6, attributes := #[] }, { accessFlags := 16409, nameIndex := 75, descriptorIndex := 6, attributes := #[] }, { accessFlags := 16409, nameIndex := 78, descriptorIndex := 6, attributes := #[] }, { accessFlags := 16409, nameIndex := 81, descriptorIndex := 6, attributes := #[] }, { accessFlags := 16409, nameIndex := 84, descriptorIndex := 6, attributes := #[] }, { accessFlags := 16409, nameIndex := 87, descriptorIndex := 6, attributes := #[] }, { accessFlags := 16409, nameIndex := 90, descriptorIndex := 6, attributes := #[] }, { accessFlags := 16409, nameIndex := 93, descriptorIndex := 6, attributes := #[] }, { accessFlags := 18, nameIndex := 115, descriptorIndex := 116, attributes := #[] }, { accessFlags := 18, nameIndex := 119, descriptorIndex := 120, attributes := #[] }, { accessFlags := 18, nameIndex := 123, descriptorIndex := 120, attributes := #[] }, { accessFlags := 18, nameIndex := 126, descriptorIndex := 127, attributes := #[] }, { accessFlags := 18, nameIndex := 130, descriptorIndex := 116, attributes := #[] }, { accessFlags := 4122, nameIndex := 96, descriptorIndex := 97, attributes := #[] }])
  fields := #[{ name := "NANO_OF_SECOND", type := (.object "java/time/temporal/ChronoField"), accessFlags := 16409, slot := 0, constantValue := 0 }, { name := "NANO_OF_DAY", type := (.object "java/time/temporal/ChronoField"), accessFlags := 16409, slot := 1, constantValue := 0 }, { name := "MICRO_OF_SECOND", type := (.object "java/time/temporal/ChronoField"), accessFlags := 16409, slot := 2, constantValue := 0 }, { name := "MICRO_OF_DAY", type := (.object "java/time/temporal/ChronoField"), accessFlags := 16409, slot := 3, constantValue := 0 }, { name := "MILLI_OF_SECOND", type := (.object "java/time/temporal/ChronoField"), accessFlags := 16409, slot := 4, constantValue := 0 }, { name := "MILLI_OF_DAY", type := (.object "java/time/temporal/ChronoField"), accessFlags := 16409, slot := 5, constantValue := 0 }, { name := "SECOND_OF_MINUTE", type := (.object "java/time/temporal/ChronoField"), accessFlags := 16409, slot := 6, constantValue := 0 }, { name := "SECOND_OF_DAY", type := (.object "java/time/temporal/ChronoField"), accessFlags := 16409, slot := 7, constantValue := 0 }, { name := "MINUTE_OF_HOUR", type := (.object "java/time/temporal/ChronoField"), accessFlags := 16409, slot := 8, constantValue := 0 }, { name := "MINUTE_OF_DAY", type := (.object "java/time/temporal/ChronoField"), accessFlags := 16409, slot := 9, constantValue := 0 }, { name := "HOUR_OF_AMPM", type := (.object "java/time/temporal/ChronoField"), accessFlags := 16409, slot := 10, constantValue := 0 }, { name := "CLOCK_HOUR_OF_AMPM", type := (.object "java/time/temporal/ChronoField"), accessFlags := 16409, slot := 11, constantValue := 0 }, { name := "HOUR_OF_DAY", type := (.object "java/time/temporal/ChronoField"), accessFlags := 16409, slot := 12, constantValue := 0 }, { name := "CLOCK_HOUR_OF_DAY", type := (.object "java/time/temporal/ChronoField"), accessFlags := 16409, slot := 13, constantValue := 0 }, { name := "AMPM_OF_DAY", type := (.object "java/time/temporal/ChronoField"), accessFlags := 16409, slot := 14, constantValue := 0 }, { name := "DAY_OF_WEEK", type := (.object "java/time/temporal/ChronoField"), accessFlags := 16409, slot := 15, constantValue := 0 }, { name := "ALIGNED_DAY_OF_WEEK_IN_MONTH", type := (.object "java/time/temporal/ChronoField"), accessFlags := 16409, slot := 16, constantValue := 0 }, { name := "ALIGNED_DAY_OF_WEEK_IN_YEAR", type := (.object "java/time/temporal/ChronoField"), accessFlags := 16409, slot := 17, constantValue := 0 }, { name := "DAY_OF_MONTH", type := (.object "java/time/temporal/ChronoField"), accessFlags := 16409, slot := 18, constantValue := 0 }, { name := "DAY_OF_YEAR", type := (.object "java/time/temporal/ChronoField"), accessFlags := 16409, slot := 19, constantValue := 0 }, { name := "EPOCH_DAY", type := (.object "java/time/temporal/ChronoField"), accessFlags := 16409, slot := 20, constantValue := 0 }, { name := "ALIGNED_WEEK_OF_MONTH", type := (.object "java/time/temporal/ChronoField"), accessFlags := 16409, slot := 21, constantValue := 0 }, { name := "ALIGNED_WEEK_OF_YEAR", type := (.object "java/time/temporal/ChronoField"), accessFlags := 16409, slot := 22, constantValue := 0 }, { name := "MONTH_OF_YEAR", type := (.object "java/time/temporal/ChronoField"), accessFlags := 16409, slot := 23, constantValue := 0 }, { name := "PROLEPTIC_MONTH", type := (.object "java/time/temporal/ChronoField"), accessFlags := 16409, slot := 24, constantValue := 0 }, { name := "YEAR_OF_ERA", type := (.object "java/time/temporal/ChronoField"), accessFlags := 16409, slot := 25, constantValue := 0 }, { name := "YEAR", type := (.object "java/time/temporal/ChronoField"), accessFlags := 16409, slot := 26, constantValue := 0 }, { name := "ERA", type := (.object "java/time/temporal/ChronoField"), accessFlags := 16409, slot := 27, constantValue := 0 }, { name := "INSTANT_SECONDS", type := (.object "java/time/temporal/ChronoField"), accessFlags := 16409, slot := 28, constantValue := 0 }, { name := "OFFSET_SECONDS", type := (.object "java/time/temporal/ChronoField"), accessFlags := 16409, slot := 29, constantValue := 0 }, { name := "name", type := (.object "java/lang/String"), accessFlags := 18, slot := 3, constantValue := 0 }, { name := "baseUnit", type := (.object "java/time/temporal/TemporalUnit"), accessFlags := 18, slot := 4, constantValue := 0 }, { name := "rangeUnit", type := (.object "java/time/temporal/TemporalUnit"), accessFlags := 18, slot := 5, constantValue := 0 }, { name := "range", type := (.object "java/time/temporal/ValueRange"), accessFlags := 18, slot := 6, constantValue := 0 }, { name := "displayNameKey", type := (.object "java/lang/String"), accessFlags := 18, slot := 7, constantValue := 0 }, { name := "$VALUES", type := (.array (.object "java/time/temporal/ChronoField")), accessFlags := 4122, slot := 30, constantValue := 0 }]
  methods := #[k15m0, k15m1]
  instanceTypes := #[(.object "java/lang/String"), .int, .int, (.object "java/lang/String"), (.object "java/time/temporal/TemporalUnit"), (.object "java/time/temporal/TemporalUnit"), (.object "java/time/temporal/ValueRange"), (.object "java/lang/String")]
  staticTypes := #[(.object "java/time/temporal/ChronoField"), (.object "java/time/temporal/ChronoField"), (.object "java/time/temporal/ChronoField"), (.object "java/time/temporal/ChronoField"), (.object "java/time/temporal/ChronoField"), (.object "java/time/temporal/ChronoField"), (.object "java/time/temporal/ChronoField"), (.object "java/time/temporal/ChronoField"), (.object "java/time/temporal/ChronoField"), (.object "java/time/temporal/ChronoField"), (.object "java/time/temporal/ChronoField"), (.object "java/time/temporal/ChronoField"), (.object "java/time/temporal/ChronoField"), (.object "java/time/temporal/ChronoField"), (.object "java/time/temporal/ChronoField"), (.object "java/time/temporal/ChronoField"), (.object "java/time/temporal/ChronoField"), (.object "java/time/temporal/ChronoField"), (.object "java/time/temporal/ChronoField"), (.object "java/time/temporal/ChronoField"), (.object "java/time/temporal/ChronoField"), (.object "java/time/temporal/ChronoField"), (.object "java/time/temporal/ChronoField"), (.object "java/time/temporal/ChronoField"), (.object "java/time/temporal/ChronoField"), (.object "java/time/temporal/ChronoField"), (.object "java/time/temporal/ChronoField"), (.object "java/time/temporal/ChronoField"), (.object "java/time/temporal/ChronoField"), (.object "java/time/temporal/ChronoField"), (.array (.object "java/time/temporal/ChronoField"))]
  resolved := Array.replicate 507 none
  statics := some 0 }

def pool16 : Array CpInfo := pool [(9, .class_ 10), (0, u "java/time/temporal/ValueRange"), (18, .class_ 31), (1, u "java/lang/Object"), (1, .fieldref 9 34), (0, .nameAndType 35 36), (0, u "minSmallest"), (0, u "J"), (2, u "minLargest"), (2, u "maxSmallest"), (0, .fieldref 9 44), (0, .nameAndType 45 36), (0, u "maxLargest"), (0, .methodref 9 47), (0, .nameAndType 48 49), (0, u "getMinimum"), (0, u "()J"), (4, .methodref 9 55), (0, .nameAndType 56 49), (0, u "getMaximum"), (6, .methodref 9 64), (0, .nameAndType 65 66), (0, u "isValidValue"), (0, u "(J)Z"), (54, .class_ 122), (0, u "java/io/Serializable"), (0, u "serialVersionUID"), (17, u "checkValidValue"), (0, u "(JLjava/time/temporal/TemporalField;)J")] 24

def k16c0 : Code := { maxStack := 2, maxLocals := 1, code := jdk_2423_method_6_code, exceptionTable := #[], attributes := #[] }
def k16m0 : Method := { name := "getMinimum", desc := "()J", sig := { parameters := [], returnType := some .long }, accessFlags := 1, code := some k16c0 }
def k16c1 : Code := { maxStack := 2, maxLocals := 1, code := jdk_2423_method_9_code, exceptionTable := #[], attributes := #[] }
def k16m1 : Method := { name := "getMaximum", desc := "()J", sig := { parameters := [], returnType := some .long }, accessFlags := 1, code := some k16c1 }
def k16c2 : Code := { maxStack := 4, maxLocals := 3, code := jdk_2423_method_11_code, exceptionTable := #[], attributes := #[] }
def k16m2 : Method := { name := "isValidValue", desc := "(J)Z", sig := { parameters := [.long], returnType := some .boolean }, accessFlags := 1, code := some k16c2 }
def k16c3 : Code := { maxStack := 6, maxLocals := 4, code := jdk_2423_method_13_code, exceptionTable := #[], attributes := #[] }
def k16m3 : Method := { name := "checkValidValue", desc := "(JLjava/time/temporal/TemporalField;)J", sig := { parameters := [.long, (.object "java/time/temporal/TemporalField")], returnType := some .long }, accessFlags := 1, code := some k16c3 }
/-- java/time/temporal/ValueRange -/
def k16 : Class := { plain "java/time/temporal/ValueRange" (some 0) with
  accessFlags := 49
  interfaces := #[10]
  cf := some (fileOf pool16 9 #[] #[{ accessFlags := 1, nameIndex := 48, descriptorIndex := 49, attributes := #[] }, { accessFlags := 1, nameIndex := 56, descriptorIndex := 49, attributes := #[] }, { accessFlags := 1, nameIndex := 65, descriptorIndex := 66, attributes := #[] }, { accessFlags := 1, nameIndex := 141, descriptorIndex := 142, attributes := #[] }] 49 29 #[121] #[{ accessFlags := 26, nameIndex := 123, descriptorIndex := 36, attributes := #[] }, { accessFlags := 18, nameIndex := 35, descriptorIndex := 36, attributes := #[] }, { accessFlags := 18, nameIndex := 39, descriptorIndex := 36, attributes := #[] }, { accessFlags := 18, nameIndex := 42, descriptorIndex := 36, attributes := #[] }, { accessFlags := 18, nameIndex := 45, descriptorIndex := 36, attributes := #[] }])
  fields := #[{ name := "serialVersionUID", type := .long, accessFlags := 26, slot := 0, constantValue := 0 }, { name := "minSmallest", type := .long, accessFlags := 18, slot := 0, constantValue := 0 }, { name := "minLargest", type := .long, accessFlags := 18, slot := 1, constantValue := 0 }, { name := "maxSmallest", type := .long, accessFlags := 18, slot := 2, constantValue := 0 }, { name := "maxLargest", type := .long, accessFlags := 18, slot := 3, constantValue := 0 }]
  methods := #[k16m0, k16m1, k16m2, k16m3]
  instanceTypes := #[.long, .long, .long, .long]
  staticTypes := #[.long]
  resolved := Array.replicate 167 none
  statics := none }

def pool17 : Array CpInfo := pool [(3, .class_ 4), (0, u "com/example/paystage/paystage/Dates"), (1, .class_ 8), (1, u "java/lang/Object"), (0, u "<init>"), (0, u "()V"), (0, .methodref 12 13), (0, .class_ 14), (0, .nameAndType 15 16), (0, u "java/time/LocalDate"), (0, u "getYear"), (0, u "()I"), (0, .methodref 12 18), (0, .nameAndType 19 16), (0, u "getMonthValue"), (0, .methodref 12 21), (0, .nameAndType 22 16), (0, u "getDayOfMonth"), (0, .methodref 3 24), (0, .nameAndType 25 26), (0, u "of"), (0, u "(JII)I"), (0, .integer 2147483648), (0, .integer 4194303), (0, .integer 2147483647), (0, .methodref 3 31), (0, .nameAndType 25 32), (0, u "(Ljava/time/LocalDate;)I"), (32, .long 4194303), (10, u "NEVER"), (0, u "I"), (1, u "DAY_BITS"), (1, u "MONTH_BITS"), (1, u "DAYS"), (1, u "MONTHS"), (1, u "YEAR"), (1, u "FIRST_YEAR"), (1, u "LAST_YEAR"), (0, u "CYCLE_YEARS"), (1, u "CYCLE_DAYS"), (3, u "bounded")] 27

def k17m0 : Method := { name := "<init>", desc := "()V", sig := { parameters := [], returnType := none }, accessFlags := 2, code := none }
def k17c1 : Code := { maxStack := 4, maxLocals := 1, code := prog_23_method_2_code, exceptionTable := #[], attributes := #[] }
def k17m1 : Method := { name := "of", desc := "(Ljava/time/LocalDate;)I", sig := { parameters := [(.object "java/time/LocalDate")], returnType := some .int }, accessFlags := 8, code := some k17c1 }
def k17c2 : Code := { maxStack := 2, maxLocals := 2, code := prog_23_method_3_code, exceptionTable := #[], attributes := #[] }
def k17m2 : Method := { name := "bounded", desc := "(Ljava/time/LocalDate;)I", sig := { parameters := [(.object "java/time/LocalDate")], returnType := some .int }, accessFlags := 8, code := some k17c2 }
def k17c3 : Code := { maxStack := 4, maxLocals := 4, code := prog_23_method_9_code, exceptionTable := #[], attributes := #[] }
def k17m3 : Method := { name := "of", desc := "(JII)I", sig := { parameters := [.long, .int, .int], returnType := some .int }, accessFlags := 10, code := some k17c3 }
/-- com/example/paystage/paystage/Dates -/
def k17 : Class := { plain "com/example/paystage/paystage/Dates" (some 0) with
  accessFlags := 48
  interfaces := #[]
  cf := some (fileOf pool17 3 #[] #[{ accessFlags := 2, nameIndex := 9, descriptorIndex := 10, attributes := #[] }, { accessFlags := 8, nameIndex := 25, descriptorIndex := 32, attributes := #[] }, { accessFlags := 8, nameIndex := 98, descriptorIndex := 32, attributes := #[] }, { accessFlags := 10, nameIndex := 25, descriptorIndex := 26, attributes := #[] }] 48 6 #[] #[{ accessFlags := 24, nameIndex := 76, descriptorIndex := 77, attributes := #[] }, { accessFlags := 26, nameIndex := 79, descriptorIndex := 77, attributes := #[] }, { accessFlags := 26, nameIndex := 81, descriptorIndex := 77, attributes := #[] }, { accessFlags := 26, nameIndex := 83, descriptorIndex := 77, attributes := #[] }, { accessFlags := 26, nameIndex := 85, descriptorIndex := 77, attributes := #[] }, { accessFlags := 26, nameIndex := 87, descriptorIndex := 77, attributes := #[] }, { accessFlags := 26, nameIndex := 89, descriptorIndex := 77, attributes := #[] }, { accessFlags := 26, nameIndex := 91, descriptorIndex := 77, attributes := #[] }, { accessFlags := 26, nameIndex := 92, descriptorIndex := 77, attributes := #[] }, { accessFlags := 26, nameIndex := 94, descriptorIndex := 77, attributes := #[] }])
  fields := #[{ name := "NEVER", type := .int, accessFlags := 24, slot := 0, constantValue := 0 }, { name := "DAY_BITS", type := .int, accessFlags := 26, slot := 1, constantValue := 0 }, { name := "MONTH_BITS", type := .int, accessFlags := 26, slot := 2, constantValue := 0 }, { name := "DAYS", type := .int, accessFlags := 26, slot := 3, constantValue := 0 }, { name := "MONTHS", type := .int, accessFlags := 26, slot := 4, constantValue := 0 }, { name := "YEAR", type := .int, accessFlags := 26, slot := 5, constantValue := 0 }, { name := "FIRST_YEAR", type := .int, accessFlags := 26, slot := 6, constantValue := 0 }, { name := "LAST_YEAR", type := .int, accessFlags := 26, slot := 7, constantValue := 0 }, { name := "CYCLE_YEARS", type := .int, accessFlags := 26, slot := 8, constantValue := 0 }, { name := "CYCLE_DAYS", type := .int, accessFlags := 26, slot := 9, constantValue := 0 }]
  methods := #[k17m0, k17m1, k17m2, k17m3]
  instanceTypes := #[]
  staticTypes := #[.int, .int, .int, .int, .int, .int, .int, .int, .int, .int]
  resolved := Array.replicate 126 none
  statics := none }

def pool18 : Array CpInfo := pool [(4, .class_ 6), (1, u "java/time/temporal/TemporalUnit"), (23, .class_ 31), (0, u "java/lang/Object")] 27

/-- java/time/temporal/TemporalUnit -/
def k18 : Class := { plain "java/time/temporal/TemporalUnit" (some 0) with
  accessFlags := 1537
  interfaces := #[]
  cf := some (fileOf pool18 4 #[] #[] 1537 30 #[] #[])
  fields := #[]
  methods := #[]
  instanceTypes := #[]
  staticTypes := #[]
  resolved := Array.replicate 59 none
  statics := none }

def pool19 : Array CpInfo := pool [(1, .class_ 2), (0, u "java/time/temporal/ChronoUnit"), (2, u "NANOS"), (0, u "Ljava/time/temporal/ChronoUnit;"), (2, u "MICROS"), (2, u "MILLIS"), (2, u "SECONDS"), (2, u "MINUTES"), (2, u "HOURS"), (2, u "HALF_DAYS"), (2, u "DAYS"), (2, u "WEEKS"), (2, u "MONTHS"), (2, u "YEARS"), (2, u "DECADES"), (2, u "CENTURIES"), (2, u "MILLENNIA"), (2, u "ERAS"), (2, u "FOREVER"), (2, u "$VALUES"), (0, u "[Ljava/time/temporal/ChronoUnit;"), (6, .class_ 64), (1, u "java/lang/Enum"), (8, u "name"), (0, u "Ljava/lang/String;"), (2, u "duration"), (0, u "Ljava/time/Duration;"), (117, .class_ 197), (0, u "java/time/temporal/TemporalUnit")] 39

/-- java/time/temporal/ChronoUnit -/
def k19 : Class := { plain "java/time/temporal/ChronoUnit" (some 13) with
  accessFlags := 16433
  interfaces := #[18]
  cf := some (fileOf pool19 1 #[] #[] 16433 62 #[196] #[{ accessFlags := 16409, nameIndex := 5, descriptorIndex := 6, attributes := #[] }, { accessFlags := 16409, nameIndex := 9, descriptorIndex := 6, attributes := #[] }, { accessFlags := 16409, nameIndex := 12, descriptorIndex := 6, attributes := #[] }, { accessFlags := 16409, nameIndex := 15, descriptorIndex := 6, attributes := #[] }, { accessFlags := 16409, nameIndex := 18, descriptorIndex := 6, attributes := #[] }, { accessFlags := 16409, nameIndex := 21, descriptorIndex := 6, attributes := #[] }, { accessFlags := 16409, nameIndex := 24, descriptorIndex := 6, attributes := #[] }, { accessFlags := 16409, nameIndex := 27, descriptorIndex := 6, attributes := #[] }, { accessFlags := 16409, nameIndex := 30, descriptorIndex := 6, attributes := #[] }, { accessFlags := 16409, nameIndex := 33, descriptorIndex := 6, attributes := #[] }, { accessFlags := 16409, nameIndex := 36, descriptorIndex := 6, attributes := #[] }, { accessFlags := 16409, nameIndex := 39, descriptorIndex := 6, attributes := #[] }, { accessFlags := 16409, nameIndex := 42, descriptorIndex := 6, attributes := #[] }, { accessFlags := 16409, nameIndex := 45, descriptorIndex := 6, attributes := #[] }, { accessFlags := 16409, nameIndex := 48, descriptorIndex := 6, attributes := #[] }, { accessFlags := 16409, nameIndex := 51, descriptorIndex := 6, attributes := #[] }, { accessFlags := 18, nameIndex := 73, descriptorIndex := 74, attributes := #[] }, { accessFlags := 18, nameIndex := 77, descriptorIndex := 78, attributes := #[] }, { accessFlags := 4122, nameIndex := 54, descriptorIndex := 55, attributes := #[] }])
  fields := #[{ name := "NANOS", type := (.object "java/time/temporal/ChronoUnit"), accessFlags := 16409, slot := 0, constantValue := 0 }, { name := "MICROS", type := (.object "java/time/temporal/ChronoUnit"), accessFlags := 16409, slot := 1, constantValue := 0 }, { name := "MILLIS", type := (.object "java/time/temporal/ChronoUnit"), accessFlags := 16409, slot := 2, constantValue := 0 }, { name := "SECONDS", type := (.object "java/time/temporal/ChronoUnit"), accessFlags := 16409, slot := 3, constantValue := 0 }, { name := "MINUTES", type := (.object "java/time/temporal/ChronoUnit"), accessFlags := 16409, slot := 4, constantValue := 0 }, { name := "HOURS", type := (.object "java/time/temporal/ChronoUnit"), accessFlags := 16409, slot := 5, constantValue := 0 }, { name := "HALF_DAYS", type := (.object "java/time/temporal/ChronoUnit"), accessFlags := 16409, slot := 6, constantValue := 0 }, { name := "DAYS", type := (.object "java/time/temporal/ChronoUnit"), accessFlags := 16409, slot := 7, constantValue := 0 }, { name := "WEEKS", type := (.object "java/time/temporal/ChronoUnit"), accessFlags := 16409, slot := 8, constantValue := 0 }, { name := "MONTHS", type := (.object "java/time/temporal/ChronoUnit"), accessFlags := 16409, slot := 9, constantValue := 0 }, { name := "YEARS", type := (.object "java/time/temporal/ChronoUnit"), accessFlags := 16409, slot := 10, constantValue := 0 }, { name := "DECADES", type := (.object "java/time/temporal/ChronoUnit"), accessFlags := 16409, slot := 11, constantValue := 0 }, { name := "CENTURIES", type := (.object "java/time/temporal/ChronoUnit"), accessFlags := 16409, slot := 12, constantValue := 0 }, { name := "MILLENNIA", type := (.object "java/time/temporal/ChronoUnit"), accessFlags := 16409, slot := 13, constantValue := 0 }, { name := "ERAS", type := (.object "java/time/temporal/ChronoUnit"), accessFlags := 16409, slot := 14, constantValue := 0 }, { name := "FOREVER", type := (.object "java/time/temporal/ChronoUnit"), accessFlags := 16409, slot := 15, constantValue := 0 }, { name := "name", type := (.object "java/lang/String"), accessFlags := 18, slot := 3, constantValue := 0 }, { name := "duration", type := (.object "java/time/Duration"), accessFlags := 18, slot := 4, constantValue := 0 }, { name := "$VALUES", type := (.array (.object "java/time/temporal/ChronoUnit")), accessFlags := 4122, slot := 16, constantValue := 0 }]
  methods := #[]
  instanceTypes := #[(.object "java/lang/String"), .int, .int, (.object "java/lang/String"), (.object "java/time/Duration")]
  staticTypes := #[(.object "java/time/temporal/ChronoUnit"), (.object "java/time/temporal/ChronoUnit"), (.object "java/time/temporal/ChronoUnit"), (.object "java/time/temporal/ChronoUnit"), (.object "java/time/temporal/ChronoUnit"), (.object "java/time/temporal/ChronoUnit"), (.object "java/time/temporal/ChronoUnit"), (.object "java/time/temporal/ChronoUnit"), (.object "java/time/temporal/ChronoUnit"), (.object "java/time/temporal/ChronoUnit"), (.object "java/time/temporal/ChronoUnit"), (.object "java/time/temporal/ChronoUnit"), (.object "java/time/temporal/ChronoUnit"), (.object "java/time/temporal/ChronoUnit"), (.object "java/time/temporal/ChronoUnit"), (.object "java/time/temporal/ChronoUnit"), (.array (.object "java/time/temporal/ChronoUnit"))]
  resolved := Array.replicate 237 none
  statics := some 1 }

def pool20 : Array CpInfo := pool [(2, .class_ 4), (1, u "java/lang/CharSequence"), (42, .class_ 48), (0, u "java/lang/CharSequence$1CodePointIterator"), (10, .class_ 60), (0, u "java/lang/CharSequence$1CharIterator"), (5, .class_ 67), (0, u "java/lang/Object")] 63

/-- java/lang/CharSequence -/
def k20 : Class := { plain "java/lang/CharSequence" (some 0) with
  accessFlags := 1537
  interfaces := #[]
  cf := some (fileOf pool20 2 #[.nestMembers #[47, 59]] #[] 1537 66 #[] #[])
  fields := #[]
  methods := #[]
  instanceTypes := #[]
  staticTypes := #[]
  resolved := Array.replicate 131 none
  statics := none }

def pool21 : Array CpInfo := pool [(1, .class_ 2), (0, u "java/lang/constant/ConstantDesc"), (0, .class_ 4), (0, u "java/lang/Object")] 32

/-- java/lang/constant/ConstantDesc -/
def k21 : Class := { plain "java/lang/constant/ConstantDesc" (some 0) with
  accessFlags := 1537
  interfaces := #[]
  cf := some (fileOf pool21 1 #[] #[] 1537 3 #[] #[])
  fields := #[]
  methods := #[]
  instanceTypes := #[]
  staticTypes := #[]
  resolved := Array.replicate 37 none
  statics := none }

def pool22 : Array CpInfo := pool [(2, .class_ 4), (1, u "java/lang/Object"), (0, u "<init>"), (0, u "()V"), (3, .class_ 12), (1, u "java/lang/String"), (0, u "value"), (0, u "[B"), (2, u "coder"), (0, u "B"), (2, u "hash"), (0, u "I"), (2, u "hashIsZero"), (0, u "Z"), (13, u "COMPACT_STRINGS"), (534, .class_ 576), (0, u "java/lang/CharSequence"), (22, u "CASE_INSENSITIVE_ORDER"), (0, u "Ljava/util/Comparator;"), (500, u "serialPersistentFields"), (0, u "[Ljava/io/ObjectStreamField;"), (0, .class_ 1104), (0, u "java/lang/String$CaseInsensitiveComparator"), (1, .class_ 1107), (0, u "java/io/Serializable"), (0, .class_ 1109), (0, u "java/lang/Comparable"), (0, .class_ 1111), (0, u "java/lang/constant/Constable"), (0, .class_ 1113), (0, u "java/lang/constant/ConstantDesc"), (2, u "serialVersionUID"), (0, u "J"), (3, u "REPL"), (0, u "C"), (2, u "LATIN1"), (1, u "UTF16")] 323

def k22m0 : Method := { name := "<init>", desc := "()V", sig := { parameters := [], returnType := none }, accessFlags := 1, code := none }
/-- java/lang/String -/
def k22 : Class := { plain "java/lang/String" (some 0) with
  accessFlags := 49
  interfaces := #[10, 8, 20, 12, 21]
  cf := some (fileOf pool22 10 #[.nestMembers #[1103]] #[{ accessFlags := 1, nameIndex := 5, descriptorIndex := 6, attributes := #[] }] 49 2 #[1106, 1108, 575, 1110, 1112] #[{ accessFlags := 18, nameIndex := 13, descriptorIndex := 14, attributes := #[] }, { accessFlags := 18, nameIndex := 17, descriptorIndex := 18, attributes := #[] }, { accessFlags := 2, nameIndex := 21, descriptorIndex := 22, attributes := #[] }, { accessFlags := 2, nameIndex := 25, descriptorIndex := 26, attributes := #[] }, { accessFlags := 26, nameIndex := 1116, descriptorIndex := 1117, attributes := #[] }, { accessFlags := 24, nameIndex := 40, descriptorIndex := 26, attributes := #[] }, { accessFlags := 26, nameIndex := 1101, descriptorIndex := 1102, attributes := #[] }, { accessFlags := 26, nameIndex := 1121, descriptorIndex := 1122, attributes := #[] }, { accessFlags := 25, nameIndex := 599, descriptorIndex := 600, attributes := #[] }, { accessFlags := 24, nameIndex := 1125, descriptorIndex := 18, attributes := #[] }, { accessFlags := 24, nameIndex := 1127, descriptorIndex := 18, attributes := #[] }])
  fields := #[{ name := "value", type := (.array .byte), accessFlags := 18, slot := 0, constantValue := 0 }, { name := "coder", type := .byte, accessFlags := 18, slot := 1, constantValue := 0 }, { name := "hash", type := .int, accessFlags := 2, slot := 2, constantValue := 0 }, { name := "hashIsZero", type := .boolean, accessFlags := 2, slot := 3, constantValue := 0 }, { name := "serialVersionUID", type := .long, accessFlags := 26, slot := 0, constantValue := 0 }, { name := "COMPACT_STRINGS", type := .boolean, accessFlags := 24, slot := 1, constantValue := 0 }, { name := "serialPersistentFields", type := (.array (.object "java/io/ObjectStreamField")), accessFlags := 26, slot := 2, constantValue := 0 }, { name := "REPL", type := .char, accessFlags := 26, slot := 3, constantValue := 0 }, { name := "CASE_INSENSITIVE_ORDER", type := (.object "java/util/Comparator"), accessFlags := 25, slot := 4, constantValue := 0 }, { name := "LATIN1", type := .byte, accessFlags := 24, slot := 5, constantValue := 0 }, { name := "UTF16", type := .byte, accessFlags := 24, slot := 6, constantValue := 0 }]
  methods := #[k22m0]
  instanceTypes := #[(.array .byte), .byte, .int, .boolean]
  staticTypes := #[.long, .boolean, (.array (.object "java/io/ObjectStreamField")), .char, (.object "java/util/Comparator"), .byte, .byte]
  resolved := Array.replicate 1451 none
  statics := none }

def pool23 : Array CpInfo := pool [(1, .class_ 2), (0, u "java/time/temporal/TemporalAmount"), (0, .class_ 4), (0, u "java/lang/Object")] 11

/-- java/time/temporal/TemporalAmount -/
def k23 : Class := { plain "java/time/temporal/TemporalAmount" (some 0) with
  accessFlags := 1537
  interfaces := #[]
  cf := some (fileOf pool23 1 #[] #[] 1537 3 #[] #[])
  fields := #[]
  methods := #[]
  instanceTypes := #[]
  staticTypes := #[]
  resolved := Array.replicate 16 none
  statics := none }

def pool24 : Array CpInfo := pool [(11, .class_ 13), (1, u "java/time/Duration"), (20, u "ZERO"), (0, u "Ljava/time/Duration;"), (13, .class_ 51), (1, u "java/time/temporal/TemporalAmount"), (27, .class_ 81), (1, u "java/time/Duration$Lazy"), (35, u "seconds"), (101, .class_ 220), (0, u "java/lang/Object"), (2, u "J"), (2, u "nanos"), (0, u "I"), (11, .class_ 241), (1, u "java/time/Duration$DurationUnits"), (27, .class_ 271), (1, u "java/time/Duration$1"), (91, u "BI_NANOS_PER_SECOND"), (0, u "Ljava/math/BigInteger;"), (120, .class_ 486), (0, u "java/lang/Comparable"), (0, .class_ 488), (0, u "java/io/Serializable"), (0, u "serialVersionUID")] 166

/-- java/time/Duration -/
def k24 : Class := { plain "java/time/Duration" (some 0) with
  accessFlags := 49
  interfaces := #[23, 8, 10]
  cf := some (fileOf pool24 11 #[.nestMembers #[269, 239, 79]] #[] 49 219 #[49, 485, 487] #[{ accessFlags := 25, nameIndex := 34, descriptorIndex := 35, attributes := #[] }, { accessFlags := 26, nameIndex := 489, descriptorIndex := 223, attributes := #[] }, { accessFlags := 26, nameIndex := 363, descriptorIndex := 364, attributes := #[] }, { accessFlags := 18, nameIndex := 117, descriptorIndex := 223, attributes := #[] }, { accessFlags := 18, nameIndex := 226, descriptorIndex := 227, attributes := #[] }])
  fields := #[{ name := "ZERO", type := (.object "java/time/Duration"), accessFlags := 25, slot := 0, constantValue := 0 }, { name := "serialVersionUID", type := .long, accessFlags := 26, slot := 1, constantValue := 0 }, { name := "BI_NANOS_PER_SECOND", type := (.object "java/math/BigInteger"), accessFlags := 26, slot := 2, constantValue := 0 }, { name := "seconds", type := .long, accessFlags := 18, slot := 0, constantValue := 0 }, { name := "nanos", type := .int, accessFlags := 18, slot := 1, constantValue := 0 }]
  methods := #[]
  instanceTypes := #[.long, .int]
  staticTypes := #[(.object "java/time/Duration"), .long, (.object "java/math/BigInteger")]
  resolved := Array.replicate 656 none
  statics := none }

def pool25 : Array CpInfo := pool [(1, u "java/lang/Cloneable"), (0, .class_ 1), (0, u "java/lang/Object"), (0, .class_ 3)] 3

/-- java/lang/Cloneable -/
def k25 : Class := { plain "java/lang/Cloneable" (some 0) with
  accessFlags := 1537
  interfaces := #[]
  cf := some (fileOf pool25 2 #[] #[] 1537 4 #[] #[])
  fields := #[]
  methods := #[]
  instanceTypes := #[]
  staticTypes := #[]
  resolved := Array.replicate 8 none
  statics := none }

/-- the primitive byte -/
def k26 : Class := { plain "byte" none with kind := .primitive 'B', accessFlags := 0x411 }
/-- [B -/
def k27 : Class := { plain "[B" (some 0) with kind := .array 26 .byte, interfaces := #[25, 10], accessFlags := 1041 }

/-- the primitive int -/
def k28 : Class := { plain "int" none with kind := .primitive 'I', accessFlags := 0x411 }
/-- [I -/
def k29 : Class := { plain "[I" (some 0) with kind := .array 28 .int, interfaces := #[25, 10], accessFlags := 1041 }

def heap : Heap := #[{ cls := 15, slots := #[.null, .null, .null, .null, .null, .null, .null, .null, .null, .null, .null, .null, .null, .null, .null, .null, .null, .null, .ref 24, .null, .null, .null, .null, .ref 15, .null, .null, .ref 2, .null, .null, .null, .null], vm := .statics 15 },
  { cls := 19, slots := #[.null, .null, .null, .null, .null, .null, .null, .ref 27, .null, .ref 18, .ref 5, .null, .null, .null, .null, .ref 9, .null], vm := .statics 19 },
  { cls := 15, slots := #[.ref 3, .int (26), .int 0, .ref 4, .ref 5, .ref 9, .ref 13, .ref 14], vm := .none },
  { cls := 22, slots := #[.null, .int 0, .int 0, .int 0], vm := .none },
  { cls := 22, slots := #[.null, .int 0, .int 0, .int 0], vm := .none },
  { cls := 19, slots := #[.ref 6, .int (10), .int 0, .ref 7, .ref 8], vm := .none },
  { cls := 22, slots := #[.null, .int 0, .int 0, .int 0], vm := .none },
  { cls := 22, slots := #[.null, .int 0, .int 0, .int 0], vm := .none },
  { cls := 24, slots := #[.long 0, .int 0], vm := .none },
  { cls := 19, slots := #[.ref 10, .int (15), .int 0, .ref 11, .ref 12], vm := .none },
  { cls := 22, slots := #[.null, .int 0, .int 0, .int 0], vm := .none },
  { cls := 22, slots := #[.null, .int 0, .int 0, .int 0], vm := .none },
  { cls := 24, slots := #[.long 0, .int 0], vm := .none },
  { cls := 16, slots := #[.long (-999999999), .long (-999999999), .long (999999999), .long (999999999)], vm := .none },
  { cls := 22, slots := #[.null, .int 0, .int 0, .int 0], vm := .none },
  { cls := 15, slots := #[.ref 16, .int (23), .int 0, .ref 17, .ref 18, .ref 5, .ref 22, .ref 23], vm := .none },
  { cls := 22, slots := #[.null, .int 0, .int 0, .int 0], vm := .none },
  { cls := 22, slots := #[.null, .int 0, .int 0, .int 0], vm := .none },
  { cls := 19, slots := #[.ref 19, .int (9), .int 0, .ref 20, .ref 21], vm := .none },
  { cls := 22, slots := #[.null, .int 0, .int 0, .int 0], vm := .none },
  { cls := 22, slots := #[.null, .int 0, .int 0, .int 0], vm := .none },
  { cls := 24, slots := #[.long 0, .int 0], vm := .none },
  { cls := 16, slots := #[.long (1), .long (1), .long (12), .long (12)], vm := .none },
  { cls := 22, slots := #[.null, .int 0, .int 0, .int 0], vm := .none },
  { cls := 15, slots := #[.ref 25, .int (18), .int 0, .ref 26, .ref 27, .ref 18, .ref 31, .ref 32], vm := .none },
  { cls := 22, slots := #[.null, .int 0, .int 0, .int 0], vm := .none },
  { cls := 22, slots := #[.null, .int 0, .int 0, .int 0], vm := .none },
  { cls := 19, slots := #[.ref 28, .int (7), .int 0, .ref 29, .ref 30], vm := .none },
  { cls := 22, slots := #[.null, .int 0, .int 0, .int 0], vm := .none },
  { cls := 22, slots := #[.null, .int 0, .int 0, .int 0], vm := .none },
  { cls := 24, slots := #[.long 0, .int 0], vm := .none },
  { cls := 16, slots := #[.long (1), .long (1), .long (28), .long (31)], vm := .none },
  { cls := 22, slots := #[.null, .int 0, .int 0, .int 0], vm := .none }]
def classes : Array Class := #[k0, k1, k2, k3, k4, k5, k6, k7, k8, k9, k10, k11, k12, k13, k14, k15, k16, k17, k18, k19, k20, k21, k22, k23, k24, k25, k26, k27, k28, k29]
def interned : List (Array UInt16 × Addr) := []
def slotsUsed : Nat := 180
def theMethod : MethodId := ⟨1, 1⟩
def args0 : Array Value := #[.int 5, .int 5, .int 5, .int 5, .int 5, .int 5]
def aboutOver (below : List Frame) : State where
  vm := { classes := classes, interned := interned.toArray }
  heap := heap
  slotsUsed := slotsUsed
  threads := #[{ frames := .invoking theMethod args0 :: below }]
def below0 : List Frame := [.native { method := ⟨0, 0⟩, args := #[] }]
def about1 : State := aboutOver below0
def p0 : Program := .bare "" "" ""
def e0 : Env := launch0.env 0 0 0
theorem w_frames : about1.frames = Frame.invoking theMethod args0 :: below0 := rfl
set_option maxRecDepth 65536 in
theorem w_args : argsFit about1.vm theMethod args0 = true := by decide +kernel
set_option maxRecDepth 65536 in
theorem w_heap : heapFits about1 = true := by decide +kernel
set_option maxRecDepth 65536 in
theorem w_runnable : about1.curStatus? = some .runnable := by decide +kernel
set_option maxRecDepth 65536 in
theorem w_alone : about1.alone = true := by decide +kernel
set_option maxRecDepth 65536 in
theorem w_named : about1.methodNamed? x = some theMethod := by decide +kernel
set_option maxRecDepth 65536 in
theorem w_hears : about1.hears theMethod below0 = true := by decide +kernel
set_option maxRecDepth 65536 in
theorem w_ripe : about1.ripe theMethod args0 below0 = true := by decide +kernel
theorem w_running : about1.status = .running := rfl
set_option maxRecDepth 65536 in
theorem w_room : about1.hasRoom e0.platform room_1 = true :=
  launch0.hasRoom_least _ room_1 (by decide +kernel) (by decide +kernel) (by decide +kernel) (by decide +kernel) (by decide +kernel) (by decide +kernel)
theorem allAtoms_all (ts : List Jvm.Cond) (a : Array Jvm.Value) (st : Jvm.State) : (allAtoms ts).before a st = ts.all (fun c => c.before a st) := by
  induction ts with
  | nil => rfl
  | cons c t ih =>
    show (Jvm.Cond.and c (allAtoms t)).before a st = _
    rw [Jvm.Cond.before_and, ih, List.all_cons]
def words1 : List Jvm.Cond := Jvm.Cond.code x code maxLocals ret :: tables_1
/-- a 'code' word, met by the world's own term for the bytes: nothing is compared byte by byte -/
theorem code_word {y : MethodName} {bytes : ByteArray} {mx : Nat} {rt : Option FieldType} {a : Array Value} {s : State} {m : MethodId} {meth : Method} {c : Code} (h1 : s.methodNamed? y = some m) (h2 : s.vm.method? m = some meth) (h3 : meth.code = some c) (h4 : c.code = bytes)
    (h5 : (c.maxLocals == mx && c.exceptionTable.isEmpty && decide (c.maxStack ≤ mostOperands) && decide (meth.sig.returnType = rt) && !meth.locks && decide (parseMethodDescriptor y.desc = some meth.sig)) = true) : (Jvm.Cond.code y bytes mx rt).before a s = true := by
  simp only [Bool.and_eq_true, beq_iff_eq, Bool.not_eq_true', decide_eq_true_eq] at h5
  obtain ⟨⟨⟨⟨⟨g1, g2⟩, g3⟩, g4⟩, g5⟩, g6⟩ := h5
  simp [Cond.before, Cond.holds, Cond.value, h1, h2, h3, h4, g1, g2, g3, g4, g5, g6]
def isCode : Jvm.Cond → Bool
  | .code _ _ _ _ => true
  | _ => false
theorem all_split {L : List Jvm.Cond} {P : Jvm.Cond → Bool} (h1 : L.all (fun c => isCode c || P c) = true) (h2 : ∀ c ∈ L.filter isCode, P c = true) : L.all P = true := by
  refine List.all_eq_true.mpr fun c hc => ?_
  have h := List.all_eq_true.mp h1 c hc
  rcases Bool.eq_false_or_eq_true (isCode c) with hi | hi
  · exact h2 c (List.mem_filter.mpr ⟨hc, hi⟩)
  · simpa [hi] using h
set_option maxRecDepth 65536 in
theorem w_c0 : (Jvm.Cond.code x code maxLocals ret).before args0 about1 = true := code_word (m := ⟨1, 1⟩) (meth := k1m1) (c := k1c1) (by decide +kernel) rfl rfl rfl (by decide +kernel)
set_option maxRecDepth 65536 in
theorem w_c1 : (Jvm.Cond.code ({ cls := "com/example/paystage/paystage/Course$Span", name := "<init>", desc := "(IILcom/example/paystage/paystage/Course$Changes;Lcom/example/paystage/paystage/Course$Days;I)V" } : Jvm.MethodName) prog_16_method_1_code (6 : Nat) (Option.none : Option Jvm.ClassFile.FieldType)).before args0 about1 = true := code_word (m := ⟨4, 0⟩) (meth := k4m0) (c := k4c0) (by decide +kernel) rfl rfl rfl (by decide +kernel)
set_option maxRecDepth 65536 in
theorem w_c2 : (Jvm.Cond.code ({ cls := "java/lang/Record", name := "<init>", desc := "()V" } : Jvm.MethodName) jdk_30_method_1_code (1 : Nat) (Option.none : Option Jvm.ClassFile.FieldType)).before args0 about1 = true := code_word (m := ⟨2, 0⟩) (meth := k2m0) (c := k2c0) (by decide +kernel) rfl rfl rfl (by decide +kernel)
set_option maxRecDepth 65536 in
theorem w_c3 : (Jvm.Cond.code ({ cls := "java/lang/Object", name := "<init>", desc := "()V" } : Jvm.MethodName) object_method_1_code (1 : Nat) (Option.none : Option Jvm.ClassFile.FieldType)).before args0 about1 = true := code_word (m := ⟨0, 0⟩) (meth := k0m0) (c := k0c0) (by decide +kernel) rfl rfl rfl (by decide +kernel)
set_option maxRecDepth 65536 in
theorem w_c4 : (Jvm.Cond.code ({ cls := "java/time/LocalDate", name := "of", desc := "(III)Ljava/time/LocalDate;" } : Jvm.MethodName) jdk_2323_method_5_code (3 : Nat) (Option.some (Jvm.ClassFile.FieldType.object "java/time/LocalDate"))).before args0 about1 = true := code_word (m := ⟨11, 0⟩) (meth := k11m0) (c := k11c0) (by decide +kernel) rfl rfl rfl (by decide +kernel)
set_option maxRecDepth 65536 in
theorem w_c5 : (Jvm.Cond.code ({ cls := "java/time/temporal/ChronoField", name := "checkValidValue", desc := "(J)J" } : Jvm.MethodName) jdk_2395_method_11_code (3 : Nat) (Option.some Jvm.ClassFile.FieldType.long)).before args0 about1 = true := code_word (m := ⟨15, 1⟩) (meth := k15m1) (c := k15c1) (by decide +kernel) rfl rfl rfl (by decide +kernel)
set_option maxRecDepth 65536 in
theorem w_c6 : (Jvm.Cond.code ({ cls := "java/time/temporal/ChronoField", name := "range", desc := "()Ljava/time/temporal/ValueRange;" } : Jvm.MethodName) jdk_2395_method_8_code (1 : Nat) (Option.some (Jvm.ClassFile.FieldType.object "java/time/temporal/ValueRange"))).before args0 about1 = true := code_word (m := ⟨15, 0⟩) (meth := k15m0) (c := k15c0) (by decide +kernel) rfl rfl rfl (by decide +kernel)
set_option maxRecDepth 65536 in
theorem w_c7 : (Jvm.Cond.code ({ cls := "java/time/temporal/ValueRange", name := "checkValidValue", desc := "(JLjava/time/temporal/TemporalField;)J" } : Jvm.MethodName) jdk_2423_method_13_code (4 : Nat) (Option.some Jvm.ClassFile.FieldType.long)).before args0 about1 = true := code_word (m := ⟨16, 3⟩) (meth := k16m3) (c := k16c3) (by decide +kernel) rfl rfl rfl (by decide +kernel)
set_option maxRecDepth 65536 in
theorem w_c8 : (Jvm.Cond.code ({ cls := "java/time/temporal/ValueRange", name := "isValidValue", desc := "(J)Z" } : Jvm.MethodName) jdk_2423_method_11_code (3 : Nat) (Option.some Jvm.ClassFile.FieldType.boolean)).before args0 about1 = true := code_word (m := ⟨16, 2⟩) (meth := k16m2) (c := k16c2) (by decide +kernel) rfl rfl rfl (by decide +kernel)
set_option maxRecDepth 65536 in
theorem w_c9 : (Jvm.Cond.code ({ cls := "java/time/temporal/ValueRange", name := "getMinimum", desc := "()J" } : Jvm.MethodName) jdk_2423_method_6_code (1 : Nat) (Option.some Jvm.ClassFile.FieldType.long)).before args0 about1 = true := code_word (m := ⟨16, 0⟩) (meth := k16m0) (c := k16c0) (by decide +kernel) rfl rfl rfl (by decide +kernel)
set_option maxRecDepth 65536 in
theorem w_c10 : (Jvm.Cond.code ({ cls := "java/time/temporal/ValueRange", name := "getMaximum", desc := "()J" } : Jvm.MethodName) jdk_2423_method_9_code (1 : Nat) (Option.some Jvm.ClassFile.FieldType.long)).before args0 about1 = true := code_word (m := ⟨16, 1⟩) (meth := k16m1) (c := k16c1) (by decide +kernel) rfl rfl rfl (by decide +kernel)
set_option maxRecDepth 65536 in
theorem w_c11 : (Jvm.Cond.code ({ cls := "java/time/LocalDate", name := "create", desc := "(III)Ljava/time/LocalDate;" } : Jvm.MethodName) jdk_2323_method_12_code (4 : Nat) (Option.some (Jvm.ClassFile.FieldType.object "java/time/LocalDate"))).before args0 about1 = true := code_word (m := ⟨11, 1⟩) (meth := k11m1) (c := k11c1) (by decide +kernel) rfl rfl rfl (by decide +kernel)
set_option maxRecDepth 65536 in
theorem w_c12 : (Jvm.Cond.code ({ cls := "java/time/LocalDate", name := "<init>", desc := "(III)V" } : Jvm.MethodName) jdk_2323_method_14_code (4 : Nat) (Option.none : Option Jvm.ClassFile.FieldType)).before args0 about1 = true := code_word (m := ⟨11, 2⟩) (meth := k11m2) (c := k11c2) (by decide +kernel) rfl rfl rfl (by decide +kernel)
set_option maxRecDepth 65536 in
theorem w_c13 : (Jvm.Cond.code ({ cls := "com/example/paystage/paystage/Course$Span", name := "covers", desc := "(Ljava/time/LocalDate;)Z" } : Jvm.MethodName) prog_16_method_2_code (2 : Nat) (Option.some Jvm.ClassFile.FieldType.boolean)).before args0 about1 = true := code_word (m := ⟨4, 1⟩) (meth := k4m1) (c := k4c1) (by decide +kernel) rfl rfl rfl (by decide +kernel)
set_option maxRecDepth 65536 in
theorem w_c14 : (Jvm.Cond.code ({ cls := "com/example/paystage/paystage/Dates", name := "bounded", desc := "(Ljava/time/LocalDate;)I" } : Jvm.MethodName) prog_23_method_3_code (2 : Nat) (Option.some Jvm.ClassFile.FieldType.int)).before args0 about1 = true := code_word (m := ⟨17, 2⟩) (meth := k17m2) (c := k17c2) (by decide +kernel) rfl rfl rfl (by decide +kernel)
set_option maxRecDepth 65536 in
theorem w_c15 : (Jvm.Cond.code ({ cls := "java/time/LocalDate", name := "getYear", desc := "()I" } : Jvm.MethodName) jdk_2323_method_24_code (1 : Nat) (Option.some Jvm.ClassFile.FieldType.int)).before args0 about1 = true := code_word (m := ⟨11, 3⟩) (meth := k11m3) (c := k11c3) (by decide +kernel) rfl rfl rfl (by decide +kernel)
set_option maxRecDepth 65536 in
theorem w_c16 : (Jvm.Cond.code ({ cls := "com/example/paystage/paystage/Dates", name := "of", desc := "(Ljava/time/LocalDate;)I" } : Jvm.MethodName) prog_23_method_2_code (1 : Nat) (Option.some Jvm.ClassFile.FieldType.int)).before args0 about1 = true := code_word (m := ⟨17, 1⟩) (meth := k17m1) (c := k17c1) (by decide +kernel) rfl rfl rfl (by decide +kernel)
set_option maxRecDepth 65536 in
theorem w_c17 : (Jvm.Cond.code ({ cls := "java/time/LocalDate", name := "getMonthValue", desc := "()I" } : Jvm.MethodName) jdk_2323_method_25_code (1 : Nat) (Option.some Jvm.ClassFile.FieldType.int)).before args0 about1 = true := code_word (m := ⟨11, 4⟩) (meth := k11m4) (c := k11c4) (by decide +kernel) rfl rfl rfl (by decide +kernel)
set_option maxRecDepth 65536 in
theorem w_c18 : (Jvm.Cond.code ({ cls := "java/time/LocalDate", name := "getDayOfMonth", desc := "()I" } : Jvm.MethodName) jdk_2323_method_27_code (1 : Nat) (Option.some Jvm.ClassFile.FieldType.int)).before args0 about1 = true := code_word (m := ⟨11, 5⟩) (meth := k11m5) (c := k11c5) (by decide +kernel) rfl rfl rfl (by decide +kernel)
set_option maxRecDepth 65536 in
theorem w_c19 : (Jvm.Cond.code ({ cls := "com/example/paystage/paystage/Dates", name := "of", desc := "(JII)I" } : Jvm.MethodName) prog_23_method_9_code (4 : Nat) (Option.some Jvm.ClassFile.FieldType.int)).before args0 about1 = true := code_word (m := ⟨17, 3⟩) (meth := k17m3) (c := k17c3) (by decide +kernel) rfl rfl rfl (by decide +kernel)
set_option maxRecDepth 65536 in
theorem w_c20 : (Jvm.Cond.code ({ cls := "com/example/paystage/paystage/Course$Span", name := "covers", desc := "(I)Z" } : Jvm.MethodName) prog_16_method_3_code (2 : Nat) (Option.some Jvm.ClassFile.FieldType.boolean)).before args0 about1 = true := code_word (m := ⟨4, 2⟩) (meth := k4m2) (c := k4c2) (by decide +kernel) rfl rfl rfl (by decide +kernel)
def codes1 : List Jvm.Cond := [Jvm.Cond.code x code maxLocals ret, Jvm.Cond.code ({ cls := "com/example/paystage/paystage/Course$Span", name := "<init>", desc := "(IILcom/example/paystage/paystage/Course$Changes;Lcom/example/paystage/paystage/Course$Days;I)V" } : Jvm.MethodName) prog_16_method_1_code (6 : Nat) (Option.none : Option Jvm.ClassFile.FieldType), Jvm.Cond.code ({ cls := "java/lang/Record", name := "<init>", desc := "()V" } : Jvm.MethodName) jdk_30_method_1_code (1 : Nat) (Option.none : Option Jvm.ClassFile.FieldType), Jvm.Cond.code ({ cls := "java/lang/Object", name := "<init>", desc := "()V" } : Jvm.MethodName) object_method_1_code (1 : Nat) (Option.none : Option Jvm.ClassFile.FieldType), Jvm.Cond.code ({ cls := "java/time/LocalDate", name := "of", desc := "(III)Ljava/time/LocalDate;" } : Jvm.MethodName) jdk_2323_method_5_code (3 : Nat) (Option.some (Jvm.ClassFile.FieldType.object "java/time/LocalDate")), Jvm.Cond.code ({ cls := "java/time/temporal/ChronoField", name := "checkValidValue", desc := "(J)J" } : Jvm.MethodName) jdk_2395_method_11_code (3 : Nat) (Option.some Jvm.ClassFile.FieldType.long), Jvm.Cond.code ({ cls := "java/time/temporal/ChronoField", name := "range", desc := "()Ljava/time/temporal/ValueRange;" } : Jvm.MethodName) jdk_2395_method_8_code (1 : Nat) (Option.some (Jvm.ClassFile.FieldType.object "java/time/temporal/ValueRange")), Jvm.Cond.code ({ cls := "java/time/temporal/ValueRange", name := "checkValidValue", desc := "(JLjava/time/temporal/TemporalField;)J" } : Jvm.MethodName) jdk_2423_method_13_code (4 : Nat) (Option.some Jvm.ClassFile.FieldType.long), Jvm.Cond.code ({ cls := "java/time/temporal/ValueRange", name := "isValidValue", desc := "(J)Z" } : Jvm.MethodName) jdk_2423_method_11_code (3 : Nat) (Option.some Jvm.ClassFile.FieldType.boolean), Jvm.Cond.code ({ cls := "java/time/temporal/ValueRange", name := "getMinimum", desc := "()J" } : Jvm.MethodName) jdk_2423_method_6_code (1 : Nat) (Option.some Jvm.ClassFile.FieldType.long), Jvm.Cond.code ({ cls := "java/time/temporal/ValueRange", name := "getMaximum", desc := "()J" } : Jvm.MethodName) jdk_2423_method_9_code (1 : Nat) (Option.some Jvm.ClassFile.FieldType.long), Jvm.Cond.code ({ cls := "java/time/LocalDate", name := "create", desc := "(III)Ljava/time/LocalDate;" } : Jvm.MethodName) jdk_2323_method_12_code (4 : Nat) (Option.some (Jvm.ClassFile.FieldType.object "java/time/LocalDate")), Jvm.Cond.code ({ cls := "java/time/LocalDate", name := "<init>", desc := "(III)V" } : Jvm.MethodName) jdk_2323_method_14_code (4 : Nat) (Option.none : Option Jvm.ClassFile.FieldType), Jvm.Cond.code ({ cls := "com/example/paystage/paystage/Course$Span", name := "covers", desc := "(Ljava/time/LocalDate;)Z" } : Jvm.MethodName) prog_16_method_2_code (2 : Nat) (Option.some Jvm.ClassFile.FieldType.boolean), Jvm.Cond.code ({ cls := "com/example/paystage/paystage/Dates", name := "bounded", desc := "(Ljava/time/LocalDate;)I" } : Jvm.MethodName) prog_23_method_3_code (2 : Nat) (Option.some Jvm.ClassFile.FieldType.int), Jvm.Cond.code ({ cls := "java/time/LocalDate", name := "getYear", desc := "()I" } : Jvm.MethodName) jdk_2323_method_24_code (1 : Nat) (Option.some Jvm.ClassFile.FieldType.int), Jvm.Cond.code ({ cls := "com/example/paystage/paystage/Dates", name := "of", desc := "(Ljava/time/LocalDate;)I" } : Jvm.MethodName) prog_23_method_2_code (1 : Nat) (Option.some Jvm.ClassFile.FieldType.int), Jvm.Cond.code ({ cls := "java/time/LocalDate", name := "getMonthValue", desc := "()I" } : Jvm.MethodName) jdk_2323_method_25_code (1 : Nat) (Option.some Jvm.ClassFile.FieldType.int), Jvm.Cond.code ({ cls := "java/time/LocalDate", name := "getDayOfMonth", desc := "()I" } : Jvm.MethodName) jdk_2323_method_27_code (1 : Nat) (Option.some Jvm.ClassFile.FieldType.int), Jvm.Cond.code ({ cls := "com/example/paystage/paystage/Dates", name := "of", desc := "(JII)I" } : Jvm.MethodName) prog_23_method_9_code (4 : Nat) (Option.some Jvm.ClassFile.FieldType.int), Jvm.Cond.code ({ cls := "com/example/paystage/paystage/Course$Span", name := "covers", desc := "(I)Z" } : Jvm.MethodName) prog_16_method_3_code (2 : Nat) (Option.some Jvm.ClassFile.FieldType.boolean)]
set_option maxRecDepth 65536 in
theorem codes_eq : words1.filter isCode = codes1 := rfl
theorem w_codes : ∀ c ∈ words1.filter isCode, c.before args0 about1 = true := by
  rw [codes_eq]
  intro c hc
  simp only [codes1, List.mem_cons, List.not_mem_nil, or_false] at hc
  rcases hc with rfl | rfl | rfl | rfl | rfl | rfl | rfl | rfl | rfl | rfl | rfl | rfl | rfl | rfl | rfl | rfl | rfl | rfl | rfl | rfl | rfl
  · exact w_c0
  · exact w_c1
  · exact w_c2
  · exact w_c3
  · exact w_c4
  · exact w_c5
  · exact w_c6
  · exact w_c7
  · exact w_c8
  · exact w_c9
  · exact w_c10
  · exact w_c11
  · exact w_c12
  · exact w_c13
  · exact w_c14
  · exact w_c15
  · exact w_c16
  · exact w_c17
  · exact w_c18
  · exact w_c19
  · exact w_c20
set_option maxRecDepth 65536 in
theorem w_t1 : (words1.take 24).all (fun c => isCode c || c.before args0 about1) = true := by decide +kernel
set_option maxRecDepth 65536 in
theorem w_t2 : ((words1.drop 24).take 24).all (fun c => isCode c || c.before args0 about1) = true := by decide +kernel
set_option maxRecDepth 65536 in
theorem w_t3 : (((words1.drop 24).drop 24).take 24).all (fun c => isCode c || c.before args0 about1) = true := by decide +kernel
set_option maxRecDepth 65536 in
theorem w_t4 : ((((words1.drop 24).drop 24).drop 24).take 24).all (fun c => isCode c || c.before args0 about1) = true := by decide +kernel
set_option maxRecDepth 65536 in
theorem w_t5 : (((((words1.drop 24).drop 24).drop 24).drop 24).take 24).all (fun c => isCode c || c.before args0 about1) = true := by decide +kernel
set_option maxRecDepth 65536 in
theorem w_t6 : (((((words1.drop 24).drop 24).drop 24).drop 24).drop 24).all (fun c => isCode c || c.before args0 about1) = true := by decide +kernel
theorem w_tables : (allAtoms (Jvm.Cond.code x code maxLocals ret :: tables_1)).before args0 about1 = true := by
  rw [allAtoms_all]
  show words1.all (fun c => c.before args0 about1) = true
  refine all_split ?_ w_codes
  rw [← List.take_append_drop 24 words1, List.all_append, w_t1, ← List.take_append_drop 24 (words1.drop 24), List.all_append, w_t2, ← List.take_append_drop 24 ((words1.drop 24).drop 24), List.all_append, w_t3, ← List.take_append_drop 24 (((words1.drop 24).drop 24).drop 24), List.all_append, w_t4, ← List.take_append_drop 24 ((((words1.drop 24).drop 24).drop 24).drop 24), List.all_append, w_t5, w_t6]
  rfl
set_option maxRecDepth 65536 in
theorem w_rest : rest_1_c.before args0 about1 = true := by decide +kernel
set_option maxRecDepth 65536 in
theorem w_case : (Jvm.Cond.and given_1 narrow_1).before args0 about1 = true := by decide +kernel
theorem w_applies : (headSpec (Jvm.Cond.code x code maxLocals ret :: tables_1) room_1).applies x e0.platform about1 = true :=
  (Spec.applies_iff w_frames).mpr ⟨w_running, w_runnable, w_alone, w_named, w_hears, w_ripe, w_room, w_tables⟩
theorem atStart : AtStart classFile x code maxLocals ret World_1 tables_1 room_1 Calls_1 rest_1 Pre_1 launch0 p0 e0 about1 theMethod args0 below0 :=
  ⟨lists_1, trivial, launch0.admits_env _ _ _, launch0.least_env, fairChoices_fair.cas, fairChoices_fair.clock, w_frames, w_args, w_heap, w_applies, trivial, w_rest, w_case⟩
end start1
theorem witness_1 : WitnessClaimed_1 := ⟨start1.p0, start1.e0, start1.about1, start1.theMethod, start1.args0, start1.below0, start1.atStart⟩
end Jvm.Pilot.@@N@@
