import JvmDerived
import JvmDerived.Pilot.@@N@@Statement
import JvmDerived.Pilot.@@N@@Code
set_option linter.unusedVariables false
set_option linter.unusedSimpArgs false
namespace Jvm.OwnW
open Sem ClassFile Op Lib Jvm.Stand Jvm.Free Jvm.LawKit Jvm.RoadKit
/-- what a walk knows of its method and of the run -/
def Cx (p : Program) (s : State) (m : MethodId) (meth : Method) (c : Code) (Z : State) (y : MethodName) (bs : ByteArray) (ml : Nat) (ret : Option FieldType) : Prop :=
  p.tables.exec = Jvm.exec ∧ c.code = bs ∧ c.maxLocals = ml ∧ s.vm.findClass y.cls = some m.cls ∧ meth.name = y.name ∧ meth.sig.returnType = ret ∧ meth.locks = false ∧ Z.Warmed39 s.vm
/-- from the state u the body comes to its end, returns v and leaves the heap as Q says; it wrote cells from n0 on alone -/
def Runs (p : Program) (e : Env) (below : List Frame) (s : State) (R : Room) (n0 : Nat) (Q : Option Value → Heap → Prop) (u : State) : Prop :=
  ∃ s₂ o, Steps p.tables e below u s₂ ∧ s₂.status = .running ∧ Ended s₂ below o ∧ ∃ v Ls, o = .returned v ∧ (Q v s₂.heap ∧ Fr n0 Ls) ∧ FrameEnd s o s₂ Ls R.cells R.slots
/-- from pc with these locals and this stack, the heap being h, k cells and n slots made so far: the body ends as Q says -/
def Go (l : Launch) (Z : State) (R : Room) (y : MethodName) (bs : ByteArray) (ml : Nat) (ret : Option FieldType) (n0 : Nat) (Q : Option Value → Heap → Prop) (h : Heap) (k n : Nat) (pc : Nat) (L : Array Slot) (St : List Value) : Prop :=
  ∀ (p : Program) (e : Env) (s : State) (m : MethodId) (args : Array Value) (below : List Frame) (meth : Method) (c : Code) (T : State) (locs : List Loc),
    Cx p s m meth c Z y bs ml ret → Stand p l e R s m args below meth c T locs k n → Fr n0 locs → T.heap = h → Runs p e below s R n0 Q (T.setTop (mkF m pc L St))
/-- it returns r, the heap as it was -/
def Ret (r : Option Value) (h0 : Heap) : Option Value → Heap → Prop := fun v h => v = r ∧ h0 = h
/-- the law says 1 -/
def One1 : Option Value → Heap → Prop := fun v _ => v = some (.int 1)
/-- the body's contract -/
def Con (l : Launch) (Z : State) (R : Room) (y : MethodName) (bs : ByteArray) (ml : Nat) (ret : Option FieldType) (n0 : Nat) (as' : Array Value) (h : Heap) (Q : Option Value → Heap → Prop) : Prop :=
  ∀ ws, MetFree l y (head1 (Jvm.Cond.code y bs ml ret :: ws) R) (fun a U => a = as' ∧ Z.Warmed39 U.vm ∧ U.heap = h) (fun _ _ _ _ _ => True) (fun _ U o U' => ∃ v Ls, o = .returned v ∧ (Q v U'.heap ∧ Fr n0 Ls) ∧ FrameEnd U o U' Ls R.cells R.slots)
theorem Runs.thru {p : Program} {e : Env} {below : List Frame} {s : State} {R : Room} {n0 : Nat} {Q : Option Value → Heap → Prop} {u u' : State} (q : Runs p e below s R n0 Q u') (st : ∀ t, Steps p.tables e below u' t → Steps p.tables e below u t) : Runs p e below s R n0 Q u := by
  obtain ⟨s₂, o, h1, r⟩ := q
  exact ⟨s₂, o, st _ h1, r⟩
/-- what stood in h0 stands in h -/
theorem ext_refl (h : Heap) : Ext h h := ⟨Nat.le_refl _, fun _ _ q => q⟩
theorem ext_trans {h0 h h' : Heap} (X : Ext h0 h) (E : Ext h h') : Ext h0 h' := ⟨Nat.le_trans X.1 E.1, fun a c q => E.2 a c (X.2 a c q)⟩
theorem ext_keep {h0 h h' : Heap} {ws : List Addr} (X : Ext h0 h) (K : Keep h h' ws) (q : ∀ x ∈ ws, h0.size ≤ x) : Ext h0 h' :=
  ⟨Nat.le_trans X.1 K.1, fun a c r => K.2.1 a c (X.2 a c r) fun z => absurd (Array.getElem?_eq_some_iff.mp r).1 (Nat.not_lt.mpr (q a z))⟩
theorem ext_wr {h0 h h' : Heap} {a : Addr} {sl : Nat} {v : Value} (X : Ext h0 h) (W : Wr h h' a sl v) (q : h0.size ≤ a) : Ext h0 h' := ext_keep X (Keep.of_wr W) (allS q all0)
theorem exa_ns {Z : State} {h : Heap} {a : Addr} {C : String} (E : Exa Z h a C) : ∀ c : Cell, h[a]? = some c → c.vm.isStatics = false := fun c q => by
  obtain ⟨cell, k, h1, -, -, h4, -⟩ := E
  cases h1.symm.trans q
  exact h4
theorem sta_keep {Z : State} {h h' : Heap} {C n d : String} {w : Value} {ws : List Addr} (F : Sta Z h C n d w) (K : Keep h h' ws) (q : ∀ x ∈ ws, ∀ c : Cell, h[x]? = some c → c.vm.isStatics = false) : Sta Z h' C n d w := by
  obtain ⟨cf, i, k, f, st, cell, h1, h2, h3, h4, h5, h6, h7⟩ := F
  exact ⟨cf, i, k, f, st, cell, h1, h2, h3, h4, K.2.1 st cell h5 (fun m => by have r := q st m cell h5; rw [h6] at r; cases r), h6, h7⟩
theorem eqI {args : Array Value} {first s : State} {o : Option Outcome} {idx : List Nat} {a b : Term} {k : Int32} (h : (Cond.eq a b).value args first o s idx = some true) (hb : b.eval args first o idx s = some (.int k)) : a.eval args first o idx s = some (.int k) := by
  obtain ⟨x, z, e1, e2, k1, k2⟩ := cmp_v (Or.inl h)
  cases hb.symm.trans e2
  obtain ⟨w, rfl⟩ := k2
  have h' := h
  simp only [Cond.value, e1, hb, Option.some.injEq, decide_eq_true_eq] at h'
  rw [e1, h']
theorem eqJ {args : Array Value} {first s : State} {o : Option Outcome} {idx : List Nat} {a b : Term} {k : Int64} (h : (Cond.eq a b).value args first o s idx = some true) (hb : b.eval args first o idx s = some (.long k)) : a.eval args first o idx s = some (.long k) := by
  obtain ⟨x, z, e1, e2, k1, k2⟩ := cmp_v (Or.inl h)
  cases hb.symm.trans e2
  obtain ⟨w, rfl⟩ := k2
  have h' := h
  simp only [Cond.value, e1, hb, Option.some.injEq, decide_eq_true_eq] at h'
  rw [e1, h']
theorem arrClass {Z : State} {a0 : Array Value} {C : String} (w : (Cond.arrayOver (.object C)).before a0 Z = true) : (Cond.arrayClass (.object C)).before a0 Z = true := by
  obtain ⟨comp, c, k, -, -, h3, h4, h5⟩ := Cond.arrayOver_spec w
  simp [Cond.before, Cond.holds, Cond.value, h5, h3, h4]
theorem ovrOf {Z : State} {a0 : Array Value} {C : String} {cI : ClassId} (w : (Cond.arrayOver (.object C)).before a0 Z = true) (h : Z.vm.findClass (FieldType.array (.object C)).toString = some cI) : Ovr Z cI C := by
  obtain ⟨comp, c, k, h1, -, h3, h4, h5⟩ := Cond.arrayOver_spec w
  have e : (FieldType.array (.object C)).toString = "[" ++ (FieldType.object C).toString := rfl
  rw [e, h5] at h
  cases h
  exact ⟨k, comp, h3, h4, h1⟩
section Laws
variable {l : Launch} {Z : State} {R : Room} {y : MethodName} {bs : ByteArray} {ml : Nat} {ret : Option FieldType} {n0 : Nat} {Q : Option Value → Heap → Prop} {h : Heap} {k n : Nat} {k' n' : Nat} {pc pc' : Nat} {L L' : Array Slot} {St : List Value} {a0 : Array Value}
theorem Con.of {as' : Array Value} (pn : plainFor y = true) (ef : ∀ m, entryFrame m as' ml = mkF m 0 L []) (b : Go l Z R y bs ml ret n0 Q h 0 0 0 L []) : Con l Z R y bs ml ret n0 as' h Q := by
  intro ws
  refine MetFree.of_bodySF pn hisR ?_
  intro p e s m args below meth c s₁ Bd hml0 hP hK
  obtain ⟨rfl, hZ, hh⟩ := hP
  have X0 : Stand p l e R s m args below meth c s₁ [] 0 0 := Stand.of_body Bd
  have e0 : s₁.heap = h := by rw [← hh, Bd.state]; rfl
  have q := b p e s m args below meth c s₁ [] ⟨Bd.exec, Bd.bytes, hml0, findClass_of_methodNamed Bd.named, (name_of_methodNamed Bd.named Bd.method).1, Bd.returns, Bd.notSynchronized, hZ⟩ X0 (Fr.nil n0) e0
  rw [← ef m] at q
  exact q
theorem Con.mono {as' : Array Value} {Q' : Option Value → Heap → Prop} (q : Con l Z R y bs ml ret n0 as' h Q) (i : ∀ v h', Q v h' → Q' v h') : Con l Z R y bs ml ret n0 as' h Q' := by
  intro ws p e ha hc hk s m args below hf happ hP hK
  obtain ⟨s₂, o, h1, h2, h3, v, Ls, h4, ⟨h5, h6⟩, h7⟩ := q ws p e ha hc hk s m args below hf happ hP hK
  exact ⟨s₂, o, h1, h2, h3, v, Ls, h4, ⟨i _ _ h5, h6⟩, h7⟩
/-- the same, the heap's name turned -/
theorem Go.cast {h' : Heap} (e : h' = h) (q : Go l Z R y bs ml ret n0 Q h' k n pc L St) : Go l Z R y bs ml ret n0 Q h k n pc L St := e ▸ q
theorem Go.more {k' n' : Nat} (hk : k ≤ k') (hn : n ≤ n') (q : Go l Z R y bs ml ret n0 Q h k' n' pc L St) : Go l Z R y bs ml ret n0 Q h k n pc L St := fun p e s m args below meth c T locs C X N eT => q p e s m args below meth c T locs C (X.mono hk hn) N eT
theorem Go.frm {St' : List Value} (q : Go l Z R y bs ml ret n0 Q h k n pc L' St') (e1 : L = L') (e2 : St = St') : Go l Z R y bs ml ret n0 Q h k n pc L St := by subst e1 e2; exact q

theorem iload {i : Nat} {v : Int32} (hd : decode bs pc = .ok (.iload i, 2)) (hl : L[i]? = some (.val (.int v))) (hp : pc + 2 = pc') (kt : Go l Z R y bs ml ret n0 Q h k n pc' L (.int v :: St)) : Go l Z R y bs ml ret n0 Q h k n pc L St := by
  subst hp
  intro p e s m args below meth c T locs C X N eT
  exact (kt p e s m args below meth c T locs C X N eT).thru fun t q => XS.iload X.here C.1 rfl (hb C.2.1 hd) hl q
theorem iloadN {i : Fin 4} {v : Int32} (hd : decode bs pc = .ok (.iload_n i, 1)) (hl : L[i.val]? = some (.val (.int v))) (hp : pc + 1 = pc') (kt : Go l Z R y bs ml ret n0 Q h k n pc' L (.int v :: St)) : Go l Z R y bs ml ret n0 Q h k n pc L St := by
  subst hp
  intro p e s m args below meth c T locs C X N eT
  exact (kt p e s m args below meth c T locs C X N eT).thru fun t q => XS.iloadN X.here C.1 rfl (hb C.2.1 hd) hl q
theorem istore {i : Nat} {v : Int32} (hd : decode bs pc = .ok (.istore i, 2)) (hl : storeLocals L i (.int v) = some L') (hp : pc + 2 = pc') (kt : Go l Z R y bs ml ret n0 Q h k n pc' L' St) : Go l Z R y bs ml ret n0 Q h k n pc L (.int v :: St) := by
  subst hp
  intro p e s m args below meth c T locs C X N eT
  exact (kt p e s m args below meth c T locs C X N eT).thru fun t q => XS.istore X.here C.1 rfl (hb C.2.1 hd) rfl hl q
theorem istoreN {i : Fin 4} {v : Int32} (hd : decode bs pc = .ok (.istore_n i, 1)) (hl : storeLocals L i.val (.int v) = some L') (hp : pc + 1 = pc') (kt : Go l Z R y bs ml ret n0 Q h k n pc' L' St) : Go l Z R y bs ml ret n0 Q h k n pc L (.int v :: St) := by
  subst hp
  intro p e s m args below meth c T locs C X N eT
  exact (kt p e s m args below meth c T locs C X N eT).thru fun t q => XS.istoreN X.here C.1 rfl (hb C.2.1 hd) rfl hl q
theorem lload {i : Nat} {v : Int64} (hd : decode bs pc = .ok (.lload i, 2)) (hl : L[i]? = some (.val (.long v))) (hp : pc + 2 = pc') (kt : Go l Z R y bs ml ret n0 Q h k n pc' L (.long v :: St)) : Go l Z R y bs ml ret n0 Q h k n pc L St := by
  subst hp
  intro p e s m args below meth c T locs C X N eT
  exact (kt p e s m args below meth c T locs C X N eT).thru fun t q => XS.lload X.here C.1 rfl (hb C.2.1 hd) hl q
theorem lloadN {i : Fin 4} {v : Int64} (hd : decode bs pc = .ok (.lload_n i, 1)) (hl : L[i.val]? = some (.val (.long v))) (hp : pc + 1 = pc') (kt : Go l Z R y bs ml ret n0 Q h k n pc' L (.long v :: St)) : Go l Z R y bs ml ret n0 Q h k n pc L St := by
  subst hp
  intro p e s m args below meth c T locs C X N eT
  exact (kt p e s m args below meth c T locs C X N eT).thru fun t q => XS.lloadN X.here C.1 rfl (hb C.2.1 hd) hl q
theorem lstore {i : Nat} {v : Int64} (hd : decode bs pc = .ok (.lstore i, 2)) (hl : storeLocals L i (.long v) = some L') (hp : pc + 2 = pc') (kt : Go l Z R y bs ml ret n0 Q h k n pc' L' St) : Go l Z R y bs ml ret n0 Q h k n pc L (.long v :: St) := by
  subst hp
  intro p e s m args below meth c T locs C X N eT
  exact (kt p e s m args below meth c T locs C X N eT).thru fun t q => XS.lstore X.here C.1 rfl (hb C.2.1 hd) rfl hl q
theorem lstoreN {i : Fin 4} {v : Int64} (hd : decode bs pc = .ok (.lstore_n i, 1)) (hl : storeLocals L i.val (.long v) = some L') (hp : pc + 1 = pc') (kt : Go l Z R y bs ml ret n0 Q h k n pc' L' St) : Go l Z R y bs ml ret n0 Q h k n pc L (.long v :: St) := by
  subst hp
  intro p e s m args below meth c T locs C X N eT
  exact (kt p e s m args below meth c T locs C X N eT).thru fun t q => XS.lstoreN X.here C.1 rfl (hb C.2.1 hd) rfl hl q
theorem aload {i : Nat} {v : Value} (hd : decode bs pc = .ok (.aload i, 2)) (hl : L[i]? = some (.val v)) (hv : v.isRef = true) (hp : pc + 2 = pc') (kt : Go l Z R y bs ml ret n0 Q h k n pc' L (v :: St)) : Go l Z R y bs ml ret n0 Q h k n pc L St := by
  subst hp
  intro p e s m args below meth c T locs C X N eT
  exact (kt p e s m args below meth c T locs C X N eT).thru fun t q => XS.aload X.here C.1 rfl (hb C.2.1 hd) hl hv q
theorem aloadN {i : Fin 4} {v : Value} (hd : decode bs pc = .ok (.aload_n i, 1)) (hl : L[i.val]? = some (.val v)) (hv : v.isRef = true) (hp : pc + 1 = pc') (kt : Go l Z R y bs ml ret n0 Q h k n pc' L (v :: St)) : Go l Z R y bs ml ret n0 Q h k n pc L St := by
  subst hp
  intro p e s m args below meth c T locs C X N eT
  exact (kt p e s m args below meth c T locs C X N eT).thru fun t q => XS.aloadN X.here C.1 rfl (hb C.2.1 hd) hl hv q
theorem astore {i : Nat} {v : Value} (hd : decode bs pc = .ok (.astore i, 2)) (hv : v.isRef = true) (hl : storeLocals L i v = some L') (hp : pc + 2 = pc') (kt : Go l Z R y bs ml ret n0 Q h k n pc' L' St) : Go l Z R y bs ml ret n0 Q h k n pc L (v :: St) := by
  subst hp
  intro p e s m args below meth c T locs C X N eT
  exact (kt p e s m args below meth c T locs C X N eT).thru fun t q => XS.astore X.here C.1 rfl (hb C.2.1 hd) rfl hv hl q
theorem astoreN {i : Fin 4} {v : Value} (hd : decode bs pc = .ok (.astore_n i, 1)) (hv : v.isRef = true) (hl : storeLocals L i.val v = some L') (hp : pc + 1 = pc') (kt : Go l Z R y bs ml ret n0 Q h k n pc' L' St) : Go l Z R y bs ml ret n0 Q h k n pc L (v :: St) := by
  subst hp
  intro p e s m args below meth c T locs C X N eT
  exact (kt p e s m args below meth c T locs C X N eT).thru fun t q => XS.astoreN X.here C.1 rfl (hb C.2.1 hd) rfl hv hl q
theorem iconst {i : Int} {v : Int32} (hd : decode bs pc = .ok (.iconst i, 1)) (hv : Int32.ofInt i = v) (hp : pc + 1 = pc') (kt : Go l Z R y bs ml ret n0 Q h k n pc' L (.int v :: St)) : Go l Z R y bs ml ret n0 Q h k n pc L St := by
  subst hp hv
  intro p e s m args below meth c T locs C X N eT
  exact (kt p e s m args below meth c T locs C X N eT).thru fun t q => XS.iconst X.here C.1 rfl (hb C.2.1 hd) q
theorem bipush {i : Int} {v : Int32} (hd : decode bs pc = .ok (.bipush i, 2)) (hv : (Int8.ofInt i).toInt32 = v) (hp : pc + 2 = pc') (kt : Go l Z R y bs ml ret n0 Q h k n pc' L (.int v :: St)) : Go l Z R y bs ml ret n0 Q h k n pc L St := by
  subst hp hv
  intro p e s m args below meth c T locs C X N eT
  exact (kt p e s m args below meth c T locs C X N eT).thru fun t q => XS.bipush X.here C.1 rfl (hb C.2.1 hd) q
theorem sipush {i : Int} {v : Int32} (hd : decode bs pc = .ok (.sipush i, 3)) (hv : (Int16.ofInt i).toInt32 = v) (hp : pc + 3 = pc') (kt : Go l Z R y bs ml ret n0 Q h k n pc' L (.int v :: St)) : Go l Z R y bs ml ret n0 Q h k n pc L St := by
  subst hp hv
  intro p e s m args below meth c T locs C X N eT
  exact (kt p e s m args below meth c T locs C X N eT).thru fun t q => XS.sipush X.here C.1 rfl (hb C.2.1 hd) q
theorem aconstNull  (hd : decode bs pc = .ok (.aconst_null, 1)) (hp : pc + 1 = pc') (kt : Go l Z R y bs ml ret n0 Q h k n pc' L (.null :: St)) : Go l Z R y bs ml ret n0 Q h k n pc L St := by
  subst hp
  intro p e s m args below meth c T locs C X N eT
  exact (kt p e s m args below meth c T locs C X N eT).thru fun t q => XS.aconstNull X.here C.1 rfl (hb C.2.1 hd) q
theorem iadd {x z : Int32} (hd : decode bs pc = .ok (.iadd, 1)) (hp : pc + 1 = pc') (kt : Go l Z R y bs ml ret n0 Q h k n pc' L (.int (x + z) :: St)) : Go l Z R y bs ml ret n0 Q h k n pc L (.int z :: .int x :: St) := by
  subst hp
  intro p e s m args below meth c T locs C X N eT
  exact (kt p e s m args below meth c T locs C X N eT).thru fun t q => XS.iadd X.here C.1 rfl (hb C.2.1 hd) rfl q
theorem isub {x z : Int32} (hd : decode bs pc = .ok (.isub, 1)) (hp : pc + 1 = pc') (kt : Go l Z R y bs ml ret n0 Q h k n pc' L (.int (x - z) :: St)) : Go l Z R y bs ml ret n0 Q h k n pc L (.int z :: .int x :: St) := by
  subst hp
  intro p e s m args below meth c T locs C X N eT
  exact (kt p e s m args below meth c T locs C X N eT).thru fun t q => XS.isub X.here C.1 rfl (hb C.2.1 hd) rfl q
theorem imul {x z : Int32} (hd : decode bs pc = .ok (.imul, 1)) (hp : pc + 1 = pc') (kt : Go l Z R y bs ml ret n0 Q h k n pc' L (.int (x * z) :: St)) : Go l Z R y bs ml ret n0 Q h k n pc L (.int z :: .int x :: St) := by
  subst hp
  intro p e s m args below meth c T locs C X N eT
  exact (kt p e s m args below meth c T locs C X N eT).thru fun t q => XS.imul X.here C.1 rfl (hb C.2.1 hd) rfl q
theorem iand {x z : Int32} (hd : decode bs pc = .ok (.iand, 1)) (hp : pc + 1 = pc') (kt : Go l Z R y bs ml ret n0 Q h k n pc' L (.int (x &&& z) :: St)) : Go l Z R y bs ml ret n0 Q h k n pc L (.int z :: .int x :: St) := by
  subst hp
  intro p e s m args below meth c T locs C X N eT
  exact (kt p e s m args below meth c T locs C X N eT).thru fun t q => XS.iand X.here C.1 rfl (hb C.2.1 hd) rfl q
theorem ior {x z : Int32} (hd : decode bs pc = .ok (.ior, 1)) (hp : pc + 1 = pc') (kt : Go l Z R y bs ml ret n0 Q h k n pc' L (.int (x ||| z) :: St)) : Go l Z R y bs ml ret n0 Q h k n pc L (.int z :: .int x :: St) := by
  subst hp
  intro p e s m args below meth c T locs C X N eT
  exact (kt p e s m args below meth c T locs C X N eT).thru fun t q => XS.ior X.here C.1 rfl (hb C.2.1 hd) rfl q
theorem ixor {x z : Int32} (hd : decode bs pc = .ok (.ixor, 1)) (hp : pc + 1 = pc') (kt : Go l Z R y bs ml ret n0 Q h k n pc' L (.int (x ^^^ z) :: St)) : Go l Z R y bs ml ret n0 Q h k n pc L (.int z :: .int x :: St) := by
  subst hp
  intro p e s m args below meth c T locs C X N eT
  exact (kt p e s m args below meth c T locs C X N eT).thru fun t q => XS.ixor X.here C.1 rfl (hb C.2.1 hd) rfl q
theorem ishl {x z : Int32} (hd : decode bs pc = .ok (.ishl, 1)) (hp : pc + 1 = pc') (kt : Go l Z R y bs ml ret n0 Q h k n pc' L (.int (x <<< (z &&& 31)) :: St)) : Go l Z R y bs ml ret n0 Q h k n pc L (.int z :: .int x :: St) := by
  subst hp
  intro p e s m args below meth c T locs C X N eT
  exact (kt p e s m args below meth c T locs C X N eT).thru fun t q => XS.ishl X.here C.1 rfl (hb C.2.1 hd) rfl q
theorem ishr {x z : Int32} (hd : decode bs pc = .ok (.ishr, 1)) (hp : pc + 1 = pc') (kt : Go l Z R y bs ml ret n0 Q h k n pc' L (.int (x >>> (z &&& 31)) :: St)) : Go l Z R y bs ml ret n0 Q h k n pc L (.int z :: .int x :: St) := by
  subst hp
  intro p e s m args below meth c T locs C X N eT
  exact (kt p e s m args below meth c T locs C X N eT).thru fun t q => XS.ishr X.here C.1 rfl (hb C.2.1 hd) rfl q
theorem iushr {x z : Int32} (hd : decode bs pc = .ok (.iushr, 1)) (hp : pc + 1 = pc') (kt : Go l Z R y bs ml ret n0 Q h k n pc' L (.int ((x.toUInt32 >>> (z &&& 31).toUInt32).toInt32) :: St)) : Go l Z R y bs ml ret n0 Q h k n pc L (.int z :: .int x :: St) := by
  subst hp
  intro p e s m args below meth c T locs C X N eT
  exact (kt p e s m args below meth c T locs C X N eT).thru fun t q => XS.iushr X.here C.1 rfl (hb C.2.1 hd) rfl q
theorem ladd {x z : Int64} (hd : decode bs pc = .ok (.ladd, 1)) (hp : pc + 1 = pc') (kt : Go l Z R y bs ml ret n0 Q h k n pc' L (.long (x + z) :: St)) : Go l Z R y bs ml ret n0 Q h k n pc L (.long z :: .long x :: St) := by
  subst hp
  intro p e s m args below meth c T locs C X N eT
  exact (kt p e s m args below meth c T locs C X N eT).thru fun t q => XS.ladd X.here C.1 rfl (hb C.2.1 hd) rfl q
theorem lsub {x z : Int64} (hd : decode bs pc = .ok (.lsub, 1)) (hp : pc + 1 = pc') (kt : Go l Z R y bs ml ret n0 Q h k n pc' L (.long (x - z) :: St)) : Go l Z R y bs ml ret n0 Q h k n pc L (.long z :: .long x :: St) := by
  subst hp
  intro p e s m args below meth c T locs C X N eT
  exact (kt p e s m args below meth c T locs C X N eT).thru fun t q => XS.lsub X.here C.1 rfl (hb C.2.1 hd) rfl q
theorem lmul {x z : Int64} (hd : decode bs pc = .ok (.lmul, 1)) (hp : pc + 1 = pc') (kt : Go l Z R y bs ml ret n0 Q h k n pc' L (.long (x * z) :: St)) : Go l Z R y bs ml ret n0 Q h k n pc L (.long z :: .long x :: St) := by
  subst hp
  intro p e s m args below meth c T locs C X N eT
  exact (kt p e s m args below meth c T locs C X N eT).thru fun t q => XS.lmul X.here C.1 rfl (hb C.2.1 hd) rfl q
theorem land {x z : Int64} (hd : decode bs pc = .ok (.land, 1)) (hp : pc + 1 = pc') (kt : Go l Z R y bs ml ret n0 Q h k n pc' L (.long (x &&& z) :: St)) : Go l Z R y bs ml ret n0 Q h k n pc L (.long z :: .long x :: St) := by
  subst hp
  intro p e s m args below meth c T locs C X N eT
  exact (kt p e s m args below meth c T locs C X N eT).thru fun t q => XS.land X.here C.1 rfl (hb C.2.1 hd) rfl q
theorem lor {x z : Int64} (hd : decode bs pc = .ok (.lor, 1)) (hp : pc + 1 = pc') (kt : Go l Z R y bs ml ret n0 Q h k n pc' L (.long (x ||| z) :: St)) : Go l Z R y bs ml ret n0 Q h k n pc L (.long z :: .long x :: St) := by
  subst hp
  intro p e s m args below meth c T locs C X N eT
  exact (kt p e s m args below meth c T locs C X N eT).thru fun t q => XS.lor X.here C.1 rfl (hb C.2.1 hd) rfl q
theorem lxor {x z : Int64} (hd : decode bs pc = .ok (.lxor, 1)) (hp : pc + 1 = pc') (kt : Go l Z R y bs ml ret n0 Q h k n pc' L (.long (x ^^^ z) :: St)) : Go l Z R y bs ml ret n0 Q h k n pc L (.long z :: .long x :: St) := by
  subst hp
  intro p e s m args below meth c T locs C X N eT
  exact (kt p e s m args below meth c T locs C X N eT).thru fun t q => XS.lxor X.here C.1 rfl (hb C.2.1 hd) rfl q
theorem lshl {x : Int64} {z : Int32} (hd : decode bs pc = .ok (.lshl, 1)) (hp : pc + 1 = pc') (kt : Go l Z R y bs ml ret n0 Q h k n pc' L (.long (x <<< (z &&& 0x3f).toInt64) :: St)) : Go l Z R y bs ml ret n0 Q h k n pc L (.int z :: .long x :: St) := by
  subst hp
  intro p e s m args below meth c T locs C X N eT
  exact (kt p e s m args below meth c T locs C X N eT).thru fun t q => XS.lshl X.here C.1 rfl (hb C.2.1 hd) rfl q
theorem lshr {x : Int64} {z : Int32} (hd : decode bs pc = .ok (.lshr, 1)) (hp : pc + 1 = pc') (kt : Go l Z R y bs ml ret n0 Q h k n pc' L (.long (x >>> (z &&& 0x3f).toInt64) :: St)) : Go l Z R y bs ml ret n0 Q h k n pc L (.int z :: .long x :: St) := by
  subst hp
  intro p e s m args below meth c T locs C X N eT
  exact (kt p e s m args below meth c T locs C X N eT).thru fun t q => XS.lshr X.here C.1 rfl (hb C.2.1 hd) rfl q
theorem lushr {x : Int64} {z : Int32} (hd : decode bs pc = .ok (.lushr, 1)) (hp : pc + 1 = pc') (kt : Go l Z R y bs ml ret n0 Q h k n pc' L (.long ((x.toUInt64 >>> (z &&& 0x3f).toInt64.toUInt64).toInt64) :: St)) : Go l Z R y bs ml ret n0 Q h k n pc L (.int z :: .long x :: St) := by
  subst hp
  intro p e s m args below meth c T locs C X N eT
  exact (kt p e s m args below meth c T locs C X N eT).thru fun t q => XS.lushr X.here C.1 rfl (hb C.2.1 hd) rfl q
theorem ineg {x : Int32} (hd : decode bs pc = .ok (.ineg, 1)) (hp : pc + 1 = pc') (kt : Go l Z R y bs ml ret n0 Q h k n pc' L (.int (-x) :: St)) : Go l Z R y bs ml ret n0 Q h k n pc L (.int x :: St) := by
  subst hp
  intro p e s m args below meth c T locs C X N eT
  exact (kt p e s m args below meth c T locs C X N eT).thru fun t q => XS.ineg X.here C.1 rfl (hb C.2.1 hd) rfl q
theorem lneg {x : Int64} (hd : decode bs pc = .ok (.lneg, 1)) (hp : pc + 1 = pc') (kt : Go l Z R y bs ml ret n0 Q h k n pc' L (.long (-x) :: St)) : Go l Z R y bs ml ret n0 Q h k n pc L (.long x :: St) := by
  subst hp
  intro p e s m args below meth c T locs C X N eT
  exact (kt p e s m args below meth c T locs C X N eT).thru fun t q => XS.lneg X.here C.1 rfl (hb C.2.1 hd) rfl q
theorem i2l {x : Int32} (hd : decode bs pc = .ok (.i2l, 1)) (hp : pc + 1 = pc') (kt : Go l Z R y bs ml ret n0 Q h k n pc' L (.long (x.toInt64) :: St)) : Go l Z R y bs ml ret n0 Q h k n pc L (.int x :: St) := by
  subst hp
  intro p e s m args below meth c T locs C X N eT
  exact (kt p e s m args below meth c T locs C X N eT).thru fun t q => XS.i2l X.here C.1 rfl (hb C.2.1 hd) rfl q
theorem l2i {x : Int64} (hd : decode bs pc = .ok (.l2i, 1)) (hp : pc + 1 = pc') (kt : Go l Z R y bs ml ret n0 Q h k n pc' L (.int (x.toInt32) :: St)) : Go l Z R y bs ml ret n0 Q h k n pc L (.long x :: St) := by
  subst hp
  intro p e s m args below meth c T locs C X N eT
  exact (kt p e s m args below meth c T locs C X N eT).thru fun t q => XS.l2i X.here C.1 rfl (hb C.2.1 hd) rfl q
theorem i2b {x : Int32} (hd : decode bs pc = .ok (.i2b, 1)) (hp : pc + 1 = pc') (kt : Go l Z R y bs ml ret n0 Q h k n pc' L (.int (x.toInt8.toInt32) :: St)) : Go l Z R y bs ml ret n0 Q h k n pc L (.int x :: St) := by
  subst hp
  intro p e s m args below meth c T locs C X N eT
  exact (kt p e s m args below meth c T locs C X N eT).thru fun t q => XS.i2b X.here C.1 rfl (hb C.2.1 hd) rfl q
theorem i2s {x : Int32} (hd : decode bs pc = .ok (.i2s, 1)) (hp : pc + 1 = pc') (kt : Go l Z R y bs ml ret n0 Q h k n pc' L (.int (x.toInt16.toInt32) :: St)) : Go l Z R y bs ml ret n0 Q h k n pc L (.int x :: St) := by
  subst hp
  intro p e s m args below meth c T locs C X N eT
  exact (kt p e s m args below meth c T locs C X N eT).thru fun t q => XS.i2s X.here C.1 rfl (hb C.2.1 hd) rfl q
theorem i2c {x : Int32} (hd : decode bs pc = .ok (.i2c, 1)) (hp : pc + 1 = pc') (kt : Go l Z R y bs ml ret n0 Q h k n pc' L (.int (x.toUInt32.toUInt16.toUInt32.toInt32) :: St)) : Go l Z R y bs ml ret n0 Q h k n pc L (.int x :: St) := by
  subst hp
  intro p e s m args below meth c T locs C X N eT
  exact (kt p e s m args below meth c T locs C X N eT).thru fun t q => XS.i2c X.here C.1 rfl (hb C.2.1 hd) rfl q
theorem lcmp {x z : Int64} (hd : decode bs pc = .ok (.lcmp, 1)) (hp : pc + 1 = pc') (kt : Go l Z R y bs ml ret n0 Q h k n pc' L (.int (lcmpW x z) :: St)) : Go l Z R y bs ml ret n0 Q h k n pc L (.long z :: .long x :: St) := by
  subst hp
  intro p e s m args below meth c T locs C X N eT
  exact (kt p e s m args below meth c T locs C X N eT).thru fun t q => XS.lcmp X.here C.1 rfl (hb C.2.1 hd) rfl q
theorem idiv {x z : Int32} (hd : decode bs pc = .ok (.idiv, 1)) (hz : z ≠ 0) (hp : pc + 1 = pc') (kt : Go l Z R y bs ml ret n0 Q h k n pc' L (.int (x / z) :: St)) : Go l Z R y bs ml ret n0 Q h k n pc L (.int z :: .int x :: St) := by
  subst hp
  intro p e s m args below meth c T locs C X N eT
  exact (kt p e s m args below meth c T locs C X N eT).thru fun t q => XS.idiv X.here C.1 rfl (hb C.2.1 hd) rfl hz q
theorem irem {x z : Int32} (hd : decode bs pc = .ok (.irem, 1)) (hz : z ≠ 0) (hp : pc + 1 = pc') (kt : Go l Z R y bs ml ret n0 Q h k n pc' L (.int (x % z) :: St)) : Go l Z R y bs ml ret n0 Q h k n pc L (.int z :: .int x :: St) := by
  subst hp
  intro p e s m args below meth c T locs C X N eT
  exact (kt p e s m args below meth c T locs C X N eT).thru fun t q => iremM X C.1 rfl (hb C.2.1 hd) rfl hz q
theorem lrem {x z : Int64} (hd : decode bs pc = .ok (.lrem, 1)) (hz : z ≠ 0) (hp : pc + 1 = pc') (kt : Go l Z R y bs ml ret n0 Q h k n pc' L (.long (x % z) :: St)) : Go l Z R y bs ml ret n0 Q h k n pc L (.long z :: .long x :: St) := by
  subst hp
  rw [← lrem_mod] at kt
  intro p e s m args below meth c T locs C X N eT
  exact (kt p e s m args below meth c T locs C X N eT).thru fun t q => XS.lrem X.here C.1 rfl (hb C.2.1 hd) rfl hz q
theorem ldiv {x z : Int64} (hd : decode bs pc = .ok (.ldiv, 1)) (hz : z ≠ 0) (hp : pc + 1 = pc') (kt : Go l Z R y bs ml ret n0 Q h k n pc' L (.long (x / z) :: St)) : Go l Z R y bs ml ret n0 Q h k n pc L (.long z :: .long x :: St) := by
  subst hp
  intro p e s m args below meth c T locs C X N eT
  exact (kt p e s m args below meth c T locs C X N eT).thru fun t q => XS.ldiv X.here C.1 rfl (hb C.2.1 hd) rfl hz q
theorem dup {v : Value} (hd : decode bs pc = .ok (.dup, 1)) (hc : v.category = 1) (hp : pc + 1 = pc') (kt : Go l Z R y bs ml ret n0 Q h k n pc' L (v :: v :: St)) : Go l Z R y bs ml ret n0 Q h k n pc L (v :: St) := by
  subst hp
  intro p e s m args below meth c T locs C X N eT
  exact (kt p e s m args below meth c T locs C X N eT).thru fun t q => XS.dup X.here C.1 rfl (hb C.2.1 hd) rfl hc q
theorem pop {v : Value} (hd : decode bs pc = .ok (.pop, 1)) (hc : v.category = 1) (hp : pc + 1 = pc') (kt : Go l Z R y bs ml ret n0 Q h k n pc' L St) : Go l Z R y bs ml ret n0 Q h k n pc L (v :: St) := by
  subst hp
  intro p e s m args below meth c T locs C X N eT
  exact (kt p e s m args below meth c T locs C X N eT).thru fun t q => XS.pop X.here C.1 rfl (hb C.2.1 hd) rfl hc q
theorem dupX1 {v w : Value} (hd : decode bs pc = .ok (.dup_x1, 1)) (hc : v.category = 1) (hw : w.category = 1) (hp : pc + 1 = pc') (kt : Go l Z R y bs ml ret n0 Q h k n pc' L (v :: w :: v :: St)) : Go l Z R y bs ml ret n0 Q h k n pc L (v :: w :: St) := by
  subst hp
  intro p e s m args below meth c T locs C X N eT
  exact (kt p e s m args below meth c T locs C X N eT).thru fun t q => XS.dupX1 X.here C.1 rfl (hb C.2.1 hd) rfl hc hw q
theorem dup2 {v w : Value} (hd : decode bs pc = .ok (.dup2, 1)) (hc : v.category = 1) (hw : w.category = 1) (hp : pc + 1 = pc') (kt : Go l Z R y bs ml ret n0 Q h k n pc' L (v :: w :: v :: w :: St)) : Go l Z R y bs ml ret n0 Q h k n pc L (v :: w :: St) := by
  subst hp
  intro p e s m args below meth c T locs C X N eT
  exact (kt p e s m args below meth c T locs C X N eT).thru fun t q => XT.dup2 X.here C.1 rfl (hb C.2.1 hd) rfl hc hw q
theorem dup2L {x : Int64} (hd : decode bs pc = .ok (.dup2, 1)) (hp : pc + 1 = pc') (kt : Go l Z R y bs ml ret n0 Q h k n pc' L (.long x :: .long x :: St)) : Go l Z R y bs ml ret n0 Q h k n pc L (.long x :: St) := by
  subst hp
  intro p e s m args below meth c T locs C X N eT
  exact (kt p e s m args below meth c T locs C X N eT).thru fun t q => XT.dup2L X.here C.1 rfl (hb C.2.1 hd) rfl q
theorem lconst {i : Fin 2} {v : Int64} (hd : decode bs pc = .ok (.lconst i, 1)) (hv : Int64.ofNat i.val = v) (hp : pc + 1 = pc') (kt : Go l Z R y bs ml ret n0 Q h k n pc' L (.long v :: St)) : Go l Z R y bs ml ret n0 Q h k n pc L St := by
  subst hp hv
  intro p e s m args below meth c T locs C X N eT
  exact (kt p e s m args below meth c T locs C X N eT).thru fun t q => XS.lconst X.here C.1 rfl (hb C.2.1 hd) q
theorem iinc {i : Nat} {cst : Int} {x d : Int32} (hd : decode bs pc = .ok (.iinc i cst, 3)) (hl : L[i]? = some (.val (.int x))) (hv : Int32.ofInt cst = d) (hs : storeLocals L i (.int (x + d)) = some L') (hp : pc + 3 = pc') (kt : Go l Z R y bs ml ret n0 Q h k n pc' L' St) : Go l Z R y bs ml ret n0 Q h k n pc L St := by
  subst hp hv
  intro p e s m args below meth c T locs C X N eT
  exact (kt p e s m args below meth c T locs C X N eT).thru fun t q => XS.iinc X.here C.1 rfl (hb C.2.1 hd) hl hs q
theorem goto {o : Int} (hd : decode bs pc = .ok (.goto o, 3)) (ho : 0 ≤ (pc : Int) + o) (hp : ((pc : Int) + o).toNat = pc') (kt : Go l Z R y bs ml ret n0 Q h k n pc' L St) : Go l Z R y bs ml ret n0 Q h k n pc L St := by
  intro p e s m args below meth c T locs C X N eT
  exact (kt p e s m args below meth c T locs C X N eT).thru fun t q => XS.goto X.here C.1 rfl rfl (hb C.2.1 hd) ho hp q
theorem icmpY {cd : ClassFile.Cond} {o : Int} {x z : Int32} (hd : decode bs pc = .ok (.if_icmp cd o, 3)) (hc : if_icmp.holds cd x z = true) (ho : 0 ≤ (pc : Int) + o) (hp : ((pc : Int) + o).toNat = pc') (kt : Go l Z R y bs ml ret n0 Q h k n pc' L St) : Go l Z R y bs ml ret n0 Q h k n pc L (.int z :: .int x :: St) := by
  intro p e s m args below meth c T locs C X N eT
  exact (kt p e s m args below meth c T locs C X N eT).thru fun t q => XS.icmpYes X.here C.1 rfl rfl (hb C.2.1 hd) rfl hc ho hp q
theorem icmpN {cd : ClassFile.Cond} {o : Int} {x z : Int32} (hd : decode bs pc = .ok (.if_icmp cd o, 3)) (hc : if_icmp.holds cd x z = false) (hp : pc + 3 = pc') (kt : Go l Z R y bs ml ret n0 Q h k n pc' L St) : Go l Z R y bs ml ret n0 Q h k n pc L (.int z :: .int x :: St) := by
  subst hp
  intro p e s m args below meth c T locs C X N eT
  exact (kt p e s m args below meth c T locs C X N eT).thru fun t q => XS.icmpNo X.here C.1 rfl (hb C.2.1 hd) rfl hc q
theorem ifcY {cd : ClassFile.Cond} {o : Int} {x : Int32} (hd : decode bs pc = .ok (.ifCond cd o, 3)) (hc : ifCond.holds cd x = true) (ho : 0 ≤ (pc : Int) + o) (hp : ((pc : Int) + o).toNat = pc') (kt : Go l Z R y bs ml ret n0 Q h k n pc' L St) : Go l Z R y bs ml ret n0 Q h k n pc L (.int x :: St) := by
  intro p e s m args below meth c T locs C X N eT
  exact (kt p e s m args below meth c T locs C X N eT).thru fun t q => XS.ifYes X.here C.1 rfl rfl (hb C.2.1 hd) rfl hc ho hp q
theorem ifcN {cd : ClassFile.Cond} {o : Int} {x : Int32} (hd : decode bs pc = .ok (.ifCond cd o, 3)) (hc : ifCond.holds cd x = false) (hp : pc + 3 = pc') (kt : Go l Z R y bs ml ret n0 Q h k n pc' L St) : Go l Z R y bs ml ret n0 Q h k n pc L (.int x :: St) := by
  subst hp
  intro p e s m args below meth c T locs C X N eT
  exact (kt p e s m args below meth c T locs C X N eT).thru fun t q => XS.ifNo X.here C.1 rfl (hb C.2.1 hd) rfl hc q
theorem ifnullY {o : Int}  (hd : decode bs pc = .ok (.ifnull o, 3)) (ho : 0 ≤ (pc : Int) + o) (hp : ((pc : Int) + o).toNat = pc') (kt : Go l Z R y bs ml ret n0 Q h k n pc' L St) : Go l Z R y bs ml ret n0 Q h k n pc L (.null :: St) := by
  intro p e s m args below meth c T locs C X N eT
  exact (kt p e s m args below meth c T locs C X N eT).thru fun t q => XS.ifnullYes X.here C.1 rfl rfl (hb C.2.1 hd) rfl ho hp q
theorem ifnullN {o : Int} {b : Addr} (hd : decode bs pc = .ok (.ifnull o, 3)) (hp : pc + 3 = pc') (kt : Go l Z R y bs ml ret n0 Q h k n pc' L St) : Go l Z R y bs ml ret n0 Q h k n pc L (.ref b :: St) := by
  subst hp
  intro p e s m args below meth c T locs C X N eT
  exact (kt p e s m args below meth c T locs C X N eT).thru fun t q => XS.ifnullNo X.here C.1 rfl (hb C.2.1 hd) rfl q
theorem ifnonnullY {o : Int} {b : Addr} (hd : decode bs pc = .ok (.ifnonnull o, 3)) (ho : 0 ≤ (pc : Int) + o) (hp : ((pc : Int) + o).toNat = pc') (kt : Go l Z R y bs ml ret n0 Q h k n pc' L St) : Go l Z R y bs ml ret n0 Q h k n pc L (.ref b :: St) := by
  intro p e s m args below meth c T locs C X N eT
  exact (kt p e s m args below meth c T locs C X N eT).thru fun t q => XS.ifnonnullYes X.here C.1 rfl rfl (hb C.2.1 hd) rfl ho hp q
theorem ifnonnullN {o : Int}  (hd : decode bs pc = .ok (.ifnonnull o, 3)) (hp : pc + 3 = pc') (kt : Go l Z R y bs ml ret n0 Q h k n pc' L St) : Go l Z R y bs ml ret n0 Q h k n pc L (.null :: St) := by
  subst hp
  intro p e s m args below meth c T locs C X N eT
  exact (kt p e s m args below meth c T locs C X N eT).thru fun t q => XS.ifnonnullNo X.here C.1 rfl (hb C.2.1 hd) rfl q
theorem acmp {cd : ACond} {o : Int} {x z : Value} {same : Bool} (hd : decode bs pc = .ok (.if_acmp cd o, 3)) (h1 : x.isRef = true) (h2 : z.isRef = true) (hq : decide (x = z) = same) (ho : 0 ≤ (pc : Int) + o) (hp : pc' = if acV cd same = true then ((pc : Int) + o).toNat else pc + 3) (kt : Go l Z R y bs ml ret n0 Q h k n pc' L St) : Go l Z R y bs ml ret n0 Q h k n pc L (z :: x :: St) := by
  intro p e s m args below meth c T locs C X N eT
  exact (kt p e s m args below meth c T locs C X N eT).thru fun t q => Jvm.RoadKit.acmp (g := mkF m pc L (z :: x :: St)) X C.1 rfl h1 h2 rfl (hb C.2.1 hd) rfl hq ho hp q
theorem pop2J {x : Int64} (hd : decode bs pc = .ok (.pop2, 1)) (hp : pc + 1 = pc') (kt : Go l Z R y bs ml ret n0 Q h k n pc' L St) : Go l Z R y bs ml ret n0 Q h k n pc L (.long x :: St) := by
  subst hp
  intro p e s m args below meth c T locs C X N eT
  have hx := C.1
  have hd' := hb C.2.1 hd
  refine (kt p e s m args below meth c T locs C X N eT).thru fun t q => ?_
  show Steps p.tables e below (T.setTop { method := m, pc := pc, locals := L, stack := .long x :: St, locked := none }) t
  jvm_step X.here [X.here.top, hx, hd', Value.category]
  exact q
theorem tswIn {dflt low high : Int} {offs : Array Int} {len : Nat} {o : Int} {i : Int32} (hd : decode bs pc = .ok (.tableswitch dflt low high offs, len)) (hin : ¬ (i.toInt < low ∨ i.toInt > high)) (hoff : offs[(i.toInt - low).toNat]? = some o) (ho : 0 ≤ (pc : Int) + o) (hp : ((pc : Int) + o).toNat = pc') (kt : Go l Z R y bs ml ret n0 Q h k n pc' L St) : Go l Z R y bs ml ret n0 Q h k n pc L (.int i :: St) := by
  intro p e s m args below meth c T locs C X N eT
  exact (kt p e s m args below meth c T locs C X N eT).thru fun t q => XS.tswIn X.here C.1 rfl rfl (hb C.2.1 hd) rfl hin hoff ho hp q
theorem tswOut {dflt low high : Int} {offs : Array Int} {len : Nat} {i : Int32} (hd : decode bs pc = .ok (.tableswitch dflt low high offs, len)) (hout : i.toInt < low ∨ i.toInt > high) (ho : 0 ≤ (pc : Int) + dflt) (hp : ((pc : Int) + dflt).toNat = pc') (kt : Go l Z R y bs ml ret n0 Q h k n pc' L St) : Go l Z R y bs ml ret n0 Q h k n pc L (.int i :: St) := by
  intro p e s m args below meth c T locs C X N eT
  exact (kt p e s m args below meth c T locs C X N eT).thru fun t q => XS.tswOut X.here C.1 rfl rfl (hb C.2.1 hd) rfl hout ho hp q
theorem ret0 (hd : decode bs pc = .ok (.return_, 1)) (hr : ret = none) (hk : k ≤ R.cells) (hn : n ≤ R.slots) (hQ : Q none h) : Go l Z R y bs ml ret n0 Q h k n pc L [] := by
  intro p e s m args below meth c T locs C X N eT
  have hret := C.2.2.2.2.2.1.trans hr
  obtain ⟨fs, hl, hrun, hended, hW, hsame⟩ := X.leave (v := none) (fun _ => rfl) C.2.2.2.2.2.2.1
  exact ⟨_, _, X.returnOut C.1 hret (hb C.2.1 hd) hl, hrun, hended, _, _, rfl, ⟨by show Q none T.heap; rw [eT]; exact hQ, N⟩, ⟨_, rfl⟩, hW, hsame.mono hk hn⟩
theorem retN {t : FieldType} {x x' : Int32} (hd : decode bs pc = .ok (.ireturn, 1)) (hr : ret = some t) (ht : t = .boolean ∨ t = .byte ∨ t = .char ∨ t = .short) (hx : nar t x = x') (hk : k ≤ R.cells) (hn : n ≤ R.slots) (hQ : Q (some (.int x')) h) : Go l Z R y bs ml ret n0 Q h k n pc L (.int x :: St) := by
  intro p e s m args below meth c T locs C X N eT
  have hret := C.2.2.2.2.2.1.trans hr
  subst hx
  obtain ⟨fs, hl, hrun, hended, hW, hsame⟩ := X.leave (v := some (.int (nar t x))) (fun q => by rw [hret] at q; cases q) C.2.2.2.2.2.2.1
  exact ⟨_, _, Jvm.RoadKit.retN X C.1 hret ht (hb C.2.1 hd) hl, hrun, hended, _, _, rfl, ⟨by show Q _ T.heap; rw [eT]; exact hQ, N⟩, ⟨_, rfl⟩, hW, hsame.mono hk hn⟩
theorem retI {x : Int32} (hd : decode bs pc = .ok (.ireturn, 1)) (hr : ret = some .int) (hk : k ≤ R.cells) (hn : n ≤ R.slots) (hQ : Q (some (.int x)) h) : Go l Z R y bs ml ret n0 Q h k n pc L (.int x :: St) := by
  intro p e s m args below meth c T locs C X N eT
  have hret := C.2.2.2.2.2.1.trans hr
  obtain ⟨fs, hl, hrun, hended, hW, hsame⟩ := X.leave (v := some (.int x)) (fun q => by rw [hret] at q; cases q) C.2.2.2.2.2.2.1
  exact ⟨_, _, Jvm.RoadKit.retOut X C.1 hret rfl (Or.inl ⟨rfl, Or.inl rfl, _, rfl⟩) (hb C.2.1 hd) hl, hrun, hended, _, _, rfl, ⟨by show Q _ T.heap; rw [eT]; exact hQ, N⟩, ⟨_, rfl⟩, hW, hsame.mono hk hn⟩
theorem retJ {x : Int64} (hd : decode bs pc = .ok (.lreturn, 1)) (hr : ret = some .long) (hk : k ≤ R.cells) (hn : n ≤ R.slots) (hQ : Q (some (.long x)) h) : Go l Z R y bs ml ret n0 Q h k n pc L (.long x :: St) := by
  intro p e s m args below meth c T locs C X N eT
  have hret := C.2.2.2.2.2.1.trans hr
  obtain ⟨fs, hl, hrun, hended, hW, hsame⟩ := X.leave (v := some (.long x)) (fun q => by rw [hret] at q; cases q) C.2.2.2.2.2.2.1
  exact ⟨_, _, Jvm.RoadKit.retOut X C.1 hret rfl (Or.inr (Or.inl ⟨rfl, rfl, _, rfl⟩)) (hb C.2.1 hd) hl, hrun, hended, _, _, rfl, ⟨by show Q _ T.heap; rw [eT]; exact hQ, N⟩, ⟨_, rfl⟩, hW, hsame.mono hk hn⟩
theorem retD {x : UInt64} (hd : decode bs pc = .ok (.dreturn, 1)) (hr : ret = some .double) (hk : k ≤ R.cells) (hn : n ≤ R.slots) (hQ : Q (some (.double x)) h) : Go l Z R y bs ml ret n0 Q h k n pc L (.double x :: St) := by
  intro p e s m args below meth c T locs C X N eT
  have hret := C.2.2.2.2.2.1.trans hr
  obtain ⟨fs, hl, hrun, hended, hW, hsame⟩ := X.leave (v := some (.double x)) (fun q => by rw [hret] at q; cases q) C.2.2.2.2.2.2.1
  exact ⟨_, _, Jvm.RoadKit.retOut X C.1 hret rfl (Or.inr (Or.inr (Or.inl ⟨rfl, rfl, _, rfl⟩))) (hb C.2.1 hd) hl, hrun, hended, _, _, rfl, ⟨by show Q _ T.heap; rw [eT]; exact hQ, N⟩, ⟨_, rfl⟩, hW, hsame.mono hk hn⟩
theorem retA {t : FieldType} {v : Value} (hd : decode bs pc = .ok (.areturn, 1)) (hr : ret = some t) (ht : t.isReference = true) (hv : v.isRef = true) (hk : k ≤ R.cells) (hn : n ≤ R.slots) (hQ : Q (some v) h) : Go l Z R y bs ml ret n0 Q h k n pc L (v :: St) := by
  intro p e s m args below meth c T locs C X N eT
  have hret := C.2.2.2.2.2.1.trans hr
  obtain ⟨fs, hl, hrun, hended, hW, hsame⟩ := X.leave (v := some v) (fun q => by rw [hret] at q; cases q) C.2.2.2.2.2.2.1
  have hna : narrow t v = v := by rcases ref_cases hv with rfl | ⟨a, rfl⟩ <;> cases t <;> first | rfl | (cases ht)
  exact ⟨_, _, Jvm.RoadKit.retOut X C.1 hret hna (Or.inr (Or.inr (Or.inr (Or.inr ⟨rfl, ht, hv⟩)))) (hb C.2.1 hd) hl, hrun, hended, _, _, rfl, ⟨by show Q _ T.heap; rw [eT]; exact hQ, N⟩, ⟨_, rfl⟩, hW, hsame.mono hk hn⟩
theorem ldcI {index : Nat} {v : Int32} (hd : decode bs pc = .ok (.ldc index, 2)) (w : (Cond.constant y.cls index v).before a0 Z = true) (hp : pc + 2 = pc') (kt : Go l Z R y bs ml ret n0 Q h k n pc' L (.int v :: St)) : Go l Z R y bs ml ret n0 Q h k n pc L St := by
  subst hp
  intro p e s m args below meth c T locs C X N eT
  exact (kt p e s m args below meth c T locs C X N eT).thru (X.ldcInt C.1 C.2.2.2.1 (mvT C.2.2.2.2.2.2.2 w) (g := mkF m pc L St) rfl (hb C.2.1 hd))
theorem ldcwI {index : Nat} {v : Int32} (hd : decode bs pc = .ok (.ldc_w index, 3)) (w : (Cond.constant y.cls index v).before a0 Z = true) (hp : pc + 3 = pc') (kt : Go l Z R y bs ml ret n0 Q h k n pc' L (.int v :: St)) : Go l Z R y bs ml ret n0 Q h k n pc L St := by
  subst hp
  intro p e s m args below meth c T locs C X N eT
  exact (kt p e s m args below meth c T locs C X N eT).thru (X.ldcwInt C.1 C.2.2.2.1 (mvT C.2.2.2.2.2.2.2 w) (g := mkF m pc L St) rfl (hb C.2.1 hd))
theorem ldc2J {index : Nat} {v : Int64} (hd : decode bs pc = .ok (.ldc2_w index, 3)) (w : (Cond.constantLong y.cls index v).before a0 Z = true) (hp : pc + 3 = pc') (kt : Go l Z R y bs ml ret n0 Q h k n pc' L (.long v :: St)) : Go l Z R y bs ml ret n0 Q h k n pc L St := by
  subst hp
  intro p e s m args below meth c T locs C X N eT
  exact (kt p e s m args below meth c T locs C X N eT).thru (X.ldc2Long C.1 C.2.2.2.1 (mvT C.2.2.2.2.2.2.2 w) (g := mkF m pc L St) rfl (hb C.2.1 hd))
theorem getF {R0 O nm d host : String} {index : Nat} {a : Addr} {v : Value} (hd : decode bs pc = .ok (.getfield index, 3)) (w : (Cond.fieldLink y.cls index R0 nm d).before a0 Z = true ∨ (Cond.fieldLinkNest y.cls index R0 nm d host).before a0 Z = true) (via : Via Z R0 O nm d) (F : Fld Z h a O nm d v) (hp : pc + 3 = pc') (kt : Go l Z R y bs ml ret n0 Q h k n pc' L (v :: St)) : Go l Z R y bs ml ret n0 Q h k n pc L (.ref a :: St) := by
  subst hp
  intro p e s m args below meth c T locs C X N eT
  obtain ⟨T', X', e', st⟩ := Jvm.RoadKit.getF X C.1 C.2.2.2.2.2.2.2 C.2.2.2.1 w via eT F (g := mkF m pc L (.ref a :: St)) rfl rfl (hb C.2.1 hd)
  exact (kt p e s m args below meth c T' locs C X' N e').thru st
theorem getS {R0 O nm d host : String} {index : Nat} {v : Value} (hd : decode bs pc = .ok (.getstatic index, 3)) (w : (Cond.fieldLink y.cls index R0 nm d).before a0 Z = true ∨ (Cond.fieldLinkNest y.cls index R0 nm d host).before a0 Z = true) (via : Via Z R0 O nm d) (F : Sta Z h O nm d v) (hp : pc + 3 = pc') (kt : Go l Z R y bs ml ret n0 Q h k n pc' L (v :: St)) : Go l Z R y bs ml ret n0 Q h k n pc L St := by
  subst hp
  intro p e s m args below meth c T locs C X N eT
  obtain ⟨T', X', e', st⟩ := getS2 X C.1 C.2.2.2.2.2.2.2 C.2.2.2.1 w via eT F (g := mkF m pc L St) rfl (hb C.2.1 hd)
  exact (kt p e s m args below meth c T' locs C X' N e').thru st
theorem putF {R0 O nm d host CC : String} {index kk : Nat} {ty : FieldType} {a : Addr} {v old : Value} (hd : decode bs pc = .ok (.putfield index, 3)) (w : (Cond.fieldLink y.cls index R0 nm d).before a0 Z = true ∨ (Cond.fieldLinkNest y.cls index R0 nm d host).before a0 Z = true) (via : Via Z R0 O nm d) (F : Fld Z h a O nm d old) (E : Exa Z h a CC)
    (Ly : (Cond.lays CC O nm d).before a0 Z = true ∨ ((Cond.laysFinal CC O nm d).before a0 Z = true ∧ y.cls = O ∧ y.name = "<init>")) (wi : (Cond.instantiable CC kk).before a0 Z = true) (hty : parseFieldDescriptor d = some ty) (hn : narrow ty v = v) (hf : fits ty v = true) (g : n0 ≤ a) (hp : pc + 3 = pc')
    (kt : ∀ h', Wr h h' a (Jvm.RoadKit.slotOf Z O nm d) v → Go l Z R y bs ml ret n0 Q h' k n pc' L St) : Go l Z R y bs ml ret n0 Q h k n pc L (v :: .ref a :: St) := by
  subst hp
  intro p e s m args below meth c T locs C X N eT
  obtain ⟨T', h', X', e', W', st⟩ := Jvm.RoadKit.putF X C.1 C.2.2.2.2.2.2.2 C.2.2.2.1 w via eT F E (Ly.imp id fun q => ⟨q.1, q.2.1, C.2.2.2.2.1.trans q.2.2⟩) wi hty hn hf (g := mkF m pc L (v :: .ref a :: St)) rfl rfl (hb C.2.1 hd)
  exact (kt h' W' p e s m args below meth c T' _ C X' (Fr.snoc X' N g) e').thru st
theorem putFN {R0 O nm d CC : String} {index kk : Nat} {ty : FieldType} {a : Addr} {v v' old : Value} (hd : decode bs pc = .ok (.putfield index, 3)) (w : (Cond.fieldLink y.cls index R0 nm d).before a0 Z = true) (via : Via Z R0 O nm d) (F : Fld Z h a O nm d old) (E : Exa Z h a CC)
    (Ly : (Cond.lays CC O nm d).before a0 Z = true ∨ ((Cond.laysFinal CC O nm d).before a0 Z = true ∧ y.cls = O ∧ y.name = "<init>")) (wi : (Cond.instantiable CC kk).before a0 Z = true) (hty : parseFieldDescriptor d = some ty) (hn : narrow ty v = v') (hf : fits ty v' = true) (g : n0 ≤ a) (hp : pc + 3 = pc')
    (kt : ∀ h', Wr h h' a (Jvm.RoadKit.slotOf Z O nm d) v' → Go l Z R y bs ml ret n0 Q h' k n pc' L St) : Go l Z R y bs ml ret n0 Q h k n pc L (v :: .ref a :: St) := by
  subst hp
  intro p e s m args below meth c T locs C X N eT
  obtain ⟨T', h', X', e', W', st⟩ := Jvm.RoadKit.putFN X C.1 C.2.2.2.2.2.2.2 C.2.2.2.1 w via eT F E (Ly.imp id fun q => ⟨q.1, q.2.1, C.2.2.2.2.1.trans q.2.2⟩) wi hty hn hf (g := mkF m pc L (v :: .ref a :: St)) rfl rfl (hb C.2.1 hd)
  exact (kt h' W' p e s m args below meth c T' _ C X' (Fr.snoc X' N g) e').thru st
theorem newO {CC : String} {index nn : Nat} (hd : decode bs pc = .ok (.new index, 3)) (w : (Cond.classLink y.cls index CC).before a0 Z = true) (wi : (Cond.instantiable CC nn).before a0 Z = true) (wz : (Cond.initialized CC).before a0 Z = true) (ek : k + 1 = k') (en : n + nn = n') (hc : k' ≤ R.cells) (hl : n' ≤ R.slots) (hp : pc + 3 = pc')
    (kt : ∀ h' a, a = h.size → Ext h h' → Exa Z h' a CC → (∀ {O nm d : String} {ty : FieldType}, Laid Z a0 CC O nm d → parseFieldDescriptor d = some ty → Fld Z h' a O nm d (defaultValue ty)) → Go l Z R y bs ml ret n0 Q h' k' n' pc' L (.ref a :: St)) : Go l Z R y bs ml ret n0 Q h k n pc L St := by
  subst hp ek en
  intro p e s m args below meth c T locs C X N eT
  obtain ⟨T', h', X', e', E, A, D, -, st⟩ := Jvm.RoadKit.newO X C.1 C.2.2.2.2.2.2.2 C.2.2.2.1 w wi wz eT (g := mkF m pc L St) rfl (hb C.2.1 hd) hc hl
  exact (kt h' _ rfl E A D p e s m args below meth c T' _ C X' N e').thru st
theorem newP {aty : ArrayType} {x : Int32} {cap : Nat} (hd : decode bs pc = .ok (.newarray aty, 2)) (w : (Cond.arrayClass (newarray.typeOf aty)).before a0 Z = true) (hn : ¬ x < 0) (hcap : x.toNatClampNeg ≤ cap) (hb' : cap * 8 ≤ 536870912) (ek : k + 1 = k') (en : n + cap = n') (hc : k' ≤ R.cells) (hl : n' ≤ R.slots) (hp : pc + 2 = pc')
    (kt : ∀ h' cA a, a = h.size → Ext h h' → Arr Z h' a (newA cA (newarray.typeOf aty) x) (newarray.typeOf aty) → Go l Z R y bs ml ret n0 Q h' k' n' pc' L (.ref a :: St)) : Go l Z R y bs ml ret n0 Q h k n pc L (.int x :: St) := by
  subst hp ek en
  intro p e s m args below meth c T locs C X N eT
  obtain ⟨T', h', cA, X', e', E, A, st⟩ := Jvm.RoadKit.newP X C.1 C.2.2.2.2.2.2.2 w eT (g := mkF m pc L (.int x :: St)) rfl (hb C.2.1 hd) rfl hn hcap hb' hc hl
  exact (kt h' cA _ rfl E A p e s m args below meth c T' _ C X' N e').thru st
theorem newR {CC : String} {index : Nat} {x : Int32} {cap : Nat} (hd : decode bs pc = .ok (.anewarray index, 3)) (w1 : (Cond.classLink y.cls index CC).before a0 Z = true) (w2 : (Cond.arrayOver (.object CC)).before a0 Z = true) (hn : ¬ x < 0) (hcap : x.toNatClampNeg ≤ cap) (hb' : cap * 8 ≤ 536870912) (ek : k + 1 = k') (en : n + cap = n') (hc : k' ≤ R.cells) (hl : n' ≤ R.slots) (hp : pc + 3 = pc')
    (kt : ∀ h' cA a, a = h.size → Ext h h' → Arr Z h' a (newA cA (.object CC) x) (.object CC) → Ovr Z cA CC → Go l Z R y bs ml ret n0 Q h' k' n' pc' L (.ref a :: St)) : Go l Z R y bs ml ret n0 Q h k n pc L (.int x :: St) := by
  subst hp ek en
  intro p e s m args below meth c T locs C X N eT
  obtain ⟨T', h', cA, X', e', E, A, O, st⟩ := Jvm.RoadKit.newR X C.1 C.2.2.2.2.2.2.2 C.2.2.2.1 w1 w2 eT (g := mkF m pc L (.int x :: St)) rfl (hb C.2.1 hd) rfl hn hcap hb' hc hl
  exact (kt h' cA _ rfl E A O p e s m args below meth c T' _ C X' N e').thru st
theorem stI {a : Addr} {cl : Cell} {j : Int32} {x : Int32} (hd : decode bs pc = .ok (.iastore, 1)) (A : Arr Z h a cl .int) (hj : ¬ (j < 0 ∨ cl.slots.size ≤ j.toNatClampNeg)) (g : n0 ≤ a) (hp : pc + 1 = pc') (kt : ∀ h', Wr h h' a j.toNatClampNeg (.int x) → Go l Z R y bs ml ret n0 Q h' k n pc' L St) : Go l Z R y bs ml ret n0 Q h k n pc L (.int x :: .int j :: .ref a :: St) := by
  subst hp
  intro p e s m args below meth c T locs C X N eT
  obtain ⟨T', h', X', e', W', st⟩ := Jvm.RoadKit.stI X C.1 C.2.2.2.2.2.2.2 eT A hj (g := mkF m pc L (.int x :: .int j :: .ref a :: St)) rfl rfl (hb C.2.1 hd)
  exact (kt h' W' p e s m args below meth c T' _ C X' (Fr.snoc X' N g) e').thru st
theorem stJ {a : Addr} {cl : Cell} {j : Int32} {x : Int64} (hd : decode bs pc = .ok (.lastore, 1)) (A : Arr Z h a cl .long) (hj : ¬ (j < 0 ∨ cl.slots.size ≤ j.toNatClampNeg)) (g : n0 ≤ a) (hp : pc + 1 = pc') (kt : ∀ h', Wr h h' a j.toNatClampNeg (.long x) → Go l Z R y bs ml ret n0 Q h' k n pc' L St) : Go l Z R y bs ml ret n0 Q h k n pc L (.long x :: .int j :: .ref a :: St) := by
  subst hp
  intro p e s m args below meth c T locs C X N eT
  obtain ⟨T', h', X', e', W', st⟩ := Jvm.RoadKit.stJ X C.1 C.2.2.2.2.2.2.2 eT A hj (g := mkF m pc L (.long x :: .int j :: .ref a :: St)) rfl rfl (hb C.2.1 hd)
  exact (kt h' W' p e s m args below meth c T' _ C X' (Fr.snoc X' N g) e').thru st
theorem stB {a : Addr} {cl : Cell} {j : Int32} {x : Int32} (hd : decode bs pc = .ok (.bastore, 1)) (A : Arr Z h a cl .byte) (hj : ¬ (j < 0 ∨ cl.slots.size ≤ j.toNatClampNeg)) (g : n0 ≤ a) (hp : pc + 1 = pc') (kt : ∀ h', Wr h h' a j.toNatClampNeg (.int (nar .byte x)) → Go l Z R y bs ml ret n0 Q h' k n pc' L St) : Go l Z R y bs ml ret n0 Q h k n pc L (.int x :: .int j :: .ref a :: St) := by
  subst hp
  intro p e s m args below meth c T locs C X N eT
  obtain ⟨T', h', X', e', W', st⟩ := Jvm.RoadKit.stB X C.1 C.2.2.2.2.2.2.2 eT A hj (g := mkF m pc L (.int x :: .int j :: .ref a :: St)) rfl rfl (hb C.2.1 hd)
  exact (kt h' W' p e s m args below meth c T' _ C X' (Fr.snoc X' N g) e').thru st
theorem stC {a : Addr} {cl : Cell} {j : Int32} {x : Int32} (hd : decode bs pc = .ok (.castore, 1)) (A : Arr Z h a cl .char) (hj : ¬ (j < 0 ∨ cl.slots.size ≤ j.toNatClampNeg)) (g : n0 ≤ a) (hp : pc + 1 = pc') (kt : ∀ h', Wr h h' a j.toNatClampNeg (.int (nar .char x)) → Go l Z R y bs ml ret n0 Q h' k n pc' L St) : Go l Z R y bs ml ret n0 Q h k n pc L (.int x :: .int j :: .ref a :: St) := by
  subst hp
  intro p e s m args below meth c T locs C X N eT
  obtain ⟨T', h', X', e', W', st⟩ := Jvm.RoadKit.stC X C.1 C.2.2.2.2.2.2.2 eT A hj (g := mkF m pc L (.int x :: .int j :: .ref a :: St)) rfl rfl (hb C.2.1 hd)
  exact (kt h' W' p e s m args below meth c T' _ C X' (Fr.snoc X' N g) e').thru st
theorem stZ {a : Addr} {cl : Cell} {j : Int32} {x : Int32} (hd : decode bs pc = .ok (.bastore, 1)) (A : Arr Z h a cl .boolean) (hj : ¬ (j < 0 ∨ cl.slots.size ≤ j.toNatClampNeg)) (g : n0 ≤ a) (hp : pc + 1 = pc') (kt : ∀ h', Wr h h' a j.toNatClampNeg (.int (nar .boolean x)) → Go l Z R y bs ml ret n0 Q h' k n pc' L St) : Go l Z R y bs ml ret n0 Q h k n pc L (.int x :: .int j :: .ref a :: St) := by
  subst hp
  intro p e s m args below meth c T locs C X N eT
  obtain ⟨T', h', X', e', W', st⟩ := Jvm.RoadKit.stZ X C.1 C.2.2.2.2.2.2.2 eT A hj (g := mkF m pc L (.int x :: .int j :: .ref a :: St)) rfl rfl (hb C.2.1 hd)
  exact (kt h' W' p e s m args below meth c T' _ C X' (Fr.snoc X' N g) e').thru st
theorem stR {a : Addr} {cl : Cell} {ty : FieldType} {j : Int32} {v : Value} (hd : decode bs pc = .ok (.aastore, 1)) (A : Arr Z h a cl ty) (hj : ¬ (j < 0 ∨ cl.slots.size ≤ j.toNatClampNeg)) (hty : ty.isReference = true) (F : Sto Z h a v) (g : n0 ≤ a) (hp : pc + 1 = pc') (kt : ∀ h', Wr h h' a j.toNatClampNeg v → Go l Z R y bs ml ret n0 Q h' k n pc' L St) : Go l Z R y bs ml ret n0 Q h k n pc L (v :: .int j :: .ref a :: St) := by
  subst hp
  intro p e s m args below meth c T locs C X N eT
  obtain ⟨T', h', X', e', W', st⟩ := Jvm.RoadKit.stR X C.1 C.2.2.2.2.2.2.2 eT A hj hty F (g := mkF m pc L (v :: .int j :: .ref a :: St)) rfl rfl (hb C.2.1 hd)
  exact (kt h' W' p e s m args below meth c T' _ C X' (Fr.snoc X' N g) e').thru st
theorem iaload {a : Addr} {cl : Cell} {j : Int32} {v : Value} (hd : decode bs pc = .ok (.iaload, 1)) (A : Arr Z h a cl .int) (hj : ¬ (j < 0 ∨ cl.slots.size ≤ j.toNatClampNeg)) (hv : cl.slots[j.toNatClampNeg]? = some v) (hp : pc + 1 = pc') (kt : Go l Z R y bs ml ret n0 Q h k n pc' L (v :: St)) : Go l Z R y bs ml ret n0 Q h k n pc L (.int j :: .ref a :: St) := by
  subst hp
  intro p e s m args below meth c T locs C X N eT
  exact (kt p e s m args below meth c T locs C X N eT).thru fun t q => X.iaload C.1 (by rw [eT]; exact A.1) (State.isArrayOf_alike C.2.2.2.2.2.2.2.alike A.2.1) A.2.2 hj hv (g := mkF m pc L (.int j :: .ref a :: St)) rfl rfl (hb C.2.1 hd) _ q
theorem laload {a : Addr} {cl : Cell} {j : Int32} {v : Value} (hd : decode bs pc = .ok (.laload, 1)) (A : Arr Z h a cl .long) (hj : ¬ (j < 0 ∨ cl.slots.size ≤ j.toNatClampNeg)) (hv : cl.slots[j.toNatClampNeg]? = some v) (hp : pc + 1 = pc') (kt : Go l Z R y bs ml ret n0 Q h k n pc' L (v :: St)) : Go l Z R y bs ml ret n0 Q h k n pc L (.int j :: .ref a :: St) := by
  subst hp
  intro p e s m args below meth c T locs C X N eT
  exact (kt p e s m args below meth c T locs C X N eT).thru fun t q => X.laload C.1 (by rw [eT]; exact A.1) (State.isArrayOf_alike C.2.2.2.2.2.2.2.alike A.2.1) A.2.2 hj hv (g := mkF m pc L (.int j :: .ref a :: St)) rfl rfl (hb C.2.1 hd) _ q
theorem caload {a : Addr} {cl : Cell} {j : Int32} {v : Value} (hd : decode bs pc = .ok (.caload, 1)) (A : Arr Z h a cl .char) (hj : ¬ (j < 0 ∨ cl.slots.size ≤ j.toNatClampNeg)) (hv : cl.slots[j.toNatClampNeg]? = some v) (hp : pc + 1 = pc') (kt : Go l Z R y bs ml ret n0 Q h k n pc' L (v :: St)) : Go l Z R y bs ml ret n0 Q h k n pc L (.int j :: .ref a :: St) := by
  subst hp
  intro p e s m args below meth c T locs C X N eT
  exact (kt p e s m args below meth c T locs C X N eT).thru fun t q => X.caload C.1 (by rw [eT]; exact A.1) (State.isArrayOf_alike C.2.2.2.2.2.2.2.alike A.2.1) A.2.2 hj hv (g := mkF m pc L (.int j :: .ref a :: St)) rfl rfl (hb C.2.1 hd) _ q
theorem baload {a : Addr} {cl : Cell} {j : Int32} {v : Value} (hd : decode bs pc = .ok (.baload, 1)) (A : Arr Z h a cl .byte) (hj : ¬ (j < 0 ∨ cl.slots.size ≤ j.toNatClampNeg)) (hv : cl.slots[j.toNatClampNeg]? = some v) (hp : pc + 1 = pc') (kt : Go l Z R y bs ml ret n0 Q h k n pc' L (v :: St)) : Go l Z R y bs ml ret n0 Q h k n pc L (.int j :: .ref a :: St) := by
  subst hp
  intro p e s m args below meth c T locs C X N eT
  exact (kt p e s m args below meth c T locs C X N eT).thru fun t q => X.baloadBytes C.1 (by rw [eT]; exact A.1) (State.isArrayOf_alike C.2.2.2.2.2.2.2.alike A.2.1) A.2.2 hj hv (g := mkF m pc L (.int j :: .ref a :: St)) rfl rfl (hb C.2.1 hd) _ q
theorem aaload {a : Addr} {cl : Cell} {ty : FieldType} {j : Int32} {v : Value} (hd : decode bs pc = .ok (.aaload, 1)) (A : Arr Z h a cl ty) (hty : ty.isReference = true) (hj : ¬ (j < 0 ∨ cl.slots.size ≤ j.toNatClampNeg)) (hv : cl.slots[j.toNatClampNeg]? = some v) (hp : pc + 1 = pc') (kt : Go l Z R y bs ml ret n0 Q h k n pc' L (v :: St)) : Go l Z R y bs ml ret n0 Q h k n pc L (.int j :: .ref a :: St) := by
  subst hp
  intro p e s m args below meth c T locs C X N eT
  exact (kt p e s m args below meth c T locs C X N eT).thru fun t q => X.aaload C.1 (by rw [eT]; exact A.1) (State.isArrayOf_alike C.2.2.2.2.2.2.2.alike A.2.1) hty A.2.2 hj hv (g := mkF m pc L (.int j :: .ref a :: St)) rfl rfl (hb C.2.1 hd) _ q
theorem alen {a : Addr} {cl : Cell} {ty : FieldType} {x : Int32} (hd : decode bs pc = .ok (.arraylength, 1)) (A : Arr Z h a cl ty) (hx : cl.slots.size.toInt32 = x) (hp : pc + 1 = pc') (kt : Go l Z R y bs ml ret n0 Q h k n pc' L (.int x :: St)) : Go l Z R y bs ml ret n0 Q h k n pc L (.ref a :: St) := by
  subst hp hx
  intro p e s m args below meth c T locs C X N eT
  exact (kt p e s m args below meth c T locs C X N eT).thru fun t q => X.arraylength C.1 (by rw [eT]; exact A.1) (State.isArrayOf_alike C.2.2.2.2.2.2.2.alike A.2.1) (g := mkF m pc L (.ref a :: St)) rfl rfl (hb C.2.1 hd) _ q
theorem multi22 {index : Nat} {ty : FieldType} {cn : String} (hd : decode bs pc = .ok (.multianewarray index 2, 4)) (w1 : (Cond.classLink y.cls index cn).before a0 Z = true) (hcn : "[" ++ (FieldType.array ty).toString = cn) (w2 : (Cond.arrayOver (.array ty)).before a0 Z = true) (w3 : (Cond.arrayClass ty).before a0 Z = true) (hcb : componentBytes ty ≤ 8) (hdf : fits ty (defaultValue ty) = true) (hdd : (defaultValue ty).isDefault = true) (ek : k + 3 = k') (en : n + 6 = n') (hc : k' ≤ R.cells) (hl : n' ≤ R.slots) (hp : pc + 4 = pc')
    (kt : ∀ h' cA cI a, a = h.size → h'.size = h.size + 3 → Ext h h' → Arv Z h' a cA (.array ty) (2 : Int32) [.ref (a + 1), .ref (a + 2)] .null → Arv Z h' (a + 1) cI ty (2 : Int32) [defaultValue ty, defaultValue ty] (defaultValue ty) → Arv Z h' (a + 2) cI ty (2 : Int32) [defaultValue ty, defaultValue ty] (defaultValue ty) → Z.vm.findClass (FieldType.array ty).toString = some cI → Go l Z R y bs ml ret n0 Q h' k' n' pc' L (.ref a :: St)) : Go l Z R y bs ml ret n0 Q h k n pc L (.int (2 : Int32) :: .int (2 : Int32) :: St) := by
  subst hp ek en hcn
  intro p e s m args below meth c T locs C X N eT
  have hZ := C.2.2.2.2.2.2.2
  have hc2 : (2 : Int32).toNatClampNeg = 2 := by decide
  obtain ⟨vm₁, cA, cI, hW, hfA, hfC, hO, hI, X', st⟩ := X.multianewarray2F C.1 C.2.2.2.1 (mvT hZ w1) ((Cond.arrayOver_setVmC (args := a0) (s := Z) hZ.alike (.array ty)).trans w2) (mvA hZ w3) (g := mkF m pc L (.int (2 : Int32) :: .int (2 : Int32) :: St)) rfl (hb C.2.1 hd) (n := (2 : Int32)) (k := (2 : Int32)) (rest := St) rfl (by decide) (by decide) (by decide) (by rw [hc2]; omega) (by decide) hdf hdd (by rw [hc2]; omega) (by rw [hc2]; omega)
  rw [hc2] at X' st
  subst eT
  obtain ⟨f1, f2, -, -⟩ := Jvm.Free.Multi.fill_facts (T.setVm vm₁) cA cI 2 2 (defaultValue ty) 2
  obtain ⟨o1, o2, o3⟩ := Jvm.Free.Multi.outerC_facts cA 2 (T.setVm vm₁).heap.size 2
  have hsz : (T.setVm vm₁).heap.size = T.heap.size := rfl
  have al : s.vm.Alike Z.vm := hZ.alike.symm
  have EE : Ext T.heap (Jvm.Free.Multi.fill (T.setVm vm₁) cA cI 2 2 (defaultValue ty) 2).heap := ext_of fun a q => Jvm.Free.Multi.fill_old (T.setVm vm₁) cA cI 2 2 (defaultValue ty) q 2
  have inn : ∀ j, j < 2 → Arv Z (Jvm.Free.Multi.fill (T.setVm vm₁) cA cI 2 2 (defaultValue ty) 2).heap (T.heap.size + 1 + j) cI ty (2 : Int32) [defaultValue ty, defaultValue ty] (defaultValue ty) := fun j hj => by
    have hget := Jvm.Free.Multi.fill_inner (T.setVm vm₁) cA cI 2 2 (defaultValue ty) 2 j hj
    refine ⟨_, ⟨hget, State.isArrayOf_alike al (hI 2 (defaultValue ty)).1, (hI 2 (defaultValue ty)).2⟩, rfl, by simp [Jvm.Free.Multi.innerC, hc2], by decide, fun i hi => ?_, fun i hi => ?_⟩
    · simp only [Jvm.Free.Multi.innerC, Array.size_replicate] at hi ⊢
      match i, hi with
      | 0, _ => rfl
      | 1, _ => rfl
    · simp only [Jvm.Free.Multi.innerC, Array.size_replicate] at hi
      match i, hi with
      | 0, _ => exact hdf
      | 1, _ => exact hdf
  have hZc : Z.vm.findClass (FieldType.array ty).toString = some cI := by rw [← hZ.alike.findClass]; exact hfC
  refine (kt _ cA cI T.heap.size rfl f1 EE ?_ (inn 0 (by decide)) (inn 1 (by decide)) hZc p e s m args below meth c _ _ C X' N rfl).thru st
  refine ⟨_, ⟨f2, State.isArrayOf_alike al (hO 2 _ 2).1, (hO 2 _ 2).2⟩, o1, by rw [o3, hc2], by decide, fun i hi => ?_, fun i hi => ?_⟩
  · rw [o3] at hi
    rw [Jvm.Free.Multi.outerC_slot cA 2 _ 2 i hi, if_pos hi]
    match i, hi with
    | 0, _ => rfl
    | 1, _ => rfl
  · rw [o3] at hi
    match i, hi with
    | 0, _ => rfl
    | 1, _ => rfl
theorem castY {KK : String} {index : Nat} {a : Addr} (hd : decode bs pc = .ok (.checkcast index, 3)) (w : (Cond.classLink y.cls index KK).before a0 Z = true) (F : Ins Z h a KK true) (hp : pc + 3 = pc') (kt : Go l Z R y bs ml ret n0 Q h k n pc' L (.ref a :: St)) : Go l Z R y bs ml ret n0 Q h k n pc L (.ref a :: St) := by
  subst hp
  intro p e s m args below meth c T locs C X N eT
  obtain ⟨T', X', e', st⟩ := Jvm.RoadKit.castY X C.1 C.2.2.2.2.2.2.2 C.2.2.2.1 w eT F (g := mkF m pc L (.ref a :: St)) rfl rfl (hb C.2.1 hd)
  exact (kt p e s m args below meth c T' locs C X' N e').thru st
theorem instY {KK : String} {index : Nat} {a : Addr} (hd : decode bs pc = .ok (.instanceof index, 3)) (w : (Cond.classLink y.cls index KK).before a0 Z = true) (F : Ins Z h a KK true) (hp : pc + 3 = pc') (kt : Go l Z R y bs ml ret n0 Q h k n pc' L (.int 1 :: St)) : Go l Z R y bs ml ret n0 Q h k n pc L (.ref a :: St) := by
  subst hp
  intro p e s m args below meth c T locs C X N eT
  obtain ⟨T', X', e', st⟩ := Jvm.RoadKit.instY X C.1 C.2.2.2.2.2.2.2 C.2.2.2.1 w eT F (g := mkF m pc L (.ref a :: St)) rfl rfl (hb C.2.1 hd)
  exact (kt p e s m args below meth c T' locs C X' N e').thru st
theorem instNo {KK CC : String} {index : Nat} {a : Addr} (hd : decode bs pc = .ok (.instanceof index, 3)) (w : (Cond.classLink y.cls index KK).before a0 Z = true) (E : Exa Z h a CC) (F : ∃ c t, Z.vm.findClass CC = some c ∧ Z.vm.findClass KK = some t ∧ Z.vm.assignable c t = false) (hp : pc + 3 = pc') (kt : Go l Z R y bs ml ret n0 Q h k n pc' L (.int 0 :: St)) : Go l Z R y bs ml ret n0 Q h k n pc L (.ref a :: St) := by
  subst hp
  intro p e s m args below meth c T locs C X N eT
  obtain ⟨T', X', e', st⟩ := Jvm.RoadKit.instNo X C.1 C.2.2.2.2.2.2.2 C.2.2.2.1 w eT E F (g := mkF m pc L (.ref a :: St)) rfl rfl (hb C.2.1 hd)
  exact (kt p e s m args below meth c T' locs C X' N e').thru st
theorem instNull {index : Nat} (hd : decode bs pc = .ok (.instanceof index, 3)) (hp : pc + 3 = pc') (kt : Go l Z R y bs ml ret n0 Q h k n pc' L (.int 0 :: St)) : Go l Z R y bs ml ret n0 Q h k n pc L (.null :: St) := by
  subst hp
  intro p e s m args below meth c T locs C X N eT
  exact (kt p e s m args below meth c T locs C X N eT).thru (X.instanceofNull C.1 (g := mkF m pc L (.null :: St)) rfl rfl (hb C.2.1 hd))
theorem castNull {index : Nat} (hd : decode bs pc = .ok (.checkcast index, 3)) (hp : pc + 3 = pc') (kt : Go l Z R y bs ml ret n0 Q h k n pc' L (.null :: St)) : Go l Z R y bs ml ret n0 Q h k n pc L (.null :: St) := by
  subst hp
  intro p e s m args below meth c T locs C X N eT
  exact (kt p e s m args below meth c T locs C X N eT).thru (X.checkcastNull C.1 (g := mkF m pc L (.null :: St)) rfl rfl (hb C.2.1 hd))
theorem initO {index : Nat} {a : Addr} {W : Nat} (hd : decode bs pc = .ok (.invokespecial index, 3)) (w1 : (Cond.methodLink y.cls index Lib.objectInit).before a0 Z = true) (w2 : (Cond.instanceMethod Lib.objectInit).before a0 Z = true) (w3 : (Cond.code Lib.objectInit ⟨#[0xb1]⟩ 1 none).before a0 Z = true) (hsz : L.size = ml) (hf : 1 ≤ R.frames) (hW : (St.map fun v => v.category).sum ≤ W) (hl : W + 12 ≤ R.locals) (hp : pc + 3 = pc') (kt : Go l Z R y bs ml ret n0 Q h k n pc' L St) : Go l Z R y bs ml ret n0 Q h k n pc L (.ref a :: St) := by
  subst hp
  intro p e s m args below meth c T locs C X N eT
  obtain ⟨T', X', e', st⟩ := Jvm.RoadKit.initO X C.1 C.2.2.2.2.2.2.2 C.2.2.2.1 w1 w2 w3 eT (g := mkF m pc L (.ref a :: St)) rfl (by rw [C.2.2.1]; exact hsz) rfl (hb C.2.1 hd) hf (W := W) (by show 2 * 0 + _ ≤ _; omega) hl
  exact (kt p e s m args below meth c T' locs C X' N e').thru st
theorem callS {z : MethodName} {bz : ByteArray} {mz : Nat} {rz : Option FieldType} {rm : Room} {as' : Array Value} {Q' : Option Value → Heap → Prop} {W : Nat} {argsL rest : List Value} {ps : List FieldType} {rt : Option FieldType} {index : Nat} (hd : decode bs pc = .ok (.invokestatic index, 3)) (w1 : (Cond.methodLink y.cls index z).before a0 Z = true) (w2 : (Cond.static z).before a0 Z = true) (w3 : (Cond.initialized z.cls).before a0 Z = true) (w4 : (Cond.code z bz mz rz).before a0 Z = true) (hy : z.cls ≠ "java/lang/invoke/MethodHandle" ∧ z.cls ≠ "java/lang/invoke/VarHandle")
    (con : Con l Z rm z bz mz rz n0 as' h Q') (hf : rm.frames + 1 ≤ R.frames) (hl : W + (mz + 11) + rm.locals ≤ R.locals) (ek : k + rm.cells = k') (en : n + rm.slots = n') (hc : k' ≤ R.cells) (hn : n' ≤ R.slots) (hsz : L.size = ml) (pd : parseMethodDescriptor z.desc = some ⟨ps, rt⟩) (hlen : argsL.length = ps.length) (hst : St = argsL.reverse ++ rest) (has : as' = argsL.toArray) (hW : (rest.map fun v => v.category).sum ≤ W) (hp : pc + 3 = pc')
    (kt : ∀ h' v, Q' v h' → Go l Z R y bs ml ret n0 Q h' k' n' pc' L (v.toList ++ rest)) : Go l Z R y bs ml ret n0 Q h k n pc L St := by
  subst hp has ek en
  intro p e s m args below meth c T locs C X N eT
  have hZ := C.2.2.2.2.2.2.2
  obtain ⟨v, _, ⟨T', Lp, kp, np⟩, -, X', ⟨Lc, ⟨hQ, N'⟩, e1, e2, e3⟩, st⟩ := Jvm.LawKit.callS X C.1 (y := z) C.2.2.2.1 (mvT hZ w1) (mvT hZ w2) (mvT hZ w3) (mvT hZ w4) hy (backOf (W := W) (Q := fun v h' L => Q' v h' ∧ Fr n0 L) (con []) hZ w4 w3 hf hl) (g := mkF m pc L St) rfl (by rw [C.2.2.1]; exact hsz) (argsL := argsL) (rest := rest) (lenOf pd hlen) hst (by show 2 * 0 + _ ≤ _; omega) (hb C.2.1 hd) (fun _ _ => ⟨rfl, eT, hc, hn⟩)
  dsimp only [Pt.U, Pt.locs, Pt.cells, Pt.slots] at X' e1 e2 e3 st hQ
  subst e1 e2 e3
  exact (kt T'.heap v hQ p e s m args below meth c T' _ C X' (Fr.app N N') rfl).thru st
theorem callI {z : MethodName} {bz : ByteArray} {mz : Nat} {rm : Room} {as' : Array Value} {Q' : Option Value → Heap → Prop} {W : Nat} {argsL rest : List Value} {ps : List FieldType} {rt : Option FieldType} {index : Nat} {a : Addr} (hd : decode bs pc = .ok (.invokespecial index, 3)) (hi : z.name = "<init>") (w1 : (Cond.methodLink y.cls index z).before a0 Z = true) (w2 : (Cond.instanceMethod z).before a0 Z = true) (w3 : (Cond.initialized z.cls).before a0 Z = true) (w4 : (Cond.code z bz mz none).before a0 Z = true) (hy : z.cls ≠ "java/lang/invoke/MethodHandle" ∧ z.cls ≠ "java/lang/invoke/VarHandle")
    (con : Con l Z rm z bz mz none n0 as' h Q') (hf : rm.frames + 1 ≤ R.frames) (hl : W + (mz + 11) + rm.locals ≤ R.locals) (ek : k + rm.cells = k') (en : n + rm.slots = n') (hc : k' ≤ R.cells) (hn : n' ≤ R.slots) (hsz : L.size = ml) (pd : parseMethodDescriptor z.desc = some ⟨ps, rt⟩) (hlen : argsL.length = ps.length) (hst : St = argsL.reverse ++ .ref a :: rest) (has : as' = (.ref a :: argsL).toArray) (hW : (rest.map fun v => v.category).sum ≤ W) (hp : pc + 3 = pc')
    (kt : ∀ h' v, Q' v h' → Go l Z R y bs ml ret n0 Q h' k' n' pc' L (v.toList ++ rest)) : Go l Z R y bs ml ret n0 Q h k n pc L St := by
  subst hp has ek en
  intro p e s m args below meth c T locs C X N eT
  have hZ := C.2.2.2.2.2.2.2
  obtain ⟨v, _, ⟨T', Lp, kp, np⟩, -, X', ⟨Lc, ⟨hQ, N'⟩, e1, e2, e3⟩, st⟩ := X.specialBack C.1 (y := z) hi C.2.2.2.1 (mvT hZ w1) (mvT hZ w2) (mvT hZ w4) hy (backOf (W := W) (Q := fun v h' L => Q' v h' ∧ Fr n0 L) (con []) hZ w4 w3 hf hl) (g := mkF m pc L St) rfl (by rw [C.2.2.1]; exact hsz) (Steps.refl _) (a := a) (argsL := argsL) (rest := rest) (lenOf pd hlen) hst (by show 2 * 0 + _ ≤ _; omega) (hb C.2.1 hd) (fun _ _ => ⟨rfl, eT, hc, hn⟩)
  dsimp only [Pt.U, Pt.locs, Pt.cells, Pt.slots] at X' e1 e2 e3 st hQ
  subst e1 e2 e3
  exact (kt T'.heap v hQ p e s m args below meth c T' _ C X' (Fr.app N N') rfl).thru fun t q => st.trans q
theorem callV {z : MethodName} {bz : ByteArray} {mz : Nat} {rz : Option FieldType} {rm : Room} {as' : Array Value} {Q' : Option Value → Heap → Prop} {W : Nat} {argsL rest : List Value} {ps : List FieldType} {rt : Option FieldType} {index : Nat} {CC : String} {a : Addr} (hd : decode bs pc = .ok (.invokevirtual index, 3)) (w1 : (Cond.methodLink y.cls index z).before a0 Z = true) (w2 : (Cond.declares z).before a0 Z = true) (ws : (Cond.selects CC z z).before a0 Z = true) (wi : (Cond.instanceMethod z).before a0 Z = true) (w3 : (Cond.initialized z.cls).before a0 Z = true) (w4 : (Cond.code z bz mz rz).before a0 Z = true) (hy : z.cls ≠ "java/lang/invoke/MethodHandle" ∧ z.cls ≠ "java/lang/invoke/VarHandle") (E : Exa Z h a CC)
    (con : Con l Z rm z bz mz rz n0 as' h Q') (hf : rm.frames + 1 ≤ R.frames) (hl : W + (mz + 11) + rm.locals ≤ R.locals) (ek : k + rm.cells = k') (en : n + rm.slots = n') (hc : k' ≤ R.cells) (hn : n' ≤ R.slots) (hsz : L.size = ml) (pd : parseMethodDescriptor z.desc = some ⟨ps, rt⟩) (hlen : argsL.length = ps.length) (hst : St = argsL.reverse ++ .ref a :: rest) (has : as' = (.ref a :: argsL).toArray) (hW : (rest.map fun v => v.category).sum ≤ W) (hp : pc + 3 = pc')
    (kt : ∀ h' v, Q' v h' → Go l Z R y bs ml ret n0 Q h' k' n' pc' L (v.toList ++ rest)) : Go l Z R y bs ml ret n0 Q h k n pc L St := by
  subst hp has ek en
  intro p e s m args below meth c T locs C X N eT
  have hZ := C.2.2.2.2.2.2.2
  obtain ⟨cq, kq, qa, qb, qc⟩ := isOf hZ eT E
  obtain ⟨v, _, ⟨T', Lp, kp, np⟩, -, X', ⟨Lc, ⟨hQ, N'⟩, e1, e2, e3⟩, st⟩ := X.virtualBack C.1 (y := z) (z := z) C.2.2.2.1 (mvT hZ w1) (mvT hZ w2) (notFace_of_selects (args := #[]) (mvT hZ ws)) (mvT hZ ws) (mvT hZ wi) hy (backOf (W := W) (Q := fun v h' L => Q' v h' ∧ Fr n0 L) (con []) hZ w4 w3 hf hl) qa qc (g := mkF m pc L St) rfl (by rw [C.2.2.1]; exact hsz) (Steps.refl _) (argsL := argsL) (rest := rest) (lenOf pd hlen) hst (by show 2 * 0 + _ ≤ _; omega) (hb C.2.1 hd) (fun _ _ => ⟨rfl, eT, hc, hn⟩)
  dsimp only [Pt.U, Pt.locs, Pt.cells, Pt.slots] at X' e1 e2 e3 st hQ
  subst e1 e2 e3
  exact (kt T'.heap v hQ p e s m args below meth c T' _ C X' (Fr.app N N') rfl).thru fun t q => st.trans q
theorem callVF {z : MethodName} {bz : ByteArray} {mz : Nat} {rz : Option FieldType} {rm : Room} {as' : Array Value} {Q' : Option Value → Heap → Prop} {W : Nat} {argsL rest : List Value} {ps : List FieldType} {rt : Option FieldType} {index cnt : Nat} {x' : MethodName} {CC : String} {a : Addr} (hd : decode bs pc = .ok (.invokeinterface index cnt, 5)) (w1 : (Cond.methodLink y.cls index x').before a0 Z = true) (w2 : (Cond.declares x').before a0 Z = true) (wf : (Cond.interfaceMethod x'.cls x'.cls x'.name x'.desc).before a0 Z = true) (ws : (Cond.selects CC x' z).before a0 Z = true) (wi : (Cond.instanceMethod z).before a0 Z = true) (wp : (Cond.publicMethod z).before a0 Z = true) (wu : (Cond.unhidden CC x'.name x'.desc).before a0 Z = true) (wc : (Cond.castable CC x'.cls).before a0 Z = true) (w3 : (Cond.initialized z.cls).before a0 Z = true) (w4 : (Cond.code z bz mz rz).before a0 Z = true) (hy : x'.cls ≠ "java/lang/invoke/MethodHandle" ∧ x'.cls ≠ "java/lang/invoke/VarHandle") (E : Exa Z h a CC)
    (con : Con l Z rm z bz mz rz n0 as' h Q') (hf : rm.frames + 1 ≤ R.frames) (hl : W + (mz + 11) + rm.locals ≤ R.locals) (ek : k + rm.cells = k') (en : n + rm.slots = n') (hc : k' ≤ R.cells) (hn : n' ≤ R.slots) (hsz : L.size = ml) (pd : parseMethodDescriptor x'.desc = some ⟨ps, rt⟩) (hlen : argsL.length = ps.length) (hst : St = argsL.reverse ++ .ref a :: rest) (has : as' = (.ref a :: argsL).toArray) (hW : (rest.map fun v => v.category).sum ≤ W) (hp : pc + 5 = pc')
    (kt : ∀ h' v, Q' v h' → Go l Z R y bs ml ret n0 Q h' k' n' pc' L (v.toList ++ rest)) : Go l Z R y bs ml ret n0 Q h k n pc L St := by
  subst hp has ek en
  intro p e s m args below meth c T locs C X N eT
  have hZ := C.2.2.2.2.2.2.2
  obtain ⟨cq, kq, qa, qb, qc⟩ := isOf hZ eT E
  obtain ⟨v, _, ⟨T', Lp, kp, np⟩, -, X', ⟨Lc, ⟨hQ, N'⟩, e1, e2, e3⟩, st⟩ := X.interfaceBack C.1 (xi := x') (y := z) C.2.2.2.1 (mvT hZ w1) (mvT hZ w2) (mvT hZ wf (by have g1 := hy.1; have g2 := hy.2; simp [Cond.onTables, Cond.keepsFace, Cond.keeps, Cond.steady, Cond.faceAtom, g1, g2])) (mvT hZ ws) (mvT hZ wi) (mvT hZ wp) (mvT hZ wu) (mvT hZ wc) hy (backOf (W := W) (Q := fun v h' L => Q' v h' ∧ Fr n0 L) (con []) hZ w4 w3 hf hl) qa qb qc (g := mkF m pc L St) rfl (by rw [C.2.2.1]; exact hsz) (Steps.refl _) (argsL := argsL) (rest := rest) (lenOf pd hlen) hst (by show 2 * 0 + _ ≤ _; omega) (hb C.2.1 hd) (fun _ _ => ⟨rfl, eT, hc, hn⟩)
  dsimp only [Pt.U, Pt.locs, Pt.cells, Pt.slots] at X' e1 e2 e3 st hQ
  subst e1 e2 e3
  exact (kt T'.heap v hQ p e s m args below meth c T' _ C X' (Fr.app N N') rfl).thru fun t q => st.trans q
theorem callP {z : MethodName} {bz : ByteArray} {mz : Nat} {rz : Option FieldType} {rm : Room} {as' : Array Value} {Q' : Option Value → Heap → Prop} {W : Nat} {argsL rest : List Value} {ps : List FieldType} {rt : Option FieldType} {index : Nat} {a : Addr} {CC : String} (hd : decode bs pc = .ok (.invokevirtual index, 3)) (w1 : (Cond.methodLink y.cls index z).before a0 Z = true) (wi : (Cond.instanceMethod z).before a0 Z = true) {nn : Nat} (win : (Cond.instantiable z.cls nn).before a0 Z = true) (wp : (Cond.privateMethod z).before a0 Z = true) (w3 : (Cond.initialized z.cls).before a0 Z = true) (w4 : (Cond.code z bz mz rz).before a0 Z = true) (hy : z.cls ≠ "java/lang/invoke/MethodHandle" ∧ z.cls ≠ "java/lang/invoke/VarHandle") (E : Exa Z h a CC)
    (con : Con l Z rm z bz mz rz n0 as' h Q') (hf : rm.frames + 1 ≤ R.frames) (hl : W + (mz + 11) + rm.locals ≤ R.locals) (ek : k + rm.cells = k') (en : n + rm.slots = n') (hc : k' ≤ R.cells) (hn : n' ≤ R.slots) (hsz : L.size = ml) (pd : parseMethodDescriptor z.desc = some ⟨ps, rt⟩) (hlen : argsL.length = ps.length) (hst : St = argsL.reverse ++ .ref a :: rest) (has : as' = (.ref a :: argsL).toArray) (hW : (rest.map fun v => v.category).sum ≤ W) (hp : pc + 3 = pc')
    (kt : ∀ h' v, Q' v h' → Go l Z R y bs ml ret n0 Q h' k' n' pc' L (v.toList ++ rest)) : Go l Z R y bs ml ret n0 Q h k n pc L St := by
  subst hp has ek en
  intro p e s m args below meth c T locs C X N eT
  have hZ := C.2.2.2.2.2.2.2
  have ws : (Cond.selects z.cls z z).before a0 Z = true := by
    obtain ⟨t, kt, g1, g2, g3, g4, -, -⟩ := Cond.instantiable_spec win
    exact selects_self_of_private g1 g2 (Bool.or_eq_false_iff.mp g4).1 (Cond.privateMethod_at wp) wi hy
  obtain ⟨cq, qa, qb⟩ := E.cell
  obtain ⟨v, _, ⟨T', Lp, kp, np⟩, -, X', ⟨Lc, ⟨hQ, N'⟩, e1, e2, e3⟩, st⟩ := X.privateBack C.1 (y := z) C.2.2.2.1 (mvT hZ w1) (mvT hZ wi) (mvT hZ ws) (Cond.privateMethod_at (mvP hZ wp (args := #[]))) (mvT hZ w4) hy (backOf (W := W) (Q := fun v h' L => Q' v h' ∧ Fr n0 L) (con []) hZ w4 w3 hf hl) (g := mkF m pc L St) rfl (by rw [C.2.2.1]; exact hsz) (Steps.refl _) (a := a) (by rw [eT]; exact qa) qb (argsL := argsL) (rest := rest) (lenOf pd hlen) hst (by show 2 * 0 + _ ≤ _; omega) (hb C.2.1 hd) (fun _ _ => ⟨rfl, eT, hc, hn⟩)
  dsimp only [Pt.U, Pt.locs, Pt.cells, Pt.slots] at X' e1 e2 e3 st hQ
  subst e1 e2 e3
  exact (kt T'.heap v hQ p e s m args below meth c T' _ C X' (Fr.app N N') rfl).thru fun t q => st.trans q
theorem callS0 {z : MethodName} {bz : ByteArray} {mz : Nat} {rz : Option FieldType} {rm : Room} {as' : Array Value} {r : Option Value} {St' : List Value} {W : Nat} {argsL rest : List Value} {ps : List FieldType} {rt : Option FieldType} {index : Nat} (hd : decode bs pc = .ok (.invokestatic index, 3)) (w1 : (Cond.methodLink y.cls index z).before a0 Z = true) (w2 : (Cond.static z).before a0 Z = true) (w3 : (Cond.initialized z.cls).before a0 Z = true) (w4 : (Cond.code z bz mz rz).before a0 Z = true) (hy : z.cls ≠ "java/lang/invoke/MethodHandle" ∧ z.cls ≠ "java/lang/invoke/VarHandle")
    (con : Con l Z rm z bz mz rz n0 as' h (Ret r h)) (hf : rm.frames + 1 ≤ R.frames) (hl : W + (mz + 11) + rm.locals ≤ R.locals) (ek : k + rm.cells = k') (en : n + rm.slots = n') (hc : k' ≤ R.cells) (hn : n' ≤ R.slots) (hsz : L.size = ml) (pd : parseMethodDescriptor z.desc = some ⟨ps, rt⟩) (hlen : argsL.length = ps.length) (hst : St = argsL.reverse ++ rest) (has : as' = argsL.toArray) (hW : (rest.map fun v => v.category).sum ≤ W) (hs : r.toList ++ rest = St') (hp : pc + 3 = pc')
    (kt : Go l Z R y bs ml ret n0 Q h k' n' pc' L St') : Go l Z R y bs ml ret n0 Q h k n pc L St := by
  subst hs
  refine callS hd w1 w2 w3 w4 hy con hf hl ek en hc hn hsz pd hlen hst has hW hp ?_
  rintro h' v ⟨rfl, rfl⟩
  exact kt
theorem callI0 {z : MethodName} {bz : ByteArray} {mz : Nat} {rm : Room} {as' : Array Value} {r : Option Value} {St' : List Value} {W : Nat} {argsL rest : List Value} {ps : List FieldType} {rt : Option FieldType} {index : Nat} {a : Addr} (hd : decode bs pc = .ok (.invokespecial index, 3)) (hi : z.name = "<init>") (w1 : (Cond.methodLink y.cls index z).before a0 Z = true) (w2 : (Cond.instanceMethod z).before a0 Z = true) (w3 : (Cond.initialized z.cls).before a0 Z = true) (w4 : (Cond.code z bz mz none).before a0 Z = true) (hy : z.cls ≠ "java/lang/invoke/MethodHandle" ∧ z.cls ≠ "java/lang/invoke/VarHandle")
    (con : Con l Z rm z bz mz none n0 as' h (Ret r h)) (hf : rm.frames + 1 ≤ R.frames) (hl : W + (mz + 11) + rm.locals ≤ R.locals) (ek : k + rm.cells = k') (en : n + rm.slots = n') (hc : k' ≤ R.cells) (hn : n' ≤ R.slots) (hsz : L.size = ml) (pd : parseMethodDescriptor z.desc = some ⟨ps, rt⟩) (hlen : argsL.length = ps.length) (hst : St = argsL.reverse ++ .ref a :: rest) (has : as' = (.ref a :: argsL).toArray) (hW : (rest.map fun v => v.category).sum ≤ W) (hs : r.toList ++ rest = St') (hp : pc + 3 = pc')
    (kt : Go l Z R y bs ml ret n0 Q h k' n' pc' L St') : Go l Z R y bs ml ret n0 Q h k n pc L St := by
  subst hs
  refine callI hd hi w1 w2 w3 w4 hy con hf hl ek en hc hn hsz pd hlen hst has hW hp ?_
  rintro h' v ⟨rfl, rfl⟩
  exact kt
theorem callV0 {z : MethodName} {bz : ByteArray} {mz : Nat} {rz : Option FieldType} {rm : Room} {as' : Array Value} {r : Option Value} {St' : List Value} {W : Nat} {argsL rest : List Value} {ps : List FieldType} {rt : Option FieldType} {index : Nat} {CC : String} {a : Addr} (hd : decode bs pc = .ok (.invokevirtual index, 3)) (w1 : (Cond.methodLink y.cls index z).before a0 Z = true) (w2 : (Cond.declares z).before a0 Z = true) (ws : (Cond.selects CC z z).before a0 Z = true) (wi : (Cond.instanceMethod z).before a0 Z = true) (w3 : (Cond.initialized z.cls).before a0 Z = true) (w4 : (Cond.code z bz mz rz).before a0 Z = true) (hy : z.cls ≠ "java/lang/invoke/MethodHandle" ∧ z.cls ≠ "java/lang/invoke/VarHandle") (E : Exa Z h a CC)
    (con : Con l Z rm z bz mz rz n0 as' h (Ret r h)) (hf : rm.frames + 1 ≤ R.frames) (hl : W + (mz + 11) + rm.locals ≤ R.locals) (ek : k + rm.cells = k') (en : n + rm.slots = n') (hc : k' ≤ R.cells) (hn : n' ≤ R.slots) (hsz : L.size = ml) (pd : parseMethodDescriptor z.desc = some ⟨ps, rt⟩) (hlen : argsL.length = ps.length) (hst : St = argsL.reverse ++ .ref a :: rest) (has : as' = (.ref a :: argsL).toArray) (hW : (rest.map fun v => v.category).sum ≤ W) (hs : r.toList ++ rest = St') (hp : pc + 3 = pc')
    (kt : Go l Z R y bs ml ret n0 Q h k' n' pc' L St') : Go l Z R y bs ml ret n0 Q h k n pc L St := by
  subst hs
  refine callV hd w1 w2 ws wi w3 w4 hy E con hf hl ek en hc hn hsz pd hlen hst has hW hp ?_
  rintro h' v ⟨rfl, rfl⟩
  exact kt
theorem callVF0 {z : MethodName} {bz : ByteArray} {mz : Nat} {rz : Option FieldType} {rm : Room} {as' : Array Value} {r : Option Value} {St' : List Value} {W : Nat} {argsL rest : List Value} {ps : List FieldType} {rt : Option FieldType} {index cnt : Nat} {x' : MethodName} {CC : String} {a : Addr} (hd : decode bs pc = .ok (.invokeinterface index cnt, 5)) (w1 : (Cond.methodLink y.cls index x').before a0 Z = true) (w2 : (Cond.declares x').before a0 Z = true) (wf : (Cond.interfaceMethod x'.cls x'.cls x'.name x'.desc).before a0 Z = true) (ws : (Cond.selects CC x' z).before a0 Z = true) (wi : (Cond.instanceMethod z).before a0 Z = true) (wp : (Cond.publicMethod z).before a0 Z = true) (wu : (Cond.unhidden CC x'.name x'.desc).before a0 Z = true) (wc : (Cond.castable CC x'.cls).before a0 Z = true) (w3 : (Cond.initialized z.cls).before a0 Z = true) (w4 : (Cond.code z bz mz rz).before a0 Z = true) (hy : x'.cls ≠ "java/lang/invoke/MethodHandle" ∧ x'.cls ≠ "java/lang/invoke/VarHandle") (E : Exa Z h a CC)
    (con : Con l Z rm z bz mz rz n0 as' h (Ret r h)) (hf : rm.frames + 1 ≤ R.frames) (hl : W + (mz + 11) + rm.locals ≤ R.locals) (ek : k + rm.cells = k') (en : n + rm.slots = n') (hc : k' ≤ R.cells) (hn : n' ≤ R.slots) (hsz : L.size = ml) (pd : parseMethodDescriptor x'.desc = some ⟨ps, rt⟩) (hlen : argsL.length = ps.length) (hst : St = argsL.reverse ++ .ref a :: rest) (has : as' = (.ref a :: argsL).toArray) (hW : (rest.map fun v => v.category).sum ≤ W) (hs : r.toList ++ rest = St') (hp : pc + 5 = pc')
    (kt : Go l Z R y bs ml ret n0 Q h k' n' pc' L St') : Go l Z R y bs ml ret n0 Q h k n pc L St := by
  subst hs
  refine callVF hd w1 w2 wf ws wi wp wu wc w3 w4 hy E con hf hl ek en hc hn hsz pd hlen hst has hW hp ?_
  rintro h' v ⟨rfl, rfl⟩
  exact kt
end Laws
end Jvm.OwnW
namespace Jvm.Pilot.@@N@@
open Jvm Jvm.ClassFile Sem Op Lib Jvm.Free Jvm.Stand Jvm.LawKit Jvm.RoadKit Bundle Jvm.OwnW Jvm.Pilot.@@N@@.Jvm.D
theorem pd_2829V : parseMethodDescriptor "()V" = some ⟨[], none⟩ := by decide +kernel
theorem pd_28II29V : parseMethodDescriptor "(II)V" = some ⟨[.int, .int], none⟩ := by decide +kernel
theorem pd_2829I : parseMethodDescriptor "()I" = some ⟨[], some .int⟩ := by decide +kernel
theorem pd_28Ljava2flang2fObject3b29Z : parseMethodDescriptor "(Ljava/lang/Object;)Z" = some ⟨[(.object "java/lang/Object")], some .boolean⟩ := by decide +kernel
theorem d2_0 : decode jdk_30_method_1_code 0 = .ok (.aload_n 0, 1) := by decide +kernel
theorem d2_1 : decode jdk_30_method_1_code 1 = .ok (.invokespecial 1, 3) := by decide +kernel
theorem d2_4 : decode jdk_30_method_1_code 4 = .ok (.return_, 1) := by decide +kernel
abbrev GoB2 (l : Launch) (Z : State) (n0 : Nat) (Q : Option Value → Heap → Prop) := Go l Z ({ frames := 1, cells := 0, slots := 0, locals := 12 } : Room) (⟨"java/lang/Record", "<init>", "()V"⟩ : MethodName) jdk_30_method_1_code 1 none n0 Q
theorem ef2 (m : MethodId) (o : Addr) : entryFrame m #[(.ref o)] 1 = mkF m 0 #[.val (.ref o)] [] := by first | (simp [entryFrame, mkF, argsToLocals, Value.category]; done) | rfl
set_option maxRecDepth 65536 in
set_option maxHeartbeats 40000000 in
theorem rm2 (l : Launch) (Z : State) (a0 : Array Value) (hw : ∀ d ∈ tables_1, d.before a0 Z = true) (o : Addr) (h0 : Heap) (n0 : Nat) :
    Con l Z ({ frames := 1, cells := 0, slots := 0, locals := 12 } : Room) (⟨"java/lang/Record", "<init>", "()V"⟩ : MethodName) jdk_30_method_1_code 1 none n0 #[(.ref o)] h0 (OwnW.Ret none h0) := by
  refine OwnW.Con.of (by first | decide +kernel | exact plainFor_of_name (by simp [plainName, overriddenIn])) (fun m => ef2 m o) ?_
  show GoB2 l Z n0 (OwnW.Ret none h0) h0 0 0 0 #[.val (.ref o)] []
  refine OwnW.aloadN (pc' := 1) d2_0 rfl (rfl) rfl ?_
  refine OwnW.initO (a0 := a0) (pc' := 4) (W := 0) d2_1 (hw _ (List.mem_of_getElem? (i := 13) rfl)) (hw _ (List.mem_of_getElem? (i := 14) rfl)) (hw _ (List.mem_of_getElem? (i := 15) rfl)) rfl (by decide) (Nat.le_of_ble_eq_true rfl) (by decide) rfl ?_
  exact OwnW.ret0 d2_4 rfl (by decide) (by decide) (⟨rfl, rfl⟩)
theorem d1_0 : decode prog_30_method_1_code 0 = .ok (.aload_n 0, 1) := by decide +kernel
theorem d1_1 : decode prog_30_method_1_code 1 = .ok (.invokespecial 1, 3) := by decide +kernel
theorem d1_4 : decode prog_30_method_1_code 4 = .ok (.iload_n 1, 1) := by decide +kernel
theorem d1_5 : decode prog_30_method_1_code 5 = .ok (.iconst 1, 1) := by decide +kernel
theorem d1_6 : decode prog_30_method_1_code 6 = .ok (.if_icmp .lt 8, 3) := by decide +kernel
theorem d1_9 : decode prog_30_method_1_code 9 = .ok (.iload_n 2, 1) := by decide +kernel
theorem d1_10 : decode prog_30_method_1_code 10 = .ok (.iload_n 1, 1) := by decide +kernel
theorem d1_11 : decode prog_30_method_1_code 11 = .ok (.if_icmp .ge 18, 3) := by decide +kernel
theorem d1_29 : decode prog_30_method_1_code 29 = .ok (.aload_n 0, 1) := by decide +kernel
theorem d1_30 : decode prog_30_method_1_code 30 = .ok (.iload_n 1, 1) := by decide +kernel
theorem d1_31 : decode prog_30_method_1_code 31 = .ok (.putfield 16, 3) := by decide +kernel
theorem d1_34 : decode prog_30_method_1_code 34 = .ok (.aload_n 0, 1) := by decide +kernel
theorem d1_35 : decode prog_30_method_1_code 35 = .ok (.iload_n 2, 1) := by decide +kernel
theorem d1_36 : decode prog_30_method_1_code 36 = .ok (.putfield 22, 3) := by decide +kernel
theorem d1_39 : decode prog_30_method_1_code 39 = .ok (.return_, 1) := by decide +kernel
def Q1 (Z : State) (o : Addr) (q0 : Int32) (q1 : Int32) (h0 : Heap) (v : Option Value) (h : Heap) : Prop := v = none ∧ Keep h0 h [o] ∧ Exa Z h o "com/example/paystage/paystage/Fraction" ∧ Fld Z h o "com/example/paystage/paystage/Fraction" "numerator" "I" (.int q0) ∧ Fld Z h o "com/example/paystage/paystage/Fraction" "denominator" "I" (.int q1)
abbrev GoB1 (l : Launch) (Z : State) (n0 : Nat) (Q : Option Value → Heap → Prop) := Go l Z ({ frames := 2, cells := 0, slots := 0, locals := 24 } : Room) (⟨"com/example/paystage/paystage/Fraction", "<init>", "(II)V"⟩ : MethodName) prog_30_method_1_code 3 none n0 Q
theorem ef1 (m : MethodId) (o : Addr) (q0 : Int32) (q1 : Int32) : entryFrame m #[(.ref o), (.int q0), (.int q1)] 3 = mkF m 0 #[.val (.ref o), .val (.int q0), .val (.int q1)] [] := by first | (simp [entryFrame, mkF, argsToLocals, Value.category]; done) | rfl
set_option maxRecDepth 65536 in
set_option maxHeartbeats 40000000 in
theorem rm1 (l : Launch) (Z : State) (a0 : Array Value) (hw : ∀ d ∈ tables_1, d.before a0 Z = true) (o : Addr) (q0 : Int32) (q1 : Int32) (h0 : Heap) (n0 : Nat) (Z0 : n0 ≤ h0.size) (g_o : n0 ≤ o) (E_o : Exa Z h0 o "com/example/paystage/paystage/Fraction") (F_numerator : Fld Z h0 o "com/example/paystage/paystage/Fraction" "numerator" "I" (.int (0 : Int32))) (F_denominator : Fld Z h0 o "com/example/paystage/paystage/Fraction" "denominator" "I" (.int (0 : Int32))) (hq0 : ¬ q0 < (1 : Int32)) (hq1 : ¬ q1 < q0) :
    Con l Z ({ frames := 2, cells := 0, slots := 0, locals := 24 } : Room) (⟨"com/example/paystage/paystage/Fraction", "<init>", "(II)V"⟩ : MethodName) prog_30_method_1_code 3 none n0 #[(.ref o), (.int q0), (.int q1)] h0 (Q1 Z o q0 q1 h0) := by
  refine OwnW.Con.of (by first | decide +kernel | exact plainFor_of_name (by simp [plainName, overriddenIn])) (fun m => ef1 m o q0 q1) ?_
  show GoB1 l Z n0 (Q1 Z o q0 q1 h0) h0 0 0 0 #[.val (.ref o), .val (.int q0), .val (.int q1)] []
  refine OwnW.aloadN (pc' := 1) d1_0 rfl (rfl) rfl ?_
  refine OwnW.callI0 (a0 := a0) (pc' := 4) (W := 0) (k' := 0) (n' := 0) (argsL := []) (rest := []) (St' := []) d1_1 rfl (hw _ (List.mem_of_getElem? (i := 8) rfl)) (hw _ (List.mem_of_getElem? (i := 9) rfl)) (hw _ (List.mem_of_getElem? (i := 11) rfl)) (hw _ (List.mem_of_getElem? (i := 12) rfl)) (by decide) (rm2 l Z a0 hw o h0 n0) (by decide) (by decide) rfl rfl (by decide) (by decide) rfl pd_2829V rfl rfl rfl (Nat.le_of_ble_eq_true rfl) rfl rfl ?_
  refine OwnW.iloadN (pc' := 5) d1_4 rfl rfl ?_
  refine OwnW.iconst (pc' := 6) (v := (1 : Int32)) d1_5 rfl rfl ?_
  refine OwnW.icmpN (pc' := 9) d1_6 (flt hq0).1 rfl ?_
  refine OwnW.iloadN (pc' := 10) d1_9 rfl rfl ?_
  refine OwnW.iloadN (pc' := 11) d1_10 rfl rfl ?_
  refine OwnW.icmpY (pc' := 29) d1_11 (flt hq1).2.1 (by decide) (by decide) ?_
  refine OwnW.aloadN (pc' := 30) d1_29 rfl (rfl) rfl ?_
  refine OwnW.iloadN (pc' := 31) d1_30 rfl rfl ?_
  refine OwnW.putF (a0 := a0) (pc' := 34) d1_31 (host := "") (Or.inl (hw _ (List.mem_of_getElem? (i := 16) rfl))) Via.refl F_numerator E_o (Or.inr ⟨(hw _ (List.mem_of_getElem? (i := 17) rfl)), rfl, rfl⟩) (hw _ (List.mem_of_getElem? (i := 3) rfl)) (ty := .int) (by decide) rfl rfl g_o rfl ?_
  intro h1 W1
  have sz2 : n0 ≤ h1.size := (by rw [W1.size]; exact Z0)
  have F3 := F_numerator.same W1
  refine OwnW.aloadN (pc' := 35) d1_34 rfl (rfl) rfl ?_
  refine OwnW.iloadN (pc' := 36) d1_35 rfl rfl ?_
  have F5 := (F_denominator.other W1 (Or.inr (slot_ne (a0 := a0) (C := "com/example/paystage/paystage/Fraction") (Or.inr (hw _ (List.mem_of_getElem? (i := 19) rfl))) (Or.inr (hw _ (List.mem_of_getElem? (i := 17) rfl))) (by decide) (t := .int) (t' := .int) (by decide) (by decide))))
  have F6 := (E_o.wr W1)
  refine OwnW.putF (a0 := a0) (pc' := 39) d1_36 (host := "") (Or.inl (hw _ (List.mem_of_getElem? (i := 18) rfl))) Via.refl F5 F6 (Or.inr ⟨(hw _ (List.mem_of_getElem? (i := 19) rfl)), rfl, rfl⟩) (hw _ (List.mem_of_getElem? (i := 3) rfl)) (ty := .int) (by decide) rfl rfl g_o rfl ?_
  intro h4 W4
  have sz7 : n0 ≤ h4.size := (by rw [W4.size]; exact sz2)
  have F8 := F5.same W4
  exact OwnW.ret0 d1_39 rfl (by decide) (by decide) (⟨rfl, (((Keep.refl h0 [o]).wr W1 (Or.inl (List.mem_of_getElem? (i := 0) rfl))).wr W4 (Or.inl (List.mem_of_getElem? (i := 0) rfl))), (F6.wr W4), (F3.other W4 (Or.inr (slot_ne (a0 := a0) (C := "com/example/paystage/paystage/Fraction") (Or.inr (hw _ (List.mem_of_getElem? (i := 17) rfl))) (Or.inr (hw _ (List.mem_of_getElem? (i := 19) rfl))) (by decide) (t := .int) (t' := .int) (by decide) (by decide)))), F8⟩)
theorem d4_0 : decode prog_30_method_5_code 0 = .ok (.bipush 31, 2) := by decide +kernel
theorem d4_2 : decode prog_30_method_5_code 2 = .ok (.aload_n 0, 1) := by decide +kernel
theorem d4_3 : decode prog_30_method_5_code 3 = .ok (.getfield 16, 3) := by decide +kernel
theorem d4_6 : decode prog_30_method_5_code 6 = .ok (.imul, 1) := by decide +kernel
theorem d4_7 : decode prog_30_method_5_code 7 = .ok (.aload_n 0, 1) := by decide +kernel
theorem d4_8 : decode prog_30_method_5_code 8 = .ok (.getfield 22, 3) := by decide +kernel
theorem d4_11 : decode prog_30_method_5_code 11 = .ok (.iadd, 1) := by decide +kernel
theorem d4_12 : decode prog_30_method_5_code 12 = .ok (.ireturn, 1) := by decide +kernel
def f4 (o : Addr) (c0 : Int32) (c1 : Int32) : Int32 := (((31 : Int32) * c0) + c1)
abbrev GoB4 (l : Launch) (Z : State) (n0 : Nat) (Q : Option Value → Heap → Prop) := Go l Z ({ frames := 0, cells := 0, slots := 0, locals := 0 } : Room) (⟨"com/example/paystage/paystage/Fraction", "hashCode", "()I"⟩ : MethodName) prog_30_method_5_code 1 (some .int) n0 Q
theorem ef4 (m : MethodId) (o : Addr) : entryFrame m #[(.ref o)] 1 = mkF m 0 #[.val (.ref o)] [] := by first | (simp [entryFrame, mkF, argsToLocals, Value.category]; done) | rfl
set_option maxRecDepth 65536 in
set_option maxHeartbeats 40000000 in
theorem rm4 (l : Launch) (Z : State) (a0 : Array Value) (hw : ∀ d ∈ tables_1, d.before a0 Z = true) (o : Addr) (c0 : Int32) (c1 : Int32) (h0 : Heap) (n0 : Nat) (F_n : Fld Z h0 o "com/example/paystage/paystage/Fraction" "numerator" "I" (.int c0)) (F_d : Fld Z h0 o "com/example/paystage/paystage/Fraction" "denominator" "I" (.int c1)) :
    Con l Z ({ frames := 0, cells := 0, slots := 0, locals := 0 } : Room) (⟨"com/example/paystage/paystage/Fraction", "hashCode", "()I"⟩ : MethodName) prog_30_method_5_code 1 (some .int) n0 #[(.ref o)] h0 (OwnW.Ret (some (.int (f4 o c0 c1))) h0) := by
  refine OwnW.Con.of (by first | decide +kernel | exact plainFor_of_name (by simp [plainName, overriddenIn])) (fun m => ef4 m o) ?_
  show GoB4 l Z n0 (OwnW.Ret (some (.int (f4 o c0 c1))) h0) h0 0 0 0 #[.val (.ref o)] []
  refine OwnW.bipush (pc' := 2) (v := (31 : Int32)) d4_0 rfl rfl ?_
  refine OwnW.aloadN (pc' := 3) d4_2 rfl (rfl) rfl ?_
  refine OwnW.getF (a0 := a0) (pc' := 6) d4_3 (host := "") (Or.inl (hw _ (List.mem_of_getElem? (i := 16) rfl))) Via.refl F_n rfl ?_
  refine OwnW.imul (pc' := 7) d4_6 rfl ?_
  refine OwnW.aloadN (pc' := 8) d4_7 rfl (rfl) rfl ?_
  refine OwnW.getF (a0 := a0) (pc' := 11) d4_8 (host := "") (Or.inl (hw _ (List.mem_of_getElem? (i := 18) rfl))) Via.refl F_d rfl ?_
  refine OwnW.iadd (pc' := 12) d4_11 rfl ?_
  exact OwnW.retI d4_12 rfl (by decide) (by decide) (⟨by first | (simp only [f4]; done) | (simp only [f4]; rfl), rfl⟩)
theorem d5_0 : decode prog_30_method_4_code 0 = .ok (.aload_n 1, 1) := by decide +kernel
theorem d5_1 : decode prog_30_method_4_code 1 = .ok (.instanceof 17, 3) := by decide +kernel
theorem d5_4 : decode prog_30_method_4_code 4 = .ok (.ifCond .eq 34, 3) := by decide +kernel
theorem d5_7 : decode prog_30_method_4_code 7 = .ok (.aload_n 1, 1) := by decide +kernel
theorem d5_8 : decode prog_30_method_4_code 8 = .ok (.checkcast 17, 3) := by decide +kernel
theorem d5_11 : decode prog_30_method_4_code 11 = .ok (.astore_n 2, 1) := by decide +kernel
theorem d5_12 : decode prog_30_method_4_code 12 = .ok (.aload_n 2, 1) := by decide +kernel
theorem d5_13 : decode prog_30_method_4_code 13 = .ok (.getfield 16, 3) := by decide +kernel
theorem d5_16 : decode prog_30_method_4_code 16 = .ok (.aload_n 0, 1) := by decide +kernel
theorem d5_17 : decode prog_30_method_4_code 17 = .ok (.getfield 16, 3) := by decide +kernel
theorem d5_20 : decode prog_30_method_4_code 20 = .ok (.if_icmp .ne 18, 3) := by decide +kernel
theorem d5_23 : decode prog_30_method_4_code 23 = .ok (.aload_n 2, 1) := by decide +kernel
theorem d5_24 : decode prog_30_method_4_code 24 = .ok (.getfield 22, 3) := by decide +kernel
theorem d5_27 : decode prog_30_method_4_code 27 = .ok (.aload_n 0, 1) := by decide +kernel
theorem d5_28 : decode prog_30_method_4_code 28 = .ok (.getfield 22, 3) := by decide +kernel
theorem d5_31 : decode prog_30_method_4_code 31 = .ok (.if_icmp .ne 7, 3) := by decide +kernel
theorem d5_34 : decode prog_30_method_4_code 34 = .ok (.iconst 1, 1) := by decide +kernel
theorem d5_35 : decode prog_30_method_4_code 35 = .ok (.goto 4, 3) := by decide +kernel
theorem d5_38 : decode prog_30_method_4_code 38 = .ok (.iconst 0, 1) := by decide +kernel
theorem d5_39 : decode prog_30_method_4_code 39 = .ok (.ireturn, 1) := by decide +kernel
def f5 (o : Addr) (q0 : Addr) (c0 : Int32) (c1 : Int32) (c2 : Int32) (c3 : Int32) : Int32 := (if c2 = c0 then (if c3 = c1 then (1 : Int32) else (0 : Int32)) else (0 : Int32))
abbrev GoB5 (l : Launch) (Z : State) (n0 : Nat) (Q : Option Value → Heap → Prop) := Go l Z ({ frames := 0, cells := 0, slots := 0, locals := 0 } : Room) (⟨"com/example/paystage/paystage/Fraction", "equals", "(Ljava/lang/Object;)Z"⟩ : MethodName) prog_30_method_4_code 3 (some .boolean) n0 Q
theorem ef5 (m : MethodId) (o : Addr) (q0 : Addr) : entryFrame m #[(.ref o), (.ref q0)] 3 = mkF m 0 #[.val (.ref o), .val (.ref q0), .unset] [] := by first | (simp [entryFrame, mkF, argsToLocals, Value.category]; done) | rfl
set_option maxRecDepth 65536 in
set_option maxHeartbeats 40000000 in
theorem rm5 (l : Launch) (Z : State) (a0 : Array Value) (hw : ∀ d ∈ tables_1, d.before a0 Z = true) (o : Addr) (q0 : Addr) (c0 : Int32) (c1 : Int32) (c2 : Int32) (c3 : Int32) (h0 : Heap) (n0 : Nat) (F_n : Fld Z h0 o "com/example/paystage/paystage/Fraction" "numerator" "I" (.int c0)) (F_d : Fld Z h0 o "com/example/paystage/paystage/Fraction" "denominator" "I" (.int c1)) (G_n : Fld Z h0 q0 "com/example/paystage/paystage/Fraction" "numerator" "I" (.int c2)) (G_d : Fld Z h0 q0 "com/example/paystage/paystage/Fraction" "denominator" "I" (.int c3)) (E_q : Exa Z h0 q0 "com/example/paystage/paystage/Fraction") :
    Con l Z ({ frames := 0, cells := 0, slots := 0, locals := 0 } : Room) (⟨"com/example/paystage/paystage/Fraction", "equals", "(Ljava/lang/Object;)Z"⟩ : MethodName) prog_30_method_4_code 3 (some .boolean) n0 #[(.ref o), (.ref q0)] h0 (OwnW.Ret (some (.int (f5 o q0 c0 c1 c2 c3))) h0) := by
  refine OwnW.Con.of (by first | decide +kernel | exact plainFor_of_name (by simp [plainName, overriddenIn])) (fun m => ef5 m o q0) ?_
  show GoB5 l Z n0 (OwnW.Ret (some (.int (f5 o q0 c0 c1 c2 c3))) h0) h0 0 0 0 #[.val (.ref o), .val (.ref q0), .unset] []
  refine OwnW.aloadN (pc' := 1) d5_0 rfl (rfl) rfl ?_
  refine OwnW.instY (a0 := a0) (pc' := 4) d5_1 (hw _ (List.mem_of_getElem? (i := 30) rfl)) (Ins.self E_q) rfl ?_
  refine OwnW.ifcN (pc' := 7) d5_4 ((if0 _ _).trans (feq (by decide)).1) rfl ?_
  refine OwnW.aloadN (pc' := 8) d5_7 rfl (rfl) rfl ?_
  refine OwnW.castY (a0 := a0) (pc' := 11) d5_8 (hw _ (List.mem_of_getElem? (i := 30) rfl)) (Ins.self E_q) rfl ?_
  refine OwnW.astoreN (pc' := 12) (L' := #[.val (.ref o), .val (.ref q0), .val (.ref q0)]) d5_11 (rfl) rfl rfl ?_
  refine OwnW.aloadN (pc' := 13) d5_12 rfl (rfl) rfl ?_
  refine OwnW.getF (a0 := a0) (pc' := 16) d5_13 (host := "") (Or.inl (hw _ (List.mem_of_getElem? (i := 16) rfl))) Via.refl G_n rfl ?_
  refine OwnW.aloadN (pc' := 17) d5_16 rfl (rfl) rfl ?_
  refine OwnW.getF (a0 := a0) (pc' := 20) d5_17 (host := "") (Or.inl (hw _ (List.mem_of_getElem? (i := 16) rfl))) Via.refl F_n rfl ?_
  by_cases hc20 : c2 = c0
  ·
    refine OwnW.icmpN (pc' := 23) d5_20 (teq hc20).2 rfl ?_
    refine OwnW.aloadN (pc' := 24) d5_23 rfl (rfl) rfl ?_
    refine OwnW.getF (a0 := a0) (pc' := 27) d5_24 (host := "") (Or.inl (hw _ (List.mem_of_getElem? (i := 18) rfl))) Via.refl G_d rfl ?_
    refine OwnW.aloadN (pc' := 28) d5_27 rfl (rfl) rfl ?_
    refine OwnW.getF (a0 := a0) (pc' := 31) d5_28 (host := "") (Or.inl (hw _ (List.mem_of_getElem? (i := 18) rfl))) Via.refl F_d rfl ?_
    by_cases hc31 : c3 = c1
    ·
      refine OwnW.icmpN (pc' := 34) d5_31 (teq hc31).2 rfl ?_
      refine OwnW.iconst (pc' := 35) (v := (1 : Int32)) d5_34 rfl rfl ?_
      refine OwnW.goto (pc' := 39) d5_35 (by decide) (by decide) ?_
      exact OwnW.retN (t := .boolean) d5_39 rfl (by simp) rfl (by decide) (by decide) (⟨by first | (simp only [f5, if_pos hc20, if_pos hc31]; done) | (simp only [f5, if_pos hc20, if_pos hc31]; rfl), rfl⟩)
    ·
      refine OwnW.icmpY (pc' := 38) d5_31 (feq hc31).2 (by decide) (by decide) ?_
      refine OwnW.iconst (pc' := 39) (v := (0 : Int32)) d5_38 rfl rfl ?_
      exact OwnW.retN (t := .boolean) d5_39 rfl (by simp) rfl (by decide) (by decide) (⟨by first | (simp only [f5, if_pos hc20, if_neg hc31]; done) | (simp only [f5, if_pos hc20, if_neg hc31]; rfl), rfl⟩)
  ·
    refine OwnW.icmpY (pc' := 38) d5_20 (feq hc20).2 (by decide) (by decide) ?_
    refine OwnW.iconst (pc' := 39) (v := (0 : Int32)) d5_38 rfl rfl ?_
    exact OwnW.retN (t := .boolean) d5_39 rfl (by simp) rfl (by decide) (by decide) (⟨by first | (simp only [f5, if_neg hc20]; done) | (simp only [f5, if_neg hc20]; rfl), rfl⟩)

theorem own_nu {p0 nu : Int32} (hnu : nu = ((1 : Int32) + ((p0 &&& (2147483647 : Int32)) % (2147483647 : Int32)))) : 1 ≤ nu.toInt ∧ nu.toInt ≤ 2147483647 := by
  have e := c_mask p0 2147483647 31 (by decide) (by decide)
  have r := (c_irem (p0 &&& 2147483647) 2147483647 2147483647 (by decide)).1 (by omega)
  have s := c_iadd 1 ((p0 &&& (2147483647 : Int32)) % (2147483647 : Int32))
  have b := rng32 nu
  rw [← hnu] at s
  have o : (1 : Int32).toInt = 1 := by decide
  omega
theorem own_sp {p0 nu : Int32} {sp : Int64} (hnu : nu = ((1 : Int32) + ((p0 &&& (2147483647 : Int32)) % (2147483647 : Int32)))) (hsp : sp = (((2147483647 : Int64) - (nu.toInt64)) + (1 : Int64))) : sp.toInt = 2147483648 - nu.toInt ∧ sp ≠ 0 := by
  have b := own_nu hnu
  have e := c_i2l nu
  have s := c_lsub 2147483647 nu.toInt64
  have t := c_ladd ((2147483647 : Int64) - nu.toInt64) 1
  have r1 := rng64 ((2147483647 : Int64) - nu.toInt64)
  have r2 := rng64 sp
  rw [← hsp] at t
  have o1 : (1 : Int64).toInt = 1 := by decide
  have o2 : (2147483647 : Int64).toInt = 2147483647 := by decide
  have q : sp.toInt = 2147483648 - nu.toInt := by omega
  refine ⟨q, fun h => ?_⟩
  rw [h] at q
  have o3 : (0 : Int64).toInt = 0 := by decide
  omega
theorem own_de {p0 p1 nu de : Int32} {sp : Int64} (hnu : nu = ((1 : Int32) + ((p0 &&& (2147483647 : Int32)) % (2147483647 : Int32)))) (hsp : sp = (((2147483647 : Int64) - (nu.toInt64)) + (1 : Int64))) (hde : de = (((nu.toInt64) + (((p1.toInt64) &&& (2147483647 : Int64)) % sp)).toInt32)) : nu.toInt ≤ de.toInt ∧ de.toInt ≤ 2147483647 := by
  have b := own_nu hnu
  have c := (own_sp hnu hsp).1
  have e := c_i2l nu
  have e1 := c_i2l p1
  have m := c_maskL p1.toInt64 2147483647 31 (by decide) (by decide)
  have t := c_ladd nu.toInt64 ((p1.toInt64 &&& (2147483647 : Int64)) % sp)
  have u := c_l2i (nu.toInt64 + ((p1.toInt64 &&& (2147483647 : Int64)) % sp))
  have r2 := rng64 (nu.toInt64 + ((p1.toInt64 &&& (2147483647 : Int64)) % sp))
  have r3 := rng32 de
  rw [← hde] at u
  have k : 0 ≤ ((p1.toInt64 &&& (2147483647 : Int64)) % sp).toInt ∧ ((p1.toInt64 &&& (2147483647 : Int64)) % sp).toInt < sp.toInt := by
    rw [Int64.toInt_mod, Int.tmod_eq_emod_of_nonneg (by omega)]
    exact ⟨Int.emod_nonneg _ (by omega), Int.emod_lt_of_pos _ (by omega)⟩
  omega
theorem own_ok {p0 p1 nu de : Int32} {sp : Int64} (hnu : nu = ((1 : Int32) + ((p0 &&& (2147483647 : Int32)) % (2147483647 : Int32)))) (hsp : sp = (((2147483647 : Int64) - (nu.toInt64)) + (1 : Int64))) (hde : de = (((nu.toInt64) + (((p1.toInt64) &&& (2147483647 : Int64)) % sp)).toInt32)) : ¬ nu < (1 : Int32) ∧ ¬ de < nu := by
  have a := own_nu hnu
  have b := own_de hnu hsp hde
  have o1 : (1 : Int32).toInt = 1 := by decide
  simp only [Int32.lt_iff_toInt_lt]
  omega
theorem own_okd {p0 p1 nu de dd : Int32} {sp : Int64} (hnu : nu = ((1 : Int32) + ((p0 &&& (2147483647 : Int32)) % (2147483647 : Int32)))) (hsp : sp = (((2147483647 : Int64) - (nu.toInt64)) + (1 : Int64))) (hde : de = (((nu.toInt64) + (((p1.toInt64) &&& (2147483647 : Int64)) % sp)).toInt32)) (hdd : dd = (if de < (2147483647 : Int32) then (de + (1 : Int32)) else de)) : ¬ nu < (1 : Int32) ∧ ¬ dd < nu := by
  have a := own_nu hnu
  have b := own_de hnu hsp hde
  have o1 : (1 : Int32).toInt = 1 := by decide
  have o2 : (2147483647 : Int32).toInt = 2147483647 := by decide
  have s := c_iadd de 1
  have r := rng32 (de + 1)
  split at hdd <;> subst hdd <;> simp only [Int32.lt_iff_toInt_lt] at * <;> omega
theorem own_okn {p0 p1 nu de nn : Int32} {sp : Int64} (hnu : nu = ((1 : Int32) + ((p0 &&& (2147483647 : Int32)) % (2147483647 : Int32)))) (hsp : sp = (((2147483647 : Int64) - (nu.toInt64)) + (1 : Int64))) (hde : de = (((nu.toInt64) + (((p1.toInt64) &&& (2147483647 : Int64)) % sp)).toInt32)) (hnn : nn = (if nu < de then (nu + (1 : Int32)) else nu)) : ¬ nn < (1 : Int32) ∧ ¬ de < nn := by
  have a := own_nu hnu
  have b := own_de hnu hsp hde
  have o1 : (1 : Int32).toInt = 1 := by decide
  have s := c_iadd nu 1
  have r := rng32 (nu + 1)
  split at hnn <;> subst hnn <;> simp only [Int32.lt_iff_toInt_lt] at * <;> omega
theorem own_n1 {o o' : Addr} {nu de dd : Int32} (h : ¬ dd = de) : ¬ f4 o nu dd = f4 o' nu de := by
  intro q
  unfold f4 at q
  exact h (Int32.add_right_inj _ |>.mp q)
theorem own_n2 {o o' : Addr} {nu de nn : Int32} (hnn : nn = (if nu < de then (nu + (1 : Int32)) else nu)) (h : ¬ nn = nu) : ¬ f4 o nn de = f4 o' nu de := by
  intro q
  unfold f4 at q
  have q' := (Int32.add_left_inj _).mp q
  split at hnn
  · subst hnn
    have e1 := c_imul 31 (nu + 1)
    have e2 := c_imul 31 nu
    have e3 := c_iadd nu 1
    rw [q'] at e1
    have o1 : (1 : Int32).toInt = 1 := by decide
    have o2 : (31 : Int32).toInt = 31 := by decide
    rw [o2] at e1 e2
    omega
  · exact h hnn

abbrev GoB0 (l : Launch) (Z : State) (n0 : Nat) (Q : Option Value → Heap → Prop) := Go l Z room_1 x code maxLocals ret n0 Q
theorem ef0 (m : MethodId) (p0 : Int32) (p1 : Int32) : entryFrame m #[(.int p0), (.int p1)] maxLocals = mkF m 0 #[.val (.int p0), .val (.int p1), .unset, .unset, .unset, .unset, .unset, .unset, .unset, .unset, .unset, .unset, .unset, .unset] [] := by first | (simp [entryFrame, mkF, argsToLocals, Value.category, maxLocals]; done) | rfl
set_option maxRecDepth 65536 in
set_option maxHeartbeats 400000000 in
theorem rm0 (l : Launch) (Z : State) (a0 : Array Value) (hw : ∀ d ∈ tables_1, d.before a0 Z = true) (p0 : Int32) (p1 : Int32) (h0 : Heap) (n0 : Nat) (Z0 : n0 ≤ h0.size) :
    Con l Z room_1 x code maxLocals ret n0 #[(.int p0), (.int p1)] h0 OwnW.One1 := by
  refine OwnW.Con.of (by first | decide +kernel | exact plainFor_of_name (by simp [x, plainName, overriddenIn])) (fun m => ef0 m p0 p1) ?_
  show GoB0 l Z n0 OwnW.One1 h0 0 0 0 #[.val (.int p0), .val (.int p1), .unset, .unset, .unset, .unset, .unset, .unset, .unset, .unset, .unset, .unset, .unset, .unset] []
  refine OwnW.iconst (pc' := 1) (v := (1 : Int32)) at_0 rfl rfl ?_
  refine OwnW.iloadN (pc' := 2) at_1 rfl rfl ?_
  refine OwnW.ldcI (a0 := a0) (pc' := 4) (v := (2147483647 : Int32)) at_2 (hw _ (List.mem_of_getElem? (i := 0) rfl)) rfl ?_
  refine OwnW.iand (pc' := 5) at_4 rfl ?_
  refine OwnW.ldcI (a0 := a0) (pc' := 7) (v := (2147483647 : Int32)) at_5 (hw _ (List.mem_of_getElem? (i := 0) rfl)) rfl ?_
  refine OwnW.irem (pc' := 8) at_7 (by decide) rfl ?_
  refine OwnW.iadd (pc' := 9) at_8 rfl ?_
  obtain ⟨nu, hnu⟩ : ∃ z, z = ((1 : Int32) + ((p0 &&& (2147483647 : Int32)) % (2147483647 : Int32))) := ⟨_, rfl⟩
  rw [← hnu]
  show GoB0 l Z n0 OwnW.One1 h0 0 0 9 #[.val (.int p0), .val (.int p1), .unset, .unset, .unset, .unset, .unset, .unset, .unset, .unset, .unset, .unset, .unset, .unset] [(.int nu)]
  refine OwnW.istoreN (pc' := 10) (L' := #[.val (.int p0), .val (.int p1), .val (.int nu), .unset, .unset, .unset, .unset, .unset, .unset, .unset, .unset, .unset, .unset, .unset]) at_9 rfl rfl ?_
  refine OwnW.ldc2J (a0 := a0) (pc' := 13) (v := (2147483647 : Int64)) at_10 (hw _ (List.mem_of_getElem? (i := 1) rfl)) rfl ?_
  refine OwnW.iloadN (pc' := 14) at_13 rfl rfl ?_
  refine OwnW.i2l (pc' := 15) at_14 rfl ?_
  refine OwnW.lsub (pc' := 16) at_15 rfl ?_
  refine OwnW.lconst (pc' := 17) (v := (1 : Int64)) at_16 rfl rfl ?_
  refine OwnW.ladd (pc' := 18) at_17 rfl ?_
  obtain ⟨sp, hsp⟩ : ∃ z, z = (((2147483647 : Int64) - (nu.toInt64)) + (1 : Int64)) := ⟨_, rfl⟩
  rw [← hsp]
  show GoB0 l Z n0 OwnW.One1 h0 0 0 18 #[.val (.int p0), .val (.int p1), .val (.int nu), .unset, .unset, .unset, .unset, .unset, .unset, .unset, .unset, .unset, .unset, .unset] [(.long sp)]
  refine OwnW.lstoreN (pc' := 19) (L' := #[.val (.int p0), .val (.int p1), .val (.int nu), .val (.long sp), .second, .unset, .unset, .unset, .unset, .unset, .unset, .unset, .unset, .unset]) at_18 rfl rfl ?_
  refine OwnW.iloadN (pc' := 20) at_19 rfl rfl ?_
  refine OwnW.i2l (pc' := 21) at_20 rfl ?_
  refine OwnW.iloadN (pc' := 22) at_21 rfl rfl ?_
  refine OwnW.i2l (pc' := 23) at_22 rfl ?_
  refine OwnW.ldc2J (a0 := a0) (pc' := 26) (v := (2147483647 : Int64)) at_23 (hw _ (List.mem_of_getElem? (i := 1) rfl)) rfl ?_
  refine OwnW.land (pc' := 27) at_26 rfl ?_
  refine OwnW.lloadN (pc' := 28) at_27 rfl rfl ?_
  refine OwnW.lrem (pc' := 29) at_28 (own_sp hnu hsp).2 rfl ?_
  refine OwnW.ladd (pc' := 30) at_29 rfl ?_
  refine OwnW.l2i (pc' := 31) at_30 rfl ?_
  obtain ⟨de, hde⟩ : ∃ z, z = (((nu.toInt64) + (((p1.toInt64) &&& (2147483647 : Int64)) % sp)).toInt32) := ⟨_, rfl⟩
  rw [← hde]
  show GoB0 l Z n0 OwnW.One1 h0 0 0 31 #[.val (.int p0), .val (.int p1), .val (.int nu), .val (.long sp), .second, .unset, .unset, .unset, .unset, .unset, .unset, .unset, .unset, .unset] [(.int de)]
  refine OwnW.istore (pc' := 33) (L' := #[.val (.int p0), .val (.int p1), .val (.int nu), .val (.long sp), .second, .val (.int de), .unset, .unset, .unset, .unset, .unset, .unset, .unset, .unset]) at_31 rfl rfl ?_
  refine OwnW.iload (pc' := 35) at_33 rfl rfl ?_
  refine OwnW.ldcI (a0 := a0) (pc' := 37) (v := (2147483647 : Int32)) at_35 (hw _ (List.mem_of_getElem? (i := 0) rfl)) rfl ?_
  suffices J37_49 : ∀ (dd : Int32), dd = (if de < (2147483647 : Int32) then (de + (1 : Int32)) else de) → GoB0 l Z n0 OwnW.One1 h0 0 0 49 #[.val (.int p0), .val (.int p1), .val (.int nu), .val (.long sp), .second, .val (.int de), .unset, .unset, .unset, .unset, .unset, .unset, .unset, .unset] [(.int dd)] by
    by_cases hc37 : de < (2147483647 : Int32)
    ·
      refine OwnW.icmpN (pc' := 40) at_37 (tlt hc37).2.1 rfl ?_
      refine OwnW.iload (pc' := 42) at_40 rfl rfl ?_
      refine OwnW.iconst (pc' := 43) (v := (1 : Int32)) at_42 rfl rfl ?_
      refine OwnW.iadd (pc' := 44) at_43 rfl ?_
      refine OwnW.goto (pc' := 49) at_44 (by decide) (by decide) ?_
      exact J37_49 _ (by first | simp only [if_pos hc37] | rfl)
    ·
      refine OwnW.icmpY (pc' := 47) at_37 (flt hc37).2.1 (by decide) (by decide) ?_
      refine OwnW.iload (pc' := 49) at_47 rfl rfl ?_
      exact J37_49 _ (by first | simp only [if_neg hc37] | rfl)
  intro dd hdd
  refine OwnW.istore (pc' := 51) (L' := #[.val (.int p0), .val (.int p1), .val (.int nu), .val (.long sp), .second, .val (.int de), .val (.int dd), .unset, .unset, .unset, .unset, .unset, .unset, .unset]) at_49 rfl rfl ?_
  refine OwnW.iloadN (pc' := 52) at_51 rfl rfl ?_
  refine OwnW.iload (pc' := 54) at_52 rfl rfl ?_
  suffices J54_64 : ∀ (nn : Int32), nn = (if nu < de then (nu + (1 : Int32)) else nu) → GoB0 l Z n0 OwnW.One1 h0 0 0 64 #[.val (.int p0), .val (.int p1), .val (.int nu), .val (.long sp), .second, .val (.int de), .val (.int dd), .unset, .unset, .unset, .unset, .unset, .unset, .unset] [(.int nn)] by
    by_cases hc54 : nu < de
    ·
      refine OwnW.icmpN (pc' := 57) at_54 (tlt hc54).2.1 rfl ?_
      refine OwnW.iloadN (pc' := 58) at_57 rfl rfl ?_
      refine OwnW.iconst (pc' := 59) (v := (1 : Int32)) at_58 rfl rfl ?_
      refine OwnW.iadd (pc' := 60) at_59 rfl ?_
      refine OwnW.goto (pc' := 64) at_60 (by decide) (by decide) ?_
      exact J54_64 _ (by first | simp only [if_pos hc54] | rfl)
    ·
      refine OwnW.icmpY (pc' := 63) at_54 (flt hc54).2.1 (by decide) (by decide) ?_
      refine OwnW.iloadN (pc' := 64) at_63 rfl rfl ?_
      exact J54_64 _ (by first | simp only [if_neg hc54] | rfl)
  intro nn hnn
  refine OwnW.istore (pc' := 66) (L' := #[.val (.int p0), .val (.int p1), .val (.int nu), .val (.long sp), .second, .val (.int de), .val (.int dd), .val (.int nn), .unset, .unset, .unset, .unset, .unset, .unset]) at_64 rfl rfl ?_
  refine OwnW.newO (a0 := a0) (pc' := 69) (k' := 1) (n' := 2) at_66 (hw _ (List.mem_of_getElem? (i := 2) rfl)) (hw _ (List.mem_of_getElem? (i := 3) rfl)) (hw _ (List.mem_of_getElem? (i := 4) rfl)) rfl rfl (by decide) (by decide) rfl ?_
  intro h1 ad1 g1 E1 A1 D1
  have ge_ad1 : n0 ≤ ad1 := Nat.le_trans Z0 (Nat.le_of_eq g1.symm)
  have sz_ad1 : n0 ≤ h1.size := Nat.le_trans Z0 E1.1
  have F1_numerator : Fld Z h1 ad1 "com/example/paystage/paystage/Fraction" "numerator" "I" (.int (0 : Int32)) := D1 (Or.inr (hw _ (List.mem_of_getElem? (i := 17) rfl))) (ty := .int) (by decide)
  have F1_denominator : Fld Z h1 ad1 "com/example/paystage/paystage/Fraction" "denominator" "I" (.int (0 : Int32)) := D1 (Or.inr (hw _ (List.mem_of_getElem? (i := 19) rfl))) (ty := .int) (by decide)
  refine OwnW.dup (pc' := 70) at_69 rfl rfl ?_
  refine OwnW.iloadN (pc' := 71) at_70 rfl rfl ?_
  refine OwnW.iload (pc' := 73) at_71 rfl rfl ?_
  refine OwnW.callI (a0 := a0) (pc' := 76) (W := 1) (k' := 1) (n' := 2) (argsL := [(.int nu), (.int de)]) (rest := [(.ref ad1)]) at_73 rfl (hw _ (List.mem_of_getElem? (i := 5) rfl)) (hw _ (List.mem_of_getElem? (i := 6) rfl)) (hw _ (List.mem_of_getElem? (i := 4) rfl)) (hw _ (List.mem_of_getElem? (i := 7) rfl)) (by decide) (rm1 l Z a0 hw ad1 nu de h1 n0 sz_ad1 ge_ad1 A1 F1_numerator F1_denominator (own_ok hnu hsp hde).1 (own_ok hnu hsp hde).2) (by decide) (by decide) rfl rfl (by decide) (by decide) rfl pd_28II29V rfl rfl rfl (Nat.le_of_ble_eq_true rfl) rfl ?_
  rintro h2 v2 ⟨rfl, K2, E2, F2_numerator, F2_denominator⟩
  have sz3 : n0 ≤ h2.size := Nat.le_trans sz_ad1 K2.1
  show GoB0 l Z n0 OwnW.One1 h2 1 2 76 #[.val (.int p0), .val (.int p1), .val (.int nu), .val (.long sp), .second, .val (.int de), .val (.int dd), .val (.int nn), .unset, .unset, .unset, .unset, .unset, .unset] [(.ref ad1)]
  refine OwnW.astore (pc' := 78) (L' := #[.val (.int p0), .val (.int p1), .val (.int nu), .val (.long sp), .second, .val (.int de), .val (.int dd), .val (.int nn), .val (.ref ad1), .unset, .unset, .unset, .unset, .unset]) at_76 (rfl) rfl rfl ?_
  refine OwnW.newO (a0 := a0) (pc' := 81) (k' := 2) (n' := 4) at_78 (hw _ (List.mem_of_getElem? (i := 2) rfl)) (hw _ (List.mem_of_getElem? (i := 3) rfl)) (hw _ (List.mem_of_getElem? (i := 4) rfl)) rfl rfl (by decide) (by decide) rfl ?_
  intro h4 ad4 g4 E4 A4 D4
  have lt_ad1_ad4 : ad1 < ad4 := Nat.lt_of_lt_of_le (E2).lt (Nat.le_of_eq g4.symm)
  have ge_ad4 : n0 ≤ ad4 := Nat.le_trans sz3 (Nat.le_of_eq g4.symm)
  have sz_ad4 : n0 ≤ h4.size := Nat.le_trans sz3 E4.1
  have F4_numerator : Fld Z h4 ad4 "com/example/paystage/paystage/Fraction" "numerator" "I" (.int (0 : Int32)) := D4 (Or.inr (hw _ (List.mem_of_getElem? (i := 17) rfl))) (ty := .int) (by decide)
  have F4_denominator : Fld Z h4 ad4 "com/example/paystage/paystage/Fraction" "denominator" "I" (.int (0 : Int32)) := D4 (Or.inr (hw _ (List.mem_of_getElem? (i := 19) rfl))) (ty := .int) (by decide)
  refine OwnW.dup (pc' := 82) at_81 rfl rfl ?_
  refine OwnW.iloadN (pc' := 83) at_82 rfl rfl ?_
  refine OwnW.iload (pc' := 85) at_83 rfl rfl ?_
  refine OwnW.callI (a0 := a0) (pc' := 88) (W := 1) (k' := 2) (n' := 4) (argsL := [(.int nu), (.int de)]) (rest := [(.ref ad4)]) at_85 rfl (hw _ (List.mem_of_getElem? (i := 5) rfl)) (hw _ (List.mem_of_getElem? (i := 6) rfl)) (hw _ (List.mem_of_getElem? (i := 4) rfl)) (hw _ (List.mem_of_getElem? (i := 7) rfl)) (by decide) (rm1 l Z a0 hw ad4 nu de h4 n0 sz_ad4 ge_ad4 A4 F4_numerator F4_denominator (own_ok hnu hsp hde).1 (own_ok hnu hsp hde).2) (by decide) (by decide) rfl rfl (by decide) (by decide) rfl pd_28II29V rfl rfl rfl (Nat.le_of_ble_eq_true rfl) rfl ?_
  rintro h5 v5 ⟨rfl, K5, E5, F5_numerator, F5_denominator⟩
  have sz6 : n0 ≤ h5.size := Nat.le_trans sz_ad4 K5.1
  show GoB0 l Z n0 OwnW.One1 h5 2 4 88 #[.val (.int p0), .val (.int p1), .val (.int nu), .val (.long sp), .second, .val (.int de), .val (.int dd), .val (.int nn), .val (.ref ad1), .unset, .unset, .unset, .unset, .unset] [(.ref ad4)]
  refine OwnW.astore (pc' := 90) (L' := #[.val (.int p0), .val (.int p1), .val (.int nu), .val (.long sp), .second, .val (.int de), .val (.int dd), .val (.int nn), .val (.ref ad1), .val (.ref ad4), .unset, .unset, .unset, .unset]) at_88 (rfl) rfl rfl ?_
  refine OwnW.newO (a0 := a0) (pc' := 93) (k' := 3) (n' := 6) at_90 (hw _ (List.mem_of_getElem? (i := 2) rfl)) (hw _ (List.mem_of_getElem? (i := 3) rfl)) (hw _ (List.mem_of_getElem? (i := 4) rfl)) rfl rfl (by decide) (by decide) rfl ?_
  intro h7 ad7 g7 E7 A7 D7
  have lt_ad1_ad7 : ad1 < ad7 := Nat.lt_of_lt_of_le (((E2.ext E4).keep K5)).lt (Nat.le_of_eq g7.symm)
  have lt_ad4_ad7 : ad4 < ad7 := Nat.lt_of_lt_of_le (E5).lt (Nat.le_of_eq g7.symm)
  have ge_ad7 : n0 ≤ ad7 := Nat.le_trans sz6 (Nat.le_of_eq g7.symm)
  have sz_ad7 : n0 ≤ h7.size := Nat.le_trans sz6 E7.1
  have F7_numerator : Fld Z h7 ad7 "com/example/paystage/paystage/Fraction" "numerator" "I" (.int (0 : Int32)) := D7 (Or.inr (hw _ (List.mem_of_getElem? (i := 17) rfl))) (ty := .int) (by decide)
  have F7_denominator : Fld Z h7 ad7 "com/example/paystage/paystage/Fraction" "denominator" "I" (.int (0 : Int32)) := D7 (Or.inr (hw _ (List.mem_of_getElem? (i := 19) rfl))) (ty := .int) (by decide)
  refine OwnW.dup (pc' := 94) at_93 rfl rfl ?_
  refine OwnW.iloadN (pc' := 95) at_94 rfl rfl ?_
  refine OwnW.iload (pc' := 97) at_95 rfl rfl ?_
  refine OwnW.callI (a0 := a0) (pc' := 100) (W := 1) (k' := 3) (n' := 6) (argsL := [(.int nu), (.int dd)]) (rest := [(.ref ad7)]) at_97 rfl (hw _ (List.mem_of_getElem? (i := 5) rfl)) (hw _ (List.mem_of_getElem? (i := 6) rfl)) (hw _ (List.mem_of_getElem? (i := 4) rfl)) (hw _ (List.mem_of_getElem? (i := 7) rfl)) (by decide) (rm1 l Z a0 hw ad7 nu dd h7 n0 sz_ad7 ge_ad7 A7 F7_numerator F7_denominator (own_okd hnu hsp hde hdd).1 (own_okd hnu hsp hde hdd).2) (by decide) (by decide) rfl rfl (by decide) (by decide) rfl pd_28II29V rfl rfl rfl (Nat.le_of_ble_eq_true rfl) rfl ?_
  rintro h8 v8 ⟨rfl, K8, E8, F8_numerator, F8_denominator⟩
  have sz9 : n0 ≤ h8.size := Nat.le_trans sz_ad7 K8.1
  show GoB0 l Z n0 OwnW.One1 h8 3 6 100 #[.val (.int p0), .val (.int p1), .val (.int nu), .val (.long sp), .second, .val (.int de), .val (.int dd), .val (.int nn), .val (.ref ad1), .val (.ref ad4), .unset, .unset, .unset, .unset] [(.ref ad7)]
  refine OwnW.astore (pc' := 102) (L' := #[.val (.int p0), .val (.int p1), .val (.int nu), .val (.long sp), .second, .val (.int de), .val (.int dd), .val (.int nn), .val (.ref ad1), .val (.ref ad4), .val (.ref ad7), .unset, .unset, .unset]) at_100 (rfl) rfl rfl ?_
  refine OwnW.newO (a0 := a0) (pc' := 105) (k' := 4) (n' := 8) at_102 (hw _ (List.mem_of_getElem? (i := 2) rfl)) (hw _ (List.mem_of_getElem? (i := 3) rfl)) (hw _ (List.mem_of_getElem? (i := 4) rfl)) rfl rfl (by decide) (by decide) rfl ?_
  intro h10 ad10 g10 E10 A10 D10
  have lt_ad1_ad10 : ad1 < ad10 := Nat.lt_of_lt_of_le (((((E2.ext E4).keep K5).ext E7).keep K8)).lt (Nat.le_of_eq g10.symm)
  have lt_ad4_ad10 : ad4 < ad10 := Nat.lt_of_lt_of_le (((E5.ext E7).keep K8)).lt (Nat.le_of_eq g10.symm)
  have lt_ad7_ad10 : ad7 < ad10 := Nat.lt_of_lt_of_le (E8).lt (Nat.le_of_eq g10.symm)
  have ge_ad10 : n0 ≤ ad10 := Nat.le_trans sz9 (Nat.le_of_eq g10.symm)
  have sz_ad10 : n0 ≤ h10.size := Nat.le_trans sz9 E10.1
  have F10_numerator : Fld Z h10 ad10 "com/example/paystage/paystage/Fraction" "numerator" "I" (.int (0 : Int32)) := D10 (Or.inr (hw _ (List.mem_of_getElem? (i := 17) rfl))) (ty := .int) (by decide)
  have F10_denominator : Fld Z h10 ad10 "com/example/paystage/paystage/Fraction" "denominator" "I" (.int (0 : Int32)) := D10 (Or.inr (hw _ (List.mem_of_getElem? (i := 19) rfl))) (ty := .int) (by decide)
  refine OwnW.dup (pc' := 106) at_105 rfl rfl ?_
  refine OwnW.iload (pc' := 108) at_106 rfl rfl ?_
  refine OwnW.iload (pc' := 110) at_108 rfl rfl ?_
  refine OwnW.callI (a0 := a0) (pc' := 113) (W := 1) (k' := 4) (n' := 8) (argsL := [(.int nn), (.int de)]) (rest := [(.ref ad10)]) at_110 rfl (hw _ (List.mem_of_getElem? (i := 5) rfl)) (hw _ (List.mem_of_getElem? (i := 6) rfl)) (hw _ (List.mem_of_getElem? (i := 4) rfl)) (hw _ (List.mem_of_getElem? (i := 7) rfl)) (by decide) (rm1 l Z a0 hw ad10 nn de h10 n0 sz_ad10 ge_ad10 A10 F10_numerator F10_denominator (own_okn hnu hsp hde hnn).1 (own_okn hnu hsp hde hnn).2) (by decide) (by decide) rfl rfl (by decide) (by decide) rfl pd_28II29V rfl rfl rfl (Nat.le_of_ble_eq_true rfl) rfl ?_
  rintro h11 v11 ⟨rfl, K11, E11, F11_numerator, F11_denominator⟩
  have sz12 : n0 ≤ h11.size := Nat.le_trans sz_ad10 K11.1
  show GoB0 l Z n0 OwnW.One1 h11 4 8 113 #[.val (.int p0), .val (.int p1), .val (.int nu), .val (.long sp), .second, .val (.int de), .val (.int dd), .val (.int nn), .val (.ref ad1), .val (.ref ad4), .val (.ref ad7), .unset, .unset, .unset] [(.ref ad10)]
  refine OwnW.astore (pc' := 115) (L' := #[.val (.int p0), .val (.int p1), .val (.int nu), .val (.long sp), .second, .val (.int de), .val (.int dd), .val (.int nn), .val (.ref ad1), .val (.ref ad4), .val (.ref ad7), .val (.ref ad10), .unset, .unset]) at_113 (rfl) rfl rfl ?_
  refine OwnW.aload (pc' := 117) at_115 rfl (rfl) rfl ?_
  have F13 := ((((((F2_numerator.ext E4).keep K5 (ninS (Nat.ne_of_lt lt_ad1_ad4) nin0)).ext E7).keep K8 (ninS (Nat.ne_of_lt lt_ad1_ad7) nin0)).ext E10).keep K11 (ninS (Nat.ne_of_lt lt_ad1_ad10) nin0))
  have F14 := ((((((F2_denominator.ext E4).keep K5 (ninS (Nat.ne_of_lt lt_ad1_ad4) nin0)).ext E7).keep K8 (ninS (Nat.ne_of_lt lt_ad1_ad7) nin0)).ext E10).keep K11 (ninS (Nat.ne_of_lt lt_ad1_ad10) nin0))
  have F15 := ((((((E2.ext E4).keep K5).ext E7).keep K8).ext E10).keep K11)
  refine OwnW.callV0 (a0 := a0) (pc' := 120) (W := 0) (k' := 4) (n' := 8) (argsL := []) (rest := []) (St' := [(.int (f4 ad1 nu de))]) at_117 (hw _ (List.mem_of_getElem? (i := 20) rfl)) (hw _ (List.mem_of_getElem? (i := 21) rfl)) (hw _ (List.mem_of_getElem? (i := 23) rfl)) (hw _ (List.mem_of_getElem? (i := 22) rfl)) (hw _ (List.mem_of_getElem? (i := 4) rfl)) (hw _ (List.mem_of_getElem? (i := 24) rfl)) (by decide) F15 (rm4 l Z a0 hw ad1 nu de h11 n0 F13 F14) (by decide) (by decide) rfl rfl (by decide) (by decide) rfl pd_2829I rfl rfl rfl (Nat.le_of_ble_eq_true rfl) rfl rfl ?_
  refine OwnW.istore (pc' := 122) (L' := #[.val (.int p0), .val (.int p1), .val (.int nu), .val (.long sp), .second, .val (.int de), .val (.int dd), .val (.int nn), .val (.ref ad1), .val (.ref ad4), .val (.ref ad7), .val (.ref ad10), .val (.int (f4 ad1 nu de)), .unset]) at_120 rfl rfl ?_
  refine OwnW.aload (pc' := 124) at_122 rfl (rfl) rfl ?_
  refine OwnW.aload (pc' := 126) at_124 rfl (rfl) rfl ?_
  have F16 := ((((F5_numerator.ext E7).keep K8 (ninS (Nat.ne_of_lt lt_ad4_ad7) nin0)).ext E10).keep K11 (ninS (Nat.ne_of_lt lt_ad4_ad10) nin0))
  have F17 := ((((F5_denominator.ext E7).keep K8 (ninS (Nat.ne_of_lt lt_ad4_ad7) nin0)).ext E10).keep K11 (ninS (Nat.ne_of_lt lt_ad4_ad10) nin0))
  have F18 := ((((E5.ext E7).keep K8).ext E10).keep K11)
  refine OwnW.callV0 (a0 := a0) (pc' := 129) (W := 0) (k' := 4) (n' := 8) (argsL := [(.ref ad4)]) (rest := []) (St' := [(.int (f5 ad1 ad4 nu de nu de))]) at_126 (hw _ (List.mem_of_getElem? (i := 25) rfl)) (hw _ (List.mem_of_getElem? (i := 26) rfl)) (hw _ (List.mem_of_getElem? (i := 28) rfl)) (hw _ (List.mem_of_getElem? (i := 27) rfl)) (hw _ (List.mem_of_getElem? (i := 4) rfl)) (hw _ (List.mem_of_getElem? (i := 29) rfl)) (by decide) F15 (rm5 l Z a0 hw ad1 ad4 nu de nu de h11 n0 F13 F14 F16 F17 F18) (by decide) (by decide) rfl rfl (by decide) (by decide) rfl pd_28Ljava2flang2fObject3b29Z rfl rfl rfl (Nat.le_of_ble_eq_true rfl) rfl rfl ?_
  rw [show (f5 ad1 ad4 nu de nu de) = (1 : Int32) from by simp [f5]]
  show GoB0 l Z n0 OwnW.One1 h11 4 8 129 #[.val (.int p0), .val (.int p1), .val (.int nu), .val (.long sp), .second, .val (.int de), .val (.int dd), .val (.int nn), .val (.ref ad1), .val (.ref ad4), .val (.ref ad7), .val (.ref ad10), .val (.int (f4 ad1 nu de)), .unset] [(.int (1 : Int32))]
  refine OwnW.ifcN (pc' := 132) at_129 ((if0 _ _).trans (feq (by decide)).1) rfl ?_
  refine OwnW.iload (pc' := 134) at_132 rfl rfl ?_
  refine OwnW.aload (pc' := 136) at_134 rfl (rfl) rfl ?_
  refine OwnW.callV0 (a0 := a0) (pc' := 139) (W := 1) (k' := 4) (n' := 8) (argsL := []) (rest := [(.int (f4 ad1 nu de))]) (St' := [(.int (f4 ad4 nu de)), (.int (f4 ad1 nu de))]) at_136 (hw _ (List.mem_of_getElem? (i := 20) rfl)) (hw _ (List.mem_of_getElem? (i := 21) rfl)) (hw _ (List.mem_of_getElem? (i := 23) rfl)) (hw _ (List.mem_of_getElem? (i := 22) rfl)) (hw _ (List.mem_of_getElem? (i := 4) rfl)) (hw _ (List.mem_of_getElem? (i := 24) rfl)) (by decide) F18 (rm4 l Z a0 hw ad4 nu de h11 n0 F16 F17) (by decide) (by decide) rfl rfl (by decide) (by decide) rfl pd_2829I rfl rfl rfl (Nat.le_of_ble_eq_true rfl) rfl rfl ?_
  refine OwnW.icmpN (pc' := 142) at_139 (teq rfl).2 rfl ?_
  refine OwnW.iload (pc' := 144) at_142 rfl rfl ?_
  refine OwnW.aload (pc' := 146) at_144 rfl (rfl) rfl ?_
  refine OwnW.callV0 (a0 := a0) (pc' := 149) (W := 1) (k' := 4) (n' := 8) (argsL := []) (rest := [(.int (f4 ad1 nu de))]) (St' := [(.int (f4 ad1 nu de)), (.int (f4 ad1 nu de))]) at_146 (hw _ (List.mem_of_getElem? (i := 20) rfl)) (hw _ (List.mem_of_getElem? (i := 21) rfl)) (hw _ (List.mem_of_getElem? (i := 23) rfl)) (hw _ (List.mem_of_getElem? (i := 22) rfl)) (hw _ (List.mem_of_getElem? (i := 4) rfl)) (hw _ (List.mem_of_getElem? (i := 24) rfl)) (by decide) F15 (rm4 l Z a0 hw ad1 nu de h11 n0 F13 F14) (by decide) (by decide) rfl rfl (by decide) (by decide) rfl pd_2829I rfl rfl rfl (Nat.le_of_ble_eq_true rfl) rfl rfl ?_
  refine OwnW.icmpN (pc' := 152) at_149 (teq rfl).2 rfl ?_
  refine OwnW.iconst (pc' := 153) (v := (1 : Int32)) at_152 rfl rfl ?_
  refine OwnW.goto (pc' := 157) at_153 (by decide) (by decide) ?_
  refine OwnW.istore (pc' := 159) (L' := #[.val (.int p0), .val (.int p1), .val (.int nu), .val (.long sp), .second, .val (.int de), .val (.int dd), .val (.int nn), .val (.ref ad1), .val (.ref ad4), .val (.ref ad7), .val (.ref ad10), .val (.int (f4 ad1 nu de)), .val (.int (1 : Int32))]) at_157 rfl rfl ?_
  refine OwnW.iload (pc' := 161) at_159 rfl rfl ?_
  refine OwnW.ifcN (pc' := 164) at_161 ((if0 _ _).trans (feq (by decide)).1) rfl ?_
  refine OwnW.iload (pc' := 166) at_164 rfl rfl ?_
  refine OwnW.iload (pc' := 168) at_166 rfl rfl ?_
  by_cases hc168 : dd = de
  ·
    refine OwnW.icmpY (pc' := 181) at_168 (teq hc168).1 (by decide) (by decide) ?_
    refine OwnW.iconst (pc' := 182) (v := (1 : Int32)) at_181 rfl rfl ?_
    refine OwnW.goto (pc' := 186) at_182 (by decide) (by decide) ?_
    refine OwnW.istore (pc' := 188) (L' := #[.val (.int p0), .val (.int p1), .val (.int nu), .val (.long sp), .second, .val (.int de), .val (.int dd), .val (.int nn), .val (.ref ad1), .val (.ref ad4), .val (.ref ad7), .val (.ref ad10), .val (.int (f4 ad1 nu de)), .val (.int (1 : Int32))]) at_186 rfl rfl ?_
    refine OwnW.iload (pc' := 190) at_188 rfl rfl ?_
    refine OwnW.ifcN (pc' := 193) at_190 ((if0 _ _).trans (feq (by decide)).1) rfl ?_
    refine OwnW.iload (pc' := 195) at_193 rfl rfl ?_
    refine OwnW.iloadN (pc' := 196) at_195 rfl rfl ?_
    by_cases hc196 : nn = nu
    ·
      refine OwnW.icmpY (pc' := 209) at_196 (teq hc196).1 (by decide) (by decide) ?_
      refine OwnW.iconst (pc' := 210) (v := (1 : Int32)) at_209 rfl rfl ?_
      refine OwnW.goto (pc' := 214) at_210 (by decide) (by decide) ?_
      refine OwnW.istore (pc' := 216) (L' := #[.val (.int p0), .val (.int p1), .val (.int nu), .val (.long sp), .second, .val (.int de), .val (.int dd), .val (.int nn), .val (.ref ad1), .val (.ref ad4), .val (.ref ad7), .val (.ref ad10), .val (.int (f4 ad1 nu de)), .val (.int (1 : Int32))]) at_214 rfl rfl ?_
      refine OwnW.iload (pc' := 218) at_216 rfl rfl ?_
      exact OwnW.retN (t := .boolean) at_218 rfl (by simp) rfl (by decide) (by decide) (rfl)
    ·
      refine OwnW.icmpN (pc' := 199) at_196 (feq hc196).1 rfl ?_
      refine OwnW.aload (pc' := 201) at_199 rfl (rfl) rfl ?_
      refine OwnW.callV0 (a0 := a0) (pc' := 204) (W := 0) (k' := 4) (n' := 8) (argsL := []) (rest := []) (St' := [(.int (f4 ad10 nn de))]) at_201 (hw _ (List.mem_of_getElem? (i := 20) rfl)) (hw _ (List.mem_of_getElem? (i := 21) rfl)) (hw _ (List.mem_of_getElem? (i := 23) rfl)) (hw _ (List.mem_of_getElem? (i := 22) rfl)) (hw _ (List.mem_of_getElem? (i := 4) rfl)) (hw _ (List.mem_of_getElem? (i := 24) rfl)) (by decide) E11 (rm4 l Z a0 hw ad10 nn de h11 n0 F11_numerator F11_denominator) (by decide) (by decide) rfl rfl (by decide) (by decide) rfl pd_2829I rfl rfl rfl (Nat.le_of_ble_eq_true rfl) rfl rfl ?_
      refine OwnW.iload (pc' := 206) at_204 rfl rfl ?_
      refine OwnW.icmpN (pc' := 209) at_206 (feq (own_n2 hnn hc196)).1 rfl ?_
      refine OwnW.iconst (pc' := 210) (v := (1 : Int32)) at_209 rfl rfl ?_
      refine OwnW.goto (pc' := 214) at_210 (by decide) (by decide) ?_
      refine OwnW.istore (pc' := 216) (L' := #[.val (.int p0), .val (.int p1), .val (.int nu), .val (.long sp), .second, .val (.int de), .val (.int dd), .val (.int nn), .val (.ref ad1), .val (.ref ad4), .val (.ref ad7), .val (.ref ad10), .val (.int (f4 ad1 nu de)), .val (.int (1 : Int32))]) at_214 rfl rfl ?_
      refine OwnW.iload (pc' := 218) at_216 rfl rfl ?_
      exact OwnW.retN (t := .boolean) at_218 rfl (by simp) rfl (by decide) (by decide) (rfl)
  ·
    refine OwnW.icmpN (pc' := 171) at_168 (feq hc168).1 rfl ?_
    refine OwnW.aload (pc' := 173) at_171 rfl (rfl) rfl ?_
    have F19 := ((F8_numerator.ext E10).keep K11 (ninS (Nat.ne_of_lt lt_ad7_ad10) nin0))
    have F20 := ((F8_denominator.ext E10).keep K11 (ninS (Nat.ne_of_lt lt_ad7_ad10) nin0))
    have F21 := ((E8.ext E10).keep K11)
    refine OwnW.callV0 (a0 := a0) (pc' := 176) (W := 0) (k' := 4) (n' := 8) (argsL := []) (rest := []) (St' := [(.int (f4 ad7 nu dd))]) at_173 (hw _ (List.mem_of_getElem? (i := 20) rfl)) (hw _ (List.mem_of_getElem? (i := 21) rfl)) (hw _ (List.mem_of_getElem? (i := 23) rfl)) (hw _ (List.mem_of_getElem? (i := 22) rfl)) (hw _ (List.mem_of_getElem? (i := 4) rfl)) (hw _ (List.mem_of_getElem? (i := 24) rfl)) (by decide) F21 (rm4 l Z a0 hw ad7 nu dd h11 n0 F19 F20) (by decide) (by decide) rfl rfl (by decide) (by decide) rfl pd_2829I rfl rfl rfl (Nat.le_of_ble_eq_true rfl) rfl rfl ?_
    refine OwnW.iload (pc' := 178) at_176 rfl rfl ?_
    refine OwnW.icmpN (pc' := 181) at_178 (feq (own_n1 hc168)).1 rfl ?_
    refine OwnW.iconst (pc' := 182) (v := (1 : Int32)) at_181 rfl rfl ?_
    refine OwnW.goto (pc' := 186) at_182 (by decide) (by decide) ?_
    refine OwnW.istore (pc' := 188) (L' := #[.val (.int p0), .val (.int p1), .val (.int nu), .val (.long sp), .second, .val (.int de), .val (.int dd), .val (.int nn), .val (.ref ad1), .val (.ref ad4), .val (.ref ad7), .val (.ref ad10), .val (.int (f4 ad1 nu de)), .val (.int (1 : Int32))]) at_186 rfl rfl ?_
    refine OwnW.iload (pc' := 190) at_188 rfl rfl ?_
    refine OwnW.ifcN (pc' := 193) at_190 ((if0 _ _).trans (feq (by decide)).1) rfl ?_
    refine OwnW.iload (pc' := 195) at_193 rfl rfl ?_
    refine OwnW.iloadN (pc' := 196) at_195 rfl rfl ?_
    by_cases hc196 : nn = nu
    ·
      refine OwnW.icmpY (pc' := 209) at_196 (teq hc196).1 (by decide) (by decide) ?_
      refine OwnW.iconst (pc' := 210) (v := (1 : Int32)) at_209 rfl rfl ?_
      refine OwnW.goto (pc' := 214) at_210 (by decide) (by decide) ?_
      refine OwnW.istore (pc' := 216) (L' := #[.val (.int p0), .val (.int p1), .val (.int nu), .val (.long sp), .second, .val (.int de), .val (.int dd), .val (.int nn), .val (.ref ad1), .val (.ref ad4), .val (.ref ad7), .val (.ref ad10), .val (.int (f4 ad1 nu de)), .val (.int (1 : Int32))]) at_214 rfl rfl ?_
      refine OwnW.iload (pc' := 218) at_216 rfl rfl ?_
      exact OwnW.retN (t := .boolean) at_218 rfl (by simp) rfl (by decide) (by decide) (rfl)
    ·
      refine OwnW.icmpN (pc' := 199) at_196 (feq hc196).1 rfl ?_
      refine OwnW.aload (pc' := 201) at_199 rfl (rfl) rfl ?_
      refine OwnW.callV0 (a0 := a0) (pc' := 204) (W := 0) (k' := 4) (n' := 8) (argsL := []) (rest := []) (St' := [(.int (f4 ad10 nn de))]) at_201 (hw _ (List.mem_of_getElem? (i := 20) rfl)) (hw _ (List.mem_of_getElem? (i := 21) rfl)) (hw _ (List.mem_of_getElem? (i := 23) rfl)) (hw _ (List.mem_of_getElem? (i := 22) rfl)) (hw _ (List.mem_of_getElem? (i := 4) rfl)) (hw _ (List.mem_of_getElem? (i := 24) rfl)) (by decide) E11 (rm4 l Z a0 hw ad10 nn de h11 n0 F11_numerator F11_denominator) (by decide) (by decide) rfl rfl (by decide) (by decide) rfl pd_2829I rfl rfl rfl (Nat.le_of_ble_eq_true rfl) rfl rfl ?_
      refine OwnW.iload (pc' := 206) at_204 rfl rfl ?_
      refine OwnW.icmpN (pc' := 209) at_206 (feq (own_n2 hnn hc196)).1 rfl ?_
      refine OwnW.iconst (pc' := 210) (v := (1 : Int32)) at_209 rfl rfl ?_
      refine OwnW.goto (pc' := 214) at_210 (by decide) (by decide) ?_
      refine OwnW.istore (pc' := 216) (L' := #[.val (.int p0), .val (.int p1), .val (.int nu), .val (.long sp), .second, .val (.int de), .val (.int dd), .val (.int nn), .val (.ref ad1), .val (.ref ad4), .val (.ref ad7), .val (.ref ad10), .val (.int (f4 ad1 nu de)), .val (.int (1 : Int32))]) at_214 rfl rfl ?_
      refine OwnW.iload (pc' := 218) at_216 rfl rfl ?_
      exact OwnW.retN (t := .boolean) at_218 rfl (by simp) rfl (by decide) (by decide) (rfl)
set_option maxRecDepth 65536 in
set_option maxHeartbeats 400000000 in
theorem comes_1 {Post : Tables → Env → Array Value → State → Outcome → State → Prop} (hpost : ∀ tb e args s v u, (limb_1_1.after args s (.returned v) u = true ∧ limb_1_2.after args s (.returned v) u = true ∧ True) → FrameEnd s (.returned v) u (Jvm.fieldLocs frame_1_writes args s ++ Jvm.arrayLocs frame_1_arrays args s ++ Jvm.staticLocs frame_1_statics s) 16 128 → Post tb e args s (.returned v) u) :
    ArmFor flags0 classFile x code maxLocals ret World_1 tables_1 room_1 Calls_1 rest_1 Pre_1 Post := by
  intro l hfl _ _ p e ha hc hk s m args below hf hA hF happ hP
  obtain ⟨hcalls, hrest, hpre⟩ := hP
  obtain ⟨-, -, -, hnamed, -, -, -, hat⟩ := (Spec.applies_iff hf).mp happ
  obtain ⟨hg, hn⟩ := and_e (Cond.before_iff.mp (show (Jvm.Cond.and given_1 narrow_1).before args s = true from hpre))
  obtain ⟨hcount, hr0⟩ := and_e hg
  obtain ⟨w0, w1, rfl⟩ : ∃ w0 w1 : Value, args = #[w0, w1] := by
    have hs : args.size = 2 := by simpa [Cond.value, given_1] using hcount
    obtain ⟨L⟩ := args
    match L, hs with
    | [w0, w1], _ => exact ⟨w0, w1, rfl⟩
  have hw := fun d (hd : d ∈ tables_1) => atoms_spec (ws := Jvm.Cond.code x code maxLocals ret :: tables_1) hat d (List.mem_cons_of_mem _ hd)
  have hfit : Fit s := fun {y c} hc i hi => by
    obtain ⟨ha, rfl⟩ := Array.getElem?_eq_some_iff.mp hc
    have q := List.all_eq_true.mp ((Array.all_eq_true_iff_forall_mem.mp hF) _ (Array.getElem_mem ha)) i (List.mem_range.mpr hi)
    simpa [Array.getElem?_eq_getElem hi] using q
  obtain ⟨hq0, hr1⟩ := and_e hr0
  obtain ⟨i0, ei0⟩ := is_v hq0
  obtain rfl : w0 = (.int i0) := Option.some.inj ei0
  obtain ⟨i1, ei1⟩ := is_v hr1
  obtain rfl : w1 = (.int i1) := Option.some.inj ei1
  obtain ⟨n, o, h1, h2, h3, _, L, rfl, ⟨rfl, N⟩, hq⟩ := rm0 l s _ hw i0 i1 s.heap s.heap.size (Nat.le_refl _) tables_1 p e ha hc hk s m _ below hf ((Spec.applies_iff_loose hf).mp happ).1 ⟨rfl, State.Warmed39.refl s, rfl⟩ trivial
  refine ⟨n, _, h1, h2, h3, hpost _ _ _ _ _ _ ⟨Cond.after_iff.mpr rfl, Cond.after_iff.mpr (eq_i res_at (Term.int_eval (1)) rfl), trivial⟩ ⟨hq.1, hq.2.1, (hq.2.2.sift fun y hy => Or.inr (N y hy)).mono (by decide) (by decide)⟩⟩
theorem main_1_1 : Claimed_1_1 := comes_1 fun _ _ _ _ _ _ h hF => ⟨h.1, hF⟩
theorem main_1_2 : Claimed_1_2 := comes_1 fun _ _ _ _ _ _ h hF => ⟨h.2.1, hF⟩
end Jvm.Pilot.@@N@@
namespace Jvm.Pilot.@@N@@
open Jvm Jvm.ClassFile Sem Op Lib Jvm.Free Jvm.Stand Jvm.Pilot.@@N@@.Jvm.D
/-! MADE BY PROGRAM (witnessworld.py) out of the Statement's table words and the real class files: 10 classes; the members and pool entries that the words name. The judged class is class 1, her method 1. -/
namespace start1
open Jvm.ClassFile
def u (s : String) : CpInfo := .utf8 (stringToUtf16 s)
/-- a pool by its gaps: so many unusable entries, then the entry; so many at the end -/
def gap : Nat → List CpInfo → List CpInfo
  | 0, r => r
  | n + 1, r => .unusable :: gap n r
def poolList (es : List (Nat × CpInfo)) (last : Nat) : List CpInfo := es.foldr (fun e r => gap e.1 (e.2 :: r)) (gap last [])
def pool (es : List (Nat × CpInfo)) (last : Nat) : Array CpInfo := ⟨poolList es last⟩
def fileOf (pool : Array CpInfo) (this : Nat) (attrs : Array Attribute := #[]) (ms : Array MethodInfo := #[]) (fl : Nat := 33) (sup : Nat := 0) (ifs : Array Nat := #[]) (fds : Array FieldInfo := #[]) : ClassFile where
  minorVersion := 0
  majorVersion := 65
  constantPool := pool
  accessFlags := fl
  thisClass := this
  superClass := sup
  interfaces := ifs
  fields := fds
  methods := ms
  attributes := attrs
def plain (name : String) (sup : Option ClassId) : Class where
  name := name
  kind := .ordinary
  loader := none
  accessFlags := 33
  super := sup
  interfaces := #[]
  cf := none
  fields := #[]
  methods := #[]
  instanceTypes := #[]
  staticTypes := #[]
  resolved := #[]
  callSites := []
  init := .initialized
  statics := none
  mirror := none

def pool0 : Array CpInfo := pool [(5, u "<init>"), (0, u "()V"), (1, .class_ 10), (1, u "java/lang/Object")] 113

def k0c0 : Code := { maxStack := 0, maxLocals := 1, code := object_method_1_code, exceptionTable := #[], attributes := #[] }
def k0m0 : Method := { name := "<init>", desc := "()V", sig := { parameters := [], returnType := none }, accessFlags := 1, code := some k0c0 }
/-- java/lang/Object -/
def k0 : Class := { plain "java/lang/Object" none with
  accessFlags := 33
  interfaces := #[]
  cf := some (fileOf pool0 8 #[] #[{ accessFlags := 1, nameIndex := 5, descriptorIndex := 6, attributes := #[] }] 33 0 #[] #[])
  fields := #[]
  methods := #[k0m0]
  instanceTypes := #[]
  staticTypes := #[]
  resolved := Array.replicate 124 none
  statics := none }

def pool1 : Array CpInfo := pool [(2, .class_ 4), (1, u "java/lang/Object"), (0, u "<init>"), (0, u "()V"), (0, .integer 2147483647), (0, .long 2147483647), (3, .class_ 13), (0, u "com/example/paystage/paystage/Fraction"), (0, .methodref 12 15), (0, .nameAndType 5 16), (0, u "(II)V"), (0, .methodref 12 18), (0, .nameAndType 19 20), (0, u "hashCode"), (0, u "()I"), (0, .methodref 12 22), (0, .nameAndType 23 24), (0, u "equals"), (0, u "(Ljava/lang/Object;)Z"), (0, .class_ 26), (0, u "com/example/paystage/paystage/FractionHashCodePinLaw"), (2, u "law"), (0, u "(II)Z")] 3

def k1m0 : Method := { name := "<init>", desc := "()V", sig := { parameters := [], returnType := none }, accessFlags := 1, code := none }
def k1c1 : Code := { maxStack := 6, maxLocals := 14, code := code, exceptionTable := #[], attributes := #[] }
def k1m1 : Method := { name := "law", desc := "(II)Z", sig := { parameters := [.int, .int], returnType := some .boolean }, accessFlags := 9, code := some k1c1 }
/-- com/example/paystage/paystage/FractionHashCodePinLaw -/
def k1 : Class := { plain "com/example/paystage/paystage/FractionHashCodePinLaw" (some 0) with
  accessFlags := 49
  interfaces := #[]
  cf := some (fileOf pool1 25 #[] #[{ accessFlags := 1, nameIndex := 5, descriptorIndex := 6, attributes := #[] }, { accessFlags := 9, nameIndex := 29, descriptorIndex := 30, attributes := #[] }] 49 2 #[] #[])
  fields := #[]
  methods := #[k1m0, k1m1]
  instanceTypes := #[]
  staticTypes := #[]
  resolved := Array.replicate 34 none
  statics := none }

def pool2 : Array CpInfo := pool [(1, .methodref 2 3), (0, .class_ 4), (0, .nameAndType 5 6), (0, u "java/lang/Object"), (0, u "<init>"), (0, u "()V"), (0, .class_ 8), (0, u "java/lang/Record")] 13

def k2c0 : Code := { maxStack := 1, maxLocals := 1, code := jdk_30_method_1_code, exceptionTable := #[], attributes := #[] }
def k2m0 : Method := { name := "<init>", desc := "()V", sig := { parameters := [], returnType := none }, accessFlags := 4, code := some k2c0 }
/-- java/lang/Record -/
def k2 : Class := { plain "java/lang/Record" (some 0) with
  accessFlags := 1057
  interfaces := #[]
  cf := some (fileOf pool2 7 #[] #[{ accessFlags := 4, nameIndex := 5, descriptorIndex := 6, attributes := #[] }] 1057 2 #[] #[])
  fields := #[]
  methods := #[k2m0]
  instanceTypes := #[]
  staticTypes := #[]
  resolved := Array.replicate 22 none
  statics := none }

def pool3 : Array CpInfo := pool [(1, .methodref 2 3), (0, .class_ 4), (0, .nameAndType 5 6), (0, u "java/lang/Record"), (0, u "<init>"), (0, u "()V"), (9, .fieldref 17 18), (0, .class_ 19), (0, .nameAndType 20 21), (0, u "com/example/paystage/paystage/Fraction"), (0, u "numerator"), (0, u "I"), (0, .fieldref 17 23), (0, .nameAndType 24 21), (0, u "denominator"), (2, u "WRITTEN"), (0, u "Ljava/util/regex/Pattern;"), (27, u "(II)V"), (27, u "PLACES"), (9, u "equals"), (0, u "(Ljava/lang/Object;)Z"), (0, u "hashCode"), (0, u "()I")] 25

def k3c0 : Code := { maxStack := 4, maxLocals := 3, code := prog_30_method_1_code, exceptionTable := #[], attributes := #[] }
def k3m0 : Method := { name := "<init>", desc := "(II)V", sig := { parameters := [.int, .int], returnType := none }, accessFlags := 1, code := some k3c0 }
def k3c1 : Code := { maxStack := 2, maxLocals := 3, code := prog_30_method_4_code, exceptionTable := #[], attributes := #[] }
def k3m1 : Method := { name := "equals", desc := "(Ljava/lang/Object;)Z", sig := { parameters := [(.object "java/lang/Object")], returnType := some .boolean }, accessFlags := 1, code := some k3c1 }
def k3c2 : Code := { maxStack := 2, maxLocals := 1, code := prog_30_method_5_code, exceptionTable := #[], attributes := #[] }
def k3m2 : Method := { name := "hashCode", desc := "()I", sig := { parameters := [], returnType := some .int }, accessFlags := 1, code := some k3c2 }
/-- com/example/paystage/paystage/Fraction -/
def k3 : Class := { plain "com/example/paystage/paystage/Fraction" (some 2) with
  accessFlags := 49
  interfaces := #[]
  cf := some (fileOf pool3 17 #[] #[{ accessFlags := 1, nameIndex := 5, descriptorIndex := 56, attributes := #[] }, { accessFlags := 1, nameIndex := 94, descriptorIndex := 95, attributes := #[] }, { accessFlags := 1, nameIndex := 96, descriptorIndex := 97, attributes := #[] }] 49 2 #[] #[{ accessFlags := 18, nameIndex := 20, descriptorIndex := 21, attributes := #[] }, { accessFlags := 18, nameIndex := 24, descriptorIndex := 21, attributes := #[] }, { accessFlags := 26, nameIndex := 84, descriptorIndex := 21, attributes := #[] }, { accessFlags := 26, nameIndex := 27, descriptorIndex := 28, attributes := #[] }])
  fields := #[{ name := "numerator", type := .int, accessFlags := 18, slot := 0, constantValue := 0 }, { name := "denominator", type := .int, accessFlags := 18, slot := 1, constantValue := 0 }, { name := "PLACES", type := .int, accessFlags := 26, slot := 0, constantValue := 0 }, { name := "WRITTEN", type := (.object "java/util/regex/Pattern"), accessFlags := 26, slot := 1, constantValue := 0 }]
  methods := #[k3m0, k3m1, k3m2]
  instanceTypes := #[.int, .int]
  staticTypes := #[.int, (.object "java/util/regex/Pattern")]
  resolved := Array.replicate 123 none
  statics := none }

def pool4 : Array CpInfo := pool [(1, u "java/lang/Cloneable"), (0, .class_ 1), (0, u "java/lang/Object"), (0, .class_ 3)] 3

/-- java/lang/Cloneable -/
def k4 : Class := { plain "java/lang/Cloneable" (some 0) with
  accessFlags := 1537
  interfaces := #[]
  cf := some (fileOf pool4 2 #[] #[] 1537 4 #[] #[])
  fields := #[]
  methods := #[]
  instanceTypes := #[]
  staticTypes := #[]
  resolved := Array.replicate 8 none
  statics := none }

def pool5 : Array CpInfo := pool [(1, u "java/io/Serializable"), (0, .class_ 1), (0, u "java/lang/Object"), (0, .class_ 3)] 3

/-- java/io/Serializable -/
def k5 : Class := { plain "java/io/Serializable" (some 0) with
  accessFlags := 1537
  interfaces := #[]
  cf := some (fileOf pool5 2 #[] #[] 1537 4 #[] #[])
  fields := #[]
  methods := #[]
  instanceTypes := #[]
  staticTypes := #[]
  resolved := Array.replicate 8 none
  statics := none }

/-- the primitive byte -/
def k6 : Class := { plain "byte" none with kind := .primitive 'B', accessFlags := 0x411 }
/-- [B -/
def k7 : Class := { plain "[B" (some 0) with kind := .array 6 .byte, interfaces := #[4, 5], accessFlags := 1041 }

/-- the primitive int -/
def k8 : Class := { plain "int" none with kind := .primitive 'I', accessFlags := 0x411 }
/-- [I -/
def k9 : Class := { plain "[I" (some 0) with kind := .array 8 .int, interfaces := #[4, 5], accessFlags := 1041 }

def heap : Heap := #[]
def classes : Array Class := #[k0, k1, k2, k3, k4, k5, k6, k7, k8, k9]
def interned : List (Array UInt16 × Addr) := []
def slotsUsed : Nat := 0
def theMethod : MethodId := ⟨1, 1⟩
def args0 : Array Value := #[.int 5, .int 5]
def aboutOver (below : List Frame) : State where
  vm := { classes := classes, interned := interned.toArray }
  heap := heap
  slotsUsed := slotsUsed
  threads := #[{ frames := .invoking theMethod args0 :: below }]
def below0 : List Frame := [.native { method := ⟨0, 0⟩, args := #[] }]
def about1 : State := aboutOver below0
def p0 : Program := .bare "" "" ""
def e0 : Env := launch0.env 0 0 0
theorem w_frames : about1.frames = Frame.invoking theMethod args0 :: below0 := rfl
set_option maxRecDepth 65536 in
theorem w_args : argsFit about1.vm theMethod args0 = true := by decide +kernel
set_option maxRecDepth 65536 in
theorem w_heap : heapFits about1 = true := by decide +kernel
set_option maxRecDepth 65536 in
theorem w_runnable : about1.curStatus? = some .runnable := by decide +kernel
set_option maxRecDepth 65536 in
theorem w_alone : about1.alone = true := by decide +kernel
set_option maxRecDepth 65536 in
theorem w_named : about1.methodNamed? x = some theMethod := by decide +kernel
set_option maxRecDepth 65536 in
theorem w_hears : about1.hears theMethod below0 = true := by decide +kernel
set_option maxRecDepth 65536 in
theorem w_ripe : about1.ripe theMethod args0 below0 = true := by decide +kernel
theorem w_running : about1.status = .running := rfl
set_option maxRecDepth 65536 in
theorem w_room : about1.hasRoom e0.platform room_1 = true :=
  launch0.hasRoom_least _ room_1 (by decide +kernel) (by decide +kernel) (by decide +kernel) (by decide +kernel) (by decide +kernel) (by decide +kernel)
theorem allAtoms_all (ts : List Jvm.Cond) (a : Array Jvm.Value) (st : Jvm.State) : (allAtoms ts).before a st = ts.all (fun c => c.before a st) := by
  induction ts with
  | nil => rfl
  | cons c t ih =>
    show (Jvm.Cond.and c (allAtoms t)).before a st = _
    rw [Jvm.Cond.before_and, ih, List.all_cons]
def words1 : List Jvm.Cond := Jvm.Cond.code x code maxLocals ret :: tables_1
/-- a 'code' word, met by the world's own term for the bytes: nothing is compared byte by byte -/
theorem code_word {y : MethodName} {bytes : ByteArray} {mx : Nat} {rt : Option FieldType} {a : Array Value} {s : State} {m : MethodId} {meth : Method} {c : Code} (h1 : s.methodNamed? y = some m) (h2 : s.vm.method? m = some meth) (h3 : meth.code = some c) (h4 : c.code = bytes)
    (h5 : (c.maxLocals == mx && c.exceptionTable.isEmpty && decide (c.maxStack ≤ mostOperands) && decide (meth.sig.returnType = rt) && !meth.locks && decide (parseMethodDescriptor y.desc = some meth.sig)) = true) : (Jvm.Cond.code y bytes mx rt).before a s = true := by
  simp only [Bool.and_eq_true, beq_iff_eq, Bool.not_eq_true', decide_eq_true_eq] at h5
  obtain ⟨⟨⟨⟨⟨g1, g2⟩, g3⟩, g4⟩, g5⟩, g6⟩ := h5
  simp [Cond.before, Cond.holds, Cond.value, h1, h2, h3, h4, g1, g2, g3, g4, g5, g6]
def isCode : Jvm.Cond → Bool
  | .code _ _ _ _ => true
  | _ => false
theorem all_split {L : List Jvm.Cond} {P : Jvm.Cond → Bool} (h1 : L.all (fun c => isCode c || P c) = true) (h2 : ∀ c ∈ L.filter isCode, P c = true) : L.all P = true := by
  refine List.all_eq_true.mpr fun c hc => ?_
  have h := List.all_eq_true.mp h1 c hc
  rcases Bool.eq_false_or_eq_true (isCode c) with hi | hi
  · exact h2 c (List.mem_filter.mpr ⟨hc, hi⟩)
  · simpa [hi] using h
set_option maxRecDepth 65536 in
theorem w_c0 : (Jvm.Cond.code x code maxLocals ret).before args0 about1 = true := code_word (m := ⟨1, 1⟩) (meth := k1m1) (c := k1c1) (by decide +kernel) rfl rfl rfl (by decide +kernel)
set_option maxRecDepth 65536 in
theorem w_c1 : (Jvm.Cond.code ({ cls := "com/example/paystage/paystage/Fraction", name := "<init>", desc := "(II)V" } : Jvm.MethodName) prog_30_method_1_code (3 : Nat) (Option.none : Option Jvm.ClassFile.FieldType)).before args0 about1 = true := code_word (m := ⟨3, 0⟩) (meth := k3m0) (c := k3c0) (by decide +kernel) rfl rfl rfl (by decide +kernel)
set_option maxRecDepth 65536 in
theorem w_c2 : (Jvm.Cond.code ({ cls := "java/lang/Record", name := "<init>", desc := "()V" } : Jvm.MethodName) jdk_30_method_1_code (1 : Nat) (Option.none : Option Jvm.ClassFile.FieldType)).before args0 about1 = true := code_word (m := ⟨2, 0⟩) (meth := k2m0) (c := k2c0) (by decide +kernel) rfl rfl rfl (by decide +kernel)
set_option maxRecDepth 65536 in
theorem w_c3 : (Jvm.Cond.code ({ cls := "java/lang/Object", name := "<init>", desc := "()V" } : Jvm.MethodName) object_method_1_code (1 : Nat) (Option.none : Option Jvm.ClassFile.FieldType)).before args0 about1 = true := code_word (m := ⟨0, 0⟩) (meth := k0m0) (c := k0c0) (by decide +kernel) rfl rfl rfl (by decide +kernel)
set_option maxRecDepth 65536 in
theorem w_c4 : (Jvm.Cond.code ({ cls := "com/example/paystage/paystage/Fraction", name := "hashCode", desc := "()I" } : Jvm.MethodName) prog_30_method_5_code (1 : Nat) (Option.some Jvm.ClassFile.FieldType.int)).before args0 about1 = true := code_word (m := ⟨3, 2⟩) (meth := k3m2) (c := k3c2) (by decide +kernel) rfl rfl rfl (by decide +kernel)
set_option maxRecDepth 65536 in
theorem w_c5 : (Jvm.Cond.code ({ cls := "com/example/paystage/paystage/Fraction", name := "equals", desc := "(Ljava/lang/Object;)Z" } : Jvm.MethodName) prog_30_method_4_code (3 : Nat) (Option.some Jvm.ClassFile.FieldType.boolean)).before args0 about1 = true := code_word (m := ⟨3, 1⟩) (meth := k3m1) (c := k3c1) (by decide +kernel) rfl rfl rfl (by decide +kernel)
def codes1 : List Jvm.Cond := [Jvm.Cond.code x code maxLocals ret, Jvm.Cond.code ({ cls := "com/example/paystage/paystage/Fraction", name := "<init>", desc := "(II)V" } : Jvm.MethodName) prog_30_method_1_code (3 : Nat) (Option.none : Option Jvm.ClassFile.FieldType), Jvm.Cond.code ({ cls := "java/lang/Record", name := "<init>", desc := "()V" } : Jvm.MethodName) jdk_30_method_1_code (1 : Nat) (Option.none : Option Jvm.ClassFile.FieldType), Jvm.Cond.code ({ cls := "java/lang/Object", name := "<init>", desc := "()V" } : Jvm.MethodName) object_method_1_code (1 : Nat) (Option.none : Option Jvm.ClassFile.FieldType), Jvm.Cond.code ({ cls := "com/example/paystage/paystage/Fraction", name := "hashCode", desc := "()I" } : Jvm.MethodName) prog_30_method_5_code (1 : Nat) (Option.some Jvm.ClassFile.FieldType.int), Jvm.Cond.code ({ cls := "com/example/paystage/paystage/Fraction", name := "equals", desc := "(Ljava/lang/Object;)Z" } : Jvm.MethodName) prog_30_method_4_code (3 : Nat) (Option.some Jvm.ClassFile.FieldType.boolean)]
set_option maxRecDepth 65536 in
theorem codes_eq : words1.filter isCode = codes1 := rfl
theorem w_codes : ∀ c ∈ words1.filter isCode, c.before args0 about1 = true := by
  rw [codes_eq]
  intro c hc
  simp only [codes1, List.mem_cons, List.not_mem_nil, or_false] at hc
  rcases hc with rfl | rfl | rfl | rfl | rfl | rfl
  · exact w_c0
  · exact w_c1
  · exact w_c2
  · exact w_c3
  · exact w_c4
  · exact w_c5
set_option maxRecDepth 65536 in
theorem w_t1 : (words1.take 24).all (fun c => isCode c || c.before args0 about1) = true := by decide +kernel
set_option maxRecDepth 65536 in
theorem w_t2 : (words1.drop 24).all (fun c => isCode c || c.before args0 about1) = true := by decide +kernel
theorem w_tables : (allAtoms (Jvm.Cond.code x code maxLocals ret :: tables_1)).before args0 about1 = true := by
  rw [allAtoms_all]
  show words1.all (fun c => c.before args0 about1) = true
  refine all_split ?_ w_codes
  rw [← List.take_append_drop 24 words1, List.all_append, w_t1, w_t2]
  rfl
set_option maxRecDepth 65536 in
theorem w_case : (Jvm.Cond.and given_1 narrow_1).before args0 about1 = true := by decide +kernel
theorem w_applies : (headSpec (Jvm.Cond.code x code maxLocals ret :: tables_1) room_1).applies x e0.platform about1 = true :=
  (Spec.applies_iff w_frames).mpr ⟨w_running, w_runnable, w_alone, w_named, w_hears, w_ripe, w_room, w_tables⟩
theorem atStart : AtStart classFile x code maxLocals ret World_1 tables_1 room_1 Calls_1 rest_1 Pre_1 launch0 p0 e0 about1 theMethod args0 below0 :=
  ⟨lists_1, trivial, launch0.admits_env _ _ _, launch0.least_env, fairChoices_fair.cas, fairChoices_fair.clock, w_frames, w_args, w_heap, w_applies, trivial, trivial, w_case⟩
end start1
theorem witness_1 : WitnessClaimed_1 := ⟨start1.p0, start1.e0, start1.about1, start1.theMethod, start1.args0, start1.below0, start1.atStart⟩
end Jvm.Pilot.@@N@@
